import PyProof.Rows.All
import PyProof.TupleIter
import PyProof.OldK
import PyProof.StrLoop
import PyProof.StrWalks
import PyProof.CompFree
import PyProof.DictIter
import PyProof.DictItems
import PyProof.DictWalks
import PyProof.EnumIter
import PyProof.EnumFor
import PyProof.EnumMake
import PyProof.ExcAttrAll.IndexError
import PyProof.WalksMore
import PyProof.RangeFor
import PyProof.LayNew
import PyProof.Rows.CatchTuple
import Open.Boot
import Open.Tree
import OpenK.KRaise
import KE.KLam
import OpenK.XOpen
import Wide.FinOn
import OpenK.AllK
import Wide.All
import Lean
import PySem.Challenge.RW_qb0004_07
open PySem renaming Value→gG,wpAny_bind→gH,Shared→gJ,wpAny→gL,wpAny_pure→gO,Around→g6,Scope→hU,PyData→hY,model→iJ,rawInt→iZ,cLine→i',World→jb,wpAny_mono→jg,wpAny_holding→jt,wpAny_ite_false→jx,wpAny_standAt→ky,DictEntry→kJ,Program→lg,wpAny_call_entry→l7,Reads→mD,wpAny_newObj_type→mY,sysModules→nA,wpAny_field→oI,mainGlobals→pd,wpAny_callSpecial?_slot→pU,ReadsAll→sN,wpAny_rule→sO,wpAny_setField_rec→tF,wpAny_ite_true→vE,wpAny_dictEntries→vF,wpAny_dictEpoch→wV,wpAny_ite_split→Ap
open PySem.Str renaming ofString→gM
open Option.some renaming inj→gP
open Bool renaming rec→gT,noConfusion→gU,false_ne_true→jD,and_eq_true_iff→lJ,and_eq_true→n5
open Option renaming rec→hG,map_eq_some_iff→pW,bind_eq_some_iff→tH,some_ne_none→Aq
open List renaming mem_cons_of_mem→hO,mem_cons_self→hW,not_mem_nil→iA,mem_cons→iL,mem_singleton→jc,length_append→jm,length_map→ke,all_eq_true→kf,map_cons→lI,lookup_cons→mG,length_cons→mZ,append_nil→nB,mem_append→nD,getD_eq_getElem?_getD→oJ,getElem?_eq_getElem→pV,mem_append_right→rP,forall_mem_cons→sP,getElem?_map→sQ,append_assoc→tG,mem_append_left→Ht
open Nat renaming le_trans→ia,beq→ie,ble→iS,le_refl→i8,lt_irrefl→jQ,zero_le→kg,le_of_ble_eq_true→kT,le_add_right→lK,succ_le_succ→mn,eq_of_beq_eq_true→mH,log2→m2,add_le_add→nE,le_succ→nF,lt_of_le_of_lt→n6,le_of_eq→pe,lt_succ_self→Ar
open PySem.Value renaming type→ig
open PySem.Heap renaming SameBut→i0,get?_push_of_some→ja,get?_push_size→j7,lt_size→mF,get?_update_self→vG
open Array renaming length_toList→jM,getElem?_toList→n7,toList_append→vH
noncomputable section
set_option maxRecDepth 100000
set_option tactic.hygienic false
set_option linter.all false
set_option Elab.async false
set_option bootstrap.genMatcherCode false
set_option genSizeOf false
set_option maxHeartbeats 0
namespace Mini.Internal
open PySem PySem.W PyProof.Rows
noncomputable abbrev lj:=PySem.Challenge.rw_qb0004_07
theorem QE:namesResolve lj.row.prog=true:=by kernel_rfl
theorem QF:(namesMeet lj.row.prog lj.row.prog.main.body λ_ n=>attrL n)=true:=by kernel_rfl
theorem QG:readsOut lj.row.prog lj.row.prog.main.body "vars"=false:=by kernel_rfl
theorem QH:readsOut lj.row.prog lj.row.prog.main.body "dir"=false:=by kernel_rfl
theorem QI:readsOut lj.row.prog lj.row.prog.main.body "locals"=false:=by kernel_rfl
theorem QJ:looksOpen lj.row.prog=true:=by
 have e:(["vars","dir","locals"]:List PySem.Str).filter (readsOut lj.row.prog lj.row.prog.main.body)=[]:=by
  rw[List.filter_cons,QG,List.filter_cons,QH,List.filter_cons,QI];rfl
 unfold looksOpen;rw[QE,QF,e]
 kernel_rfl
theorem QK:lj.row.wellSaid=true:=by
 unfold OpenRow.wellSaid OpenRow.partSaid;rw[QJ]
 kernel_rfl
theorem QL:OpenLaw.wellSaid lj=true:=by
 unfold OpenLaw.wellSaid;rw[QK]
 kernel_rfl
end Mini.Internal
namespace Mini.Internal
section
def iT(l:List Nat):Nat:=List.rec (motive:=λU=>Nat→Nat) (λa=>a) (λc U ih a=>ih (Nat.add (Nat.mul a 2097152) c)) l 1
def vI(f:Nat):Nat→List Nat→List Nat:=
 Nat.rec (motive:=λU=>Nat→List Nat→List Nat) (λU acc=>acc) (λU ih n acc=>gT (ih (Nat.div n 2097152) (Nat.mod n 2097152::acc)) acc (iS n 1)) f
def dec(n:Nat):List Nat:=vI (m2 n) n []
inductive Ad where
 |h
 |o (p:Ad)
 |i (p:Ad)
def Ad.succ(p:Ad):Ad:=Ad.rec (.o .h) (λp U=>.i p) (λU ih=>.o ih) p
inductive AV where
 |none
 |bool (b:Bool)
 |int (i:Int)
 |str (n:Nat)
 |ref (a:Ad)
inductive BT(β:Type)where
 |nil
 |node (v:Option β) (l r:BT β)
def BT.get{β:Type}(t:BT β):Ad→Option β:=BT.rec (motive:=λU=>Ad→Option β) (λU=>.none) (λv U U ihl ihr p=>Ad.rec v (λq U=>ihl q) (λq U=>ihr q) p) t
def BT.one{β:Type}(o:β)(p:Ad):BT β:=Ad.rec (.node (some o) .nil .nil) (λU ih=>.node .none ih .nil) (λU ih=>.node .none .nil ih) p
def BT.set{β:Type}(t:BT β)(p:Ad)(o:β):BT β:=BT.rec (motive:=λU=>Ad→BT β) (λp=>BT.one o p) (λv l r ihl ihr p=>Ad.rec (.node (some o) l r) (λq U=>.node v (ihl q) r) (λq U=>.node v l (ihr q)) p) t p
abbrev Loc:=BT AV
inductive gY where
 |list (xs:List AV)
 |tuple (xs:List AV)
 |dict (es:List (Nat×AV×AV))
 |set (es:List Nat)
 |inst (c n:Nat) (fs:BT AV)
 |aux
 |fn (k:Nat) (κ:List (Ad×Ad))
 |cell (v:Option AV)
 |tab (ks:List Nat)
 |jH
structure gI where
 n:Ad
 t:BT gY
def gI.get(σ:gI)(a:Ad):Option gY:=σ.t.get a
def gI.set(σ:gI)(a:Ad)(o:gY):gI:=⟨σ.n,σ.t.set a o⟩
def gI.push(σ:gI)(o:gY):gI:=⟨σ.n.succ,σ.t.set σ.n o⟩
inductive Exc where|key|idx
inductive R(α:Type)where
 |ok (a:α) (σ:gI)
 |exc (x:Exc) (σ:gI)
 |stuck (w:Nat)
def R.bind{α β:Type}(r:R α)(f:α→gI→R β):R β:=R.rec f (λx σ=>.exc x σ) (λw=>.stuck w) r
def go{α β:Type}(o:Option α)(w:Nat)(f:α→R β):R β:=hG (.stuck w) f o
abbrev gX:=List (Ad×Ad)
inductive RS where
 |next(ρ:Loc) (σ:gI)
 |brk (ρ:Loc) (σ:gI)
 |cont (ρ:Loc) (σ:gI)
 |ret (v:AV) (σ:gI)
 |stuck (w:Nat)
def R.run{α:Type}(r:R α)(f:α→gI→RS):RS:=R.rec f (λU U=>.stuck 1) (λw=>.stuck w) r
inductive BI where|len|all|tuple|list|min|max|set
inductive Op where|add|sub|mod
inductive Cp where|eq|ne|lt|le|gt|ge|Hu|Hv|As|Au
set_option genCtorIdx false
set_option genInjectivity false
mutual
inductive IE where
 |«const» (v_:AV)
 |«loc» (x_:Ad)
 |xC (x_:Ad)
 |«attr» (e_:IE) (x_:Ad)
 |«sub» (e_:IE) (i_:IE)
 |«slA» (e_:IE)
 |Ff (e_:IE) (a_:IE)
 |Nd (e_:IE) (b_:IE)
 |Fe (k_:Nat) (kK:i9)
 |«callC» (k_:Nat) (kK:i9)
 |me (b_:BI) (kK:i9)
 |rT (e_:IE) (kK:i9)
 |Fd (e_:IE) (m_:Nat) (kK:i9)
 |«bin» (nG:Op) (a_:IE) (b_:IE)
 |«neg» (a_:IE)
 |«not» (a_:IE)
 |«cmp» (nG:Cp) (a_:IE) (b_:IE)
 |«and» (a_:IE) (b_:IE)
 |«or» (a_:IE) (b_:IE)
 |«ite» (c_:IE) (a_:IE) (b_:IE)
 |«list» (pX:i9)
 |«tuple» (pX:i9)
 |«dict» (pX:i9)
 |«conv» (e_:IE)
 |aeH (e_:IE) (r_:IE)
 |aeI (r_:IE)
 |Nc (e_:IE) (t_:IT) (vJ:II) (c_:IE) (pY:List Ad)
 |«lam» (k_:Nat) (vK:Ad) (vL:Nat) (pY:List Ad)
inductive i9 where
 |«nil»
 |«cons» (e_:IE) (l_:i9)
inductive IT where
 |«loc» (x_:Ad)
 |xC (x_:Ad)
 |«attr» (e_:IE) (x_:Ad)
 |«sub» (e_:IE) (i_:IE)
 |«tup» (l_:rQ) (n_:Nat)
inductive rQ where
 |«nil»
 |«cons» (t_:IT) (l_:rQ)
inductive II where
 |«val» (e_:IE)
 |«range» (kK:i9)
 |«enum» (e_:IE)
 |«items» (e_:IE)
inductive IS where
 |«expr» (e_:IE)
 |«assign» (t_:IT) (e_:IE)
 |Nf (x_:Ad) (nG:Op) (e_:IE)
 |aeJ (o_:IE) (x_:Ad) (nG:Op) (e_:IE)
 |«ite» (c_:IE) (b_:g7) (o_:g7)
 |«while» (c_:IE) (b_:g7) (o_:g7)
 |«for» (t_:IT) (vJ:II) (b_:g7) (o_:g7)
 |«ret» (e_:IE)
 |«brk»
 |«cont»
 |«pass»
 |aeL (e_:IE) (vM:Bool) (vN:Bool) (h_:g7)
 |aeK (t_:IT) (e_:IE) (vM:Bool) (vN:Bool) (h_:g7)
 |aeM (t_:IT) (k_:Nat) (vK:Ad) (vL:Nat) (pY:List Ad)
 |«bad» (w_:Nat)
inductive g7 where
 |«nil»
 |«cons» (s_:IS) (l_:g7)
end
structure FD where
 id:Nat
 name:Nat
 params:List Ad
 nH:List AV
 cells:List Ad
 body:g7
structure jE where
 m3:List (Nat×FD)
 cls:List (Nat×BT AV×List (Nat×FD))
 nested:List FD
 xs:Option (List AV)
structure KE where
 P:jE
 N:Nat
 call:FD→gX→List AV→gI→R AV
set_option genCtorIdx true in
inductive It where
 |vals (xs:List AV)
 |list (a:Ad) (i:Nat)
 |tup (a:Ad) (i:Nat)
 |enum (a:Ad) (i:Nat)
 |m6 (a:Ad) (i:Nat)
 |keys (a:Ad) (i n:Nat)
 |items (a:Ad) (i n:Nat)
abbrev VE:=KE→Loc→gX→gI→R AV
abbrev VL:=KE→Loc→gX→gI→R (List AV)
abbrev VT:=KE→Loc→gX→AV→gI→R Loc
abbrev l8:=KE→Loc→gX→List AV→gI→R Loc
abbrev VI:=KE→Loc→gX→gI→R It
abbrev VS:=KE→Loc→gX→gI→RS
def iM{β:Type}(l:List (Nat×β))(x:Nat):Option β:=List.rec .none (λp U ih=>gT ih (some p.2) (ie p.1 x)) l
def i3{α:Type}(l:List α):Nat→Option α:=List.rec (motive:=λU=>Nat→Option α) (λU=>.none) (λa U ih i=>gT (ih (Nat.pred i)) (some a) (ie i 0)) l
def tI{α:Type}(l:List α):Nat→α→List α:=List.rec (motive:=λU=>Nat→α→List α) (λU U=>[]) (λa l ih i v=>gT (a::ih (Nat.pred i) v) (v::l) (ie i 0)) l
def tJ{α:Type}(l:List α):Nat→List α:=List.rec (motive:=λU=>Nat→List α) (λU=>[]) (λa U ih i=>gT (a::ih (Nat.pred i)) [] (ie i 0)) l
def oK{α:Type}(l:List α):Nat→List α:=List.rec (motive:=λU=>Nat→List α) (λU=>[]) (λa l ih i=>gT (ih (Nat.pred i)) (a::l) (ie i 0)) l
def app{α:Type}(a b:List α):List α:=List.rec b (λx U ih=>x::ih) a
def iC{α:Type}(l:List α):Nat:=List.rec (motive:=λU=>Nat→Nat) (λn=>n) (λU U ih n=>ih (Nat.succ n)) l 0
def lL{α β:Type}(f:α→β)(l:List α):List β:=List.rec [] (λa U ih=>f a::ih) l
def yb{α:Type}(l:List α):List α:=List.rec (motive:=λU=>List α→List α) (λacc=>acc) (λa U ih acc=>ih (a::acc)) l []
def tK(a b:Int):Bool:=Int.rec (λm=>Int.rec (λn=>ie m n) (λU=>false) b) (λm=>Int.rec (λU=>false) (λn=>ie m n) b) a
def kz(a b:Int):Bool:=Int.rec (λm=>Int.rec (λn=>Nat.blt m n) (λU=>false) b) (λm=>Int.rec (λU=>true) (λn=>Nat.blt n m) b) a
def wW(a b:Int):Bool:=gT true false (kz b a)
def jR(b:Bool):Bool:=gT true false b
def place(n:Nat)(i:Int):Option Nat:=Int.rec (λi=>gT .none (some i) (Nat.blt i n)) (λi=>gT .none (some (Nat.sub (Nat.pred n) i)) (Nat.blt i n)) i
def bound(n:Nat)(i:Int):Nat:=Int.rec (λi=>gT n i (iS i n)) (λi=>Nat.sub n (Nat.succ i)) i
def lM{α β:Type}(f:α→Option β)(l:List α):Option (List β):=
 List.rec (some []) (λa U ih=>hG .none (λb=>hG .none (λr=>some (b::r)) ih) (f a)) l
def l9(i:Int):Nat:=Int.rec (λn=>Nat.mul 2 n) (λn=>Nat.succ (Nat.mul 2 n)) i
def rR(a b:Nat):Option Nat:=let s:=Nat.succ (m2 a);gT .none (some (Nat.add (Nat.mul (Nat.add (Nat.mul b (Nat.pow 2 s)) a) 65536) s)) (Nat.blt s 65536)
def codes(l:List (Option Nat)):Option Nat:=List.rec (some 0) (λa U ih=>hG .none (λb=>hG .none (λc=>rR b (Nat.succ c)) ih) a) l
def Av(L:Bool)(f:AV→Option Nat)(o:gY):Option Nat:=match o with
 | .tuple xs=>hG .none (λc=>some (Nat.add (Nat.mul 8 c) 3)) (codes (lL f xs))
 | .list xs=>gT .none (hG .none (λc=>some (Nat.add (Nat.mul 8 c) 4)) (codes (lL f xs))) L
 |_=>.none
def code(L:Bool)(σ:gI)(n:Nat):AV→Option Nat:=
 Nat.rec (motive:=λU=>AV→Option Nat) (λU=>.none) (λU ih v=>match v with
  | .none=>some 2
  | .bool _=>.none
  | .int i=>some (Nat.mul 8 (l9 i))
  | .str n=>some (Nat.succ (Nat.mul 8 n))
  | .ref a=>hG .none (Av L ih) (σ.get a)) n
def key(σ:gI)(v:AV):Option Nat:=code false σ 5 v
def ma(σ:gI)(v:AV):Option Nat:=code true σ 8 v
def pf{α:Type}(l:List α):Bool:=iS (iC l) 1000000
def j8(xs:List AV):Option gY:=gT .none (some (.list xs)) (pf xs)
def yc(xs:List AV):Option gY:=gT .none (some (.tuple xs)) (pf xs)
def vO(xs:List (Nat×AV×AV)):Option gY:=gT .none (some (.dict xs)) (pf xs)
def lk(l:List Nat):Option AV:=gT .none (some (.str (iT l))) (pf l)
def i5(l:List (Nat×AV×AV))(k:Nat):Option AV:=List.rec .none (λe U ih=>gT ih (some e.2.2) (ie e.1 k)) l
def md(l:List (Nat×AV×AV))(k:Nat)(a v:AV):List (Nat×AV×AV):=List.rec [(k,a,v)] (λe l ih=>gT (e::ih) ((e.1,e.2.1,v)::l) (ie e.1 k)) l
def pZ(l:List Nat)(k:Nat):Bool:=List.rec false (λe U ih=>gT ih true (ie e k)) l
def objOf(σ:gI)(v:AV):Option gY:=match v with| .ref a=>σ.get a|_=>.none
noncomputable def Aw(o:gY):Option (List AV):=match o with| .list xs=>some xs| .tuple xs=>some xs|_=>.none
def wX(σ:gI)(v:AV):Option (List AV):=hG .none Aw (objOf σ v)
noncomputable def isNil{α:Type}(l:List α):Bool:=match l with|[]=>true|_::_=>false
def wY(o:gY):Option Bool:=match o with
 | .list xs=>some (jR (isNil xs))
 | .tuple xs=>some (jR (isNil xs))
 | .dict xs=>some (jR (isNil xs))
 | .inst c _ _=>gT .none (some true) (ie c 85073674658080482268389154181357764717)
 |_=>.none
def truth(σ:gI)(v:AV):Option Bool:=match v with
 | .none=>some false
 | .bool b=>some b
 | .int i=>some (jR (tK i 0))
 | .str n=>some (jR (ie n 1))
 | .ref a=>hG .none wY (σ.get a)
def pg(l:List AV):Option (List Nat):=List.rec (some []) (λv U ih=>match v with| .str n=>hG .none (λr=>some (n::r)) ih|_=>.none) l
def lp(sep:List Nat)(l:List (List Nat)):List Nat:=List.rec [] (λx r ih=>match r with|[]=>x|_::_=>app x (app sep ih)) l
def isLet(c:Nat):Bool:=gT (gT false (iS c 90) (iS 65 c)) (iS c 122) (iS 97 c)
def Ax(l:List Nat):Bool:=List.rec true (λc U ih=>gT false ih (isLet c)) l
def tM(n:Nat):Option (List Nat):=let l:=dec n;gT .none (some (39::app l [39])) (Ax l)
def CC(xs:List AV):Option (List Nat):=hG .none (λl=>hG .none (λrs=>some (91::app (lp [44,32] rs) [93])) (lM tM l)) (pg xs)
def strOf(σ:gI)(v:AV):Option (List Nat):=match v with
 | .str n=>some (dec n)
 | .ref a=>hG .none (λo=>match o with| .list xs=>CC xs|_=>.none) (σ.get a)
 |_=>.none
def n9(c:Nat)(l:List Nat):Bool:=List.rec false (λe U ih=>gT ih true (ie e c)) l
def Hw(x y:gY):Option gY:=match x with
 | .list xs=>match y with| .list ys=>j8 (app xs ys)|_=>.none
 |_=>.none
def Hx(x y:AV)(σ:gI):R AV:=match x with
 | .int a=>match y with| .int b=>.ok (.int (Int.add a b)) σ|_=>.stuck 2
 | .str a=>match y with| .str b=>go (lk (app (dec a) (dec b))) 2 λv=>.ok v σ|_=>.stuck 2
 |x=>go (objOf σ x) 2 λxo=>go (objOf σ y) 2 λyo=>go (Hw xo yo) 2 λo=>.ok (.ref σ.n) (σ.push o)
noncomputable def Hy(x y:AV)(σ:gI):R AV:=match x with
 | .int a=>match y with| .int b=>.ok (.int (Int.sub a b)) σ|_=>.stuck 3
 |_=>.stuck 3
def CD(x y:AV)(σ:gI):R AV:=match x with
 | .int a=>match y with| .int b=>gT (.stuck 4) (.ok (.int (Int.emod a b)) σ) (kz 0 b)|_=>.stuck 4
 | .str f=>match y with| .str y=>gT (.stuck 4) (go (lk (app (dec y) (dec 3450925829576424892769236666160897058116529880497441658311909669077054))) 4 λv=>.ok v σ) (ie f 15177368490116720127856851715738124369746665464782209044878335172050783817703620670)|_=>.stuck 4
 |_=>.stuck 4
def binop(op:Op)(x y:AV)(σ:gI):R AV:=match op with| .add=>Hx x y σ| .sub=>Hy x y σ| .mod=>CD x y σ
def vP(op:Op)(x y:AV)(σ:gI):R AV:=match x with| .int _=>(match op with| .mod=>.stuck 43|o=>binop o x y σ)|_=>.stuck 43
def p5(σ:gI)(k:Nat)(l:List AV):Option Bool:=List.rec (some false) (λa U ih=>hG .none (λc=>hG .none (λb=>some (gT b true (ie c k))) ih) (ma σ a)) l
noncomputable def CF{α:Type}(o:Option α):Bool:=match o with|some _=>true| .none=>false
def CG(σ:gI)(a:AV)(o:gY):Option Bool:=match o with
 | .list xs=>hG .none (λk=>p5 σ k xs) (ma σ a)
 | .dict es=>hG .none (λk=>some (CF (i5 es k))) (key σ a)
 | .set es=>match a with| .str n=>some (pZ es (Nat.succ (Nat.mul 8 n)))|_=>.none
 |_=>.none
noncomputable def Hz(l:List Nat):Option Nat:=match l with|c::r=>(match r with|[]=>some c|_::_=>.none)|[]=>.none
def contains(σ:gI)(a b:AV):Option Bool:=match b with
 | .str n=>match a with| .str m=>hG .none (λc=>some (n9 c (dec n))) (Hz (dec m))|_=>.none
 | .ref y=>hG .none (CG σ a) (σ.get y)
 |_=>.none
def lN(σ:gI)(a b:AV):Option Bool:=match ma σ a with
 |some x=>match ma σ b with|some y=>some (ie x y)| .none=>.none
 | .none=>.none
noncomputable def yd(f:Int→Int→Bool)(a b:AV)(σ:gI):R AV:=match a with
 | .int x=>match b with| .int y=>.ok (.bool (f x y)) σ|_=>.stuck 6
 |_=>.stuck 6
noncomputable def isNone(a:AV):Bool:=match a with| .none=>true|_=>false
def CH(a b:AV)(neg:Bool)(σ:gI):R AV:=gT (.stuck 7) (.ok (.bool (gT (isNone a) (jR (isNone a)) neg)) σ) (isNone b)
def cmp(op:Cp)(a b:AV)(σ:gI):R AV:=match op with
 | .eq=>go (lN σ a b) 5 λt=>.ok (.bool t) σ
 | .ne=>go (lN σ a b) 5 λt=>.ok (.bool (jR t)) σ
 | .lt=>yd kz a b σ
 | .le=>yd wW a b σ
 | .gt=>yd (λx y=>kz y x) a b σ
 | .ge=>yd (λx y=>wW y x) a b σ
 | .Hu=>CH a b false σ
 | .Hv=>CH a b true σ
 | .As=>go (contains σ a b) 8 λt=>.ok (.bool t) σ
 | .Au=>go (contains σ a b) 8 λt=>.ok (.bool (jR t)) σ
noncomputable def jV(v:AV):Option Int:=match v with| .int i=>some i|_=>.none
def CI(i:Int):Bool:=gT false (kz i 1000000000) (kz (-1000000000) i)
def tN(xs:List AV)(i:AV)(σ:gI):R AV:=go (jV i) 9 λk=>match place (iC xs) k with
 |some j=>go (i3 xs j) 9 λv=>.ok v σ
 | .none=>gT (.stuck 9) (.exc .idx σ) (CI k)
def p6(xs:List AV)(i:AV)(σ:gI):R AV:=go (jV i) 9 λk=>go (place (iC xs) k) 9 λj=>go (i3 xs j) 9 λv=>.ok v σ
def dictAt(es:List (Nat×AV×AV))(i:AV)(σ:gI):R AV:=go (key σ i) 9 λk=>match i5 es k with|some v=>.ok v σ| .none=>.exc .key σ
def strAt(l:List Nat)(i:AV)(σ:gI):R AV:=go (jV i) 9 λk=>go (place (iC l) k) 9 λj=>go (i3 l j) 9 λc=>.ok (.str (iT [c])) σ
def ye(X:Option (List AV))(o:gY)(i:AV)(σ:gI):R AV:=match o with
 | .list xs=>p6 xs i σ
 | .jH=>go X 9 λxs=>p6 xs i σ
 | .tuple xs=>tN xs i σ
 | .dict es=>dictAt es i σ
 |_=>.stuck 9
def getItem(X:Option (List AV))(o i:AV)(σ:gI):R AV:=match o with
 | .str n=>strAt (dec n) i σ
 | .ref a=>go (σ.get a) 9 λob=>ye X ob i σ
 |_=>.stuck 9
def yf{α:Type}(xs:List α)(lo hi:Option Int):List α:=
 oK (match hi with|some j=>tJ xs (bound (iC xs) j)| .none=>xs) (match lo with|some i=>bound (iC xs) i| .none=>0)
def QM(xs:List AV)(lo hi:Option Int):Option gY:=match hi with
 |some _=>.none
 | .none=>match lo with
  |some i=>Int.rec (λa=>gT .none (gT .none (some (.tuple (oK xs a))) (iS a (iC xs))) (iS 1 a)) (λU=>.none) i
  | .none=>.none
def yg(o:gY)(lo hi:Option Int):Option gY:=match o with
 | .list xs=>some (.list (yf xs lo hi))
 | .tuple xs=>QM xs lo hi
 |_=>.none
def m7(o:AV)(lo hi:Option Int)(σ:gI):R AV:=match o with
 | .ref a=>go (σ.get a) 10 λob=>go (yg ob lo hi) 10 λo=>.ok (.ref σ.n) (σ.push o)
 |_=>.stuck 10
def Ay(σ:gI)(o:gY)(i v:AV):Option gY:=match o with
 | .list xs=>match jV i with
  |some k=>gT (match place (iC xs) k with|some j=>some (.list (tI xs j v))| .none=>.none) .none (kz k 0)
  | .none=>.none
 | .dict es=>match key σ i with|some k=>vO (md es k i v)| .none=>.none
 |_=>.none
def setItem(o i v:AV)(σ:gI):R Unit:=match o with
 | .ref a=>go (σ.get a) 11 λob=>go (Ay σ ob i v) 11 λo=>.ok () (σ.set a o)
 |_=>.stuck 11
noncomputable def wZ(o:gY):Option (Nat×Nat×BT AV):=match o with| .inst c n fs=>some (c,n,fs)|_=>.none
def ph(o:AV)(σ:gI):Option (Nat×Nat×BT AV):=hG .none wZ (objOf σ o)
def getAttr(P:jE)(o:AV)(x:Ad)(σ:gI):R AV:=go (ph o σ) 12 λp=>match p.2.2.get x with
 |some v=>.ok v σ
 | .none=>go (iM P.cls p.1) 12 λcd=>go (cd.1.get x) 12 λv=>.ok v σ
def setAttr(o:AV)(x:Ad)(v:AV)(σ:gI):R Unit:=match o with
 | .ref a=>go (ph o σ) 13 λp=>match p.2.2.get x with
  |some _=>.ok () (σ.set a (.inst p.1 p.2.1 (p.2.2.set x v)))
  | .none=>gT (.stuck 13) (.ok () (σ.set a (.inst p.1 (Nat.succ p.2.1) (p.2.2.set x v)))) (iS p.2.1 1000)
 |_=>.stuck 13
def alloc(o:gY)(σ:gI):R AV:=.ok (.ref σ.n) (σ.push o)
def allB(l:List Bool):Bool:=List.rec true (λb U ih=>gT false ih b) l
def CJ(X:Option (List AV))(o:gY):Option Nat:=match o with
 | .list xs=>some (iC xs)
 | .jH=>hG .none (λxs=>some (iC xs)) X
 | .tuple xs=>some (iC xs)
 | .dict xs=>some (iC xs)
 | .set xs=>some (iC xs)
 |_=>.none
def lenOf(X:Option (List AV))(v:AV)(σ:gI):R AV:=match v with
 | .str n=>.ok (.int (.ofNat (iC (dec n)))) σ
 | .ref a=>go (σ.get a) 16 λo=>go (CJ X o) 16 λn=>.ok (.int (.ofNat n)) σ
 |_=>.stuck 16
noncomputable def CK(v:AV):Option Bool:=match v with| .bool b=>some b|_=>.none
noncomputable def yh(o:gY):Option (List AV):=match o with| .list xs=>some xs|_=>.none
def listOf(σ:gI)(v:AV):Option (List AV):=hG .none yh (objOf σ v)
def Az(b:BI)(v:AV)(σ:gI):R AV:=match b with
 | .all=>go (listOf σ v) 16 λxs=>go (lM CK xs) 16 λbs=>.ok (.bool (allB bs)) σ
 | .tuple=>go (listOf σ v) 16 λxs=>.ok (.ref σ.n) (σ.push (.tuple xs))
 | .list=>go (wX σ v) 16 λxs=>.ok (.ref σ.n) (σ.push (.list xs))
 |_=>.stuck 16
def QN(b:BI)(x y:AV)(σ:gI):R AV:=match b with
 | .min=>go (jV x) 16 λa=>go (jV y) 16 λc=>.ok (.int (gT a c (kz c a))) σ
 | .max=>go (jV x) 16 λa=>go (jV y) 16 λc=>.ok (.int (gT a c (kz a c))) σ
 |_=>.stuck 16
def HA(b:BI)(σ:gI):R AV:=match b with| .set=>.ok (.ref σ.n) (σ.push (.set []))|_=>.stuck 16
def builtin(b:BI)(as:List AV)(σ:gI):R AV:=match as with
 |[]=>HA b σ
 |v::r=>match r with
  |[]=>Az b v σ
  |w::r=>match r with|[]=>QN b v w σ|_::_=>.stuck 16
def lastOf(xs:List AV):Option (List AV×AV):=match yb xs with|[]=>.none|v::r=>some (yb r,v)
def HB(a:Ad)(xs:List AV)(σ:gI):R AV:=go (lastOf xs) 18 λp=>.ok p.2 (σ.set a (.list p.1))
def HC(a:Ad)(xs:List AV)(i v:AV)(σ:gI):R AV:=go (jV i) 18 λi=>Int.rec (λi=>gT (.stuck 18) (go (j8 (app (tJ xs i) (v::oK xs i))) 18 λo=>.ok .none (σ.set a o)) (iS i (iC xs))) (λU=>.stuck 18) i
def yi(es:List (Nat×AV×AV))(k d:AV)(σ:gI):R AV:=go (key σ k) 19 λk=>.ok (match i5 es k with|some v=>v| .none=>d) σ
def HD(a:Ad)(xs:List AV)(v:AV)(σ:gI):R AV:=go (j8 (app xs [v])) 18 λo=>.ok .none (σ.set a o)
def QO(a:Ad)(es:List Nat)(n:Nat)(σ:gI):R AV:=gT (.stuck 20) (gT (.ok .none (σ.set a (.set (app es [Nat.succ (Nat.mul 8 n)])))) (.ok .none σ) (pZ es (Nat.succ (Nat.mul 8 n)))) (iS (iC es) 1000)
def QP(n:Nat)(v:AV)(σ:gI):R AV:=go (wX σ v) 17 λxs=>go (pg xs) 17 λl=>go (lk (lp (dec n) (lL dec l))) 17 λv=>.ok v σ
set_option genCtorIdx true in
inductive mq where
 |join (n:Nat)
 |append (a:Ad)
 |pop (a:Ad)
 |insert (a:Ad)
 |get (a:Ad)
 |add (a:Ad)
 |fn (fd:FD)
def vQ(P:jE)(a:Ad)(o:gY)(m:Nat):Option mq:=match o with
 | .list _=>gT (gT (gT .none (some (.insert a)) (ie m 85074851038379093219842656569430900852)) (some (.pop a)) (ie m 9223864618296803440)) (some (.append a)) (ie m 85074526519864120391673425436428206180)
 | .dict _=>gT .none (some (.get a)) (ie m 9223825035857231988)
 | .set _=>gT .none (some (.add a)) (ie m 9223798647576068196)
 | .inst c _ _=>hG .none (λcd=>hG .none (λfd=>some (.fn fd)) (iM cd.2 m)) (iM P.cls c)
 |_=>.none
def sR(P:jE)(o:AV)(m:Nat)(σ:gI):Option mq:=match o with
 | .str n=>gT .none (some (.join n)) (ie m 19343790791758156784468078)
 | .ref a=>hG .none (λo=>vQ P a o m) (σ.get a)
 |_=>.none
def listAt(σ:gI)(a:Ad):Option (List AV):=hG .none yh (σ.get a)
noncomputable def vR(o:gY):Option (List (Nat×AV×AV)):=match o with| .dict es=>some es|_=>.none
def sS(σ:gI)(a:Ad):Option (List (Nat×AV×AV)):=hG .none vR (σ.get a)
noncomputable def vS(o:gY):Option (List Nat):=match o with| .set es=>some es|_=>.none
def HE(σ:gI)(a:Ad):Option (List Nat):=hG .none vS (σ.get a)
def tO(call:FD→gX→List AV→gI→R AV)(o:AV)(r:mq)(as:List AV)(σ:gI):R AV:=match r with
 | .join n=>(match as with|[v]=>QP n v σ|_=>.stuck 17)
 | .append a=>go (listAt σ a) 18 λxs=>(match as with|[v]=>HD a xs v σ|_=>.stuck 18)
 | .pop a=>go (listAt σ a) 18 λxs=>(match as with|[]=>HB a xs σ|_=>.stuck 18)
 | .insert a=>go (listAt σ a) 18 λxs=>(match as with|[i,v]=>HC a xs i v σ|_=>.stuck 18)
 | .get a=>go (sS σ a) 19 λes=>(match as with|[k]=>yi es k .none σ|[k,d]=>yi es k d σ|_=>.stuck 19)
 | .add a=>go (HE σ a) 20 λes=>(match as with|[.str n]=>QO a es n σ|_=>.stuck 20)
 | .fn fd=>call fd [] (o::as) σ
set_option genCtorIdx true in
inductive Got where
 |done
 |one (v:AV) (it:It)
 |two (u v:AV) (it:It)
 |bad
def kL(xs:List AV)(i:Nat)(f:AV→Got):Got:=match i3 xs i with|some v=>f v| .none=>.done
def yj(es:List (Nat×AV×AV))(i n:Nat)(f:Nat×AV×AV→Got):Got:=gT .bad (match i3 es i with|some e=>f e| .none=>.done) (ie (iC es) n)
def It.next(σ:gI)(it:It):Got:=match it with
 | .vals xs=>match xs with|[]=>.done|x::r=>.one x (.vals r)
 | .list a i=>match σ.get a with|some (.list xs)=>kL xs i λv=>.one v (.list a (Nat.succ i))|_=>.bad
 | .tup a i=>match σ.get a with|some (.tuple xs)=>kL xs i λv=>.one v (.tup a (Nat.succ i))|_=>.bad
 | .enum a i=>match σ.get a with|some (.list xs)=>kL xs i λv=>.two (.int (.ofNat i)) v (.enum a (Nat.succ i))|_=>.bad
 | .m6 a i=>match σ.get a with|some (.tuple xs)=>kL xs i λv=>.two (.int (.ofNat i)) v (.m6 a (Nat.succ i))|_=>.bad
 | .keys a i n=>match σ.get a with|some (.dict es)=>yj es i n λe=>.one e.2.1 (.keys a (Nat.succ i) n)|_=>.bad
 | .items a i n=>match σ.get a with|some (.dict es)=>yj es i n λe=>.two e.2.1 e.2.2 (.items a (Nat.succ i) n)|_=>.bad
noncomputable def og(n:Nat):Int→List AV:=Nat.rec (motive:=λU=>Int→List AV) (λU=>[]) (λU ih i=>.int i::ih (Int.add i 1)) n
noncomputable def HF(n:Nat):Int→List AV:=Nat.rec (motive:=λU=>Int→List AV) (λU=>[]) (λU ih i=>.int i::ih (Int.sub i 1)) n
def QQ(l:List AV):Option (List Int):=lM jV l
def nI(k:Int):Bool:=Int.rec (λn=>iS n 2305843009213693952) (λn=>iS n 2305843009213693951) k
def HG(l:List Int):Option (List AV):=match l with
 |[]=>.none
 |b::r=>match r with
  |[]=>gT .none (some (og b.toNat 0)) (nI b)
  |c::r=>match r with
   |[]=>gT .none (gT .none (some (og (Int.toNat (Int.sub c b)) b)) (nI b)) (nI c)
   |_::_=>.none
def vT(l:List AV):Option (List AV):=hG .none HG (QQ l)
def yk(a:Ad)(o:gY):Option It:=match o with
 | .list _=>some (.list a 0)
 | .tuple xs=>some (.tup a 0)
 | .dict es=>some (.keys a 0 (iC es))
 |_=>.none
def p7(σ:gI)(v:AV):Option It:=match v with
 | .str n=>some (.vals (lL (λc=>.str (iT [c])) (dec n)))
 | .ref a=>hG .none (yk a) (σ.get a)
 |_=>.none
def Ad.eq(p:Ad):Ad→Bool:=Ad.rec (motive:=λU=>Ad→Bool) (λq=>match q with| .h=>true|_=>false) (λU ih q=>match q with| .o q=>ih q|_=>false) (λU ih q=>match q with| .i q=>ih q|_=>false) p
def kh(l:gX)(x:Ad):Option Ad:=List.rec .none (λp U ih=>gT ih (some p.2) (Ad.eq p.1 x)) l
def lq(κ:gX)(l:List Ad):Option gX:=List.rec (some []) (λx U ih=>hG .none (λa=>hG .none (λr=>some ((x,a)::r)) ih) (kh κ x)) l
def rS(n:Nat)(vs ds:List AV):Option (List AV):=gT .none (gT .none (some (app vs (oK ds (Nat.sub (iC ds) (Nat.sub n (iC vs)))))) (iS (Nat.sub n (iC vs)) (iC ds))) (iS (iC vs) n)
def j9(l:List Ad):gX→gI→gX×gI:=List.rec (motive:=λU=>gX→gI→gX×gI) (λκ σ=>(κ,σ)) (λx U ih κ σ=>ih ((x,σ.n)::κ) (σ.push (.cell .none))) l
def w0(x:Ad)(l:List Ad):Bool:=List.rec false (λy U ih=>gT ih true (Ad.eq y x)) l
noncomputable def CM(o:gY):Option (Option AV):=match o with| .cell v=>some v|_=>.none
def yl(κ:gX)(x:Ad)(v:AV)(σ:gI):Option gI:=hG .none (λa=>hG .none (λo=>hG .none (λU=>some (σ.set a (.cell (some v)))) (CM o)) (σ.get a)) (kh κ x)
def nJ(cs:List Ad)(κ:gX)(xs:List Ad):List AV→Loc→gI→Option (Loc×gI):=List.rec (motive:=λU=>List AV→Loc→gI→Option (Loc×gI))
 (λvs ρ σ=>match vs with|[]=>some (ρ,σ)|_::_=>.none)
 (λx U ih vs ρ σ=>match vs with
  |[]=>.none
  |v::vs=>gT (ih vs (ρ.set x v) σ) (hG .none (λσ=>ih vs ρ σ) (yl κ x v σ)) (w0 x cs)) xs
def dictOf(σ:gI)(l:List AV):List (Nat×AV×AV)→Option (List (Nat×AV×AV)):=List.rec (motive:=λU=>Option AV→List (Nat×AV×AV)→Option (List (Nat×AV×AV)))
 (λk es=>match k with| .none=>some es|some _=>.none)
 (λv U ih k es=>match k with
  | .none=>ih (some v) es
  |some k=>match key σ k with|some c=>ih .none (md es c k v)| .none=>.none) l .none
noncomputable def lO(v:AV):VE:=λU U U σ=>.ok v σ
def p8(x:Ad):VE:=λU ρ U σ=>go (ρ.get x) 27 λv=>.ok v σ
def p9(x:Ad):VE:=λU U κ σ=>go (kh κ x) 28 λa=>match σ.get a with|some (.cell (some v))=>.ok v σ|_=>.stuck 28
def qa(e:VE)(x:Ad):VE:=λK ρ κ σ=>(e K ρ κ σ).bind λo σ=>getAttr K.P o x σ
def qb(e i:VE):VE:=λK ρ κ σ=>(e K ρ κ σ).bind λo σ=>(i K ρ κ σ).bind λk σ=>getItem K.P.xs o k σ
def qc(e:VE):VE:=λK ρ κ σ=>(e K ρ κ σ).bind λo σ=>m7 o .none .none σ
def qe(e a:VE):VE:=λK ρ κ σ=>(e K ρ κ σ).bind λo σ=>(a K ρ κ σ).bind λi σ=>go (jV i) 10 λi=>m7 o (some i) .none σ
def qg(e b:VE):VE:=λK ρ κ σ=>(e K ρ κ σ).bind λo σ=>(b K ρ κ σ).bind λi σ=>go (jV i) 10 λi=>m7 o .none (some i) σ
noncomputable def nK:VL:=λU U U σ=>.ok [] σ
def nL(e:VE)(l:VL):VL:=λK ρ κ σ=>(e K ρ κ σ).bind λv σ=>(l K ρ κ σ).bind λvs σ=>.ok (v::vs) σ
def qh(k:Nat)(as:VL):VE:=λK ρ κ σ=>go (iM K.P.m3 k) 29 λfd=>(as K ρ κ σ).bind λvs σ=>K.call fd [] vs σ
def qi(c:Nat)(as:VL):VE:=λK ρ κ σ=>go (iM K.P.cls c) 31 λcd=>go (iM cd.2 374161367731143740807411317305772578063481370050655) 31 λfd=>(as K ρ κ σ).bind λvs σ=>
 (K.call fd [] (.ref σ.n::vs) ((σ.push (.inst c 0 .nil)).push .aux)).bind λv σ'=>gT (.stuck 31) (.ok (.ref σ.n) σ') (isNone v)
def HH(r:AV)(σ:gI):R AV:=go (jV r) 33 λi=>Int.rec (λn=>gT (.stuck 33) (.ok (.int (.ofNat n)) σ) (iS n 1000000)) (λU=>.stuck 33) i
def w1(K:KE)(v:AV)(σ:gI):R AV:=match ph v σ with
 |some p=>go (iM K.P.cls p.1) 33 λcd=>go (iM cd.2 178414043298313017334511566563802095827288159) 33 λfd=>(K.call fd [] [v] σ).bind HH
 | .none=>lenOf K.P.xs v σ
def me(K:KE)(b:BI)(vs:List AV)(σ:gI):R AV:=match b with
 | .len=>match vs with
  |[]=>.stuck 16
  |v::r=>match r with|[]=>w1 K v σ|_::_=>.stuck 16
 |b=>builtin b vs σ
def qj(b:BI)(as:VL):VE:=λK ρ κ σ=>(as K ρ κ σ).bind λvs σ=>me K b vs σ
noncomputable def CN(o:gY):Option (Nat×gX):=match o with| .fn k κ=>some (k,κ)|_=>.none
def rT(K:KE)(p:Nat×gX)(vs:List AV)(σ:gI):R AV:=go (i3 K.P.nested p.1) 32 λfd=>K.call fd p.2 vs σ
def tP(σ:gI)(f:AV):Option (Nat×gX):=hG .none CN (objOf σ f)
def pj(e:VE)(as:VL):VE:=λK ρ κ σ=>(e K ρ κ σ).bind λf σ=>go (tP σ f) 32 λU=>(as K ρ κ σ).bind λvs σ=>go (tP σ f) 32 λp=>rT K p vs σ
def ql(e:VE)(m:Nat)(as:VL):VE:=λK ρ κ σ=>(e K ρ κ σ).bind λo σ=>go (sR K.P o m σ) 21 λr=>(as K ρ κ σ).bind λvs σ=>tO K.call o r vs σ
def qm(op:Op)(a b:VE):VE:=λK ρ κ σ=>(a K ρ κ σ).bind λx σ=>(b K ρ κ σ).bind λy σ=>binop op x y σ
def qn(a:VE):VE:=λK ρ κ σ=>(a K ρ κ σ).bind λx σ=>go (jV x) 34 λi=>.ok (.int (-i)) σ
def ki(v:AV)(σ:gI):R Bool:=go (truth σ v) 15 λb=>.ok b σ
def test(c:VE)(K:KE)(ρ:Loc)(κ:gX)(σ:gI):R Bool:=(c K ρ κ σ).bind ki
def pk(a:VE):VE:=λK ρ κ σ=>(test a K ρ κ σ).bind λt σ=>.ok (.bool (jR t)) σ
def pq(op:Cp)(a b:VE):VE:=λK ρ κ σ=>(a K ρ κ σ).bind λx σ=>(b K ρ κ σ).bind λy σ=>cmp op x y σ
def oh(a b:VE):VE:=λK ρ κ σ=>(a K ρ κ σ).bind λx σ=>(ki x σ).bind λt σ=>gT (.ok x σ) (b K ρ κ σ) t
def oj(a b:VE):VE:=λK ρ κ σ=>(a K ρ κ σ).bind λx σ=>(ki x σ).bind λt σ=>gT (b K ρ κ σ) (.ok x σ) t
def pv(c a b:VE):VE:=λK ρ κ σ=>(test c K ρ κ σ).bind λt σ=>gT (b K ρ κ σ) (a K ρ κ σ) t
def qo(es:VL):VE:=λK ρ κ σ=>(es K ρ κ σ).bind λvs σ=>go (j8 vs) 35 λo=>alloc o σ
def qp(es:VL):VE:=λK ρ κ σ=>(es K ρ κ σ).bind λvs σ=>go (yc vs) 35 λo=>alloc o σ
def oM(es:VL):VE:=λK ρ κ σ=>(es K ρ κ (σ.push (.dict []))).bind λvs σ'=>go (sS σ' σ.n) 22 λCO=>(match CO with
 |[]=>go (dictOf σ' vs []) 22 λes=>go (vO es) 22 λo=>.ok (.ref σ.n) (σ'.set σ.n o)
 |_::_=>.stuck 22)
def qq(e:VE):VE:=λK ρ κ σ=>(e K ρ κ σ).bind λv σ=>go (strOf σ v) 3 λl=>go (lk l) 3 λv=>.ok v σ
noncomputable def strN(v:AV):Option Nat:=match v with| .str n=>some n|_=>.none
def pw(e r:VE):VE:=λK ρ κ σ=>(e K ρ κ σ).bind λv σ=>go (strN v) 3 λn=>(r K ρ κ σ).bind λw σ=>go (strN w) 3 λm=>go (lk (app (dec n) (dec m))) 3 λv=>.ok v σ
def qs(r:VE):VE:=λK ρ κ σ=>(r K ρ κ σ).bind λw σ=>go (strN w) 3 λm=>go (lk (dec m)) 3 λv=>.ok v σ
noncomputable def CP(o:gY):Option (List Nat):=match o with| .tab ks=>some ks|_=>.none
def px(k:Nat)(ta:Ad)(pn:Nat)(κ:gX)(σ:gI):R AV:=go (σ.get ta) 36 λo=>go (CP o) 36 λks=>gT (.ok (.ref σ.n) (((σ.set ta (.tab (pn::ks))).push (.fn k κ)).push .aux)) (.stuck 36) (n9 pn ks)
def qt(k:Nat)(ta:Ad)(pn:Nat)(fr:List Ad):VE:=λU U κ σ=>go (lq κ fr) 36 λκ'=>px k ta pn κ' σ
def qu(x:Ad):VT:=λU ρ U v σ=>.ok (ρ.set x v) σ
def pz(x:Ad):VT:=λU ρ κ v σ=>go (kh κ x) 40 λa=>match σ.get a with|some (.cell _)=>.ok ρ (σ.set a (.cell (some v)))|_=>.stuck 40
def qv(e:VE)(x:Ad):VT:=λK ρ κ v σ=>(e K ρ κ σ).bind λo σ=>(setAttr o x v σ).bind λU σ=>.ok ρ σ
def qw(e i:VE):VT:=λK ρ κ v σ=>(e K ρ κ σ).bind λo σ=>(i K ρ κ σ).bind λk σ=>(setItem o k v σ).bind λU σ=>.ok ρ σ
noncomputable def CQ(o:gY):Option (List AV):=match o with| .tuple xs=>some xs|_=>.none
def w2(σ:gI)(v:AV):Option (List AV):=hG .none CQ (objOf σ v)
def qx(l:l8)(n:Nat):VT:=λK ρ κ v σ=>go (w2 σ v) 41 λvs=>gT (.stuck 41) (l K ρ κ vs σ) (ie (iC vs) n)
noncomputable def qy:l8:=λU ρ U vs σ=>match vs with|[]=>.ok ρ σ|_::_=>.stuck 39
def qz(t:VT)(l:l8):l8:=λK ρ κ vs σ=>match vs with|v::vs=>(t K ρ κ v σ).bind λρ σ=>l K ρ κ vs σ|[]=>.stuck 39
def qB(e:VE):VI:=λK ρ κ σ=>(e K ρ κ σ).bind λv σ=>go (p7 σ v) 23 λit=>.ok it σ
def qE(as:VL):VI:=λK ρ κ σ=>(as K ρ κ σ).bind λvs σ=>go (vT vs) 24 λxs=>.ok (.vals xs) σ
noncomputable def refOf(v:AV):Option Ad:=match v with| .ref a=>some a|_=>.none
noncomputable def w3(a:Ad)(o:gY):Option It:=match o with
 | .list _=>some (.enum a 0)
 | .tuple _=>some (.m6 a 0)
 |_=>.none
def qI(e:VE):VI:=λK ρ κ σ=>(e K ρ κ σ).bind λv σ=>go (refOf v) 25 λa=>go (σ.get a) 25 λo=>go (w3 a o) 25 λit=>.ok it σ
def qJ(e:VE):VI:=λK ρ κ σ=>(e K ρ κ σ).bind λv σ=>go (refOf v) 26 λa=>go (σ.get a) 26 λo=>go (vR o) 26 λes=>.ok (.items a 0 (iC es)) σ
def rU(t:VT)(K:KE)(ρ:Loc)(κ:gX)(u v:AV)(σ:gI):R Loc:=(t K ρ κ (.ref σ.n) (σ.push (.tuple [u,v])))
def kj(e:VE)(t:VT)(c:VE)(K:KE)(κ:gX)(a:Ad)(n:Nat):It→Loc→gI→R Unit:=
 Nat.rec (motive:=λU=>It→Loc→gI→R Unit) (λU U U=>.stuck 0) (λU ih it ρ σ=>
  let turn (r:R Loc) (it:It):R Unit:=r.bind λρ σ=>(test c K ρ κ σ).bind λb σ=>gT (ih it ρ σ) ((e K ρ κ σ).bind λv σ=>match σ.get a with|some (.list xs)=>go (j8 (app xs [v])) 35 λo=>ih it ρ (σ.set a o)|_=>.stuck 35) b
  match it.next σ with
  | .done=>.ok () σ
  | .one v it=>turn (t K ρ κ v σ) it
  | .two u v it=>turn (rU t K ρ κ u v σ) it
  | .bad=>.stuck 37) n
def R.nM{α:Type}(r:R α):R α:=R.rec .ok (λU U=>.stuck 45) .stuck r
def mf(e:VE)(t:VT)(it:VI)(c:VE)(fr:List Ad):VE:=λK ρ κ σ=>(it K ρ κ σ).nM.bind λi σ=>go (lq κ fr) 35 λκ'=>(kj e t c K κ' σ.n K.N i .nil (σ.push (.list []))).nM.bind λU σ'=>.ok (.ref σ.n) σ'
noncomputable def oN:VS:=λU ρ U σ=>.next ρ σ
noncomputable def RS.then(r:RS)(f:Loc→gI→RS):RS:=match r with| .next ρ σ=>f ρ σ|r=>r
noncomputable def oO(s l:VS):VS:=λK ρ κ σ=>(s K ρ κ σ).then λρ σ=>l K ρ κ σ
def pA(e:VE):VS:=λK ρ κ σ=>(e K ρ κ σ).run λU σ=>.next ρ σ
def nN(t:VT)(e:VE):VS:=λK ρ κ σ=>(e K ρ κ σ).run λv σ=>(t K ρ κ v σ).run λρ σ=>.next ρ σ
def qK(x:Ad)(op:Op)(e:VE):VS:=λK ρ κ σ=>match ρ.get x with
 |some a=>(e K ρ κ σ).run λb σ=>(vP op a b σ).run λv σ=>.next (ρ.set x v) σ
 | .none=>.stuck 42
def qN(o:VE)(x:Ad)(op:Op)(e:VE):VS:=λK ρ κ σ=>(o K ρ κ σ).run λo σ=>(getAttr K.P o x σ).run λa σ=>(e K ρ κ σ).run λb σ=>(vP op a b σ).run λv σ=>(setAttr o x v σ).run λU σ=>.next ρ σ
def qO(c:VE)(b o:VS):VS:=λK ρ κ σ=>(test c K ρ κ σ).run λt σ=>gT (o K ρ κ σ) (b K ρ κ σ) t
def oP(c:VE)(b o:VS)(K:KE)(κ:gX)(n:Nat):Loc→gI→RS:=
 Nat.rec (motive:=λU=>Loc→gI→RS) (λU U=>.stuck 0) (λU ih ρ σ=>(test c K ρ κ σ).run λt σ=>gT (o K ρ κ σ) (match b K ρ κ σ with
  | .next ρ σ=>ih ρ σ
  | .cont ρ σ=>ih ρ σ
  | .brk ρ σ=>.next ρ σ
  |r=>r) t) n
def pB(c:VE)(b o:VS):VS:=λK ρ κ σ=>oP c b o K κ K.N ρ σ
def lr(t:VT)(b o:VS)(K:KE)(κ:gX)(n:Nat):It→Loc→gI→RS:=
 Nat.rec (motive:=λU=>It→Loc→gI→RS) (λU U U=>.stuck 0) (λU ih it ρ σ=>
  let turn (r:R Loc) (it:It):RS:=r.run λρ σ=>match b K ρ κ σ with
   | .next ρ σ=>ih it ρ σ
   | .cont ρ σ=>ih it ρ σ
   | .brk ρ σ=>.next ρ σ
   |r=>r
  match it.next σ with
  | .done=>o K ρ κ σ
  | .one v it=>turn (t K ρ κ v σ) it
  | .two u v it=>turn (rU t K ρ κ u v σ) it
  | .bad=>.stuck 37) n
def pC(t:VT)(it:VI)(b o:VS):VS:=λK ρ κ σ=>(it K ρ κ σ).run λi σ=>lr t b o K κ K.N i ρ σ
def om(e:VE):VS:=λK ρ κ σ=>(e K ρ κ σ).run λv σ=>.ret v σ
noncomputable def qP:VS:=λU ρ U σ=>.brk ρ σ
noncomputable def qS:VS:=λU ρ U σ=>.cont ρ σ
noncomputable def qU:VS:=λU ρ U σ=>.next ρ σ
noncomputable def catches(key idx:Bool)(x:Exc):Bool:=match x with| .key=>key| .idx=>idx
def sT{α:Type}(r:R α)(key idx:Bool)(f:α→gI→RS)(g:gI→RS):RS:=match r with
 | .ok a σ=>f a σ
 | .exc x σ=>gT (.stuck 44) (g σ) (catches key idx x)
 | .stuck w=>.stuck w
def qW(e:VE)(key idx:Bool)(h:VS):VS:=λK ρ κ σ=>sT (e K ρ κ σ) key idx (λU σ=>.next ρ σ) (λσ=>h K ρ κ σ)
def pD(t:VT)(e:VE)(key idx:Bool)(h:VS):VS:=λK ρ κ σ=>sT (e K ρ κ σ) key idx (λv σ=>(t K ρ κ v σ).run λρ σ=>.next ρ σ) (λσ=>h K ρ κ σ)
def qX(t:VT)(k:Nat)(ta:Ad)(pn:Nat)(fr:List Ad):VS:=λK ρ κ σ=>(go (lq κ fr) 36 λκ'=>px k ta pn κ' σ).run λv σ=>(t K ρ κ v σ).run λρ σ=>.next ρ σ
noncomputable def oo(w:Nat):VS:=λU U U U=>.stuck (1000+w)
def dE:IE→VE:=@IE.rec (λU=>VE) (λU=>VL) (λU=>VT) (λU=>l8) (λU=>VI) (λU=>VS) (λU=>VS)
 (λv=>lO v)
 (λx=>p8 x)
 (λx=>p9 x)
 (λU x e=>qa e x)
 (λU U e i=>qb e i)
 (λU e=>qc e)
 (λU U e a=>qe e a)
 (λU U e b=>qg e b)
 (λk U as=>qh k as)
 (λk U as=>qi k as)
 (λb U as=>qj b as)
 (λU U e as=>pj e as)
 (λU m U e as=>ql e m as)
 (λop U U a b=>qm op a b)
 (λU a=>qn a)
 (λU a=>pk a)
 (λop U U a b=>pq op a b)
 (λU U a b=>oh a b)
 (λU U a b=>oj a b)
 (λU U U c a b=>pv c a b)
 (λU es=>qo es)
 (λU es=>qp es)
 (λU es=>oM es)
 (λU e=>qq e)
 (λU U e r=>pw e r)
 (λU r=>qs r)
 (λU U U U fr e t it c=>mf e t it c fr)
 (λk ta pn fr=>qt k ta pn fr)
 nK
 (λU U e l=>nL e l)
 (λx=>qu x)
 (λx=>pz x)
 (λU x e=>qv e x)
 (λU U e i=>qw e i)
 (λU n l=>qx l n)
 qy
 (λU U t l=>qz t l)
 (λU e=>qB e)
 (λU as=>qE as)
 (λU e=>qI e)
 (λU e=>qJ e)
 (λU e=>pA e)
 (λU U t e=>nN t e)
 (λx op U e=>qK x op e)
 (λU x op U o e=>qN o x op e)
 (λU U U c b o=>qO c b o)
 (λU U U c b o=>pB c b o)
 (λU U U U t it b o=>pC t it b o)
 (λU e=>om e)
 qP
 qS
 qU
 (λU key idx U e h=>qW e key idx h)
 (λU U key idx U t e h=>pD t e key idx h)
 (λU k ta pn fr t=>qX t k ta pn fr)
 (λw=>oo w)
 oN
 (λU U s l=>oO s l)
def dL:i9→VL:=@i9.rec (λU=>VE) (λU=>VL) (λU=>VT) (λU=>l8) (λU=>VI) (λU=>VS) (λU=>VS)
 (λv=>lO v)
 (λx=>p8 x)
 (λx=>p9 x)
 (λU x e=>qa e x)
 (λU U e i=>qb e i)
 (λU e=>qc e)
 (λU U e a=>qe e a)
 (λU U e b=>qg e b)
 (λk U as=>qh k as)
 (λk U as=>qi k as)
 (λb U as=>qj b as)
 (λU U e as=>pj e as)
 (λU m U e as=>ql e m as)
 (λop U U a b=>qm op a b)
 (λU a=>qn a)
 (λU a=>pk a)
 (λop U U a b=>pq op a b)
 (λU U a b=>oh a b)
 (λU U a b=>oj a b)
 (λU U U c a b=>pv c a b)
 (λU es=>qo es)
 (λU es=>qp es)
 (λU es=>oM es)
 (λU e=>qq e)
 (λU U e r=>pw e r)
 (λU r=>qs r)
 (λU U U U fr e t it c=>mf e t it c fr)
 (λk ta pn fr=>qt k ta pn fr)
 nK
 (λU U e l=>nL e l)
 (λx=>qu x)
 (λx=>pz x)
 (λU x e=>qv e x)
 (λU U e i=>qw e i)
 (λU n l=>qx l n)
 qy
 (λU U t l=>qz t l)
 (λU e=>qB e)
 (λU as=>qE as)
 (λU e=>qI e)
 (λU e=>qJ e)
 (λU e=>pA e)
 (λU U t e=>nN t e)
 (λx op U e=>qK x op e)
 (λU x op U o e=>qN o x op e)
 (λU U U c b o=>qO c b o)
 (λU U U c b o=>pB c b o)
 (λU U U U t it b o=>pC t it b o)
 (λU e=>om e)
 qP
 qS
 qU
 (λU key idx U e h=>qW e key idx h)
 (λU U key idx U t e h=>pD t e key idx h)
 (λU k ta pn fr t=>qX t k ta pn fr)
 (λw=>oo w)
 oN
 (λU U s l=>oO s l)
def dT:IT→VT:=@IT.rec (λU=>VE) (λU=>VL) (λU=>VT) (λU=>l8) (λU=>VI) (λU=>VS) (λU=>VS)
 (λv=>lO v)
 (λx=>p8 x)
 (λx=>p9 x)
 (λU x e=>qa e x)
 (λU U e i=>qb e i)
 (λU e=>qc e)
 (λU U e a=>qe e a)
 (λU U e b=>qg e b)
 (λk U as=>qh k as)
 (λk U as=>qi k as)
 (λb U as=>qj b as)
 (λU U e as=>pj e as)
 (λU m U e as=>ql e m as)
 (λop U U a b=>qm op a b)
 (λU a=>qn a)
 (λU a=>pk a)
 (λop U U a b=>pq op a b)
 (λU U a b=>oh a b)
 (λU U a b=>oj a b)
 (λU U U c a b=>pv c a b)
 (λU es=>qo es)
 (λU es=>qp es)
 (λU es=>oM es)
 (λU e=>qq e)
 (λU U e r=>pw e r)
 (λU r=>qs r)
 (λU U U U fr e t it c=>mf e t it c fr)
 (λk ta pn fr=>qt k ta pn fr)
 nK
 (λU U e l=>nL e l)
 (λx=>qu x)
 (λx=>pz x)
 (λU x e=>qv e x)
 (λU U e i=>qw e i)
 (λU n l=>qx l n)
 qy
 (λU U t l=>qz t l)
 (λU e=>qB e)
 (λU as=>qE as)
 (λU e=>qI e)
 (λU e=>qJ e)
 (λU e=>pA e)
 (λU U t e=>nN t e)
 (λx op U e=>qK x op e)
 (λU x op U o e=>qN o x op e)
 (λU U U c b o=>qO c b o)
 (λU U U c b o=>pB c b o)
 (λU U U U t it b o=>pC t it b o)
 (λU e=>om e)
 qP
 qS
 qU
 (λU key idx U e h=>qW e key idx h)
 (λU U key idx U t e h=>pD t e key idx h)
 (λU k ta pn fr t=>qX t k ta pn fr)
 (λw=>oo w)
 oN
 (λU U s l=>oO s l)
def tQ:rQ→l8:=@rQ.rec (λU=>VE) (λU=>VL) (λU=>VT) (λU=>l8) (λU=>VI) (λU=>VS) (λU=>VS)
 (λv=>lO v)
 (λx=>p8 x)
 (λx=>p9 x)
 (λU x e=>qa e x)
 (λU U e i=>qb e i)
 (λU e=>qc e)
 (λU U e a=>qe e a)
 (λU U e b=>qg e b)
 (λk U as=>qh k as)
 (λk U as=>qi k as)
 (λb U as=>qj b as)
 (λU U e as=>pj e as)
 (λU m U e as=>ql e m as)
 (λop U U a b=>qm op a b)
 (λU a=>qn a)
 (λU a=>pk a)
 (λop U U a b=>pq op a b)
 (λU U a b=>oh a b)
 (λU U a b=>oj a b)
 (λU U U c a b=>pv c a b)
 (λU es=>qo es)
 (λU es=>qp es)
 (λU es=>oM es)
 (λU e=>qq e)
 (λU U e r=>pw e r)
 (λU r=>qs r)
 (λU U U U fr e t it c=>mf e t it c fr)
 (λk ta pn fr=>qt k ta pn fr)
 nK
 (λU U e l=>nL e l)
 (λx=>qu x)
 (λx=>pz x)
 (λU x e=>qv e x)
 (λU U e i=>qw e i)
 (λU n l=>qx l n)
 qy
 (λU U t l=>qz t l)
 (λU e=>qB e)
 (λU as=>qE as)
 (λU e=>qI e)
 (λU e=>qJ e)
 (λU e=>pA e)
 (λU U t e=>nN t e)
 (λx op U e=>qK x op e)
 (λU x op U o e=>qN o x op e)
 (λU U U c b o=>qO c b o)
 (λU U U c b o=>pB c b o)
 (λU U U U t it b o=>pC t it b o)
 (λU e=>om e)
 qP
 qS
 qU
 (λU key idx U e h=>qW e key idx h)
 (λU U key idx U t e h=>pD t e key idx h)
 (λU k ta pn fr t=>qX t k ta pn fr)
 (λw=>oo w)
 oN
 (λU U s l=>oO s l)
def dI:II→VI:=@II.rec (λU=>VE) (λU=>VL) (λU=>VT) (λU=>l8) (λU=>VI) (λU=>VS) (λU=>VS)
 (λv=>lO v)
 (λx=>p8 x)
 (λx=>p9 x)
 (λU x e=>qa e x)
 (λU U e i=>qb e i)
 (λU e=>qc e)
 (λU U e a=>qe e a)
 (λU U e b=>qg e b)
 (λk U as=>qh k as)
 (λk U as=>qi k as)
 (λb U as=>qj b as)
 (λU U e as=>pj e as)
 (λU m U e as=>ql e m as)
 (λop U U a b=>qm op a b)
 (λU a=>qn a)
 (λU a=>pk a)
 (λop U U a b=>pq op a b)
 (λU U a b=>oh a b)
 (λU U a b=>oj a b)
 (λU U U c a b=>pv c a b)
 (λU es=>qo es)
 (λU es=>qp es)
 (λU es=>oM es)
 (λU e=>qq e)
 (λU U e r=>pw e r)
 (λU r=>qs r)
 (λU U U U fr e t it c=>mf e t it c fr)
 (λk ta pn fr=>qt k ta pn fr)
 nK
 (λU U e l=>nL e l)
 (λx=>qu x)
 (λx=>pz x)
 (λU x e=>qv e x)
 (λU U e i=>qw e i)
 (λU n l=>qx l n)
 qy
 (λU U t l=>qz t l)
 (λU e=>qB e)
 (λU as=>qE as)
 (λU e=>qI e)
 (λU e=>qJ e)
 (λU e=>pA e)
 (λU U t e=>nN t e)
 (λx op U e=>qK x op e)
 (λU x op U o e=>qN o x op e)
 (λU U U c b o=>qO c b o)
 (λU U U c b o=>pB c b o)
 (λU U U U t it b o=>pC t it b o)
 (λU e=>om e)
 qP
 qS
 qU
 (λU key idx U e h=>qW e key idx h)
 (λU U key idx U t e h=>pD t e key idx h)
 (λU k ta pn fr t=>qX t k ta pn fr)
 (λw=>oo w)
 oN
 (λU U s l=>oO s l)
def dS:IS→VS:=@IS.rec (λU=>VE) (λU=>VL) (λU=>VT) (λU=>l8) (λU=>VI) (λU=>VS) (λU=>VS)
 (λv=>lO v)
 (λx=>p8 x)
 (λx=>p9 x)
 (λU x e=>qa e x)
 (λU U e i=>qb e i)
 (λU e=>qc e)
 (λU U e a=>qe e a)
 (λU U e b=>qg e b)
 (λk U as=>qh k as)
 (λk U as=>qi k as)
 (λb U as=>qj b as)
 (λU U e as=>pj e as)
 (λU m U e as=>ql e m as)
 (λop U U a b=>qm op a b)
 (λU a=>qn a)
 (λU a=>pk a)
 (λop U U a b=>pq op a b)
 (λU U a b=>oh a b)
 (λU U a b=>oj a b)
 (λU U U c a b=>pv c a b)
 (λU es=>qo es)
 (λU es=>qp es)
 (λU es=>oM es)
 (λU e=>qq e)
 (λU U e r=>pw e r)
 (λU r=>qs r)
 (λU U U U fr e t it c=>mf e t it c fr)
 (λk ta pn fr=>qt k ta pn fr)
 nK
 (λU U e l=>nL e l)
 (λx=>qu x)
 (λx=>pz x)
 (λU x e=>qv e x)
 (λU U e i=>qw e i)
 (λU n l=>qx l n)
 qy
 (λU U t l=>qz t l)
 (λU e=>qB e)
 (λU as=>qE as)
 (λU e=>qI e)
 (λU e=>qJ e)
 (λU e=>pA e)
 (λU U t e=>nN t e)
 (λx op U e=>qK x op e)
 (λU x op U o e=>qN o x op e)
 (λU U U c b o=>qO c b o)
 (λU U U c b o=>pB c b o)
 (λU U U U t it b o=>pC t it b o)
 (λU e=>om e)
 qP
 qS
 qU
 (λU key idx U e h=>qW e key idx h)
 (λU U key idx U t e h=>pD t e key idx h)
 (λU k ta pn fr t=>qX t k ta pn fr)
 (λw=>oo w)
 oN
 (λU U s l=>oO s l)
def dB:g7→VS:=@g7.rec (λU=>VE) (λU=>VL) (λU=>VT) (λU=>l8) (λU=>VI) (λU=>VS) (λU=>VS)
 (λv=>lO v)
 (λx=>p8 x)
 (λx=>p9 x)
 (λU x e=>qa e x)
 (λU U e i=>qb e i)
 (λU e=>qc e)
 (λU U e a=>qe e a)
 (λU U e b=>qg e b)
 (λk U as=>qh k as)
 (λk U as=>qi k as)
 (λb U as=>qj b as)
 (λU U e as=>pj e as)
 (λU m U e as=>ql e m as)
 (λop U U a b=>qm op a b)
 (λU a=>qn a)
 (λU a=>pk a)
 (λop U U a b=>pq op a b)
 (λU U a b=>oh a b)
 (λU U a b=>oj a b)
 (λU U U c a b=>pv c a b)
 (λU es=>qo es)
 (λU es=>qp es)
 (λU es=>oM es)
 (λU e=>qq e)
 (λU U e r=>pw e r)
 (λU r=>qs r)
 (λU U U U fr e t it c=>mf e t it c fr)
 (λk ta pn fr=>qt k ta pn fr)
 nK
 (λU U e l=>nL e l)
 (λx=>qu x)
 (λx=>pz x)
 (λU x e=>qv e x)
 (λU U e i=>qw e i)
 (λU n l=>qx l n)
 qy
 (λU U t l=>qz t l)
 (λU e=>qB e)
 (λU as=>qE as)
 (λU e=>qI e)
 (λU e=>qJ e)
 (λU e=>pA e)
 (λU U t e=>nN t e)
 (λx op U e=>qK x op e)
 (λU x op U o e=>qN o x op e)
 (λU U U c b o=>qO c b o)
 (λU U U c b o=>pB c b o)
 (λU U U U t it b o=>pC t it b o)
 (λU e=>om e)
 qP
 qS
 qU
 (λU key idx U e h=>qW e key idx h)
 (λU U key idx U t e h=>pD t e key idx h)
 (λU k ta pn fr t=>qX t k ta pn fr)
 (λw=>oo w)
 oN
 (λU U s l=>oO s l)
theorem HI(v_:AV):dE (.«const» v_)=lO v_:=rfl
theorem HJ(x_:Ad):dE (.«loc» x_)=p8 x_:=rfl
theorem HK(x_:Ad):dE (.xC x_)=p9 x_:=rfl
theorem HL(e_:IE)(x_:Ad):dE (.«attr» e_ x_)=qa (dE e_) x_:=rfl
theorem HM(e_:IE)(i_:IE):dE (.«sub» e_ i_)=qb (dE e_) (dE i_):=rfl
theorem HN(e_:IE):dE (.«slA» e_)=qc (dE e_):=rfl
theorem HO(e_:IE)(a_:IE):dE (.Ff e_ a_)=qe (dE e_) (dE a_):=rfl
theorem HP(e_:IE)(b_:IE):dE (.Nd e_ b_)=qg (dE e_) (dE b_):=rfl
theorem HQ(k_:Nat)(kK:i9):dE (.Fe k_ kK)=qh k_ (dL kK):=rfl
theorem HR(k_:Nat)(kK:i9):dE (.«callC» k_ kK)=qi k_ (dL kK):=rfl
theorem HS(b_:BI)(kK:i9):dE (.me b_ kK)=qj b_ (dL kK):=rfl
theorem HT(e_:IE)(kK:i9):dE (.rT e_ kK)=pj (dE e_) (dL kK):=rfl
theorem HU(e_:IE)(m_:Nat)(kK:i9):dE (.Fd e_ m_ kK)=ql (dE e_) m_ (dL kK):=rfl
theorem HV(nG:Op)(a_:IE)(b_:IE):dE (.«bin» nG a_ b_)=qm nG (dE a_) (dE b_):=rfl
theorem HW(a_:IE):dE (.«neg» a_)=qn (dE a_):=rfl
theorem HX(a_:IE):dE (.«not» a_)=pk (dE a_):=rfl
theorem HZ(nG:Cp)(a_:IE)(b_:IE):dE (.«cmp» nG a_ b_)=pq nG (dE a_) (dE b_):=rfl
theorem H2(a_:IE)(b_:IE):dE (.«and» a_ b_)=oh (dE a_) (dE b_):=rfl
theorem H3(a_:IE)(b_:IE):dE (.«or» a_ b_)=oj (dE a_) (dE b_):=rfl
theorem H4(c_:IE)(a_:IE)(b_:IE):dE (.«ite» c_ a_ b_)=pv (dE c_) (dE a_) (dE b_):=rfl
theorem H5(pX:i9):dE (.«list» pX)=qo (dL pX):=rfl
theorem H6(pX:i9):dE (.«tuple» pX)=qp (dL pX):=rfl
theorem H7(pX:i9):dE (.«dict» pX)=oM (dL pX):=rfl
theorem H8(e_:IE):dE (.«conv» e_)=qq (dE e_):=rfl
theorem H9(e_:IE)(r_:IE):dE (.aeH e_ r_)=pw (dE e_) (dE r_):=rfl
theorem Ia(r_:IE):dE (.aeI r_)=qs (dE r_):=rfl
theorem Ib(e_:IE)(t_:IT)(vJ:II)(c_:IE)(pY:List Ad):dE (.Nc e_ t_ vJ c_ pY)=mf (dE e_) (dT t_) (dI vJ) (dE c_) pY:=rfl
theorem Ic(k_:Nat)(vK:Ad)(vL:Nat)(pY:List Ad):dE (.«lam» k_ vK vL pY)=qt k_ vK vL pY:=rfl
theorem Ie:dL (.«nil»)=nK:=rfl
theorem Ig(e_:IE)(l_:i9):dL (.«cons» e_ l_)=nL (dE e_) (dL l_):=rfl
theorem Ih(x_:Ad):dT (.«loc» x_)=qu x_:=rfl
theorem Ii(x_:Ad):dT (.xC x_)=pz x_:=rfl
theorem Ij(e_:IE)(x_:Ad):dT (.«attr» e_ x_)=qv (dE e_) x_:=rfl
theorem Ik(e_:IE)(i_:IE):dT (.«sub» e_ i_)=qw (dE e_) (dE i_):=rfl
theorem Il(l_:rQ)(n_:Nat):dT (.«tup» l_ n_)=qx (tQ l_) n_:=rfl
theorem Im:tQ (.«nil»)=qy:=rfl
theorem Io(t_:IT)(l_:rQ):tQ (.«cons» t_ l_)=qz (dT t_) (tQ l_):=rfl
theorem Ip(e_:IE):dI (.«val» e_)=qB (dE e_):=rfl
theorem Iq(kK:i9):dI (.«range» kK)=qE (dL kK):=rfl
theorem Ir(e_:IE):dI (.«enum» e_)=qI (dE e_):=rfl
theorem Iu(e_:IE):dI (.«items» e_)=qJ (dE e_):=rfl
theorem Iv(e_:IE):dS (.«expr» e_)=pA (dE e_):=rfl
theorem Iw(t_:IT)(e_:IE):dS (.«assign» t_ e_)=nN (dT t_) (dE e_):=rfl
theorem Iy(x_:Ad)(nG:Op)(e_:IE):dS (.Nf x_ nG e_)=qK x_ nG (dE e_):=rfl
theorem Iz(o_:IE)(x_:Ad)(nG:Op)(e_:IE):dS (.aeJ o_ x_ nG e_)=qN (dE o_) x_ nG (dE e_):=rfl
theorem IB(c_:IE)(b_:g7)(o_:g7):dS (.«ite» c_ b_ o_)=qO (dE c_) (dB b_) (dB o_):=rfl
theorem IC(c_:IE)(b_:g7)(o_:g7):dS (.«while» c_ b_ o_)=pB (dE c_) (dB b_) (dB o_):=rfl
theorem ID(t_:IT)(vJ:II)(b_:g7)(o_:g7):dS (.«for» t_ vJ b_ o_)=pC (dT t_) (dI vJ) (dB b_) (dB o_):=rfl
theorem IF(e_:IE):dS (.«ret» e_)=om (dE e_):=rfl
theorem IG:dS (.«brk»)=qP:=rfl
theorem IH:dS (.«cont»)=qS:=rfl
theorem IJ:dS (.«pass»)=qU:=rfl
theorem IK(e_:IE)(vM:Bool)(vN:Bool)(h_:g7):dS (.aeL e_ vM vN h_)=qW (dE e_) vM vN (dB h_):=rfl
theorem IM(t_:IT)(e_:IE)(vM:Bool)(vN:Bool)(h_:g7):dS (.aeK t_ e_ vM vN h_)=pD (dT t_) (dE e_) vM vN (dB h_):=rfl
theorem IP(t_:IT)(k_:Nat)(vK:Ad)(vL:Nat)(pY:List Ad):dS (.aeM t_ k_ vK vL pY)=qX (dT t_) k_ vK vL pY:=rfl
theorem IQ(w_:Nat):dS (.«bad» w_)=oo w_:=rfl
theorem IU:dB (.«nil»)=oN:=rfl
theorem IV(s_:IS)(l_:g7):dB (.«cons» s_ l_)=oO (dS s_) (dB l_):=rfl
noncomputable def lu(r:RS):R AV:=match r with| .next _ σ=>.ok .none σ| .ret v σ=>.ok v σ| .stuck w=>.stuck w|_=>.stuck 49
def iF(P:jE)(N d:Nat):FD→gX→List AV→gI→R AV:=
 Nat.rec (motive:=λU=>FD→gX→List AV→gI→R AV) (λU U U U=>.stuck 30) (λU ih fd κ vs σ=>go (rS (iC fd.params) vs fd.nH) 48 λvs=>match j9 fd.cells κ σ with
  |(κ,σ)=>go (nJ fd.cells κ fd.params vs .nil σ) 48 λq=>lu (dB fd.body ⟨P,N,ih⟩ q.1 κ q.2)) d
end
section
variable{G:Prop}
theorem iK{p q:Prop}(h:p∧q)(k:p→q→G):G:=k h.1 h.2
theorem kM{p q r:Prop}(h:p∧q∧r)(k:p→q→r→G):G:=k h.1 h.2.1 h.2.2
theorem QR{p q r s:Prop}(h:p∧q∧r∧s)(k:p→q→r→s→G):G:=k h.1 h.2.1 h.2.2.1 h.2.2.2
theorem AA{p q r s t:Prop}(h:p∧q∧r∧s∧t)(k:p→q→r→s→t→G):G:=k h.1 h.2.1 h.2.2.1 h.2.2.2.1 h.2.2.2.2
theorem jn.{u0}{g5:Sort u0}{p:(x0:g5)→Prop}(h:∃x0,p x0)(k:∀x0,p x0→G):G:=h.elim λx0 h=>k x0 h
theorem hid{P:Prop}(k:∀G:Prop,(P→G)→G):P:=k P id
@[elab_as_elim] theorem gen.{u0}{α:Sort u0}{P:α→Prop}(a:α)(k:∀r,a=r→P r):P a:=k a rfl
theorem QS{P:Prop}(H J:Prop→Prop)(h:H P)(j:J P)(k:∀Z,H Z→J Z→Z):P:=k P h j
theorem gV{α:Type _}{x:α}{C:Prop}(h:none=some x):C:=nomatch h
theorem stk{α:Type}{w:Nat}{a:α}{σ:gI}{C:Prop}(h:R.stuck w=R.ok a σ):C:=nomatch h
theorem CR{α β:Type}{C:Prop}(I:α→β→Prop)(k:∀J:α→β→Prop,(∀x y,J x y→I x y)→(∀x y,I x y→J x y)→C):C:=k I (λU U z=>z) λU U z=>z
theorem IW{α β:Type}{I:α→β→Prop}(F:(α→β→Prop)→Prop)(k:∀J:α→β→Prop,(∀x y,I x y→J x y)→F J):F I:=k I λU U z=>z
theorem gW.{u0}{g5:Sort u0}{p q:(x0:g5)→Prop}(h:∃x0,p x0∧q x0)(k:∀x0,p x0→q x0→G):G:=h.elim λx0 h=>k x0 h.1 h.2
theorem jI.{u0}{g5:Sort u0}{p q r:(x0:g5)→Prop}(h:∃x0,p x0∧q x0∧r x0)(k:∀x0,p x0→q x0→r x0→G):G:=h.elim λx0 h=>k x0 h.1 h.2.1 h.2.2
theorem m8.{u0}{g5:Sort u0}{p q r s:(x0:g5)→Prop}(h:∃x0,p x0∧q x0∧r x0∧s x0)(k:∀x0,p x0→q x0→r x0→s x0→G):G:=h.elim λx0 h=>k x0 h.1 h.2.1 h.2.2.1 h.2.2.2
theorem rW.{u0}{g5:Sort u0}{p q r s t:(x0:g5)→Prop}(h:∃x0,p x0∧q x0∧r x0∧s x0∧t x0)(k:∀x0,p x0→q x0→r x0→s x0→t x0→G):G:=h.elim λx0 h=>k x0 h.1 h.2.1 h.2.2.1 h.2.2.2.1 h.2.2.2.2
theorem aer.{u0}{g5:Sort u0}{p q r s t u:(x0:g5)→Prop}(h:∃x0,p x0∧q x0∧r x0∧s x0∧t x0∧u x0)(k:∀x0,p x0→q x0→r x0→s x0→t x0→u x0→G):G:=h.elim λx0 h=>k x0 h.1 h.2.1 h.2.2.1 h.2.2.2.1 h.2.2.2.2.1 h.2.2.2.2.2
theorem aes.{u0}{g5:Sort u0}{p q r s t u v:(x0:g5)→Prop}(h:∃x0,p x0∧q x0∧r x0∧s x0∧t x0∧u x0∧v x0)(k:∀x0,p x0→q x0→r x0→s x0→t x0→u x0→v x0→G):G:=h.elim λx0 h=>k x0 h.1 h.2.1 h.2.2.1 h.2.2.2.1 h.2.2.2.2.1 h.2.2.2.2.2.1 h.2.2.2.2.2.2
theorem aet.{u0}{g5:Sort u0}{p q r s t u v w:(x0:g5)→Prop}(h:∃x0,p x0∧q x0∧r x0∧s x0∧t x0∧u x0∧v x0∧w x0)(k:∀x0,p x0→q x0→r x0→s x0→t x0→u x0→v x0→w x0→G):G:=h.elim λx0 h=>k x0 h.1 h.2.1 h.2.2.1 h.2.2.2.1 h.2.2.2.2.1 h.2.2.2.2.2.1 h.2.2.2.2.2.2.1 h.2.2.2.2.2.2.2
theorem qY.{u0,u1}{g5:Sort u0}{α1:(x0:g5)→Sort u1}{p:(x0:g5)→(x1:α1 x0)→Prop}(h:∃x0 x1,p x0 x1)(k:∀x0 x1,p x0 x1→G):G:=h.elim λx0 h=>h.elim λx1 h=>k x0 x1 h
theorem jA.{u0,u1}{g5:Sort u0}{α1:(x0:g5)→Sort u1}{p q:(x0:g5)→(x1:α1 x0)→Prop}(h:∃x0 x1,p x0 x1∧q x0 x1)(k:∀x0 x1,p x0 x1→q x0 x1→G):G:=h.elim λx0 h=>h.elim λx1 h=>k x0 x1 h.1 h.2
theorem iH.{u0,u1}{g5:Sort u0}{α1:(x0:g5)→Sort u1}{p q r:(x0:g5)→(x1:α1 x0)→Prop}(h:∃x0 x1,p x0 x1∧q x0 x1∧r x0 x1)(k:∀x0 x1,p x0 x1→q x0 x1→r x0 x1→G):G:=h.elim λx0 h=>h.elim λx1 h=>k x0 x1 h.1 h.2.1 h.2.2
theorem lx.{u0,u1}{g5:Sort u0}{α1:(x0:g5)→Sort u1}{p q r s:(x0:g5)→(x1:α1 x0)→Prop}(h:∃x0 x1,p x0 x1∧q x0 x1∧r x0 x1∧s x0 x1)(k:∀x0 x1,p x0 x1→q x0 x1→r x0 x1→s x0 x1→G):G:=h.elim λx0 h=>h.elim λx1 h=>k x0 x1 h.1 h.2.1 h.2.2.1 h.2.2.2
theorem nO.{u0,u1}{g5:Sort u0}{α1:(x0:g5)→Sort u1}{p q r s t:(x0:g5)→(x1:α1 x0)→Prop}(h:∃x0 x1,p x0 x1∧q x0 x1∧r x0 x1∧s x0 x1∧t x0 x1)(k:∀x0 x1,p x0 x1→q x0 x1→r x0 x1→s x0 x1→t x0 x1→G):G:=h.elim λx0 h=>h.elim λx1 h=>k x0 x1 h.1 h.2.1 h.2.2.1 h.2.2.2.1 h.2.2.2.2
theorem aeu.{u0,u1}{g5:Sort u0}{α1:(x0:g5)→Sort u1}{p q r s t u:(x0:g5)→(x1:α1 x0)→Prop}(h:∃x0 x1,p x0 x1∧q x0 x1∧r x0 x1∧s x0 x1∧t x0 x1∧u x0 x1)(k:∀x0 x1,p x0 x1→q x0 x1→r x0 x1→s x0 x1→t x0 x1→u x0 x1→G):G:=h.elim λx0 h=>h.elim λx1 h=>k x0 x1 h.1 h.2.1 h.2.2.1 h.2.2.2.1 h.2.2.2.2.1 h.2.2.2.2.2
theorem aev.{u0,u1}{g5:Sort u0}{α1:(x0:g5)→Sort u1}{p q r s t u v:(x0:g5)→(x1:α1 x0)→Prop}(h:∃x0 x1,p x0 x1∧q x0 x1∧r x0 x1∧s x0 x1∧t x0 x1∧u x0 x1∧v x0 x1)(k:∀x0 x1,p x0 x1→q x0 x1→r x0 x1→s x0 x1→t x0 x1→u x0 x1→v x0 x1→G):G:=h.elim λx0 h=>h.elim λx1 h=>k x0 x1 h.1 h.2.1 h.2.2.1 h.2.2.2.1 h.2.2.2.2.1 h.2.2.2.2.2.1 h.2.2.2.2.2.2
theorem IX.{u0,u1}{g5:Sort u0}{α1:(x0:g5)→Sort u1}{p q r s t u v w:(x0:g5)→(x1:α1 x0)→Prop}(h:∃x0 x1,p x0 x1∧q x0 x1∧r x0 x1∧s x0 x1∧t x0 x1∧u x0 x1∧v x0 x1∧w x0 x1)(k:∀x0 x1,p x0 x1→q x0 x1→r x0 x1→s x0 x1→t x0 x1→u x0 x1→v x0 x1→w x0 x1→G):G:=h.elim λx0 h=>h.elim λx1 h=>k x0 x1 h.1 h.2.1 h.2.2.1 h.2.2.2.1 h.2.2.2.2.1 h.2.2.2.2.2.1 h.2.2.2.2.2.2.1 h.2.2.2.2.2.2.2
theorem aew.{u0,u1,u2}{g5:Sort u0}{α1:(x0:g5)→Sort u1}{α2:(x0:g5)→(x1:α1 x0)→Sort u2}{p:(x0:g5)→(x1:α1 x0)→(x2:α2 x0 x1)→Prop}(h:∃x0 x1 x2,p x0 x1 x2)(k:∀x0 x1 x2,p x0 x1 x2→G):G:=h.elim λx0 h=>h.elim λx1 h=>h.elim λx2 h=>k x0 x1 x2 h
theorem ym.{u0,u1,u2}{g5:Sort u0}{α1:(x0:g5)→Sort u1}{α2:(x0:g5)→(x1:α1 x0)→Sort u2}{p q:(x0:g5)→(x1:α1 x0)→(x2:α2 x0 x1)→Prop}(h:∃x0 x1 x2,p x0 x1 x2∧q x0 x1 x2)(k:∀x0 x1 x2,p x0 x1 x2→q x0 x1 x2→G):G:=h.elim λx0 h=>h.elim λx1 h=>h.elim λx2 h=>k x0 x1 x2 h.1 h.2
theorem IY.{u0,u1,u2}{g5:Sort u0}{α1:(x0:g5)→Sort u1}{α2:(x0:g5)→(x1:α1 x0)→Sort u2}{p q r:(x0:g5)→(x1:α1 x0)→(x2:α2 x0 x1)→Prop}(h:∃x0 x1 x2,p x0 x1 x2∧q x0 x1 x2∧r x0 x1 x2)(k:∀x0 x1 x2,p x0 x1 x2→q x0 x1 x2→r x0 x1 x2→G):G:=h.elim λx0 h=>h.elim λx1 h=>h.elim λx2 h=>k x0 x1 x2 h.1 h.2.1 h.2.2
theorem tR.{u0,u1,u2}{g5:Sort u0}{α1:(x0:g5)→Sort u1}{α2:(x0:g5)→(x1:α1 x0)→Sort u2}{p q r s:(x0:g5)→(x1:α1 x0)→(x2:α2 x0 x1)→Prop}(h:∃x0 x1 x2,p x0 x1 x2∧q x0 x1 x2∧r x0 x1 x2∧s x0 x1 x2)(k:∀x0 x1 x2,p x0 x1 x2→q x0 x1 x2→r x0 x1 x2→s x0 x1 x2→G):G:=h.elim λx0 h=>h.elim λx1 h=>h.elim λx2 h=>k x0 x1 x2 h.1 h.2.1 h.2.2.1 h.2.2.2
theorem QT.{u0,u1,u2}{g5:Sort u0}{α1:(x0:g5)→Sort u1}{α2:(x0:g5)→(x1:α1 x0)→Sort u2}{p q r s t:(x0:g5)→(x1:α1 x0)→(x2:α2 x0 x1)→Prop}(h:∃x0 x1 x2,p x0 x1 x2∧q x0 x1 x2∧r x0 x1 x2∧s x0 x1 x2∧t x0 x1 x2)(k:∀x0 x1 x2,p x0 x1 x2→q x0 x1 x2→r x0 x1 x2→s x0 x1 x2→t x0 x1 x2→G):G:=h.elim λx0 h=>h.elim λx1 h=>h.elim λx2 h=>k x0 x1 x2 h.1 h.2.1 h.2.2.1 h.2.2.2.1 h.2.2.2.2
theorem aex.{u0,u1,u2}{g5:Sort u0}{α1:(x0:g5)→Sort u1}{α2:(x0:g5)→(x1:α1 x0)→Sort u2}{p q r s t u:(x0:g5)→(x1:α1 x0)→(x2:α2 x0 x1)→Prop}(h:∃x0 x1 x2,p x0 x1 x2∧q x0 x1 x2∧r x0 x1 x2∧s x0 x1 x2∧t x0 x1 x2∧u x0 x1 x2)(k:∀x0 x1 x2,p x0 x1 x2→q x0 x1 x2→r x0 x1 x2→s x0 x1 x2→t x0 x1 x2→u x0 x1 x2→G):G:=h.elim λx0 h=>h.elim λx1 h=>h.elim λx2 h=>k x0 x1 x2 h.1 h.2.1 h.2.2.1 h.2.2.2.1 h.2.2.2.2.1 h.2.2.2.2.2
theorem aey.{u0,u1,u2}{g5:Sort u0}{α1:(x0:g5)→Sort u1}{α2:(x0:g5)→(x1:α1 x0)→Sort u2}{p q r s t u v:(x0:g5)→(x1:α1 x0)→(x2:α2 x0 x1)→Prop}(h:∃x0 x1 x2,p x0 x1 x2∧q x0 x1 x2∧r x0 x1 x2∧s x0 x1 x2∧t x0 x1 x2∧u x0 x1 x2∧v x0 x1 x2)(k:∀x0 x1 x2,p x0 x1 x2→q x0 x1 x2→r x0 x1 x2→s x0 x1 x2→t x0 x1 x2→u x0 x1 x2→v x0 x1 x2→G):G:=h.elim λx0 h=>h.elim λx1 h=>h.elim λx2 h=>k x0 x1 x2 h.1 h.2.1 h.2.2.1 h.2.2.2.1 h.2.2.2.2.1 h.2.2.2.2.2.1 h.2.2.2.2.2.2
theorem aez.{u0,u1,u2}{g5:Sort u0}{α1:(x0:g5)→Sort u1}{α2:(x0:g5)→(x1:α1 x0)→Sort u2}{p q r s t u v w:(x0:g5)→(x1:α1 x0)→(x2:α2 x0 x1)→Prop}(h:∃x0 x1 x2,p x0 x1 x2∧q x0 x1 x2∧r x0 x1 x2∧s x0 x1 x2∧t x0 x1 x2∧u x0 x1 x2∧v x0 x1 x2∧w x0 x1 x2)(k:∀x0 x1 x2,p x0 x1 x2→q x0 x1 x2→r x0 x1 x2→s x0 x1 x2→t x0 x1 x2→u x0 x1 x2→v x0 x1 x2→w x0 x1 x2→G):G:=h.elim λx0 h=>h.elim λx1 h=>h.elim λx2 h=>k x0 x1 x2 h.1 h.2.1 h.2.2.1 h.2.2.2.1 h.2.2.2.2.1 h.2.2.2.2.2.1 h.2.2.2.2.2.2.1 h.2.2.2.2.2.2.2
theorem aeA.{u0,u1,u2,u3}{g5:Sort u0}{α1:(x0:g5)→Sort u1}{α2:(x0:g5)→(x1:α1 x0)→Sort u2}{α3:(x0:g5)→(x1:α1 x0)→(x2:α2 x0 x1)→Sort u3}{p:(x0:g5)→(x1:α1 x0)→(x2:α2 x0 x1)→(x3:α3 x0 x1 x2)→Prop}(h:∃x0 x1 x2 x3,p x0 x1 x2 x3)(k:∀x0 x1 x2 x3,p x0 x1 x2 x3→G):G:=h.elim λx0 h=>h.elim λx1 h=>h.elim λx2 h=>h.elim λx3 h=>k x0 x1 x2 x3 h
theorem IZ.{u0,u1,u2,u3}{g5:Sort u0}{α1:(x0:g5)→Sort u1}{α2:(x0:g5)→(x1:α1 x0)→Sort u2}{α3:(x0:g5)→(x1:α1 x0)→(x2:α2 x0 x1)→Sort u3}{p q:(x0:g5)→(x1:α1 x0)→(x2:α2 x0 x1)→(x3:α3 x0 x1 x2)→Prop}(h:∃x0 x1 x2 x3,p x0 x1 x2 x3∧q x0 x1 x2 x3)(k:∀x0 x1 x2 x3,p x0 x1 x2 x3→q x0 x1 x2 x3→G):G:=h.elim λx0 h=>h.elim λx1 h=>h.elim λx2 h=>h.elim λx3 h=>k x0 x1 x2 x3 h.1 h.2
theorem CU.{u0,u1,u2,u3}{g5:Sort u0}{α1:(x0:g5)→Sort u1}{α2:(x0:g5)→(x1:α1 x0)→Sort u2}{α3:(x0:g5)→(x1:α1 x0)→(x2:α2 x0 x1)→Sort u3}{p q r:(x0:g5)→(x1:α1 x0)→(x2:α2 x0 x1)→(x3:α3 x0 x1 x2)→Prop}(h:∃x0 x1 x2 x3,p x0 x1 x2 x3∧q x0 x1 x2 x3∧r x0 x1 x2 x3)(k:∀x0 x1 x2 x3,p x0 x1 x2 x3→q x0 x1 x2 x3→r x0 x1 x2 x3→G):G:=h.elim λx0 h=>h.elim λx1 h=>h.elim λx2 h=>h.elim λx3 h=>k x0 x1 x2 x3 h.1 h.2.1 h.2.2
theorem QU.{u0,u1,u2,u3}{g5:Sort u0}{α1:(x0:g5)→Sort u1}{α2:(x0:g5)→(x1:α1 x0)→Sort u2}{α3:(x0:g5)→(x1:α1 x0)→(x2:α2 x0 x1)→Sort u3}{p q r s:(x0:g5)→(x1:α1 x0)→(x2:α2 x0 x1)→(x3:α3 x0 x1 x2)→Prop}(h:∃x0 x1 x2 x3,p x0 x1 x2 x3∧q x0 x1 x2 x3∧r x0 x1 x2 x3∧s x0 x1 x2 x3)(k:∀x0 x1 x2 x3,p x0 x1 x2 x3→q x0 x1 x2 x3→r x0 x1 x2 x3→s x0 x1 x2 x3→G):G:=h.elim λx0 h=>h.elim λx1 h=>h.elim λx2 h=>h.elim λx3 h=>k x0 x1 x2 x3 h.1 h.2.1 h.2.2.1 h.2.2.2
theorem I6.{u0,u1,u2,u3}{g5:Sort u0}{α1:(x0:g5)→Sort u1}{α2:(x0:g5)→(x1:α1 x0)→Sort u2}{α3:(x0:g5)→(x1:α1 x0)→(x2:α2 x0 x1)→Sort u3}{p q r s t:(x0:g5)→(x1:α1 x0)→(x2:α2 x0 x1)→(x3:α3 x0 x1 x2)→Prop}(h:∃x0 x1 x2 x3,p x0 x1 x2 x3∧q x0 x1 x2 x3∧r x0 x1 x2 x3∧s x0 x1 x2 x3∧t x0 x1 x2 x3)(k:∀x0 x1 x2 x3,p x0 x1 x2 x3→q x0 x1 x2 x3→r x0 x1 x2 x3→s x0 x1 x2 x3→t x0 x1 x2 x3→G):G:=h.elim λx0 h=>h.elim λx1 h=>h.elim λx2 h=>h.elim λx3 h=>k x0 x1 x2 x3 h.1 h.2.1 h.2.2.1 h.2.2.2.1 h.2.2.2.2
theorem aeB.{u0,u1,u2,u3}{g5:Sort u0}{α1:(x0:g5)→Sort u1}{α2:(x0:g5)→(x1:α1 x0)→Sort u2}{α3:(x0:g5)→(x1:α1 x0)→(x2:α2 x0 x1)→Sort u3}{p q r s t u:(x0:g5)→(x1:α1 x0)→(x2:α2 x0 x1)→(x3:α3 x0 x1 x2)→Prop}(h:∃x0 x1 x2 x3,p x0 x1 x2 x3∧q x0 x1 x2 x3∧r x0 x1 x2 x3∧s x0 x1 x2 x3∧t x0 x1 x2 x3∧u x0 x1 x2 x3)(k:∀x0 x1 x2 x3,p x0 x1 x2 x3→q x0 x1 x2 x3→r x0 x1 x2 x3→s x0 x1 x2 x3→t x0 x1 x2 x3→u x0 x1 x2 x3→G):G:=h.elim λx0 h=>h.elim λx1 h=>h.elim λx2 h=>h.elim λx3 h=>k x0 x1 x2 x3 h.1 h.2.1 h.2.2.1 h.2.2.2.1 h.2.2.2.2.1 h.2.2.2.2.2
theorem aeC.{u0,u1,u2,u3}{g5:Sort u0}{α1:(x0:g5)→Sort u1}{α2:(x0:g5)→(x1:α1 x0)→Sort u2}{α3:(x0:g5)→(x1:α1 x0)→(x2:α2 x0 x1)→Sort u3}{p q r s t u v:(x0:g5)→(x1:α1 x0)→(x2:α2 x0 x1)→(x3:α3 x0 x1 x2)→Prop}(h:∃x0 x1 x2 x3,p x0 x1 x2 x3∧q x0 x1 x2 x3∧r x0 x1 x2 x3∧s x0 x1 x2 x3∧t x0 x1 x2 x3∧u x0 x1 x2 x3∧v x0 x1 x2 x3)(k:∀x0 x1 x2 x3,p x0 x1 x2 x3→q x0 x1 x2 x3→r x0 x1 x2 x3→s x0 x1 x2 x3→t x0 x1 x2 x3→u x0 x1 x2 x3→v x0 x1 x2 x3→G):G:=h.elim λx0 h=>h.elim λx1 h=>h.elim λx2 h=>h.elim λx3 h=>k x0 x1 x2 x3 h.1 h.2.1 h.2.2.1 h.2.2.2.1 h.2.2.2.2.1 h.2.2.2.2.2.1 h.2.2.2.2.2.2
theorem QV.{u0,u1,u2,u3}{g5:Sort u0}{α1:(x0:g5)→Sort u1}{α2:(x0:g5)→(x1:α1 x0)→Sort u2}{α3:(x0:g5)→(x1:α1 x0)→(x2:α2 x0 x1)→Sort u3}{p q r s t u v w:(x0:g5)→(x1:α1 x0)→(x2:α2 x0 x1)→(x3:α3 x0 x1 x2)→Prop}(h:∃x0 x1 x2 x3,p x0 x1 x2 x3∧q x0 x1 x2 x3∧r x0 x1 x2 x3∧s x0 x1 x2 x3∧t x0 x1 x2 x3∧u x0 x1 x2 x3∧v x0 x1 x2 x3∧w x0 x1 x2 x3)(k:∀x0 x1 x2 x3,p x0 x1 x2 x3→q x0 x1 x2 x3→r x0 x1 x2 x3→s x0 x1 x2 x3→t x0 x1 x2 x3→u x0 x1 x2 x3→v x0 x1 x2 x3→w x0 x1 x2 x3→G):G:=h.elim λx0 h=>h.elim λx1 h=>h.elim λx2 h=>h.elim λx3 h=>k x0 x1 x2 x3 h.1 h.2.1 h.2.2.1 h.2.2.2.1 h.2.2.2.2.1 h.2.2.2.2.2.1 h.2.2.2.2.2.2.1 h.2.2.2.2.2.2.2
end
section
variable{α:Type}{C:Prop}
noncomputable def jS(l:List α)(f:α→List α→Bool):Bool:=List.casesOn l false f
noncomputable def jh(o:Option α)(f:α→Bool):Bool:=Option.casesOn o false f
noncomputable def on(i j:Nat)(f:i=j→Bool):Bool:=dite (i=j) f λU=>false
theorem iV{i j:Nat}{f:i=j→Bool}(h:on i j f=true)(k:∀e,f e=true→C):C:=by
 unfold on at h
 by_cases e:i=j
 .rw[dif_pos e]at h;exact k e h
 .rw[dif_neg e]at h;cases h
theorem gQ{a b:Bool}(h:(a&&b)=true)(k:a=true→b=true→C):C:=by
 cases a
 .cases h
 .exact k rfl h
theorem oQ{a b:Bool}(h:(a||b)=true)(k:a=true→C)(k2:b=true→C):C:=by
 cases a
 .exact k2 h
 .exact k rfl
theorem CV{a b:Bool}(h:(a||b)=true):a=true∨b=true:=(Bool.or_eq_true ..).mp h
theorem jW{a:Bool}(h:(!a)=true):a=false:=by cases a;rfl;cases h
@[elab_as_elim] theorem jX{l:List α}{b:Bool}{P:List α→Prop}(h:(l.isEmpty&&b)=true)(k:b=true→P []):P l:=by
 cases l
 .exact k h
 .cases h
@[elab_as_elim] theorem m9{o:Option α}{b:Bool}{P:Option α→Prop}(h:(o.isNone&&b)=true)(k:b=true→P none):P o:=by
 cases o
 .exact k h
 .cases h
@[elab_as_elim] theorem lP{l:List α}{f:α→List α→Bool}{P:List α→Prop}(h:jS l f=true)(k:∀a r,f a r=true→P (a::r)):P l:=by
 cases l
 .cases h
 .exact k _ _ h
@[elab_as_elim] theorem qZ{o:Option α}{f:α→Bool}{P:Option α→Prop}(h:jh o f=true)(k:∀a,f a=true→P (some a)):P o:=by
 cases o
 .cases h
 .exact k _ h
@[elab_as_elim] theorem yn{a b:α}{d:Decidable (a=b)}{c:Bool}{P:α→Prop}(h:(decide (a=b)&&c)=true)(k:c=true→P b):P a:=
 gQ h λh1 h2=>by rw[of_decide_eq_true h1];exact k h2
end
noncomputable def Ad.num:Ad→Nat
 | .h=>1
 | .o p=>2*p.num
 | .i p=>2*p.num+1
theorem Ad.w5:∀p:Ad,0<p.num
 | .h=>Nat.one_pos
 | .o p=>by have:=p.w5;simp only[Ad.num];lia
 | .i p=>by simp only[Ad.num];lia
theorem Ad.w6:∀{p q:Ad},p.num=q.num→p=q
 | .h,.h,_=>rfl
 | .h,.o q,e=>by have:=q.w5;simp only[Ad.num]at e;lia
 | .h,.i q,e=>by have:=q.w5;simp only[Ad.num]at e;lia
 | .o p,.h,e=>by have:=p.w5;simp only[Ad.num]at e;lia
 | .i p,.h,e=>by have:=p.w5;simp only[Ad.num]at e;lia
 | .o p,.o q,e=>by simp only[Ad.num]at e;rw[Ad.w6 (p:=p) (q:=q) (by lia)]
 | .i p,.i q,e=>by simp only[Ad.num]at e;rw[Ad.w6 (p:=p) (q:=q) (by lia)]
 | .o p,.i q,e=>by simp only[Ad.num]at e;lia
 | .i p,.o q,e=>by simp only[Ad.num]at e;lia
theorem Ad.pF:∀p:Ad,p.succ.num=p.num+1
 | .h=>rfl
 | .o p=>rfl
 | .i p=>by show(Ad.o p.succ).num=_;simp only[Ad.num,Ad.pF p];lia
theorem Ad.oR(p:Ad):p.succ≠p:=λe=>by have:=p.pF;rw[e]at this;lia
theorem Ad.succ_inj{p q:Ad}(e:p.succ=q.succ):p=q:=Ad.w6 (by have h1:=p.pF;have h2:=q.pF;rw[e]at h1;lia)
noncomputable instance:DecidableEq Ad:=λp q=>decidable_of_iff (p.num=q.num) ⟨Ad.w6,congrArg _⟩
theorem Ad.eq_iff:∀{p q:Ad},Ad.eq p q=true↔p=q
 | .h,.h=>by simp[Ad.eq]
 | .h,.o q=>by simp[Ad.eq]
 | .h,.i q=>by simp[Ad.eq]
 | .o p,.h=>by simp[Ad.eq]
 | .i p,.h=>by simp[Ad.eq]
 | .o p,.o q=>by
  have:=Ad.eq_iff (p:=p) (q:=q);show Ad.eq p q=true↔_;rw[this];constructor
  .rintro rfl;rfl
  .intro e;cases e;rfl
 | .i p,.i q=>by
  have:=Ad.eq_iff (p:=p) (q:=q);show Ad.eq p q=true↔_;rw[this];constructor
  .rintro rfl;rfl
  .intro e;cases e;rfl
 | .o p,.i q=>by simp[Ad.eq]
 | .i p,.o q=>by simp[Ad.eq]
section
variable{β:Type}
theorem BT.get_nil(p:Ad):(BT.nil:BT β).get p=none:=rfl
theorem BT.CW:∀(p q:Ad)(o:β),(BT.one o p).get q=if q=p then some o else none
 | .h,.h,o=>rfl
 | .h,.o q,o=>by rw[if_neg (by simp)];rfl
 | .h,.i q,o=>by rw[if_neg (by simp)];rfl
 | .o p,.h,o=>by rw[if_neg (by simp)];rfl
 | .i p,.h,o=>by rw[if_neg (by simp)];rfl
 | .o p,.i q,o=>by rw[if_neg (by simp)];rfl
 | .i p,.o q,o=>by rw[if_neg (by simp)];rfl
 | .o p,.o q,o=>(BT.CW p q o).trans (by simp)
 | .i p,.i q,o=>(BT.CW p q o).trans (by simp)
theorem BT.get_set:∀(p q:Ad)(t:BT β)(o:β),(t.set p o).get q=if q=p then some o else t.get q
 |p,q,.nil,o=>BT.CW p q o
 | .h,.h,.node v l r,o=>rfl
 | .h,.o q,.node v l r,o=>by rw[if_neg (by simp)];rfl
 | .h,.i q,.node v l r,o=>by rw[if_neg (by simp)];rfl
 | .o p,.h,.node v l r,o=>by rw[if_neg (by simp)];rfl
 | .i p,.h,.node v l r,o=>by rw[if_neg (by simp)];rfl
 | .o p,.i q,.node v l r,o=>by rw[if_neg (by simp)];rfl
 | .i p,.o q,.node v l r,o=>by rw[if_neg (by simp)];rfl
 | .o p,.o q,.node v l r,o=>(BT.get_set p q l o).trans (by simp;rfl)
 | .i p,.i q,.node v l r,o=>(BT.get_set p q r o).trans (by simp;rfl)
end
theorem gI.get_set(σ:gI)(p q:Ad)(o:gY):(σ.set p o).get q=if q=p then some o else σ.get q:=BT.get_set p q σ.t o
theorem gI.kB(σ:gI)(q:Ad)(o:gY):(σ.push o).get q=if q=σ.n then some o else σ.get q:=BT.get_set σ.n q σ.t o
theorem gI.yp(σ:gI)(p:Ad)(o:gY):(σ.set p o).n=σ.n:=rfl
theorem gI.vU(σ:gI)(o:gY):(σ.push o).n=σ.n.succ:=rfl
section
variable{α β:Type}
theorem lQ(a b:List α):app a b=a++b:=by
 induction a with
 |nil=>rfl
 |cons x a ih=>exact congrArg (x::·) ih
theorem w7(f:α→β)(l:List α):lL f l=l.map f:=by
 induction l with
 |nil=>rfl
 |cons x a ih=>exact congrArg (f x::·) ih
theorem QW(l:List α):∀n,(List.rec (motive:=λU=>Nat→Nat) (λn=>n) (λU U ih n=>ih (Nat.succ n)) l:Nat→Nat) n=n+l.length:=by
 induction l with
 |nil=>intro n;rfl
 |cons x a ih=>intro n;show(List.rec (motive:=λU=>Nat→Nat) (λn=>n) (λU U ih n=>ih (Nat.succ n)) a:Nat→Nat) (n+1)=_;rw[ih];simp;lia
theorem jo(l:List α):iC l=l.length:=by unfold iC;rw[QW];lia
theorem QX(l:List α):∀acc,(List.rec (motive:=λU=>List α→List α) (λacc=>acc) (λa U ih acc=>ih (a::acc)) l:List α→List α) acc=l.reverse++acc:=by
 induction l with
 |nil=>intro acc;rfl
 |cons x a ih=>intro acc;show(List.rec (motive:=λU=>List α→List α) (λacc=>acc) (λa U ih acc=>ih (a::acc)) a:List α→List α) (x::acc)=_;rw[ih];simp
theorem I7(l:List α):yb l=l.reverse:=by unfold yb;rw[QX];simp
theorem mJ:∀(l:List α)(i:Nat),i3 l i=l[i]?
 |[],i=>by simp[i3]
 |a::l,0=>rfl
 |a::l,i+1=>by show i3 l i=_;rw[mJ l i];simp
theorem CX:∀(l:List α)(i:Nat)(v:α),tI l i v=l.set i v
 |[],i,v=>rfl
 |a::l,0,v=>rfl
 |a::l,i+1,v=>by show a::tI l i v=_;rw[CX l i];simp
theorem yq:∀(l:List α)(i:Nat),tJ l i=l.take i
 |[],i=>by simp[tJ]
 |a::l,0=>rfl
 |a::l,i+1=>by show a::tJ l i=_;rw[yq l i];simp
theorem rX:∀(l:List α)(i:Nat),oK l i=l.drop i
 |[],i=>by simp[oK]
 |a::l,0=>rfl
 |a::l,i+1=>by show oK l i=_;rw[rX l i];simp
theorem I8(l:List α):isNil l=l.isEmpty:=by induction l<;>rfl
theorem sU(b:Bool):jR b= !b:=by induction b<;>rfl
end
theorem oq(a b:Nat):ie a b=decide (a=b):=by
 by_cases h:a=b
 .rw[decide_eq_true h,h];exact Nat.beq_refl b
 .rw[decide_eq_false h];cases q:ie a b with|false=>rfl|true=>exact absurd (mH q) h
theorem blt_dec(a b:Nat):Nat.blt a b=decide (a<b):=by
 by_cases h:a<b
 .rw[decide_eq_true h];exact Nat.ble_eq_true_of_le h
 .rw[decide_eq_false h];cases q:Nat.blt a b with|false=>rfl|true=>exact absurd (kT q) h
theorem yr(a b:Nat):iS a b=decide (a≤b):=by
 by_cases h:a≤b
 .rw[decide_eq_true h];exact Nat.ble_eq_true_of_le h
 .rw[decide_eq_false h];cases q:iS a b with|false=>rfl|true=>exact absurd (kT q) h
theorem CY(a b:Int):tK a b=decide (a=b):=by
 induction a with
 |ofNat m=>induction b with
  |ofNat n=>show ie m n=_;rw[oq];exact decide_eq_decide.mpr ⟨λh=>by rw[h],λh=>by cases h;rfl⟩
  |negSucc n=>show false=_;rw[decide_eq_false];intro h;cases h
 |negSucc m=>induction b with
  |ofNat n=>show false=_;rw[decide_eq_false];intro h;injection h
  |negSucc n=>show ie m n=_;rw[oq];exact decide_eq_decide.mpr ⟨λh=>by rw[h],λh=>by cases h;rfl⟩
theorem nP(a b:Int):kz a b=decide (a<b):=by
 induction a with
 |ofNat m=>induction b with
  |ofNat n=>show Nat.blt m n=_;rw[blt_dec];exact decide_eq_decide.mpr ⟨λh=>Int.ofNat_lt.mpr h,λh=>Int.ofNat_lt.mp h⟩
  |negSucc n=>show false=_;rw[decide_eq_false];intro h;have:(m:Int)<Int.negSucc n:=h;lia
 |negSucc m=>induction b with
  |ofNat n=>show true=_;rw[decide_eq_true];show Int.negSucc m<(n:Int);lia
  |negSucc n=>show Nat.blt n m=_;rw[blt_dec];exact decide_eq_decide.mpr (by constructor<;>intro h<;>lia)
theorem AB(a b:Int):wW a b=decide (a≤b):=by
 unfold wW;rw[nP]
 by_cases h:a≤b
 .rw[decide_eq_true h,decide_eq_false (by lia)]
 .rw[decide_eq_false h,decide_eq_true (by lia)]
def Small(l:List Nat):Prop:=∀c∈l,c<2097152
theorem QY(l:List Nat):∀a,(List.rec (motive:=λU=>Nat→Nat) (λa=>a) (λc U ih a=>ih (Nat.add (Nat.mul a 2097152) c)) l:Nat→Nat) a=l.foldl (λn c=>n*2097152+c) a:=by
 induction l with
 |nil=>intro a;rfl
 |cons c l ih=>intro a;exact ih _
theorem encL_eq(l:List Nat):iT l=l.foldl (λn c=>n*2097152+c) 1:=QY l 1
theorem CZ(l:List Nat)(c:Nat):iT (l++[c])=iT l*2097152+c:=by rw[encL_eq,encL_eq,List.foldl_append];rfl
theorem snoc_ind{P:List Nat→Prop}(h0:P [])(h1:∀l c,P l→P (l++[c]))(l:List Nat):P l:=by
 have:∀r:List Nat,P r.reverse:=by
  intro r
  induction r with
  |nil=>exact h0
  |cons c r ih=>rw[List.reverse_cons];exact h1 _ _ ih
 have:=this l.reverse
 rwa [List.reverse_reverse]at this
theorem I9(l:List Nat):1≤iT l:=by
 induction l using snoc_ind with
 |h0=>decide
 |h1 l c ih=>rw[CZ];lia
theorem QZ(n:Nat)(acc:List Nat):vI 0 n acc=acc:=rfl
theorem C0(f n:Nat)(acc:List Nat):vI (f+1) n acc=if n≤1 then acc else vI f (n/2097152) (n%2097152::acc):=by
 show(gT (vI f (n/2097152) (n%2097152::acc)) acc (iS n 1):List Nat)=_;rw[yr]
 by_cases h:n≤1
 .rw[if_pos h,decide_eq_true h]
 .rw[if_neg h,decide_eq_false h]
theorem Q0:∀(l:List Nat),Small l→∀(f:Nat)(acc:List Nat),l.length≤f→vI f (iT l) acc=l++acc:=by
 intro l
 induction l using snoc_ind with
 |h0=>intro _ f acc _;cases f with|zero=>rfl|succ f=>rw[C0,if_pos (by decide)];rfl
 |h1 l c ih=>
  intro hs f acc hf;rw[jm]at hf
  induction f with
  |zero=>simp at hf
  |succ f=>
   have hc:c<2097152:=hs c (by simp);have h1:=I9 l;rw[C0,CZ,if_neg (by lia)];rw[show(iT l*2097152+c)/2097152=iT l from by rw[Nat.mul_comm,Nat.mul_add_div (by decide),Nat.div_eq_of_lt hc];rfl,show(iT l*2097152+c)%2097152=c from by rw[Nat.mul_comm,Nat.mul_add_mod,Nat.mod_eq_of_lt hc]];rw[ih (λd hd=>hs d (Ht _ hd)) f _ (by simp at hf;lia)];simp
theorem Q1(l:List Nat):l.length≤m2 (iT l):=by
 have:2^l.length≤iT l:=by
  induction l using snoc_ind with
  |h0=>decide
  |h1 l c ih=>rw[CZ,jm,Nat.pow_add];simp only[List.length_singleton,Nat.pow_one];lia
 exact(Nat.le_log2 (by have:=I9 l;lia)).mpr this
theorem dec_enc(h:Small l):dec (iT l)=l:=by unfold dec;rw[Q0 l h _ _ (Q1 l),nB]
theorem Ja(hl:Small l)(hr:Small r)(e:iT l=iT r):l=r:=by rw[←dec_enc hl,e,dec_enc hr]
open PySem (Value Addr Obj Heap Shared Str Data DictEntry World Around PyData Reads ReadsAll)
theorem AC(h:hY.strOk s=true):Small s.cps.toList:=λc hc=>by
 have:=Array.all_eq_true_iff_forall_mem.mp h c (by simpa using hc);have:=of_decide_eq_true this;lia
noncomputable abbrev cap:Nat:=1000000
def oS(s:Str)(n:Nat):Prop:=hY.strOk s=true∧n=iT s.cps.toList
theorem oS.dec(h:oS s n):dec n=s.cps.toList:=by rw[h.2];exact dec_enc (AC h.1)
theorem oS.inj(h:oS s n)(k:oS t n):s=t:=by
 have e:s.cps.toList=t.cps.toList:=by rw[←h.dec,←k.dec]
 cases s;cases t
 exact congrArg Str.mk (Array.toList_inj.mp e)
def SR(s:Str)(n:Nat):Prop:=oS s n∧s.cps.size≤cap
theorem SR.dec(h:SR s n):dec n=s.cps.toList:=h.1.dec
theorem SR.enc(h:SR s n):n=iT s.cps.toList:=h.1.2
theorem SR.inj(h:SR s n)(k:SR t n):s=t:=h.1.inj k.1
theorem log2_lt(a:Nat):a<2^(m2 a+1):=Nat.lt_log2_self
theorem Jb(a b:Nat):rR a b=if m2 a+1<65536 then some ((b*2^(m2 a+1)+a)*65536+(m2 a+1))else none:=by
 show(gT none (some _) (Nat.blt (Nat.succ (m2 a)) 65536):Option Nat)=_;rw[blt_dec]
 by_cases h:m2 a+1<65536
 .rw[if_pos h,decide_eq_true h];rfl
 .rw[if_neg h,decide_eq_false h]
theorem dm{a b i j n:Nat}(e:a*n+i=b*n+j)(hi:i<n)(hj:j<n):i=j∧a=b:=by
 have h0:0<n:=n6 (kg _) hi;have h1:∀{a i:Nat},i<n→(a*n+i)%n=i:=λ{a i} h=>by rw[Nat.mul_comm,Nat.mul_add_mod,Nat.mod_eq_of_lt h]
 have h2:∀{a i:Nat},i<n→(a*n+i)/n=a:=λ{a i} h=>by rw[Nat.mul_comm,Nat.mul_add_div h0,Nat.div_eq_of_lt h];rfl
 exact⟨(h1 hi).symm.trans ((congrArg (·%n) e).trans (h1 hj)),(h2 hi).symm.trans ((congrArg (·/n) e).trans (h2 hj))⟩
theorem C2(h:rR a b=some n):m2 a+1<65536∧(b*2^(m2 a+1)+a)*65536+(m2 a+1)=n:=by
 rw[Jb]at h
 by_cases q:m2 a+1<65536
 .rw[if_pos q]at h;exact⟨q,gP h⟩
 .rw[if_neg q]at h;exact gV h
theorem Jc{a b a' b' n:Nat}(h:rR a b=some n)(h':rR a' b'=some n):a=a'∧b=b':=by
 have h:=C2 h;have h':=C2 h';have e:=dm (h.2.trans h'.2.symm) h.1 h'.1;exact dm (e.2.trans (by rw[e.1])) (log2_lt a) (e.1▸log2_lt a')
theorem AD(h:rR a b=some n):0<n:=(C2 h).2▸Nat.succ_pos _
theorem Jd(h:l9 i=l9 j):i=j:=by
 induction i with
 |ofNat m=>induction j with
  |ofNat n=>
   have h:2*m=2*n:=h;rw[show m=n by lia]
  |negSucc n=>have h:2*m=2*n+1:=h;lia
 |negSucc m=>induction j with
  |ofNat n=>have h:2*m+1=2*n:=h;lia
  |negSucc n=>
   have h:2*m+1=2*n+1:=h;rw[show m=n by lia]
def AE(a:Option Nat)(b:Option Nat):Option Nat:=match a,b with
 |some a,some b=>rR a (b+1)
 |_,_=>none
theorem Je(a:Option Nat)(l:List (Option Nat)):codes (a::l)=AE a (codes l):=by
 show(hG none (λb=>hG none (λc=>rR b (Nat.succ c)) (codes l)) a:Option Nat)=_
 induction a<;>cases codes l<;>rfl
theorem Q2:codes []=some 0:=rfl
mutual
def jF:hY→Option Nat
 | .none=>some 2
 | .bool _=>none
 | .int i=>some (8*l9 i)
 | .str s=>if hY.strOk s=true then some (8*iT s.cps.toList+1)else none
 | .tuple xs=>(nc xs).map λc=>8*c+3
 | .list xs=>(nc xs).map λc=>8*c+4
 | .dict _=>none
def nc:List hY→Option Nat
 |[]=>some 0
 |x::xs=>AE (jF x) (nc xs)
end
theorem sV(h:AE a b=some n):∃x y,a=some x∧b=some y∧rR x (y+1)=some n:=by
 induction a with
 |none=>exact gV h
 |some x=>induction b with
  |none=>exact gV h
  |some y=>exact⟨x,y,rfl,rfl,h⟩
theorem tg{a b i j:Nat}(e:8*a+i=8*b+j)(hi:i<8)(hj:j<8):i=j∧a=b:=by
 rw[Nat.mul_comm 8 a,Nat.mul_comm 8 b]at e;exact dm e hi hj
theorem tn{C:Prop}(e:8*a+i=8*b+j)(h:(Nat.blt i 8&&(Nat.blt j 8&& !(ie i j)))=true:=by rfl):C:=by
 refine gQ h λh1 h=>gQ h λh2 h=>?_;rw[(tg e (kT h1) (kT h2)).1,Nat.beq_refl]at h;exact gU h
theorem C3{P:hY→Prop}(h0:P .none)(h1:∀b,P (.bool b))(h2:∀i,P (.int i))(h3:∀s,P (.str s))(h4:∀xs,(∀x∈xs,P x)→P (.list xs))(h5:∀xs,(∀x∈xs,P x)→P (.tuple xs))(h6:∀l,P (.dict l))(d:hY):P d:=
 hY.rec (motive_1:=P) (motive_2:=λxs=>∀x∈xs,P x) (motive_3:=λU=>True) (motive_4:=λU=>True) h0 h1 h2 h3 h4 h5 (λl U=>h6 l) (λx h=>nomatch h) (λx xs i j y h=>(iL.mp h).elim (λe=>e▸i) (j y)) trivial (λU U U U=>trivial) (λU U U U=>trivial) d
theorem C4{C:Prop}(h:jF (.str s)=some c)(k:hY.strOk s=true→8*iT s.cps.toList+1=c→C):C:=by
 have h:(if hY.strOk s=true then some (8*iT s.cps.toList+1)else none)=some c:=h
 by_cases q:hY.strOk s=true
 .rw[if_pos q]at h;exact k q (gP h)
 .rw[if_neg q]at h;exact gV h
theorem rY{C:hY→Nat→Prop}{d:hY}{c:Nat}(h:jF d=some c)(k0:C .none (8*0+2))(k1:∀i,C (.int i) (8*l9 i+0))(k2:∀s,hY.strOk s=true→C (.str s) (8*iT s.cps.toList+1))(k3:∀xs n,nc xs=some n→C (.tuple xs) (8*n+3))(k4:∀xs n,nc xs=some n→C (.list xs) (8*n+4)):C d c:=by
 cases d with
 |none=>exact(gP h:8*0+2=c)▸k0
 |int i=>exact(gP h:8*l9 i+0=c)▸k1 i
 |str s=>exact C4 h λq e=>e▸k2 s q
 |tuple xs=>exact gW (pW.mp h) λn hn e=>e▸k3 xs n hn
 |list xs=>exact gW (pW.mp h) λn hn e=>e▸k4 xs n hn
 |_=>exact gV h
theorem Jf(ih:∀x∈xs,∀e c,jF x=some c→jF e=some c→x=e)(h:nc xs=some c)(k:nc ys=some c):xs=ys:=by
 induction xs generalizing ys c with
 |nil=>
  cases ys with
  |nil=>rfl
  |cons y ys=>exact iH (sV k) λU U U U k=>absurd (gP h▸AD k) (jQ _)
 |cons x xs ih'=>
  refine iH (sV h) λa b h1 h2 h=>?_
  cases ys with
  |nil=>exact absurd (gP k▸AD h) (jQ _)
  |cons y ys=>
   refine iH (sV k) λa' b' k1 k2 k=>?_;have e:=Jc h k;rw[ih x hW y a h1 (e.1▸k1),ih' (λx hx=>ih x (hO _ hx)) h2 (Nat.succ.inj e.2▸k2)]
theorem C5(d:hY):∀(e:hY)(c:Nat),jF d=some c→jF e=some c→d=e:=
 C3 (P:=λd=>∀e c,jF d=some c→jF e=some c→d=e)
 (λe c h k=>rY (C:=λe c=>8*0+2=c→hY.none=e) k (λq=>rfl) (λj q=>tn q) (λr hr q=>tn q) (λys m hm q=>tn q) (λys m hm q=>tn q) (gP h)) (λb e c h k=>gV h)
 (λi e c h k=>rY (C:=λe c=>8*(l9 i)+0=c→hY.int i=e) k (λq=>tn q) (λj q=>congrArg _ (Jd (tg q (by decide) (by decide)).2)) (λr hr q=>tn q) (λys m hm q=>tn q) (λys m hm q=>tn q) (gP h))
 (λs e c h k=>C4 h λhs e1=>rY (C:=λe c=>8*(iT s.cps.toList)+1=c→.str s=e) k (λq=>tn q) (λj q=>tn q) (λr hr q=>congrArg _ (oS.inj ⟨hs,rfl⟩ ⟨hr,(tg q (by decide) (by decide)).2⟩)) (λys m hm q=>tn q) (λys m hm q=>tn q) e1)
 (λxs ih e c h k=>gW (pW.mp h) λn hn e1=>rY (C:=λe c=>8*n+4=c→.list xs=e) k (λq=>tn q) (λj q=>tn q) (λr hr q=>tn q) (λys m hm q=>tn q) (λys m hm q=>congrArg _ (Jf ih hn ((tg q (by decide) (by decide)).2▸hm))) e1)
 (λxs ih e c h k=>gW (pW.mp h) λn hn e1=>rY (C:=λe c=>8*n+3=c→.tuple xs=e) k (λq=>tn q) (λj q=>tn q) (λr hr q=>tn q) (λys m hm q=>congrArg _ (Jf ih hn ((tg q (by decide) (by decide)).2▸hm))) (λys m hm q=>tn q) e1) (λl e c h k=>gV h) d
theorem q9(d:hY):∀c,jF d=some c→d.canLay0=true:=
 have all:∀xs:List hY,(∀x∈xs,∀c,jF x=some c→x.canLay0=true)→∀c,nc xs=some c→hY.canLayAll0 xs=true:=λxs ih=>by
  induction xs with
  |nil=>exact λU U=>rfl
  |cons x xs ih'=>exact λc h=>iH (sV h) λa b h1 h2 U=>lJ.2 ⟨ih x hW a h1,ih' (λx hx=>ih x (hO _ hx)) b h2⟩
 C3 (P:=λd=>∀c,jF d=some c→d.canLay0=true) (λU U=>rfl) (λU U U=>rfl) (λU U U=>rfl) (λs c h=>C4 h λq U=>q) (λxs ih c h=>gW (pW.mp h) λn hn U=>all xs ih n hn) (λxs ih c h=>gW (pW.mp h) λn hn U=>all xs ih n hn) (λl c h=>gV h) d
theorem eqvAll_eq(ih:∀x∈xs,∀e c c',jF x=some c→jF e=some c'→hY.eqv x e=true→x=e)(h:nc xs=some c)(k:nc ys=some c')(q:hY.eqvAll xs ys=true):xs=ys:=by
 induction xs generalizing ys c c' with
 |nil=>
  cases ys with
  |nil=>rfl
  |cons y ys=>exact gU q
 |cons x xs ih'=>
  refine iH (sV h) λa b h1 h2 U=>?_
  cases ys with
  |nil=>exact gU q
  |cons y ys=>
   refine iH (sV k) λa' b' k1 k2 U=>gQ q λq1 q2=>?_;rw[ih x hW y a a' h1 k1 q1,ih' (λx hx=>ih x (hO _ hx)) h2 k2 q2]
theorem Q3(d:hY):∀(e:hY)(c c':Nat),jF d=some c→jF e=some c'→hY.eqv d e=true→d=e:=
 C3 (P:=λd=>∀e c c',jF d=some c→jF e=some c'→hY.eqv d e=true→d=e)
 (λe c c' h k=>rY (C:=λe U=>hY.eqv (.none) e=true→hY.none=e) k (λq=>rfl) (λj q=>gU q) (λr hr q=>gU q) (λys m hm q=>gU q) (λys m hm q=>gU q)) (λb e c c' h k=>gV h)
 (λi e c c' h k=>rY (C:=λe U=>hY.eqv (.int i) e=true→hY.int i=e) k (λq=>gU q) (λj q=>congrArg _ (eq_of_beq q)) (λr hr q=>gU q) (λys m hm q=>gU q) (λys m hm q=>gU q))
 (λs e c c' h k=>rY (C:=λe U=>hY.eqv (.str s) e=true→hY.str s=e) k (λq=>gU q) (λj q=>gU q) (λr hr q=>congrArg _ (eq_of_beq q)) (λys m hm q=>gU q) (λys m hm q=>gU q))
 (λxs ih e c c' h k=>gW (pW.mp h) λn hn U=>rY (C:=λe U=>hY.eqv (.list xs) e=true→hY.list xs=e) k (λq=>gU q) (λj q=>gU q) (λr hr q=>gU q) (λys m hm q=>gU q) (λys m hm q=>congrArg _ (eqvAll_eq ih hn hm q)))
 (λxs ih e c c' h k=>gW (pW.mp h) λn hn U=>rY (C:=λe U=>hY.eqv (.tuple xs) e=true→hY.tuple xs=e) k (λq=>gU q) (λj q=>gU q) (λr hr q=>gU q) (λys m hm q=>congrArg _ (eqvAll_eq ih hn hm q)) (λys m hm q=>gU q)) (λl e c c' h k=>gV h) d
theorem C6(h:jF d=some c)(k:jF e=some c'):hY.eqv d e=decide (c=c'):=by
 by_cases q:c=c'
 .subst q;rw[decide_eq_true rfl,C5 d e c h k];exact PySem.SeqAt.eqv_refl e (q9 e c k)
 .rw[decide_eq_false q]
  induction z:hY.eqv d e with
  |false=>rfl
  |true=>
   have:=Q3 d e c c' h k z;subst this;rw[h]at k;exact absurd (gP k) q
abbrev Pl:=Ad→Option Addr
inductive VR(φ:Pl):gG→AV→Prop
 |none:VR φ .none .none
 |bool (b:Bool):VR φ (.bool b) (.bool b)
 |int (i:Int) (t:PySem.Tok):VR φ (.int i t) (.int i)
 |str {s:Str} {n:Nat} (t:PySem.Tok) (h:SR s n):VR φ (.str s t) (.str n)
 |ref {a:Addr} {p:Ad} (h:φ p=some a):VR φ (.ref a) (.ref p)
inductive il(φ:Pl):List gG→List AV→Prop
 |nil:il φ [] []
 |cons {x:gG} {v:AV} {xs:List gG} {vs:List AV}:VR φ x v→il φ xs vs→il φ (x::xs) (v::vs)
def Le(φ ψ:Pl):Prop:=∀p a,φ p=some a→ψ p=some a
theorem Le.refl(φ:Pl):Le φ φ:=λU U h=>h
theorem Le.trans(h:Le φ ψ)(k:Le ψ χ):Le φ χ:=λp a e=>k p a (h p a e)
theorem VR.mono(l:Le φ ψ)(h:VR φ x v):VR ψ x v:=by
 induction h with
 |none=>exact .none
 |bool b=>exact .bool b
 |int i t=>exact .int i t
 |str t h=>exact .str t h
 |ref h=>exact .ref (l _ _ h)
theorem il.mono(l:Le φ ψ)(h:il φ xs vs):il ψ xs vs:=by
 induction h with
 |nil=>exact .nil
 |cons a _ ih=>exact .cons (a.mono l) ih
theorem il.length(h:il φ xs vs):xs.length=vs.length:=by
 induction h with
 |nil=>rfl
 |cons _ _ ih=>rw[mZ,mZ,ih]
theorem il.append(h:il φ xs vs)(k:il φ ys ws):il φ (xs++ys) (vs++ws):=by
 induction h with
 |nil=>exact k
 |cons a _ ih=>exact .cons a ih
theorem il.one(h:VR φ x v):il φ [x] [v]:=.cons h .nil
theorem il.take(n:Nat)(h:il φ xs vs):il φ (xs.take n) (vs.take n):=by
 induction h generalizing n with
 |nil=>rw[List.take_nil,List.take_nil];exact .nil
 |cons a h ih=>cases n with
  |zero=>exact .nil
  |succ n=>exact .cons a (ih n)
theorem il.drop(n:Nat)(h:il φ xs vs):il φ (xs.drop n) (vs.drop n):=by
 induction h generalizing n with
 |nil=>rw[List.drop_nil,List.drop_nil];exact .nil
 |cons a h ih=>cases n with
  |zero=>exact .cons a h
  |succ n=>exact ih n
theorem il.get(i:Nat)(h:il φ xs vs):vs[i]? =some v→∃x,xs[i]? =some x∧VR φ x v:=by
 induction h generalizing i with
 |nil=>exact λe=>gV e
 |cons a h ih=>cases i with
  |zero=>exact λe=>⟨_,rfl,gP e▸a⟩
  |succ i=>exact λe=>ih i e
theorem il.set(i:Nat)(h:il φ xs vs)(k:VR φ x v):il φ (xs.set i x) (vs.set i v):=by
 induction h generalizing i with
 |nil=>exact .nil
 |cons a h ih=>cases i with
  |zero=>exact .cons k h
  |succ i=>exact .cons a (ih i)
theorem VR.int_inv(h:VR φ x (.int b)):∃t,x= .int b t:=
 VR.casesOn (motive:=λx v U=>v= .int b→∃t,x= .int b t) h nofun (λU=>nofun) (λi t e=>⟨t,congrArg (gG.int · t) (AV.int.inj e)⟩) (λU U=>nofun) (λU=>nofun) rfl
theorem il.cons_inv(h:il φ xs (v::vs)):∃x ys,xs=x::ys∧VR φ x v∧il φ ys vs:=
 il.casesOn (motive:=λxs us U=>us=v::vs→∃x ys,xs=x::ys∧VR φ x v∧il φ ys vs) h nofun (λ{x u ys us} a b e=>⟨x,ys,rfl,(List.cons.inj e).1▸a,(List.cons.inj e).2▸b⟩) rfl
theorem il.nil_inv(h:il φ xs []):xs=[]:=List.eq_nil_of_length_eq_zero h.length
def Jg(φ:Pl)(σ:gI)(h:Heap):Prop:=
 (∀p xs,σ.get p=some (.tuple xs)→∃a o vs n,φ p=some a∧h.get? a=some o∧o.cls= .type "tuple"∧o.data= .seq vs n∧il φ vs.toList xs)∧
 (∀p xs,σ.get p=some (.list xs)→∃a o vs n,φ p=some a∧h.get? a=some o∧o.cls= .type "list"∧o.data= .seq vs n∧il φ vs.toList xs)
noncomputable def rg:hY→Bool
 | .list _=>false
 | .tuple xs=>yt xs
 |_=>true
where yt:List hY→Bool
 |[]=>true
 |x::xs=>rg x&&yt xs
theorem Jh(L:Bool)(σ:gI)(n:Nat)(p:Ad):code L σ (n+1) (.ref p)=match σ.get p with|some o=>Av L (code L σ n) o|none=>none:=by
 show(hG none (Av L (code L σ n)) (σ.get p):Option Nat)=_
 cases σ.get p<;>rfl
section
variable{φ:Pl}{σ:gI}{h:Heap}{L:Bool}
theorem Ji(f:AV→Option Nat)(n:Nat)(ih:∀v x c,f v=some c→VR φ x v→∃d as,mD h x d as∧jF d=some c∧d.depth≤n∧(L=false→rg d=true)):
 ∀(vs:List AV)(xs:List gG)(c:Nat),codes (lL f vs)=some c→il φ xs vs→∃ds as,sN h xs ds as∧nc ds=some c∧hY.depthAll ds≤n∧(L=false→rg.yt ds=true):=by
 intro vs xs c e r
 induction r generalizing c with
 |nil=>
  rw[show lL f []=[]from rfl,Q2]at e;obtain rfl:=gP e;exact⟨[],[],.nil,rfl,kg _,λU=>rfl⟩
 | @cons _ v _ vs a r ihr=>
  rw[show lL f (v::vs)=f v::lL f vs from rfl,Je]at e;refine iH (sV e) λx y h1 h2 h3=>?_;refine lx (ih v _ x h1 a) λd as r1 r2 r3 r4=>?_;refine lx (ihr y h2) λds bs s1 s2 s3 s4=>?_;refine⟨d::ds,as++bs,.cons r1 s1,?_,?_,λhL=>?_⟩
  .show AE (jF d) (nc ds)=_;rw[r2,s2];exact h3
  .exact Nat.max_le.mpr ⟨r3,s3⟩
  .exact lJ.2 ⟨r4 hL,s4 hL⟩
theorem Q4(S:Jg φ σ h):∀(n:Nat)(v:AV)(x:gG)(c:Nat),code L σ n v=some c→VR φ x v→∃d as,mD h x d as∧jF d=some c∧d.depth≤n∧(L=false→rg d=true):=by
 intro n
 induction n with
 |zero=>intro v x c e _;exact gV e
 |succ n ih=>
  intro v x c e hv
  induction hv with
  |none=>
   have e:some 2=some c:=e;exact⟨.none,[],.none,e,kg _,λU=>rfl⟩
  |bool b=>exact gV e
  |int i t=>
   have e:some (8*l9 i)=some c:=e;exact⟨.int i,[],.int i t,e,kg _,λU=>rfl⟩
  | @str s m t hs=>
   have e:some (8*m+1)=some c:=e;refine⟨.str s,[],.str s t,?_,kg _,λU=>rfl⟩;show(if hY.strOk s=true then _ else _)=_;rw[if_pos hs.1.1,←hs.enc];exact e
  | @ref a p hp=>
   rw[Jh]at e
   induction q:σ.get p with
   |none=>rw[q]at e;exact gV e
   |some o=>
    rw[q]at e
    induction o with
    |tuple ys=>
     refine I6 (S.1 p ys q) λa' ob vs k yu ho hc hd hv=>?_;rw[hp]at yu;obtain rfl:=gP yu;have e:(hG none (λc=>some (8*c+3)) (codes (lL (code L σ n) ys)):Option Nat)=some c:=e
     induction w:codes (lL (code L σ n) ys)with
     |none=>rw[w]at e;exact gV e
     |some m=>
      rw[w]at e;refine lx (Ji _ n ih ys _ m w hv) λds as r1 r2 r3 r4=>?_;refine⟨.tuple ds,as,.tuple ho hc hd r1,?_,?_,λhL=>r4 hL⟩
      .show(nc ds).map _=_;rw[r2];exact e
      .exact mn r3
    |list ys=>
     refine I6 (S.2 p ys q) λa' ob vs k yu ho hc hd hv=>?_;rw[hp]at yu;obtain rfl:=gP yu;have kk:∀(L:Bool)(z:Option Nat),(gT none (hG none (λc=>some (8*c+4)) z) L:Option Nat)=some c→L=true∧∃m,z=some m∧8*m+4=c:=by
      intro L z e
      induction L<;>induction z<;>first|(exact gV e;done)|(cases e;exact⟨rfl,_,rfl,rfl⟩)
     obtain⟨hL,m,w,rfl⟩:=kk L (codes (lL (code L σ n) ys)) e;refine lx (Ji _ n ih ys _ m w hv) λds as r1 r2 r3 r4=>?_;refine⟨.list ds,_,.list ho hc hd r1,?_,?_,λhL'=>by rw[hL]at hL';cases hL'⟩
     .show(nc ds).map _=_;rw[r2];rfl
     .exact mn r3
    |_=>exact gV e
end
open PySem hiding run load update alloc
mutual
noncomputable def vV(w:jb):hY→Int
 | .none=>0xFCA86420
 | .int i=>hashInt i
 | .str x=>hashStr w x
 | .tuple xs=>reduceHash (Builtin.Tuple.tupleHashOf (C7 w xs))
 |_=>0
noncomputable def C7(w:jb):List hY→List Int
 |[]=>[]
 |x::xs=>vV w x::C7 w xs
end
theorem Q5(w:jb)(xs:List hY):C7 w xs=xs.map (vV w):=by
 induction xs with
 |nil=>rfl
 |cons x xs ih=>exact congrArg (vV w x::·) ih
def rZ(d:hY):Prop:=(∃c,jF d=some c)∧rg d=true
theorem Q6(hc:nc xs=some n)(hn:rg.yt xs=true):∀x∈xs,rZ x:=by
 induction xs generalizing n with
 |nil=>exact λx hx=>nomatch hx
 |cons y ys ih=>exact iH (sV hc) λa b h1 h2 U=>gQ hn λn1 n2 x hx=>(iL.mp hx).elim (λe=>e▸⟨⟨a,h1⟩,n1⟩) (ih h2 n2 x)
theorem rZ.items(h:rZ (.tuple xs)):∀x∈xs,rZ x:=h.1.elim λc hc=>gW (pW.mp hc) λn hn U=>Q6 hn h.2
theorem Q7(h:x∈xs):x.depth≤hY.depthAll xs:=by
 induction h with
 |head=>exact Nat.le_max_left _ _
 |tail _ _ ih=>exact ia ih (Nat.le_max_right _ _)
section
variable{prog:lg}{w:jb}
theorem Q8(h:∀tk,Q 0xFCA86420 {s with toks:=tk}):gL (iJ prog w) A (pyHash .none) Q E s:=by
 have hT:s.TypeIs .none "NoneType":=rfl;refine gH (wpAny_cRoomFor_byValue rfl ?_);refine gH (wpAny_specialOf hT F.slot_NoneType_hash.lookup ?_);refine jx (decide_eq_false (by rw[beq_builtin_none];exact jD)) ?_;refine gH (wpAny_specialOf hT F.slot_NoneType_hash.lookup ?_);refine gH (wpAny_callSpecialIfBoundUnlessNone?_slot hT F.slot_NoneType_hash (l7 F.slot_NoneType_hash hT F.entry_NoneType_hash
  (show gL _ _ (retInt 0xFCA86420) _ _ s from wpAny_ret_mkInt ?_) (F.args_NoneType_hash_1 _)))
 exact gO (h _)
theorem Jj{h:Heap}{v:gG}{d:hY}{as:List Addr}{P:gG→hY→Prop}(r:mD h v d as)(k:rZ d)(h0:P .none .none)(h1:∀i t,P (.int i t) (.int i))(h2:∀x t,P (.str x t) (.str x))
 (h3:∀a o items nn xs as,h.get? a=some o→o.cls= .type "tuple"→o.data= .seq items nn→sN h items.toList xs as→(∀n,(hY.tuple xs).depth≤n→∃m,n=m+1∧∀x∈xs,x.depth≤m∧rZ x)→P (.ref a) (.tuple xs)):P v d:=by
 revert k;exact mD.casesOn (motive_1:=λv d U U=>rZ d→P v d) r (λU=>h0) (λb k=>k.1.elim λU e=>nomatch e) (λi t U=>h1 i t) (λx t U=>h2 x t) (λU U U U k=>gU k.2) (λ{a o vs n xs as} e c q z k=>h3 a o vs n xs as e c q z λn hd=>by
  cases n with
  |zero=>exact nomatch hd
  |succ m=>exact⟨m,rfl,λx hx=>⟨ia (Q7 hx) (Nat.le_of_succ_le_succ hd),k.items x hx⟩⟩) λU U U U U k=>k.1.elim λU e=>nomatch e
def AF(prog:lg)(w:jb)(n:Nat):Prop:=∀(d:hY)(A:g6)(E:gG→gJ→Prop)(s:gJ)(v:gG)(as:List Addr)(Q:Int→gJ→Prop),mD s.heap v d as→d.depth≤n→rZ d→A.units+n<i'→
 (∀tk,Q (vV w d) {s with toks:=tk})→gL (iJ prog w) A (pyHash v) Q E s
theorem Q9(ih:AF prog w n)(hu:A.units+n<i'):∀{vs:List gG}{as:List Addr},sN hp vs ds as→(∀x∈ds,x.depth≤n∧rZ x)→∀(s:gJ)(b:Array Int),s.heap=hp→
 (∀c tk,c.toList=b.toList++ds.map (vV w)→Q c {s with toks:=tk})→gL (iJ prog w) A (forIn vs b λx b=>do let h←pyHash x;pure (ForInStep.yield (b.push h))) Q E s:=by
 induction ds with
 |nil=>exact λ{vs as} hr U s b U h=>by cases hr;exact gO (h b s.toks (nB _).symm)
 |cons d ds ih'=>
  intro vs as hr hk s b hs h
  cases hr with
  |cons r1 r2=>
   rw[List.forIn_cons];exact gH (gH (ih d A E s _ _ _ (hs▸r1) (hk d hW).1 (hk d hW).2 hu λtk=>gO (ih' r2 (λx hx=>hk x (hO _ hx)) _ _ hs λc tk e=>h c tk (by rw[e,Array.toList_push,tG];rfl))))
theorem Ra(h:Q (reduceHash x) s):gL (iJ prog w) A (pyHashByItsType.reduced x) Q E s:=by
 unfold reduceHash at h;show gL _ _ (if _ then _ else _) Q E _
 by_cases q:(decide (-(2:Int)^63≤x)&&decide (x<2^63))=true
 .rw[if_pos q]at h;exact vE (decide_eq_true q) (gO h)
 .rw[if_neg q]at h;exact jx (decide_eq_false q) (gH (sO (gO h)))
theorem Jk{n:Nat}(ih:∀m,n=m+1→AF prog w m):AF prog w n:=λd A E s v as Q r hd k hu h=>by
 revert hd h;refine Jj (P:=λv d=>d.depth≤n→(∀tk,Q (vV w d) {s with toks:=tk})→gL (iJ prog w) A (pyHash v) Q E s) r k (λU h=>Q8 h) (λi t U h=>wpAny_pyHash_int (h _)) (λx t U h=>wpAny_pyHash_str (h _)) λa o items nn xs as ho hc hdat hr hk hd h=>?_;refine gW (hk n hd) λm em hm=>?_;have im:=ih m em;subst em;have hT:s.TypeIs (.ref a) "tuple":=⟨o,ho,hc⟩;refine gH (wpAny_cRoomFor (n6 (lK _ _) hu) ?_);refine gH (wpAny_specialOf hT F.slot_tuple_hash.lookup ?_);refine jx (decide_eq_false (by rw[beq_builtin_none];exact jD)) ?_;refine gH (wpAny_specialOf hT F.slot_tuple_hash.lookup ?_);refine gH (wpAny_callSpecialIfBoundUnlessNone?_slot hT F.slot_tuple_hash (l7 F.slot_tuple_hash hT F.entry_tuple_hash ?_ (F.args_tuple_hash_1 _)));show gL _ _ (Builtin.Tuple.tupleItemsOf (.ref a)>>=_) _ _ s;refine gH (wpAny_tupleItemsOf ho hdat (gH ?_));rw[←Array.forIn_toList];refine Q9 im (by show A.units+1+m<i';lia) hr hm s #[] rfl λc tk e=>?_;show gL _ _ (retInt (Builtin.Tuple.tupleHashOf c.toList)) _ _ _;refine wpAny_ret_mkInt (Ra ?_);rw[e];exact(congrArg (λz=>Q (reduceHash (Builtin.Tuple.tupleHashOf z)) _) (Q5 w xs)).mp (h _)
theorem Rb(n:Nat):AF prog w n:=by
 induction n with
 |zero=>exact Jk λm e=>nomatch e
 |succ n ih=>exact Jk λm e=>Nat.succ.inj e▸ih
end
inductive ji{α β:Type}(R:α→β→Prop):List α→List β→Prop
 |nil:ji R [] []
 |cons {a:α} {b:β} {l:List α} {r:List β}:R a b→ji R l r→ji R (a::l) (b::r)
section
variable{α β:Type}{R S:α→β→Prop}
theorem ji.mono(f:∀a b,R a b→S a b)(h:ji R l r):ji S l r:=by
 induction h with
 |nil=>exact .nil
 |cons a _ ih=>exact .cons (f _ _ a) ih
theorem ji.length(h:ji R l r):l.length=r.length:=by
 induction h with
 |nil=>rfl
 |cons _ _ ih=>rw[mZ,mZ,ih]
theorem ji.append(h:ji R l r)(k:ji R l' r'):ji R (l++l') (r++r'):=by
 induction h with
 |nil=>exact k
 |cons a _ ih=>exact .cons a ih
theorem ji.getL:∀{l:List α}{r:List β}(i:Nat){a:α},ji R l r→l[i]? =some a→∃b,r[i]? =some b∧R a b
 |_,_,_,_,.nil,e=>by exact gV e
 |_,_,0,_,.cons a h,e=>by obtain rfl:=gP e;exact⟨_,rfl,a⟩
 |_,_,i+1,_,.cons a h,e=>by
  refine gW (ji.getL i h (by simpa using e)) λy h1 h2=>?_;exact⟨y,by simpa using h1,h2⟩
theorem ji.vW:∀{l:List α}{r:List β}(i:Nat){b:β},ji R l r→r[i]? =some b→∃a,l[i]? =some a∧R a b
 |_,_,_,_,.nil,e=>by exact gV e
 |_,_,0,_,.cons a h,e=>by obtain rfl:=gP e;exact⟨_,rfl,a⟩
 |_,_,i+1,_,.cons a h,e=>by
  refine gW (ji.vW i h (by simpa using e)) λy h1 h2=>?_;exact⟨y,by simpa using h1,h2⟩
theorem ji.set:∀{l:List α}{r:List β}(i:Nat){a:α}{b:β},ji R l r→R a b→ji R (l.set i a) (r.set i b)
 |_,_,_,_,_,.nil,_=>.nil
 |_,_,0,_,_,.cons a h,k=>.cons k h
 |_,_,i+1,_,_,.cons a h,k=>.cons a (ji.set i h k)
theorem ji.Rc{γ:Type}{f:γ→β}{l:List α}{r:List γ}:ji R l (r.map f)↔ji (λa c=>R a (f c)) l r:=by
 constructor
 .intro h
  induction r generalizing l with
  |nil=>cases h;exact .nil
  |cons c r ih=>cases h with|cons a h=>exact .cons a (ih h)
 .intro h
  induction h with
  |nil=>exact .nil
  |cons a _ ih=>exact .cons a ih
end
section
variable{prog:lg}{w:jb}
theorem C8{M:Model}{A:g6}{E:gG→gJ→Prop}{s:gJ}{α β:Type}{f:α→β→Sem (ForInStep β)}{x:α}{l:List α}{b:β}{Q:β→gJ→Prop}(h:gL M A (f x b) (λr s=>gL M A (match r with| .done b=>pure b| .yield b=>forIn l b f) Q E s) E s):gL M A (forIn (x::l) b f) Q E s:=by
 rw[List.forIn_cons];exact gH h
def C9(prog:lg)(w:jb)(n:Nat):Prop:=∀(d:hY)(A:g6)(E:gG→gJ→Prop)(s:gJ)(v:gG)(as:List Addr)(Q:Bool→gJ→Prop),mD s.heap v d as→d.depth≤n→rZ d→Q true s→gL (iJ prog w) A (eqIsQuiet n v) Q E s
theorem Jl{A:g6}{E:gG→gJ→Prop}{s:gJ}{β:Type}{n:Nat}{b0:β}{Q:β→gJ→Prop}{g:ForInStep β}(h:Q b0 s):∀{l:List gG},(∀v∈l,∀Q:Bool→gJ→Prop,Q true s→gL (iJ prog w) A (eqIsQuiet n v) Q E s)→gL (iJ prog w) A (forIn l b0 λy b=>eqIsQuiet n y>>=λq=>if(!q)=true then pure g else pure (.yield b0)) Q E s:=λ{l} hl=>by
 induction l with
 |nil=>exact gO h
 |cons x l ih=>exact C8 (gH (hl x hW _ (gO (ih λv hv=>hl v (hO _ hv)))))
theorem Rd(r:sN h vs ds as)(hv:v∈vs):∃d bs,mD h v d bs∧d∈ds:=by
 induction vs generalizing ds as with
 |nil=>cases hv
 |cons x vs ih=>
  cases r with
  |cons r1 r2=>
   cases hv with
   |head=>exact⟨_,_,r1,hW⟩
   |tail _ hv=>exact jA (ih r2 hv) λd bs r hx=>⟨d,bs,r,hO _ hx⟩
theorem Jm{n:Nat}(ih:∀m,n=m+1→C9 prog w m):C9 prog w n:=λd A E s v as Q r hd k h=>by
 have bv:∀v,(match v with| .ref _=>False|_=>True)→gL (iJ prog w) A (eqIsQuiet n v) Q E s:=λv hv=>by
  rw[eqIsQuiet_byValue n (by cases v<;>first|rfl|exact hv.elim)];exact gO h
 revert hd;refine Jj (P:=λv d=>d.depth≤n→gL (iJ prog w) A (eqIsQuiet n v) Q E s) r k (λU=>bv _ trivial) (λi t U=>bv _ trivial) (λx t U=>bv _ trivial) λa o items nn xs as ho hc hdat hr hk hd=>?_;refine gW (hk n hd) λm em hm=>?_;have im:=ih m em;subst em;have hT:s.TypeIs (.ref a) "tuple":=⟨o,ho,hc⟩;unfold eqIsQuiet;refine gH (wpAny_specialOf hT F.slot_tuple_eq.lookup ?_);show gL _ _ (isInstance (.ref a) (.type "tuple")>>=_) _ _ s;refine gH (wpAny_isInstance hT isSubtype_tuple_tuple ?_);refine jx (decide_eq_false jD) ?_;refine gH (wpAny_seqItems ho hdat (gH ?_));rw[←Array.forIn_toList];refine Jl ?_ λv hv Q q=>?_
 .exact gO h
 .exact jA (Rd hr hv) λd bs r hx=>im d _ _ _ _ _ _ r (hm d hx).1 (hm d hx).2 q
theorem Re(n:Nat):C9 prog w n:=by
 induction n with
 |zero=>exact Jm λm e=>nomatch e
 |succ n ih=>exact Jm λm e=>Nat.succ.inj e▸ih
def iX(w:jb)(h:Heap)(v:gG)(H:Int)(c:Nat):Prop:=∃d as,mD h v d as∧jF d=some c∧rg d=true∧d.depth≤5∧H=vV w d
theorem iX.hash_eq{h:Heap}{v v':gG}{H H':Int}{c:Nat}(x:iX w h v H c)(y:iX w h v' H' c):H=H':=by
 refine nO x λd U U h1 U U eq3=>?_;subst eq3;refine nO y λd' U U k1 U U eq4=>?_;subst eq4;rw[C5 d d' c h1 k1]
theorem iX.same{h:Heap}{v:gG}{H H':Int}{c c':Nat}(x:iX w h v H c)(y:iX w h v H' c'):c=c':=by
 refine nO x λd U r h1 U U U=>?_;refine nO y λd' U r' k1 U U U=>?_;have:=SeqAt.Reads.unique d d' _ _ _ (q9 d c h1) r r';subst this;rw[h1]at k1;exact gP k1
theorem iX.eqBool(hu:A.units+5<i')(x:iX w s.heap v H c)(y:iX w s.heap v' H' c')
 (h:Q (decide (c=c')) s):gL (iJ prog w) A (eqBool v v') Q E s:=by
 refine nO x λd U r h1 U hd U=>?_;refine nO y λd' U r' k1 U hd' U=>?_;rw[←C6 h1 k1]at h;exact SeqAt.eqBoolOverData prog w A E s v v' d d' _ _ Q r r' (q9 d c h1) (q9 d' c' k1) (by have:=Nat.min_le_left d.depth d'.depth;lia) h
theorem iX.quiet(x:iX w s.heap v H c)(h:Q true s):gL (iJ prog w) A (eqIsQuiet 8 v) Q E s:=by
 refine nO x λd U r h1 hn hd U=>?_;exact Re 8 d _ _ _ _ _ _ r (ia hd (by decide)) ⟨⟨c,h1⟩,hn⟩ h
theorem iX.pyHash(hu:A.units+5<i')(x:iX w s.heap v H c)(h:∀tk,Q H {s with toks:=tk}):
 gL (iJ prog w) A (pyHash v) Q E s:=by
 refine nO x λd U r h1 hn hd eq5=>?_;subst eq5;exact Rb 5 d _ _ _ _ _ _ r hd ⟨⟨c,h1⟩,hn⟩ hu h
theorem Rf(r:mD h (.str s t) d as):d= .str s:=by cases r;rfl
def yw(w:jb)(h:Heap)(es:List kJ)(cs:List Nat):Prop:=ji (λe c=>iX w h e.key e.hash c) es cs
theorem Da{cs:List Nat}(hn:cs.Nodup){c i j:Nat}(hi:cs[i]? =some c)(hj:cs[j]? =some c):i=j:=
 (List.getElem?_inj (List.getElem?_eq_some_iff.mp hi).1 hn).mp (hi.trans hj.symm)
theorem Rg{cs:List Nat}(hn:cs.Nodup){c i:Nat}(hi:cs[i]? =some c):cs.findIdx? (λx=>decide (x=c))=some i:=by
 refine jn (List.getElem?_eq_some_iff.mp hi) λhl he=>?_
 induction q:cs.findIdx? (λx=>decide (x=c))with
 |none=>
  rw[List.findIdx?_eq_none_iff]at q;have:=q c (he▸List.getElem_mem hl);simp at this
 |some j=>
  refine gW (List.findIdx?_eq_some_iff_getElem.mp q) λhj h1 U=>?_;rw[Da hn hi (j:=j) (by rw[pV hj];simpa using h1)]
theorem Rh{cs:List Nat}{c:Nat}(h:∀i:Nat,cs[i]?≠some c):cs.findIdx? (λx=>decide (x=c))=none:=by
 rw[List.findIdx?_eq_none_iff];intro x hx;refine jn (List.mem_iff_getElem?.mp hx) λi hi=>?_;rw[decide_eq_false λe=>h i (by rw[hi,e])]
theorem iX.kinds(x:iX w h v H c):(∃x t,v= .str x t)∨(∃i t,v= .int i t)∨(∃a,v= .ref a)∨v= .none:=by
 refine iH x λd U r c1 U=>?_
 cases r with
 |none=>exact .inr (.inr (.inr rfl))
 |int i t=>exact .inr (.inl ⟨_,_,rfl⟩)
 |str x t=>exact .inl ⟨_,_,rfl⟩
 |bool b=>exact gV c1
 |_=>exact .inr (.inr (.inl ⟨_,rfl⟩))
theorem share{α:Type _}{P:α→Prop}{G:Prop}(x:α)(a:P x→G)(b:P x):G:=a b
theorem aeD{M:Model}{A:g6}{E:gG→gJ→Prop}{s:gJ}{β:Type}{Q:β→gJ→Prop}{c:Prop}[Decidable c]{a b:Sem Bool}{k:Bool→Sem β}(m:∀tl:Sem Bool,(∀Q':Bool→gJ→Prop,Q' false s→gL M A tl Q' E s)→gL M A (tl>>=k) Q E s)(ha:∀Q':Bool→gJ→Prop,Q' false s→gL M A a Q' E s)(hb:∀Q':Bool→gJ→Prop,Q' false s→gL M A b Q' E s):gL M A (if c then a>>=k else b>>=k) Q E s:=Ap (λU=>m a ha) λU=>m b hb
theorem Rj(h:isExactStrKey v=true):∃y u,v= .str y u:=by cases v<;>first|exact⟨_,_,rfl⟩|exact gU h
theorem iX.str(k:iX w h (.str x t) H c):jF (.str x)=some c:=by
 refine iH k λd U r e U=>?_;rw[←Rf r];exact e
theorem Rk(k:iX w h (.str y u) H' c')(q:iX w h (.str x t) H c):(y==x)=true↔c'=c:=
 beq_iff_eq.trans ⟨λe=>gP (k.str.symm.trans ((congrArg (λz=>jF (.str z)) e).trans q.str)),λe=>hY.str.inj (C5 _ _ c (e▸k.str) q.str)⟩
theorem Jn{A:g6}{E:gG→gJ→Prop}{s:gJ}{β:Type}{F:Nat→β→Sem (ForInStep β)}{b0:β}(done held:Nat→β)(B:β→Prop)(P:Nat→Prop)(Y:Prop){Q:β→gJ→Prop}{l:List Nat}
 (spec:∀x∈l,∀b,B b→(P x→b=b0)→∀Q:ForInStep β→gJ→Prop,(P x→Q (.done (done x)) s∧(Y→Q (.yield (held x)) s))→(¬P x→Q (.yield b) s)→gL (iJ prog w) A (F x b) Q E s)
 (nd:l.Nodup)(un:∀i j,P i→P j→i=j)(h0:B b0)(hb:Y→∀x,B (held x))(q1:∀i,P i→Q (done i) s)(q2:Y→∀i,P i→Q (held i) s)(q3:(∀i∈l,¬P i)→Q b0 s):gL (iJ prog w) A (forIn l b0 F) Q E s:=by
 have rest:∀b,B b→Q b s→∀l':List Nat,(∀x∈l',x∈l∧¬P x)→gL (iJ prog w) A (forIn l' b F) Q E s:=λb hB q l' hl=>by
  induction l' with
  |nil=>exact gO q
  |cons x l' ih=>
   have z:=hl x hW;exact C8 (spec x z.1 b hB (λp=>absurd p z.2) _ (λp=>absurd p z.2) λU=>ih λx hx=>hl x (hO _ hx))
 induction l with
 |nil=>exact gO (q3 λi hi=>nomatch hi)
 |cons x l ih=>
  have nd:=List.nodup_cons.mp nd;refine C8 (spec x hW b0 h0 (λU=>rfl) _ (λp=>⟨gO (q1 x p),λy=>rest _ (hb y x) (q2 y x p) l λy hy=>⟨hO _ hy,λp'=>nd.1 (un x y p p'▸hy)⟩⟩) λnp=>?_);exact ih (λx hx=>spec x (hO _ hx)) nd.2 (λq=>q3 λi hi p=>(iL.mp hi).elim (λe=>np (e▸p)) λhi=>q i hi p) λb hB q l' hl=>rest b hB q l' λx hx=>⟨hO _ (hl x hx).1,(hl x hx).2⟩
def Jo(w:jb)(h:Heap)(es:Array kJ)(cs:List Nat)(H:Int)(l:List Nat):Prop:=∀i∈l,∃e ci,es[i]? =some e∧(e.hash==H)=true∧cs[i]? =some ci∧iX w h e.key e.hash ci
theorem Rl{h:Heap}{es:Array kJ}{cs:List Nat}{H:Int}(hes:yw w h es.toList cs):Jo w h es cs H (placesWithHash es.size (λi=>es[i]?.map (·.hash)) H):=λi hi=>by
 rw[placesWithHash,List.mem_filter,List.mem_range]at hi;have e:=Array.getElem?_eq_getElem hi.1;have q:=hi.2;rw[e]at q;exact gW (hes.getL i ((n7 ..).trans e)) λci rh k=>⟨_,ci,e,q,rh,k⟩
theorem Rm{h:Heap}{es:Array kJ}{cs:List Nat}{key:gG}{H:Int}{c i:Nat}(hes:yw w h es.toList cs)(i6:iX w h key H c)(hi:cs[i]? =some c):i∈placesWithHash es.size (λi=>es[i]?.map (·.hash)) H:=by
 refine gW (hes.vW i hi) λe he k=>?_;rw[n7]at he;rw[placesWithHash,List.mem_filter,List.mem_range];refine⟨(Array.getElem?_eq_some_iff.mp he).1,?_⟩;rw[he,←k.hash_eq i6];exact beq_self_eq_true (some e.hash)
section
variable{A:g6}{E:gG→gJ→Prop}{s:gJ}{d:Addr}{o:Obj}{es:Array kJ}{ep:Nat}{key:gG}{H:Int}{c:Nat}{cs:List Nat}
theorem Dc{v:gG}{H':Int}{ci:Nat}{α:Type}{f g:Bool→Sem α}{Q:α→gJ→Prop}(hu:A.units+5<i')(i6:iX w s.heap key H c)(ho:s.heap.get? d=some o)(hd:o.data= .dict es ep)(k:iX w s.heap v H' ci)
 (h:gL (iJ prog w) A (f (decide (ci=c))) Q E s):gL (iJ prog w) A (dictEpoch d (keyPart key)>>=λb=>eqBool v key>>=λq=>dictEpoch d (keyPart key)>>=λz=>if(z !=b)=true then g q else f q) Q E s:=
 gH (wV ho hd (gH (iX.eqBool hu k i6 (gH (wV ho hd (jx (decide_eq_false (by rw[bne_self_eq_false];exact jD)) h))))))
theorem Rn{Q:Option Nat→gJ→Prop}{l:List Nat}(hu:A.units+5<i')(i6:iX w s.heap key H c)(ho:s.heap.get? d=some o)(hd:o.data= .dict es ep)(hn:cs.Nodup)(hp:Jo w s.heap es cs H l)(nd:l.Nodup)
 (q1:∀i:Nat,cs[i]? =some c→Q (some i) s)(q2:(∀i∈l,¬cs[i]? =some c)→Q none s):gL (iJ prog w) A (dictWalkPlain d key H es l) Q E s:=by
 refine gH (Jn (λi=>(some (some i),())) (λi=>(none,())) (λb=>b=(none,())) (λi=>cs[i]? =some c) False (λx hx b U hb Q h1 h2=>?_) nd (λi j=>Da hn) rfl (λy=>y.elim) (λi p=>gO (q1 i p)) (λy=>y.elim) λq=>gO (q2 q));refine lx (hp x hx) λe ci he hh rh k=>?_;rw[he];refine vE (decide_eq_true hh) (Dc hu i6 ho hd k ?_)
 by_cases q:ci=c
 .exact vE (decide_eq_true (decide_eq_true q)) (gH (sO (gO (h1 (q▸rh)).1)))
 .exact jx (decide_eq_false λe=>q (of_decide_eq_true e)) (gH (sO (gO (U▸h2 λe=>q (gP (rh.symm.trans e))))))
theorem Ro{H':Int}{stored:List gG}{Q:Bool→gJ→Prop}(i6:iX w s.heap key H' c)(hst:∀v∈stored,∃H ci,iX w s.heap v H ci)(hq:Q false s):gL (iJ prog w) A (tableMayTell key stored) Q E s:=by
 unfold tableMayTell;refine Ap (λU=>gO hq) λU=>gH (i6.quiet ?_);refine jx (decide_eq_false jD) (gH (Jl ?_ λv hv Q q=>qY (hst v hv) λH ci k=>k.quiet q));exact gO hq
theorem Rp{x:Str}{t:Tok}{Q:Option Nat→gJ→Prop}(hu:A.units+5<i')(i6:iX w s.heap (.str x t) H c)(ho:s.heap.get? d=some o)(hd:o.data= .dict es ep)(hes:yw w s.heap es.toList cs)
 (q1:∀i:Nat,cs[i]? =some c→Q (some i) s)(q2:(∀i:Nat,¬cs[i]? =some c)→Q none s)(hall:(es.all λe=>isExactStrKey e.key)=true):gL (iJ prog w) A (foundByValue d (.str x t) es x) Q E s:=by
 have hc:∀(e:kJ)(ci:Nat),e∈es→iX w s.heap e.key e.hash ci→(e.key.isStr x=true↔ci=c):=λe ci he k=>by
  refine qY (Rj (Array.all_eq_true_iff_forall_mem.mp hall e he)) λy u hy=>?_;rw[hy]at k⊢;exact Rk k i6
 unfold foundByValue
 induction q:es.findIdx? (·.key.isStr x)with
 |none=>
  rw[Array.findIdx?_eq_none_iff]at q;refine gO (q2 λi hi=>gW (hes.vW i hi) λe he k=>?_);rw[n7]at he;have he:=Array.mem_of_getElem? he;exact gU ((q e he).symm.trans ((hc e c he k).mpr rfl))
 |some i=>
  refine gW (Array.findIdx?_eq_some_iff_getElem.mp q) λhl hi U=>?_;have he:es[i]? =some es[i]:=Array.getElem?_eq_getElem hl
  refine gW (hes.getL i ((n7 ..).trans he)) λci rh k=>?_;have e:=(hc _ ci (Array.mem_of_getElem? he) k).mp hi;dsimp only;rw[he];refine Dc hu i6 ho hd k ?_;exact vE (decide_eq_true (decide_eq_true e)) (gH (sO (gO (q1 i (e▸rh)))))
theorem Rr{Q:Option Nat→gJ→Prop}{v:gG}{f:Str→Tok→Sem (Option Nat)}{j:Sem (Option Nat)}{c:Prop}[Decidable c](h1:∀x t,v= .str x t→c→gL (iJ prog w) A (f x t) Q E s)(h2:gL (iJ prog w) A j Q E s):gL (iJ prog w) A (isExactStrKey.match_1 (λU=>Sem (Option Nat)) v (λx t=>if c then f x t else j) λU=>j) Q E s:=by
 cases v<;>first|exact h2|exact Ap (h1 _ _ rfl) λU=>h2
theorem Rt{Q:Option Nat→gJ→Prop}{v:gG}{f j:Sem (Option Nat)}{c:Prop}[Decidable c](h1:¬c)(h2:gL (iJ prog w) A j Q E s):gL (iJ prog w) A (carriedByValue.match_1 (λU=>Sem (Option Nat)) v (λU=>if c then f else j) λU=>j) Q E s:=by
 cases v<;>first|exact h2|exact jx (decide_eq_false h1) h2
theorem Ru{β:Type}{Q:β→gJ→Prop}{c:Prop}[Decidable c]{b:Sem Bool}{k:Bool→Sem β}(hb:∀{Q:Bool→gJ→Prop},Q false s→gL (iJ prog w) A b Q E s)(h:gL (iJ prog w) A (k false) Q E s):gL (iJ prog w) A (if c then pure false>>=k else b>>=k) Q E s:=Ap (λU=>gH (gO h)) λU=>gH (hb h)
end
theorem Jp{A:g6}{E:gG→gJ→Prop}{s:gJ}{d:Addr}{o:Obj}{es:Array kJ}{ep:Nat}{key:gG}{H:Int}{c:Nat}{cs:List Nat}{Q:Option Nat→gJ→Prop}(hu:A.units+5<i')
 (i6:iX w s.heap key H c)(ho:s.heap.get? d=some o)(hd:o.data= .dict es ep)(hes:yw w s.heap es.toList cs)(hn:cs.Nodup)
 (h:Q (cs.findIdx? λx=>decide (x=c)) s):gL (iJ prog w) A (dictFind d key H) Q E s:=by
 have hf:∀i:Nat,cs[i]? =some c→Q (some i) s:=λi hi=>Rg hn hi▸h
 have hnf:(∀i:Nat,¬cs[i]? =some c)→Q none s:=λk=>Rh k▸h;have hany:¬(es.any λe=>e.key==key&&e.hash !=H)=true:=λz=>by
  refine gW (List.any_eq_true.mp (Array.any_toList.trans z)) λe he hc=>?_;refine jn (List.mem_iff_getElem?.mp he) λi hi=>gW (hes.getL i hi) λci U k=>?_;have hc:=lJ.mp hc;rw[eq_of_beq hc.1]at k;exact bne_iff_ne.mp hc.2 ((k.same i6▸k).hash_eq i6)
 have hn':(∀i∈placesWithHash es.size (λi=>es[i]?.map (·.hash)) H,¬cs[i]? =some c)→Q none s:=λk=>hnf λi hi=>k i (Rm hes i6 hi) hi;have nd:(placesWithHash es.size (λi=>es[i]?.map (·.hash)) H).Nodup:=by rw[placesWithHash];exact List.nodup_range.filter _
 have hp:=Rl (H:=H) hes;refine jt (gH (vF ho hd ?_));generalize placesWithHash es.size (λi=>es[i]?.map (·.hash)) H=l at hn' nd hp⊢;have hst:∀v∈l.filterMap (λi=>es[i]?.map (·.key)),∃H' ci,iX w s.heap v H' ci:=λv hv=>by
  refine gW (List.mem_filterMap.mp hv) λi hi he=>lx (hp i hi) λe ci he' U U k=>?_;rw[he']at he;exact⟨_,ci,(gP he:e.key=v)▸k⟩
 refine Rr (λx t e q=>?_) ?_
 .subst e;exact Rp hu i6 ho hd hes hf hnf q
 refine Ap (λU=>Rn hu i6 ho hd hn hp nd hf hn') λU=>?_;refine Rt hany ?_;refine Ru (Ro i6 hst) ?_;refine jx (decide_eq_false jD) (gH (Jn (λi=>(some (some i),none)) (λi=>(none,some i)) (λb=>b.1=none) (λi=>cs[i]? =some c) True (λx hx b U hb Q h1 h2=>?_) nd (λi j=>Da hn) rfl (λU U=>rfl) (λi p=>gO (hf i p)) (λU i p=>gO (hf i p)) λq=>gO (hn' q)));refine lx (hp x hx) λe ci he hh rh k=>?_;rw[he];refine vE (decide_eq_true hh) (Dc hu i6 ho hd k ?_)
 by_cases q:ci=c
 .have e:=hb (q▸rh);subst e;refine vE (decide_eq_true (decide_eq_true q)) (jx (decide_eq_false jD) (gH (sO ?_)));exact Ap (λU=>gO (h1 (q▸rh)).1) λU=>gO ((h1 (q▸rh)).2 trivial)
 .refine jx (decide_eq_false λe=>q (of_decide_eq_true e)) (gH (sO (jx (decide_eq_false jD) (gO ?_))));obtain⟨b1,b2⟩:=b
  cases U
  exact h2 λe=>q (gP (rh.symm.trans e))
end
def js(h h':Heap):Prop:=∀b o,h.get? b=some o→o.cls= .type "tuple"→h'.get? b=some o
theorem js.refl(h:Heap):js h h:=λU U e U=>e
theorem js.trans(x:js h h')(y:js h' h''):js h h'':=λb o e c=>y b o (x b o e c) c
theorem js.of_keep(k:∀b o,h.get? b=some o→h'.get? b=some o):js h h':=λb o e U=>k b o e
theorem js.ri(hs:i0 a h h')(ho:h.get? a=some o)(hc:o.cls≠.type "tuple"):js h h':=λb o' e c=>by
 by_cases q:b=a
 .subst q;rw[ho]at e;obtain rfl:=gP e;exact absurd c hc
 .rw[hs.2 b q];exact e
theorem Rv(k:js h h')(d:hY)(v:gG)(as:List Addr)(c:∃c,jF d=some c)(n:rg d=true)(r:mD h v d as):mD h' v d as:=
 mD.rec (motive_1:=λv d as U=>(∃c,jF d=some c)→rg d=true→mD h' v d as) (motive_2:=λv d as U=>(∃c,nc d=some c)→rg.yt d=true→sN h' v d as)
  (λU U=>.none) (λU c U=>c.elim λU h=>nomatch h) (λU t U U=>.int _ t) (λU t U U=>.str _ t) (λU U U U U U n=>nomatch n)
  (λho hc hd U ih c n=>.tuple (k _ _ ho hc) hc hd (ih (c.elim λU h=>(pW.1 h).elim λm h=>⟨m,h.1⟩) n))
  (λU U U U U U U c U=>c.elim λU h=>nomatch h) (λU U=>.nil)
  (λU U i1 i2 c n=>c.elim λU h=>by
   refine iH (sV h) λa b h1 h2 U=>?_;exact gQ n λn1 n2=>.cons (i1 ⟨a,h1⟩ n1) (i2 ⟨b,h2⟩ n2)) r c n
theorem iX.AG(k:js h h')(x:iX w h v H c):iX w h' v H c:=by
 refine lx x λd as r h1 h2 h3=>?_;exact⟨d,as,Rv k d v as ⟨c,h1⟩ h2 r,h1,h2,h3⟩
theorem w8{α:Type}(l:List α):pf l=true↔l.length≤cap:=by
 unfold pf;rw[jo,yr,decide_eq_true_iff]
def yx(w:jb)(φ:Pl)(h:Heap)(e:kJ)(x:Nat×AV×AV):Prop:=iX w h e.key e.hash x.1∧VR φ e.key x.2.1∧VR φ e.val x.2.2
structure kN(w:jb)(φ:Pl)(h:Heap)(a:Addr)(es:List (Nat×AV×AV)):Prop where
 obj:∃jq ep,h.get? a=some ⟨.type "dict",none,.dict jq ep,#[]⟩∧ji (yx w φ h) jq.toList es
 nodup:(es.map (·.1)).Nodup
 small:es.length≤cap
 AH:∀o jq ep,h.get? a=some o→o.data= .dict jq ep→ep=es.length
theorem yx.mono(l:Le φ ψ)(k:js h h')(r:yx w φ h e x):yx w ψ h' e x:=⟨r.1.AG k,r.2.1.mono l,r.2.2.mono l⟩
theorem Rw(e:Nat×AV×AV)(l:List (Nat×AV×AV))(k:Nat):i5 (e::l) k=if e.1=k then some e.2.2 else i5 l k:=by
 show(gT (i5 l k) (some e.2.2) (ie e.1 k):Option AV)=_;rw[oq]
 by_cases h:e.1=k
 .rw[if_pos h,decide_eq_true h]
 .rw[if_neg h,decide_eq_false h]
theorem Dd:∀(l:List (Nat×AV×AV))(k:Nat),i5 l k=match(l.map (·.1)).findIdx? (λx=>decide (x=k))with|some i=>l[i]?.map (·.2.2)|none=>none
 |[],k=>rfl
 |e::l,k=>by
  rw[Rw,lI,List.findIdx?_cons]
  by_cases h:e.1=k
  .rw[if_pos h,decide_eq_true h];rfl
  .rw[if_neg h,decide_eq_false h,Dd l k]
   induction(l.map (·.1)).findIdx? (λx=>decide (x=k))with
   |none=>rfl
   |some i=>simp
theorem De(e:Nat×AV×AV)(l:List (Nat×AV×AV))(k:Nat)(a v:AV):md (e::l) k a v=if e.1=k then(e.1,e.2.1,v)::l else e::md l k a v:=by
 show(gT (e::md l k a v) ((e.1,e.2.1,v)::l) (ie e.1 k):List (Nat×AV×AV))=_;rw[oq]
 by_cases h:e.1=k
 .rw[if_pos h,decide_eq_true h]
 .rw[if_neg h,decide_eq_false h]
theorem Df:∀(l:List (Nat×AV×AV))(k:Nat)(a v:AV)(i:Nat),(l.map (·.1)).findIdx? (λx=>decide (x=k))=some i→∃e,l[i]? =some e∧md l k a v=l.set i (e.1,e.2.1,v)
 |[],_,_,_,_,h=>by exact gV h
 |e::l,k,a,v,i,h=>by
  rw[lI,List.findIdx?_cons]at h;rw[De]
  by_cases q:e.1=k
  .rw[decide_eq_true q,if_pos rfl]at h;obtain rfl:=gP h;rw[if_pos q];exact⟨e,rfl,rfl⟩
  .rw[decide_eq_false q,if_neg (by decide)]at h;refine gW (pW.mp h) λj hj Rx=>?_;subst Rx;refine gW (Df l k a v j hj) λe' h1 h2=>?_;rw[if_neg q,h2];exact⟨e',by simpa using h1,by simp⟩
theorem Dg:∀(l:List (Nat×AV×AV))(k:Nat)(a v:AV),(l.map (·.1)).findIdx? (λx=>decide (x=k))=none→md l k a v=l++[(k,a,v)]
 |[],_,_,_,_=>rfl
 |e::l,k,a,v,h=>by
  rw[lI,List.findIdx?_cons]at h;rw[De]
  by_cases q:e.1=k
  .rw[decide_eq_true q,if_pos rfl]at h;injection h
  .rw[decide_eq_false q,if_neg (by decide)]at h;rw[if_neg q,Dg l k a v (Option.map_eq_none_iff.mp h)];rfl
theorem Jq(l:List (Nat×AV×AV))(k:Nat)(a v:AV)(hn:(l.map (·.1)).Nodup):((md l k a v).map (·.1)).Nodup:=by
 induction q:(l.map (·.1)).findIdx? (λx=>decide (x=k))with
 |none=>
  rw[Dg l k a v q,List.map_append,List.nodup_append];refine⟨hn,by simp,λx hx y hy=>?_⟩;simp only[lI,List.map_nil,jc]at hy;subst hy;rw[List.findIdx?_eq_none_iff]at q;have:=q x hx;simpa using this
 |some i=>
  refine gW (Df l k a v i q) λe h1 h2=>?_;rw[h2];have:(l.set i (e.1,e.2.1,v)).map (·.1)=l.map (·.1):=by
   rw[List.map_set];refine jn (List.getElem?_eq_some_iff.mp h1) λhl he=>?_;apply List.ext_getElem?;intro j;rw[List.getElem?_set]
   by_cases z:i=j
   .subst z;rw[if_pos rfl,if_pos (by simpa using hl),sQ,h1];rfl
   .rw[if_neg z]
  rw[this];exact hn
theorem kN.Jr(r:ji (yx w φ h) l es):yw w h l (es.map (·.1)):=ji.Rc.mpr (r.mono λU U q=>q.1)
theorem kN.typeIs{w:jb}{φ:Pl}{s:gJ}{a:Addr}{es:List (Nat×AV×AV)}(r:kN w φ s.heap a es):s.TypeIs (.ref a) "dict":=by
 refine jA r.obj λjq ep ho U=>?_;exact⟨_,ho,rfl⟩
section
variable{prog:lg}{w:jb}{A:g6}{E:gG→gJ→Prop}{s:gJ}{φ:Pl}{d:Addr}{es:List (Nat×AV×AV)}{key:gG}{H:Int}{c:Nat}
theorem yy(hu:A.units+5<i')(i6:iX w s.heap key H c)(D:kN w φ s.heap d es)
 (h1:∀x v tk,i5 es c=some v→VR φ x v→Q (some x) {s with toks:=tk})(h2:∀tk,i5 es c=none→Q none {s with toks:=tk}):gL (iJ prog w) A (dictGet d key) Q E s:=by
 obtain⟨⟨jq,ep,ho,hr⟩,hn,_,_⟩:=D;refine jt (gH (i6.pyHash hu λtk=>gH (Jp (s:={s with toks:=tk}) hu i6 ho rfl (kN.Jr hr) hn ?_)))
 induction q:(es.map (·.1)).findIdx? (λx=>decide (x=c))with
 |none=>exact gO (h2 tk (by rw[Dd,q]))
 |some i=>
  refine gW (List.findIdx?_eq_some_iff_getElem.mp q) λhl U U=>?_;have hi:es[i]? =some (es[i]'(by simpa using hl)):=pV _
  refine gW (hr.vW i hi) λe he r=>?_;refine gH (vF (s:={s with toks:=tk}) ho rfl (gO ?_));rw[n7]at he;rw[he];exact h1 e.val _ tk (by rw[Dd,q];dsimp only;rw[hi];rfl) r.2.2
theorem Js(hu:A.units+5<i')(i6:iX w s.heap key H c)(D:kN w φ s.heap d es)(hk:VR φ key kv)(hx:VR φ x v)(hsm:(md es c kv v).length≤cap)
 (hq:∀h' tk,kN w φ h' d (md es c kv v)→i0 d s.heap h'→Q () {s with heap:=h',toks:=tk}):gL (iJ prog w) A (dictSet d key x) Q E s:=by
 obtain⟨⟨jq,ep,ho,hr⟩,hn,hs,Ry⟩:=D;have pG:ep=es.length:=Ry _ _ _ ho rfl;have ij:jq.size=es.length:=by rw[←jM];exact hr.length
 have kt:∀{h':Heap},i0 d s.heap h'→js s.heap h':=λhs'=>js.ri hs' ho (by show ig "dict"≠ig "tuple";decide);refine jt (gH (i6.pyHash hu λtk=>?_));refine jt (gH (Jp (s:={s with toks:=tk}) hu i6 ho rfl (kN.Jr hr) hn ?_))
 induction q:(es.map (·.1)).findIdx? (λx=>decide (x=c))with
 |none=>
  have e:=Dg es c kv v q;refine gH (sO (wpAny_updateDictKeys (s:={s with toks:=tk}) (hz:=by rw[sizeLine_eq];have:es.length≤1000000:=hs;lia) ho rfl (hq _ _ ⟨⟨jq.push ⟨H,key,x⟩,ep+1,?_,?_⟩,Jq es c kv v hn,hsm,λo en e' h1 h2=>by
   rw[vG (o:=⟨.type "dict",none,.dict jq ep,#[]⟩) _ ho rfl]at h1;obtain rfl:=gP h1;cases h2;rw[e,jm,pG];rfl⟩ (i0.update ..))))
  .exact vG _ ho rfl
  .rw[e,Array.toList_push];exact(hr.mono λU U z=>z.mono (Le.refl _) (kt (i0.update ..))).append (.cons ⟨i6.AG (kt (i0.update ..)),hk,hx⟩ .nil)
 |some i=>
  refine gW (Df es c kv v i q) λy h1 h2=>?_;refine gW (hr.vW i h1) λe he r=>?_;refine gH (sO (gH (wpAny_updateDict (s:={s with toks:=tk}) ho rfl (wpAny_point (hq _ _ ⟨⟨jq.modify i λe=>{e with val:=x},ep,?_,?_⟩,Jq es c kv v hn,hsm,λo en e' h3 h4=>by
   rw[vG (o:=⟨.type "dict",none,.dict jq ep,#[]⟩) _ ho rfl]at h3;obtain rfl:=gP h3;cases h4;rw[h2,List.length_set,pG]⟩ (i0.update ..))))))
  .exact vG _ ho rfl
  .rw[h2];have:(jq.modify i λe=>{e with val:=x}).toList=jq.toList.set i {e with val:=x}:=by
    rw[Array.toList_modify];apply List.ext_getElem?;intro j;rw[List.getElem?_modify,List.getElem?_set]
    by_cases z:i=j
    .subst z;refine jn (List.getElem?_eq_some_iff.mp he) λhl U=>?_;rw[if_pos rfl,if_pos hl,he];simp
    .rw[if_neg z];simp[z]
   rw[this];refine ji.set i (hr.mono λU U z=>z.mono (Le.refl _) (kt (i0.update ..))) ⟨r.1.AG (kt (i0.update ..)),r.2.1,hx⟩
end
structure g8 where
 prog:lg
 w:jb
 P:jE
 os:OsState
 nm:Ad→Option Str
 Dh:∀x y n,nm x=some n→nm y=some n→x=y
 cls:Nat→Option Addr
 FK:FuncData→FD→Prop
 K:PySem.W.Frag
 attr:Ad→Bool
 kC:Ad→Option Addr
 Jt:Ad→Bool
 lR:hU→Option Addr
def ot(S:g8)(φ:Pl)(m:Str→Option gG)(ρ:Loc):Prop:=
 (∀x n,S.nm x=some n→match ρ.get x with|some v=>∃y,m n=some y∧VR φ y v|none=>m n=none)∧∀n y,m n=some y→∃x,S.nm x=some n
set_option tactic.hygienic true in
theorem ot.mono(l:Le φ ψ)(h:ot S φ m ρ):ot S ψ m ρ:=⟨λx n hx=>by
 have:=h.1 x n hx;split
 .rename_i v hv
  rw[hv]at this;refine gW this λy h1 h2=>?_;exact⟨y,h1,h2.mono l⟩
 .rename_i hv
  rw[hv]at this;exact this,h.2⟩
theorem ot.set(h:ot S φ m ρ)(hx:S.nm x=some n)(r:VR φ y v):
 ot S φ (λk=>if k=n then some y else m k) (ρ.set x v):=by
 refine⟨λz k hz=>?_,λk u e=>?_⟩
 .rw[BT.get_set]
  by_cases q:z=x
  .subst q;rw[hx]at hz;obtain rfl:=gP hz;rw[if_pos rfl];exact⟨y,if_pos rfl,r⟩
  .rw[if_neg q];have hk:¬k=n:=λe=>q (S.Dh z x n (e▸hz) hx);have:=h.1 z k hz;show(match ρ.get z with|some v=>∃y',(if k=n then some y else m k)=some y'∧VR φ y' v|none=>(if k=n then some y else m k)=none);rw[if_neg hk];exact this
 .by_cases q:k=n
  .subst q;exact⟨x,hx⟩
  .have e':(if k=n then some y else m k)=some u:=e;rw[if_neg q]at e';exact h.2 k u e'
theorem ot.nil(S:g8)(φ:Pl):ot S φ (λU=>none) .nil:=⟨λx n U=>by rw[BT.get_nil],λU U e=>by exact gV e⟩
def Ju(S:g8)(φ:Pl)(h:Heap)(d:Addr)(k:Nat)(fs:Loc):Prop:=
 ∃es ep,h.get? d=some ⟨.type "dict",none,.dict es ep,#[]⟩∧StrKeys es∧es.size≤k∧k≤2000∧ot S φ (nsFind es) fs
def Di(S:g8)(h:Heap)(a:Addr)(cs:List Nat):Prop:=
 ∃T n,h.SetOf (strKind S.prog S.w) a T n∧(∀x,hY.strOk x=true→T x=pZ cs (8*iT x.cps.toList+1))∧n=cs.length
def RA(φ:Pl)(x:Option gG)(v:Option AV):Prop:=match v with
 |some v=>∃y,x=some y∧VR φ y v
 |none=>x=none
def ou(S:g8)(φ:Pl)(cells:List (Str×Addr))(κ:gX):Prop:=∀x p,kh κ x=some p→∃n c,S.nm x=some n∧cells.lookup n=some c∧φ p=some c
def RB(S:g8)(φ:Pl)(h:Heap)(p:Ad)(a:Addr)(k:Nat)(κ:gX):Prop:=
 ∃od fd sl c d,h.get? a=some ⟨.type "function",od,.func fd,sl⟩∧i3 S.P.nested k=some d∧S.FK fd d∧φ p.succ=some c∧fd.code= .ref c∧h.CodeRec fd.code fd.qualname∧ou S φ fd.closure κ
noncomputable def rj(p:Pos):Nat:=p.line*1048576+p.col
def Dj(S:g8)(h:Heap)(p:Ad)(a:Addr)(ks:List Nat):Prop:=S.kC p=some a∧∃ps,h.get? a=some {cls:=.none,data:=.fields ps}∧TriplesOk ps.toList∧∀pos:Pos,codeAmong pos ps.toList≠none→rj pos∈ks
def OR(S:g8)(φ:Pl)(h:Heap)(p:Ad)(a:Addr)(ob:gY):Prop:=match ob with
 | .list xs=>∃vs n,h.get? a=some ⟨.type "list",none,.seq vs n,#[]⟩∧il φ vs.toList xs∧xs.length≤cap
 | .tuple xs=>∃vs n,h.get? a=some ⟨.type "tuple",none,.seq vs n,#[]⟩∧il φ vs.toList xs∧xs.length≤cap
 | .dict es=>kN S.w φ h a es
 | .set cs=>Di S h a cs
 | .inst c k fs=>∃C d,φ p.succ=some d∧S.cls c=some C∧h.get? a=some ⟨.ref C,some d,.plain,#[]⟩∧Ju S φ h d k fs
 | .aux=>True
 | .fn k κ=>RB S φ h p a k κ
 | .tab ks=>Dj S h p a ks
 | .jH=>∃xs vs n,S.P.xs=some xs∧h.get? a=some ⟨.type "list",none,.seq vs n,#[]⟩∧il φ vs.toList xs∧xs.length≤cap
 | .cell v=>∃x,h.get? a=some ⟨.type "cell",none,.cell x,#[]⟩∧RA φ x v
theorem ou.mono(l:Le φ ψ)(h:ou S φ cells κ):ou S ψ cells κ:=λx p e=>by
 refine iH (h x p e) λn c h1 h2 h3=>?_;exact⟨n,c,h1,h2,l _ _ h3⟩
theorem OR.mono(l:Le φ ψ)(k:js h h')(e:h'.get? a=h.get? a)(e':((∃c k fs,ob= .inst c k fs)∨∃k κ,ob= .fn k κ)→∀d,φ p.succ=some d→h'.get? d=h.get? d)(r:OR S φ h p a ob):OR S ψ h' p a ob:=by
 induction ob with
 |list xs=>exact r.imp λvs r=>r.imp λn r=>⟨e.trans r.1,r.2.1.mono l,r.2.2⟩
 |tuple xs=>exact r.imp λvs r=>r.imp λn r=>⟨e.trans r.1,r.2.1.mono l,r.2.2⟩
 |dict es=>exact⟨r.1.imp λjq z=>z.imp λep z=>⟨e.trans z.1,z.2.mono λU U q=>q.mono l k⟩,r.2,r.3,λo en e' z1 z2=>r.4 o en e' (e.symm.trans z1) z2⟩
 |set cs=>exact r.imp λT r=>r.imp λn r=>⟨r.1.imp λo z=>z.imp λes z=>z.imp λep z=>z.imp λt z=>⟨e.trans z.1,z.2⟩,r.2⟩
 |inst c kk fs=>exact r.imp λC r=>r.imp λd r=>⟨l _ _ r.1,r.2.1,e.trans r.2.2.1,r.2.2.2.imp λes z=>z.imp λep z=>⟨(e' (.inl ⟨_,_,_,rfl⟩) d r.1).trans z.1,z.2.1,z.2.2.1,z.2.2.2.1,z.2.2.2.2.mono l⟩⟩
 |aux=>trivial
 |fn kk κ=>
  obtain⟨od,fd,sl,c,d,h1,h2,h3,h4,h5,h6,h7⟩:=r;refine⟨od,fd,sl,c,d,e.trans h1,h2,h3,l _ _ h4,h5,?_,h7.mono l⟩;refine CU h6 λc' o vs t q1 q2 q3=>?_;rw[h5]at q1;cases q1;exact⟨c,o,vs,t,h5,(e' (.inr ⟨_,_,rfl⟩) c h4).trans q2,q3⟩
 |jH=>exact r.imp λxs r=>r.imp λvs r=>r.imp λn r=>⟨r.1,e.trans r.2.1,r.2.2.1.mono l,r.2.2.2⟩
 |tab ks=>exact⟨r.1,r.2.imp λps z=>⟨e.trans z.1,z.2⟩⟩
 |cell v=>
  refine r.imp λx r=>⟨e.trans r.1,?_⟩;have q:=r.2
  induction v with
  |none=>exact q
  |some v=>exact q.imp λy z=>⟨z.1,z.2.mono l⟩
def Dk(o o':Obj):Prop:=o'.cls=o.cls∧o'.dict=o.dict∧o'.data=o.data∧(o.cls≠.type "frame"→o'=o)
abbrev ik:=List (Addr×Obj)
noncomputable def AI:gY→Bool
 | .tuple _=>true
 | .jH=>true
 |_=>false
noncomputable def RC:gY→Bool
 | .tuple _=>true
 | .jH=>true
 | .tab _=>true
 |_=>false
structure Inv(S:g8)(gA:Heap)(φ:Pl)(Pr:ik)(σ:gI)(s:gJ):Prop where
 keep:∀b o,gA.get? b=some o→s.heap.get? b=some o
 dom:∀p,(φ p).isSome=true↔p.num<σ.n.num
 inj:∀p q a,φ p=some a→φ q=some a→p=q
 new:∀p a,φ p=some a→gA.get? a=none∨∃ob,AI ob=true∧σ.get p=some ob
 low:∀p a,φ p=some a→∃o,s.heap.get? a=some o
 obj:∀p ob,σ.get p=some ob→∃a,φ p=some a∧OR S φ s.heap p a ob
 kU:∀p c k fs,σ.get p=some (.inst c k fs)→σ.get p.succ=some .aux
 mh:∀p k κ,σ.get p=some (.fn k κ)→σ.get p.succ=some .aux
 pr:∀x∈Pr,(∃o,s.heap.get? x.1=some o∧Dk x.2 o)∧gA.get? x.1=none∧∀p,φ p≠some x.1
 gens:s.gens= #[]
 os:s.os=S.os
 sys:∃o,gA.get? nA=some o
 st:∀p a,S.kC p=some a→φ p=some a
 tb:∀p,S.Jt p=true→∃ks,σ.get p=some (.tab ks)
def Pl.add(φ:Pl)(p:Ad)(a:Addr):Pl:=λq=>if q=p then some a else φ q
theorem Pl.mr(φ:Pl)(p:Ad)(a:Addr):φ.add p a p=some a:=if_pos rfl
theorem Pl.nQ(φ:Pl)(a:Addr)(h:q≠p):φ.add p a q=φ q:=if_neg h
section
variable{S:g8}{gA:Heap}{φ:Pl}{Pr:ik}{σ:gI}{s:gJ}
theorem Inv.free(I:Inv S gA φ Pr σ s):φ σ.n=none:=by
 induction q:φ σ.n with
 |none=>rfl
 |some a=>exact absurd ((I.dom σ.n).mp (by rw[q];rfl)) (jQ _)
theorem Inv.jY(I:Inv S gA φ Pr σ s)(a:Addr):Le φ (φ.add σ.n a):=λp b e=>by
 rw[Pl.nQ φ a (λq=>by rw[q,I.free]at e;exact gV e)];exact e
theorem Inv.Dl(I:Inv S gA φ Pr σ s)(h:φ p=none):σ.get p=none:=by
 induction q:σ.get p with
 |none=>rfl
 |some ob=>refine gW (I.obj p ob q) λa e U=>?_;rw[h]at e;exact gV e
theorem Inv.same(I:Inv S gA φ Pr σ s){h':Heap}(hk:∀q d o,φ q=some d→s.heap.get? d=some o→h'.get? d=some o){q:Ad}{d:Addr}(e:φ q=some d):h'.get? d=s.heap.get? d:=(I.low q d e).elim λo z=>(hk q d o e z).trans z.symm
theorem Inv.Jv(I:Inv S gA φ Pr σ s)(hk:∀q d o,φ q=some d→s.heap.get? d=some o→h'.get? d=some o)(kt:js s.heap h')(l:Le φ ψ)(e:φ p=some a)(r:OR S φ s.heap p a ob):OR S ψ h' p a ob:=OR.mono l kt (I.same hk e) (λU U hd=>I.same hk hd) r
theorem Inv.Jw(I:Inv S gA φ Pr σ s)(h1:∀b o,gA.get? b=some o→h'.get? b=some o)(hk:∀q d o,φ q=some d→s.heap.get? d=some o→h'.get? d=some o)(kt:js s.heap h')(hp:∀x∈pH,(∃o,h'.get? x.1=some o∧Dk x.2 o)∧gA.get? x.1=none∧∀p,φ p≠some x.1)(tk:Nat)(dr:Drawn):Inv S gA φ pH σ ⟨h',s.gens,dr,tk,s.os⟩:=
 {I with
  keep:=h1
  low:=λp a e=>(I.low p a e).elim λo z=>⟨o,hk p a o e z⟩
  obj:=λp ob e=>(I.obj p ob e).elim λa h=>⟨a,h.1,I.Jv hk kt (λU U z=>z) h.1 h.2⟩
  pr:=hp
  sys:=I.sys}
theorem Inv.to(I:Inv S gA φ Pr σ s)(h1:∀b o,gA.get? b=some o→h'.get? b=some o)(hk:∀q d o,φ q=some d→s.heap.get? d=some o→h'.get? d=some o)(kt:js s.heap h')(hp:∀x∈Pr,∀o,s.heap.get? x.1=some o→h'.get? x.1=some o)(tk:Nat)(dr:Drawn):Inv S gA φ Pr σ ⟨h',s.gens,dr,tk,s.os⟩:=
 I.Jw h1 hk kt (λx hx=>⟨(I.pr x hx).1.elim λo q=>⟨o,hp x hx o q.1,q.2⟩,(I.pr x hx).2⟩) tk dr
theorem w9{C:Prop}(h:φ.add n a p=some b)(k1:p=n→a=b→C)(k2:φ p=some b→C):C:=by
 by_cases e:p=n
 .rw[e,Pl.mr]at h;exact k1 e (gP h)
 .rw[Pl.nQ φ a e]at h;exact k2 h
theorem Dm{C:Prop}(h:(σ.push ob).get p=some o)(k1:p=σ.n→ob=o→C)(k2:σ.get p=some o→C):C:=by
 rw[gI.kB]at h
 by_cases e:p=σ.n
 .rw[if_pos e]at h;exact k1 e (gP h)
 .rw[if_neg e]at h;exact k2 h
theorem Inv.old(I:Inv S gA φ Pr σ s)(h:σ.get p=some o):(σ.push ob).get p=some o:=by
 rw[gI.kB,if_neg λe=>by rw[e,I.Dl I.free]at h;cases h];exact h
theorem Inv.Jx(I:Inv S gA φ Pr σ s)(hk:∀b o,s.heap.get? b=some o→h'.get? b=some o)(nb:gA.get? a=none)(hlt:∃o,h'.get? a=some o)
 (hab:∀p,φ p≠some a)(rm:∀x∈Pr,x.1≠a)
 (hi:∀c k fs,ob≠.inst c k fs)(hfn:∀k κ,ob≠.fn k κ)(r:OR S (φ.add σ.n a) h' σ.n a ob):Inv S gA (φ.add σ.n a) Pr (σ.push ob) ⟨h',s.gens,dr,tk,s.os⟩where
 keep b o e:=hk b o (I.keep b o e)
 dom p:=by
  rw[gI.vU,Ad.pF]
  by_cases q:p=σ.n
  .subst q;rw[Pl.mr];exact⟨λU=>Ar _,λU=>rfl⟩
  .rw[Pl.nQ φ a q,I.dom p];exact⟨λh=>Nat.lt_succ_of_lt h,λh=>(Nat.lt_succ_iff_lt_or_eq.mp h).resolve_right λe=>q (Ad.w6 e)⟩
 inj p q b hp hq:=w9 hp (λe1 e=>w9 hq (λe2 U=>e1.trans e2.symm) λh=>absurd h (e▸hab q)) λh=>w9 hq (λU e=>absurd h (e▸hab p)) λh'=>I.inj p q b h h'
 new p b hp:=w9 hp (λU e=>.inl (e▸nb)) λh=>(I.new p b h).imp id λz=>z.elim λx z=>⟨x,z.1,I.old z.2⟩
 low p b hp:=w9 hp (λU e=>e▸hlt) λh=>(I.low p b h).elim λo e=>⟨o,hk _ _ e⟩
 obj p o hp:=Dm hp (λe1 e2=>by subst e1 e2;exact⟨a,Pl.mr ..,r⟩) λh=>(I.obj p o h).elim λb h=>⟨b,I.jY a p b h.1,I.Jv (λU b o U=>hk b o) (js.of_keep hk) (I.jY a) h.1 h.2⟩
 kU p c k fs hp:=Dm hp (λU e=>absurd e (hi c k fs)) λh=>I.old (I.kU p c k fs h)
 mh p k κ hp:=Dm hp (λU e=>absurd e (hfn k κ)) λh=>I.old (I.mh p k κ h)
 pr x hx:=⟨(I.pr x hx).1.elim λo q=>⟨o,hk _ _ q.1,q.2⟩,(I.pr x hx).2.1,λp e=>w9 e (λU e=>rm x hx e.symm) ((I.pr x hx).2.2 p)⟩
 gens:=I.gens
 os:=I.os
 sys:=I.sys
 st p b e:=I.jY a p b (I.st p b e)
 tb p e:=(I.tb p e).elim λks h=>⟨ks,I.old h⟩
theorem Inv.push(I:Inv S gA φ Pr σ s)(hk:∀b o,s.heap.get? b=some o→h'.get? b=some o)(hf:s.heap.get? a=none)(hlt:∃o,h'.get? a=some o)
 (hab:∀p,φ p≠some a)(rm:∀x∈Pr,x.1≠a)
 (hi:∀c k fs,ob≠.inst c k fs)(hfn:∀k κ,ob≠.fn k κ)(r:OR S (φ.add σ.n a) h' σ.n a ob):Inv S gA (φ.add σ.n a) Pr (σ.push ob) ⟨h',s.gens,dr,tk,s.os⟩:=
 I.Jx hk (by
  induction q:gA.get? a with
  |none=>rfl
  |some o=>have:=I.keep a o q;rw[hf]at this;exact gV this) hlt hab rm hi hfn r
end
section
variable{S:g8}{gA:Heap}{φ:Pl}{Pr:ik}{σ:gI}{s:gJ}
theorem Dn{C:Prop}(h:(σ.set p ob).get q=some o)(k1:q=p→ob=o→C)(k2:q≠p→σ.get q=some o→C):C:=by
 rw[gI.get_set]at h
 by_cases e:q=p
 .rw[if_pos e]at h;exact k1 e (gP h)
 .rw[if_neg e]at h;exact k2 e h
theorem RD(h:q≠p):(σ.set p ob).get q=σ.get q:=by rw[gI.get_set,if_neg h]
theorem AJ(e0:σ.get p=some o)(hn:o≠o')(h:σ.get q=some o'):(σ.set p ob).get q=some o':=(RD λe=>hn (gP (e0.symm.trans ((congrArg σ.get e.symm).trans h)))).trans h
theorem Inv.tS(I:Inv S gA φ Pr σ s)
 (e0:σ.get p=some r8)(ht:φ tp=some a)(hs:i0 a s.heap h')(kt:js s.heap h')(hv:∃o,h'.get? a=some o)
 (hd:tp=p∨(tp=p.succ∧∃c k fs,r8= .inst c k fs))
 (h1:r8≠.aux)(h2:RC r8=false)(h3:∀c k fs,ob= .inst c k fs→∃c k fs,r8= .inst c k fs)(h4:∀k κ,ob≠.fn k κ)(h5:ob≠.aux∧∀xs,ob≠.tuple xs)
 (r:∀b,φ p=some b→OR S φ h' p b ob):Inv S gA φ Pr (σ.set p ob) ⟨h',s.gens,dr,tk,s.os⟩:=by
 have RE:∀q,q≠p→(q=tp→σ.get q=some .aux):=by
  intro q hq e
  rcases hd with rfl|⟨rfl,c,k,fs,rfl⟩
  .exact absurd e hq
  .rw[e];exact I.kU p c k fs e0
 have Jy:AI r8≠true:=λhz=>by induction r8<;>first|(exact gU hz;done)|exact gU h2
 have hbase:gA.get? a=none:=by
  rcases I.new tp a ht with z|⟨xs,hz,z⟩
  .exact z
  .rcases hd with rfl|⟨rfl,c,k,fs,rfl⟩
   .rw[e0]at z;obtain rfl:=gP z;exact absurd hz Jy
   .rw[I.kU p c k fs e0]at z;obtain rfl:=gP z;exact gU hz
 have ij:h'.objs.size=s.heap.objs.size:=hs.1;exact{
  keep:=λb o e=>by
   by_cases q:b=a
   .subst q;rw[hbase]at e;exact gV e
   .rw[hs.2 b q];exact I.keep b o e
  dom:=λq=>by rw[gI.yp];exact I.dom q
  inj:=I.inj
  new:=λq b hb=>(I.new q b hb).imp id λ⟨o,z1,z2⟩=>⟨o,z1,AJ e0 (λe=>Jy (e▸z1)) z2⟩
  low:=λq b hb=>by
   by_cases q':b=a
   .rw[q'];exact hv
   .refine jn (I.low q b hb) λo e=>?_;exact⟨o,(hs.2 b q').trans e⟩
  obj:=λq o hq=>Dn hq (λe1 e2=>by subst e1 e2;exact(I.obj q r8 e0).elim λb h=>⟨b,h.1,r b h.1⟩) λe hq=>(I.obj q o hq).elim λb h=>⟨b,h.1,by
   refine iK h λhb R=>?_
   by_cases e2:q=tp
   .have:=RE q e e2;rw[this]at hq;obtain rfl:=gP hq;trivial
   .refine OR.mono (λU U z=>z) kt (hs.2 b λz=>e2 (I.inj q tp a (z▸hb) ht)) (λhk d hd'=>hs.2 d λz=>?_) R;have e3:q.succ=tp:=I.inj _ _ a (z▸hd') ht;have e4:σ.get q.succ=some .aux:=by
     rcases hk with⟨c,k,fs,rfl⟩|⟨k,κ,rfl⟩
     .exact I.kU q c k fs hq
     .exact I.mh q k κ hq
    rcases hd with rfl|⟨rfl,c,k,fs,rfl⟩
    .rw[e3,e0]at e4;exact h1 (gP e4)
    .exact e (Ad.succ_inj e3)⟩
  kU:=λq c k fs hq=>AJ e0 h1 (Dn hq (λe1 e2=>(h3 c k fs e2).elim λc' z=>z.elim λk' z=>z.elim λfs' z=>e1▸I.kU p c' k' fs' (e0.trans (congrArg some z))) λU h=>I.kU q c k fs h)
  mh:=λq k κ hq=>AJ e0 h1 (Dn hq (λU e2=>absurd e2 (h4 k κ)) λU h=>I.mh q k κ h)
  pr:=λx hx=>by
   refine kM (I.pr x hx) λRF q3 q4=>?_;refine gW RF λo q1 q2=>?_;exact⟨⟨o,by rw[hs.2 x.1 (λz=>q4 tp (z▸ht))];exact q1,q2⟩,q3,q4⟩
  gens:=I.gens
  os:=I.os
  sys:=I.sys
  st:=I.st
  tb:=λq e=>(I.tb q e).elim λks h=>⟨ks,AJ e0 (λz=>by rw[z]at h2;exact gU h2) h⟩}
theorem Inv.tok(I:Inv S gA φ Pr σ s)(tk:Nat)(dr:Drawn):Inv S gA φ Pr σ ⟨s.heap,s.gens,dr,tk,s.os⟩:=
 ⟨I.keep,I.dom,I.inj,I.new,I.low,I.obj,I.kU,I.mh,I.pr,I.gens,I.os,I.sys,I.st,I.tb⟩
theorem Inv.grow(I:Inv S gA φ Pr σ s)(hk:∀b o,s.heap.get? b=some o→h'.get? b=some o)(tk:Nat)(dr:Drawn):Inv S gA φ Pr σ ⟨h',s.gens,dr,tk,s.os⟩:=
 I.to (λb o e=>hk b o (I.keep b o e)) (λU b o U=>hk b o) (js.of_keep hk) (λx U=>hk x.1) tk dr
theorem Inv.own(I:Inv S gA φ Pr σ s)(h1:s.heap.get? L=some o)(h2:gA.get? L=none)(h3:∀p,φ p≠some L):Inv S gA φ ((L,o)::Pr) σ s:=
 ⟨I.keep,I.dom,I.inj,I.new,I.low,I.obj,I.kU,I.mh,λx hx=>by
  rcases iL.mp hx with rfl|hx
  .exact⟨⟨o,h1,rfl,rfl,rfl,λU=>rfl⟩,h2,h3⟩
  .exact I.pr x hx,I.gens,I.os,I.sys,I.st,I.tb⟩
theorem Inv.disown(I:Inv S gA φ Pr σ s)(h:∀x∈pH,x∈Pr):Inv S gA φ pH σ s:=
 ⟨I.keep,I.dom,I.inj,I.new,I.low,I.obj,I.kU,I.mh,λx hx=>I.pr x (h x hx),I.gens,I.os,I.sys,I.st,I.tb⟩
theorem Inv.Do(I:Inv S gA φ ((L,o)::Pr) σ s)(hno:∀x∈Pr,x.1≠L)(hs:i0 L s.heap h')(ho:o.cls≠.type "tuple")(e:h'.get? L=some o')(tk:Nat)(dr:Drawn):Inv S gA φ ((L,o')::Pr) σ ⟨h',s.gens,dr,tk,s.os⟩:=by
 refine kM (I.pr (L,o) (hW ..)) λRG q3 q4=>?_;refine gW RG λo1 q1 q2=>?_;refine I.Jw (λb ob eb=>?_) (λq d o hq e=>(hs.2 d λz=>q4 q (z▸hq)).trans e) (js.ri hs q1 (by rw[q2.1];exact ho)) (λx hx=>?_) tk dr
 .by_cases q:b=L
  .rw[q]at eb;rw[show gA.get? L=none from q3]at eb;exact gV eb
  .rw[hs.2 b q];exact I.keep b ob eb
 .rcases iL.mp hx with rfl|hx
  .exact⟨⟨o',e,rfl,rfl,rfl,λU=>rfl⟩,q3,q4⟩
  .exact⟨(I.pr x (hO _ hx)).1.elim λo z=>⟨o,(hs.2 x.1 (hno x hx)).trans z.1,z.2⟩,(I.pr x (hO _ hx)).2⟩
theorem Inv.Dp(I:Inv S gA φ Pr σ s)(nb:gA.get? d=none)(hlt:∃o,s.heap.get? d=some o)(hdb:∀p,φ p≠some d)(rm:∀x∈Pr,x.1≠d):Inv S gA (φ.add σ.n d) Pr (σ.push .aux) s:=
 I.Jx (λU U e=>e) nb hlt hdb rm (λU U U e=>nomatch e) (λU U e=>nomatch e) trivial
theorem Inv.congr(I:Inv S gA φ Pr σ s)(hn:σ'.n=σ.n)(hg:∀p,σ'.get p=σ.get p):Inv S gA φ Pr σ' s:=
 ⟨I.keep,λp=>by rw[hn];exact I.dom p,I.inj,λp a e=>by rw[hg];exact I.new p a e,I.low,λp ob e=>by rw[hg]at e;exact I.obj p ob e,
  λp c k fs e=>by rw[hg]at e⊢;exact I.kU p c k fs e,λp k κ e=>by rw[hg]at e⊢;exact I.mh p k κ e,I.pr,I.gens,I.os,I.sys,I.st,λp e=>by rw[hg];exact I.tb p e⟩
theorem Inv.promote(I:Inv S gA φ Pr σ s)(e0:σ.get p=some .aux)(e1:σ.get p.succ=some .aux)
 (hp:∀q,q.succ=p→∀x,σ.get q=some x→(∀c k fs,x≠.inst c k fs)∧∀k κ,x≠.fn k κ)
 (hn:σ'.n=σ.n)(g:∀q,σ'.get q=if q=p then some ob else σ.get q)(r:∀a,φ p=some a→OR S φ s.heap p a ob):Inv S gA φ Pr σ' s where
 keep:=I.keep
 dom q:=by rw[hn];exact I.dom q
 inj:=I.inj
 new q a e:=by
  rcases I.new q a e with z|⟨xs,hz,z⟩
  .exact .inl z
  .by_cases h:q=p
   .rw[h,e0]at z;obtain rfl:=gP z;exact gU hz
   .exact .inr ⟨xs,hz,by rw[g,if_neg h];exact z⟩
 low:=I.low
 obj q o e:=by
  rw[g]at e
  by_cases h:q=p
  .subst h;rw[if_pos rfl]at e;obtain rfl:=gP e;refine gW (I.obj q _ e0) λa ha U=>?_;exact⟨a,ha,r a ha⟩
  .rw[if_neg h]at e;exact I.obj q o e
 kU q c k fs e:=by
  rw[g]at e⊢
  by_cases h:q=p
  .subst h;rw[if_neg (Ad.oR q)];exact e1
  .rw[if_neg h]at e;have:=I.kU q c k fs e
   by_cases h2:q.succ=p
   .exact absurd rfl ((hp q h2 _ e).1 c k fs)
   .rw[if_neg h2];exact this
 mh q k κ e:=by
  rw[g]at e⊢
  by_cases h:q=p
  .subst h;rw[if_neg (Ad.oR q)];exact e1
  .rw[if_neg h]at e;have:=I.mh q k κ e
   by_cases h2:q.succ=p
   .exact absurd rfl ((hp q h2 _ e).2 k κ)
   .rw[if_neg h2];exact this
 pr:=I.pr
 gens:=I.gens
 os:=I.os
 sys:=I.sys
 st:=I.st
 tb q e:=by
  refine jn (I.tb q e) λks h=>?_;refine⟨ks,?_⟩;rw[g]
  by_cases z:q=p
  .rw[z,e0]at h;cases h
  .rw[if_neg z];exact h
theorem Inv.RH(I:Inv S gA φ Pr σ s)(hk:∀b o,s.heap.get? b=some o→h'.get? b=some o)(hf:s.heap.get? a=none)(hfd:s.heap.get? d=none)(hne:d≠a)
 (hlt:∃o,h'.get? a=some o)(RI:∃o,h'.get? d=some o)
 (hab:∀p,φ p≠some a)(hdb:∀p,φ p≠some d)(rm:∀x∈Pr,x.1≠a∧x.1≠d)
 (r:OR S ((φ.add σ.n a).add σ.n.succ d) h' σ.n a ob):Inv S gA ((φ.add σ.n a).add σ.n.succ d) Pr ((σ.push ob).push .aux) ⟨h',s.gens,dr,tk,s.os⟩:=by
 have I1:Inv S gA (φ.add σ.n a) Pr (σ.push .aux) ⟨h',s.gens,dr,tk,s.os⟩:=I.push hk hf hlt hab (λx hx=>(rm x hx).1) (by intro _ _ _ e;injection e) (by intro _ _ e;injection e) trivial;have I2:Inv S gA ((φ.add σ.n a).add σ.n.succ d) Pr ((σ.push .aux).push .aux) ⟨h',s.gens,dr,tk,s.os⟩:=by
  have nb:gA.get? d=none:=by
   induction q:gA.get? d with
   |none=>rfl
   |some o=>have:=I.keep d o q;rw[hfd]at this;exact gV this
  have Dq:∀p,(φ.add σ.n a) p≠some d:=λp e=>by
   by_cases h1:p=σ.n
   .subst h1;rw[Pl.mr]at e;exact hne (gP e).symm
   .rw[Pl.nQ φ a h1]at e;exact hdb p e
  exact I1.Dp nb RI Dq (λx hx=>(rm x hx).2)
 refine I2.promote (p:=σ.n) (ob:=ob) ?_ ?_ ?_ rfl ?_ ?_
 .rw[gI.kB,gI.vU,if_neg (λe=>Ad.oR σ.n e.symm),gI.kB,if_pos rfl]
 .rw[gI.kB];exact if_pos rfl
 .intro q hq x hx;have nq:q≠σ.n:=λe=>Ad.oR q (hq.trans e.symm);have Ds:q≠σ.n.succ:=λe=>by
   have:=congrArg Ad.num hq;rw[e,Ad.pF,Ad.pF]at this;lia
  rw[gI.kB,gI.vU,if_neg Ds,gI.kB,if_neg nq]at hx;have nf:=I.Dl I.free;refine⟨λc k fs e=>?_,λk κ e=>?_⟩
  .subst e;have:=I.kU q c k fs hx;rw[hq,nf]at this;exact gV this
  .subst e;have:=I.mh q k κ hx;rw[hq,nf]at this;exact gV this
 .intro q;simp only[gI.kB,gI.vU]
  by_cases h1:q=σ.n.succ
  .rw[if_pos h1,if_pos h1,if_neg (λe=>Ad.oR σ.n (h1.symm.trans e))]
  .rw[if_neg h1,if_neg h1]
   by_cases h2:q=σ.n
   .rw[if_pos h2,if_pos h2]
   .rw[if_neg h2,if_neg h2,if_neg h2]
 .intro b hb;rw[Pl.nQ _ d (λe=>Ad.oR σ.n e.symm),Pl.mr]at hb;obtain rfl:=gP hb;exact r
end
def Fits(A:g6)(d:Nat):Prop:=A.depth+8*d+40<recursionLimit∧A.units+40*d+400<i'
def r9(A:g6)(d:Nat):Prop:=A.depth+8*d+36<recursionLimit∧A.units+40*d+370<i'
theorem Fits.call(h:Fits A d):r9 A d:=⟨n6 (Nat.add_le_add_left (by decide) _) h.1,n6 (Nat.add_le_add_left (by decide) _) h.2⟩
theorem Fits.units(h:Fits A d):A.units+300<i':=n6 (nE (lK _ _) (by decide)) h.2
noncomputable abbrev g8.M(S:g8):Model:=iJ S.prog S.w
noncomputable def sW:Exc→String| .key=>"KeyError"| .idx=>"IndexError"
def gK{α β:Type}(S:g8)(gA:Heap)(A:g6)(Pr:ik)(φ:Pl)(rel:Pl→α→β→Prop)(t:Sem α)(s:gJ)(r:R β):Prop:=match r with
 | .ok v σ'=>∀(Q:α→gJ→Prop)(E:gG→gJ→Prop),(∀gE x s',Le φ gE→Inv S gA gE Pr σ' s'→rel gE x v→Q x s')→gL S.M A t Q E s
 | .exc k σ'=>A.handled=none→∀(Q:α→gJ→Prop)(E:gG→gJ→Prop),(∀gE s1 a h' tk,Le φ gE→Inv S gA gE Pr σ' s1→Heap.NewExc s1.heap h' a (sW k)→E (.ref a) {s1 with heap:=h',toks:=tk})→gL S.M A t Q E s
 | .stuck _=>True
section
variable{S:g8}{gA:Heap}{A:g6}{Pr:ik}{φ:Pl}{σ:gI}{s:gJ}{α β γ δ:Type}{rel:Pl→α→β→Prop}{rel':Pl→γ→δ→Prop}
theorem gK.pure(I:Inv S gA φ Pr σ s)(h:rel φ x v):gK S gA A Pr φ rel (pure x) s (.ok v σ):=λQ E k=>gO (k φ x s (Le.refl φ) I h)
theorem gK.bind(h:gK S gA A Pr φ rel t s r)
 (k:∀gE x v σ' s',Le φ gE→Inv S gA gE Pr σ' s'→rel gE x v→gK S gA A Pr gE rel' (f x) s' (g v σ')):gK S gA A Pr φ rel' (t>>=f) s (r.bind g):=by
 induction r with
 |stuck w=>trivial
 |exc x σ'=>exact λhh Q E hE=>gH (h hh _ _ hE)
 |ok v σ'=>
  show gK S gA A Pr φ rel' (t>>=f) s (g v σ')
  induction e:g v σ' with
  |stuck w=>trivial
  |exc x ju=>
   refine λhh Q E hE=>gH (h _ _ λgE x s' l I r=>?_);have:=k gE x v σ' s' l I r;rw[e]at this;exact this hh _ _ λiv s1 a h' tk l2 I2 n=>hE iv s1 a h' tk (l.trans l2) I2 n
  |ok u ju=>
   refine λQ E hQ=>gH (h _ _ λgE x s' l I r=>?_);have:=k gE x v σ' s' l I r;rw[e]at this;exact this _ _ λiv x s'' l2 I2 r2=>hQ iv x s'' (l.trans l2) I2 r2
theorem gK.wp(f:α→γ)(h:gK S gA A Pr φ rel t s r)(hr:∀gE x v,Le φ gE→rel gE x v→RJ gE (f x) v)(k:∀Q E,gL S.M A t (λx=>Q (f x)) E s→gL S.M A t' Q E s):gK S gA A Pr φ RJ t' s r:=by
 induction r with
 |stuck w=>trivial
 |exc x σ'=>exact λhh Q E hE=>k _ _ (h hh _ _ hE)
 |ok v σ'=>exact λQ E hQ=>k _ _ (h _ _ λgE x s' l I r=>hQ gE _ s' l I (hr gE x v l r))
theorem gK.same(h:gK S gA A Pr φ rel t s r)(k:∀Q E,gL S.M A t Q E s→gL S.M A t' Q E s):gK S gA A Pr φ rel t' s r:=h.wp id (λU U U U q=>q) k
theorem gK.holding(h:gK S gA A Pr φ rel t s r):gK S gA A Pr φ rel (holding vs t) s r:=h.same λU U q=>jt q
theorem gK.standAt(h:gK S gA A Pr φ rel t s r):gK S gA A Pr φ rel (do standAt p;t) s r:=h.same λU U q=>gH (ky q)
theorem wpAny_release(h:Q () s):gL S.M A (release vs ks) Q E s:=λΓ p U=>by
 unfold release;rw[Sem.wp_release_go];exact h
theorem gK.operate{vs:List gG}{t:Sem gG}{r:R β}{rel:Pl→gG→β→Prop}(h:gK S gA A Pr φ rel t s r):gK S gA A Pr φ rel (operate vs t) s r:=h.same λQ E q=>by
 exact gH (jt (jg q (λx s' hx=>gH (wpAny_release (gO hx))) λU U z=>z))
theorem gK.go(h:∀x,o=some x→gK S gA A Pr φ rel t s (f x)):gK S gA A Pr φ rel t s (go o w f):=by
 induction o with
 |none=>trivial
 |some x=>exact h x rfl
end
def pJ(S:g8)(φ:Pl)(ρ:Loc)(o:Obj):Prop:=(o.cls= .type "frame"∨o.cls= .type "dict")∧∃es ep,o.data= .dict es ep∧StrKeys es∧ot S φ (nsFind es) ρ
theorem pJ.mono(l:Le φ ψ)(h:pJ S φ ρ o):pJ S ψ ρ o:=by
 obtain⟨h1,es,ep,h2,h3,h4⟩:=h;exact⟨h1,es,ep,h2,h3,h4.mono l⟩
noncomputable def isFn(sc:hU):Bool:=!(sc.names.any λx=>x.1==(".0":Str))
noncomputable def Dt(sc:hU):gG:=if isFn sc=true then .type "frame" else .type "dict"
def jj(A:g6)(Pr:ik):Prop:=A.guards=some []∧∃l,A.frames=some l∧∀e∈l,e.scope.kind≠.module∧∃L o,e.frame=some L∧(L,o)∈Pr∧(∀vs,o.data≠.fields vs)∧o.cls= .type "frame"
structure Top where
 glob:Addr
 blt:Addr
 mg:Str→Option gG
 mb:Str→Option gG
structure At(S:g8)(G:Top)(gA:Heap)(K:KE)(d:Nat)(sc:hU)(H:Bool)(A:g6)(env:Env)(κ:gX)(ρ:Loc)(Pr:ik)(o:Obj)(φ:Pl)(σ:gI)(s:gJ):Prop where
 fit:Fits A d
 hnd:H=true→A.handled=none
 KP:K.P=S.P
 scope:env.scope=sc
 kind:sc.kind= .function
 glob:env.globals=G.glob
 blt:env.builtins=G.blt
 ng:gA.Ns G.glob G.mg
 nb:gA.Ns G.blt G.mb
 lim:gA.NoLimit
 rn:ou S φ env.cells κ
 fr:pJ S φ ρ o
 inv:Inv S gA φ ((env.locals,o)::Pr) σ s
 apart:∀x∈Pr,x.1≠env.locals
 frs:jj A ((env.locals,o)::Pr)
 pK:o.cls=Dt sc
 top:isFn sc=true→∃outer,A.frames=some (env::outer)
 Dv:∀c,S.lR sc=some c→env.code= .ref c
section
variable{S:g8}{G:Top}{gA:Heap}{K:KE}{d:Nat}{sc:hU}{H:Bool}{A:g6}{env:Env}{κ:gX}{ρ:Loc}{Pr:ik}{o:Obj}{φ gE:Pl}{σ σ':gI}{s s':gJ}
theorem At.step(a:At S G gA K d sc H A env κ ρ Pr o φ σ s)(l:Le φ gE)(I:Inv S gA gE ((env.locals,o)::Pr) σ' s'):At S G gA K d sc H A env κ ρ Pr o gE σ' s':=
 {a with rn:=a.rn.mono l,fr:=a.fr.mono l,inv:=I}
theorem At.ns(a:At S G gA K d sc H A env κ ρ Pr o φ σ s):∃m,s.heap.Ns env.locals m∧ot S φ m ρ:=by
 obtain⟨h1,es,ep,h2,h3,h4⟩:=a.fr;refine kM (a.inv.pr _ (hW ..)) λRK U U=>?_;refine gW RK λo' q1 q2=>?_;exact⟨nsFind es,⟨o',es,ep,q1,q2.2.2.1.trans h2,h3,λU=>rfl⟩,h4⟩
theorem At.Jz(a:At S G gA K d sc H A env κ ρ Pr o φ σ s):s.heap.Ns G.glob G.mg:=a.ng.keeps a.inv.keep
theorem At.RL(a:At S G gA K d sc H A env κ ρ Pr o φ σ s):s.heap.Ns G.blt G.mb:=a.nb.keeps a.inv.keep
end
def FnAt(S:g8)(φ:Pl)(h:Heap)(a:Addr)(fd:FD)(κ:gX):Prop:=
 ∃od g9 sl,h.get? a=some ⟨.type "function",od,.func g9,sl⟩∧S.FK g9 fd∧h.CodeRec g9.code g9.qualname∧ou S φ g9.closure κ
def yz(S:g8)(gA:Heap)(A:g6)(Pr:ik)(φ:Pl)(c:Code)(s:gJ)(r:R AV):Prop:=match r with
 | .ok v σ'=>∀(Q:Result→gJ→Prop),(∀gE x s',Le φ gE→Inv S gA gE Pr σ' s'→VR gE x v→Q (.ok (.ret x)) s')→codeAny S.M A c Q s
 | .exc _ _=>False
 | .stuck _=>True
def kO(S:g8)(gA:Heap)(K:KE)(d:Nat):Prop:=∀(A:g6)(Pr:ik)(φ:Pl)(σ:gI)(s:gJ)(fd:FD)(κ:gX)(vs:List AV)(xs:List gG)(a:Addr),
 r9 A d→A.handled=none→jj A Pr→Inv S gA φ Pr σ s→FnAt S φ s.heap a fd κ→il φ xs vs→yz S gA A Pr φ (.call (.ref a) ⟨xs,[]⟩) s (K.call fd κ vs σ)
def ib(S:g8)(G:Top)(gA:Heap)(sc:hU)(H:Bool)(e:Expr)(f:VE):Prop:=∀K d A env κ ρ Pr o φ σ s,kO S gA K d→At S G gA K d sc H A env κ ρ Pr o φ σ s→
 gK S gA A ((env.locals,o)::Pr) φ VR (eval e env) s (f K ρ κ σ)
def kD(S:g8)(G:Top)(gA:Heap)(sc:hU)(H:Bool)(e:Expr)(f:VE):Prop:=∀K d A env κ ρ Pr o φ σ s,kO S gA K d→At S G gA K d sc H A env κ ρ Pr o φ σ s→
 gK S gA A ((env.locals,o)::Pr) φ (λU b c=>b=c) (isTrue e env (eval e env)) s (test f K ρ κ σ)
section
variable{S:g8}{G:Top}{gA:Heap}{sc:hU}{H:Bool}
theorem RM(hk:sc.names.lookup x=some .local)(hn:S.nm a=some x)(hd:(x==("__debug__":Str))=false):ib S G gA sc H (.Name x p) (p8 a):=
 λK d A env κ ρ Pr o φ σ s hK T=>by
  refine gW T.ns λm h1 h2=>?_;refine gK.go λv hv=>?_;have:=h2.1 a x hn;rw[hv]at this;refine gW this λy q1 q2=>?_;refine λQ E k=>wpAny_Name (wpAny_loadName_local (m:=m) (by rw[T.scope];exact T.kind) ?_ h1 q1 (k φ y s (Le.refl φ) T.inv q2)) hd;show env.scope.names.lookup x=_;rw[T.scope];exact hk
theorem RN(hk:sc.names.lookup x=some .cell∨sc.names.lookup x=some .free)(hn:S.nm a=some x)(hd:(x==("__debug__":Str))=false)(hc:(x==("__classdict__":Str))=false):ib S G gA sc H (.Name x p) (p9 a):=
 λK d A env κ ρ Pr o φ σ s hK T=>by
  refine gK.go λq hq=>?_;refine iH (T.rn a q hq) λn c h1 h2 h3=>?_;rw[hn]at h1;obtain rfl:=gP h1
  induction e:σ.get q with
  |none=>trivial
  |some ob=>
   induction ob with
   |cell v=>
    induction v with
    |none=>trivial
    |some v=>
     obtain⟨c',hc',y,hy,u,hu,r⟩:=T.inv.obj q _ e;rw[h3]at hc';obtain rfl:=gP hc';have hcell:s.heap.IsCell c (some u):=hu▸⟨_,hy,rfl⟩;refine λQ E k=>wpAny_Name ?_ hd
     rcases hk with hk|hk
     .exact wpAny_loadName_cell (by rw[T.scope];exact T.kind) (by show env.scope.names.lookup x=_;rw[T.scope];exact hk) h2 hcell (k φ u s (Le.refl φ) T.inv r)
     .exact wpAny_loadName_free (by rw[T.scope];exact T.kind) (by show env.scope.names.lookup x=_;rw[T.scope];exact hk) h2 hcell (k φ u s (Le.refl φ) T.inv r) hc
   |_=>trivial
end
section
variable{S:g8}{gA:Heap}{A:g6}{Pr:ik}{φ:Pl}{σ:gI}{s:gJ}
theorem Inv.list(I:Inv S gA φ Pr σ s)(e:σ.get p=some (.list xs))(h:φ p=some a):∃vs n,s.heap.get? a=some ⟨.type "list",none,.seq vs n,#[]⟩∧il φ vs.toList xs∧xs.length≤cap:=by
 refine gW (I.obj p _ e) λb hb r=>?_;rw[h]at hb;obtain rfl:=gP hb;exact r
theorem Inv.jH(I:Inv S gA φ Pr σ s)(e:σ.get p=some .jH)(h:φ p=some a):∃xs vs n,S.P.xs=some xs∧s.heap.get? a=some ⟨.type "list",none,.seq vs n,#[]⟩∧il φ vs.toList xs∧xs.length≤cap:=by
 refine gW (I.obj p _ e) λb hb r=>?_;rw[h]at hb;obtain rfl:=gP hb;exact r
theorem Inv.tuple(I:Inv S gA φ Pr σ s)(e:σ.get p=some (.tuple xs))(h:φ p=some a):∃vs n,s.heap.get? a=some ⟨.type "tuple",none,.seq vs n,#[]⟩∧il φ vs.toList xs∧xs.length≤cap:=by
 refine gW (I.obj p _ e) λb hb r=>?_;rw[h]at hb;obtain rfl:=gP hb;exact r
theorem Inv.dict(I:Inv S gA φ Pr σ s)(e:σ.get p=some (.dict es))(h:φ p=some a):kN S.w φ s.heap a es:=by
 refine gW (I.obj p _ e) λb hb r=>?_;rw[h]at hb;obtain rfl:=gP hb;exact r
theorem Inv.vS(I:Inv S gA φ Pr σ s)(e:σ.get p=some (.set cs))(h:φ p=some a):Di S s.heap a cs:=by
 refine gW (I.obj p _ e) λb hb r=>?_;rw[h]at hb;obtain rfl:=gP hb;exact r
theorem Inv.inst(I:Inv S gA φ Pr σ s)(e:σ.get p=some (.inst c k fs))(h:φ p=some a):∃C d,φ p.succ=some d∧S.cls c=some C∧s.heap.get? a=some ⟨.ref C,some d,.plain,#[]⟩∧Ju S φ s.heap d k fs:=by
 refine gW (I.obj p _ e) λb hb r=>?_;rw[h]at hb;obtain rfl:=gP hb;exact r
theorem oU(I:Inv S gA φ Pr σ s)(h:∀(Q:gG→gJ→Prop)(E:gG→gJ→Prop),(∀u tk,Q (.int i u) {s with toks:=tk})→gL S.M A t Q E s):gK S gA A Pr φ VR t s (.ok (.int i) σ):=
 λQ E k=>h Q E λu tk=>k φ _ _ (Le.refl φ) (I.tok tk s.drawn) (.int i u)
theorem sd(I:Inv S gA φ Pr σ s)(h:∀(Q:gG→gJ→Prop)(E:gG→gJ→Prop),(∀tk,Q (.bool b) {s with toks:=tk})→gL S.M A t Q E s):gK S gA A Pr φ VR t s (.ok (.bool b) σ):=
 λQ E k=>h Q E λtk=>k φ _ _ (Le.refl φ) (I.tok tk s.drawn) (.bool b)
theorem yA(I:Inv S gA φ Pr σ s)(hx:SR x n)(h:∀(Q:gG→gJ→Prop)(E:gG→gJ→Prop),(∀u tk,Q (.str x u) {s with toks:=tk})→gL S.M A t Q E s):gK S gA A Pr φ VR t s (.ok (.str n) σ):=
 λQ E k=>h Q E λu tk=>k φ _ _ (Le.refl φ) (I.tok tk s.drawn) (.str u hx)
theorem tT(I:Inv S gA φ Pr σ s)(h:∀(Q:Bool→gJ→Prop)(E:gG→gJ→Prop),(∀tk,Q b {s with toks:=tk})→gL S.M A t Q E s):gK S gA A Pr φ (λU b c=>b=c) t s (.ok b σ):=
 λQ E k=>h Q E λtk=>k φ _ _ (Le.refl φ) (I.tok tk s.drawn) rfl
theorem JA(x y:Str):(x++y).cps=x.cps++y.cps:=rfl
theorem xa(h:lk l=some v):l.length≤cap∧v= .str (iT l):=by
 unfold lk at h
 induction e:pf l with
 |false=>rw[e]at h;exact gV h
 |true=>rw[e]at h;obtain rfl:=gP h;exact⟨(w8 l).mp e,rfl⟩
theorem AK(h:j8 l=some v):l.length≤cap∧v= .list l:=by
 unfold j8 at h
 induction e:pf l with
 |false=>rw[e]at h;exact gV h
 |true=>rw[e]at h;obtain rfl:=gP h;exact⟨(w8 l).mp e,rfl⟩
theorem RO(h:yc l=some v):l.length≤cap∧v= .tuple l:=by
 unfold yc at h
 induction e:pf l with
 |false=>rw[e]at h;exact gV h
 |true=>rw[e]at h;obtain rfl:=gP h;exact⟨(w8 l).mp e,rfl⟩
theorem JB(h:vO l=some v):l.length≤cap∧v= .dict l:=by
 unfold vO at h
 induction e:pf l with
 |false=>rw[e]at h;exact gV h
 |true=>rw[e]at h;obtain rfl:=gP h;exact⟨(w8 l).mp e,rfl⟩
theorem Dw(h:SR x a)(k:SR y b)(hl:(app (dec a) (dec b)).length≤cap):SR (x++y) (iT (app (dec a) (dec b))):=by
 rw[h.dec,k.dec,lQ]at hl⊢;refine⟨⟨?_,?_⟩,?_⟩
 .show(x.cps++y.cps).all _=true;rw[Array.all_append];have h1:x.cps.all (λc=>decide (c<0x110000))=true:=h.1.1;have h2:y.cps.all (λc=>decide (c<0x110000))=true:=k.1.1;rw[h1,h2];rfl
 .show _=iT (x.cps++y.cps).toList;rw[vH]
 .show(x.cps++y.cps).size≤cap;simpa using hl
theorem se(h:Heap):h.get? h.objs.size=none:=by
 induction e:h.get? h.objs.size with
 |none=>rfl
 |some o=>exact absurd (mF e) (jQ _)
theorem Inv.fresh(I:Inv S gA φ Pr σ s)(p:Ad)(e:φ p=some s.heap.objs.size):False:=by
 obtain⟨o,z⟩:=I.low p _ e;rw[se]at z;exact gV z
theorem Inv.AL(I:Inv S gA φ Pr σ s)(n:Nat)(h:il φ vs xs)(hl:xs.length≤cap)(tk:Nat):
 Inv S gA (φ.add σ.n s.heap.objs.size) Pr (σ.push (.list xs)) ⟨s.heap.push {cls:=.type "list",data:=.seq vs.toArray n},s.gens,s.drawn,tk,s.os⟩:=
 I.push (λb o e=>ja _ e) (se _) ⟨_,j7 _ rfl⟩
  (λp e=>I.fresh p e) (λx hx e=>by
   refine iK (I.pr x hx) λRP U=>?_;refine gW RP λo q U=>?_;have:=mF q;rw[e]at this;exact jQ _ this) (by intro _ _ _ e;injection e) (by intro _ _ e;injection e)
  ⟨vs.toArray,n,j7 _ rfl,h.mono (I.jY _),hl⟩
theorem Inv.yB(I:Inv S gA φ Pr σ s)(n:Nat)(h:il φ vs xs)(hl:xs.length≤cap)(tk:Nat):
 Inv S gA (φ.add σ.n s.heap.objs.size) Pr (σ.push (.tuple xs)) ⟨s.heap.push {cls:=.type "tuple",data:=.seq vs.toArray n},s.gens,s.drawn,tk,s.os⟩:=
 I.push (λb o e=>ja _ e) (se _) ⟨_,j7 _ rfl⟩
  (λp e=>I.fresh p e) (λx hx e=>by
   obtain⟨⟨o,q,_⟩,_⟩:=I.pr x hx;have:=mF q;rw[e]at this;exact jQ _ this) (by intro _ _ _ e;injection e) (by intro _ _ e;injection e)
  ⟨vs.toArray,n,j7 _ rfl,h.mono (I.jY _),hl⟩
theorem VR.top(φ:Pl)(p:Ad)(a:Addr):VR (φ.add p a) (.ref a) (.ref p):=.ref (Pl.mr φ p a)
theorem JC(σ:gI)(p:Ad):objOf σ (.ref p)=σ.get p:=rfl
theorem JD(vs:Array gG):vs.toList.toArray=vs:=by simp
theorem ow(h:n≤cap):n≤sizeLine:=ia h (by decide)
theorem RQ(I:Inv S gA φ Pr σ s)(hx:VR φ x u)(hy:VR φ y v):gK S gA A Pr φ VR (binaryOp .Add x y) s (Hx u v σ):=by
 induction hx with
 |none=>trivial
 |bool=>trivial
 |int i t=>
  induction hy with
  |int j t'=>exact oU I λQ E k=>P.add_int (k _ _)
  |_=>trivial
 |str t hs=>
  induction hy with
  |str t' hs'=>
   refine gK.go λw hw=>?_;refine iK (xa hw) λhl RR=>?_;subst RR;refine yA I (Dw hs hs' hl) λQ E k=>PyProof.Rows.add_str (λU U=>k _ _) ?_;have:=(Dw hs hs' hl).2;refine ow ?_;rw[JA,Array.size_append]at this;exact this
  |_=>trivial
 |ref hp=>
  refine gK.go λxo JE=>gK.go λyo Dx=>gK.go λo ho=>?_;rw[JC]at JE
  induction xo with
  |list xs=>
   induction yo with
   |list ys=>
    refine iK (AK ho) λhl RT=>?_;subst RT;rw[lQ]at hl⊢
    induction hy with
    |ref hq=>
     rw[JC]at Dx;refine iH (I.list JE hp) λvs n h1 h2 h3=>?_;refine iH (I.list Dx hq) λws m k1 k2 k3=>?_;refine λQ E k=>P.add_list h1 k1 ?_ ?_
     .have I':=I.AL 0 (h2.append k2) hl s.toks;rw[show(vs.toList++ws.toList).toArray=vs++ws by simp]at I';exact k _ _ _ (I.jY _) I' (VR.top ..)
     .have e1:=h2.length;have e2:=k2.length;rw[jm]at hl;refine ow ?_;simp only[jM]at e1 e2;lia
    |_=>exact gV Dx
   |_=>exact gV ho
  |_=>exact gV ho
theorem RU(I:Inv S gA φ Pr σ s)(hx:VR φ x u)(hy:VR φ y v):gK S gA A Pr φ VR (binaryOp .Sub x y) s (Hy u v σ):=by
 induction hx with
 |int i t=>
  induction hy with
  |int j t'=>exact oU I λQ E k=>P.sub_int (k _ _)
  |_=>trivial
 |_=>trivial
theorem JF(I:Inv S gA φ Pr σ s)(hx:VR φ x u)(hy:VR φ y v)(ho:(op= .add∧op'= .Add)∨(op= .sub∧op'= .Sub)):gK S gA A Pr φ VR (inplaceOp op' x y) s (vP op u v σ):=by
 induction hx with
 |int i t=>
  induction hy with
  |int j t'=>
   rcases ho with⟨rfl,rfl⟩|⟨rfl,rfl⟩
   .exact oU I λQ E k=>P.iadd_int (k _ _)
   .exact oU I λQ E k=>P.isub_int (k _ _)
  |_=>rcases ho with⟨rfl,rfl⟩|⟨rfl,rfl⟩<;>trivial
 |_=>trivial
theorem RV(I:Inv S gA φ Pr σ s):gK S gA A Pr φ VR (unaryOp .USub (.int i t)) s (.ok (.int (-i)) σ):=
 oU I λQ E k=>P.neg_int (k _ _)
theorem RW(I:Inv S gA φ Pr σ s)(h:0<j):gK S gA A Pr φ VR (binaryOp .Mod (.int i t) (.int j t')) s (.ok (.int (i%j)) σ):=
 oU I λQ E k=>PyProof.Rows.mod_int (by lia) (by rw[Int.fmod_eq_emod_of_nonneg _ (by lia)];exact k _ _)
end
section
variable{S:g8}{gA:Heap}{A:g6}{Pr:ik}{φ:Pl}{σ:gI}{s:gJ}
theorem Inv.RX(I:Inv S gA φ Pr σ s):Jg φ σ s.heap:=⟨λp xs e=>by
 obtain⟨a,ha,vs,n,h1,h2,_⟩:=I.obj p _ e;exact⟨a,_,vs,n,ha,h1,rfl,rfl,h2⟩,λp xs e=>by
 obtain⟨a,ha,vs,n,h1,h2,_⟩:=I.obj p _ e;exact⟨a,_,vs,n,ha,h1,rfl,rfl,h2⟩⟩
theorem Inv.tU(I:Inv S gA φ Pr σ s)(h:φ p=some d)(hn:∀ob,σ.get p=some ob→AI ob=false):(d==nA)=false:=by
 induction e:d==nA with
 |false=>rfl
 |true=>
  have:=eq_of_beq e;subst this;obtain⟨o,ho⟩:=I.sys
  rcases I.new p _ h with z|⟨xs,hz,z⟩
  .rw[z]at ho;exact gV ho
  .rw[hn xs z]at hz;exact gU hz
theorem Inv.reads(I:Inv S gA φ Pr σ s)(e:code L σ n v=some c)(h:VR φ x v):∃d as,mD s.heap x d as∧jF d=some c∧d.depth≤n∧(L=false→rg d=true):=Q4 I.RX n v x c e h
theorem Inv.key(I:Inv S gA φ Pr σ s)(e:key σ v=some c)(h:VR φ x v):∃H,iX S.w s.heap x H c:=by
 refine lx (I.reads e h) λd as h1 h2 h3 h4=>?_;exact⟨_,d,as,h1,h2,h4 rfl,h3,rfl⟩
theorem JG(hu:A.units+300<i')(I:Inv S gA φ Pr σ s)(hx:VR φ x u)(hy:VR φ y v)(h:lN σ u v=some b):gK S gA A Pr φ VR (compareOp .Eq x y) s (.ok (.bool b) σ)∧gK S gA A Pr φ VR (compareOp .NotEq x y) s (.ok (.bool (!b)) σ):=by
 unfold lN at h
 induction e1:ma σ u with
 |none=>rw[e1]at h;exact gV h
 |some c=>
  induction e2:ma σ v with
  |none=>rw[e1,e2]at h;exact gV h
  |some c'=>
   rw[e1,e2]at h;have h:some (ie c c')=some b:=h;refine lx (I.reads e1 hx) λd as r1 r2 r3 U=>?_;refine lx (I.reads e2 hy) λd' as' q1 q2 q3 U=>?_;have hb:b=hY.eqv d d':=by rw[C6 r2 q2,←oq];exact(gP h).symm
   have hd:A.units+min d.depth d'.depth<i':=by lia
   subst hb;exact⟨sd I λQ E k=>SeqAt.compareEq_reads r1 q1 (q9 _ _ r2) (q9 _ _ q2) hd (k _),sd I λQ E k=>SeqAt.compareNe_reads r1 q1 (q9 _ _ r2) (q9 _ _ q2) hd (k _)⟩
theorem JH(σ:gI)(k:Nat)(a:AV)(l:List AV):p5 σ k (a::l)=match ma σ a with
 |some c=>(match p5 σ k l with|some b=>some (if c=k then true else b)|none=>none)
 |none=>none:=by
 have e:p5 σ k (a::l)= @hG Nat (λU=>Option Bool) none (λc=>@hG Bool (λU=>Option Bool) none (λb=>some (@gT (λU=>Bool) b true (ie c k))) (p5 σ k l)) (ma σ a):=rfl;rw[e]
 induction ma σ a with
 |none=>rfl
 |some c=>
  induction p5 σ k l with
  |none=>rfl
  |some b=>
   show some (@gT (λU=>Bool) b true (ie c k))=some _;rw[oq]
   by_cases h:c=k<;>simp[h]
theorem RY(I:Inv S gA φ Pr σ s)(hd:jF d=some k)(xs:List AV)(vs:List gG)(b:Bool)(h:il φ vs xs)(e:p5 σ k xs=some b):
 ∃ds as,sN s.heap vs ds as∧hY.canLayAll0 ds=true∧(hY.depthAll ds≤8)∧b=ds.any λy=>hY.eqv y d:=by
 induction h generalizing b with
 |nil=>exact⟨[],[],.nil,rfl,kg 8,(gP e).symm⟩
 | @cons _ x _ xs h1 h2 ih=>
  rw[JH]at e
  induction e1:ma σ x with
  |none=>rw[e1]at e;exact gV e
  |some c=>
   induction e2:p5 σ k xs with
   |none=>rw[e1,e2]at e;exact gV e
   |some b'=>
    rw[e1,e2]at e;refine lx (I.reads e1 h1) λd' as' r1 r2 r3 U=>?_;refine lx (ih b' e2) λds as q1 q2 q3 q4=>?_;refine⟨d'::ds,as'++as,.cons r1 q1,lJ.2 ⟨q9 _ _ r2,q2⟩,Nat.max_le.mpr ⟨r3,q3⟩,?_⟩;rw[List.any_cons,←q4,C6 r2 hd,←gP e]
    by_cases h:c=k
    .rw[if_pos h,decide_eq_true h];rfl
    .rw[if_neg h,decide_eq_false h];rfl
theorem JI(c:Nat):∀l:List Nat,n9 c l=decide (c∈l)
 |[]=>by simp[n9]
 |x::l=>by
  show(gT (n9 c l) true (ie x c):Bool)=_;rw[oq,JI c l]
  by_cases h:x=c
  .subst h;simp
  .have h':¬c=x:=λe=>h e.symm;simp[h,h']
theorem JJ{α:Type}(o:Option α):CF o=o.isSome:=by induction o<;>rfl
section
variable{prog:lg}{w:jb}{E:gG→gJ→Prop}{d:Addr}{es:List (Nat×AV×AV)}{key:gG}{H:Int}{c:Nat}
theorem JK(hu:A.units+50<i')(i6:iX w s.heap key H c)(D:kN w φ s.heap d es)(hd:(d==nA)=false)(h:∀tk,Q (i5 es c).isSome {s with toks:=tk}):
 gL (iJ prog w) A (PySem.contains (.ref d) key) Q E s:=by
 unfold PySem.contains
 try with_reducible refine jt ?_
 refine gH (wpAny_specialOf D.typeIs slot_dict_contains.lookup ?_);show gL _ _ (if(some (gG.builtin "dict.__contains__")==some gG.none)=true then _ else _) _ E s;refine jx (decide_eq_false (by rw[beq_builtin_none];exact jD)) ?_;refine gH (wpAny_callSpecialUnlessNone?_slot (name:=gM "__contains__") D.typeIs slot_dict_contains
  (l7 slot_dict_contains D.typeIs entry_dict_contains ?_ (args_dict_contains _ _)))
 show gL _ _ (dictGet d key>>=_) _ _ s;refine gH (yy (by show A.units+1+5<i';lia) i6 D (λx v tk e r=>?_) λtk e=>?_)
 .have:=h tk;rw[e]at this;exact gO ⟨_,rfl,wpAny_truthy_bool this⟩
 .have:=h tk;rw[e]at this;exact gH (wpAny_pendingKey_other hd (gO ⟨_,rfl,wpAny_truthy_bool this⟩))
theorem RZ(hu:A.units+50<i')(i6:iX w s.heap key H c)(D:kN w φ s.heap d es)(hd:(d==nA)=false)(h:∀tk,Q (.bool (i5 es c).isSome) {s with toks:=tk}):
 gL (iJ prog w) A (compareOp .In key (.ref d)) Q E s:=by
 exact gH (JK hu i6 D hd λtk=>gO (h tk))
theorem R0(hu:A.units+50<i')(i6:iX w s.heap key H c)(D:kN w φ s.heap d es)(hd:(d==nA)=false)(h:∀tk,Q (.bool (!(i5 es c).isSome)) {s with toks:=tk}):
 gL (iJ prog w) A (compareOp .NotIn key (.ref d)) Q E s:=by
 exact gH (JK hu i6 D hd λtk=>gO (h tk))
end
theorem JL(hu:A.units+300<i')(I:Inv S gA φ Pr σ s)(hx:VR φ x u)(hy:VR φ y v)(h:contains σ u v=some b):gK S gA A Pr φ VR (compareOp .In x y) s (.ok (.bool b) σ)∧gK S gA A Pr φ VR (compareOp .NotIn x y) s (.ok (.bool (!b)) σ):=by
 induction hy with
 |none=>exact gV h
 |bool=>exact gV h
 |int=>exact gV h
 | @str y n t hs=>
  induction hx with
  | @str x' m' t' hs'=>
   have h:(hG none (λc=>some (n9 c (dec n))) (Hz (dec m')):Option Bool)=some b:=h;rw[hs.dec,hs'.dec]at h;obtain⟨⟨l⟩⟩:=x'
   match l,h with
   |[],h=>exact gV h
   |c::d::l,h=>exact gV h
   |[c],h=>
    have h:=gP h;rw[JI]at h;subst h;have e:=StrLaws.found_one y c;refine⟨sd I λQ E k=>P.in_str ?_,sd I λQ E k=>P.notIn_str ?_⟩
    .exact e▸k _
    .exact e▸k _
  |_=>exact gV h
 | @ref a p hp=>
  have h:(hG none (CG σ u) (σ.get p):Option Bool)=some b:=h
  induction e:σ.get p with
  |none=>rw[e]at h;exact gV h
  |some ob=>
   rw[e]at h
   induction ob with
   |list xs=>
    have h:(hG none (λk=>p5 σ k xs) (ma σ u):Option Bool)=some b:=h
    induction e1:ma σ u with
    |none=>rw[e1]at h;exact gV h
    |some k=>
     rw[e1]at h;refine lx (I.reads e1 hx) λd as r1 r2 r3 U=>?_;refine iH (I.list e hp) λvs n z1 z2 U=>?_;refine lx (RY I r2 xs vs.toList b z2 h) λds bs q1 q2 q3 eq1=>?_;subst eq1;have hd:A.units+1+min (hY.depthAll ds) d.depth<i':=by lia
     have rl:mD s.heap (.ref a) (.list ds) (a::bs):=.list z1 rfl rfl q1;exact⟨sd I λQ E kk=>SeqAt.in_list_reads rl r1 q2 (q9 _ _ r2) hd (kk _),sd I λQ E kk=>SeqAt.notIn_list_reads rl r1 q2 (q9 _ _ r2) hd (kk _)⟩
   |dict es=>
    have h:(hG none (λk=>some (CF (i5 es k))) (key σ u):Option Bool)=some b:=h
    induction e1:key σ u with
    |none=>rw[e1]at h;exact gV h
    |some c=>
     rw[e1]at h;have h:=gP h;refine jn (I.key e1 hx) λH hk=>?_;have D:=I.dict e hp;have hsys:=I.tU hp (by intro _ z;rw[e]at z;obtain rfl:=gP z;rfl);refine⟨sd I λQ E kk=>RZ (by lia) hk D hsys λtk=>?_,sd I λQ E kk=>R0 (by lia) hk D hsys λtk=>?_⟩
     .rw[JJ]at h;rw[h];exact kk _
     .rw[JJ]at h;rw[h];exact kk _
   |set cs=>
    induction hx with
    |str t hs=>
     have h:some (pZ cs _)=some b:=h;have h:=gP h;refine iH (I.vS e hp) λT n k1 k2 U=>?_;have e2:=k2 _ hs.1.1;rw[show 8*iT _+1=Nat.succ (Nat.mul 8 _)from congrArg (λn=>Nat.succ (Nat.mul 8 n)) hs.enc.symm,h]at e2;refine⟨sd I λQ E kk=>wpAny_inSet_of (strKind_is _ _ _ _) rfl k1 (by rw[e2];exact kk _),sd I λQ E kk=>wpAny_notInSet_of (strKind_is _ _ _ _) rfl k1 (by rw[e2];exact kk _)⟩
    |_=>exact gV h
   |_=>exact gV h
end
open PySem.W
structure AM(K:Frag)(C:Addr):Prop where
 ga:findIn K (.ref C) "__getattribute__"=some (some (.builtin "object.__getattribute__"))
 gk:findIn K (.ref C) "__getattr__"=some none
 sa:findIn K (.ref C) "__setattr__"=some (some (.builtin "object.__setattr__"))
 over:plainOver K C=true
 bool:findIn K (.ref C) "__bool__"=some none
 dict:(clsIn K C).any (·.hasDict)=true
def xb(K:Frag)(C:Addr)(n:Str)(d:Option AV):Prop:=copiedNames.contains n=false∧takerIn K C n=some none∧match d with
 |none=>findIn K (.ref C) n=some none
 |some v=>∃y,findIn K (.ref C) n=some (some y)∧specialIn K y "__get__"=some none∧handedIn y=true∧∀φ,VR φ y v
structure ly(S:g8)(gA:Heap):Prop where
 sf:S.K.In gA
 cls:∀c C,S.cls c=some C→AM S.K C
 attr:∀c C x n,S.cls c=some C→S.attr x=true→S.nm x=some n→xb S.K C n ((iM S.P.cls c).bind λcd=>cd.1.get x)
section
variable{S:g8}{gA:Heap}{A:g6}{Pr:ik}{φ:Pl}{σ:gI}{s:gJ}
theorem Inv.sf(I:Inv S gA φ Pr σ s)(F:ly S gA):S.K.In s.heap:=F.sf.keeps I.keep
theorem AN(hk:StrKeys es)(n:Str)(c:gG)(d:Option Addr)(sl:_):lookIn n ⟨c,d,.dict es ep,sl⟩=some (nsFind es n):=by
 unfold lookIn nsFind findBy;dsimp only;rw[←Array.find?_toList];have hr:es.toList.any (·.refKey)=false:=by
  rw[List.any_eq_false];intro e he;refine qY (hk e (Array.mem_toList_iff.mp he)) λm t h=>?_;simp[kJ.refKey,h]
 induction q:es.toList.find? (·.key.isStr n)with
 |some e=>rfl
 |none=>dsimp only;rw[hr];rfl
theorem yC{h:Heap}{a C d:Addr}{es:Array kJ}{ep:Nat}(h1:h.get? a=some ⟨.ref C,some d,.plain,#[]⟩)(h2:h.get? d=some ⟨.type "dict",none,.dict es ep,#[]⟩):
 InstAt h a ⟨.ref C,some d,.plain,#[]⟩ C (some ⟨.type "dict",none,.dict es ep,#[]⟩):=⟨h1,rfl,rfl,h2⟩
theorem R1{φ:Pl}{y:gG}{v:AV}(h:VR φ y v):handedIn y=true:=by induction h<;>rfl
theorem R2{K:Frag}{C d:Addr}{n:Str}{dv:Option AV}{es:Array kJ}{ep:Nat}(G:AM K C)(hA:xb K C n dv)(hk:StrKeys es){y:gG}(hy:nsFind es n=some y):
 findObj K C (some ⟨.type "dict",none,.dict es ep,#[]⟩) n=some (.value y):=by
 refine gW (any_some G.dict) λcd hc hd=>?_;refine kM hA λh1 h2 h3=>?_;have ho:ownOf cd (some ⟨.type "dict",none,.dict es ep,#[]⟩) n=some (some y):=by
  unfold ownOf;rw[if_pos hd];dsimp only;rw[AN hk,hy]
 unfold findObj;rw[hc,Option.bind_some]
 induction dv with
 |none=>
  rw[show findIn K (.ref C) n=some none from h3];show(ownOf cd _ n).bind _=_;rw[ho];rfl
 |some v=>
  refine m8 h3 λz h3 h4 h5 U=>?_;rw[h3,Option.bind_some];dsimp only;rw[h4];show(ownOf cd _ n).bind _=_;rw[ho];rfl
theorem R3{K:Frag}{C d:Addr}{n:Str}{v:AV}{es:Array kJ}{ep:Nat}(G:AM K C)(hA:xb K C n (some v))(hk:StrKeys es)(hy:nsFind es n=none):
 ∃y,findObj K C (some ⟨.type "dict",none,.dict es ep,#[]⟩) n=some (.value y)∧handedIn y=true∧∀φ,VR φ y v:=by
 refine gW (any_some G.dict) λcd hc hd=>?_;obtain⟨h1,h2,z,h3,h4,h5,h6⟩:=hA;have ho:ownOf cd (some ⟨.type "dict",none,.dict es ep,#[]⟩) n=some none:=by
  unfold ownOf;rw[if_pos hd];dsimp only;rw[AN hk,hy]
 refine⟨z,?_,h5,h6⟩;unfold findObj;rw[hc,Option.bind_some,h3,Option.bind_some];dsimp only;rw[h4];show(ownOf cd _ n).bind _=_;rw[ho,Option.bind_some];dsimp only;rw[h1,Bool.false_and];show(if handedIn z=true then _ else _)=_;rw[h5];rfl
theorem R4(h:wZ o=some (c,k,fs)):o= .inst c k fs:=by
 induction o with
 |inst c' k' fs'=>cases h;rfl
 |_=>cases h
theorem Dy{v:AV}{c k:Nat}{fs:BT AV}(h:ph v σ=some (c,k,fs)):∃p,v= .ref p∧σ.get p=some (.inst c k fs):=by
 induction v with
 |ref p=>
  refine⟨p,rfl,?_⟩;have h:(hG none wZ (σ.get p):Option (Nat×Nat×BT AV))=some (c,k,fs):=h
  induction e:σ.get p with
  |none=>rw[e]at h;exact gV h
  |some o=>rw[e]at h;rw[R4 h]
 |_=>exact gV h
theorem JM(F:ly S gA){o:gG}{v:AV}{x:Ad}{n:Str}(I:Inv S gA φ Pr σ s)(hx:VR φ o v)(hn:S.nm x=some n)(ha:S.attr x=true):gK S gA A Pr φ VR (PySem.getAttr o n true) s (Internal.getAttr S.P v x σ):=by
 refine gK.go λ⟨c,k,fs⟩ hp=>?_;refine gW (Dy hp) λp Dz he=>?_;subst Dz
 cases hx with
 | @ref a _ ha'=>
 obtain⟨C,d,q1,q2,q3,es,ep,q4,q5,q6,q7,q8⟩:=I.inst he ha';have G:=F.cls c C q2;have X:=I.sf F;have IA:=yC q3 q4;have hl:=q8.1 x n hn
 induction e:fs.get x with
 |some u=>
  rw[e]at hl;refine gW hl λy hy r=>?_;refine λQ E kk=>get_value X IA G.ga (R2 (d:=d) G (F.attr c C x n q2 ha hn) q5 hy) (R1 r) (kk φ _ _ (Le.refl φ) (I.tok _ s.drawn) r)
 |none=>
  rw[e]at hl;refine gK.go λcd hcd=>gK.go λu hu=>?_;have hA:=F.attr c C x n q2 ha hn;rw[hcd,Option.bind_some,hu]at hA;refine jI (R3 (d:=d) G hA q5 hl (ep:=ep)) λy h1 h2 h3=>?_;exact λQ E kk=>get_value X IA G.ga h1 h2 (kk φ _ _ (Le.refl φ) (I.tok _ s.drawn) (h3 φ))
theorem R5{es:Array kJ}{ep:Nat}{c:gG}{d:Option Addr}{sl:Array (Option gG)}(hk:StrKeys es)(n:Str)(H:Int)(t:PySem.Tok)(y:gG):
 ∃es' mi,Obj.putName n H (.str n t) y ⟨c,d,.dict es ep,sl⟩=⟨c,d,.dict es' mi,sl⟩∧StrKeys es'∧(∀x,nsFind es' x=if x=n then some y else nsFind es x)∧es'.size≤es.size+1∧(nsFind es n≠none→es'.size=es.size):=by
 induction hi:es.findIdx? (·.key.isStr n)with
 |some i=>
  refine⟨es.modify i λe=>{e with val:=y},ep,by simp only[Obj.putName_eq,Obj.putNameByArray,hi],hk.modify _ _,λx=>?_,by simp,λU=>by simp⟩;exact findBy_modify (λn v=>v.isStr n) gG.isStr_inj es n x y i hi
 |none=>
  refine⟨es.push ⟨H,.str n t,y⟩,ep+1,by simp only[Obj.putName_eq,Obj.putNameByArray,hi],hk.push _ _ _ _,λx=>?_,by simp,λh=>?_⟩
  .exact findBy_push (λn v=>v.isStr n) es n x _ _ y (λz=>by
    show(n==z)=decide (z=n)
    by_cases h:z=n
    .subst h;simp
    .have:¬n=z:=λe=>h e.symm;simp[h,this]) hi
  .refine absurd ?_ h;unfold nsFind findBy;have:es.find? (λx=>x.key.isStr n)=none:=by
    rw[Array.findIdx?_eq_none_iff]at hi;rw[Array.find?_eq_none];intro x hx;simp[hi x hx]
   rw[this];rfl
theorem DA{d:Addr}{es:Array kJ}{ep:Nat}{c:gG}{dd:Option Addr}{sl:Array (Option gG)}{n:Str}{y:gG}{E:gG→gJ→Prop}{Q:Unit→gJ→Prop}(hd:s.heap.get? d=some ⟨c,dd,.dict es ep,sl⟩)(hk:StrKeys es)
 (h:∀h' es' mi,h'.get? d=some ⟨c,dd,.dict es' mi,sl⟩→StrKeys es'→(∀x,nsFind es' x=if x=n then some y else nsFind es x)→es'.size≤es.size+1→(nsFind es n≠none→es'.size=es.size)→i0 d s.heap h'→Q () {s with heap:=h',toks:=s.toks+1}):
 gL S.M A (nsSet d n y) Q E s:=by
 refine gH (gH (wpAny_askSetting (gO (gH (wpAny_mkText (gH (wpAny_loadPart hd ?_)))))));dsimp only;have hany:es.any (·.refKey)=false:=by
  rw[Array.any_eq_false'];intro e he;refine qY (hk e he) λm t z=>?_;simp[kJ.refKey,z]
 rw[aRefKeyMayBeTheName_at,hany,Bool.and_false];refine nO (R5 (ep:=ep) (c:=c) (d:=dd) (sl:=sl) hk n (hY.keyHash S.w.params n) s.toks y) λes' mi h1 h2 h3 h4 h5=>?_;refine wpAny_updatePart hd (h _ es' mi ?_ h2 h3 h4 h5 (i0.update ..));rw[←h1];exact vG _ hd ((congrArg Obj.isFreed h1).trans rfl)
theorem JN(F:ly S gA){o y:gG}{v u:AV}{x:Ad}{n:Str}(I:Inv S gA φ Pr σ s)(hx:VR φ o v)(hy:VR φ y u)(hn:S.nm x=some n)(ha:S.attr x=true):gK S gA A Pr φ (λU U U=>True) (PySem.setAttr o n y) s (Internal.setAttr v x u σ):=by
 induction v with
 |ref p=>?_
 |_=>trivial
 cases hx with
 | @ref a _ ha'=>
 refine gK.go λ⟨c,k,fs⟩ hp=>?_;refine gW (Dy hp) λp' e' he=>?_
 cases e'
 obtain⟨C,d,q1,q2,q3,es,ep,q4,q5,q6,q7,q8⟩:=I.inst he ha';have G:=F.cls c C q2;have X:=I.sf F;have IA:=yC q3 q4;have hl:=q8.1 x n hn;have hA:=F.attr c C x n q2 ha hn;have go:∀(k':Nat)(Q:Unit→gJ→Prop)(E:gG→gJ→Prop),(es.size+1≤k'∨(nsFind es n≠none∧es.size≤k'))→k'≤2000→(∀gE z s',Le φ gE→Inv S gA gE Pr (σ.set p (.inst c k' (fs.set x u))) s'→True→Q z s')→gL S.M A (PySem.setAttr (.ref a) n y) Q E s:=by
  intro k' Q E hk' hk2 kk;refine set_plain X IA G.sa (osa_open X IA G.over hA.2.1 λb=>?_);refine gW (any_some G.dict) λcd hc hd=>?_;refine gH (gO (gH (gH (wpAny_loadPart q3 (gH (looks_clsIn (M:=S.M) X hc _ _ _ _ (λU U e=>e) ?_))))));rw[hd];refine gO (a:=some d) (gH (gO (gH (DA (S:=S) (s:={s with toks:=s.toks+1}) q4 q5 λh' es' mi z1 z2 z3 z4 z5 z6=>?_))));refine gH (wpAny_lookBehind z1 (pastItsLine_dict (by rw[sizeLine_eq];lia)) ?_);refine gO (kk φ () _ (Le.refl φ) (I.tS (ob:=.inst c k' (fs.set x u)) he q1 z6 (js.ri z6 q4 (by show ig "dict"≠ig "tuple";decide)) ⟨_,z1⟩ (.inr ⟨rfl,c,k,fs,rfl⟩) (by intro e;injection e) rfl (λU U U U=>⟨c,k,fs,rfl⟩) (by intro _ _ e;injection e) ⟨(by intro e;injection e),(by intro _ e;injection e)⟩ λb hb=>?_) trivial);rw[ha']at hb;obtain rfl:=gP hb;have hda:a≠d:=λe=>Ad.oR p (I.inj _ _ d q1 (e▸ha'));refine⟨C,d,q1,q2,(z6.2 _ hda).trans q3,es',mi,z1,z2,?_,hk2,?_⟩
  .rcases hk' with h|⟨h,h'⟩
   .lia
   .rw[z5 h];exact h'
  .have:=q8.set hn hy;have e:nsFind es'=λk=>if k=n then some y else nsFind es k:=funext z3;rw[e];exact this
 induction e:fs.get x with
 |some w=>
  rw[e]at hl;refine gW hl λz hz U=>?_;exact λQ E kk=>go k Q E (.inr ⟨(by rw[hz];intro h;injection h),q6⟩) q7 kk
 |none=>
  induction hb:iS k 1000 with
  |false=>trivial
  |true=>
   have:=kT hb;exact λQ E kk=>go (Nat.succ k) Q E (.inl (by lia)) (by lia) kk
end
section
variable{prog:lg}{w:jb}{A:g6}{E:gG→gJ→Prop}{s:gJ}{φ:Pl}{d:Addr}{es:List (Nat×AV×AV)}
theorem JO{Q:gG→gJ→Prop}(hd:(d==nA)=false)(D:kN w φ s.heap d es)
 (h:∀t tk,Q (.int es.length t) {s with toks:=tk}):gL (iJ prog w) A (Builtin.«len» ⟨[.ref d],[]⟩) (λfin s'=>∃r,fin= .done (.ret r)∧Q r s') E s:=by
 have hfit:(es.length:Int)<2^63:=by have h:es.length≤1000000:=D.small;lia
 refine jA D.obj λjq ep ho hr=>?_;have ij:jq.size=es.length:=by rw[←jM];exact hr.length
 refine gH (m:=oneArg "len" _) (gO ?_);refine gH (m:=callSpecial? (.ref d) (gM "__len__")) (pU (name:=gM "__len__") D.typeIs F.slot_dict_len
  (l7 F.slot_dict_len D.typeIs F.entry_dict_len ?_ (F.args_dict_len_1 _)))
 show gL _ _ (dictSize d>>=_) _ _ s;unfold dictSize;refine gH (gH (vF ho rfl (gO ?_)));show gL _ _ (Builtin.Dict.pendingCount d>>=_) _ _ s;refine gH (wpAny_pendingCount_other hd ?_);refine gH (wpAny_mkInt (gO ⟨_,rfl,?_⟩));rw[Nat.add_zero,ij];refine gH (jt (gO ?_));refine gH (wpAny_letGo ?_);refine jx (decide_eq_false (by lia)) ?_;refine jx (decide_eq_false (by lia)) ?_;exact gH (wpAny_mkInt (gO ⟨_,rfl,h _ _⟩))
theorem R6{Q:Bool→gJ→Prop}(hd:(d==nA)=false)(D:kN w φ s.heap d es)
 (h:∀tk,Q (!es.isEmpty) {s with toks:=tk}):gL (iJ prog w) A (truthy (.ref d)) Q E s:=by
 have hne:((es.length:Int)!=0)= !es.isEmpty:=by induction es<;>simp<;>lia
 have key:gL (iJ prog w) A (runValue (.builtin "len" ⟨[.ref d],[]⟩)) (λr s'=>∃t,r= .int es.length t∧Q (!es.isEmpty) s') E s:=by
  refine wpAny_runValue (codeAny_builtin entry_len ?_);rw[g6.under_plainId plain_len _];exact jg (JO (Q:=λr s'=>∃t,r= .int es.length t∧Q (!es.isEmpty) s') hd D λt tk=>⟨t,rfl,h tk⟩)
   (λfin s' h'=>by refine gW h' λr eq2 hq=>?_;subst eq2;exact hq) λU U e=>e
 first
  |refine gH (wpAny_callSpecial?_none (name:=gM "__bool__") D.typeIs noBool_dict ?_)
  |refine gH (gO (gH (wpAny_callSpecial?_none (name:=gM "__bool__") D.typeIs noBool_dict ?_)))
 first
  |refine gH (wpAny_specialOf (name:=gM "__len__") D.typeIs F.slot_dict_len.lookup ?_)
  |refine gH (gO (gH (wpAny_specialOf (name:=gM "__len__") D.typeIs F.slot_dict_len.lookup ?_)))
 first
  |exact gH (jg key (λr s' h'=>by refine gW h' λt eq3 hq=>?_;subst eq3;exact gO (hne▸hq)) λU U e=>e)
  |exact gH (gO (gH (jg key (λr s' h'=>by obtain⟨t,rfl,hq⟩:=h';exact gO (hne▸hq)) λU U e=>e)))
theorem R7{Q:gG→gJ→Prop}{key x:gG}{H:Int}{c:Nat}{v:AV}(hu:A.units+50<i')(i6:iX w s.heap key H c)(D:kN w φ s.heap d es)(hv:i5 es c=some v)
 (h:∀x tk,VR φ x v→Q x {s with toks:=tk}):gL (iJ prog w) A (PySem.getItem (.ref d) key) Q E s:=by
 unfold PySem.getItem
 try with_reducible refine jt ?_
 refine gH (wpAny_sequenceKey D.typeIs (by decide) ?_);refine gH (pU (name:=gM "__getitem__") D.typeIs slot_dict_getitem
  (l7 slot_dict_getitem D.typeIs entry_dict_getitem ?_ (args_dict_getitem _ _)))
 show gL _ _ (dictGet d key>>=_) _ _ s;refine gH (yy (by show A.units+1+5<i';lia) i6 D (λx v' tk e r=>?_) λtk e=>?_)
 .rw[hv]at e;obtain rfl:=gP e;exact gO ⟨x,rfl,gO (h x tk r)⟩
 .rw[hv]at e;cases e
theorem R8{Q:gG→gJ→Prop}{key:gG}{H:Int}{c:Nat}(hu:A.units+50<i')(hh:A.handled=none)(hd:(d==nA)=false)(i6:iX w s.heap key H c)(D:kN w φ s.heap d es)(hv:i5 es c=none)
 (h:∀h' e tk,Heap.NewExc s.heap h' e "KeyError"→E (.ref e) {s with heap:=h',toks:=tk}):gL (iJ prog w) A (PySem.getItem (.ref d) key) Q E s:=by
 unfold PySem.getItem
 try with_reducible refine jt ?_
 refine gH (wpAny_sequenceKey D.typeIs (by decide) ?_);refine gH (pU (name:=gM "__getitem__") D.typeIs slot_dict_getitem
  (l7 slot_dict_getitem D.typeIs entry_dict_getitem ?_ (args_dict_getitem _ _)))
 show gL _ _ (dictGet d key>>=_) _ _ s;refine gH (yy (by show A.units+1+5<i';omega) i6 D (λx v' tk e r=>?_) λtk e=>?_)
 .rw[hv]at e;exact gV e
 .show gL _ _ (Builtin.Dict.missed d key>>=_) _ _ _;refine gH (wpAny_missed_other hd ?_);refine gH (wpAny_typeOf (s:={s with toks:=tk}) D.typeIs ?_);refine jx (decide_eq_false (by decide)) ?_;exact gH (sO (wpAny_raise_newExc (A:=A.in1) plainExc_KeyError hh λh' e n=>h h' e tk n))
theorem R9{Q:Unit→gJ→Prop}{key x:gG}{H:Int}{c:Nat}{kv v:AV}(hu:A.units+50<i')(i6:iX w s.heap key H c)(D:kN w φ s.heap d es)(hk:VR φ key kv)(hx:VR φ x v)(hsm:(md es c kv v).length≤cap)
 (hq:∀h' tk,kN w φ h' d (md es c kv v)→i0 d s.heap h'→Q () {s with heap:=h',toks:=tk}):gL (iJ prog w) A (PySem.setItem (.ref d) key x) Q E s:=by
 unfold PySem.setItem
 try with_reducible refine jt ?_
 refine gH (wpAny_sequenceKey D.typeIs (by decide) ?_);refine gH (pU (name:=gM "__setitem__") D.typeIs slot_dict_setitem
  (l7 slot_dict_setitem D.typeIs entry_dict_setitem ?_ (args_dict_setitem _ _ _)))
 refine gH (wpAny_notOrdered_dict D.typeIs ?_);show gL _ _ (dictSet d key x>>=_) _ _ s;exact gH (Js (by show A.units+1+5<i';lia) i6 D hk hx hsm λh' tk a b=>gO ⟨.none,rfl,gO (hq h' tk a b)⟩)
theorem R'{l:Addr}{items:Array gG}{n:Nat}{k:Int}{t:PySem.Tok}{y:gG}{Q:Unit→gJ→Prop}(hl:s.heap.get? l=some ⟨.type "list",none,.seq items n,#[]⟩)(h0:0≤k)(hfit:k<2^63)(hn:k<items.size)
 (hq:∀h',(∃n',h'.get? l=some ⟨.type "list",none,.seq (items.setIfInBounds k.toNat y) n',#[]⟩)→i0 l s.heap h'→Q () {s with heap:=h'}):gL (iJ prog w) A (PySem.setItem (.ref l) (.int k t) y) Q E s:=by
 have hT:s.TypeIs (.ref l) "list":=⟨_,hl,rfl⟩;unfold PySem.setItem
 try with_reducible refine jt ?_
 first|refine gH (gO ?_)|skip
 refine gH (wpAny_sequenceKey hT (by decide) ?_);refine gH (pU (name:=gM "__setitem__") hT slot_list_setitem
  (l7 slot_list_setitem hT entry_list_setitem ?_ (args_list_setitem _ _ _)))
 show gL _ _ (Builtin.List.listSubscript? (.int k t)>>=_) _ _ s;refine gH (wpAny_listSubscript_int (fitsIndex_of h0 hfit) ?_);clear hfit;obtain⟨j,rfl⟩:=Int.eq_ofNat_of_zero_le h0;have hj:j<items.size:=by lia
 have hx':items[j]? =some items[j]:=Array.getElem?_eq_getElem hj
 refine gH (gH (wpAny_seqItemAt hl rfl (gO ?_)));rw[hx'];have hq':=hq _ ⟨_,IsL.update hl (·.setIfInBounds j y)⟩ (i0.update ..);refine gH (wpAny_setSeqItemAt hl rfl ?_)
 first
  |exact gH (gO (gO ⟨.none,rfl,gO hq'⟩))
  |exact gO ⟨.none,rfl,gO hq'⟩
end
section
variable{S:g8}{gA:Heap}{A:g6}{Pr:ik}{φ:Pl}{σ:gI}{s:gJ}
end
theorem yD(n:Nat)(k:Int):place n k=seqIndex? k n:=by
 unfold seqIndex?
 induction k with
 |ofNat i=>
  show(gT none (some i) (Nat.blt i n):Option Nat)=_;dsimp only;rw[blt_dec,if_neg (show¬Int.ofNat i<0 from Int.not_lt.2 (Int.natCast_nonneg i))]
  by_cases h:i<n
  .rw[decide_eq_true h,if_pos (lJ.2 ⟨decide_eq_true (show 0≤Int.ofNat i from Int.natCast_nonneg i),decide_eq_true (show Int.ofNat i<n from Int.ofNat_lt.2 h)⟩)];rfl
  .rw[decide_eq_false h,if_neg λq=>h (Int.ofNat_lt.1 (show Int.ofNat i<n from of_decide_eq_true (lJ.1 q).2))]
 |negSucc i=>
  show(gT none (some (Nat.sub (Nat.pred n) i)) (Nat.blt i n):Option Nat)=_;dsimp only;rw[blt_dec,if_pos (Int.negSucc_lt_zero i),Int.add_comm];show _=if(decide (0≤(n:Int)- ((i+1:Nat):Int))&&decide ((n:Int)- ((i+1:Nat):Int)<n))=true then some ((n:Int)- ((i+1:Nat):Int)).toNat else none
  by_cases h:i<n
  .rw[decide_eq_true h,if_pos (lJ.2 ⟨decide_eq_true (Int.sub_nonneg_of_le (Int.ofNat_le.2 h)),decide_eq_true (Int.sub_lt_self _ (Int.natCast_pos.2 (Nat.succ_pos i)))⟩),Int.toNat_sub,Nat.sub_succ',Nat.sub_right_comm];rfl
  .rw[decide_eq_false h,if_neg λq=>h (Int.ofNat_le.1 (Int.le_of_sub_nonneg (of_decide_eq_true (lJ.1 q).1)))]
theorem AO(h:seqIndex? k n=some j):j<n∧-(n:Int)≤k∧k<n∧(0≤k→j=k.toNat)∧(k<0→j=(k+n).toNat):=by
 unfold seqIndex? at h;have hn:(0:Int)≤n:=Int.natCast_nonneg n
 by_cases hk:k<0
 .rw[if_pos hk]at h
  by_cases q:(decide (0≤k+(n:Int))&&decide (k+(n:Int)<(n:Int)))=true
  .rw[if_pos q]at h;have q:=lJ.1 q;have q1:0≤k+(n:Int):=of_decide_eq_true q.1;have q2:k+(n:Int)<n:=of_decide_eq_true q.2;have h:=gP h;exact⟨h▸(Int.toNat_lt q1).2 q2,by omega,Int.lt_of_lt_of_le hk hn,λz=>absurd hk (Int.not_lt.2 z),λU=>h.symm⟩
  .rw[if_neg q]at h;exact gV h
 .rw[if_neg hk]at h
  by_cases q:(decide (0≤k)&&decide (k<(n:Int)))=true
  .rw[if_pos q]at h;have q:=lJ.1 q;have q1:0≤k:=of_decide_eq_true q.1;have q2:k<n:=of_decide_eq_true q.2;have h:=gP h;exact⟨h▸(Int.toNat_lt q1).2 q2,Int.le_trans (Int.neg_nonpos_of_nonneg hn) q1,q2,λU=>h.symm,λz=>absurd z hk⟩
  .rw[if_neg q]at h;exact gV h
theorem Sb(x:Int):(max 0 x).toNat=x.toNat:=by
 induction x with
 |ofNat i=>rw[Int.max_eq_right (show(0:Int)≤Int.ofNat i from Int.natCast_nonneg i)]
 |negSucc i=>rw[Int.max_eq_left (Int.le_of_lt (Int.negSucc_lt_zero i))];rfl
theorem Sd(n:Nat)(i:Int):bound n i=clipAt n i:=by
 unfold clipAt;rw[Sb]
 induction i with
 |ofNat i=>
  show(gT n i (iS i n):Nat)=_;rw[yr,if_neg (show¬Int.ofNat i<0 from Int.not_lt.2 (Int.natCast_nonneg i))]
  by_cases h:i≤n
  .rw[decide_eq_true h,Int.min_eq_left (show Int.ofNat i≤n from Int.ofNat_le.2 h)];rfl
  .rw[decide_eq_false h,Int.min_eq_right (show(n:Int)≤Int.ofNat i from Int.ofNat_le.2 (Nat.le_of_not_le h))];rfl
 |negSucc i=>
  rw[if_pos (Int.negSucc_lt_zero i),Int.add_comm];show n- (i+1)=(min ((n:Int)- ((i+1:Nat):Int)) n).toNat;rw[Int.min_eq_left (Int.sub_le_self _ (Int.natCast_nonneg _))];exact(Int.toNat_sub n (i+1)).symm
theorem Se(h:il φ vs.toList xs)(lo hi:Option Int):il φ (slicePick vs lo hi none).toList (yf xs lo hi)∧(yf xs lo hi).length≤xs.length:=by
 have hl:=h.length;rw[jM]at hl;rw[slicePick_plain];have e:yf xs lo hi=(xs.take (hi.elim xs.length (clipAt xs.length))).drop (lo.elim 0 (clipAt xs.length)):=by
  unfold yf;rw[rX]
  induction lo<;>induction hi<;>simp[Sd,yq,jo]
 rw[e,hl];refine⟨?_,by rw[List.length_drop,List.length_take];exact ia (Nat.sub_le ..) (Nat.min_le_right ..)⟩;rw[List.drop_take];exact(h.drop _).take _
section
variable{S:g8}{gA:Heap}{A:g6}{Pr:ik}{φ:Pl}{σ:gI}{s:gJ}
theorem JP(xs:List AV):wY (.list xs)=some (!xs.isEmpty):=by show some (jR (isNil xs))=_;rw[sU,I8]
theorem JQ{φ:Pl}{vs:Array gG}{xs:List AV}(h:il φ vs.toList xs):vs.isEmpty=xs.isEmpty:=by
 have:=h.length
 induction xs with
 |nil=>simpa using this
 |cons x xs=>
  have h2:vs.size≠0:=by rw[jM]at this;simp at this;lia
  have:vs.isEmpty=false:=by unfold Array.isEmpty;exact decide_eq_false h2
  rw[this];rfl
def tV(S:g8)(c:Nat):Prop:=∀C,S.cls c=some C→findIn S.K (.ref C) "__len__"=some none
theorem Sf(X:K.In s.heap)(I:InstAt s.heap x ox C od)(hs:findIn K (.ref C) "__bool__"=some none)(hl:findIn K (.ref C) "__len__"=some none)
 (h:Q true s):gL S.M A (truthy (.ref x)) Q E s:=by
 refine gH (m:=callSpecial? (.ref x) (gM "__bool__")) (gH (gH (I.type.here ((looks_findIn X hs).here (gO ?_)))));refine gH (gH (I.type.here ((looks_findIn X hl).here ?_)));exact gO h
theorem JR(F:ly S gA)(hL:tV S 85073674658080482268389154181357764717)(I:Inv S gA φ Pr σ s)(hx:VR φ x v)(h:truth σ v=some b):gK S gA A Pr φ (λU b c=>b=c) (truthy x) s (.ok b σ):=by
 induction hx with
 |none=>obtain rfl:=gP h;exact tT I λQ E k=>PyProof.Rows.truthy_none (k _)
 |bool c=>obtain rfl:=gP h;exact tT I λQ E k=>wpAny_truthy_bool (k _)
 |int i t=>
  have h:some (jR (tK i 0))=some b:=h;obtain rfl:=gP h;rw[sU,CY];refine tT I λQ E k=>P.truthy_int ?_;have e:(i !=0)= !decide (i=0):=by
   by_cases h:i=0<;>simp[h]
  rw[e];exact k _
 | @str y n t hs=>
  have h:some (jR (ie n 1))=some b:=h;obtain rfl:=gP h;have ij:=hs.2;refine tT I λQ E k=>P.truthy_str (by show¬((y.cps.size:Nat):Int)≥2^63;have:y.cps.size≤1000000:=ij;lia) ?_;have e:((y.length:Int)!=0)=jR (ie n 1):=by
   rw[sU,oq];have h1:y.length=y.cps.toList.length:=(jM ..).symm
   induction hc:y.cps.toList with
   |nil=>
    have:n=1:=by rw[hs.enc,hc];rfl
    rw[h1,hc,this];rfl
   |cons c l=>
    have:n≠1:=λe=>by
     have:=hs.enc;rw[e,hc]at this;have sm:=AC hs.1.1;rw[hc]at sm;have:=Ja (l:=[]) (r:=c::l) (λU h=>by cases h) sm this
     cases this
    rw[h1,hc,decide_eq_false this];rfl
  rw[e];exact k _
 | @ref a p hp=>
  have h:(hG none wY (σ.get p):Option Bool)=some b:=h
  induction e:σ.get p with
  |none=>rw[e]at h;injection h
  |some ob=>
   rw[e]at h;have h:wY ob=some b:=h
   induction ob with
   |list xs=>
    rw[JP]at h;obtain rfl:=gP h;refine iH (I.list e hp) λvs n h1 h2 h3=>?_;refine tT I λQ E k=>wpAny_truthy_list ⟨_,h1,rfl,n,rfl⟩ (by have:=h2.length;rw[jM]at this;have h3:xs.length≤1000000:=h3;lia) ?_;rw[JQ h2];exact k _
   |tuple xs=>
    rw[show wY (.tuple xs)=some (!xs.isEmpty)from JP xs]at h;obtain rfl:=gP h;refine iH (I.tuple e hp) λvs n h1 h2 h3=>?_;refine tT I λQ E k=>PyProof.Rows.truthy_tuple ⟨_,h1,rfl,n,rfl⟩ (by have:=h2.length;rw[jM]at this;have h3:xs.length≤1000000:=h3;lia) ?_;rw[JQ h2];exact k _
   |dict es=>
    have e1:wY (.dict es)=some (!es.isEmpty):=by show some (jR (isNil es))=_;rw[sU,I8]
    rw[e1]at h;obtain rfl:=gP h;exact tT I λQ E k=>R6 (I.tU hp (by intro _ z;rw[e]at z;obtain rfl:=gP z;rfl)) (I.dict e hp) k
   |inst c kk fs=>
    have h:(gT none (some true) (ie c 85073674658080482268389154181357764717):Option Bool)=some b:=h;rw[oq]at h
    by_cases hc:c=85073674658080482268389154181357764717
    .rw[decide_eq_true hc]at h;obtain rfl:=gP h;subst hc;obtain⟨C,d,q1,q2,q3,es,ep,q4,_⟩:=I.inst e hp;exact tT I λQ E k=>Sf (I.sf F) (yC q3 q4) (F.cls _ C q2).bool (hL C q2) (k _)
    .rw[decide_eq_false hc]at h;cases h
   |_=>injection h
end
section
variable{S:g8}{gA:Heap}{A:g6}{Pr:ik}{φ:Pl}{σ:gI}{s:gJ}
theorem DB(h:c<0x110000):SR ⟨#[c]⟩ (iT [c]):=⟨⟨by show(#[c]:Array Nat).all _=true;simp[h],rfl⟩,by show 1≤1000000;decide⟩
theorem JS(h:SR x n)(hc:c∈x.cps.toList):c<0x110000:=by
 have:=h.1.1;unfold hY.strOk at this;rw[Array.all_eq_true']at this;exact of_decide_eq_true (this c (Array.mem_toList_iff.mp hc))
theorem JT(I:Inv S gA φ Pr σ s)(hL:∃vs n,s.heap.get? a=some ⟨.type "list",none,.seq vs n,#[]⟩∧il φ vs.toList xs∧xs.length≤cap):
 gK S gA A Pr φ VR (PySem.getItem (.ref a) (.int k t)) s (p6 xs (.int k) σ):=by
 refine iH hL λvs n h1 h2 h3=>?_;have ij:=h2.length;rw[jM]at ij;have h3:xs.length≤1000000:=h3;refine gK.go λk' hk=>?_;obtain rfl:=gP hk;refine gK.go λj hj=>gK.go λv hv=>?_;rw[jo,yD]at hj;rw[mJ]at hv;refine AA (AO hj) λq1 q2 q3 q4 q5=>?_;refine gW (h2.get j hv) λx hx r=>?_;rw[n7]at hx;refine λQ E kk=>?_
 by_cases hn:k<0
 .rw[q5 hn]at hx;exact wpAny_getItem_list_neg ⟨_,h1,rfl,n,rfl⟩ hn (by lia) (by lia) (by rw[ij];exact hx) (kk φ x s (Le.refl φ) I r)
 .rw[q4 (by lia)]at hx;exact wpAny_getItem_list ⟨_,h1,rfl,n,rfl⟩ (by lia) (by lia) hx (kk φ x s (Le.refl φ) I r)
theorem Sg(h:CI k=true): -(2^63)≤k∧k<2^63:=by
 have h:(gT false (kz k 1000000000) (kz (-1000000000) k):Bool)=true:=h;rw[nP,nP]at h
 by_cases h1:(-1000000000:Int)<k
 .rw[decide_eq_true h1]at h;have:=of_decide_eq_true h;lia
 .rw[decide_eq_false h1]at h;exact gU h
theorem Sh(I:Inv S gA φ Pr σ s)(e:σ.get p=some (.tuple xs))(ha:φ p=some a):
 gK S gA A Pr φ VR (PySem.getItem (.ref a) (.int k t)) s (tN xs (.int k) σ):=by
 refine iH (I.tuple e ha) λvs n h1 h2 h3=>?_;have ij:=h2.length;rw[jM]at ij;have h3:xs.length≤1000000:=h3;refine gK.go λk' hk=>?_;obtain rfl:=gP hk
 induction hj:place (iC xs) k with
 |some j=>
  refine gK.go λv hv=>?_;rw[jo,yD]at hj;rw[mJ]at hv;refine AA (AO hj) λq1 q2 q3 q4 q5=>?_;refine gW (h2.get j hv) λx hx r=>?_;rw[n7]at hx;exact λQ E kk=>P.getItem_tuple h1 (by lia) (by lia) (by rw[ij];exact hj) hx (kk φ x s (Le.refl φ) I r)
 |none=>
  induction hs:CI k with
  |false=>trivial
  |true=>
   refine iK (Sg hs) λz1 z2=>?_;rw[jo,yD,←ij]at hj;refine λhh Q E kk=>?_;refine getItem_meets ⟨_,h1,rfl⟩ (by decide) F.slot_tuple_getitem F.entry_tuple_getitem (F.args_tuple_getitem_2 _ _) (MeetsSeq.tuple_getitem_out a vs n k t z1 z2 hj) ⟨h1,hh,λh' tk e ne=>?_⟩;exact kk φ s e h' tk (Le.refl φ) I ne
theorem Si(hu:A.units+300<i')(I:Inv S gA φ Pr σ s)(e:σ.get p=some (.dict es))(ha:φ p=some a)(hx:VR φ x u):
 gK S gA A Pr φ VR (PySem.getItem (.ref a) x) s (dictAt es u σ):=by
 refine gK.go λc hc=>?_;obtain⟨H,hk⟩:=I.key hc hx;have D:=I.dict e ha;have hsys:=I.tU ha (by intro _ z;rw[e]at z;obtain rfl:=gP z;rfl)
 induction hv:i5 es c with
 |some v=>exact λQ E kk=>R7 (x:=.none) (by lia) hk D hv λx tk r=>kk φ x _ (Le.refl φ) (I.tok tk s.drawn) r
 |none=>exact λhh Q E kk=>R8 (by lia) hh hsys hk D hv λh' e tk n=>kk φ s e h' tk (Le.refl φ) I n
theorem Sj(I:Inv S gA φ Pr σ s)(hx:SR x n):
 gK S gA A Pr φ VR (PySem.getItem (.str x t) (.int k t')) s (strAt (dec n) (.int k) σ):=by
 refine gK.go λk' hk=>?_;obtain rfl:=gP hk;refine gK.go λj hj=>gK.go λc hc=>?_;rw[jo,yD,hx.dec,jM]at hj;rw[mJ,hx.dec,n7]at hc;refine AA (AO hj) λq1 q2 q3 q4 q5=>?_;have ij:x.cps.size≤1000000:=hx.2;have hm:c∈x.cps.toList:=Array.mem_toList_iff.mpr (Array.mem_of_getElem? hc);refine yA I (DB (JS hx hm)) λQ E kk=>P.getItem_str ?_ ?_ (kk _ _)
 .have h1:decide (k< -2^63)=false:=decide_eq_false (by lia);have h2:decide (k≥2^63)=false:=decide_eq_false (by lia);rw[h1,h2];rfl
 .rw[show seqIndex? k x.length=some j from hj];exact hc
noncomputable def AP(value slice:Expr)(o i:gG):Sem gG:=do
 let r←subscripted slice (←getitemInPython o) o i
 letTemporaryGo value o r
 pure r
theorem vX{value slice:Expr}{o i:gG}{T id:String}{ops:List gG}{β:Type}{r:R β}{rel:Pl→gG→β→Prop}(hT:s.TypeIs o T)(hl:typeLookup (.type T) "__getitem__"=pure (some (.builtin id)))
 (hs:subscripted slice false o i=operate ops (PySem.getItem o i))(h:gK S gA A Pr φ rel (PySem.getItem o i) s r):gK S gA A Pr φ rel (AP value slice o i) s r:=h.same λQ E q=>by
 refine gH ?_;rw[getitemInPython_of_ne hT.not_modules];refine gH (wpAny_specialOf hT hl ?_);have fin:gL S.M A (subscripted slice false o i) (λr s₃=>gL S.M A (letTemporaryGo value o r>>=λU=>pure r) Q E s₃) E s:=by
  rw[hs];exact wpAny_operating (jg q (λr s₃ h₃=>gH (wpAny_letTemporaryGo (gO h₃))) λU U x=>x)
 first
  |exact gO (gH fin)
  |exact gH (gO (gH fin))
  |exact gH fin
theorem Sk(hu:A.units+300<i')(I:Inv S gA φ Pr σ s)(ho:VR φ o u)(hi:VR φ i v)(hs:∀o i,subscripted slice false o i=operate [o,i] (PySem.getItem o i)):
 gK S gA A Pr φ VR (AP value slice o i) s (Internal.getItem S.P.xs u v σ):=by
 induction ho with
 |none=>trivial
 |bool=>trivial
 |int=>trivial
 | @str x n t hx=>
  induction hi with
  |int k t'=>exact vX (typeIs_str s x t) F.slot_str_getitem.lookup (hs _ _) (Sj I hx)
  |_=>trivial
 | @ref a p hp=>
  refine gK.go λob hob=>?_
  induction ob with
  |list xs=>
   refine jA (I.list hob hp) λvs n h1 U=>?_
   induction hi with
   |int k t'=>exact vX ⟨_,h1,rfl⟩ slot_list_getitem.lookup (hs _ _) (JT I (I.list hob hp))
   |_=>trivial
  |jH=>
   refine IY (I.jH hob hp) λxs vs n h0 h1 hx=>?_;rw[h0]
   induction hi with
   |int k t'=>exact vX ⟨_,h1,rfl⟩ slot_list_getitem.lookup (hs _ _) (JT I ⟨vs,n,h1,hx⟩)
   |_=>trivial
  |tuple xs=>
   refine jA (I.tuple hob hp) λvs n h1 U=>?_
   induction hi with
   |int k t'=>exact vX ⟨_,h1,rfl⟩ F.slot_tuple_getitem.lookup (hs _ _) (Sh I hob hp)
   |_=>trivial
  |dict es=>exact vX (I.dict hob hp).typeIs slot_dict_getitem.lookup (hs _ _) (Si hu I hob hp hi)
  |_=>trivial
theorem Sl{value lower upper:Expr}{lo' hi':Option Expr}{p:Pos}{o x y:gG}{u:AV}{lo hi:Option Int}(I:Inv S gA φ Pr σ s)(ho:VR φ o u)(hx:IsPart x lo)(hy:IsPart y hi):
 gK S gA A Pr φ VR (AP value (.Slice lo' hi' none p) o (.ref s.heap.objs.size)) {s with heap:=s.heap.push {cls:=.type "slice",data:=.fields #[x,y,.none]}} (m7 u lo hi σ):=by
 induction ho with
 | @ref a q hp=>
  refine gK.go λob hob=>gK.go λo' ho'=>?_;have I1:Inv S gA φ Pr σ {s with heap:=s.heap.push {cls:=.type "slice",data:=.fields #[x,y,.none]}}:=I.grow (λb o e=>ja _ e) s.toks s.drawn
  induction ob with
  |list xs=>
   obtain rfl:=gP ho';refine iH (I1.list hob hp) λvs n h1 h2 h3=>?_;have ij:=h2.length;rw[jM]at ij;refine iK (Se h2 lo hi) λr hl=>?_;refine vX (T:="list") ⟨_,h1,rfl⟩ slot_list_getitem.lookup rfl λQ E kk=>?_;refine wpAny_getItem_list_slice (s:={s with heap:=s.heap.push {cls:=.type "slice",data:=.fields #[x,y,.none]}}) ⟨_,h1,rfl,n,rfl⟩ (Heap.IsSliceOf.new ..) hx hy .none (by simp) ?_ (ow (by rw[ij];exact h3));have I2:=I1.AL 0 r (ia hl h3) s.toks;rw[JD]at I2;exact kk _ _ _ (I1.jY _) I2 (VR.top ..)
  |tuple xs=>
   induction hy with
   |int=>exact gV ho'
   |none=>
    induction hx with
    |none=>exact gV ho'
    |int i t=>
     induction i with
     |negSucc i=>exact gV ho'
     |ofNat a'=>
      have ho':(gT none (gT none (some (.tuple (oK xs a'))) (iS a' (iC xs))) (iS 1 a'):Option gY)=some o':=ho';rw[yr,yr,jo,rX]at ho'
      by_cases c1:1≤a'
      .by_cases c2:a'≤xs.length
       .rw[decide_eq_true c1,decide_eq_true c2]at ho';obtain rfl:=gP ho';refine iH (I1.tuple hob hp) λvs n h1 h2 h3=>?_;have ij:=h2.length;rw[jM]at ij;refine vX (T:="tuple") ⟨_,h1,rfl⟩ F.slot_tuple_getitem.lookup rfl λQ E kk=>?_;refine PyProof.Rows.getItem_tuple_from (s:={s with heap:=s.heap.push {cls:=.type "slice",data:=.fields #[.int (Int.ofNat a') t,.none,.none]}}) ⟨_,h1,rfl,n,rfl⟩ (Heap.IsSliceOf.new ..) c1 (by lia) ?_ (ow (by rw[ij];exact h3));exact kk _ _ _ (I1.jY _) (I1.yB 0 (h2.drop a') (by rw[List.length_drop];exact ia (Nat.sub_le _ _) h3) s.toks) (VR.top ..)
       .rw[decide_eq_true c1,decide_eq_false c2]at ho';exact gV ho'
      .rw[decide_eq_false c1]at ho';exact gV ho'
  |_=>exact gV ho'
 |_=>trivial
theorem Sm(hu:A.units+300<i')(I:Inv S gA φ Pr σ s)(ho:VR φ o u)(hi:VR φ i v)(hy:VR φ y w):
 gK S gA A Pr φ (λU U U=>True) (PySem.setItem o i y) s (Internal.setItem u v w σ):=by
 induction ho with
 | @ref a p hp=>
  refine gK.go λob hob=>gK.go λo' ho'=>?_
  induction ob with
  |list xs=>
   induction hi with
   |int k t=>
    have ho':(gT (match place (iC xs) k with|some j=>some (.list (tI xs j w))|none=>none) none (kz k 0):Option gY)=some o':=ho';rw[nP]at ho'
    by_cases hk:k<0
    .rw[decide_eq_true hk]at ho';exact gV ho'
    .rw[decide_eq_false hk]at ho';have ho':(match place (iC xs) k with|some j=>some (gY.list (tI xs j w))|none=>none)=some o':=ho'
     induction hj:place (iC xs) k with
     |none=>rw[hj]at ho';exact gV ho'
     |some j=>
      rw[hj]at ho';have ho':=gP ho';subst ho';rw[jo,yD]at hj;refine AA (AO hj) λq1 q2 q3 q4 q5=>?_;refine iH (I.list hob hp) λvs n h1 h2 h3=>?_;have h3':xs.length≤1000000:=h3;have ij:=h2.length;rw[jM]at ij;rw[CX,q4 (by lia)];refine λQ E kk=>R' h1 (by lia) (by lia) (by lia) λh' ⟨n',z1⟩ z2=>?_;refine kk φ () _ (Le.refl φ) (I.tS (ob:=.list (xs.set k.toNat w)) hob hp z2 (js.ri z2 h1 (by show ig "list"≠ig "tuple";decide)) ⟨_,z1⟩ (.inl rfl) (by intro e;injection e) rfl (by intro _ _ _ e;injection e) (by intro _ _ e;injection e) ⟨(by intro e;injection e),(by intro _ e;injection e)⟩ λb hb=>?_) trivial;rw[hp]at hb;obtain rfl:=gP hb;refine⟨_,n',z1,?_,by rw[List.length_set];exact h3⟩;rw[Array.toList_setIfInBounds];exact h2.set _ hy
   |_=>exact gV ho'
  |dict es=>
   have ho':(match key σ v with|some k=>vO (md es k v w)|none=>none)=some o':=ho'
   induction hc:key σ v with
   |none=>rw[hc]at ho';exact gV ho'
   |some c=>
    rw[hc]at ho';refine iK (JB ho') λhl Sn=>?_;subst Sn;refine jn (I.key hc hi) λH hk=>?_;have D:=I.dict hob hp;refine jA D.obj λjq ep hd U=>?_;refine λQ E kk=>R9 (by lia) hk D hi hy hl λh' tk z1 z2=>?_;refine kk φ () _ (Le.refl φ) (I.tS (ob:=.dict (md es c v w)) hob hp z2 (js.ri z2 hd (by show ig "dict"≠ig "tuple";decide)) (let⟨⟨_,_,z,_⟩,_,_,_⟩:=z1;⟨_,z⟩) (.inl rfl) (by intro e;injection e) rfl (by intro _ _ _ e;injection e) (by intro _ _ e;injection e) ⟨(by intro e;injection e),(by intro _ e;injection e)⟩ λb hb=>?_) trivial;rw[hp]at hb;obtain rfl:=gP hb;exact z1
  |_=>exact gV ho'
 |_=>trivial
end
section
variable{S:g8}{gA:Heap}{A:g6}{Pr:ik}{φ:Pl}{σ:gI}{s:gJ}
theorem Inv.DC(I:Inv S gA φ Pr σ s)(e:σ.get p=some (.list xs))(hp:φ p=some a)(h1:s.heap.get? a=some ⟨.type "list",none,.seq vs n,#[]⟩)
 (f:Array gG→Array gG)(hv:il φ (f vs).toList xs')(hl:xs'.length≤cap)(tk:Nat):Inv S gA φ Pr (σ.set p (.list xs')) {s with heap:=s.heap.update a (Obj.mapSeq f),toks:=tk}:=by
 have sb:i0 a s.heap (s.heap.update a (Obj.mapSeq f)):=i0.update ..;refine I.tS (ob:=.list xs') e hp sb (js.ri sb h1 (by show ig "list"≠ig "tuple";decide)) ⟨_,IsL.update h1 f⟩ (.inl rfl) (by intro e;cases e) rfl (by intro _ _ _ e;cases e) (by intro _ _ e;cases e) ⟨(by intro e;cases e),(by intro _ e;cases e)⟩ λb hb=>?_;rw[hp]at hb;cases hb;exact⟨_,_,IsL.update h1 f,hv,hl⟩
theorem il.sz{φ:Pl}{vs:Array gG}{xs:List AV}(h:il φ vs.toList xs):vs.size=xs.length:=by rw[←jM];exact h.length
theorem JU(I:Inv S gA φ Pr σ s)(e:σ.get p=some (.list xs))(hp:φ p=some a)(hx:VR φ x v):
 gK S gA A Pr φ VR (call (.builtin "list.append") [.ref a,x]) s (go (j8 (app xs [v])) 18 λo=>.ok .none (σ.set p o)):=by
 refine gK.go λo ho=>?_;refine iK (AK ho) λhl Dz=>?_;subst Dz;rw[lQ]at hl⊢;refine iH (I.list e hp) λvs n h1 h2 h3=>?_;refine λQ E kk=>call_meets F.slot_list_append ⟨_,h1,rfl⟩ F.entry_list_append (F.args_list_append_2 _ _) (list_append a vs n x (ow (by rw[h2.sz];exact h3))) ⟨h1,?_⟩;exact kk φ _ _ (Le.refl φ) (I.DC e hp h1 (λxs=>xs.push x) (by rw[Array.toList_push];exact h2.append (il.one hx)) hl s.toks) (by constructor)
theorem So(h:lastOf xs=some (ys,v)):xs=ys++[v]:=by
 unfold lastOf at h;rw[I7]at h
 induction e:xs.reverse with
 |nil=>rw[e]at h;exact gV h
 |cons w r=>
  rw[e]at h;have h:some (yb r,w)=some (ys,v):=h;rw[I7]at h
  cases h
  have:=congrArg List.reverse e;simpa using this
theorem Sp(I:Inv S gA φ Pr σ s)(e:σ.get p=some (.list xs))(hp:φ p=some a):
 gK S gA A Pr φ VR (call (.builtin "list.pop") [.ref a]) s (HB p xs σ):=by
 refine gK.go λ⟨ys,v⟩ ho=>?_;have hxs:=So ho;subst hxs;refine iH (I.list e hp) λvs n h1 h2 h3=>?_;have ij:=h2.sz;rw[jm]at ij;refine gW (h2.get (v:=v) ys.length (by simp)) λy hy r=>?_;rw[n7]at hy;have e1:vs.size- 1=ys.length:=by rw[ij];simp
 refine λQ E kk=>call_meets F.slot_list_pop ⟨_,h1,rfl⟩ F.entry_list_pop (F.args_list_pop_1 _) (MeetsSeq.list_pop_last a vs n y (by rw[e1];exact hy) (ow (by rw[h2.sz];exact h3))) ⟨h1,?_⟩;refine kk φ _ _ (Le.refl φ) (I.DC e hp h1 (λxs=>xs.eraseIdxIfInBounds (vs.size- 1)) ?_ (by rw[jm]at h3;exact ia (lK _ _) h3) s.toks) r;have:(vs.eraseIdxIfInBounds (vs.size- 1)).toList=vs.toList.take ys.length:=by
  have hlt:vs.size- 1<vs.size:=by rw[ij];simp
  rw[Array.eraseIdxIfInBounds,dif_pos hlt,Array.toList_eraseIdx,e1,List.eraseIdx_eq_take_drop_succ];have:vs.toList.drop (ys.length+1)=[]:=List.drop_eq_nil_of_le (by rw[jM,ij];simp);rw[this,nB]
 rw[this];have:=h2.take ys.length;rw[List.take_left]at this;exact this
theorem Sq(I:Inv S gA φ Pr σ s)(e:σ.get p=some (.list xs))(hp:φ p=some a)(hi:VR φ i u)(hx:VR φ x v):
 gK S gA A Pr φ VR (call (.builtin "list.insert") [.ref a,i,x]) s (HC p xs u v σ):=by
 refine gK.go λk hk=>?_
 induction hi with
 |int k' t=>
  have hk:=gP hk;subst hk
  induction k' with
  |negSucc i=>trivial
  |ofNat i=>
   show gK S gA A Pr φ VR _ s (gT (.stuck 18) (go (j8 (app (tJ xs i) (v::oK xs i))) 18 λo=>.ok .none (σ.set p o)) (iS i (iC xs)))
   induction hb:iS i (iC xs)with
   |false=>trivial
   |true=>
    refine gK.go λo ho=>?_;refine iK (AK ho) λhl Sr=>?_;subst Sr;rw[jo]at hb;have hb:=kT hb;rw[lQ,yq,rX]at hl⊢;refine iH (I.list e hp) λvs n h1 h2 h3=>?_;have ij:=h2.sz;have h3':xs.length≤1000000:=h3;have hf:Builtin.List.listFitsIndex (Int.ofNat i)=true:=fitsIndex_of (Int.natCast_nonneg i) (by show((i:Nat):Int)<2^63;lia);have hc:¬(!Builtin.List.listFitsIndex (Int.ofNat i))=true:=by rw[hf];exact jD
    have hs:vs.size≤sizeLine:=ow (by rw[ij];exact h3);obtain⟨k,hk⟩:∃k,k=Int.ofNat i:=⟨_,rfl⟩;rw[←hk]at hc;rw[←hk];have M:=AutoSeq1.list_insert_list_int_val_1 a vs n k t x hc hs;generalize hg:(λxs:Array gG=>have k:=if k<0 then(k+(xs.size:Int)).toNat else min k.toNat xs.size;(xs.extract 0 k).push x++xs.extract k)=g at M;refine λQ E kk=>call_meets F.slot_list_insert ⟨_,h1,rfl⟩ F.entry_list_insert (F.args_list_insert_3 _ _ _) M ⟨h1,?_⟩;refine kk φ _ _ (Le.refl φ) (I.DC e hp h1 g ?_ hl s.toks) (by constructor);subst hg;subst hk;have e0:¬(Int.ofNat i<0):=by simp
    have e1:min (Int.ofNat i).toNat vs.size=i:=by rw[ij];exact Nat.min_eq_left hb
    simp only[e0,if_false,e1];have e3:((vs.extract 0 i).push x++vs.extract i).toList=vs.toList.take i++x::vs.toList.drop i:=by
     rw[vH,Array.toList_push,Array.toList_extract,Array.toList_extract];simp only[List.extract_eq_take_drop,List.drop_zero,Nat.sub_zero,tG,List.singleton_append];rw[List.take_of_length_le (l:=List.drop i vs.toList) (by simp)]
    rw[e3];exact(h2.take i).append (.cons hx (h2.drop i))
 |_=>exact gV hk
theorem Ss{prog:lg}{w:jb}{A:g6}{E:gG→gJ→Prop}{s:gJ}{d:Addr}{es:List (Nat×AV×AV)}{key dflt:gG}{H:Int}{c:Nat}{Q:gG→gJ→Prop}(hu:A.units+50<i')(i6:iX w s.heap key H c)(D:kN w φ s.heap d es)(hd:(d==nA)=false)
 (h1:∀x v tk,i5 es c=some v→VR φ x v→Q x {s with toks:=tk})(h2:∀tk,i5 es c=none→Q dflt {s with toks:=tk}):gL (iJ prog w) A (call (.builtin "dict.get") [.ref d,key,dflt]) Q E s:=by
 refine l7 F.slot_dict_get D.typeIs F.entry_dict_get ?_ (F.args_dict_get_3 _ _ _);show gL _ _ (dictGet d key>>=_) _ _ s;refine gH (yy (by show A.units+1+5<i';lia) i6 D (λx v tk e r=>?_) λtk e=>?_)
 .exact gO ⟨x,rfl,h1 x v tk e r⟩
 .show gL _ _ (Builtin.Dict.missed d key>>=_) _ _ _;exact gH (wpAny_missed_other hd (gO ⟨dflt,rfl,h2 tk e⟩))
theorem Su{prog:lg}{w:jb}{A:g6}{E:gG→gJ→Prop}{s:gJ}{d:Addr}{es:List (Nat×AV×AV)}{key:gG}{H:Int}{c:Nat}{Q:gG→gJ→Prop}(hu:A.units+50<i')(i6:iX w s.heap key H c)(D:kN w φ s.heap d es)(hd:(d==nA)=false)
 (h1:∀x v tk,i5 es c=some v→VR φ x v→Q x {s with toks:=tk})(h2:∀tk,i5 es c=none→Q .none {s with toks:=tk}):gL (iJ prog w) A (call (.builtin "dict.get") [.ref d,key]) Q E s:=by
 refine l7 F.slot_dict_get D.typeIs F.entry_dict_get ?_ (F.args_dict_get_2 _ _);show gL _ _ (dictGet d key>>=_) _ _ s;refine gH (yy (by show A.units+1+5<i';lia) i6 D (λx v tk e r=>?_) λtk e=>?_)
 .exact gO ⟨x,rfl,h1 x v tk e r⟩
 .show gL _ _ (Builtin.Dict.missed d key>>=_) _ _ _;exact gH (wpAny_missed_other hd (gO ⟨.none,rfl,h2 tk e⟩))
theorem Sv{a:Addr}{p:Ad}{es:List (Nat×AV×AV)}{x d:gG}{u v:AV}(hu:A.units+300<i')(I:Inv S gA φ Pr σ s)(e:σ.get p=some (.dict es))(hp:φ p=some a)(hx:VR φ x u)(hd:VR φ d v):
 gK S gA A Pr φ VR (call (.builtin "dict.get") [.ref a,x,d]) s (yi es u v σ):=by
 refine gK.go λc hc=>?_;obtain⟨H,hk⟩:=I.key hc hx;refine λQ E kk=>Ss (by lia) hk (I.dict e hp) (I.tU hp (by intro _ z;rw[e]at z;obtain rfl:=gP z;rfl)) (λy v' tk q r=>?_) λtk q=>?_
 .rw[q]at kk;exact kk φ _ _ (Le.refl φ) (I.tok tk s.drawn) r
 .rw[q]at kk;exact kk φ _ _ (Le.refl φ) (I.tok tk s.drawn) hd
theorem Sw{a:Addr}{p:Ad}{es:List (Nat×AV×AV)}{x:gG}{u:AV}(hu:A.units+300<i')(I:Inv S gA φ Pr σ s)(e:σ.get p=some (.dict es))(hp:φ p=some a)(hx:VR φ x u):
 gK S gA A Pr φ VR (call (.builtin "dict.get") [.ref a,x]) s (yi es u .none σ):=by
 refine gK.go λc hc=>?_;obtain⟨H,hk⟩:=I.key hc hx;refine λQ E kk=>Su (by lia) hk (I.dict e hp) (I.tU hp (by intro _ z;rw[e]at z;obtain rfl:=gP z;rfl)) (λy v' tk q r=>?_) λtk q=>?_
 .rw[q]at kk;exact kk φ _ _ (Le.refl φ) (I.tok tk s.drawn) r
 .rw[q]at kk;exact kk φ _ _ (Le.refl φ) (I.tok tk s.drawn) (by constructor)
theorem Sx(cs:List Nat)(c k:Nat):pZ (cs++[c]) k=(pZ cs k||decide (c=k)):=by
 induction cs with
 |nil=>
  show(gT false true (ie c k):Bool)=_;rw[oq]
  by_cases h:c=k<;>simp[h,pZ]
 |cons d cs ih=>
  show(gT (pZ (cs++[c]) k) true (ie d k):Bool)=((gT (pZ cs k) true (ie d k):Bool)||_);rw[oq,ih]
  by_cases h:d=k<;>simp[h]
theorem Sy(I:Inv S gA φ Pr σ s)(e:σ.get p=some (.set cs))(hp:φ p=some a)(hx:SR x n)(hsm:cs.length≤1000):
 gK S gA A Pr φ VR (call (.builtin "set.add") [.ref a,.str x t]) s (gT (.ok .none (σ.set p (.set (app cs [Nat.succ (Nat.mul 8 n)])))) (.ok .none σ) (pZ cs (Nat.succ (Nat.mul 8 n)))):=by
 refine iH (I.vS e hp) λT m k1 k2 Sz=>?_;subst Sz;have e2:=k2 _ hx.1.1;have en:8*iT x.cps.toList+1=Nat.succ (Nat.mul 8 n):=congrArg (λn=>Nat.succ (Nat.mul 8 n)) hx.enc.symm;rw[en]at e2;refine QU (id k1) λo es ep tt ho hex hdd U=>?_;have hne:o.cls≠.type "tuple":=by rw[hex.1];show ig "set"≠ig "tuple";decide
 have go:∀(cs':List Nat)(h':Heap)(tk:Nat),i0 a s.heap h'→Di S h' a cs'→Inv S gA φ Pr (σ.set p (.set cs')) {s with heap:=h',toks:=tk}:=λcs' h' tk z1 z2=>by
  refine I.tS (ob:=.set cs') e hp z1 (js.ri z1 ho hne) (let⟨_,_,⟨_,_,_,_,z,_⟩,_⟩:=z2;⟨_,z⟩) (.inl rfl) (by intro e;injection e) rfl (by intro _ _ _ e;injection e) (by intro _ _ e;injection e) ⟨(by intro e;injection e),(by intro _ e;injection e)⟩ λb hb=>?_;rw[hp]at hb;obtain rfl:=gP hb;exact z2
 induction hm:pZ cs (Nat.succ (Nat.mul 8 n))with
 |true=>
  rw[hm]at e2;refine λQ E kk=>call_set_add (strKind_is _ _ _ _) rfl k1 (n6 (mn hsm) (by decide)) λh' z1 z2=>?_;rw[if_pos e2]at z2;refine kk φ _ _ (Le.refl φ) ((go cs h' _ z1 ⟨_,_,z2,λy hy=>?_,rfl⟩).congr rfl λq=>?_) (by constructor)
  .rw[←k2 y hy]
   by_cases q:y=x
   .rw[q,e2];rfl
   .simp[q]
  .rw[gI.get_set]
   by_cases q':q=p
   .rw[if_pos q',q',e]
   .rw[if_neg q']
 |false=>
  rw[hm]at e2;refine λQ E kk=>call_set_add (strKind_is _ _ _ _) rfl k1 (n6 (mn hsm) (by decide)) λh' z1 z2=>?_;rw[if_neg (by rw[e2];decide)]at z2;refine kk φ _ _ (Le.refl φ) (go _ h' _ z1 ⟨_,_,z2,λy hy=>?_,by rw[lQ];simp⟩) (by constructor);rw[lQ,Sx,←k2 y hy]
  congr 1
  have:(Nat.succ (Nat.mul 8 n)=8*iT y.cps.toList+1)↔y=x:=by
   rw[←en];constructor
   .intro h;have h1:iT y.cps.toList=iT x.cps.toList:=by lia
    have:=Ja (AC hy) (AC hx.1.1) h1
    cases x;cases y
    exact congrArg Str.mk (Array.toList_inj.mp this)
   .intro h;rw[h]
  by_cases q:y=x
  .rw[decide_eq_true q,decide_eq_true (this.mpr q)]
  .rw[decide_eq_false q,decide_eq_false (λh=>q (this.mp h))]
end
section
variable{S:g8}{gA:Heap}{A:g6}{Pr:ik}{φ:Pl}{σ:gI}{s:gJ}
theorem SA(h:Aw o=some xs):o= .list xs∨o= .tuple xs:=by
 induction o with
 |list ys=>obtain rfl:=gP h;exact .inl rfl
 |tuple ys=>obtain rfl:=gP h;exact .inr rfl
 |_=>exact gV h
theorem JV(h:wX σ v=some xs):∃p,v= .ref p∧(σ.get p=some (.list xs)∨σ.get p=some (.tuple xs)):=by
 induction v with
 |ref p=>
  have h:(hG none Aw (σ.get p):Option (List AV))=some xs:=h
  induction e:σ.get p with
  |none=>rw[e]at h;exact gV h
  |some o=>
   rw[e]at h
   rcases SA h with rfl|rfl
   .exact⟨p,rfl,.inl e⟩
   .exact⟨p,rfl,.inr e⟩
 |_=>exact gV h
theorem JW(h:listOf σ v=some xs):∃p,v= .ref p∧σ.get p=some (.list xs):=by
 induction v with
 |ref p=>
  have h:(hG none yh (σ.get p):Option (List AV))=some xs:=h
  induction e:σ.get p with
  |none=>rw[e]at h;exact gV h
  |some o=>
   rw[e]at h
   induction o with
   |list ys=>obtain rfl:=gP h;exact⟨p,rfl,e⟩
   |_=>exact gV h
 |_=>exact gV h
theorem SC(I:Inv S gA φ Pr σ s)(hx:VR φ x v):gK S gA A Pr φ VR (call (.builtin "len") [x]) s (lenOf S.P.xs v σ):=by
 induction hx with
 | @str y n t hs=>
  have ij:y.cps.size≤1000000:=hs.2;show gK S gA A Pr φ VR _ s (.ok (.int (.ofNat (iC (dec n)))) σ);rw[jo,hs.dec,jM];exact oU I λQ E k=>P.len_str (by show¬((y.cps.size:Nat):Int)≥2^63;lia) (k _ _)
 | @ref a p hp=>
  refine gK.go λob hob=>gK.go λn hn=>?_
  induction ob with
  |list xs=>
   obtain rfl:=gP hn;refine iH (I.list hob hp) λvs n h1 h2 h3=>?_;have h3:xs.length≤1000000:=h3;rw[jo,←h2.sz];exact oU I λQ E k=>PySem.Calls.call_len_list ⟨_,h1,rfl,n,rfl⟩ (by rw[h2.sz];lia) (k _ _)
  |jH=>
   refine tR (I.jH hob hp) λxs vs n' h0 h1 h2 h3=>?_;have hn:(hG .none (λxs=>some (iC xs)) S.P.xs:Option Nat)=some n:=hn;rw[h0]at hn;obtain rfl:=gP hn;have h3:xs.length≤1000000:=h3;rw[jo,←h2.sz];exact oU I λQ E k=>PySem.Calls.call_len_list ⟨_,h1,rfl,n',rfl⟩ (by rw[h2.sz];lia) (k _ _)
  |tuple xs=>
   obtain rfl:=gP hn;refine iH (I.tuple hob hp) λvs n h1 h2 h3=>?_;have h3:xs.length≤1000000:=h3;rw[jo,←h2.sz];exact oU I λQ E k=>P.len_tuple h1 (by rw[h2.sz];lia) (k _ _)
  |dict es=>
   obtain rfl:=gP hn;rw[jo];exact oU I λQ E k=>Calls.call_function_entry kind_len plain_len entry_len (args_len1 _) (JO (I.tU hp (by intro _ z;rw[hob]at z;obtain rfl:=gP z;rfl)) (I.dict hob hp) k)
  |set cs=>
   obtain rfl:=gP hn;refine iH (I.vS hob hp) λT n SD U SF=>?_;refine QV SD λo es ep tt ho hex hd U U hb hf hn=>?_;subst SF;rw[jo,←hn];exact oU I λQ E k=>call_len_set ho hex hd hf (by have:=Nat.lt_of_lt_of_le hb (show scanBound≤1000000 by decide);lia) (k _ _)
  |_=>exact gV hn
 |_=>trivial
theorem SH(I:Inv S gA φ Pr σ s)(hx:VR φ x v):gK S gA A Pr φ VR (call (.type "tuple") [x]) s (Az .tuple v σ):=by
 refine gK.go λxs hxs=>?_;refine gW (JW hxs) λp SJ e=>?_;subst SJ
 cases hx with
 | @ref a _ hp=>
 refine iH (I.list e hp) λvs n h1 h2 h3=>?_;refine λQ E k=>call_tuple_list ⟨_,h1,rfl,n,rfl⟩ (λh' hk=>?_) (ow (by rw[h2.sz];exact h3));have I1:Inv S gA φ Pr σ {s with heap:=h'}:=I.grow hk s.toks s.drawn;have I2:=I1.yB 0 h2 h3 s.toks;rw[JD]at I2;exact k _ _ _ (I1.jY _) I2 (VR.top ..)
theorem SK(I:Inv S gA φ Pr σ s)(hx:VR φ x v):gK S gA A Pr φ VR (call (.type "list") [x]) s (Az .list v σ):=by
 refine gK.go λxs hxs=>?_;refine gW (JV hxs) λp SM e=>?_;subst SM
 cases hx with
 | @ref a _ hp=>
 have go:∀(T:String)(vs:Array gG)(n:Nat)(hT:T="list"∨T="tuple")(h1:s.heap.get? a=some ⟨.type T,none,.seq vs n,#[]⟩)(h2:il φ vs.toList xs)(h3:xs.length≤cap),gK S gA A Pr φ VR (call (.type "list") [.ref a]) s (.ok (.ref σ.n) (σ.push (.list xs))):=by
  intro T vs n hT h1 h2 h3;refine λQ E k=>call_list_seq a hT h1 rfl rfl (λh' c' hk hn=>?_) (ow (by rw[h2.sz];exact h3));have I2:Inv S gA (φ.add σ.n s.heap.objs.size) Pr (σ.push (.list xs)) {s with heap:=h'}:=
   I.push hk (se _) ⟨_,hn⟩ (λp e=>I.fresh p e) (λx hx e=>by
    refine iK (I.pr x hx) λSN U=>?_;refine gW SN λo q U=>?_;have:=mF q;rw[e]at this;exact jQ _ this) (by intro _ _ _ e;injection e) (by intro _ _ e;injection e) ⟨vs,c',hn,h2.mono (I.jY _),h3⟩
  exact k _ _ _ (I.jY _) I2 (VR.top ..)
 rcases e with e|e
 .refine iH (I.list e hp) λvs n h1 h2 h3=>?_;exact go "list" vs n (.inl rfl) h1 h2 h3
 .refine iH (I.tuple e hp) λvs n h1 h2 h3=>?_;exact go "tuple" vs n (.inr rfl) h1 h2 h3
theorem SO(I:Inv S gA φ Pr σ s):gK S gA A Pr φ VR (call (.type "set") []) s (HA .set σ):=by
 refine λQ E k=>call_set_0 λled=>?_;have I2:Inv S gA (φ.add σ.n s.heap.objs.size) Pr (σ.push (.set [])) {s with heap:=s.heap.push {cls:=.type "set",dict:=none,data:=.set #[] 0 (.fresh 0 0 led)}}:=
  I.push (λb o e=>ja _ e) (se _) ⟨_,j7 _ rfl⟩ (λp e=>I.fresh p e) (λx hx e=>by
   refine iK (I.pr x hx) λSP U=>?_;refine gW SP λo q U=>?_;have:=mF q;rw[e]at this;exact jQ _ this) (by intro _ _ _ e;injection e) (by intro _ _ e;injection e) ?_
 .exact k _ _ _ (I.jY _) I2 (VR.top ..)
 .refine⟨λU=>false,0,⟨_,#[],0,_,j7 _ rfl,⟨rfl,rfl,rfl⟩,rfl,?_,?_,?_,?_,rfl⟩,λx hx=>rfl,rfl⟩
  .intro e he;simp at he
  .intro k;simp
  .decide
  .rfl
theorem SQ(hh:A.handled=none)(I:Inv S gA φ Pr σ s):gK S gA A Pr φ VR (call (.builtin "min") [.int i t,.int j u]) s (.ok (.int (gT i j (kz j i))) σ):=by
 rw[nP];refine λQ E k=>min_two_ints hh λh' tk hk=>?_
 by_cases h:j<i
 .rw[if_pos h];rw[decide_eq_true h]at k;exact k _ _ _ (Le.refl φ) (I.grow hk tk s.drawn) (.int j u)
 .rw[if_neg h];rw[decide_eq_false h]at k;exact k _ _ _ (Le.refl φ) (I.grow hk tk s.drawn) (.int i t)
theorem SU(hh:A.handled=none)(I:Inv S gA φ Pr σ s):gK S gA A Pr φ VR (call (.builtin "max") [.int i t,.int j u]) s (.ok (.int (gT i j (kz i j))) σ):=by
 rw[nP];refine λQ E k=>max_two_ints hh λh' tk hk=>?_
 by_cases h:i<j
 .rw[if_pos h];rw[decide_eq_true h]at k;exact k _ _ _ (Le.refl φ) (I.grow hk tk s.drawn) (.int j u)
 .rw[if_neg (show¬j>i from h)];rw[decide_eq_false h]at k;exact k _ _ _ (Le.refl φ) (I.grow hk tk s.drawn) (.int i t)
end
section
variable{S:g8}{gA:Heap}{A:g6}{Pr:ik}{φ:Pl}{σ:gI}{s:gJ}
theorem DD{α β:Type}(f:α→Option β)(a:α)(l:List α):lM f (a::l)=match f a,lM f l with|some b,some r=>some (b::r)|_,_=>none:=by
 have e:lM f (a::l)= @hG β (λU=>Option (List β)) none (λb=>@hG (List β) (λU=>Option (List β)) none (λr=>some (b::r)) (lM f l)) (f a):=rfl;rw[e]
 induction f a with
 |none=>rfl
 |some b=>cases lM f l<;>rfl
theorem SV(l:List Bool):allB l=l.all id:=by
 induction l with
 |nil=>rfl
 |cons b l ih=>induction b<;>simp[allB]at ih⊢<;>exact ih
theorem SW(h:il φ vs xs)(e:lM CK xs=some bs):vs=bs.map gG.bool:=by
 induction h generalizing bs with
 |nil=>rw[←gP e];rfl
 | @cons v x _ xs h1 h2 ih=>
  rw[DD]at e
  induction x with
  |bool b=>
   cases h1
   induction e2:lM CK xs with
   |none=>rw[e2]at e;exact gV e
   |some r=>
    rw[e2]at e;rw[←show b::r=bs from gP e,ih e2];rfl
  |_=>exact gV e
theorem SX(hh:A.handled=none)(I:Inv S gA φ Pr σ s)(hx:VR φ x v):gK S gA A Pr φ VR (call (.builtin "all") [x]) s (Az .all v σ):=by
 refine gK.go λxs hxs=>gK.go λbs AQ=>?_;refine gW (JW hxs) λp SY e=>?_;subst SY
 cases hx with
 | @ref a _ hp=>
 refine iH (I.list e hp) λvs n h1 h2 h3=>?_;have hv:=SW h2 AQ;refine λQ E k=>call_all_walk (wpAny_pyIter_list ⟨_,h1,rfl,n,rfl⟩ ?_);have hne:a≠s.heap.objs.size:=λz=>by have:=mF h1;rw[z]at this;exact jQ _ this
 refine⟨_,_,_,_,_,_,(λi=>bs.getD i true),rfl,Walks.list (A:=A.in1) hh s.heap.objs.size a hne vs,⟨⟨_,j7 _ rfl,rfl,rfl⟩,⟨_,ja _ h1,rfl,n,rfl⟩⟩,?_,λh' tk hk=>?_⟩
 .intro i v s Q E hP hQ;rw[←n7,hv,sQ]at hP
  induction hb:bs[i]?with
  |none=>rw[hb]at hP;exact gV hP
  |some b=>
   rw[hb]at hP;obtain rfl:=gP hP;refine wpAny_truthy_bool ?_;have:bs.getD i true=b:=by rw[oJ,hb];rfl
   have hQ:Q (bs.getD i true) s:=hQ;rw[this]at hQ;exact hQ
 .have hlen:vs.size=bs.length:=by rw[←jM,hv,ke]
  have e2:((List.range vs.size).all λi=>bs.getD i true)=allB bs:=by
   rw[SV,hlen,Bool.eq_iff_iff];simp only[kf,List.mem_range];constructor
   .intro h b hb;refine qY (List.mem_iff_getElem.mp hb) λi hi SZ=>?_;subst SZ;have:=h i hi;rw[oJ,pV hi]at this;exact this
   .intro h i hi;rw[oJ,pV hi];exact h _ (List.getElem_mem hi)
  rw[e2];refine k _ _ _ (Le.refl φ) (I.grow (λb o z=>hk b o (λhm=>?_) (ja _ z)) tk s.drawn) (.bool _);rw[jc]at hm;have:=mF z;rw[hm]at this;exact jQ _ this
theorem AR(sep x y:List Nat)(l:List (List Nat)):lp sep (x::y::l)=x++(sep++lp sep (y::l)):=by
 show app x (app sep (lp sep (y::l)))=_;rw[lQ,lQ]
theorem JX(sep:Str):∀l:List Str,(Str.join sep l).cps.toList=lp sep.cps.toList (l.map (·.cps.toList))
 |[]=>rfl
 |[x]=>rfl
 |x::y::l=>by
  have ih:=JX sep (y::l);rw[lI]at ih;rw[lI,lI,AR,←ih];show((x.cps++sep.cps)++(Str.join sep (y::l)).cps).toList=_;simp
theorem JY(sep:Str):∀(l:List Str)(a:Nat),l.foldl (λa x=>a+x.length+sep.length) a≤a+(lp sep.cps.toList (l.map (·.cps.toList))).length+sep.length
 |[],a=>by simp only[List.foldl_nil];lia
 |[x],a=>by
  simp only[List.foldl_cons,List.foldl_nil,lI,List.map_nil];rw[jM];exact i8 _
 |x::y::l,a=>by
  have:=JY sep (y::l) (a+x.length+sep.length);rw[List.foldl_cons];refine ia this ?_;simp only[lI]at this⊢;rw[AR,jm,jm];have e4:x.cps.toList.length=x.cps.size:=jM;have e3:sep.cps.toList.length=sep.cps.size:=jM;have e1:x.cps.size=x.length:=rfl;have e2:sep.cps.size=sep.length:=rfl;lia
theorem strs_cons(v:AV)(l:List AV):pg (v::l)=match v with| .str n=>(match pg l with|some r=>some (n::r)|none=>none)|_=>none:=by
 induction v with
 |str n=>
  show@hG (List Nat) (λU=>Option (List Nat)) none (λr=>some (n::r)) (pg l)=_
  cases pg l<;>rfl
 |_=>rfl
theorem JZ(h:il φ vs xs)(e:pg xs=some ns):∃l:List (Str×PySem.Tok),vs=strValues l∧(∀p∈l,hY.strOk p.1=true∧p.1.cps.size≤cap)∧lL dec ns=l.map (·.1.cps.toList):=by
 induction h generalizing ns with
 |nil=>rw[←gP e];exact⟨[],rfl,(λU h=>(iA h).elim),rfl⟩
 | @cons v x _ xs h1 h2 ih=>
  rw[strs_cons]at e
  induction x with
  |str n=>
   cases h1 with
   | @str y _ t hs=>
   induction e2:pg xs with
   |none=>rw[e2]at e;exact gV e
   |some r=>
    rw[e2]at e;rw[←show n::r=ns from gP e];refine jI (ih e2) λl q1 q2 q3=>?_;refine⟨(y,t)::l,by rw[q1];rfl,sP.2 ⟨⟨hs.1.1,hs.2⟩,q2⟩,?_⟩;rw[w7]at q3⊢;rw[lI,lI,q3,hs.dec]
  |_=>exact gV e
theorem DE(sep:List Nat):∀(l:List (List Nat))(P:Nat→Prop),(∀c∈sep,P c)→(∀x∈l,∀c∈x,P c)→∀c∈lp sep l,P c
 |[],P,hs,h,c,hc=>by cases hc
 |[x],P,hs,h,c,hc=>h x (hW ..) c hc
 |x::y::l,P,hs,h,c,hc=>by
  rw[AR,nD,nD]at hc
  rcases hc with hc|hc|hc
  .exact h x (hW ..) c hc
  .exact hs c hc
  .exact DE sep (y::l) P hs (λz hz=>h z (hO _ hz)) c hc
theorem J0(h1:y.cps.toList=l)(h2:∀c∈l,c<0x110000)(h3:l.length≤cap):SR y (iT l):=by
 subst h1;refine⟨⟨?_,rfl⟩,by rw[jM]at h3;exact h3⟩;unfold hY.strOk;rw[Array.all_eq_true'];intro c hc;exact decide_eq_true (h2 c (Array.mem_toList_iff.mpr hc))
theorem DF(h:hY.strOk y=true):∀c∈y.cps.toList,c<0x110000:=λc hc=>by
 unfold hY.strOk at h;rw[Array.all_eq_true']at h;exact of_decide_eq_true (h c (Array.mem_toList_iff.mp hc))
theorem S0(I:Inv S gA φ Pr σ s)(hsep:SR sep n)(hx:VR φ x v):
 gK S gA A Pr φ VR (call (.builtin "str.join") [.str sep t,x]) s (go (wX σ v) 17 λxs=>go (pg xs) 17 λl=>go (lk (lp (dec n) (lL dec l))) 17 λv=>.ok v σ):=by
 refine gK.go λxs hxs=>gK.go λns hns=>gK.go λu hu=>?_;refine iK (xa hu) λhl S9=>?_;subst S9;refine gW (JV hxs) λp S' e=>?_;subst S'
 cases hx with
 | @ref a _ hp=>
 have go:∀(vs:Array gG)(h2:il φ vs.toList xs)(go:∀(l:List (Str×PySem.Tok))(Q:gG→gJ→Prop)(E:gG→gJ→Prop),vs=(strValues l).toArray→Builtin.Str.tooLong ((l.map (·.1)).toArray.foldl (·+·.length+sep.length) 0)=false→
  (joinMade sep l).post Q s→gL S.M A (call (.builtin "str.join") [.str sep t,.ref a]) Q E s),gK S gA A Pr φ VR (call (.builtin "str.join") [.str sep t,.ref a]) s (.ok (.str (iT (lp (dec n) (lL dec ns)))) σ):=by
  intro vs h2 go;refine jI (JZ h2 hns) λl q1 q2 q3=>?_;rw[hsep.dec,q3]at hl⊢;have hcp:=JX sep (l.map (·.1));rw[List.map_map]at hcp;have Ta:(Str.join sep (l.map (·.1))).cps.toList=lp sep.cps.toList (l.map (·.1.cps.toList)):=hcp;have ro:SR (Str.join sep (l.map (·.1))) (iT (lp sep.cps.toList (l.map (·.1.cps.toList)))):=J0 Ta (DE _ _ _ (DF hsep.1.1) λx hx c hc=>by
   refine gW (List.mem_map.mp hx) λp hp Tb=>?_;subst Tb;exact DF (q2 p hp).1 c hc) hl
  have ij:sep.length≤1000000:=hsep.2;have hl':(lp sep.cps.toList (l.map (·.1.cps.toList))).length≤1000000:=hl;have hfit:Builtin.Str.tooLong ((l.map (·.1)).toArray.foldl (·+·.length+sep.length) 0)=false:=by
   rw[List.foldl_toArray];refine decide_eq_false ?_;have:=JY sep (l.map (·.1)) 0;rw[List.map_map]at this;have h5:(l.map (·.1)).foldl (λa x=>a+x.length+sep.length) 0≤0+(lp sep.cps.toList (l.map (·.1.cps.toList))).length+sep.length:=this;rw[sizeLine_eq];omega
  refine yA I ro λQ E k=>go l Q E (by rw[←q1]) hfit (post_join l ⟨joinFit_length hfit,λt' tk=>?_⟩);have:Txt.join sep (l.map (·.1))=Str.join sep (l.map (·.1)):=StrLaws.glued_eq_join sep _;rw[this];exact k _ _
 rcases e with e|e
 .refine iH (I.list e hp) λvs m h1 h2 h3=>?_;refine go vs h2 λl Q E q hf hq=>call_meets F.slot_str_join (typeIs_str _ _ _) F.entry_str_join (F.args_str_join_2 _ _) (meets_str_join_list sep t a l hf) ⟨⟨_,h1,rfl,m,by rw[q]⟩,hq⟩
 .refine iH (I.tuple e hp) λvs m h1 h2 h3=>?_;refine go vs h2 λl Q E q hf hq=>call_meets F.slot_str_join (typeIs_str _ _ _) F.entry_str_join (F.args_str_join_2 _ _) (meets_str_join_tuple sep t a l hf) ⟨⟨_,m,h1,rfl,by rw[q]⟩,hq⟩
end
def je{α β:Type}(S:g8)(gA:Heap)(A:g6)(Pr:ik)(φ:Pl)(rel:Pl→α→β→Prop)(W:(α→gJ→Prop)→(gG→gJ→Prop)→Prop)(r:R β):Prop:=match r with
 | .ok v σ'=>∀(Q:α→gJ→Prop)(E:gG→gJ→Prop),(∀gE x s',Le φ gE→Inv S gA gE Pr σ' s'→rel gE x v→Q x s')→W Q E
 | .exc k σ'=>A.handled=none→∀(Q:α→gJ→Prop)(E:gG→gJ→Prop),(∀gE s1 a h' tk,Le φ gE→Inv S gA gE Pr σ' s1→Heap.NewExc s1.heap h' a (sW k)→E (.ref a) {s1 with heap:=h',toks:=tk})→W Q E
 | .stuck _=>True
section
variable{S:g8}{gA:Heap}{A:g6}{Pr:ik}{φ:Pl}{σ:gI}{s:gJ}{α β γ δ:Type}{rel:Pl→α→β→Prop}{rel':Pl→γ→δ→Prop}
theorem je.sim(h:je S gA A Pr φ rel (λQ E=>gL S.M A t Q E s) r):gK S gA A Pr φ rel t s r:=h
theorem gK.yE(h:gK S gA A Pr φ rel t s r):je S gA A Pr φ rel (λQ E=>gL S.M A t Q E s) r:=h
theorem gK.sX{W:α→(γ→gJ→Prop)→(gG→gJ→Prop)→gJ→Prop}(h:gK S gA A Pr φ rel t s r)
 (rule:∀Q E,gL S.M A t (λx s'=>W x Q E s') E s→gL S.M A t' Q E s)
 (k:∀gE x v σ' s',Le φ gE→Inv S gA gE Pr σ' s'→rel gE x v→je S gA A Pr gE rel' (λQ E=>W x Q E s') (g v σ')):gK S gA A Pr φ rel' t' s (r.bind g):=by
 induction r with
 |stuck w=>trivial
 |exc x σ'=>exact λhh Q E hE=>rule _ _ (h hh _ _ hE)
 |ok v σ'=>
  show gK S gA A Pr φ rel' t' s (g v σ')
  induction e:g v σ' with
  |stuck w=>trivial
  |exc x ju=>
   refine λhh Q E hE=>rule _ _ (h _ _ λgE x s' l I r=>?_);have:=k gE x v σ' s' l I r;rw[e]at this;exact this hh _ _ λiv s1 a h' tk l2 I2 n=>hE iv s1 a h' tk (l.trans l2) I2 n
  |ok u ju=>
   refine λQ E hQ=>rule _ _ (h _ _ λgE x s' l I r=>?_);have:=k gE x v σ' s' l I r;rw[e]at this;exact this _ _ λiv x s'' l2 I2 r2=>hQ iv x s'' (l.trans l2) I2 r2
theorem gK.swap(h:gK S gA A Pr φ rel t s r)(k:∀Q E,gL S.M A t Q E s→gL S.M A t' Q E s'):gK S gA A Pr φ rel t' s' r:=by
 induction r with
 |stuck w=>trivial
 |exc x σ'=>exact λhh Q E hE=>k _ _ (h hh _ _ hE)
 |ok v σ'=>exact λQ E hQ=>k _ _ (h _ _ hQ)
theorem je.go{W:(α→gJ→Prop)→(gG→gJ→Prop)→Prop}(h:∀x,o=some x→je S gA A Pr φ rel W (f x)):je S gA A Pr φ rel W (go o w f):=by
 induction o with
 |none=>trivial
 |some x=>exact h x rfl
theorem R.bind_assoc{ε:Type}(r:R β)(f:β→gI→R δ)(g:δ→gI→R ε):(r.bind f).bind g=r.bind λx σ=>(f x σ).bind g:=by induction r<;>rfl
theorem AS{ε:Type}(o:Option ε)(w:Nat)(f:ε→R β)(g:β→gI→R δ):(go o w f).bind g=go o w λx=>(f x).bind g:=by induction o<;>rfl
end
section
variable{S:g8}{G:Top}{gA:Heap}{sc:hU}{H:Bool}
theorem good_none:ib S G gA sc H (.Constant .none k p) (lO .none):=λK d A env κ ρ Pr o φ σ s hK T=>λQ E q=>wpAny_Constant_none (q φ _ s (Le.refl φ) T.inv (by constructor))
theorem good_bool:ib S G gA sc H (.Constant (.bool b) k p) (lO (.bool b)):=λK d A env κ ρ Pr o φ σ s hK T=>λQ E q=>wpAny_Constant_bool (q φ _ s (Le.refl φ) T.inv (.bool b))
theorem good_int:ib S G gA sc H (.Constant (.int i) k p) (lO (.int i)):=λK d A env κ ρ Pr o φ σ s hK T=>oU T.inv λQ E q=>wpAny_Constant_int (q _ _)
theorem good_str(h:SR x n):ib S G gA sc H (.Constant (.str x) k p) (lO (.str n)):=λK d A env κ ρ Pr o φ σ s hK T=>yA T.inv h λQ E q=>wpAny_Constant_str (q _ _)
noncomputable def sg(k:Nat)(e:Expr):Bool:=!(ie e.ctorIdx k)
noncomputable def vY(e:Expr):Bool:=sg 16 e
theorem DG(h:vY o=true):attributeBase o n env t=t:=by
 cases o<;>first|rfl|exact gU h
theorem Tc(F:ly S gA)(he:ib S G gA sc H e f)(hb:vY e=true)(hn:S.nm x=some n)(ha:S.attr x=true):ib S G gA sc H (.Attribute e n p) (qa f x):=
 λK d A env κ ρ Pr o φ σ s hK T=>by
  rw[arm_eval_Attribute,DG hb];refine gK.bind (he K d A env κ ρ Pr o φ σ s hK T) λgE y v σ' s' l I r=>gK.standAt ?_;rw[T.KP];exact(JM F I r hn ha).same λQ E q=>gH (jt (jg q (λz s₂ hz=>gH (wpAny_letTemporaryGo (gO hz))) λU U z=>z))
noncomputable def DH(e:Expr):Bool:=sg 26 e
theorem Td(h:DH sl=true)(o i:gG):subscripted sl false o i=operate [o,i] (PySem.getItem o i):=by
 cases sl<;>first|rfl|exact gU h
theorem Te(he:ib S G gA sc H e f)(hi:ib S G gA sc H i g)(hs:DH i=true):ib S G gA sc H (.Subscript e i p) (qb f g):=
 λK d A env κ ρ Pr o φ σ s hK T=>by
  rw[arm_eval_Subscript];refine gK.bind (he K d A env κ ρ Pr o φ σ s hK T) λgE y v σ' s' l I r=>?_;refine gK.bind (gK.holding (hi K d A env κ ρ Pr o gE σ' s' hK (T.step l I))) λiv z w ju s'' l' I' r'=>gK.standAt ?_;rw[T.KP];exact Sk (T.fit.units) I' (r.mono l') r' (Td hs)
theorem J1(h:VR φ x v)(e:jV v=some i):IsPart x (some i):=by
 induction h with
 |int j t=>have e:=gP e;subst e;exact .int _ t
 |_=>exact gV e
def DI(S:g8)(A:g6)(pos:Pos)(value sl:Expr)(o:gG)(x y:gG)(Q:gG→gJ→Prop)(E:gG→gJ→Prop)(s:gJ):Prop:=
 gL S.M A (do PySem.standAt pos;AP value sl o (.ref s.heap.objs.size)) Q E {s with heap:=s.heap.push {cls:=.type "slice",data:=.fields #[x,y,.none]}}
theorem DJ(I:Inv S gA φ Pr σ s)(ho:VR φ o u)(hx:IsPart x lo)(hy:IsPart y hi):
 je S gA A Pr φ VR (λQ E=>DI S A pos value (.Slice lo' hi' none p) o x y Q E s) (m7 u lo hi σ):=
 (gK.standAt (Sl (value:=value) (lower:=value) (upper:=value) (lo':=lo') (hi':=hi') (p:=p) I ho hx hy)).yE
theorem Tf(he:ib S G gA sc H e f):ib S G gA sc H (.Subscript e (.Slice none none none q) p) (qc f):=
 λK d A env κ ρ Pr o φ σ s hK T=>by
  rw[arm_eval_Subscript];refine gK.bind (he K d A env κ ρ Pr o φ σ s hK T) λgE y v σ' s' l I r=>?_;refine gK.swap (DJ (value:=e) (lo':=none) (hi':=none) (p:=q) (pos:=p) I r .none .none).sim λQ E h=>?_;exact gH (jt (wpAny_Slice (gO (gO (gO h)))))
theorem Tg(he:ib S G gA sc H e f)(ha:ib S G gA sc H a g):ib S G gA sc H (.Subscript e (.Slice (some a) none none q) p) (qe f g):=
 λK d A env κ ρ Pr o φ σ s hK T=>by
  rw[arm_eval_Subscript];refine gK.bind (he K d A env κ ρ Pr o φ σ s hK T) λgE y v σ' s' l I r=>?_;refine gK.sX (W:=λx Q E s=>DI S A p e (.Slice (some a) none none q) y x .none Q E s) (ha K d A env κ ρ Pr o gE σ' s' hK (T.step l I)) (λQ E h=>?_) λiv z w ju s'' l' I' r'=>je.go λi hi=>DJ I' (r.mono l') (J1 r' hi) .none;exact gH (jt (wpAny_Slice (jg h (λx s1 hx=>gO (gO hx)) λU U z=>z)))
theorem Th(he:ib S G gA sc H e f)(ha:ib S G gA sc H a g):ib S G gA sc H (.Subscript e (.Slice none (some a) none q) p) (qg f g):=
 λK d A env κ ρ Pr o φ σ s hK T=>by
  rw[arm_eval_Subscript];refine gK.bind (he K d A env κ ρ Pr o φ σ s hK T) λgE y v σ' s' l I r=>?_;refine gK.sX (W:=λx Q E s=>DI S A p e (.Slice none (some a) none q) y .none x Q E s) (ha K d A env κ ρ Pr o gE σ' s' hK (T.step l I)) (λQ E h=>?_) λiv z w ju s'' l' I' r'=>je.go λi hi=>DJ I' (r.mono l') .none (J1 r' hi);exact gH (jt (wpAny_Slice (gO (jg h (λx s1 hx=>gO hx) λU U z=>z))))
noncomputable def Ti(op:Op):Operator:=Op.casesOn op .Add .Sub .Mod
def DK(op:Op)(o:Operator):Bool:=decide (o=Ti op)
theorem Tj(ha:ib S G gA sc H a f)(hb:ib S G gA sc H b g)(ho:DK op o'=true)
 (hmod:∀{A:g6}{Pr:ik}{φ:Pl}{σ:gI}{s:gJ}{x y:gG}{u v:AV},Inv S gA φ Pr σ s→VR φ x u→VR φ y v→A.units+300<i'→gK S gA A Pr φ VR (binaryOp .Mod x y) s (CD u v σ)):
 ib S G gA sc H (.BinOp a o' b p) (qm op f g):=
 λK d A env κ ρ Pr o φ σ s hK T=>by
  rw[arm_eval_BinOp];refine gK.bind (ha K d A env κ ρ Pr o φ σ s hK T) λgE y v σ' s' l I r=>?_;refine gK.bind (gK.holding (hb K d A env κ ρ Pr o gE σ' s' hK (T.step l I))) λiv z w ju s'' l' I' r'=>gK.standAt (gK.operate ?_);rw[of_decide_eq_true ho]
  induction op with
  |add=>exact RQ I' (r.mono l') r'
  |sub=>exact RU I' (r.mono l') r'
  |mod=>exact hmod I' (r.mono l') r' T.fit.units
theorem Tn(ha:ib S G gA sc H a f):ib S G gA sc H (.UnaryOp .USub a p) (qn f):=
 λK d A env κ ρ Pr o φ σ s hK T=>by
  rw[arm_eval_UnaryOp];refine gK.bind (ha K d A env κ ρ Pr o φ σ s hK T) λgE y v σ' s' l I r=>gK.standAt (gK.holding (gK.go λi hi=>?_))
  induction r with
  |int j t=>have hi:=gP hi;subst hi;exact RV I
  |_=>exact gV hi
theorem To(ha:ib S G gA sc H a f)(F:ly S gA)(hL:tV S 85073674658080482268389154181357764717):ib S G gA sc H (.UnaryOp .Not a p) (pk f):=
 λK d A env κ ρ Pr o φ σ s hK T=>by
  rw[arm_eval_UnaryOp];show gK S gA A _ φ VR _ s (((f K ρ κ σ).bind ki).bind λt σ=>.ok (.bool (jR t)) σ);rw[R.bind_assoc];refine gK.bind (ha K d A env κ ρ Pr o φ σ s hK T) λgE y v σ' s' l I r=>gK.standAt (gK.holding ?_);unfold ki;rw[AS];refine gK.go λb hb=>?_;have:=JR F hL (A:=A) I r hb;refine λQ E k=>PyProof.Rows.not_of (this _ _ λiv x s'' l2 I2 e=>k iv (.bool (!x)) s'' l2 I2 ?_);have e:x=b:=e;subst e;rw[sU];exact .bool _
noncomputable def Tp(op:Cp):CmpOp:=Cp.casesOn op .Eq .NotEq .Lt .LtE .Gt .GtE .Is .IsNot .In .NotIn
noncomputable def AU(op:Cp)(o:CmpOp):Bool:=decide (o=Tp op)
theorem J2(ho:AU op o'=true)(hu:A.units+300<i')(I:Inv S gA φ Pr σ s)(hx:VR φ x u)(hy:VR φ y v):
 gK S gA A Pr φ VR (compareOp o' x y) s (cmp op u v σ):=by
 have hI:∀(f:Int→Int→Bool)(o':CmpOp),(∀(i j:Int)(t t':PySem.Tok)(Q:gG→gJ→Prop)(E:gG→gJ→Prop),Q (.bool (f i j)) s→gL S.M A (compareOp o' (.int i t) (.int j t')) Q E s)→gK S gA A Pr φ VR (compareOp o' x y) s (yd f u v σ):=by
  intro f o' h
  induction hx with
  |int i t=>
   induction hy with
   |int j t'=>exact λQ E k=>h i j t t' Q E (k φ _ s (Le.refl φ) I (.bool _))
   |_=>trivial
  |_=>trivial
 have hN:∀(neg:Bool)(o':CmpOp),(∀(Q:gG→gJ→Prop)(E:gG→gJ→Prop),Q (.bool (if neg then !(x== .none)else x== .none)) s→gL S.M A (compareOp o' x .none) Q E s)→gK S gA A Pr φ VR (compareOp o' x y) s (CH u v neg σ):=by
  intro neg o' h
  induction hy with
  |none=>
   have e:(x==gG.none)=isNone u:=by induction hx<;>rfl
   refine λQ E k=>h Q E (k φ _ s (Le.refl φ) I ?_);rw[e]
   cases neg
   .exact .bool _
   .show VR φ (.bool (!isNone u)) (.bool (jR (isNone u)));rw[sU];exact .bool _
  |_=>trivial
 rw[of_decide_eq_true ho]
 cases op
 .exact gK.go λb hb=>(JG hu I hx hy hb).1
 .refine gK.go λb hb=>?_;rw[sU];exact(JG hu I hx hy hb).2
 .exact hI kz .Lt λi j t t' Q E q=>P.lt_int (by rw[nP]at q;exact q)
 .exact hI wW .LtE λi j t t' Q E q=>P.le_int (by rw[AB]at q;exact q)
 .exact hI (λx y=>kz y x) .Gt λi j t t' Q E q=>P.gt_int (by rw[nP]at q;exact q)
 .exact hI (λx y=>wW y x) .GtE λi j t t' Q E q=>P.ge_int (by rw[AB]at q;exact q)
 .exact hN false .Is λQ E q=>is_none q
 .exact hN true .IsNot λQ E q=>isNot_none q
 .exact gK.go λb hb=>(JL hu I hx hy hb).1
 .refine gK.go λb hb=>?_;rw[sU];exact(JL hu I hx hy hb).2
theorem J3(h:behindInMarks op e=false):markedEach [op] [e] [t]=[t]:=by
 show[markedBehindIn op e t]=[t];rw[markedBehindIn_of_false h]
theorem Tq(ha:ib S G gA sc H a f)(hb:ib S G gA sc H b g)(ho:AU op o'=true)(hm:behindInMarks o' b=false):
 ib S G gA sc H (.Compare a [o'] [b] p) (pq op f g):=
 λK d A env κ ρ Pr o φ σ s hK T=>by
  rw[arm_eval_Compare];refine gK.bind (ha K d A env κ ρ Pr o φ σ s hK T) λgE y v σ' s' l I r=>?_;show gK S gA A _ gE VR (compareChain p y [o'] (markedEach [o'] [b] [eval b env])) s' _;rw[J3 hm];refine gK.bind (gK.holding (hb K d A env κ ρ Pr o gE σ' s' hK (T.step l I))) λiv z w ju s'' l' I' r'=>gK.standAt (gK.operate ?_);exact J2 ho T.fit.units I' (r.mono l') r'
theorem AW(F:ly S gA)(hL:tV S 85073674658080482268389154181357764717)(I:Inv S gA φ Pr σ s)(hx:VR φ x u):gK S gA A Pr φ (λU b c=>b=c) (truthy x) s (ki u σ):=
 gK.go λb hb=>JR F hL I hx hb
theorem Tr(F:ly S gA)(hL:tV S 85073674658080482268389154181357764717)(ha:ib S G gA sc H a f)(hb:ib S G gA sc H b g)(ho:AU op o'=true)(hm:behindInMarks o' b=false):
 kD S G gA sc H (.Compare a [o'] [b] p) (pq op f g):=
 λK d A env κ ρ Pr o φ σ s hK T=>by
  rw[arm_isTrue_Compare];show gK S gA A _ φ _ _ s (((f K ρ κ σ).bind _).bind ki);rw[R.bind_assoc];refine gK.bind (ha K d A env κ ρ Pr o φ σ s hK T) λgE y v σ' s' l I r=>?_;show gK S gA A _ gE _ (testChain p y [o'] (markedEach [o'] [b] [eval b env])) s' _;rw[J3 hm,R.bind_assoc];refine gK.bind (gK.holding (hb K d A env κ ρ Pr o gE σ' s' hK (T.step l I))) λiv z w ju s'' l' I' r'=>gK.standAt ?_;exact gK.bind (gK.operate (J2 ho T.fit.units I' (r.mono l') r')) λyF c cv σ3 s3 l3 I3 r3=>gK.holding (AW F hL I3 r3)
noncomputable def plainT:Expr→Bool
 | .UnaryOp .Not _ _=>false
 | .BoolOp .. =>false
 | .IfExp .. =>false
 | .Compare .. =>false
 |_=>true
theorem Ts(h:plainT e=true):isTrue e env t=(do let v←t;PySem.standAt e.pos;holding [v] (truthy v)):=by
 cases e with
 |UnaryOp op x p=>induction op<;>first|rfl|exact gU h
 |BoolOp=>exact gU h
 |IfExp=>exact gU h
 |Compare=>exact gU h
 |_=>rfl
theorem J4(F:ly S gA)(hL:tV S 85073674658080482268389154181357764717)(h:ib S G gA sc H e f)(hp:plainT e=true):kD S G gA sc H e f:=
 λK d A env κ ρ Pr o φ σ s hK T=>by
  rw[Ts hp];exact gK.bind (h K d A env κ ρ Pr o φ σ s hK T) λgE y v σ' s' l I r=>gK.standAt (gK.holding (AW F hL I r))
end
section
variable{S:g8}{G:Top}{gA:Heap}{sc:hU}{H:Bool}
theorem je.map{α β γ δ:Type}{A:g6}{Pr:ik}{φ:Pl}{s:gJ}{rel:Pl→α→β→Prop}{rel':Pl→γ→δ→Prop}{t:Sem α}{r:R β}{f:α→γ}{g:β→δ}(h:gK S gA A Pr φ rel t s r)(k:∀gE x v,Le φ gE→rel gE x v→rel' gE (f x) (g v)):
 je S gA A Pr φ rel' (λQ E=>gL S.M A t (λx=>Q (f x)) E s) (r.bind λv σ=>.ok (g v) σ):=by
 induction r with
 |stuck w=>trivial
 |exc x σ'=>exact λhh Q E hE=>h hh _ _ hE
 |ok v σ'=>exact λQ E hQ=>h _ _ λgE x s' l I r=>hQ gE _ s' l I (k gE x v l r)
def AX(op:BoolOp)(a b:VE):VE:=match op with| .And=>oh a b| .Or=>oj a b
theorem Tt(pos:Pos)(op:BoolOp)(x y:Sem gG)(r:List (Sem gG)):boolOp pos op (x::y::r)=(do
 let v←x
 PySem.standAt pos
 let t←holding [v] (truthy v)
 match op,t with
 | .And,false| .Or,true=>pure v
 |_,_=>boolOp pos op (y::r)):=rfl
theorem J5(F:ly S gA)(hL:tV S 85073674658080482268389154181357764717){op:BoolOp}{x y:Expr}{r:List Expr}{p:Pos}{f g:VE}(hx:ib S G gA sc H x f)(hy:ib S G gA sc H (.BoolOp op (y::r) p) g):
 ib S G gA sc H (.BoolOp op (x::y::r) p) (AX op f g):=
 λK d A env κ ρ Pr o φ σ s hK T=>by
  have hy':=hy K d A env κ ρ Pr o;rw[arm_eval_BoolOp]at hy'⊢;rw[arm_evalEach_cons,arm_evalEach_cons,Tt];rw[arm_evalEach_cons]at hy'
  induction op with
  |And=>
   refine gK.bind (hx K d A env κ ρ Pr o φ σ s hK T) λgE v u σ' s' l I rv=>gK.standAt ?_;refine gK.bind (gK.holding (AW F hL I rv)) λiv t tb ju s'' l' I' e=>?_;have e:t=tb:=e;subst e
   induction t with
   |false=>exact gK.pure I' (rv.mono l')
   |true=>exact hy' iv ju s'' hK ((T.step l I).step l' I')
  |Or=>
   refine gK.bind (hx K d A env κ ρ Pr o φ σ s hK T) λgE v u σ' s' l I rv=>gK.standAt ?_;refine gK.bind (gK.holding (AW F hL I rv)) λiv t tb ju s'' l' I' e=>?_;have e:t=tb:=e;subst e
   induction t with
   |true=>exact gK.pure I' (rv.mono l')
   |false=>exact hy' iv ju s'' hK ((T.step l I).step l' I')
theorem Tu{op:BoolOp}{x:Expr}{p:Pos}{f:VE}(hx:ib S G gA sc H x f):ib S G gA sc H (.BoolOp op [x] p) f:=λK d A env κ ρ Pr o φ σ s hK T=>hx K d A env κ ρ Pr o φ σ s hK T
theorem Tv(a b:VE)(K:KE)(ρ:Loc)(κ:gX)(σ:gI):test (oh a b) K ρ κ σ=(test a K ρ κ σ).bind λt σ=>gT (.ok false σ) (test b K ρ κ σ) t:=by
 unfold test oh
 induction a K ρ κ σ with
 |stuck w=>rfl
 |exc x σ=>rfl
 |ok x σ1=>
  show((ki x σ1).bind _).bind ki=(ki x σ1).bind _;unfold ki
  induction h:truth σ1 x with
  |none=>rfl
  |some t=>
   induction t with
   |true=>rfl
   |false=>show go (truth σ1 x) 15 _=_;rw[h];rfl
theorem Tw(a b:VE)(K:KE)(ρ:Loc)(κ:gX)(σ:gI):test (oj a b) K ρ κ σ=(test a K ρ κ σ).bind λt σ=>gT (test b K ρ κ σ) (.ok true σ) t:=by
 unfold test oj
 induction a K ρ κ σ with
 |stuck w=>rfl
 |exc x σ=>rfl
 |ok x σ1=>
  show((ki x σ1).bind _).bind ki=(ki x σ1).bind _;unfold ki
  induction h:truth σ1 x with
  |none=>rfl
  |some t=>
   induction t with
   |false=>rfl
   |true=>show go (truth σ1 x) 15 _=_;rw[h];rfl
theorem J6{op:BoolOp}{x y:Expr}{r:List Expr}{p:Pos}{f g:VE}(hx:kD S G gA sc H x f)(hy:kD S G gA sc H (.BoolOp op (y::r) p) g):
 kD S G gA sc H (.BoolOp op (x::y::r) p) (AX op f g):=
 λK d A env κ ρ Pr o φ σ s hK T=>by
  have hy':=hy K d A env κ ρ Pr o;rw[arm_isTrue_BoolOp]at hy'⊢;rw[arm_allTrue_cons]
  induction op with
  |And=>
   rw[show AX .And f g=oh f g from rfl,Tv];refine gK.bind (hx K d A env κ ρ Pr o φ σ s hK T) λgE t tb σ' s' l I e=>?_;have e:t=tb:=e;subst e
   induction t with
   |false=>exact gK.pure I rfl
   |true=>exact hy' gE σ' s' hK (T.step l I)
  |Or=>
   rw[show AX .Or f g=oj f g from rfl,Tw];refine gK.bind (hx K d A env κ ρ Pr o φ σ s hK T) λgE t tb σ' s' l I e=>?_;have e:t=tb:=e;subst e
   induction t with
   |true=>exact gK.pure I rfl
   |false=>exact hy' gE σ' s' hK (T.step l I)
theorem R.sY{β:Type}(r:R β):r.bind (λx σ=>.ok x σ)=r:=by induction r<;>rfl
theorem Tx{op:BoolOp}{x:Expr}{p:Pos}{f:VE}(hx:kD S G gA sc H x f):kD S G gA sc H (.BoolOp op [x] p) f:=
 λK d A env κ ρ Pr o φ σ s hK T=>by
  rw[arm_isTrue_BoolOp,arm_allTrue_cons,←R.sY (test f K ρ κ σ)];refine gK.bind (hx K d A env κ ρ Pr o φ σ s hK T) λgE t tb σ' s' l I e=>?_;have e:t=tb:=e;subst e
  induction op<;>induction t<;>exact gK.pure I rfl
theorem Tz{x:Expr}{p:Pos}{f:VE}(hx:kD S G gA sc H x f):kD S G gA sc H (.UnaryOp .Not x p) (pk f):=
 λK d A env κ ρ Pr o φ σ s hK T=>by
  rw[arm_isTrue_UnaryOp];show gK S gA A _ φ _ _ s (((test f K ρ κ σ).bind _).bind ki);rw[R.bind_assoc];refine gK.bind (hx K d A env κ ρ Pr o φ σ s hK T) λgE t tb σ' s' l I e=>?_;have e:t=tb:=e;subst e;show gK S gA A _ gE _ _ s' (go (truth σ' (.bool (jR t))) 15 λb=>.ok b σ');refine gK.pure I ?_;rw[sU]
theorem TA{c a b:Expr}{p:Pos}{f g h:VE}(hc:kD S G gA sc H c f)(ha:ib S G gA sc H a g)(hb:ib S G gA sc H b h):ib S G gA sc H (.IfExp c a b p) (pv f g h):=
 λK d A env κ ρ Pr o φ σ s hK T=>by
  rw[arm_eval_IfExp];refine gK.bind (hc K d A env κ ρ Pr o φ σ s hK T) λgE t tb σ' s' l I e=>?_;have e:t=tb:=e;subst e
  induction t with
  |false=>exact hb K d A env κ ρ Pr o gE σ' s' hK (T.step l I)
  |true=>exact ha K d A env κ ρ Pr o gE σ' s' hK (T.step l I)
theorem TB{c a b:Expr}{p:Pos}{f g h:VE}(hc:kD S G gA sc H c f)(ha:kD S G gA sc H a g)(hb:kD S G gA sc H b h):kD S G gA sc H (.IfExp c a b p) (pv f g h):=
 λK d A env κ ρ Pr o φ σ s hK T=>by
  rw[arm_isTrue_IfExp];show gK S gA A _ φ _ _ s (((test f K ρ κ σ).bind _).bind ki);rw[R.bind_assoc];refine gK.bind (hc K d A env κ ρ Pr o φ σ s hK T) λgE t tb σ' s' l I e=>?_;have e:t=tb:=e;subst e
  induction t with
  |false=>exact hb K d A env κ ρ Pr o gE σ' s' hK (T.step l I)
  |true=>exact ha K d A env κ ρ Pr o gE σ' s' hK (T.step l I)
noncomputable def noStar(e:Expr):Bool:=sg 22 e
theorem J7{e:Expr}{r:List Expr}{env:Env}(h:noStar e=true):starEach (e::r) env=(false,eval e env)::starEach r env:=by
 cases e<;>first|rfl|exact gU h
def mu(S:g8)(G:Top)(gA:Heap)(sc:hU)(H:Bool)(es:List Expr)(f:VL):Prop:=∀K d A env κ ρ Pr o φ σ s,kO S gA K d→At S G gA K d sc H A env κ ρ Pr o φ σ s→∀pos,
 gK S gA A ((env.locals,o)::Pr) φ il (spliced (backTo pos (starEach es env))) s (f K ρ κ σ)
theorem J8:mu S G gA sc H [] nK:=λK d A env κ ρ Pr o φ σ s hK T pos=>gK.pure T.inv .nil
theorem J9{e:Expr}{r:List Expr}{f:VE}{g:VL}(he:ib S G gA sc H e f)(hn:noStar e=true)(hr:mu S G gA sc H r g):mu S G gA sc H (e::r) (nL f g):=
 λK d A env κ ρ Pr o φ σ s hK T pos=>by
  rw[J7 hn];show gK S gA A _ φ il (spliced ((false,eval e env)::backTo pos (starEach r env))) s _;refine gK.sX (W:=λv Q E s'=>gL S.M A (spliced (backTo pos (starEach r env))) (λvs s₂=>Q (v::vs) s₂) E s') (he K d A env κ ρ Pr o φ σ s hK T) (λQ E h=>Calls.spliced_cons h) λgE v u σ' s' l I rv=>?_;exact je.map (hr K d A env κ ρ Pr o gE σ' s' hK (T.step l I) pos) λiv vs us l' TF=>.cons (rv.mono l') TF
theorem TG{es:List Expr}{p:Pos}{f:VL}(h:mu S G gA sc H es f):ib S G gA sc H (.List es p) (qo f):=
 λK d A env κ ρ Pr o φ σ s hK T=>by
  rw[arm_eval_List];refine gK.standAt (gK.bind (h K d A env κ ρ Pr o φ σ s hK T p) λgE vs us σ' s' l I rv=>gK.go λob ho=>?_);obtain⟨hl,rfl⟩:=AK ho;refine λQ E k=>mY (k _ _ _ (I.jY _) (I.AL 0 rv hl s'.toks) (VR.top ..)) ?_;show vs.toArray.size≤sizeLine;rw[List.size_toArray,rv.length];exact ow hl
theorem TH{es:List Expr}{p:Pos}{k:Nat}{f:VL}(h:mu S G gA sc H es f):ib S G gA sc H (.Tuple es k p) (qp f):=
 λK d A env κ ρ Pr o φ σ s hK T=>by
  rw[arm_eval_Tuple];refine gK.standAt (gK.bind (h K d A env κ ρ Pr o φ σ s hK T p) λgE vs us σ' s' l I rv=>gK.go λob ho=>?_);obtain⟨hl,rfl⟩:=RO ho;refine λQ E k=>mY (k _ _ _ (I.jY _) (I.yB 0 rv hl s'.toks) (VR.top ..)) ?_;show vs.toArray.size≤sizeLine;rw[List.size_toArray,rv.length];exact ow hl
end
noncomputable def Top.val(G:Top)(x:Str):Option gG:=match G.mg x with|some v=>some v|none=>G.mb x
def yG(S:g8)(gA:Heap)(f:Addr)(fd:FD):Prop:=∃od g9 sl,gA.get? f=some ⟨.type "function",od,.func g9,sl⟩∧S.FK g9 fd∧gA.CodeRec g9.code g9.qualname
theorem yG.at{S:g8}{gA h:Heap}{φ:Pl}{f:Addr}{fd:FD}(x:yG S gA f fd)(k:∀b o,gA.get? b=some o→h.get? b=some o):FnAt S φ h f fd []:=by
 refine IY x λod g9 sl h1 h2 h3=>?_;exact⟨od,g9,sl,k _ _ h1,h2,h3.keeps k,λx p e=>by exact gV e⟩
noncomputable def AY:BI→Str
 | .len=>"len"| .all=>"all"| .tuple=>"tuple"| .list=>"list"| .min=>"min"| .max=>"max"| .set=>"set"
noncomputable def AZ:BI→gG
 | .len=>.builtin "len"| .all=>.builtin "all"| .tuple=>.type "tuple"| .list=>.type "list"| .min=>.builtin "min"| .max=>.builtin "max"| .set=>.type "set"
structure si(S:g8)(G:Top)(gA:Heap):Prop where
 fn:∀k x fd,iM S.P.m3 k=some fd→SR x k→∃a,G.val x=some (.ref a)∧yG S gA a fd
 cls:∀c x cd,iM S.P.cls c=some cd→SR x c→∃C,G.val x=some (.ref C)∧S.cls c=some C∧makesIn S.K C=true∧keepIn S.K (.ref C)=true
 A0:∀c C cd m x fd,S.cls c=some C→iM S.P.cls c=some cd→iM cd.2 m=some fd→SR x m→∃f,findIn S.K (.ref C) x=some (some (.ref f))∧typeIn S.K (.ref f)=some (.type "function")∧yG S gA f fd∧∀y,S.nm y≠some x
 bi:∀b,G.val (AY b)=some (AZ b)
section
variable{S:g8}{G:Top}{gA:Heap}{sc:hU}{H:Bool}
theorem tW(hp:trees.any (·.1)=false)(h:gL M A (spliced trees) (λvs s'=>Q ⟨vs,[]⟩ s') E s):gL M A (evalArgs f true trees []) Q E s:=by
 match trees,hp,h with
 |[],_,h=>
  refine gH (jg h (λvs s' h'=>?_) λU U x=>x);refine jt ?_;exact gH (gO (gH (gO (gO h'))))
 |(false,x)::r,_,h=>exact Calls.evalArgs_plain h
 |(true,x)::r,hp,_=>exact gU hp
theorem rq(T:At S G gA K d sc H A env κ ρ Pr o φ σ s)
 (hk:sc.names.lookup x=some .globalImplicit)(hd:(x==("__debug__":Str))=false)(hv:G.val x=some v)(h:Q v s):gL S.M A (eval (.Name x p) env) Q E s:=by
 refine Calls.Name_function_global (by rw[T.scope];exact T.kind) (by show env.scope.names.lookup x=_;rw[T.scope];exact hk) ?_ hd;have hg:s.heap.Ns env.globals G.mg:=by rw[T.glob];exact T.Jz
 have hb:s.heap.Ns env.builtins G.mb:=by rw[T.blt];exact T.RL
 unfold Top.val at hv
 induction e:G.mg x with
 |some w=>rw[e]at hv;obtain rfl:=gP hv;exact Calls.loadGlobal_global hg e h
 |none=>rw[e]at hv;exact Calls.loadGlobal_builtin hg e hb hv h
theorem TI(hk:sc.names.lookup x=some .globalImplicit)(hd:(x==("__debug__":Str))=false)(hv:G.val x=some v)(hu:∀φ,VR φ v u):ib S G gA sc H (.Name x p) (lO u):=
 λK d A env κ ρ Pr o φ σ s hK T=>λQ E k=>rq T hk hd hv (k φ _ s (Le.refl φ) T.inv (hu φ))
noncomputable def jZ(es:List Expr):Bool:=es.all noStar
theorem nh{es:List Expr}(h:jZ es=true)(pos:Pos)(env:Env):(backTo pos (starEach es env)).any (·.1)=false:=by
 induction es with
 |nil=>rfl
 |cons e r ih=>
  unfold jZ at h ih;rw[List.all_cons,n5]at h;rw[J7 h.1];show(false||(backTo pos (starEach r env)).any (·.1))=false;rw[ih h.2];rfl
theorem J'{id:String}{first:List gG}{es:List Expr}{f:VL}{g:List AV→gI→R AV}{pos:Pos}{K:KE}{d:Nat}{A:g6}{env:Env}{κ:gX}{ρ:Loc}{Pr:ik}{o:Obj}{φ:Pl}{σ:gI}{s:gJ}(T:At S G gA K d sc H A env κ ρ Pr o φ σ s)(hK:kO S gA K d)
 (hes:mu S G gA sc H es f)(hs:jZ es=true)
 (h:∀gE vs us σ' s',Le φ gE→Inv S gA gE ((env.locals,o)::Pr) σ' s'→il gE vs us→gK S gA A ((env.locals,o)::Pr) gE VR (call (.builtin id) (first++vs)) s' (g us σ')):
 gK S gA A ((env.locals,o)::Pr) φ VR (callWith pos (.builtin id) first (backTo pos (starEach es env)) []) s ((f K ρ κ σ).bind g):=
 gK.sX (W:=λvs Q E s'=>gL S.M A (call (.builtin id) (first++vs)) Q E s') (hes K d A env κ ρ Pr o φ σ s hK T pos)
  (λQ E q=>Calls.callWith_builtin (nh hs pos env) (tW (nh hs pos env) q)) λgE vs us σ' s' l I rv=>(h gE vs us σ' s' l I rv).yE
theorem TJ(T:At S G gA K d sc H A env κ ρ Pr o φ σ s)(hK:kO S gA K d)
 (hes:mu S G gA sc H es f)(hs:jZ es=true)
 (h:∀gE vs us σ' s',Le φ gE→Inv S gA gE ((env.locals,o)::Pr) σ' s'→il gE vs us→gK S gA A ((env.locals,o)::Pr) gE VR (call (.type T') vs) s' (g us σ')):
 gK S gA A ((env.locals,o)::Pr) φ VR (callWith pos (.type T') [] (backTo pos (starEach es env)) []) s ((f K ρ κ σ).bind g):=
 gK.sX (W:=λvs Q E s'=>gL S.M A (call (.type T') vs) Q E s') (hes K d A env κ ρ Pr o φ σ s hK T pos)
  (λQ E q=>PySem.callWith_type (nh hs pos env) (tW (nh hs pos env) q)) λgE vs us σ' s' l I rv=>(h gE vs us σ' s' l I rv).yE
theorem A2{A:g6}{Pr:ik}{φ:Pl}{s:gJ}{a:Addr}{xs:List gG}{r:R AV}(h:yz S gA A Pr φ (.call (.ref a) ⟨xs,[]⟩) s r):gK S gA A Pr φ VR (call (.ref a) xs) s r:=by
 induction r with
 |stuck w=>trivial
 |exc x σ'=>exact h.elim
 |ok v σ'=>exact λQ E k=>wpAny_call (h _ λgE x s' l I rv=>k gE x s' l I rv)
theorem je.and{α β:Type}{A:g6}{Pr:ik}{φ:Pl}{rel:Pl→α→β→Prop}{W:(α→gJ→Prop)→(gG→gJ→Prop)→Prop}{r:R β}{P:Prop}(hp:P)(h:je S gA A Pr φ rel W r):je S gA A Pr φ rel (λQ E=>P∧W Q E) r:=by
 induction r with
 |stuck w=>trivial
 |exc x σ'=>exact λhh Q E hE=>⟨hp,h hh Q E hE⟩
 |ok v σ'=>exact λQ E hQ=>⟨hp,h Q E hQ⟩
def xc(a:Addr)(h:Heap):Prop:=∃o fd,h.get? a=some o∧o.data= .func fd
theorem TK(x:xc a h):Looks M h (keeperOf (.ref a)) .frame:=by
 obtain⟨⟨c,d,dt,sl⟩,fd,h1,h2⟩:=x;simp only at h2;subst h2;exact(Looks.ld (part:=none) h1).andThen .now
theorem TL(hp:trees.any (·.1)=false)
 (h:gL M A (spliced trees) (λvs s₁=>xc a s₁.heap∧gL M A (call (.ref a) (first++vs)) Q E s₁) E s):gL M A (callWith pos (.ref a) first trees []) Q E s:=
 callWith_of (P:=xc a) (by rw[hp];rfl) (λh x=>⟨.frame,.inl rfl,TK x⟩) (tW hp h)
theorem FnAt.isFn{φ:Pl}{h:Heap}{a:Addr}{fd:FD}{κ:gX}(x:FnAt S φ h a fd κ):xc a h:=let⟨_,g9,_,h1,_⟩:=x;⟨_,g9,h1,rfl⟩
theorem DL{a:Addr}{first:List gG}{es:List Expr}{f:VL}{g:List AV→gI→R AV}{pos:Pos}{K:KE}{d:Nat}{A:g6}{env:Env}{κ:gX}{ρ:Loc}{Pr:ik}{o:Obj}{φ:Pl}{σ:gI}{s:gJ}(T:At S G gA K d sc H A env κ ρ Pr o φ σ s)(hK:kO S gA K d)
 (hes:mu S G gA sc H es f)(hs:jZ es=true)
 (h:∀gE vs us σ' s',Le φ gE→Inv S gA gE ((env.locals,o)::Pr) σ' s'→il gE vs us→(∃w,g us σ'= .stuck w)∨(xc a s'.heap∧gK S gA A ((env.locals,o)::Pr) gE VR (call (.ref a) (first++vs)) s' (g us σ'))):
 gK S gA A ((env.locals,o)::Pr) φ VR (callWith pos (.ref a) first (backTo pos (starEach es env)) []) s ((f K ρ κ σ).bind g):=
 gK.sX (W:=λvs Q E s'=>xc a s'.heap∧gL S.M A (call (.ref a) (first++vs)) Q E s') (hes K d A env κ ρ Pr o φ σ s hK T pos)
  (λQ E q=>TL (nh hs pos env) q) λgE vs us σ' s' l I rv=>by
   rcases h gE vs us σ' s' l I rv with⟨w,e⟩|⟨h1,h2⟩
   .rw[e];trivial
   .exact je.and h1 h2.yE
theorem vZ{x:Str}{p pos:Pos}{es:List Expr}{env:Env}:eval (.Call (.Name x p) es [] pos) env=(do callWith pos (←eval (.Name x p) env) [] (backTo pos (starEach es env)) []):=by
 rw[arm_eval_Call_Name'];rfl
theorem TM(F2:si S G gA)(hk:sc.names.lookup x=some .globalImplicit)(hd:(x==("__debug__":Str))=false)(hx:SR x k)(hH:H=true)(hes:mu S G gA sc H es f)(hs:jZ es=true):
 ib S G gA sc H (.Call (.Name x p) es [] pos) (qh k f):=
 λK d A env κ ρ Pr o φ σ s hK T=>by
  rw[vZ];refine gK.go λfd hfd=>?_;rw[T.KP]at hfd;refine gW (F2.fn k x fd hfd hx) λa h1 h2=>?_;refine gK.swap (DL (first:=[]) (pos:=pos) T hK hes hs λgE vs us σ' s' l I rv=>.inr ?_) λQ E q=>gH (rq T hk hd h1 q);have hfn:=h2.at (φ:=gE) I.keep;exact⟨hfn.isFn,A2 (hK A _ gE σ' s' fd [] us vs a T.fit.call (T.hnd hH) T.frs I hfn rv)⟩
theorem Ka{σ:gI}{v:AV}{q:Nat×gX}(h:tP σ v=some q):∃p,v= .ref p∧σ.get p=some (.fn q.1 q.2):=by
 induction v with
 |ref p=>
  refine⟨p,rfl,?_⟩;have h:(hG none CN (σ.get p):Option (Nat×gX))=some q:=h
  induction e:σ.get p with
  |none=>rw[e]at h;exact gV h
  |some ob=>
   rw[e]at h
   induction ob with
   |fn k κ=>obtain rfl:=gP h;rfl
   |_=>exact gV h
 |_=>exact gV h
theorem Inv.fnAt{A:g6}{Pr:ik}{φ:Pl}{σ:gI}{s:gJ}(I:Inv S gA φ Pr σ s){p:Ad}{a:Addr}{k:Nat}{κ:gX}(e:σ.get p=some (.fn k κ))(hp:φ p=some a):∃fd,i3 S.P.nested k=some fd∧FnAt S φ s.heap a fd κ:=by
 obtain⟨b,hb,od,g9,sl,c,fd,q1,q2,q3,q4,q5,q6,q7⟩:=I.obj p _ e;rw[hp]at hb;obtain rfl:=gP hb;exact⟨fd,q2,od,g9,sl,q1,q3,q6,q7⟩
theorem TN{x:Str}{p pos:Pos}{es:List Expr}{f:VE}{g:VL}(hf:ib S G gA sc H (.Name x p) f)(hH:H=true)(hes:mu S G gA sc H es g)(hs:jZ es=true):
 ib S G gA sc H (.Call (.Name x p) es [] pos) (pj f g):=
 λK d A env κ ρ Pr o φ σ s hK T=>by
  rw[vZ];refine gK.bind (hf K d A env κ ρ Pr o φ σ s hK T) λgE v u σ' s' l I r=>gK.go λq hq=>?_;refine gW (Ka hq) λpp TO he=>?_;subst TO
  cases r with
  | @ref a _ hp=>
  refine DL (first:=[]) (pos:=pos) (T.step l I) hK hes hs λiv vs us ju s'' l' I' rv=>?_
  induction hq':tP ju (.ref pp)with
  |none=>exact .inl ⟨32,rfl⟩
  |some q'=>
   refine gW (Ka hq') λp' e' he'=>?_
   cases e'
   refine gW (I'.fnAt (A:=A) he' (l' _ _ hp)) λfd h1 h2=>?_;refine .inr ⟨h2.isFn,?_⟩;have:(go (some q') 32 λq=>rT K q us ju)=K.call fd q'.2 us ju:=by
    show go (i3 K.P.nested q'.1) 32 _=_;rw[T.KP,h1];rfl
   rw[this];exact A2 (hK A _ iv ju s'' fd q'.2 us vs a T.fit.call (T.hnd hH) T.frs I' h2 rv)
theorem DM{M:Model}{A:g6}{E:gG→gJ→Prop}{s:gJ}{o:Expr}{name:Str}{apos pos:Pos}{env:Env}{ov f:gG}{first:List gG}{n:Nat}{trees:List (Bool×Sem gG)}{Q:gG→gJ→Prop}
 (TP:methodCallForm n trees []=true)(hline:(apos.endLine==pos.line)=true)(hget:∀(pl:Sem Bool)(Q:gG×List gG→gJ→Prop),Q (f,first) s→gL M A (getMethod ov name pl) Q E s)(h:gL M A (callWith pos f first trees []) Q E s):
 gL M A (methodCall o name apos pos env ov n trees []) Q E s:=by
 have e:methodCallPos true o env apos pos=pure pos:=by unfold methodCallPos;rw[hline];rfl
 unfold methodCall;rw[TP,e];exact gH (jt (hget _ _ (gH (gO h))))
theorem DN{es:List Expr}(hs:jZ es=true)(hn:es.length<30)(pos:Pos)(env:Env):methodCallForm (es.length+0) (backTo pos (starEach es env)) []=true:=by
 have h:=nh hs pos env;unfold methodCallForm;have h1:(backTo pos (starEach es env)).all (λx=>!x.1)=true:=by
  rw[kf];intro x hx;rw[List.any_eq_false]at h;have:=h x hx
  induction hb:x.1 with
  |false=>rfl
  |true=>exact absurd hb this
 rw[h1];simp;exact hn
theorem DO{σ:gI}{a:Ad}{xs:List AV}(h:listAt σ a=some xs):σ.get a=some (.list xs):=by
 have h:(hG none yh (σ.get a):Option (List AV))=some xs:=h
 induction e:σ.get a with
 |none=>rw[e]at h;exact gV h
 |some ob=>rw[e]at h;induction ob with
  |list ys=>obtain rfl:=gP h;rfl
  |_=>exact gV h
theorem DP{σ:gI}{a:Ad}{xs:List (Nat×AV×AV)}(h:sS σ a=some xs):σ.get a=some (.dict xs):=by
 have h:(hG none vR (σ.get a):Option (List (Nat×AV×AV)))=some xs:=h
 induction e:σ.get a with
 |none=>rw[e]at h;exact gV h
 |some ob=>rw[e]at h;induction ob with
  |dict ys=>obtain rfl:=gP h;rfl
  |_=>exact gV h
theorem TQ{σ:gI}{a:Ad}{xs:List Nat}(h:HE σ a=some xs):σ.get a=some (.set xs):=by
 have h:(hG none vS (σ.get a):Option (List Nat))=some xs:=h
 induction e:σ.get a with
 |none=>rw[e]at h;exact gV h
 |some ob=>rw[e]at h;induction ob with
  |set ys=>obtain rfl:=gP h;rfl
  |_=>exact gV h
end
theorem mv{x:Str}{n:Nat}(h:(hY.strOk x&&ie n (iT x.cps.toList)&&iS x.cps.size 1000000)=true):SR x n:=by
 rw[n5,n5]at h;exact⟨⟨h.1.1,mH h.1.2⟩,kT h.2⟩
theorem TR:SR "append" 85074526519864120391673425436428206180:=mv (by decide+kernel)
theorem TS:SR "insert" 85074851038379093219842656569430900852:=mv (by decide+kernel)
theorem TU:SR "pop" 9223864618296803440:=mv (by decide+kernel)
theorem TV:SR "get" 9223825035857231988:=mv (by decide+kernel)
theorem TX:SR "add" 9223798647576068196:=mv (by decide+kernel)
theorem TY:SR "join" 19343790791758156784468078:=mv (by decide+kernel)
theorem TZ:SR "__init__" 374161367731143740807411317305772578063481370050655:=mv (by decide+kernel)
theorem T6:SR "__len__" 178414043298313017334511566563802095827288159:=mv (by decide+kernel)
section
variable{S:g8}{G:Top}{gA:Heap}{sc:hU}{H:Bool}
theorem yH{b:Bool}{β:Type}{x y:β}(h:(gT none (some x) b:Option β)=some y):b=true∧x=y:=by
 induction b with
 |true=>obtain rfl:=gP h;exact⟨rfl,rfl⟩
 |false=>exact gV h
@[elab_as_elim] theorem jy{φ:Pl}{vs:List gG}{us:List AV}{P:List gG→List AV→Prop}(rv:il φ vs us)(n:P [] [])(c:∀{v u t w},VR φ v u→il φ t w→P (v::t) (u::w)):P vs us:=by
 induction rv with
 |nil=>exact n
 |cons h rv=>exact c h rv
theorem T7(FS:ly S gA)(F2:si S G gA){K:KE}{d:Nat}{A:g6}{env:Env}{κ:gX}{ρ:Loc}{Pr:ik}{o:Obj}{φ:Pl}{σ:gI}{s:gJ}(T:At S G gA K d sc H A env κ ρ Pr o φ σ s)(hK:kO S gA K d)(hH:H=true)
 {x:Str}{m:Nat}(hx:SR x m){es:List Expr}{f:VL}(hes:mu S G gA sc H es f)(hs:jZ es=true)(hn:es.length<30){e':Expr}{apos pos:Pos}(hline:(apos.endLine==pos.line)=true)
 {a:Addr}{p:Ad}{c k:Nat}{fs:BT AV}{cd:BT AV×List (Nat×FD)}{fd:FD}(hp:φ p=some a)(e:σ.get p=some (.inst c k fs))(hcd:iM S.P.cls c=some cd)(hfd:iM cd.2 m=some fd):
 gK S gA A ((env.locals,o)::Pr) φ VR (methodCall e' x apos pos env (.ref a) (es.length+0) (backTo pos (starEach es env)) []) s ((f K ρ κ σ).bind λvs σ=>tO K.call (.ref p) (.fn fd) vs σ):=by
 obtain⟨C,dd,q1,q2,q3,es',ep,q4,q5,q6,q7,q8⟩:=T.inv.inst e hp;refine m8 (F2.A0 c C cd m x fd q2 hcd hfd hx) λff k1 k2 k3 k4=>?_;have GG:=FS.cls c C q2;have hsh:shadowIn (some ⟨.type "dict",none,.dict es' ep,#[]⟩) x=some false:=by
  unfold shadowIn;dsimp only;rw[AN q5]
  induction hn:nsFind es' x with
  |none=>rfl
  |some y=>refine jn (q8.2 x y hn) λz hz=>?_;exact absurd hz (k4 z)
 refine(DL (first:=[.ref a]) (pos:=pos) T hK hes hs λgE vs us σ' s' l I rv=>.inr ?_).same λQ E q=>DM (DN hs hn pos env) hline (λpl Q k=>method_fn (T.inv.sf FS) (yC q3 q4) GG.ga GG.gk k1 k2 hsh k) q;have hfn:=k3.at (φ:=gE) I.keep;exact⟨hfn.isFn,A2 (hK A _ gE σ' s' fd [] (.ref p::us) (.ref a::vs) ff T.fit.call (T.hnd hH) T.frs I hfn (.cons (.ref (l _ _ hp)) rv))⟩
theorem xd{C:Prop}{b:Bool}{β:Type}{o:Option β}{x y:β}(h:(gT o (some x) b:Option β)=some y)(k1:b=true→y=x→C)(k2:o=some y→C):C:=by
 induction b with
 |true=>exact k1 rfl (gP h).symm
 |false=>exact k2 h
theorem T8{C:Prop}{P:jE}{φ:Pl}{σ:gI}{ov:gG}{u:AV}{m:Nat}{r:mq}(ho:VR φ ov u)(hr:sR P u m σ=some r)(k1:∀y n t,SR y n→ov= .str y t→u= .str n→m=19343790791758156784468078→r= .join n→C)
 (k2:∀a p ob,φ p=some a→ov= .ref a→u= .ref p→σ.get p=some ob→vQ P p ob m=some r→C):C:=by
 induction ho with
 | @str y n t hy=>exact xd hr (λhb e=>k1 y n t hy rfl rfl (mH hb) e) gV
 | @ref a p hp=>
  have hr:(hG none (λo=>vQ P p o m) (σ.get p):Option mq)=some r:=hr
  induction e:σ.get p with
  |none=>rw[e]at hr;exact gV hr
  |some ob=>rw[e]at hr;exact k2 a p ob hp rfl rfl e hr
 |_=>exact gV hr
theorem T9(FS:ly S gA)(F2:si S G gA){K:KE}{d:Nat}{A:g6}{env:Env}{κ:gX}{ρ:Loc}{Pr:ik}{o:Obj}{φ:Pl}{σ:gI}{s:gJ}(T:At S G gA K d sc H A env κ ρ Pr o φ σ s)(hK:kO S gA K d)(hH:H=true)
 {x:Str}{m:Nat}(hx:SR x m){es:List Expr}{f:VL}(hes:mu S G gA sc H es f)(hs:jZ es=true)(hn:es.length<30){e:Expr}{apos pos:Pos}(hline:(apos.endLine==pos.line)=true)
 {ov:gG}{u:AV}(ho:VR φ ov u){r:mq}(hr:sR S.P u m σ=some r):
 gK S gA A ((env.locals,o)::Pr) φ VR (methodCall e x apos pos env ov (es.length+0) (backTo pos (starEach es env)) []) s ((f K ρ κ σ).bind λvs σ=>tO K.call u r vs σ):=by
 have hu:=T.fit.units;refine QS (λZ=>∀(id T':String)(y:Str)(yI:gG)(u':AV)(r':mq)(hy:SR y m)(pa:PlainAttrs T')(slot:Slot T' y id)(ht:typeOf (.builtin id)=pure (.type "method_descriptor"))(e1:ov=yI)(e2:u=u')(e3:r=r')(hT:s.TypeIs yI T')(hd:∀a,yI= .ref a→∃o,s.heap.get? a=some o∧o.dict=none)
  (h:∀gE vs us σ' s',Le φ gE→Inv S gA gE ((env.locals,o)::Pr) σ' s'→il gE vs us→gK S gA A ((env.locals,o)::Pr) gE VR (call (.builtin id) (yI::vs)) s' (tO K.call u' r' us σ')),Z)
  (λZ=>∀a p c k fs cd fd,φ p=some a→σ.get p=some (.inst c k fs)→iM S.P.cls c=some cd→iM cd.2 m=some fd→ov= .ref a→u= .ref p→r= .fn fd→Z)
  (λid T' y yI u' r' hy pa slot ht e1 e2 e3 hT hd h=>by
   cases hx.inj hy
   subst e1 e2 e3;exact(J' (pos:=pos) T hK hes hs h).same λQ E q=>DM (DN hs hn pos env) hline (λpl Q k=>getMethod_builtin hT pa slot ht hd k) q)
  (λa p c k fs cd fd hp e hcd hfd e1 e2 e3=>by subst e1 e2 e3;exact T7 FS F2 T hK hH hx hes hs hn hline hp e hcd hfd) λZ go fn=>?_
 refine T8 ho hr (λy n t hy e1 e2 hb e3=>go "str.join" "str" _ _ _ _ (hb▸TY) F.plainAttrs_str F.slot_str_join F.type_str_join e1 e2 e3 (typeIs_str s y t) (λa e=>nomatch e) λgE vs us σ' s' l I rv=>jy rv trivial λh rv=>jy rv (S0 I hy h) λU U=>trivial) λa p ob hp e1 e2 e hr=>?_
 induction ob with
 |list xs=>
  refine jA (T.inv.list e hp) λvs n h1 U=>?_;have GO:=λid y hy slot ht r' e3 h=>go id "list" y (.ref a) (.ref p) r' hy F.plainAttrs_list slot ht e1 e2 e3 ⟨_,h1,rfl⟩ (λb e=>gG.ref.inj e▸⟨_,h1,rfl⟩) h;exact xd hr (λb e3=>GO "list.append" _ (mH b▸TR) F.slot_list_append F.type_list_append _ e3 λgE vs us σ' s' l I rv=>gK.go λxs' hxs=>jy rv trivial λh rv=>jy rv (JU I (DO hxs) (l _ _ hp) h) λU U=>trivial) λhr=>
   xd hr (λb e3=>GO "list.pop" _ (mH b▸TU) F.slot_list_pop F.type_list_pop _ e3 λgE vs us σ' s' l I rv=>gK.go λxs' hxs=>jy rv (Sp I (DO hxs) (l _ _ hp)) λU U=>trivial) λhr=>
    xd hr (λb e3=>GO "list.insert" _ (mH b▸TS) F.slot_list_insert F.type_list_insert _ e3 λgE vs us σ' s' l I rv=>gK.go λxs' hxs=>jy rv trivial λh rv=>jy rv trivial λh' rv=>jy rv (Sq I (DO hxs) (l _ _ hp) h h') λU U=>trivial) gV
 |dict es'=>
  have D:=T.inv.dict e hp;exact jA D.obj λjq ep h1 U=>xd hr (λb e3=>go "dict.get" "dict" _ _ _ _ (mH b▸TV) F.plainAttrs_dict F.slot_dict_get F.type_dict_get e1 e2 e3 D.typeIs (λb e=>gG.ref.inj e▸⟨_,h1,rfl⟩) λgE vs us σ' s' l I rv=>gK.go λxs' hxs=>
   have he:=DP hxs
   jy rv trivial λh rv=>jy rv (Sw hu I he (l _ _ hp) h) λh' rv=>jy rv (Sv hu I he (l _ _ hp) h h') λU U=>trivial) gV
 |set cs=>
  refine jA (T.inv.vS e hp) λTT n hS U=>xd hr (λb e3=>go "set.add" "set" _ _ _ _ (mH b▸TX) F.plainAttrs_set F.slot_set_add F.type_set_add e1 e2 e3 hS.typeIs hS.noDict λgE vs us σ' s' l I rv=>gK.go λxs' hxs=>?_) gV;have he:=TQ hxs;refine jy rv trivial λh rv=>?_
  induction h with
  |str t hy=>
   refine jy rv ?_ λU U=>trivial;show gK S gA A _ gE VR _ s' (gT (.stuck 20) _ (iS (iC xs') 1000))
   induction hle:iS (iC xs') 1000 with
   |false=>trivial
   |true=>exact Sy I he (l _ _ hp) hy (by rw[jo]at hle;exact kT hle)
  |_=>exact jy rv trivial λU U=>trivial
 |inst c k fs=>
  have hr:(hG none (λcd=>hG none (λfd=>some (mq.fn fd)) (iM cd.2 m)) (iM S.P.cls c):Option mq)=some r:=hr
  induction hcd:iM S.P.cls c with
  |none=>rw[hcd]at hr;exact gV hr
  |some cd=>
   rw[hcd]at hr;have hr:(hG none (λfd=>some (mq.fn fd)) (iM cd.2 m):Option mq)=some r:=hr
   induction hfd:iM cd.2 m with
   |none=>rw[hfd]at hr;exact gV hr
   |some fd=>rw[hfd]at hr;exact fn a p c k fs cd fd hp e hcd hfd e1 e2 (gP hr).symm
 |_=>exact gV hr
theorem Ua(FS:ly S gA)(F2:si S G gA){e:Expr}{x:Str}{apos pos:Pos}{es:List Expr}{f:VE}{g:VL}{m:Nat}(he:ib S G gA sc H e f)(hb:vY e=true)(hx:SR x m)(hH:H=true)(hes:mu S G gA sc H es g)(hs:jZ es=true)(hn:es.length<30)(hline:(apos.endLine==pos.line)=true):
 ib S G gA sc H (.Call (.Attribute e x apos) es [] pos) (ql f m g):=
 λK d A env κ ρ Pr o φ σ s hK T=>by
  rw[arm_eval_Call,DG hb];refine gK.bind (he K d A env κ ρ Pr o φ σ s hK T) λgE y v σ' s' l I r=>gK.standAt (gK.go λrr hr=>?_);rw[T.KP]at hr;exact T9 FS F2 (T.step l I) hK hH hx hes hs hn hline r hr
end
section
variable{S:g8}{G:Top}{gA:Heap}{sc:hU}{H:Bool}
theorem gK.Kb{A A1:g6}{Pr:ik}{φ:Pl}{s s1:gJ}{α β γ δ:Type}{rel:Pl→α→β→Prop}{rel':Pl→γ→δ→Prop}{t:Sem α}{t':Sem γ}{r:R β}{g:β→gI→R δ}{W:α→(γ→gJ→Prop)→(gG→gJ→Prop)→gJ→Prop}(h:gK S gA A1 Pr φ rel t s1 r)(ha:A.handled=none→A1.handled=none)
 (rule:∀Q E,gL S.M A1 t (λx s'=>W x Q E s') E s1→gL S.M A t' Q E s)
 (k:∀gE x v σ' s',Le φ gE→Inv S gA gE Pr σ' s'→rel gE x v→je S gA A Pr gE rel' (λQ E=>W x Q E s') (g v σ')):gK S gA A Pr φ rel' t' s (r.bind g):=by
 induction r with
 |stuck w=>trivial
 |exc x σ'=>exact λhh Q E hE=>rule _ _ (h (ha hh) _ _ hE)
 |ok v σ'=>
  show gK S gA A Pr φ rel' t' s (g v σ')
  induction e:g v σ' with
  |stuck w=>trivial
  |exc x ju=>
   refine λhh Q E hE=>rule _ _ (h _ _ λgE x s' l I r=>?_);have:=k gE x v σ' s' l I r;rw[e]at this;exact this hh _ _ λiv s1 a h' tk l2 I2 n=>hE iv s1 a h' tk (l.trans l2) I2 n
  |ok u ju=>
   refine λQ E hQ=>rule _ _ (h _ _ λgE x s' l I r=>?_);have:=k gE x v σ' s' l I r;rw[e]at this;exact this _ _ λiv x s'' l2 I2 r2=>hQ iv x s'' (l.trans l2) I2 r2
theorem gK.le{A:g6}{Pr:ik}{φ gE:Pl}{s:gJ}{α β:Type}{rel:Pl→α→β→Prop}{t:Sem α}{r:R β}(l:Le φ gE)(h:gK S gA A Pr gE rel t s r):gK S gA A Pr φ rel t s r:=by
 induction r with
 |stuck w=>trivial
 |exc x σ'=>exact λhh Q E hE=>h hh Q E λiv s1 a h' tk l'=>hE iv s1 a h' tk (l.trans l')
 |ok v σ'=>exact λQ E hQ=>h Q E λiv x s' l'=>hQ iv x s' (l.trans l')
set_option tactic.hygienic true in
theorem Ub{A:g6}{E:gG→gJ→Prop}{s:gJ}{x f C:Addr}{ox:Obj}{od:Option Obj}{K:Frag}{Q:gG→gJ→Prop}(X:K.In s.heap)(I:InstAt s.heap x ox C od)(hs:findIn K (.ref C) "__len__"=some (some (.ref f)))(hf:typeIn K (.ref f)=some (.type "function"))
 (h:gL S.M A.in1 (call (.ref f) [.ref x]) (LenBack Q) E s):gL S.M A (call (.builtin "len") [.ref x]) Q E s:=by
 refine Calls.call_function_entry kind_len plain_len entry_len (args_len1 _) ?_;refine gH (m:=oneArg "len" _) (gO ?_);refine gH (m:=callSpecial? (.ref x) (gM "__len__")) (special_fn X I hs hf (jg h (λr s' hr=>?_) λU U y=>y))
 induction r<;>first|exact hr.elim|skip
 rename_i n u
 obtain⟨⟨h0,h1⟩,hq⟩:=hr;refine gH (jt (gO ?_));refine gH (wpAny_letGo ?_);refine jx (decide_eq_false (by lia)) ?_;refine jx (decide_eq_false (by lia)) ?_;exact gH (wpAny_mkInt (gO ⟨_,rfl,hq⟩))
theorem r9.in1{A:g6}{d:Nat}(h:Fits A d):r9 A.in1 d:=⟨by have:=h.1;show A.depth+_+_<_;lia,by have:=h.2;show A.units+1+_+_<_;lia⟩
theorem Uc(FS:ly S gA)(F2:si S G gA){K:KE}{d:Nat}{A:g6}{env:Env}{κ:gX}{ρ:Loc}{Pr:ik}{o:Obj}{φ:Pl}{σ:gI}{s:gJ}(T:At S G gA K d sc H A env κ ρ Pr o φ σ s)(hK:kO S gA K d)(hH:H=true){x:gG}{v:AV}(hx:VR φ x v):
 gK S gA A ((env.locals,o)::Pr) φ VR (call (.builtin "len") [x]) s (w1 K v σ):=by
 unfold w1
 induction hi:ph v σ with
 |none=>rw[T.KP];exact SC T.inv hx
 |some q=>
  obtain⟨c,k,fs⟩:=q;refine gW (Dy hi) λp Ud he=>?_;subst Ud;refine gK.go λcd hcd=>gK.go λfd hfd=>?_;rw[T.KP]at hcd
  cases hx with
  | @ref a _ hp=>
  obtain⟨C,dd,q1,q2,q3,es',ep,q4,q5,q6,q7,q8⟩:=T.inv.inst he hp;refine m8 (F2.A0 c C cd _ "__len__" fd q2 hcd hfd T6) λff k1 k2 k3 k4=>?_;have hfn:=k3.at (φ:=φ) T.inv.keep;have hc:=hK A.in1 _ φ σ s fd [] [.ref p] [.ref a] ff (r9.in1 T.fit) (T.hnd hH) T.frs T.inv hfn (.cons (.ref hp) .nil);have h:=A2 hc;refine gK.Kb (A1:=A.in1) (W:=λr Q E s'=>LenBack Q r s') h (λz=>z) (λQ E q=>Ub (T.inv.sf FS) (yC q3 q4) k1 k2 q) λgE y w σ' s' l I r=>?_;unfold HH;refine je.go λi hi=>?_
  induction r with
  |int j t=>
   have hi:=gP hi;subst hi
   induction j with
   |negSucc n=>trivial
   |ofNat n=>
    show je S gA A _ gE VR _ (gT (.stuck 33) (.ok (.int (.ofNat n)) σ') (iS n 1000000))
    induction hb:iS n 1000000 with
    |false=>trivial
    |true=>
     have hb:=kT hb;refine λQ E kk=>⟨⟨Int.natCast_nonneg n,?_⟩,kk gE _ _ (Le.refl gE) (I.tok _ _) (.int _ _)⟩;show((n:Nat):Int)<2^63;lia
  |_=>exact gV hi
theorem A3{φ:Pl}{v:gG}{u:AV}{γ δ:Type}{A:g6}{Pr:ik}{rel:Pl→γ→δ→Prop}{t:gG→Sem γ}{s:gJ}{g:Int→R δ}{w:Nat}(h:VR φ v u)(k:∀i tt,gK S gA A Pr φ rel (t (.int i tt)) s (g i)):gK S gA A Pr φ rel (t v) s (go (jV u) w g):=by
 induction h with
 |int i tt=>exact k i tt
 |_=>trivial
theorem Ue(FS:ly S gA)(F2:si S G gA){x:Str}{p pos:Pos}{es:List Expr}{f:VL}{b:BI}(hk:sc.names.lookup x=some .globalImplicit)(hd:(x==("__debug__":Str))=false)(hx:x=AY b)(hH:H=true)(hes:mu S G gA sc H es f)(hs:jZ es=true):
 ib S G gA sc H (.Call (.Name x p) es [] pos) (qj b f):=
 λK d A env κ ρ Pr o φ σ s hK T=>by
  rw[vZ];have hv:=F2.bi b;rw[←hx]at hv;have A4:∀id,AZ b= .builtin id→(∀gE vs us σ' s',Le φ gE→Inv S gA gE ((env.locals,o)::Pr) σ' s'→il gE vs us→gK S gA A ((env.locals,o)::Pr) gE VR (call (.builtin id) ([]++vs)) s' (me K b us σ'))→gK S gA A ((env.locals,o)::Pr) φ VR (do callWith pos (←eval (.Name x p) env) [] (backTo pos (starEach es env)) []) s ((f K ρ κ σ).bind λvs σ=>me K b vs σ):=λid e h=>
   gK.swap (J' (first:=[]) (pos:=pos) T hK hes hs h) λQ E q=>gH (rq T hk hd (hv.trans (congrArg some e)) q)
  have DQ:∀id,AZ b= .type id→(∀gE vs us σ' s',Le φ gE→Inv S gA gE ((env.locals,o)::Pr) σ' s'→il gE vs us→gK S gA A ((env.locals,o)::Pr) gE VR (call (.type id) vs) s' (me K b us σ'))→gK S gA A ((env.locals,o)::Pr) φ VR (do callWith pos (←eval (.Name x p) env) [] (backTo pos (starEach es env)) []) s ((f K ρ κ σ).bind λvs σ=>me K b vs σ):=λid e h=>
   gK.swap (TJ (pos:=pos) T hK hes hs h) λQ E q=>gH (rq T hk hd (hv.trans (congrArg some e)) q)
  induction b with
  |len=>exact A4 "len" rfl λgE vs us σ' s' l I rv=>jy rv trivial λh rv=>jy rv (Uc FS F2 (T.step l I) hK hH h) λU U=>trivial
  |all=>exact A4 "all" rfl λgE vs us σ' s' l I rv=>jy rv trivial λh rv=>jy rv (SX (T.hnd hH) I h) λU rv=>jy rv trivial λU U=>trivial
  |tuple=>exact DQ "tuple" rfl λgE vs us σ' s' l I rv=>jy rv trivial λh rv=>jy rv (SH I h) λU rv=>jy rv trivial λU U=>trivial
  |list=>exact DQ "list" rfl λgE vs us σ' s' l I rv=>jy rv trivial λh rv=>jy rv (SK I h) λU rv=>jy rv trivial λU U=>trivial
  |min=>exact A4 "min" rfl λgE vs us σ' s' l I rv=>jy rv trivial λh rv=>jy rv trivial λh' rv=>jy rv (A3 (t:=λv=>call (.builtin "min") [v,_]) h λi t=>A3 (t:=λv=>call (.builtin "min") [.int i t,v]) h' λj t'=>SQ (T.hnd hH) I) λU U=>trivial
  |max=>exact A4 "max" rfl λgE vs us σ' s' l I rv=>jy rv trivial λh rv=>jy rv trivial λh' rv=>jy rv (A3 (t:=λv=>call (.builtin "max") [v,_]) h λi t=>A3 (t:=λv=>call (.builtin "max") [.int i t,v]) h' λj t'=>SU (T.hnd hH) I) λU U=>trivial
  |set=>exact DQ "set" rfl λgE vs us σ' s' l I rv=>jy rv (SO I) λU rv=>jy rv trivial λU rv=>jy rv trivial λU U=>trivial
theorem Ug(C:Addr)(rest:List gG):(Code.builtin "type.__call__" ⟨.ref C::rest,[]⟩).weight=1:=by
 have h1:(Code.builtin "type.__call__" ⟨.ref C::rest,[]⟩).frames=0:=by rfl
 have h2:(Code.builtin "type.__call__" ⟨.ref C::rest,[]⟩).isCreation=true:=by rfl
 have h3:(Code.builtin "type.__call__" ⟨.ref C::rest,[]⟩).isGuard=false:=by
  show guardIds.contains "type.__call__"=false;decide+kernel
 have h4:(Code.builtin "type.__call__" ⟨.ref C::rest,[]⟩).isCaller=false:=by rfl
 unfold Code.weight;rw[h1,h2,h3,h4];rfl
theorem r9.make{A:g6}{d:Nat}(h:Fits A d)(C:Addr)(rest:List gG):r9 (A.under (.builtin "type.__call__" ⟨.ref C::rest,[]⟩)) d:=by
 refine⟨?_,?_⟩
 .have:=h.1;show A.depth+Code.weight _+_+_<_;rw[Ug];lia
 .have:=h.2;show A.units+Code.cUnits _+_+_<_;have e:(Code.builtin "type.__call__" ⟨.ref C::rest,[]⟩).cUnits=1:=by rfl
  rw[e];lia
theorem Uh(A:g6)(C:Addr)(rest:List gG):(A.under (.builtin "type.__call__" ⟨.ref C::rest,[]⟩)).frames=A.frames:=by
 show pushEnvs (Code.envs (Code.builtin "type.__call__" ⟨.ref C::rest,[]⟩)) A.frames=A.frames;have:(Code.builtin "type.__call__" ⟨.ref C::rest,[]⟩).envs=[]:=by rfl
 rw[this];rfl
theorem Ui(A:g6)(C:Addr)(rest:List gG):(A.under (.builtin "type.__call__" ⟨.ref C::rest,[]⟩)).guards=A.guards:=by
 show pushGuards (Code.guards (Code.builtin "type.__call__" ⟨.ref C::rest,[]⟩)) A.guards=A.guards;have h3:(Code.builtin "type.__call__" ⟨.ref C::rest,[]⟩).isGuard=false:=by
  show guardIds.contains "type.__call__"=false;decide+kernel
 have:(Code.builtin "type.__call__" ⟨.ref C::rest,[]⟩).guards=[]:=by unfold Code.guards;rw[h3];rfl
 rw[this];rfl
theorem yJ(h:Heap){a:Addr}(ha:h.objs.size≤a):h.get? a=none:=by
 induction e:h.get? a with
 |none=>rfl
 |some o=>exact absurd (mF e) (Nat.not_lt.mpr ha)
theorem Inv.beyond{Pr:ik}{φ:Pl}{σ:gI}{s:gJ}(I:Inv S gA φ Pr σ s){a:Addr}(ha:s.heap.objs.size≤a):(∀p,φ p≠some a)∧∀x∈Pr,x.1≠a:=by
 refine⟨λp e=>?_,λx hx e=>?_⟩
 .refine jn (I.low p a e) λo z=>?_;rw[yJ _ ha]at z;exact gV z
 .refine iK (I.pr x hx) λUj U=>?_;refine gW Uj λo q U=>?_;rw[e,yJ _ ha]at q;exact gV q
theorem Uk(n:Str):nsFind #[] n=none:=by simp[nsFind,findBy]
theorem Ul(FS:ly S gA)(F2:si S G gA){K:KE}{d:Nat}{A:g6}{env:Env}{κ:gX}{ρ:Loc}{Pr:ik}{o:Obj}{φ:Pl}{σ:gI}{s:gJ}(T:At S G gA K d sc H A env κ ρ Pr o φ σ s)(hK:kO S gA K d)(hH:H=true)
 {x:Str}{c:Nat}{C:Addr}(hx:SR x c)(hv:G.val x=some (.ref C)){cd:BT AV×List (Nat×FD)}(hcd:iM S.P.cls c=some cd){fd:FD}(hfd:iM cd.2 374161367731143740807411317305772578063481370050655=some fd){vs:List gG}{us:List AV}(rv:il φ vs us):
 gK S gA A ((env.locals,o)::Pr) φ VR (call (.ref C) vs) s ((K.call fd [] (.ref σ.n::us) ((σ.push (.inst c 0 .nil)).push .aux)).bind λv σ'=>gT (.stuck 31) (.ok (.ref σ.n) σ') (isNone v)):=by
 refine m8 (F2.cls c x cd hcd hx) λC' h1 h2 h3 h4=>?_;rw[hv]at h1;cases h1;refine m8 (F2.A0 c C cd _ "__init__" fd h2 hcd hfd TZ) λfI k1 k2 k3 k4=>?_;obtain⟨h,g,dr,t,os⟩:=s;have I:=T.inv;have b1:=I.beyond (a:=h.objs.size) (i8 _);have b2:=I.beyond (a:=h.objs.size+1) (nF _);have e1:((h.push emptyDict).push (instObj C h.objs.size)).get? h.objs.size=some emptyDict:=ja _ (j7 _ rfl);have e2:((h.push emptyDict).push (instObj C h.objs.size)).get? (h.objs.size+1)=some (instObj C h.objs.size):=by
  have:=j7 (h.push emptyDict) (o:=instObj C h.objs.size) rfl;rw[Heap.size_push]at this;exact this
 have I2:=I.RH (ob:=.inst c 0 .nil) (a:=h.objs.size+1) (d:=h.objs.size) (h':=(h.push emptyDict).push (instObj C h.objs.size)) (tk:=t) (dr:=dr) (λb o e=>ja _ (ja _ e)) (yJ _ (nF _)) (yJ _ (i8 _)) (Nat.ne_of_lt (Ar _)) ⟨_,e2⟩ ⟨_,e1⟩ b2.1 b1.1 (λx hx=>⟨b2.2 x hx,b1.2 x hx⟩)
  ⟨C,h.objs.size,Pl.mr _ _ _,h2,e2,#[],0,e1,(λe he=>by simp at he),i8 _,kg _,by
   have e:nsFind #[]=λU=>none:=funext Uk;rw[e];exact ot.nil S _⟩
 have le:Le φ ((φ.add σ.n (h.objs.size+1)).add σ.n.succ h.objs.size):=by
  intro p b hb;have n1:p≠σ.n:=λe=>by rw[e,I.free]at hb;cases hb
  have n2:p≠σ.n.succ:=λe=>by
   have:=(I.dom p).mp (by rw[hb];rfl);rw[e,Ad.pF]at this;lia
  rw[Pl.nQ _ _ n2,Pl.nQ _ _ n1];exact hb
 have hself:VR ((φ.add σ.n (h.objs.size+1)).add σ.n.succ h.objs.size) (.ref (h.objs.size+1)) (.ref σ.n):=.ref (by rw[Pl.nQ _ _ (λe=>Ad.oR σ.n e.symm),Pl.mr]);have hfn:=k3.at (φ:=(φ.add σ.n (h.objs.size+1)).add σ.n.succ h.objs.size) I2.keep;have hc:=hK (A.under (.builtin "type.__call__" ⟨.ref C::vs,[]⟩)) _ _ _ _ fd [] (.ref σ.n::us) (.ref (h.objs.size+1)::vs) fI (r9.make T.fit C vs) (T.hnd hH) (by obtain⟨z0,l,z1,z2⟩:=T.frs;exact⟨(Ui A C vs).trans z0,l,(Uh A C vs).trans z1,z2⟩) I2 hfn (.cons hself (rv.mono le));have X:=I.sf FS
 induction hr:K.call fd [] (.ref σ.n::us) ((σ.push (.inst c 0 .nil)).push .aux)with
 |stuck w=>trivial
 |exc e σ'=>rw[hr]at hc;exact hc.elim
 |ok v σ'=>
  rw[hr]at hc
  induction v with
  |none=>
   refine λQ E kk=>wpAny_call (make_core (makes_of X h3) (looks_findIn X k1) (λself=>bind_fn X self k2) (.inl rfl) (hc _ λgE y s' l I' r=>?_))
   cases r
   exact⟨rfl,kk gE _ s' (le.trans l) I' (hself.mono l)⟩
  |_=>trivial
theorem Um(FS:ly S gA)(F2:si S G gA){x:Str}{p pos:Pos}{es:List Expr}{f:VL}{c:Nat}(hk:sc.names.lookup x=some .globalImplicit)(hd:(x==("__debug__":Str))=false)(hx:SR x c)(hH:H=true)(hes:mu S G gA sc H es f)(hs:jZ es=true):
 ib S G gA sc H (.Call (.Name x p) es [] pos) (qi c f):=
 λK d A env κ ρ Pr o φ σ s hK T=>by
  rw[vZ];refine gK.go λcd hcd=>gK.go λfd hfd=>?_;rw[T.KP]at hcd;refine m8 (F2.cls c x cd hcd hx) λC h1 h2 h3 h4=>?_;refine gK.sX (W:=λvs Q E s'=>S.K.In s'.heap∧gL S.M A (call (.ref C) vs) Q E s') (hes K d A env κ ρ Pr o φ σ s hK T pos) (λQ E q=>?_) λgE vs us σ' s' l I rv=>?_
  .refine gH (rq T hk hd h1 ?_);exact callWith_of (P:=S.K.In) (by rw[nh hs pos env];rfl) (keeps_K h4) (tW (nh hs pos env) q)
  .exact je.and (I.sf FS) (Ul FS F2 (T.step l I) hK hH hx h1 hcd hfd rv).yE
end
theorem Un(hy:y.length≤1000000)(h:∀t' k,Q (.str (y++(" -> <empty>":Str)) t') {s with toks:=k}):
 gL (iJ prog w) A (binaryOp .Mod (.str "%s -> <empty>" t) (.str y u)) Q E s:=by
 refine KPc.mod_str (T:=λz=>z++(" -> <empty>":Str)) (X':=⟨#[37,115,32,45,62,32,60,101,109,112,116,121,62]⟩) (by decide+kernel) hy ?_ h
 kpc_run_s
theorem Uo:SR "%s -> <empty>" 15177368490116720127856851715738124369746665464782209044878335172050783817703620670:=mv (by decide+kernel)
theorem Up:SR " -> <empty>" 3450925829576424892769236666160897058116529880497441658311909669077054:=mv (by decide+kernel)
section
variable{S:g8}{G:Top}{gA:Heap}{sc:hU}{H:Bool}
theorem Uq(I:Inv S gA φ Pr σ s)(hx:VR φ x u)(hy:VR φ y v)(hu:A.units+300<i'):gK S gA A Pr φ VR (binaryOp .Mod x y) s (CD u v σ):=by
 induction hx with
 |int i t=>
  induction hy with
  |int j t'=>
   show gK S gA A Pr φ VR _ s (gT (.stuck 4) (.ok (.int (Int.emod i j)) σ) (kz 0 j))
   induction h:kz 0 j with
   |false=>trivial
   |true=>
    rw[nP]at h;exact RW I (of_decide_eq_true h)
  |_=>trivial
 | @str f n t hs=>
  induction hy with
  | @str y m t' hs'=>
   show gK S gA A Pr φ VR _ s (gT (.stuck 4) (go (lk (app (dec m) (dec 3450925829576424892769236666160897058116529880497441658311909669077054))) 4 λv=>.ok v σ) (ie n 15177368490116720127856851715738124369746665464782209044878335172050783817703620670))
   induction h:ie n 15177368490116720127856851715738124369746665464782209044878335172050783817703620670 with
   |false=>trivial
   |true=>
    have h:=mH h;subst h;have:=hs.inj Uo;subst this;refine gK.go λw hw=>?_;obtain⟨hl,rfl⟩:=xa hw;exact yA I (Dw hs' Up hl) λQ E k=>Un hs'.2 k
  |_=>trivial
 |_=>trivial
theorem Ur(h:isLet c=true):c<123:=by
 have h:(gT (gT false (iS c 90) (iS 65 c)) (iS c 122) (iS 97 c):Bool)=true:=h
 induction h1:iS 97 c with
 |true=>rw[h1]at h;have:=kT h;lia
 |false=>
  rw[h1]at h;have h:(gT false (iS c 90) (iS 65 c):Bool)=true:=h
  induction h2:iS 65 c with
  |true=>rw[h2]at h;have:=kT h;lia
  |false=>rw[h2]at h;injection h
theorem Us:(List.range 123).all (λc=>!isLet c||(Builtin.Str.reprChar 39 c==[c]&&c !=39))=true:=by decide+kernel
theorem Kc(h:isLet c=true):Builtin.Str.reprChar 39 c=[c]∧c≠39:=by
 have:=kf.mp Us c (List.mem_range.mpr (Ur h));rw[h]at this;simp only[Bool.not_true,Bool.false_or,n5,beq_iff_eq,bne_iff_ne]at this;exact this
theorem Ut(l:List Nat):Ax l=l.all isLet:=by
 induction l with
 |nil=>rfl
 |cons c l ih=>
  show(gT false (Ax l) (isLet c):Bool)=_;rw[ih,List.all_cons]
  cases isLet c<;>rfl
theorem Ke:∀(l:List Nat)(acc:Array Nat),l.all isLet=true→l.foldl (λout c=>out++(Builtin.Str.reprChar 39 c).toArray) acc=acc++l.toArray
 |[],acc,_=>by simp
 |c::l,acc,h=>by
  rw[List.all_cons,n5]at h;rw[List.foldl_cons,(Kc h.1).1,Ke l _ h.2];apply Array.ext';simp
theorem Kf(h:x.cps.toList.all isLet=true):(reprText x).cps.toList=39::(x.cps.toList++[39]):=by
 have hq:reprQuote x=39:=by
  unfold reprQuote;have:x.cps.contains 39=false:=by
   rw[Bool.eq_false_iff];intro hc;rw[Array.contains_iff_mem]at hc;exact(Kc (kf.mp h _ (Array.mem_toList_iff.mpr hc))).2 rfl
  rw[this];rfl
 unfold reprText;rw[hq,←Array.foldl_toList,Ke _ _ h];simp
theorem Kg(sep:List Nat)(t:List Nat):∀l:List (List Nat),lp sep (t::l)=t++l.flatMap λx=>sep++x
 |[]=>by show t=_;simp
 |x::l=>by
  rw[AR,Kg sep x l];simp
theorem Kh:∀(ts:List Str)(k:Nat)(acc:Str),(textFrom (k+1) acc ts).cps.toList=acc.cps.toList++(ts.map (·.cps.toList)).flatMap λx=>[44,32]++x
 |[],k,acc=>by simp[textFrom]
 |t::ts,k,acc=>by
  rw[textFrom,Kh ts (k+1)];rw[if_pos (Nat.succ_pos k)];have e:(gM ", ").cps.toList=[44,32]:=by decide+kernel
  show((acc.cps++(gM ", ").cps)++t.cps).toList++_=_;rw[vH,vH,e];simp
theorem Uu:∀ts:List Str,(listText ts).cps.toList=91::(lp [44,32] (ts.map (·.cps.toList))++[93])
 |[]=>by decide+kernel
 |t::ts=>by
  have e1:(gM "[").cps.toList=[91]:=by decide+kernel
  have e2:(gM "]").cps.toList=[93]:=by decide+kernel
  have e3:(gM "").cps.toList=[]:=by decide+kernel
  unfold listText;rw[textFrom];show((textFrom (0+1) _ ts).cps++(gM "]").cps).toList=_;rw[vH,Kh,e2,lI,Kg];rw[if_neg (jQ 0)];show((((gM "[").cps++(gM "").cps)++t.cps).toList++_)++_=_;rw[vH,vH,e1,e3];simp
theorem Ki:∀{l:List (Str×PySem.Tok)}{ns:List Nat}{rs:List (List Nat)},lL dec ns=l.map (·.1.cps.toList)→lM tM ns=some rs→rs=(l.map λp=>reprText p.1).map (·.cps.toList)∧∀p∈l,p.1.cps.toList.all isLet=true
 |[],[],rs,_,e=>by obtain rfl:=gP e;exact⟨rfl,λU h=>nomatch h⟩
 |[],n::ns,rs,h,e=>by rw[w7]at h;cases h
 |p::l,[],rs,h,e=>by rw[w7]at h;injection h
 |p::l,n::ns,rs,h,e=>by
  rw[w7,lI,lI]at h;injection h with h1 h2
  rw[DD]at e
  induction e1:tM n with
  |none=>rw[e1]at e;injection e
  |some r=>
   induction e2:lM tM ns with
   |none=>rw[e1,e2]at e;injection e
   |some rr=>
    rw[e1,e2]at e;have e:some (r::rr)=some rs:=e;obtain rfl:=gP e;refine iK (Ki (l:=l) (by rw[w7];exact h2) e2) λih ih2=>?_;rw[ih];have e1:(gT none (some (39::app (dec n) [39])) (Ax (dec n)):Option (List Nat))=some r:=e1;refine iK (yH e1) λhb Uv=>?_;subst Uv;rw[Ut,h1]at hb;refine⟨by rw[lI,lI,Kf hb,lQ,h1],λq hq=>?_⟩
    rcases iL.mp hq with rfl|hq
    .exact hb
    .exact ih2 q hq
theorem Kj(h:Heap):∀l:List (Str×PySem.Tok),sN h (strValues l) ((l.map (·.1)).map .str) []
 |[]=>.nil
 |p::l=>by
  have:sN h (.str p.1 p.2::strValues l) (.str p.1::(l.map (·.1)).map .str) ([]++[]):=.cons (.str p.1 p.2) (Kj h l);exact this
theorem Kk:∀ys:List Str,hY.showableAll (ys.map .str)=true
 |[]=>by simp only[List.map_nil,hY.showableAll]
 |y::ys=>by simp only[lI,hY.showableAll,hY.showable,Kk ys,Bool.and_self]
theorem Kl:∀ys:List Str,hY.hasDictAll (ys.map .str)=false
 |[]=>by simp only[List.map_nil,hY.hasDictAll]
 |y::ys=>by simp only[lI,hY.hasDictAll,hY.hasDict,Kl ys,Bool.or_self]
theorem Km:∀ys:List Str,hY.depthAll (ys.map .str)=0
 |[]=>by simp[hY.depthAll]
 |y::ys=>by simp[hY.depthAll,hY.depth,Km ys]
theorem Uw(h:CC xs=some l):∃ns rs,pg xs=some ns∧lM tM ns=some rs∧l=91::app (lp [44,32] rs) [93]:=by
 have h:(hG none (λl=>hG none (λrs=>some (91::app (lp [44,32] rs) [93])) (lM tM l)) (pg xs):Option (List Nat))=some l:=h
 induction e1:pg xs with
 |none=>rw[e1]at h;injection h
 |some ns=>
  rw[e1]at h;have h:(hG none (λrs=>some (91::app (lp [44,32] rs) [93])) (lM tM ns):Option (List Nat))=some l:=h
  induction e2:lM tM ns with
  |none=>rw[e2]at h;injection h
  |some rs=>rw[e2]at h;obtain rfl:=gP h;exact⟨ns,rs,rfl,e2,rfl⟩
theorem Ux(h:hY.strOk x=true)(hl:x.cps.toList.all isLet=true):∀c∈(reprText x).cps.toList,c<0x110000:=λc hc=>by
 rw[Kf hl]at hc
 rcases iL.mp hc with rfl|hc
 .decide
 .rcases nD.mp hc with hc|hc
  .exact DF h c hc
  .rw[jc]at hc;subst hc;decide
def Kn(S:g8)(A:g6)(v:gG)(Q:gG→gJ→Prop)(E:gG→gJ→Prop)(s:gJ):Prop:=gL S.M A (convS v) (λr s₂=>gL S.M A (formatField r Str.empty) Q E s₂) E s
theorem Uy(hg:A.guards=some [])(hu:A.units+300<i')(I:Inv S gA φ Pr σ s)(hx:VR φ x u):
 je S gA A Pr φ VR (λQ E=>Kn S A x Q E s) (go (strOf σ u) 3 λl=>go (lk l) 3 λv=>.ok v σ):=by
 refine je.go λl hl=>je.go λv hv=>?_;refine iK (xa hv) λhc Uz=>?_;subst Uz
 induction hx with
 | @str y n t hs=>
  have hl:=gP hl;subst hl;have ro:SR y (iT (dec n)):=by rw[hs.dec,←hs.enc];exact hs
  have ij:y.length≤sizeLine:=ow hs.2;refine λQ E k=>?_;have fin:∀t tk,gL S.M A (formatField (.str y t) Str.empty) Q E {s with toks:=tk}:=λt tk=>wpAny_formatField_str (k φ _ _ (Le.refl φ) (I.tok _ _) (.str _ ro)) (k φ _ _ (Le.refl φ) (I.tok _ _) (.str _ ro)) ij;exact wpAny_habitSame_str (fin _ _) (fin _ _) ij
 | @ref a p hp=>
  have hl:(hG none (λo=>match o with| .list xs=>CC xs|_=>none) (σ.get p):Option (List Nat))=some l:=hl
  induction e:σ.get p with
  |none=>rw[e]at hl;injection hl
  |some ob=>
   rw[e]at hl
   induction ob with
   |list xs=>
    refine iH (Uw hl) λns rs h1 h2 UA=>?_;subst UA;refine hid λG0 UB=>?_;refine iH (I.list e hp) λvs n q1 q2 q3=>?_;refine jI (JZ q2 h1) λl z1 z2 z3=>?_;refine iK (Ki z3 h2) λhr yK=>?_;refine UB ?_;have rd:mD s.heap (.ref a) (.list ((l.map (·.1)).map .str)) [a]:=.list q1 rfl rfl (by rw[z1];exact Kj s.heap l);have hsh:hY.shown (.list ((l.map (·.1)).map .str))=listText ((l.map (·.1)).map reprText):=by
     simp only[hY.shown,hY.shownAll_strs]
    have hcp:(listText ((l.map (·.1)).map reprText)).cps.toList=91::app (lp [44,32] rs) [93]:=by
     rw[Uu,lQ,hr,List.map_map,List.map_map,List.map_map];rfl
    have ro:SR (listText ((l.map (·.1)).map reprText)) (iT (91::app (lp [44,32] rs) [93])):=J0 hcp (λc oV=>by
     rw[lQ]at oV
     rcases iL.mp oV with rfl|oV
     .decide
     .rcases nD.mp oV with oV|oV
      .refine DE [44,32] rs (λc=>c<0x110000) (λc hc=>?_) (λx hx c hc=>?_) c oV
       .simp at hc;rcases hc with rfl|rfl<;>decide
       .rw[hr,List.map_map]at hx;refine gW (List.mem_map.mp hx) λp hp UC=>?_;subst UC;exact Ux (z2 p hp).1 (yK p hp) c hc
      .rw[jc]at oV;subst oV;decide) hc
    have ij:(hY.shown (.list ((l.map (·.1)).map .str))).length≤sizeLine:=by rw[hsh];exact ow ro.2
    refine λQ E k=>convS_of_reads (h₀:=s.heap) rd (by simp only[hY.showable,Kk]) (by simp only[hY.hasDict,Kl];intro h;injection h) hg (by simp only[hY.depth,Km];lia) (λU U e=>e) (λh' u tk hk=>?_) ij;rw[hsh];have I':Inv S gA φ Pr σ {s with heap:=h',toks:=tk}:=I.grow hk tk s.drawn;exact wpAny_formatField_str (k φ _ _ (Le.refl φ) I' (.str _ ro)) (k φ _ _ (Le.refl φ) (I'.tok _ _) (.str _ ro)) (by rw[←hsh];exact ij)
   |_=>injection hl
 |_=>injection hl
theorem UD(he:ib S G gA sc H e f):ib S G gA sc H (.FormattedValue e 115 none p) (qq f):=
 λK d A env κ ρ Pr o φ σ s hK T=>gK.sX (W:=λv Q E s=>Kn S A v Q E s) (he K d A env κ ρ Pr o φ σ s hK T) (λQ E h=>wpAny_FormattedValue_s h) λgE y v σ' s' l I r=>Uy T.frs.1 T.fit.units I r
def xe(S:g8)(G:Top)(gA:Heap)(sc:hU)(H:Bool)(es:List Expr)(f:VE):Prop:=∀K d A env κ ρ Pr o φ σ s,kO S gA K d→At S G gA K d sc H A env κ ρ Pr o φ σ s→∀acc na k,oS acc na→acc.cps.size≤k*1000000→k+es.length≤15→
 je S gA A ((env.locals,o)::Pr) φ VR (λQ E=>Joins S.M A E (evalEach es env) acc (λout s₁=>out.length≤sizeLine∧Q (.str out s₁.toks) {s₁ with toks:=s₁.toks+1}) s) ((f K ρ κ σ).bind λw σ=>go (strN w) 3 λm=>go (lk (app (dec na) (dec m))) 3 λv=>.ok v σ)
theorem Ko:dec 1=[]:=dec_enc (l:=[]) (by intro c h;cases h)
theorem UE:xe S G gA sc H [] (lO (.str 1)):=λK d A env κ ρ Pr o φ σ s hK T acc na k ha hs hk=>by
 refine je.go λv hv=>?_;obtain⟨hc,rfl⟩:=xa hv;rw[Ko,lQ,nB,ha.dec]at hc⊢;have ro:SR acc (iT acc.cps.toList):=⟨⟨ha.1,rfl⟩,by rw[jM]at hc;exact hc⟩;exact λQ E kk=>⟨ow ro.2,kk φ _ _ (Le.refl φ) (T.inv.tok _ _) (.str _ ro)⟩
theorem Kp(h:oS x a)(k:oS y b):oS (x++y) (iT (dec a++dec b)):=by
 rw[h.dec,k.dec];refine⟨?_,?_⟩
 .show(x.cps++y.cps).all _=true;rw[Array.all_append];have h1:x.cps.all (λc=>decide (c<0x110000))=true:=h.1;have h2:y.cps.all (λc=>decide (c<0x110000))=true:=k.1;rw[h1,h2];rfl
 .show _=iT (x.cps++y.cps).toList;rw[vH]
theorem UF(h:oS x a)(k:oS y b):dec (iT (dec a++dec b))=dec a++dec b:=by
 have:=(Kp h k).dec;rw[this];show(x.cps++y.cps).toList=_;rw[vH,h.dec,k.dec]
theorem UG(h:strN v=some n):v= .str n:=by
 induction v with
 |str m=>obtain rfl:=gP h;rfl
 |_=>cases h
theorem Kq:∀(f n:Nat)(acc:List Nat),Small acc→Small (vI f n acc)
 |0,n,acc,h=>by rw[QZ];exact h
 |f+1,n,acc,h=>by
  rw[C0];split
  .exact h
  .refine Kq f _ _ λc hc=>?_
   rcases iL.mp hc with rfl|hc
   .exact Nat.mod_lt _ (by decide)
   .exact h c hc
theorem Kr(n:Nat):Small (dec n):=Kq _ _ _ λc h=>nomatch h
theorem UH(h:Small a)(k:Small b):Small (a++b):=λc hc=>(nD.mp hc).elim (h c) (k c)
theorem gK.Ks{A:g6}{Pr:ik}{φ:Pl}{s:gJ}{α β γ δ:Type}{rel:Pl→α→β→Prop}{rel':Pl→γ→δ→Prop}{t:Sem α}{V:(γ→gJ→Prop)→(gG→gJ→Prop)→Prop}{r:R β}{g:β→gI→R δ}{W:α→(γ→gJ→Prop)→(gG→gJ→Prop)→gJ→Prop}(h:gK S gA A Pr φ rel t s r)
 (rule:∀Q E,gL S.M A t (λx s'=>W x Q E s') E s→V Q E)
 (k:∀gE x v σ' s',Le φ gE→Inv S gA gE Pr σ' s'→rel gE x v→je S gA A Pr gE rel' (λQ E=>W x Q E s') (g v σ')):je S gA A Pr φ rel' V (r.bind g):=by
 induction r with
 |stuck w=>trivial
 |exc x σ'=>exact λhh Q E hE=>rule _ _ (h hh _ _ hE)
 |ok v σ'=>
  show je S gA A Pr φ rel' V (g v σ')
  induction e:g v σ' with
  |stuck w=>trivial
  |exc x ju=>
   refine λhh Q E hE=>rule _ _ (h _ _ λgE x s' l I r=>?_);have:=k gE x v σ' s' l I r;rw[e]at this;exact this hh _ _ λiv s1 a h' tk l2 I2 n=>hE iv s1 a h' tk (l.trans l2) I2 n
  |ok u ju=>
   refine λQ E hQ=>rule _ _ (h _ _ λgE x s' l I r=>?_);have:=k gE x v σ' s' l I r;rw[e]at this;exact this _ _ λiv x s'' l2 I2 r2=>hQ iv x s'' (l.trans l2) I2 r2
theorem je.weaken{A:g6}{Pr:ik}{φ:Pl}{α β:Type}{rel:Pl→α→β→Prop}{W W':(α→gJ→Prop)→(gG→gJ→Prop)→Prop}{r r':R β}(h:je S gA A Pr φ rel W r)(hw:∀Q E,W Q E→W' Q E)(hr:r'=r∨∃w,r'= .stuck w):je S gA A Pr φ rel W' r':=by
 rcases hr with rfl|⟨w,rfl⟩
 .induction r' with
  |stuck w=>trivial
  |exc x σ'=>exact λhh Q E hE=>hw _ _ (h hh Q E hE)
  |ok v σ'=>exact λQ E hQ=>hw _ _ (h Q E hQ)
 .trivial
theorem UI{e:Expr}{es:List Expr}{f g:VE}(he:ib S G gA sc H e f)(hes:xe S G gA sc H es g):xe S G gA sc H (e::es) (pw f g):=
 λK d A env κ ρ Pr o φ σ s hK T acc na k ha hs hk=>by
  have hk':k+(es.length+1)≤15:=hk;have hres:((pw f g K ρ κ σ).bind λw σ=>go (strN w) 3 λm=>go (lk (app (dec na) (dec m))) 3 λv=>R.ok v σ)
   =(f K ρ κ σ).bind λu σ=>go (strN u) 3 λn=>(g K ρ κ σ).bind λw σ=>go (strN w) 3 λm=>go (lk (app (dec n) (dec m))) 3 λv=>go (strN v) 3 λm=>go (lk (app (dec na) (dec m))) 3 λv=>R.ok v σ:=by
   show((f K ρ κ σ).bind _).bind _=_
   induction f K ρ κ σ with
   |stuck w=>rfl
   |exc x σ1=>rfl
   |ok u σ1=>
    show(go (strN u) 3 _).bind _=go (strN u) 3 _;rw[AS]
    induction strN u with
    |none=>rfl
    |some n=>
     show((g K ρ κ σ1).bind _).bind _=(g K ρ κ σ1).bind _;rw[R.bind_assoc]
     induction g K ρ κ σ1 with
     |stuck w=>rfl
     |exc x σ2=>rfl
     |ok w σ2=>
      show(go (strN w) 3 _).bind _=go (strN w) 3 _;rw[AS]
      induction strN w with
      |none=>rfl
      |some m=>
       show(go _ 3 _).bind _=go _ 3 _;rw[AS];rfl
  rw[hres];refine gK.Ks (W:=λy Q E s₁=>∃(z:Str)(t:PySem.Tok),y=gG.str z t∧(acc++z).length≤sizeLine∧Joins S.M A E (evalEach es env) (acc++z) (λout s₁=>out.length≤sizeLine∧Q (.str out s₁.toks) {s₁ with toks:=s₁.toks+1}) s₁) (he K d A env κ ρ Pr o φ σ s hK T) (λQ E h=>h) λgE y u σ' s' l I r=>?_;refine je.go λn hn=>?_;have:=UG hn;subst this
  cases r with
  | @str z _ t hz=>
  have hlen:(acc++z).length≤(k+1)*1000000:=by
   have h1:(acc++z).cps.size=acc.cps.size+z.cps.size:=by rw[JA,Array.size_append]
   have h2:z.cps.size≤1000000:=hz.2;show(acc++z).cps.size≤_;lia
  have hk2:(k+1)*1000000≤15000000:=by lia
  have hfit:(acc++z).length≤sizeLine:=by rw[sizeLine_eq];lia
  have ih:=hes K d A env κ ρ Pr o gE σ' s' hK (T.step l I) (acc++z) (iT (dec na++dec n)) (k+1) (Kp ha hz.1) hlen (by lia);rw[UF ha hz.1]at ih;refine je.weaken (r:=(g K ρ κ σ').bind λw σ=>go (strN w) 3 λm=>go (lk (app (dec na++dec n) (dec m))) 3 λv=>R.ok v σ) (W:=λQ E=>Joins S.M A E (evalEach es env) (acc++z) (λout s₁=>out.length≤sizeLine∧Q (.str out s₁.toks) {s₁ with toks:=s₁.toks+1}) s') ih (λQ E h=>⟨z,t,rfl,hfit,h⟩) ?_
  induction g K ρ κ σ' with
  |stuck w=>exact .inl rfl
  |exc x σ2=>exact .inl rfl
  |ok w σ2=>
   show(go (strN w) 3 _)=(go (strN w) 3 _)∨∃x,(go (strN w) 3 _)=_
   induction hw:strN w with
   |none=>exact .inl rfl
   |some m=>
    show(go (lk (app (dec n) (dec m))) 3 _)=(go (lk _) 3 _)∨∃x,(go (lk (app (dec n) (dec m))) 3 _)=_
    induction hc:lk (app (dec n) (dec m))with
    |none=>exact .inr ⟨3,rfl⟩
    |some v=>
     refine iK (xa hc) λhcl UJ=>?_;subst UJ
     left
     show go (lk (app (dec na) (dec (iT (app (dec n) (dec m)))))) 3 _=_;rw[lQ,lQ,lQ,dec_enc (UH (Kr n) (Kr m)),tG]
theorem UK{e1 e2:Expr}{es:List Expr}{p:Pos}{f:VE}(h:xe S G gA sc H (e1::e2::es) f)(hn:es.length≤10):ib S G gA sc H (.JoinedStr (e1::e2::es) p) (qs f):=
 λK d A env κ ρ Pr o φ σ s hK T=>by
  have hj:=h K d A env κ ρ Pr o φ σ s hK T Str.empty 1 0 ⟨by decide+kernel,rfl⟩ (kg _) (by simp only[mZ];lia);rw[Ko]at hj;exact je.weaken hj (λQ E q=>wpAny_JoinedStr q) (.inl rfl)
end
section
variable{S:g8}{G:Top}{gA:Heap}{sc:hU}{H:Bool}
theorem UL(l:List (Nat×AV×AV))(k:Nat)(a v:AV):l.length≤(md l k a v).length:=by
 induction l with
 |nil=>exact kg _
 |cons e l ih=>
  rw[De];split
  .exact i8 _
  .exact mn ih
theorem Kt(σ:gI)(k v:AV)(l:List AV)(es:List (Nat×AV×AV)):dictOf σ (k::v::l) es=match key σ k with|some c=>dictOf σ l (md es c k v)|none=>none:=rfl
noncomputable def A5:List (gG×gG)→List gG
 |[]=>[]
 |(k,v)::l=>k::v::A5 l
theorem UM(σ:gI)(ps:List (gG×gG))(φ:Pl):∀(us:List AV)(es es':List (Nat×AV×AV)),il φ (A5 ps) us→dictOf σ us es=some es'→es.length≤es'.length:=by
 induction ps with
 |nil=>
  intro us es es' r h
  cases us with
  |nil=>exact gP h▸i8 _
  |cons=>exact nomatch r.length
 |cons kv ps ih=>
  intro us es es' r h
  cases us with
  |nil=>exact nomatch r.length
  |cons a us=>
   cases us with
   |nil=>exact nomatch Nat.succ.inj r.length
   |cons b us=>
    rw[Kt]at h
    induction hc:key σ a with
    |none=>rw[hc]at h;exact gV h
    |some c=>rw[hc]at h;exact ia (UL es c a b) (ih us _ es' (r.drop 2) h)
theorem UN{A:g6}{E:gG→gJ→Prop}{σ:gI}{φ:Pl}{h0:Heap}(hu:A.units+5<i')(i6:∀x k c,key σ k=some c→VR φ x k→∃H,iX S.w h0 x H c){d:Addr}(Q:PUnit→gJ→Prop)
 (ps:List (gG×gG)):∀(us:List AV)(acc es:List (Nat×AV×AV))(s:gJ),il φ (A5 ps) us→dictOf σ us acc=some es→es.length≤cap→js h0 s.heap→kN S.w φ s.heap d acc→
 (∀h' tk,kN S.w φ h' d es→i0 d s.heap h'→Q PUnit.unit {s with heap:=h',toks:=tk})→
 gL S.M A (forIn ps PUnit.unit λ(x:gG×gG)(U:PUnit)=>(do dictSet d x.1 x.2;pure (ForInStep.yield PUnit.unit):Sem (ForInStep PUnit))) Q E s:=by
 induction ps with
 |nil=>
  intro us acc es s rv h hl kt D hQ
  cases rv
  cases h
  rw[List.forIn_nil];exact gO (hQ s.heap s.toks D (i0.refl _ _))
 |cons p ps ih=>
  intro us acc es s rv h hl kt D hQ;obtain⟨k,v⟩:=p
  match us,rv,h with
  |a::b::us,.cons h1 (.cons h2 h3),h=>
   rw[Kt]at h
   induction hc:key σ a with
   |none=>rw[hc]at h;exact gV h
   |some c=>
    rw[hc]at h;have h:dictOf σ us (md acc c a b)=some es:=h;refine jn (i6 k a c hc h1) λHh hk=>?_;refine jA D.obj λjq ep hd U=>?_;rw[List.forIn_cons];refine gH (gH (Js hu (hk.AG kt) D h1 h2 (ia (UM σ ps φ us _ es h3 h) hl) λh' tk D' sb=>gO ?_));exact ih us _ es {s with heap:=h',toks:=tk} h3 h hl (kt.trans (js.ri sb hd (by show ig "dict"≠ig "tuple";decide))) D' λh'' tk' UO sb'=>hQ h'' tk' UO (sb.trans sb')
def xf(S:g8)(G:Top)(gA:Heap)(sc:hU)(H:Bool)(ks:List (Option Expr))(vs:List Expr)(f:VL):Prop:=∀K d A env κ ρ Pr o φ σ s,kO S gA K d→At S G gA K d sc H A env κ ρ Pr o φ σ s→∀pos,
 gK S gA A ((env.locals,o)::Pr) φ (λφ ps us=>il φ (A5 ps) us) (evalPairs (pairTrees ks vs env pos)) s (f K ρ κ σ)
theorem UP:xf S G gA sc H [] [] nK:=λK d A env κ ρ Pr o φ σ s hK T pos=>λQ E k=>pairTrees_nil_walk (k φ [] s (Le.refl φ) T.inv .nil)
theorem UQ(hk:ib S G gA sc H k f)(hv:ib S G gA sc H v g)(hr:xf S G gA sc H ks vs r):xf S G gA sc H (some k::ks) (v::vs) (nL f (nL g r)):=
 λK d A env κ ρ Pr o φ σ s hK T pos=>by
  show gK S gA A _ φ _ _ s ((f K ρ κ σ).bind λa σ=>((g K ρ κ σ).bind λb σ=>(r K ρ κ σ).bind λl σ=>.ok (b::l) σ).bind λl σ=>.ok (a::l) σ);refine gK.sX (W:=λx Q E s₁=>gL S.M A (eval v env) (λy s₂=>gL S.M A (evalPairs (pairTrees ks vs env pos)) (λl s₃=>Q ((x,y)::l) s₃) E s₂) E s₁) (hk K d A env κ ρ Pr o φ σ s hK T) (λQ E h=>pairTrees_cons_walk h) λgE x a σ' s' l I rx=>?_;rw[R.bind_assoc];refine gK.Ks (W:=λy Q E s₂=>gL S.M A (evalPairs (pairTrees ks vs env pos)) (λl s₃=>Q ((x,y)::l) s₃) E s₂) (hv K d A env κ ρ Pr o gE σ' s' hK (T.step l I)) (λQ E h=>h) λiv y b ju s'' l' I' ry=>?_;rw[R.bind_assoc];exact je.map (f:=λl=>(x,y)::l) (g:=λl=>a::b::l) (hr K d A env κ ρ Pr o iv ju s'' hK ((T.step l I).step l' I') pos) λyF ps us l3 tX=>.cons ((rx.mono l').mono l3) (.cons (ry.mono l3) tX)
theorem Inv.newDict{Pr:ik}{φ:Pl}{σ:gI}{s:gJ}{A:g6}(I:Inv S gA φ Pr σ s):Inv S gA (φ.add σ.n s.heap.objs.size) Pr (σ.push (.dict [])) {s with heap:=s.heap.push {cls:=.type "dict",data:=.dict #[]}}:=
 I.push (λb o e=>ja _ e) (se _) ⟨_,j7 _ rfl⟩ (λp e=>I.fresh p e) (λx hx=>(I.beyond (i8 _)).2 x hx) (by intro _ _ _ e;injection e) (by intro _ _ e;injection e)
  ⟨⟨#[],0,j7 _ rfl,.nil⟩,List.nodup_nil,kg _,λo en e' h1 h2=>by
   have h0:(s.heap.push {cls:=.type "dict",data:=.dict #[]}).get? s.heap.objs.size=some {cls:=.type "dict",data:=.dict #[]}:=j7 _ rfl;rw[h0]at h1;obtain rfl:=gP h1;cases h2;rfl⟩
theorem UR{p:Pos}:ib S G gA sc H (.Dict [] [] p) (oM nK):=
 λK d A env κ ρ Pr o φ σ s hK T=>by
  have e:oM nK K ρ κ σ= .ok (.ref σ.n) ((σ.push (.dict [])).set σ.n (.dict [])):=by
   show(go (sS (σ.push (.dict [])) σ.n) 22 _)=_;have:sS (σ.push (.dict [])) σ.n=some []:=by
    unfold sS;rw[gI.kB,if_pos rfl];rfl
   rw[this];rfl
  rw[e,arm_eval_Dict];refine gK.standAt λQ E k=>?_;have I1:=T.inv.newDict (A:=A);have I2:=I1.congr (σ':=(σ.push (.dict [])).set σ.n (.dict [])) rfl λq=>by
   rw[gI.get_set]
   by_cases h:q=σ.n
   .rw[if_pos h,h,gI.kB,if_pos rfl]
   .rw[if_neg h]
  exact mY (k _ _ _ (T.inv.jY _) I2 (VR.top ..))
theorem US{k:Expr}{v:Expr}{ks:List (Option Expr)}{vs:List Expr}{p:Pos}{f:VL}(h:xf S G gA sc H (some k::ks) (v::vs) f)(hall:(some k::ks).all (·.isSome)=true)(hl:(some k::ks).length=(v::vs).length)(hlen:(some k::ks).length≤15):ib S G gA sc H (.Dict (some k::ks) (v::vs) p) (oM f):=
 λK d A env κ ρ Pr o φ σ s hK T=>by
  have hn:=pairTrees_length (some k::ks) (v::vs) env p hall hl;rw[arm_eval_Dict,zip_pairTrees _ _ env p hall hl,dictDisplay_pairs _ (by intro he;rw[he]at hn;simp at hn) (by rw[hn];lia)];have I1:=T.inv.newDict (A:=A);have T1:=T.step (T.inv.jY _) I1;refine gK.standAt (gK.le (T.inv.jY s.heap.objs.size) ?_);refine gK.Kb (A1:=A) (s1:={s with heap:=s.heap.push {cls:=.type "dict",data:=.dict #[]}}) (W:=λ(ps:List (gG×gG)) Q E s₁=>gL S.M A (forIn ps PUnit.unit λ(x:gG×gG)(U:PUnit)=>(do dictSet s.heap.objs.size x.1 x.2;pure (ForInStep.yield PUnit.unit):Sem (ForInStep PUnit))) (λU s₂=>Q (.ref s.heap.objs.size) s₂) E s₁) (h K d A env κ ρ Pr o _ _ _ hK T1 p) (λz=>z) (λQ E q=>?_) λgE ps us σ' s' l I r=>?_
  .unfold subDict;refine gH (gH (wpAny_alloc (gH (jt ?_))));refine vE (decide_eq_true (by rw[hn];exact hlen)) ?_;refine gH (jg q (λps s₁ h₁=>jt (gH (jg h₁ (λU s₂ h₂=>gO (gO (gO h₂))) λU U z=>z))) λU U z=>z)
  .refine je.go λCO UT=>?_;have he:=DP UT
   induction CO with
   |cons _ _=>trivial
   |nil=>
    refine je.go λes hes=>je.go λob hob=>?_;refine iK (JB hob) λhcl UU=>?_;subst UU;have hp:=l _ _ (Pl.mr φ σ.n s.heap.objs.size);have D:=I.dict he hp;refine jA D.obj λjq ep hd U=>?_;refine λQ E kk=>UN (σ:=σ') (h0:=s'.heap) (by have:=T.fit.units;lia) (λx k c e r=>I.key e r) _ ps us [] es s' r hes hcl (js.refl _) D λh' tk D' sb=>?_;refine kk gE _ _ (Le.refl gE) (I.tS (ob:=.dict es) he hp sb (js.ri sb hd (by show ig "dict"≠ig "tuple";decide)) (let⟨⟨_,_,z,_⟩,_,_,_⟩:=D';⟨_,z⟩) (.inl rfl) (by intro e;injection e) rfl (by intro _ _ _ e;injection e) (by intro _ _ e;injection e) ⟨(by intro e;injection e),(by intro _ e;injection e)⟩ λb hb=>?_) (.ref hp);rw[hp]at hb;obtain rfl:=gP hb;exact D'
end
section
variable{S:g8}{G:Top}{gA:Heap}{sc:hU}{H:Bool}
theorem Ku(T:At S G gA K d sc H A env κ ρ Pr o φ σ s)(hk:sc.names.lookup x=some .local)(hn:S.nm a=some x)(r:VR φ y v)
 (h:∀o' s',At S G gA K d sc H A env κ (ρ.set a v) Pr o' φ σ s'→Q () s'):gL S.M A (bindName env x y) Q E s:=by
 refine wpAny_bindName ?_;rw[storeName_local (by show env.scope.names.lookup x=_;rw[T.scope];exact hk) (by rw[T.scope,T.kind];rfl)];obtain⟨h1,es,ep,h2,h3,h4⟩:=T.fr;refine kM (T.inv.pr _ (hW ..)) λUV p2 p3=>?_;refine rW UV λo1 q1 q2 q3 q4 q5=>?_;obtain⟨c1,d1,DR,tY⟩:=o1;have h2':DR= .dict es ep:=q4.trans h2;subst h2';have hc1:c1= .type "frame"∨c1= .type "dict":=by rw[show c1=o.cls from q2];exact h1
 refine DA q1 h3 λh' es' mi z1 z2 z3 z4 z5 z6=>h ⟨c1,d1,.dict es' mi,tY⟩ _ ?_;have I':=T.inv.Do (o':=⟨c1,d1,.dict es' mi,tY⟩) T.apart z6 (by rcases h1 with h1|h1<;>rw[h1]<;>decide) z1 (s.toks+1) s.drawn;have hfr:pJ S φ (ρ.set a v) ⟨c1,d1,.dict es' mi,tY⟩:=⟨hc1,es',mi,rfl,z2,by
  have e:nsFind es'=λk=>if k=x then some y else nsFind es k:=funext z3;rw[e];exact h4.set hn r⟩
 have UW:jj A ((env.locals,⟨c1,d1,.dict es' mi,tY⟩)::Pr):=by
  obtain⟨g,l,k1,k2⟩:=T.frs;refine⟨g,l,k1,λe he=>?_⟩;obtain⟨j1,L,ob,j2,j3,j4⟩:=k2 e he;refine⟨j1,L,?_⟩
  rcases iL.mp j3 with e'|j3
  .refine⟨⟨c1,d1,.dict es' mi,tY⟩,j2,?_,?_,?_⟩
   .have:L=env.locals:=congrArg Prod.fst e';rw[this];exact hW ..
   .intro vs e;injection e
   .have:ob=o:=congrArg Prod.snd e';rw[this]at j4;exact q2.trans j4.2
  .exact⟨ob,j2,hO _ j3,j4⟩
 exact{T with fr:=hfr,inv:=I',frs:=UW,pK:=q2.trans T.pK}
def j'(S:g8)(G:Top)(gA:Heap)(K:KE)(d:Nat)(sc:hU)(H:Bool)(A:g6)(env:Env)(κ:gX)(Pr:ik)(φ:Pl)(t:Sem Unit)(s:gJ)(r:R Loc):Prop:=match r with
 | .ok ρ' σ'=>∀(Q:Unit→gJ→Prop)(E:gG→gJ→Prop),(∀gE o' s',Le φ gE→At S G gA K d sc H A env κ ρ' Pr o' gE σ' s'→Q () s')→gL S.M A t Q E s
 |_=>True
def GoodG(S:g8)(G:Top)(gA:Heap)(sc:hU)(H:Bool)(e:Expr)(f:VT):Prop:=∀K d A env κ ρ Pr o φ σ s y v,kO S gA K d→At S G gA K d sc H A env κ ρ Pr o φ σ s→VR φ y v→j' S G gA K d sc H A env κ Pr φ (assign e env y) s (f K ρ κ v σ)
theorem UX(hk:sc.names.lookup x=some .local)(hn:S.nm a=some x):GoodG S G gA sc H (.Name x p) (qu a):=
 λK d A env κ ρ Pr o φ σ s y v hK T r=>λQ E k=>by
  rw[arm_assign_Name];exact gH (ky (Ku T hk hn r λo' s' T'=>k φ o' s' (Le.refl φ) T'))
theorem UY(hk:sc.names.lookup x=some .cell)(hn:S.nm a=some x):GoodG S G gA sc H (.Name x p) (pz a):=
 λK d A env κ ρ Pr o φ σ s y v hK T r=>by
  unfold pz
  induction hq:kh κ a with
  |none=>trivial
  |some q=>
   refine iH (T.rn a q hq) λn c h1 h2 h3=>?_;rw[hn]at h1;obtain rfl:=gP h1;show j' S G gA K d sc H A env κ Pr φ _ s (match σ.get q with|some (.cell _)=>.ok ρ (σ.set q (.cell (some v)))|_=>.stuck 40)
   induction e:σ.get q with
   |none=>trivial
   |some ob=>
    induction ob with
    |cell v0=>
     obtain⟨c',hc',y0,sZ,_⟩:=T.inv.obj q _ e;rw[h3]at hc';obtain rfl:=gP hc';refine λQ E k=>?_;rw[arm_assign_Name];refine gH (ky (wpAny_bindName ?_));have hl:env.kindOf x=some .cell:=by show env.scope.names.lookup x=_;rw[T.scope];exact hk
     have hks:env.scope.kind= .function:=by rw[T.scope];exact T.kind
     unfold storeName;rw[hl,hks];dsimp only;refine gH (wpAny_cellOf h2 ?_);unfold cellSet;refine gH (wpAny_load sZ ?_);refine wpAny_update sZ ?_;have sb:i0 c s.heap (s.heap.update c λo=>{o with data:=.cell (some y)}):=i0.update ..;have hg:(s.heap.update c λo=>{o with data:=.cell (some y)}).get? c=some ⟨.type "cell",none,.cell (some y),#[]⟩:=vG _ sZ rfl;refine k φ o _ (Le.refl φ) (T.step (Le.refl φ) (T.inv.tS (ob:=.cell (some v)) e h3 sb (js.ri sb sZ (by show ig "cell"≠ig "tuple";decide)) ⟨_,hg⟩ (.inl rfl) (by intro e;injection e) rfl (by intro _ _ _ e;injection e) (by intro _ _ e;injection e) ⟨(by intro e;injection e),(by intro _ e;injection e)⟩ λb hb=>?_));rw[h3]at hb;obtain rfl:=gP hb;exact⟨some y,hg,y,rfl,r⟩
    |_=>trivial
end
section
variable{S:g8}{G:Top}{gA:Heap}{sc:hU}{H:Bool}
section
variable{K:KE}{d:Nat}{A:g6}{env:Env}{κ:gX}{Pr:ik}{o:Obj}{ρ:Loc}{φ:Pl}{σ:gI}{s:gJ}
theorem j'.of{α β:Type}{t:Sem Unit}{r:R β}{rel:Pl→Unit→β→Prop}(T:At S G gA K d sc H A env κ ρ Pr o φ σ s)(h:gK S gA A ((env.locals,o)::Pr) φ rel t s r):j' S G gA K d sc H A env κ Pr φ t s (r.bind λU σ=>.ok ρ σ):=by
 induction r with
 |stuck w=>trivial
 |exc x σ'=>trivial
 |ok v σ'=>exact λQ E k=>h _ _ λgE x s' l I U=>k gE o s' l (T.step l I)
theorem j'.mw{α β:Type}{t:Sem α}{t':Sem Unit}{r:R β}{rel:Pl→α→β→Prop}{g:β→gI→R Loc}{f:α→Sem Unit}(T:At S G gA K d sc H A env κ ρ Pr o φ σ s)(h:gK S gA A ((env.locals,o)::Pr) φ rel t s r)
 (rule:∀Q E,gL S.M A t (λx s'=>gL S.M A (f x) Q E s') E s→gL S.M A t' Q E s)
 (k:∀gE x v σ' s',Le φ gE→At S G gA K d sc H A env κ ρ Pr o gE σ' s'→rel gE x v→j' S G gA K d sc H A env κ Pr gE (f x) s' (g v σ')):j' S G gA K d sc H A env κ Pr φ t' s (r.bind g):=by
 induction r with
 |stuck w=>trivial
 |exc x σ'=>trivial
 |ok v σ'=>
  show j' S G gA K d sc H A env κ Pr φ t' s (g v σ')
  induction e:g v σ' with
  |stuck w=>trivial
  |exc x ju=>trivial
  |ok u ju=>
   refine λQ E hQ=>rule _ _ (h _ _ λgE x s' l I r=>?_);have:=k gE x v σ' s' l (T.step l I) r;rw[e]at this;exact this _ _ λiv o' s'' l2 T2=>hQ iv o' s'' (l.trans l2) T2
theorem j'.go{β:Type}{ob:Option β}{w:Nat}{f:β→R Loc}{t:Sem Unit}(h:∀x,ob=some x→j' S G gA K d sc H A env κ Pr φ t s (f x)):j' S G gA K d sc H A env κ Pr φ t s (go ob w f):=by
 induction ob with
 |none=>trivial
 |some x=>exact h x rfl
theorem j'.same{t t':Sem Unit}{r:R Loc}(h:j' S G gA K d sc H A env κ Pr φ t s r)(k:∀Q E,gL S.M A t Q E s→gL S.M A t' Q E s):j' S G gA K d sc H A env κ Pr φ t' s r:=by
 induction r with
 |stuck w=>trivial
 |exc x σ'=>trivial
 |ok ρ' σ'=>exact λQ E hQ=>k _ _ (h Q E hQ)
end
theorem UZ(FS:ly S gA){e:Expr}{n:Str}{p:Pos}{f:VE}{x:Ad}(he:ib S G gA sc H e f)(hn:S.nm x=some n)(ha:S.attr x=true):GoodG S G gA sc H (.Attribute e n p) (qv f x):=
 λK d A env κ ρ Pr o φ σ s y v hK T r=>by
  rw[arm_assign_Attribute];refine j'.mw T (he K d A env κ ρ Pr o φ σ s hK T) (λQ E h=>gH (jt h)) λgE z u σ' s' l T' rz=>?_;refine j'.same (j'.of (α:=Unit) T' (JN FS T'.inv rz (r.mono l) hn ha)) λQ E h=>?_;exact gH (ky (gH (jt (jg h (λU U hx=>wpAny_release hx) λU U z=>z))))
theorem U0{e i:Expr}{p:Pos}{f g:VE}(he:ib S G gA sc H e f)(hi:ib S G gA sc H i g):GoodG S G gA sc H (.Subscript e i p) (qw f g):=
 λK d A env κ ρ Pr o φ σ s y v hK T r=>by
  rw[arm_assign_Subscript];refine j'.mw T (he K d A env κ ρ Pr o φ σ s hK T) (λQ E h=>gH (jt h)) λgE z u σ' s' l T' rz=>?_;refine j'.mw T' (hi K d A env κ ρ Pr o gE σ' s' hK T') (λQ E h=>gH (jt h)) λiv z' u' ju s'' l' nj U1=>?_;refine j'.same (j'.of (α:=Unit) nj (Sm nj.fit.units nj.inv (rz.mono l') U1 ((r.mono l).mono l'))) λQ E h=>?_;exact gH (ky (gH (jt (jg h (λU U hx=>wpAny_release hx) λU U z=>z))))
def yL(S:g8)(G:Top)(gA:Heap)(sc:hU)(H:Bool)(es:List Expr)(f:l8):Prop:=∀K d A env κ ρ Pr o φ σ s ys vs,kO S gA K d→At S G gA K d sc H A env κ ρ Pr o φ σ s→il φ ys vs→j' S G gA K d sc H A env κ Pr φ (assignInOrder ((assignEach es env).map (·.2)) ys) s (f K ρ κ vs σ)
theorem U2:yL S G gA sc H [] qy:=λK d A env κ ρ Pr o φ σ s ys vs hK T r=>by
 induction r with
 |nil=>exact λQ E k=>gO (k φ o s (Le.refl φ) T)
 |cons _ _=>trivial
theorem yM{t:Expr}{r:List Expr}{env:Env}(h:noStar t=true):assignEach (t::r) env=(false,assign t env)::assignEach r env:=by
 cases t<;>first|rfl|exact gU h
theorem U3{t:Expr}{r:List Expr}{f:VT}{g:l8}(ht:GoodG S G gA sc H t f)(hn:noStar t=true)(hr:yL S G gA sc H r g):yL S G gA sc H (t::r) (qz f g):=
 λK d A env κ ρ Pr o φ σ s ys vs hK T rv=>by
  rw[yM hn]
  induction rv with
  |nil=>trivial
  | @cons y v ys vs h1 h2=>
   show j' S G gA K d sc H A env κ Pr φ (assignInOrder (assign t env::(assignEach r env).map (·.2)) (y::ys)) s ((f K ρ κ v σ).bind λρ σ=>g K ρ κ vs σ);have h:=ht K d A env κ ρ Pr o φ σ s y v hK T h1
   induction e:f K ρ κ v σ with
   |stuck w=>trivial
   |exc x σ'=>trivial
   |ok ρ' σ'=>
    rw[e]at h;show j' S G gA K d sc H A env κ Pr φ _ s (g K ρ' κ vs σ')
    induction e2:g K ρ' κ vs σ' with
    |stuck w=>trivial
    |exc x ju=>trivial
    |ok aeE ju=>
     refine λQ E k=>gH (jt (h _ _ λgE o' s' l T'=>?_));have h3:=hr K d A env κ ρ' Pr o' gE σ' s' ys vs hK T' (h2.mono l);rw[e2]at h3;exact h3 _ _ λiv U4 s'' l' nj=>k iv U4 s'' (l.trans l') nj
theorem Kv{env:Env}:∀{es:List Expr},jZ es=true→(assignEach es env).length=es.length∧(assignEach es env).findIdx? (·.1)=none
 |[],_=>⟨rfl,rfl⟩
 |e::r,h=>by
  unfold jZ at h;rw[List.all_cons,n5]at h;rw[yM h.1];refine iK (Kv (env:=env) (es:=r) h.2) λh1 h2=>?_;refine⟨by rw[mZ,mZ,h1],?_⟩;rw[List.findIdx?_cons];simp[h2]
theorem U5{σ:gI}{v:AV}{xs:List AV}(h:w2 σ v=some xs):∃p,v= .ref p∧σ.get p=some (.tuple xs):=by
 induction v with
 |ref p=>
  have h:(hG none CQ (σ.get p):Option (List AV))=some xs:=h
  induction e:σ.get p with
  |none=>rw[e]at h;exact gV h
  |some ob=>
   rw[e]at h
   induction ob with
   |tuple ys=>obtain rfl:=gP h;exact⟨p,rfl,e⟩
   |_=>exact gV h
 |_=>exact gV h
theorem U6{h h':Heap}(x:Heap.ExtBut h.objs.size h h'):∀b o,h.get? b=some o→h'.get? b=some o:=λb o e=>x b o (λz=>by have:=mF e;rw[z]at this;exact jQ _ this) e
theorem U7{es:List Expr}{k:Nat}{p:Pos}{f:l8}{n:Nat}(hes:yL S G gA sc H es f)(hs:jZ es=true)(hn:es.length=n)(hH:H=true):GoodG S G gA sc H (.Tuple es k p) (qx f n):=
 λK d A env κ ρ Pr o φ σ s y v hK T r=>by
  refine j'.go λvs hvs=>?_;refine gW (U5 hvs) λq U8 e=>?_;subst U8
  cases r with
  | @ref a _ hp=>
  refine iH (T.inv.tuple e hp) λys m h1 h2 h3=>?_
  induction hb:ie (iC vs) n with
  |false=>trivial
  |true=>
   have hb:=mH hb;rw[jo]at hb
   induction e2:f K ρ κ vs σ with
   |stuck w=>trivial
   |exc x σ'=>trivial
   |ok ρ' σ'=>
    refine iK (Kv (env:=env) hs) λz1 z2=>?_;refine λQ E kk=>wpAny_assign_Tuple (T.hnd hH) ⟨_,h1,rfl,m,rfl⟩ (by rw[z1,hn,←hb,h2.sz]) z2 λh' hx=>?_;have T':At S G gA K d sc H A env κ ρ Pr o φ σ {s with heap:=h'}:=T.step (Le.refl φ) (T.inv.grow (U6 hx) s.toks s.drawn);have h4:=hes K d A env κ ρ Pr o φ σ _ ys.toList vs hK T' h2;rw[e2]at h4;exact h4 _ _ kk
def iN(S:g8)(G:Top)(gA:Heap)(K:KE)(d:Nat)(sc:hU)(H:Bool)(A:g6)(env:Env)(κ:gX)(Pr:ik)(φ:Pl)(t:Sem Flow)(s:gJ)(r:RS):Prop:=match r with
 | .next ρ' σ'=>∀(Q:Flow→gJ→Prop)(E:gG→gJ→Prop),(∀gE o' s',Le φ gE→At S G gA K d sc H A env κ ρ' Pr o' gE σ' s'→Q .next s')→gL S.M A t Q E s
 | .brk ρ' σ'=>∀(Q:Flow→gJ→Prop)(E:gG→gJ→Prop),(∀gE o' s',Le φ gE→At S G gA K d sc H A env κ ρ' Pr o' gE σ' s'→Q .brk s')→gL S.M A t Q E s
 | .cont ρ' σ'=>∀(Q:Flow→gJ→Prop)(E:gG→gJ→Prop),(∀gE o' s',Le φ gE→At S G gA K d sc H A env κ ρ' Pr o' gE σ' s'→Q .cont s')→gL S.M A t Q E s
 | .ret v σ'=>∀(Q:Flow→gJ→Prop)(E:gG→gJ→Prop),(∀gE s' x,Le φ gE→Inv S gA gE Pr σ' s'→VR gE x v→Q (.ret x) s')→gL S.M A t Q E s
 | .stuck _=>True
def kE(S:g8)(G:Top)(gA:Heap)(sc:hU)(H:Bool)(st:Stmt)(f:VS):Prop:=∀K d A env κ ρ Pr o φ σ s,kO S gA K d→At S G gA K d sc H A env κ ρ Pr o φ σ s→iN S G gA K d sc H A env κ Pr φ (exec st env) s (f K ρ κ σ)
def nR(S:g8)(G:Top)(gA:Heap)(sc:hU)(H:Bool)(sts:List Stmt)(f:VS):Prop:=∀K d A env κ ρ Pr o φ σ s,kO S gA K d→At S G gA K d sc H A env κ ρ Pr o φ σ s→iN S G gA K d sc H A env κ Pr φ (execs sts env) s (f K ρ κ σ)
end
section
variable{S:g8}{G:Top}{gA:Heap}{sc:hU}{H:Bool}
section
variable{K:KE}{d:Nat}{A:g6}{env:Env}{κ:gX}{Pr:ik}{o:Obj}{ρ:Loc}{φ gE:Pl}{σ:gI}{s s':gJ}
theorem iN.bind{α:Type}{t:Sem α}{t':Sem Flow}{r:RS}{f:α→Sem Flow}{P:α→Pl→gJ→Prop}(h:∀(Q:α→gJ→Prop)(E:gG→gJ→Prop),(∀gE x s',Le φ gE→P x gE s'→Q x s')→gL S.M A t Q E s)
 (rule:∀Q E,gL S.M A t (λx s'=>gL S.M A (f x) Q E s') E s→gL S.M A t' Q E s)
 (k:∀gE x s',Le φ gE→P x gE s'→iN S G gA K d sc H A env κ Pr gE (f x) s' r):iN S G gA K d sc H A env κ Pr φ t' s r:=by
 induction r with
 |next ρ σ=>exact λQ E q=>rule _ _ (h _ _ λgE x s' l p=>k gE x s' l p Q E λiv o' s'' l'=>q iv o' s'' (l.trans l'))
 |brk ρ σ=>exact λQ E q=>rule _ _ (h _ _ λgE x s' l p=>k gE x s' l p Q E λiv o' s'' l'=>q iv o' s'' (l.trans l'))
 |cont ρ σ=>exact λQ E q=>rule _ _ (h _ _ λgE x s' l p=>k gE x s' l p Q E λiv o' s'' l'=>q iv o' s'' (l.trans l'))
 |ret v σ=>exact λQ E q=>rule _ _ (h _ _ λgE x s' l p=>k gE x s' l p Q E λiv s'' x l'=>q iv s'' x (l.trans l'))
 |stuck w=>trivial
theorem iN.mw{α β:Type}{t:Sem α}{t':Sem Flow}{r:R β}{rel:Pl→α→β→Prop}{g:β→gI→RS}{f:α→Sem Flow}(T:At S G gA K d sc H A env κ ρ Pr o φ σ s)(h:gK S gA A ((env.locals,o)::Pr) φ rel t s r)
 (rule:∀Q E,gL S.M A t (λx s'=>gL S.M A (f x) Q E s') E s→gL S.M A t' Q E s)
 (k:∀gE x v σ' s',Le φ gE→At S G gA K d sc H A env κ ρ Pr o gE σ' s'→rel gE x v→iN S G gA K d sc H A env κ Pr gE (f x) s' (g v σ')):iN S G gA K d sc H A env κ Pr φ t' s (r.run g):=by
 induction r with
 |stuck w=>trivial
 |exc x σ'=>trivial
 |ok v σ'=>
  exact iN.bind (P:=λx gE s'=>At S G gA K d sc H A env κ ρ Pr o gE σ' s'∧rel gE x v) (λQ E q=>h Q E λgE x s' l I r=>q gE x s' l ⟨T.step l I,r⟩) rule λgE x s' l p=>k gE x v σ' s' l p.1 p.2
theorem iN.DS{t:Sem Unit}{t':Sem Flow}{r:R Loc}{g:Loc→gI→RS}{f:Unit→Sem Flow}(h:j' S G gA K d sc H A env κ Pr φ t s r)
 (rule:∀Q E,gL S.M A t (λx s'=>gL S.M A (f x) Q E s') E s→gL S.M A t' Q E s)
 (k:∀gE o' ρ' σ' s',Le φ gE→At S G gA K d sc H A env κ ρ' Pr o' gE σ' s'→iN S G gA K d sc H A env κ Pr gE (f ()) s' (g ρ' σ')):iN S G gA K d sc H A env κ Pr φ t' s (r.run g):=by
 induction r with
 |stuck w=>trivial
 |exc x σ'=>trivial
 |ok ρ' σ'=>
  exact iN.bind (P:=λU gE s'=>∃o',At S G gA K d sc H A env κ ρ' Pr o' gE σ' s') (λQ E q=>h Q E λgE o' s' l T'=>q gE () s' l ⟨o',T'⟩) rule λgE x s' l ⟨o',T'⟩=>k gE o' ρ' σ' s' l T'
theorem iN.next(T:At S G gA K d sc H A env κ ρ Pr o φ σ s):iN S G gA K d sc H A env κ Pr φ (pure .next) s (.next ρ σ):=λQ E k=>gO (k φ o s (Le.refl φ) T)
end
def my(S:g8)(G:Top)(gA:Heap)(K:KE)(d:Nat)(sc:hU)(H:Bool)(A:g6)(env:Env)(κ:gX)(Pr:ik)(φ:Pl)(W:(Flow→gJ→Prop)→(gG→gJ→Prop)→Prop)(r:RS):Prop:=match r with
 | .next ρ' σ'=>∀(Q:Flow→gJ→Prop)(E:gG→gJ→Prop),(∀gE o' s',Le φ gE→At S G gA K d sc H A env κ ρ' Pr o' gE σ' s'→Q .next s')→W Q E
 | .brk ρ' σ'=>∀(Q:Flow→gJ→Prop)(E:gG→gJ→Prop),(∀gE o' s',Le φ gE→At S G gA K d sc H A env κ ρ' Pr o' gE σ' s'→Q .brk s')→W Q E
 | .cont ρ' σ'=>∀(Q:Flow→gJ→Prop)(E:gG→gJ→Prop),(∀gE o' s',Le φ gE→At S G gA K d sc H A env κ ρ' Pr o' gE σ' s'→Q .cont s')→W Q E
 | .ret v σ'=>∀(Q:Flow→gJ→Prop)(E:gG→gJ→Prop),(∀gE s' x,Le φ gE→Inv S gA gE Pr σ' s'→VR gE x v→Q (.ret x) s')→W Q E
 | .stuck _=>True
theorem my.bind{K:KE}{d:Nat}{A:g6}{env:Env}{κ:gX}{Pr:ik}{φ:Pl}{α:Type}{V:(Flow→gJ→Prop)→(gG→gJ→Prop)→Prop}{W:α→(Flow→gJ→Prop)→(gG→gJ→Prop)→gJ→Prop}{r:RS}{P:α→Pl→gJ→Prop}{V0:(α→gJ→Prop)→(gG→gJ→Prop)→Prop}
 (h:∀(Q:α→gJ→Prop)(E:gG→gJ→Prop),(∀gE x s',Le φ gE→P x gE s'→Q x s')→V0 Q E)
 (rule:∀Q E,V0 (λx s'=>W x Q E s') E→V Q E)
 (k:∀gE x s',Le φ gE→P x gE s'→my S G gA K d sc H A env κ Pr gE (λQ E=>W x Q E s') r):my S G gA K d sc H A env κ Pr φ V r:=by
 induction r with
 |next ρ σ=>exact λQ E q=>rule _ _ (h _ _ λgE x s' l p=>k gE x s' l p Q E λiv o' s'' l'=>q iv o' s'' (l.trans l'))
 |brk ρ σ=>exact λQ E q=>rule _ _ (h _ _ λgE x s' l p=>k gE x s' l p Q E λiv o' s'' l'=>q iv o' s'' (l.trans l'))
 |cont ρ σ=>exact λQ E q=>rule _ _ (h _ _ λgE x s' l p=>k gE x s' l p Q E λiv o' s'' l'=>q iv o' s'' (l.trans l'))
 |ret v σ=>exact λQ E q=>rule _ _ (h _ _ λgE x s' l p=>k gE x s' l p Q E λiv s'' x l'=>q iv s'' x (l.trans l'))
 |stuck w=>trivial
theorem my.mw{K:KE}{d:Nat}{A:g6}{env:Env}{κ:gX}{Pr:ik}{o:Obj}{ρ:Loc}{φ:Pl}{σ:gI}{s:gJ}{α β:Type}{t:Sem α}{V:(Flow→gJ→Prop)→(gG→gJ→Prop)→Prop}{W:α→(Flow→gJ→Prop)→(gG→gJ→Prop)→gJ→Prop}{r:R β}{rel:Pl→α→β→Prop}{g:β→gI→RS}(T:At S G gA K d sc H A env κ ρ Pr o φ σ s)(h:gK S gA A ((env.locals,o)::Pr) φ rel t s r)
 (rule:∀Q E,gL S.M A t (λx s'=>W x Q E s') E s→V Q E)
 (k:∀gE x v σ' s',Le φ gE→At S G gA K d sc H A env κ ρ Pr o gE σ' s'→rel gE x v→my S G gA K d sc H A env κ Pr gE (λQ E=>W x Q E s') (g v σ')):my S G gA K d sc H A env κ Pr φ V (r.run g):=by
 induction r with
 |stuck w=>trivial
 |exc x σ'=>trivial
 |ok v σ'=>exact my.bind (V0:=λQ E=>gL S.M A t Q E s) (P:=λx gE s'=>At S G gA K d sc H A env κ ρ Pr o gE σ' s'∧rel gE x v) (λQ E q=>h Q E λgE x s' l I r=>q gE x s' l ⟨T.step l I,r⟩) rule λgE x s' l p=>k gE x v σ' s' l p.1 p.2
theorem Kw:nR S G gA sc H [] oN:=λK d A env κ ρ Pr o φ σ s hK T=>iN.next T
theorem Kx{st:Stmt}{sts:List Stmt}{f g:VS}(h:kE S G gA sc H st f)(hr:nR S G gA sc H sts g):nR S G gA sc H (st::sts) (oO f g):=
 λK d A env κ ρ Pr o φ σ s hK T=>by
  have h1:=h K d A env κ ρ Pr o φ σ s hK T;show iN S G gA K d sc H A env κ Pr φ _ s ((f K ρ κ σ).then λρ σ=>g K ρ κ σ);rw[arm_execs_cons]
  induction e:f K ρ κ σ with
  |stuck w=>trivial
  |next ρ' σ'=>
   rw[e]at h1;show iN S G gA K d sc H A env κ Pr φ _ s (g K ρ' κ σ');refine iN.bind (t:=exec st env) (f:=λfl=>match fl with| .next=>execs sts env|f=>pure f) (P:=λfl gE s'=>fl= .next∧∃o',At S G gA K d sc H A env κ ρ' Pr o' gE σ' s') (λQ E q=>h1 Q E λgE o' s' l T'=>q gE _ s' l ⟨rfl,o',T'⟩) (λQ E q=>gH (jg q (λfl s' h=>by induction fl<;>exact h) λU U z=>z)) λgE x s' l ⟨e,o',T'⟩=>?_;subst e;exact hr K d A env κ ρ' Pr o' gE σ' s' hK T'
  |brk ρ' σ'=>rw[e]at h1;exact λQ E k=>gH (h1 _ _ λgE o' s' l T'=>gO (k gE o' s' l T'))
  |cont ρ' σ'=>rw[e]at h1;exact λQ E k=>gH (h1 _ _ λgE o' s' l T'=>gO (k gE o' s' l T'))
  |ret v σ'=>rw[e]at h1;exact λQ E k=>gH (h1 _ _ λgE s' x l I r=>gO (k gE s' x l I r))
noncomputable def s9(e:Expr):Bool:=sg 8 e&&(sg 9 e&&sg 10 e)
theorem A6(h:s9 e=true):swapsWith e t l env=pure false:=by
 cases e<;>first|rfl|exact gU h
theorem Ky(h:env.scope.kind= .function):interactive env=false:=by
 unfold interactive;rw[h];rfl
theorem U9(h:Q .next s):gL S.M A (dropValue e p v) Q E s:=by
 have N:gL S.M A (pure .next) Q E s:=gO h;have V:gL S.M A (dropValue (.List [] p) p v) Q E s:=by
  cases v with
  |ref a=>exact gH (ky (gH (wpAny_runValue (codeAny_builtin entry_let_go (show gL _ _ (ret .none) _ _ s from gO (gO h))))))
  |_=>exact N
 cases e with
 |Name=>exact N
 |_=>exact(show dropValue _ p v=dropValue (.List [] p) p v by kernel_rfl)▸V
theorem Kz(he:ib S G gA sc H e f)(hc:s9 e=true):kE S G gA sc H (.Expr e p) (pA f):=
 λK d A env κ ρ Pr o φ σ s hK T=>by
  rw[exec_Expr env e p (Ky (by rw[T.scope];exact T.kind)) (A6 hc)];exact iN.mw (f:=λv=>dropValue e p v) T (he K d A env κ ρ Pr o φ σ s hK T) (λQ E h=>gH (ky (gH h))) λgE y v σ' s' l T' r=>λQ E k=>U9 (k gE o s' (Le.refl gE) T')
noncomputable def xg(e:Expr):Bool:=sg 25 e
noncomputable def yN(e:Expr):Bool:=sg 25 e&&sg 24 e
theorem DT(h:yN t=true∨xg e=true):swappedStores [t] e env=pure none:=by
 have K:∀a b c,xg e=true→swappedStores [.Tuple a b c] e env=pure none:=λa b c h=>by cases e<;>first|rfl|exact gU h
 cases t with
 |Tuple a b c=>exact h.elim (λh=>gU h) (K a b c)
 |List a b=>exact h.elim (λh=>gU h) λh=>(show swappedStores [.List a b] e env=swappedStores [.Tuple a 0 b] e env by kernel_rfl).trans (K a 0 b h)
 |_=>rfl
theorem KA{t e:Expr}{p:Pos}{f:VE}{g:VT}(he:ib S G gA sc H e f)(ht:GoodG S G gA sc H t g)(hc:s9 e=true∨∀l env,env.scope.kind= .function→swapsWith e (some t) l env=pure false)(hs:yN t=true∨xg e=true)(hst:noStar t=true):kE S G gA sc H (.Assign [t] e p) (nN g f):=
 λK d A env κ ρ Pr o φ σ s hK T=>by
  rw[arm_exec_Assign];have hsw:swapsWithSole [t] e p.line env=pure false:=by
   rcases hc with h|h
   .exact A6 h
   .exact h _ _ (by rw[T.scope];exact T.kind)
  rw[hsw,DT hs,yM hst];refine iN.mw (f:=λv=>do assignAll v [assign t env];pure .next) T (he K d A env κ ρ Pr o φ σ s hK T) (λQ E h=>gH (ky (gH (gO (gH (jg h (λv s' hv=>gH (gO hv)) λU U z=>z)))))) λgE y v σ' s' l T' r=>?_;exact iN.DS (t:=assign t env y) (f:=λU=>pure .next) (ht K d A env κ ρ Pr o gE σ' s' y v hK T' r) (λQ E h=>gH h) λiv o' ρ' ju s'' l' nj=>iN.next nj
theorem U'{e:Expr}{p:Pos}{f:VE}(he:ib S G gA sc H e f):kE S G gA sc H (.Return (some e) p) (om f):=
 λK d A env κ ρ Pr o φ σ s hK T=>by
  rw[exec_Return_some];exact iN.mw (f:=λv=>pure (.ret v)) T (he K d A env κ ρ Pr o φ σ s hK T) (λQ E h=>gH (ky (gH h))) λgE y v σ' s' l T' r=>λQ E k=>gO (k gE s' y (Le.refl gE) (T'.inv.disown λx hx=>hO _ hx) r)
theorem Va:kE S G gA sc H (.Return none p) (om (lO .none)):=λK d A env κ ρ Pr o φ σ s hK T=>λQ E k=>wpAny_Return_none (k φ s _ (Le.refl φ) (T.inv.disown λx hx=>hO _ hx) (by constructor))
theorem Vb:kE S G gA sc H (.Pass p) qU:=λK d A env κ ρ Pr o φ σ s hK T=>λQ E k=>wpAny_Pass (k φ o s (Le.refl φ) T)
theorem Vc:kE S G gA sc H (.Break p) qP:=λK d A env κ ρ Pr o φ σ s hK T=>λQ E k=>wpAny_Break (k φ o s (Le.refl φ) T)
theorem Vd:kE S G gA sc H (.Continue p) qS:=λK d A env κ ρ Pr o φ σ s hK T=>λQ E k=>wpAny_Continue (k φ o s (Le.refl φ) T)
theorem Ve:kE S G gA sc H st (oo w):=λK d A env κ ρ Pr o φ σ s hK T=>trivial
theorem Vf{c:Expr}{b e:List Stmt}{p:Pos}{f:VE}{g h:VS}(hc:kD S G gA sc H c f)(hb:nR S G gA sc H b g)(he:nR S G gA sc H e h):kE S G gA sc H (.If c b e p) (qO f g h):=
 λK d A env κ ρ Pr o φ σ s hK T=>by
  rw[arm_exec_If];refine iN.mw (f:=λt=>if t=true then execs b env else execs e env) T (hc K d A env κ ρ Pr o φ σ s hK T) (λQ E h=>gH (ky (gH h))) λgE t tb σ' s' l T' r=>?_;have r:t=tb:=r;subst r
  induction t with
  |true=>exact hb K d A env κ ρ Pr o gE σ' s' hK T'
  |false=>exact he K d A env κ ρ Pr o gE σ' s' hK T'
def yO(op:Op)(o:Operator):Bool:=DK op o&&Op.casesOn op true true false
theorem KB(h:yO op o=true):(op= .add∧o= .Add)∨(op= .sub∧o= .Sub):=by
 refine gQ h λh1 h2=>?_;rw[of_decide_eq_true h1]
 induction op with
 |add=>exact .inl ⟨rfl,rfl⟩
 |sub=>exact .inr ⟨rfl,rfl⟩
 |mod=>exact gU h2
theorem Vg{x:Str}{p q:Pos}{e:Expr}{f:VE}{a:Ad}{op:Op}{o':Operator}(hk:sc.names.lookup x=some .local)(hn:S.nm a=some x)(he:ib S G gA sc H e f)(ho:yO op o'=true):kE S G gA sc H (.AugAssign (.Name x q) o' e p) (qK a op f):=
 λK d A env κ ρ Pr o φ σ s hK T=>by
  show iN S G gA K d sc H A env κ Pr φ _ s (match ρ.get a with|some v=>(f K ρ κ σ).run λb σ=>(vP op v b σ).run λv σ=>.next (ρ.set a v) σ|none=>.stuck 42)
  induction hv:ρ.get a with
  |none=>trivial
  |some v0=>
   refine gW T.ns λm h1 h2=>?_;have:=h2.1 a x hn;rw[hv]at this;refine gW this λy0 q1 q2=>?_;rw[arm_exec_AugAssign];have hks:env.scope.kind= .function:=by rw[T.scope];exact T.kind
   have hl:env.kindOf x=some .local:=by show env.scope.names.lookup x=_;rw[T.scope];exact hk
   refine iN.mw (f:=λv=>do PySem.standAt p;let new←operate [y0,v] (inplaceOp o' y0 v);PySem.standAt q;bindName env x new;pure .next) T (he K d A env κ ρ Pr o φ σ s hK T) (λQ E h=>gH (ky (gH (wpAny_loadName_local hks hl h1 q1 (gH (jt h)))))) λgE y v σ' s' l T' r=>?_;refine iN.mw (f:=λnew=>do PySem.standAt q;bindName env x new;pure .next) T' (gK.operate (vs:=[y0,y]) (JF T'.inv (q2.mono l) r (KB ho))) (λQ E h=>gH (ky (gH h))) λiv z w ju s'' l' nj r'=>?_;exact λQ E k=>gH (ky (gH (Ku nj hk hn r' λo' s3 T3=>gO (k iv o' s3 (Le.refl iv) T3))))
theorem Vh(FS:ly S gA){e v:Expr}{n:Str}{p q:Pos}{f g:VE}{x:Ad}{op:Op}{o':Operator}(he:ib S G gA sc H e f)(hv:ib S G gA sc H v g)(hn:S.nm x=some n)(ha:S.attr x=true)(ho:yO op o'=true):kE S G gA sc H (.AugAssign (.Attribute e n q) o' v p) (qN f x op g):=
 λK d A env κ ρ Pr o φ σ s hK T=>by
  rw[arm_exec_AugAssign_2];refine my.mw (W:=λov Q E s'=>gL S.M A (do
   let new←holding [ov] (do PySem.standAt q.atName;let old←PySem.getAttr ov n true;let v←holding [old] (eval v env);PySem.standAt p;operate [old,v] (inplaceOp o' old v))
   PySem.standAt q.atName
   holding [new,ov] (PySem.setAttr ov n new)
   release [new,ov] []
   pure .next) Q E s') T (he K d A env κ ρ Pr o φ σ s hK T) (λQ E h=>gH (ky (gH h))) λgE y u σ' s' l T' r=>?_
  have fin:∀(Q:Flow→gJ→Prop)(E:gG→gJ→Prop)(new:gG)(s3:gJ),gL S.M A (PySem.setAttr y n new) (λU s4=>Q .next s4) E s3→gL S.M A (do
   PySem.standAt q.atName
   holding [new,y] (PySem.setAttr y n new)
   release [new,y] []
   pure .next) Q E s3:=λQ E new s3 h=>gH (ky (gH (jt (jg h (λU s4 h4=>gH (wpAny_release (gO h4))) λU U z=>z))))
  refine my.mw (t:=PySem.getAttr y n true) (W:=λold Q E s1=>gL S.M A (eval v env) (λw s2=>gL S.M A (inplaceOp o' old w) (λnew s3=>gL S.M A (PySem.setAttr y n new) (λU s4=>Q .next s4) E s3) E s2) E s1) T' (by rw[T.KP];exact JM FS T'.inv r hn ha) (λQ E h=>?_) λiv z w ju s'' l' nj r'=>?_
  .refine gH (jt (gH (ky (gH (jg h (λold s1 h1=>?_) λU U z=>z)))));exact gH (jt (jg h1 (λw s2 h2=>gH (ky (wpAny_operating (jg h2 (λnew s3 h3=>fin Q E new s3 h3) λU U z=>z)))) λU U z=>z))
  refine my.mw (W:=λw Q E s2=>gL S.M A (inplaceOp o' z w) (λnew s3=>gL S.M A (PySem.setAttr y n new) (λU s4=>Q .next s4) E s3) E s2) nj (hv K d A env κ ρ Pr o iv ju s'' hK nj) (λQ E h=>h) λyF w' b σ3 s3 l3 T3 r3=>?_;refine my.mw (W:=λnew Q E s3=>gL S.M A (PySem.setAttr y n new) (λU s4=>Q .next s4) E s3) T3 (JF T3.inv (r'.mono l3) r3 (KB ho)) (λQ E h=>h) λVi w4 b4 A7 s4 l4 T4 r4=>?_;refine my.mw (W:=λU Q E s4=>Q .next s4) T4 (JN FS T4.inv (((r.mono l').mono l3).mono l4) r4 hn ha) (λQ E h=>h) λA8 U U xh s5 l5 T5 U=>λQ E k=>k A8 o s5 (Le.refl A8) T5
end
section
variable{S:g8}{G:Top}{gA:Heap}{sc:hU}{H:Bool}
def nk(S:g8)(G:Top)(gA:Heap)(K:KE)(d:Nat)(sc:hU)(H:Bool)(A:g6)(env:Env)(κ:gX)(Pr:ik)(φ:Pl)(r:RS)(fl:Flow)(s:gJ):Prop:=match r with
 | .next ρ' σ'=>fl= .next∧∃gE o',Le φ gE∧At S G gA K d sc H A env κ ρ' Pr o' gE σ' s
 | .brk ρ' σ'=>fl= .brk∧∃gE o',Le φ gE∧At S G gA K d sc H A env κ ρ' Pr o' gE σ' s
 | .cont ρ' σ'=>fl= .cont∧∃gE o',Le φ gE∧At S G gA K d sc H A env κ ρ' Pr o' gE σ' s
 | .ret v σ'=>∃x gE,fl= .ret x∧Le φ gE∧Inv S gA gE Pr σ' s∧VR gE x v
 | .stuck _=>True
noncomputable def RS.tZ:RS→Bool
 | .stuck _=>true
 |_=>false
section
variable{K:KE}{d:Nat}{A:g6}{env:Env}{κ:gX}{Pr:ik}{o:Obj}{ρ:Loc}{φ gE:Pl}{σ:gI}{s s':gJ}
theorem my.post{V:(Flow→gJ→Prop)→(gG→gJ→Prop)→Prop}(h:my S G gA K d sc H A env κ Pr φ V r)(hr:r.tZ=false)(E:gG→gJ→Prop):V (nk S G gA K d sc H A env κ Pr φ r) E:=by
 induction r with
 |next ρ σ=>exact h _ E λgE o' s' l T=>⟨rfl,gE,o',l,T⟩
 |brk ρ σ=>exact h _ E λgE o' s' l T=>⟨rfl,gE,o',l,T⟩
 |cont ρ σ=>exact h _ E λgE o' s' l T=>⟨rfl,gE,o',l,T⟩
 |ret v σ=>exact h _ E λgE s' x l I r=>⟨x,gE,rfl,l,I,r⟩
 |stuck w=>exact gU hr
theorem my.of_post{V:(Flow→gJ→Prop)→(gG→gJ→Prop)→Prop}(hm:∀Q Q' E,(∀f s,Q f s→Q' f s)→V Q E→V Q' E)(h:r.tZ=false→∀E,V (nk S G gA K d sc H A env κ Pr φ r) E):my S G gA K d sc H A env κ Pr φ V r:=by
 induction r with
 |next ρ σ=>exact λQ E k=>hm _ _ E (λf s hr=>by obtain⟨rfl,gE,o',l,T⟩:=hr;exact k gE o' s l T) (h rfl E)
 |brk ρ σ=>exact λQ E k=>hm _ _ E (λf s hr=>by obtain⟨rfl,gE,o',l,T⟩:=hr;exact k gE o' s l T) (h rfl E)
 |cont ρ σ=>exact λQ E k=>hm _ _ E (λf s hr=>by obtain⟨rfl,gE,o',l,T⟩:=hr;exact k gE o' s l T) (h rfl E)
 |ret v σ=>exact λQ E k=>hm _ _ E (λf s hr=>by refine lx hr λx gE Vj l I r=>?_;subst Vj;exact k gE s x l I r) (h rfl E)
 |stuck w=>trivial
theorem nk.le(l:Le φ gE)(h:nk S G gA K d sc H A env κ Pr gE r fl s):nk S G gA K d sc H A env κ Pr φ r fl s:=by
 induction r with
 |next ρ σ=>obtain⟨e,iv,o',l',T⟩:=h;exact⟨e,iv,o',l.trans l',T⟩
 |brk ρ σ=>obtain⟨e,iv,o',l',T⟩:=h;exact⟨e,iv,o',l.trans l',T⟩
 |cont ρ σ=>obtain⟨e,iv,o',l',T⟩:=h;exact⟨e,iv,o',l.trans l',T⟩
 |ret v σ=>refine lx h λx iv e l' I r=>?_;exact⟨x,iv,e,l.trans l',I,r⟩
 |stuck w=>trivial
theorem iN.post(h:iN S G gA K d sc H A env κ Pr φ t s r)(hr:r.tZ=false)(E:gG→gJ→Prop):gL S.M A t (nk S G gA K d sc H A env κ Pr φ r) E s:=
 my.post (V:=λQ E=>gL S.M A t Q E s) h hr E
theorem iN.of_post(h:r.tZ=false→∀E,gL S.M A t (nk S G gA K d sc H A env κ Pr φ r) E s):iN S G gA K d sc H A env κ Pr φ t s r:=
 my.of_post (V:=λQ E=>gL S.M A t Q E s) (λQ Q' E hq hv=>jg hv (λf s q=>hq f s q) λU U z=>z) h
end
theorem A9{α:Type}{r:R α}{g:α→gI→RS}(h:(r.run g).tZ=false):∃v σ,r= .ok v σ∧(g v σ).tZ=false:=by
 induction r with
 |ok v σ=>exact⟨v,σ,rfl,h⟩
 |exc x σ=>exact gU h
 |stuck w=>exact gU h
noncomputable def yP(L:Loc→gI→RS)(r:RS):RS:=match r with
 | .next ρ σ=>L ρ σ
 | .cont ρ σ=>L ρ σ
 | .brk ρ σ=>.next ρ σ
 |r=>r
theorem KC(h:iN S G gA K d sc H A env κ Pr φ t s q)(hr:r.tZ=false)(e:yP L q=r)
 (kn:∀ρ σ gE o' s',L ρ σ=r→Le φ gE→At S G gA K d sc H A env κ ρ Pr o' gE σ s'→C .next s'∧C .cont s')
 (kb:∀ρ σ gE o' s',RS.next ρ σ=r→Le φ gE→At S G gA K d sc H A env κ ρ Pr o' gE σ s'→C .brk s')
 (kr:∀v σ gE s' x,RS.ret v σ=r→Le φ gE→Inv S gA gE Pr σ s'→VR gE x v→C (.ret x) s'):gL S.M A t C E s:=by
 induction q with
 |stuck w=>rw[←show RS.stuck w=r from e]at hr;exact gU hr
 |next ρ σ=>exact h _ _ λgE o' s' l T=>(kn ρ σ gE o' s' e l T).1
 |cont ρ σ=>exact h _ _ λgE o' s' l T=>(kn ρ σ gE o' s' e l T).2
 |brk ρ σ=>exact h _ _ λgE o' s' l T=>kb ρ σ gE o' s' e l T
 |ret v σ=>exact h _ _ λgE s' x l I q=>kr v σ gE s' x e l I q
theorem KD(c:VE)(b o:VS)(K:KE)(κ:gX)(n:Nat)(ρ:Loc)(σ:gI):oP c b o K κ (n+1) ρ σ=(test c K ρ κ σ).run λt σ=>gT (o K ρ κ σ) (yP (oP c b o K κ n) (b K ρ κ σ)) t:=rfl
theorem Vk{c:Expr}{b e:List Stmt}{p:Pos}{f:VE}{g h:VS}(hc:kD S G gA sc H c f)(hb:nR S G gA sc H b g)(he:nR S G gA sc H e h):kE S G gA sc H (.While c b e p) (pB f g h):=
 λK d A env κ ρ Pr o φ σ s hK T=>by
  refine gen (pB f g h K ρ κ σ) λr hrd=>?_;refine iN.of_post λhr E=>wpAny_While (IW (λR=>codeAny S.M A (.whileLoop c b e env) R s) λR hR=>?_);have hrd:oP f g h K κ K.N ρ σ=r:=hrd;have hR:∀x y,nk S G gA K d sc H A env κ Pr φ r x y→R (.ok x) y:=λx y=>hR (.ok x) y;refine CR (λn s'=>∀C:Prop,(∀gE o' ρ' σ',Le φ gE→At S G gA K d sc H A env κ ρ' Pr o' gE σ' s'→oP f g h K κ n ρ' σ'=r→C)→C) λI h1 h2=>?_;refine codeAny_whileLoop I (λn s' hI=>?_) K.N (h2 _ _ λC k=>k φ o ρ σ (Le.refl φ) T hrd);refine h1 _ _ hI _ λgE o' ρ' σ' l T' e'=>?_
  induction n with
  |zero=>rw[←e']at hr;exact gU hr
  |succ n=>
   have hr':=hr;rw[←e',KD]at hr';refine jA (A9 hr') λt σ1 e1 hr1=>?_;have h0:=hc K d A env κ ρ' Pr o' gE σ' s' hK T';rw[KD,e1]at e';rw[e1]at h0;refine h0 _ _ λoW tb s1 l1 I1 et=>?_;have et:tb=t:=et;subst et;have T1:=T'.step l1 I1
   induction tb with
   |false=>
    have h2:=he K d A env κ ρ' Pr o' oW σ1 s1 hK T1;rw[show h K ρ' κ σ1=r from e']at h2;exact jg (h2.post hr _) (λfl s3 q=>hR _ _ (nk.le (l.trans l1) q)) λU U z=>z
   |true=>
    have l:=l.trans l1;exact KC (hb K d A env κ ρ' Pr o' oW σ1 s1 hK T1) hr e' (λkl σ2 kF o2 s2 e2 l2 T2=>have z:=⟨n,Ar n,h2 _ _ λC k=>k kF o2 kl σ2 (l.trans l2) T2 e2⟩;⟨z,z⟩)
     (λkl σ2 kF o2 s2 e2 l2 T2=>hR _ _ (e2▸⟨rfl,kF,o2,l.trans l2,T2⟩)) λv2 σ2 kF s2 x e2 l2 I2 r2=>hR _ _ (e2▸⟨x,kF,rfl,l.trans l2,I2,r2⟩)
end
section
variable{prog:lg}{w:jb}{A:g6}{E:gG→gJ→Prop}{s:gJ}{d it:Addr}{es:Array kJ}{ep i:Nat}
theorem Vl{Q:gG→gJ→Prop}(hd:(d==nA)=false)(ho:s.heap.get? d=some ⟨.type "dict",none,.dict es ep,#[]⟩)
 (hQ:Q (.ref s.heap.objs.size) {s with heap:=s.heap.push {cls:=.type "dict_keyiterator",data:=.fields #[.ref d,.int 0 0,.int es.size 0,.int ep 0]}}):
 gL (iJ prog w) A (pyIter (.ref d)) Q E s:=by
 have hT:s.TypeIs (.ref d) "dict":=⟨_,ho,rfl⟩;refine wpAny_pyIter_slot hT F.slot_dict_iter (l7 F.slot_dict_iter hT F.entry_dict_iter ?_ (F.args_dict_iter_1 _));refine gH (gH (wpAny_notOrdered_dict hT (gO ?_)));show gL _ _ (Builtin.Dict.showsAll d>>=_) _ _ s;unfold Builtin.Dict.showsAll;rw[if_neg (by rw[hd];exact jD)];refine gH (gO (gH (vF ho rfl (gH (wV ho rfl ?_)))));exact gH (mY (gO ⟨_,rfl,"dict_keyiterator",_,⟨_,j7 _ rfl,rfl⟩,F.slot_dict_keyiterator_next.lookup,by simpa[iZ]using hQ⟩))
theorem Vm{Q:Option gG→gJ→Prop}{e:kJ}(iB:s.heap.IsKeyIter it d i es.size ep)(ho:s.heap.get? d=some ⟨.type "dict",none,.dict es ep,#[]⟩)(hx:es[i]? =some e)
 (hQ:∀h',h'.IsKeyIter it d (i+1) es.size ep→i0 it s.heap h'→Q (some e.key) {s with heap:=h'}):gL (iJ prog w) A (pyNext (.ref it)) Q E s:=by
 refine jI (id iB) λoi xi hc hd=>?_;refine gH (wpAny_attempt (pU (name:=gM "__next__") iB.typeIs F.slot_dict_keyiterator_next
  (l7 F.slot_dict_keyiterator_next iB.typeIs F.entry_dict_keyiterator_next ?_ (F.args_dict_keyiterator_next_1 _))))
 refine gH (gO (gH (gH ?_)))
 first|refine gH (wpAny_typeNameOfWhole_keyiter iB.typeIs (gO ?_))|refine gH (wpAny_typeNameOf_keyiter iB.typeIs (gO ?_))
 refine gH (wpAny_fieldsOf xi hd ?_);have hown:Builtin.Dict_items.ownsTuple "dict_keyiterator"=false:=by decide
 rw[hown];show gL _ _ (if(gG.ref d==gG.none)=true then _ else _) _ _ s;refine jx (decide_eq_false (show¬((gG.ref d==gG.none)=true)from jD)) ?_;refine gH (gO (gH (vF ho rfl ?_)));refine jx (decide_eq_false (by simp)) ?_;refine gH (gO (gH (wV ho rfl ?_)));refine jx (decide_eq_false (by simp)) ?_;refine gO ?_;dsimp only;rw[if_neg (Int.not_lt.2 (Int.natCast_nonneg i)),Int.toNat_natCast,hx];refine gH ?_
 first|refine gH (wpAny_typeNameOfWhole_keyiter iB.typeIs (gO ?_))|refine gH (wpAny_typeNameOf_keyiter iB.typeIs (gO ?_))
 refine gH (wpAny_isOneOf_keyiter iB.typeIs ?_);show gL _ _ (setField (.ref it) 1 (iZ ((i:Int)+1))>>=_) _ _ s;refine gH (wpAny_setField xi hd (by simp) ?_);have lS:(s.heap.update it (Obj.mapFields (·.setIfInBounds 1 (iZ ((i:Int)+1))))).IsKeyIter it d (i+1) es.size ep:=
  ⟨_,vG _ xi (Obj.isFreed_of_fields (Obj.data_mapFields hd _)),(Obj.cls_mapFields ..).trans hc,by rw[Obj.data_mapFields hd];simp[iZ]⟩
 refine gH (jt (gH (wpAny_isOneOf_keyiter (s:={s with heap:=s.heap.update it (Obj.mapFields (·.setIfInBounds 1 (iZ ((i:Int)+1))))}) lS.typeIs ?_)));exact gO (gO ⟨_,rfl,gO (hQ _ lS (i0.update ..))⟩)
theorem Vn{Q:Option gG→gJ→Prop}(hh:A.handled=none)(iB:s.heap.IsKeyIter it d i es.size ep)(ho:s.heap.get? d=some ⟨.type "dict",none,.dict es ep,#[]⟩)(hx:es[i]? =none)
 (hQ:∀h',Heap.ExtBut it s.heap h'→Q none {s with heap:=h'}):gL (iJ prog w) A (pyNext (.ref it)) Q E s:=by
 refine jI (id iB) λoi xi hc hd=>?_;refine gH (wpAny_attempt (pU (name:=gM "__next__") iB.typeIs F.slot_dict_keyiterator_next
  (l7 F.slot_dict_keyiterator_next iB.typeIs F.entry_dict_keyiterator_next ?_ (F.args_dict_keyiterator_next_1 _))))
 refine gH (gO (gH (gH ?_)))
 first|refine gH (wpAny_typeNameOfWhole_keyiter iB.typeIs (gO ?_))|refine gH (wpAny_typeNameOf_keyiter iB.typeIs (gO ?_))
 refine gH (wpAny_fieldsOf xi hd ?_);have hown:Builtin.Dict_items.ownsTuple "dict_keyiterator"=false:=by decide
 rw[hown];show gL _ _ (if(gG.ref d==gG.none)=true then _ else _) _ _ s;refine jx (decide_eq_false (show¬((gG.ref d==gG.none)=true)from jD)) ?_;refine gH (gO (gH (vF ho rfl ?_)));refine jx (decide_eq_false (by simp)) ?_;refine gH (gO (gH (wV ho rfl ?_)));refine jx (decide_eq_false (by simp)) ?_;refine gO ?_;dsimp only;rw[if_neg (Int.not_lt.2 (Int.natCast_nonneg i)),Int.toNat_natCast,hx];refine gH ?_
 first|refine gH (wpAny_typeNameOfWhole_keyiter iB.typeIs (gO ?_))|refine gH (wpAny_typeNameOf_keyiter iB.typeIs (gO ?_))
 show gL _ _ (setField (.ref it) 0 .none>>=_) _ _ s;refine gH (wpAny_setField xi hd (by simp) ?_);show gL _ _ (newExc (.type "StopIteration") []>>=_) _ _ _;refine gH ?_;unfold newExc newTuple;refine gH (mY ?_ (by size_fits));refine gH (m:=firstArgMember _ _) (wpAny_of_eq (a:=gG.none) (by first|rfl|(simp only[firstArgMember];rfl)) ?_);refine mY ?_ (by size_fits);unfold raiseNew;refine gH (wpAny_handled ?_);rw[show A.in1.handled=none from hh];refine gH (gO (wpAny_throw ?_));refine gH (wpAny_isInstance (T:="StopIteration") (b:=true) ⟨_,j7 _ rfl,rfl⟩ isSubtype_stop ?_);exact gO (hQ _ (((i0.update ..).extBut.push _).push _))
end
section
variable{prog:lg}{w:jb}{A:g6}{E:gG→gJ→Prop}{s:gJ}{it t e:Addr}{i:Nat}{items:Array gG}{x old:gG}
theorem Vo(iB:s.heap.IsTupleIter it t i)(ht:s.heap.IsTuple t items)(hx:items[i]? =some x)
 (hQ:∀h',h'.IsTupleIter it t (i+1)→i0 it s.heap h'→Q x {s with heap:=h'}):gL (iJ prog w) A (Builtin.SmallTypes.nextOf (.ref it)) Q E s:=by
 refine jI (id iB) λo ho hc hd=>?_;obtain⟨ol,DU,_,nl,hdl⟩:=ht;unfold Builtin.SmallTypes.nextOf;refine gH (pU (name:=gM "__next__") iB.typeIs F.slot_tuple_iterator_next
  (l7 F.slot_tuple_iterator_next iB.typeIs F.entry_tuple_iterator_next ?_ (F.args_tuple_iterator_next_1 _)))
 show gL _ _ (field (.ref it) 0>>=_) _ _ s;refine gH (oI ho hd (x:=.ref t) rfl ?_);show gL _ _ (if(gG.ref t==gG.none)=true then _ else _) _ _ s;refine jx (decide_eq_false (show¬((gG.ref t==gG.none)=true)from jD)) ?_;show gL _ _ (field (.ref it) 1>>=_) _ _ s;refine gH (oI ho hd (x:=.int i 0) rfl ?_);show gL _ _ (seqItems? (.ref t)>>=_) _ _ s;refine gH (wpAny_seqItems DU hdl ?_);dsimp only;rw[Int.toNat_natCast,hx];refine gH (wpAny_setField ho hd (by simp) (gO ⟨x,rfl,gO (hQ _ ?_ (i0.update ..))⟩));exact⟨_,vG _ ho (Obj.isFreed_of_fields (Obj.data_mapFields hd _)),(Obj.cls_mapFields ..).trans hc,by
  rw[Obj.data_mapFields hd];simp[iZ]⟩
theorem Vp(hh:A.handled=none)(iB:s.heap.IsTupleIter it t i)(ht:s.heap.IsTuple t items)(hx:items[i]? =none)
 (hE:∀h' e,Heap.ExtBut it s.heap h'→(∃o,h'.get? e=some o∧o.cls= .type "StopIteration")→E (.ref e) {s with heap:=h'}):gL (iJ prog w) A (Builtin.SmallTypes.nextOf (.ref it)) Q E s:=by
 refine jI (id iB) λo ho hc hd=>?_;obtain⟨ol,DU,_,nl,hdl⟩:=ht;unfold Builtin.SmallTypes.nextOf;refine gH (pU (name:=gM "__next__") iB.typeIs F.slot_tuple_iterator_next
  (l7 F.slot_tuple_iterator_next iB.typeIs F.entry_tuple_iterator_next ?_ (F.args_tuple_iterator_next_1 _)))
 show gL _ _ (field (.ref it) 0>>=_) _ _ s;refine gH (oI ho hd (x:=.ref t) rfl ?_);show gL _ _ (if(gG.ref t==gG.none)=true then _ else _) _ _ s;refine jx (decide_eq_false (show¬((gG.ref t==gG.none)=true)from jD)) ?_;show gL _ _ (field (.ref it) 1>>=_) _ _ s;refine gH (oI ho hd (x:=.int i 0) rfl ?_);show gL _ _ (seqItems? (.ref t)>>=_) _ _ s;refine gH (wpAny_seqItems DU hdl ?_);dsimp only;rw[Int.toNat_natCast,hx];refine gH (sO (gH (wpAny_setField ho hd (by simp) ?_)));show gL _ _ (newExc (.type "StopIteration") []>>=_) _ _ _;refine gH ?_;unfold newExc newTuple;refine gH (mY ?_ (by size_fits));refine gH (m:=firstArgMember _ _) (wpAny_of_eq (a:=gG.none) (by first|rfl|(simp only[firstArgMember];rfl)) ?_);refine mY ?_ (by size_fits);unfold raiseNew;refine gH (wpAny_handled ?_)
 first|rw[show A.in1.handled=none from hh]|rw[hh]
 refine gH (gO (wpAny_throw ?_));exact hE _ _ (((i0.update ..).extBut.push _).push _) ⟨_,j7 _ rfl,rfl⟩
theorem Vq(hh:A.handled=none)(he:IsEnum s.heap e it i old)(iB:s.heap.IsTupleIter it t i)(ht:s.heap.IsTuple t items)(hx:items[i]? =none)
 (hQ:∀h',Heap.ExtBut it s.heap h'→Q none {s with heap:=h'}):gL (iJ prog w) A (pyNext (.ref e)) Q E s:=by
 have hT:s.TypeIs (.ref e) "enumerate":=⟨_,he,rfl⟩;unfold pyNext;refine gH (wpAny_attempt (pU (name:=gM "__next__") hT F.slot_enumerate_next
  (l7 F.slot_enumerate_next hT F.entry_enumerate_next ?_ (F.args_enumerate_next_1 _))))
 show gL _ _ (field (.ref e) 2>>=_) _ _ _;refine gH (oI he rfl (x:=.ref it) rfl ?_);refine gH (Vp hh iB ht hx λh' x he' hx'=>?_);refine gW hx' λo ho hc=>?_;refine gH (wpAny_isInstance (T:="StopIteration") (b:=true) ⟨o,ho,hc⟩ isSubtype_stop ?_);exact gO (hQ _ he')
theorem Vr(he:IsEnum s.heap e it i old)(iB:s.heap.IsTupleIter it t i)(ht:s.heap.IsTuple t items)(hx:items[i]? =some x)(hne:e≠it)
 (hQ:∀h',IsEnumOut h' e it ((i:Int)+1) x s.heap.objs.size→h'.IsTupleIter it t (i+1)→h'.get? s.heap.objs.size=some {cls:=.type "tuple",data:=.seq #[.int i s.toks,x]}→h'.objs.size=s.heap.objs.size+1→
  (∀b o,b≠e→b≠it→s.heap.get? b=some o→h'.get? b=some o)→Q (some (.ref s.heap.objs.size)) {s with heap:=h',toks:=s.toks+1}):gL (iJ prog w) A (pyNext (.ref e)) Q E s:=by
 have hT:s.TypeIs (.ref e) "enumerate":=⟨_,he,rfl⟩;unfold pyNext;refine gH (wpAny_attempt (pU (name:=gM "__next__") hT F.slot_enumerate_next
  (l7 F.slot_enumerate_next hT F.entry_enumerate_next ?_ (F.args_enumerate_next_1 _))))
 obtain⟨hp,g,d,tk,os⟩:=s;show gL _ _ (field (.ref e) 2>>=_) _ _ _;refine gH (oI he rfl (x:=.ref it) rfl ?_);refine gH (Vo iB ht hx λh₁ KF hs₁=>?_)
 replace hs₁:i0 it hp h₁:=hs₁
 have sj:IsEnum h₁ e it i old:=(hs₁.2 e hne).trans he;show gL _ _ (field (.ref e) 3>>=_) _ _ ⟨h₁,g,d,tk,os⟩;refine gH (oI sj rfl (x:=iZ i) rfl ?_);show gL _ _ (field (.ref e) 4>>=_) _ _ ⟨h₁,g,d,tk,os⟩;refine gH (oI sj rfl (x:=.none) rfl ?_);show gL _ _ (mkInt i>>=_) _ _ ⟨h₁,g,d,tk,os⟩;refine gH (wpAny_mkInt ?_);show gL _ _ (setField (.ref e) 3 (iZ ((i:Int)+1))>>=_) _ _ ⟨h₁,g,d,tk+1,os⟩;refine gH (tF sj (by simp) λh₂ sk hs₂=>?_)
 replace hs₂:i0 e h₁ h₂:=hs₂
 replace sk:IsEnum h₂ e it ((i:Int)+1) old:=sk
 show gL _ _ (setField (.ref e) 4 .none>>=_) _ _ ⟨h₂,g,d,tk+1,os⟩;refine gH (tF sk (by simp) λh₃ t9 pL=>?_)
 replace pL:i0 e h₂ h₃:=pL
 replace t9:IsEnum h₃ e it ((i:Int)+1) old:=t9
 show gL _ _ (newTuple [.int i tk,x]>>=_) _ _ ⟨h₃,g,d,tk+1,os⟩;refine gH (wpAny_newTuple ?_);have ua:IsEnum (h₃.push {cls:=.type "tuple",data:=.seq #[.int i tk,x]}) e it ((i:Int)+1) old:=ja _ t9;generalize yQ:h₃.push {cls:=.type "tuple",data:=.seq #[.int i tk,x]}=h₄ at ua;have ij:h₃.objs.size=hp.objs.size:=by rw[pL.1,hs₂.1,hs₁.1]
 have hel:e<hp.objs.size:=mF he;have Vs:h₄.get? hp.objs.size=some {cls:=.type "tuple",data:=.seq #[.int i tk,x]}:=by rw[←yQ,←ij];exact j7 _ rfl
 have Vt:h₄.objs.size=hp.objs.size+1:=by rw[←yQ,Heap.size_push,ij]
 have Vu:∀b o,b≠e→b≠it→hp.get? b=some o→h₄.get? b=some o:=λb o v3 hbi hb=>by
  rw[←yQ];exact ja _ (pL.extBut b o v3 (hs₂.extBut b o v3 (hs₁.extBut b o hbi hb)))
 have up:∀{k k':Heap},k.IsTupleIter it t (i+1)→i0 e k k'→k'.IsTupleIter it t (i+1):=λ{k k'} z sb=>let⟨o,q,r⟩:=z;⟨o,sb.extBut _ _ (Ne.symm hne) q,r⟩;have Vv:h₄.IsTupleIter it t (i+1):=by
  rw[←yQ];refine gW (up (up KF hs₂) pL) λo ho r=>?_;exact⟨o,ja _ ho,r⟩
 show gL _ _ (Builtin.SmallTypes.ownedTupleIsFree (.ref e)>>=_) _ _ ⟨h₄,g,d,tk+1,os⟩;rw[ij];clear yQ t9 pL sk hs₂ sj hs₁ KF ij h₃ h₂ h₁;refine gH ?_
 .unfold Builtin.SmallTypes.ownedTupleIsFree;refine gH (oI ua rfl (x:=.none) rfl (gO ?_));refine vE (decide_eq_true rfl) ?_;refine gH (sO ?_);refine gH (oI ua rfl (x:=old) rfl ?_);refine gH (tF ua (by simp) λh₅ v5 pM=>?_)
  replace pM:i0 e h₄ h₅:=pM
  replace v5:IsEnum h₅ e it ((i:Int)+1) x:=v5
  show gL _ _ (Builtin.SmallTypes.ownedTupleHandOut (.ref e) (.ref hp.objs.size)>>=_) _ _ ⟨h₅,g,d,tk+1,os⟩;refine gH ?_;unfold Builtin.SmallTypes.ownedTupleHandOut;refine gH (tF v5 (by simp) λh₆ v7 pN=>?_)
  replace pN:i0 e h₅ h₆:=pN
  replace v7:IsEnumOut h₆ e it ((i:Int)+1) x hp.objs.size:=v7
  refine tF v7 (by simp) λDV DW xj=>?_
  replace xj:i0 e h₆ DV:=xj
  replace DW:IsEnumOut DV e it ((i:Int)+1) x hp.objs.size:=DW
  refine gH (wpAny_letGo (gO ⟨_,rfl,gO (hQ DV DW (up (up (up Vv pM) pN) xj) ?_ ?_ ?_)⟩))
  .exact xj.extBut _ _ (Nat.ne_of_gt hel) (pN.extBut _ _ (Nat.ne_of_gt hel) (pM.extBut _ _ (Nat.ne_of_gt hel) Vs))
  .rw[xj.1,pN.1,pM.1,Vt]
  .exact λb o v3 hbi hb=>xj.extBut b o v3 (pN.extBut b o v3 (pM.extBut b o v3 (Vu b o v3 hbi hb)))
end
end Mini.Internal
namespace Mini.Internal
open PySem
open Sem (wp)
open AutoSeq1 (wpAny_loadPart')
theorem Vw(h:∀b,Q b s):gL (iJ prog w) A (Builtin.SmallTypes.calledThroughType c) Q E s:=gH (wpAny_stack_any λst=>gO (h _))
set_option tactic.hygienic true in
theorem Vx(l:Addr)(items:Array gG)(n:Nat)(dct:Option Addr)(sl:Array (Option gG)):
 Meets (Builtin.«enumerate.__new__» ⟨[.type "enumerate",.ref l],[]⟩) (λU R s=>s.heap.get? l=some {cls:=.type "tuple",dict:=dct,data:=.seq items n,slots:=sl}∧
  R (.ok (.ret (.ref (s.heap.push {cls:=.type "tuple_iterator",data:=.fields #[.ref l,.int 0 0]}).objs.size)))
   {s with heap:=(s.heap.push {cls:=.type "tuple_iterator",data:=.fields #[.ref l,.int 0 0]}).push {cls:=.type "enumerate",data:=.fields #[.none,.bool false,.ref s.heap.objs.size,iZ 0,.none,.none]}}):=
 .of_wp λprog w A R s h=>by
  obtain⟨hl,h⟩:=h;have hsub:=sub_enumerate;have hL:Heap.IsTuple s.heap l items:=⟨_,hl,rfl,n,rfl⟩
  wp_walk using wpAny_loadPart' hl,Vw
  intro b;cases b<;>wp_walk using wpAny_loadPart' hl,wpAny_pyIter_tuple hL
  all_goals exact⟨_,rfl,h⟩
section
variable{prog:lg}{w:jb}{A:g6}{E:gG→gJ→Prop}{s:gJ}
theorem Vy(hl:s.heap.get? l=some ⟨.type "tuple",none,.seq items n,#[]⟩)
 (h:∀h',IsEnum h' (s.heap.objs.size+1) s.heap.objs.size 0 .none→h'.IsTupleIter s.heap.objs.size l 0→h'.objs.size=s.heap.objs.size+2→
  (∀b o,s.heap.get? b=some o→h'.get? b=some o)→Q (.ref (s.heap.objs.size+1)) {s with heap:=h'}):
 gL (iJ prog w) A (call (.type "enumerate") [.ref l]) Q E s:=by
 refine callType_new F.called_enumerate (by decide) (F.typeCall_enumerate_1 _) (F.newCall_enumerate_1 _) (λobj=>F.args_object_init_2 obj _) F.entry_enumerate_new
  (Vx l items n none #[]) ⟨hl,?_⟩
 have hz:(s.heap.push {cls:=.type "tuple_iterator",data:=.fields #[.ref l,.int 0 0]}).objs.size=s.heap.objs.size+1:=Heap.size_push ..;rw[hz];have he:IsEnum ((s.heap.push {cls:=.type "tuple_iterator",data:=.fields #[.ref l,.int 0 0]}).push
  {cls:=.type "enumerate",data:=.fields #[.none,.bool false,.ref s.heap.objs.size,iZ 0,.none,.none]}) (s.heap.objs.size+1) s.heap.objs.size 0 .none:=by
  have:=j7 (s.heap.push {cls:=.type "tuple_iterator",data:=.fields #[.ref l,.int 0 0]})
   (o:={cls:=.type "enumerate",data:=.fields #[.none,.bool false,.ref s.heap.objs.size,iZ 0,.none,.none]}) rfl
  rw[hz]at this;exact this
 refine⟨⟨_,he,rfl⟩,h _ he ⟨_,ja _ (j7 _ rfl),rfl,rfl⟩ (by rw[Heap.size_push,hz]) λb o x=>ja _ (ja _ x)⟩
end
end Mini.Internal
namespace Mini.Internal
open PySem hiding run load update alloc
open PySem (Value Addr Obj Heap Shared Str Data DictEntry World Around PyData Reads ReadsAll)
open PySem.W
section
variable{S:g8}{G:Top}{gA:Heap}{sc:hU}{H:Bool}
variable{φ:Pl}{Pr:ik}{σ:gI}{s:gJ}
theorem Inv.DX(I:Inv S gA φ Pr σ s){X:Addr→Prop}{h':Heap}(hi0:∀i,X i→∀o,s.heap.get? i=some o→o.cls≠.type "tuple")(hb0:∀i,X i→gA.get? i=none)(v8:∀i,X i→∀p,φ p≠some i)(hp0:∀i,X i→∀x∈Pr,x.1≠i)(hk:∀b o,¬X b→s.heap.get? b=some o→h'.get? b=some o)(tk:Nat)(dr:Drawn):Inv S gA φ Pr σ ⟨h',s.gens,dr,tk,s.os⟩where
 keep b o e:=hk b o (λz=>by rw[hb0 _ z]at e;exact gV e) (I.keep b o e)
 dom:=I.dom
 inj:=I.inj
 new:=I.new
 low p a e:=by refine jn (I.low p a e) λo z=>?_;exact⟨o,hk _ _ (λz'=>v8 _ z' p e) z⟩
 obj p ob e:=by
  refine gW (I.obj p ob e) λa h1 h2=>?_;refine⟨a,h1,?_⟩;have na:¬X a:=λz=>v8 _ z p h1;have g:∀q d kW,φ q=some d→s.heap.get? d=some kW→h'.get? d=s.heap.get? d:=λq d kW hq e=>by rw[hk d kW (λz=>v8 _ z q hq) e,e]
  have kt:js s.heap h':=λb o e c=>hk b o (λz=>hi0 _ z _ e c) e
  induction ob with
  |aux=>trivial
  |inst c k fs=>
   obtain⟨C,d,q1,q2,q3,es,ep,q4,q5⟩:=h2;exact OR.mono (λU U z=>z) kt (g _ _ _ h1 q3) (λU d' e=>by rw[q1]at e;obtain rfl:=gP e;exact g _ _ _ q1 q4) (⟨C,d,q1,q2,q3,es,ep,q4,q5⟩:OR S φ s.heap p a (.inst c k fs))
  |fn k κ=>
   obtain⟨od,fd,sl,c,d,q1,q2,q3,q4,q5,q6,q7⟩:=h2;refine OR.mono (λU U z=>z) kt (g _ _ _ h1 q1) (λU d' e=>?_) (⟨od,fd,sl,c,d,q1,q2,q3,q4,q5,q6,q7⟩:OR S φ s.heap p a (.fn k κ));rw[q4]at e;obtain rfl:=gP e;refine CU q6 λc' o' vs t z1 z2 U=>?_;rw[q5]at z1;cases z1;exact g _ _ _ q4 z2
  |list xs=>
   refine iH h2 λvs n q1 q2 q3=>?_;exact⟨vs,n,hk _ _ na q1,q2,q3⟩
  |tuple xs=>
   refine iH h2 λvs n q1 q2 q3=>?_;exact⟨vs,n,hk _ _ na q1,q2,q3⟩
  |dict es=>
   obtain⟨⟨jq,ep,q1,q2⟩,q3,q4,q5⟩:=h2;exact⟨⟨jq,ep,hk _ _ na q1,q2.mono λU U z=>z.mono (λU U z=>z) kt⟩,q3,q4,λo en e' z1 z2=>q5 o en e' (q1.trans ((hk _ _ na q1).symm.trans z1)) z2⟩
  |set cs=>
   refine jA h2 λT n Vz q3=>?_;refine IZ Vz λo es ep t q1 q2=>?_;exact⟨T,n,⟨o,es,ep,t,hk _ _ na q1,q2⟩,q3⟩
  |jH=>
   refine tR h2 λxs vs n VA q1 q2 q3=>?_;exact⟨xs,vs,n,VA,hk _ _ na q1,q2,q3⟩
  |tab ks=>
   obtain⟨q0,ps,q1,q2⟩:=h2;exact⟨q0,ps,hk _ _ na q1,q2⟩
  |cell v=>
   refine gW h2 λx q1 q2=>?_;exact⟨x,hk _ _ na q1,q2⟩
 kU:=I.kU
 mh:=I.mh
 pr x hx:=by
  refine kM (I.pr x hx) λVB q3 q4=>?_;refine gW VB λo q1 q2=>?_;exact⟨⟨o,hk _ _ (λz=>hp0 _ z x hx rfl) q1,q2⟩,q3,q4⟩
 gens:=I.gens
 os:=I.os
 sys:=I.sys
 st:=I.st
 tb:=I.tb
end
section
variable{prog:lg}{w:jb}{A:g6}{E:gG→gJ→Prop}{s:gJ}{d it:Addr}{es:Array kJ}{ep i:Nat}{ok ov:gG}
theorem VC(hd:(d==nA)=false)(ho:s.heap.get? d=some ⟨.type "dict",none,.dict es ep,#[]⟩)
 (hQ:Q (.ref s.heap.objs.size) {s with heap:=s.heap.push {cls:=.type "dict_items",data:=.fields #[.ref d]}}):
 gL (iJ prog w) A (call (.builtin "dict.items") [.ref d]) Q E s:=by
 have hT:s.TypeIs (.ref d) "dict":=⟨_,ho,rfl⟩;refine l7 F.slot_dict_items hT F.entry_dict_items ?_ (F.args_dict_items_1 _);refine gH ?_;refine gH (wpAny_notOrdered_dict hT ?_);refine gO ?_;unfold Builtin.Dict.showsAll;rw[if_neg (by rw[hd];exact jD)];refine gH (gO ?_);exact gH (mY (gO ⟨_,rfl,hQ⟩))
theorem VD(hv:s.heap.get? v=some {cls:=.type "dict_items",data:=.fields #[.ref d]})(ho:s.heap.get? d=some ⟨.type "dict",none,.dict es ep,#[]⟩)
 (hQ:Q (.ref s.heap.objs.size) {s with heap:=s.heap.push {cls:=.type "dict_itemiterator",data:=.fields #[.none,.bool false,.ref d,.int 0 0,.int es.size 0,.int ep 0,.none,.none]}}):
 gL (iJ prog w) A (pyIter (.ref v)) Q E s:=by
 have hT:s.TypeIs (.ref v) "dict_items":=⟨_,hv,rfl⟩;refine wpAny_pyIter_slot hT F.slot_dict_items_iter (l7 F.slot_dict_items_iter hT F.entry_dict_items_iter ?_ (F.args_dict_items_iter_1 _));refine gH (gO ?_);refine gH ?_;refine gH (oI hv rfl (x:=.ref d) rfl (gO ?_));refine gH ?_;refine gH (vF ho rfl ?_);refine gH (wV ho rfl ?_);have hown:Builtin.Dict_items.ownsTuple "dict_itemiterator"=true:=by decide
 simp only[hown,if_true];refine mY (gO ⟨_,rfl,"dict_itemiterator",_,⟨_,j7 _ rfl,rfl⟩,F.slot_dict_itemiterator_next.lookup,?_⟩)
  (by simp only[sizeOk,Builtin.Dict_items.ownedTupleFields,List.size_toArray,jm,mZ,List.length_nil,sizeLine_eq];lia)
 simpa[iZ,Builtin.Dict_items.ownedTupleFields]using hQ
theorem VF(iB:IsItemIter s.heap it d i es.size ep ok ov)(ho:s.heap.get? d=some ⟨.type "dict",none,.dict es ep,#[]⟩)(hx:es[i]? =some e)
 (hQ:∀h',IsItemIterOut h' it d (i+1) es.size ep e.key e.val s.heap.objs.size→
  h'.get? s.heap.objs.size=some {cls:=.type "tuple",data:=.seq #[e.key,e.val]}→h'.objs.size=s.heap.objs.size+1→
  (∀b o,b≠it→s.heap.get? b=some o→h'.get? b=some o)→Q (some (.ref s.heap.objs.size)) {s with heap:=h'}):
 gL (iJ prog w) A (pyNext (.ref it)) Q E s:=by
 obtain⟨hp,g,dr,tk,os⟩:=s;have hT:gJ.TypeIs ⟨hp,g,dr,tk,os⟩ (.ref it) "dict_itemiterator":=⟨_,iB,rfl⟩;unfold pyNext;refine gH (wpAny_attempt (pU (name:=gM "__next__") hT F.slot_dict_itemiterator_next
  (l7 F.slot_dict_itemiterator_next hT F.entry_dict_itemiterator_next ?_ (F.args_dict_itemiterator_next_1 _))))
 refine gH (gO ?_);refine gH ?_;refine gH ?_
 first|refine gH (wpAny_typeNameOfWhole_itemiter hT (gO ?_))|refine gH (wpAny_typeNameOf_itemiter hT (gO ?_))
 refine gH (wpAny_fieldsOf iB rfl ?_);have hown:Builtin.Dict_items.ownsTuple "dict_itemiterator"=true:=by decide
 rw[hown];show gL _ _ (if(gG.ref d==gG.none)=true then _ else _) _ _ _;refine jx (decide_eq_false (show¬((gG.ref d==gG.none)=true)from jD)) ?_;refine gH (gO ?_);refine gH (vF ho rfl ?_);refine jx (decide_eq_false (by simp)) ?_;refine gH (gO ?_);refine gH (wV ho rfl ?_);refine jx (decide_eq_false (by simp)) ?_;refine gO ?_;dsimp only;rw[if_neg (Int.not_lt.2 (Int.natCast_nonneg i)),Int.toNat_natCast,hx];refine gH ?_
 first|refine gH (wpAny_typeNameOfWhole_itemiter hT (gO ?_))|refine gH (wpAny_typeNameOf_itemiter hT (gO ?_))
 refine gH (wpAny_isOneOf_itemiter hT ?_);show gL _ _ (setField (.ref it) 3 (iZ ((i:Int)+1))>>=_) _ _ ⟨hp,g,dr,tk,os⟩;refine gH (tF iB (by simp) λh₁ sj hs₁=>?_)
 replace hs₁:i0 it hp h₁:=hs₁
 replace sj:IsItemIter h₁ it d (i+1) es.size ep ok ov:=by
  have e:((i+1:Nat):Int)=(i:Int)+1:=by lia
  unfold IsItemIter;rw[e];simpa[iZ]using sj
 have hT₁:gJ.TypeIs ⟨h₁,g,dr,tk,os⟩ (.ref it) "dict_itemiterator":=⟨_,sj,rfl⟩;refine gH (jt ?_);refine gH (wpAny_isOneOf_itemiter hT₁ ?_);refine gH (wpAny_isOneOf_itemiter hT₁ ?_);show gL _ _ (Builtin.Dict_items.pairFromOwner (.ref it) 6 e.key e.val) _ _ ⟨h₁,g,dr,tk,os⟩;unfold Builtin.Dict_items.pairFromOwner;refine gH (wpAny_newTuple ?_);have sk:IsItemIter (h₁.push {cls:=.type "tuple",data:=.seq #[e.key,e.val]}) it d (i+1) es.size ep ok ov:=ja _ sj;generalize Ba:h₁.push {cls:=.type "tuple",data:=.seq #[e.key,e.val]}=h₂ at sk;have Bb:h₁.objs.size=hp.objs.size:=hs₁.1;have hil:it<hp.objs.size:=mF iB;have VG:h₂.get? hp.objs.size=some {cls:=.type "tuple",data:=.seq #[e.key,e.val]}:=by rw[←Ba,←Bb];exact j7 _ rfl
 have VH:h₂.objs.size=hp.objs.size+1:=by rw[←Ba,Heap.size_push,Bb]
 have hk₂:∀b o,b≠it→hp.get? b=some o→h₂.get? b=some o:=λb o hb e=>by rw[←Ba];exact ja _ (hs₁.extBut b o hb e)
 show gL _ _ (Builtin.Dict_items.ownedTupleIsFree (.ref it)>>=_) _ _ ⟨h₂,g,dr,tk,os⟩;rw[Bb];clear Ba sj hs₁ hT₁ Bb h₁;refine gH ?_;unfold Builtin.Dict_items.ownedTupleIsFree;refine gH (oI sk rfl (x:=.none) rfl (gO ?_));refine vE (decide_eq_true rfl) ?_;refine gH (oI sk rfl (x:=ok) rfl ?_);refine gH (oI sk rfl (x:=ov) rfl ?_);refine gH (tF sk (by simp) λh₃ t9 pL=>?_)
 replace pL:i0 it h₂ h₃:=pL
 replace t9:IsItemIter h₃ it d (i+1) es.size ep e.key ov:=t9
 refine gH (tF t9 (by simp) λh₄ ua yR=>?_)
 replace yR:i0 it h₃ h₄:=yR
 replace ua:IsItemIter h₄ it d (i+1) es.size ep e.key e.val:=ua
 refine gH (tF ua (by simp) λh₅ v5 pM=>?_)
 replace pM:i0 it h₄ h₅:=pM
 replace v5:IsItemIterOut h₅ it d (i+1) es.size ep e.key e.val hp.objs.size:=v5
 refine gH (tF v5 (by simp) λh₆ v7 pN=>?_)
 replace pN:i0 it h₅ h₆:=pN
 replace v7:IsItemIterOut h₆ it d (i+1) es.size ep e.key e.val hp.objs.size:=v7
 refine gH (wpAny_letGo (gO (gO ⟨_,rfl,gO (hQ h₆ v7 ?_ ?_ ?_)⟩)))
 .exact pN.extBut _ _ (Nat.ne_of_gt hil) (pM.extBut _ _ (Nat.ne_of_gt hil) (yR.extBut _ _ (Nat.ne_of_gt hil) (pL.extBut _ _ (Nat.ne_of_gt hil) VG)))
 .show h₆.objs.size=hp.objs.size+1;rw[pN.1,pM.1,yR.1,pL.1,VH]
 .exact λb o hb e=>pN.extBut b o hb (pM.extBut b o hb (yR.extBut b o hb (pL.extBut b o hb (hk₂ b o hb e))))
theorem VJ(hh:A.handled=none)(iB:IsItemIter s.heap it d i es.size ep ok ov)(ho:s.heap.get? d=some ⟨.type "dict",none,.dict es ep,#[]⟩)(hx:es[i]? =none)
 (hQ:∀h',Heap.ExtBut it s.heap h'→Q none {s with heap:=h'}):gL (iJ prog w) A (pyNext (.ref it)) Q E s:=by
 have hT:s.TypeIs (.ref it) "dict_itemiterator":=⟨_,iB,rfl⟩;refine gH (wpAny_attempt (pU (name:=gM "__next__") hT F.slot_dict_itemiterator_next
  (l7 F.slot_dict_itemiterator_next hT F.entry_dict_itemiterator_next ?_ (F.args_dict_itemiterator_next_1 _))))
 refine gH (gO ?_);refine gH ?_;refine gH ?_
 first|refine gH (wpAny_typeNameOfWhole_itemiter hT (gO ?_))|refine gH (wpAny_typeNameOf_itemiter hT (gO ?_))
 refine gH (wpAny_fieldsOf iB rfl ?_);have hown:Builtin.Dict_items.ownsTuple "dict_itemiterator"=true:=by decide
 rw[hown];show gL _ _ (if(gG.ref d==gG.none)=true then _ else _) _ _ s;refine jx (decide_eq_false (show¬((gG.ref d==gG.none)=true)from jD)) ?_;refine gH (gO ?_);refine gH (vF ho rfl ?_);refine jx (decide_eq_false (by simp)) ?_;refine gH (gO ?_);refine gH (wV ho rfl ?_);refine jx (decide_eq_false (by simp)) ?_;refine gO ?_;dsimp only;rw[if_neg (Int.not_lt.2 (Int.natCast_nonneg i)),Int.toNat_natCast,hx];refine gH ?_
 first|refine gH (wpAny_typeNameOfWhole_itemiter hT (gO ?_))|refine gH (wpAny_typeNameOf_itemiter hT (gO ?_))
 show gL _ _ (setField (.ref it) 2 .none>>=_) _ _ s;refine gH (wpAny_setField iB rfl (by simp) ?_);show gL _ _ (newExc (.type "StopIteration") []>>=_) _ _ _;refine gH ?_;unfold newExc newTuple;refine gH (mY ?_ (by size_fits));refine gH (m:=firstArgMember _ _) (wpAny_of_eq (a:=gG.none) (by first|rfl|(simp only[firstArgMember];rfl)) ?_);refine mY ?_ (by size_fits);unfold raiseNew;refine gH (wpAny_handled ?_);rw[show A.in1.handled=none from hh];refine gH (gO (wpAny_throw ?_));refine gH (wpAny_isInstance (T:="StopIteration") (b:=true) ⟨_,j7 _ rfl,rfl⟩ isSubtype_stop ?_);exact gO (hQ _ (((i0.update ..).extBut.push _).push _))
end
set_option genInjectivity false
section
variable{S:g8}{G:Top}{gA:Heap}{sc:hU}{H:Bool}
section
variable{φ:Pl}{Pr:ik}{σ:gI}{s:gJ}
theorem Inv.KG(I:Inv S gA φ Pr σ s){i:Addr}{r8:Obj}{h':Heap}(hi0:s.heap.get? i=some r8)(hc0:r8.cls≠.type "tuple")(hb0:gA.get? i=none)(v8:∀p,φ p≠some i)(hp0:∀x∈Pr,x.1≠i)(hk:∀b o,b≠i→s.heap.get? b=some o→h'.get? b=some o)(tk:Nat)(dr:Drawn):Inv S gA φ Pr σ ⟨h',s.gens,dr,tk,s.os⟩:=
 I.to (λb o e=>hk b o (λz=>by rw[z,hb0]at e;exact gV e) (I.keep b o e)) (λq d o e=>hk d o λz=>v8 q (z▸e)) (λb o e c=>hk b o (λz=>by rw[z,hi0]at e;obtain rfl:=gP e;exact hc0 c) e) (λx hx o=>hk x.1 o (hp0 x hx)) tk dr
end
theorem Inv.nS{φ:Pl}{Pr:ik}{σ:gI}{s:gJ}(I:Inv S gA φ Pr σ s){i:Addr}{ob:Obj}(m:(i,ob)∈Pr)(hf:ob.cls≠.type "frame"):s.heap.get? i=some ob:=(I.pr _ m).1.elim λo q=>q.1.trans (congrArg some (q.2.2.2.2 hf))
theorem At.re{K:KE}{d:Nat}{A:g6}{env:Env}{κ:gX}{Pr pH:ik}{o:Obj}{ρ:Loc}{φ:Pl}{σ:gI}{s:gJ}(T:At S G gA K d sc H A env κ ρ Pr o φ σ s)(inv:Inv S gA φ ((env.locals,o)::pH) σ s)(apart:∀x∈pH,x.1≠env.locals)(frs:jj A ((env.locals,o)::pH)):At S G gA K d sc H A env κ ρ pH o φ σ s:=
 {T with inv:=inv,apart:=apart,frs:=frs}
theorem jj.of{A:g6}{L:Addr}{o o':Obj}{Pr:ik}(h:jj A ((L,o)::Pr))(hd:∀vs,o'.data≠.fields vs)(hc:o'.cls=o.cls):jj A ((L,o')::Pr):=by
 obtain⟨g,l,k1,k2⟩:=h;refine⟨g,l,k1,λe he=>?_⟩;obtain⟨j1,L',ob,j2,j3,j4⟩:=k2 e he;refine⟨j1,L',?_⟩
 rcases iL.mp j3 with e'|j3
 .refine⟨o',j2,?_,hd,by have:=congrArg Prod.snd e';have:ob=o:=this;rw[hc,←this];exact j4.2⟩;have:L'=L:=congrArg Prod.fst e';rw[this];exact hW ..
 .exact⟨ob,j2,hO _ j3,j4⟩
theorem pJ.yS{φ:Pl}{ρ:Loc}{o:Obj}(h:pJ S φ ρ o):∀vs,o.data≠.fields vs:=by
 obtain⟨_,es,ep,h2,_⟩:=h;intro vs e;rw[h2]at e;injection e
section
variable{K:KE}{d:Nat}{A:g6}{env:Env}{κ:gX}{Pr PI:ik}{o o':Obj}{ρ ρ':Loc}{φ gE:Pl}{σ σ':gI}{s s':gJ}
theorem At.drop(T0:At S G gA K d sc H A env κ ρ Pr o φ σ s)(T:At S G gA K d sc H A env κ ρ' (PI++Pr) o' gE σ' s'):At S G gA K d sc H A env κ ρ' Pr o' gE σ' s':=
 {T with
  inv:=T.inv.disown λx hx=>by
   rcases iL.mp hx with rfl|hx
   .exact hW ..
   .exact hO _ (rP _ hx)
  apart:=T0.apart,frs:=T0.frs.of T.fr.yS (T.pK.trans T0.pK.symm)}
theorem At.take{i:Addr}{ob:Obj}(T:At S G gA K d sc H A env κ ρ Pr o φ σ s)(h1:s.heap.get? i=some ob)(h2:gA.get? i=none)(h3:∀p,φ p≠some i)(h4:i≠env.locals):At S G gA K d sc H A env κ ρ ((i,ob)::Pr) o φ σ s:=
 {T with
  inv:=(T.inv.own h1 h2 h3).disown λx hx=>by
   rcases iL.mp hx with rfl|hx
   .exact hO _ (hW ..)
   .rcases iL.mp hx with rfl|hx
    .exact hW ..
    .exact hO _ (hO _ hx)
  apart:=λx hx=>by
   rcases iL.mp hx with rfl|hx
   .exact h4
   .exact T.apart x hx
  frs:=by
   obtain⟨g,l,k1,k2⟩:=T.frs;refine⟨g,l,k1,λe he=>?_⟩;obtain⟨j1,L',kW,j2,j3,j4⟩:=k2 e he;refine⟨j1,L',kW,j2,?_,j4⟩
   rcases iL.mp j3 with e'|j3
   .rw[e'];exact hW ..
   .exact hO _ (hO _ j3)}
end
def KH(I:Nat→gJ→Prop)(R:Result→gJ→Prop)(n:Nat)(f:Flow)(s:gJ):Prop:=match f with
 | .next| .cont=>∃m,m<n∧I m s
 | .brk=>R (.ok .next) s
 | .ret v=>R (.ok (.ret v)) s
def VK(S:g8)(A:g6)(env:Env)(target:Expr)(it:gG)(body orelse:List Stmt)(I:Nat→gJ→Prop)(R:Result→gJ→Prop)(n:Nat)(E:gG→gJ→Prop)(r:Option gG)(s:gJ):Prop:=match r with
 |none=>gL S.M A (execs orelse env) (λf s=>R (.ok f) s) E s
 |some v=>gL S.M A (letOwnedTupleGo target it v) (λU s=>gL S.M A (assign target env v) (λU s=>gL S.M A (execs body env) (KH I R n) E s) E s) E s
theorem VM{A:g6}{s:gJ}{R:Result→gJ→Prop}{target:Expr}{it:gG}{body orelse:List Stmt}{env:Env}(I:Nat→gJ→Prop)
 (turn:∀E n s,I n s→gL S.M A (pyNext it) (VK S A env target it body orelse I R n E) E s)
 (n:Nat)(h:I n s):codeAny S.M A (.forLoop target it body orelse env) R s:=by
 refine codeAny_loop' rfl I (λn s hI=>?_) n h;refine wpAny_noted ?_;simp only[forTurn];refine gH (ky (gH (wpAny_onRaise (jg (turn _ n s hI) (λr s₁ h₁=>?_) λU U h'=>ky h'))))
 induction r with
 |none=>exact gO (.inr ⟨rfl,codeAny_block h₁⟩)
 |some v=>
  refine gH (jg h₁ (λU s₁' h₁'=>?_) λU U h'=>h');refine gH (jg h₁' (λU s₂ h₂=>gH (jg h₂ (λf s₃ h₃=>?_) λU U h'=>h')) λU U h'=>h')
  induction f with
  |next=>exact gO (.inl ⟨rfl,h₃⟩)
  |cont=>exact gO (.inl ⟨rfl,h₃⟩)
  |brk=>exact gO h₃
  |ret v=>exact gO h₃
inductive jT(φ:Pl):ik→gG→It→Prop where
 |list {i l:Addr} {ob:Obj} {a:Ad} {j:Nat} (hl:φ a=some l) (hc:ob.cls= .type "list_iterator") (hd:ob.data= .fields #[.ref l,.int j 0]):jT φ [(i,ob)] (.ref i) (.list a j)
 |tup {i l:Addr} {ob:Obj} {a:Ad} {j:Nat} (hl:φ a=some l) (hc:ob.cls= .type "tuple_iterator") (hd:ob.data= .fields #[.ref l,.int j 0]):jT φ [(i,ob)] (.ref i) (.tup a j)
 |range {i:Addr} {ob:Obj} {x:Int} {n:Nat} (ho:ob={cls:=.type "range_iterator",dict:=none,data:=.fields #[iZ x,iZ n,iZ 1],slots:=#[]}):jT φ [(i,ob)] (.ref i) (.vals (og n x))
 |down {i:Addr} {ob:Obj} {x:Int} {n:Nat} (ho:ob={cls:=.type "range_iterator",dict:=none,data:=.fields #[iZ x,iZ n,iZ (-1)],slots:=#[]}):jT φ [(i,ob)] (.ref i) (.vals (HF n x))
 |keys {i l:Addr} {ob:Obj} {a:Ad} {j n:Nat} (hl:φ a=some l) (hc:ob.cls= .type "dict_keyiterator") (hd:ob.data= .fields #[.ref l,.int j 0,.int n 0,.int n 0]):jT φ [(i,ob)] (.ref i) (.keys a j n)
 |chars {i:Addr} {ob:Obj} {x:Str} {t:PySem.Tok} {j:Nat} (hx:∀c∈x.cps.toList,c<0x110000) (hc:ob.cls= .type "str_ascii_iterator") (hd:ob.data= .fields #[.str x t,.int j 0]):jT φ [(i,ob)] (.ref i) (.vals ((x.cps.toList.drop j).map λc=>.str (iT [c])))
 |wide {i:Addr} {ob:Obj} {x:Str} {t:PySem.Tok} {j:Nat} (hx:∀c∈x.cps.toList,c<0x110000) (hc:ob.cls= .type "str_iterator") (hd:ob.data= .fields #[.str x t,.int j 0]):jT φ [(i,ob)] (.ref i) (.vals ((x.cps.toList.drop j).map λc=>.str (iT [c])))
 |xk {e i l:Addr} {jJ iW:Obj} {a:Ad} {j:Nat} {old:gG} (hl:φ a=some l) (hE:jJ={cls:=.type "enumerate",dict:=none,data:=.fields #[.none,.bool false,.ref i,iZ j,.none,old],slots:=#[]}) (hc:iW.cls= .type "list_iterator") (hd:iW.data= .fields #[.ref l,.int j 0]) (hne:e≠i):jT φ [(e,jJ),(i,iW)] (.ref e) (.enum a j)
 |m6 {e i l:Addr} {jJ iW:Obj} {a:Ad} {j:Nat} {old:gG} (hl:φ a=some l) (hE:jJ={cls:=.type "enumerate",dict:=none,data:=.fields #[.none,.bool false,.ref i,iZ j,.none,old],slots:=#[]}) (hc:iW.cls= .type "tuple_iterator") (hd:iW.data= .fields #[.ref l,.int j 0]) (hne:e≠i):jT φ [(e,jJ),(i,iW)] (.ref e) (.m6 a j)
 |items {i l:Addr} {ob:Obj} {a:Ad} {j n:Nat} {ok ov:gG} (hl:φ a=some l) (ho:ob={cls:=.type "dict_itemiterator",dict:=none,data:=.fields #[.none,.bool false,.ref l,.int j 0,.int n 0,.int n 0,ok,ov],slots:=#[]}):jT φ [(i,ob)] (.ref i) (.items a j n)
theorem jT.mono{φ ψ:Pl}(l:Le φ ψ){PI:ik}{it:gG}{I:It}(h:jT φ PI it I):jT ψ PI it I:=by
 induction h with
 |list hl hc hd=>exact .list (l _ _ hl) hc hd
 |tup hl hc hd=>exact .tup (l _ _ hl) hc hd
 |range ho=>exact .range ho
 |down ho=>exact .down ho
 |keys hl hc hd=>exact .keys (l _ _ hl) hc hd
 |xk hl hE hc hd hne=>exact .xk (l _ _ hl) hE hc hd hne
 |m6 hl hE hc hd hne=>exact .m6 (l _ _ hl) hE hc hd hne
 |items hl ho=>exact .items (l _ _ hl) ho
 |chars hx hc hd=>exact .chars hx hc hd
 |wide hx hc hd=>exact .wide hx hc hd
section
variable{K:KE}{d:Nat}{A:g6}{env:Env}{κ:gX}{Pr PI:ik}{o:Obj}{ρ:Loc}{φ:Pl}{σ:gI}{s:gJ}
theorem At.v9{i:Addr}{ob kW:Obj}(T:At S G gA K d sc H A env κ ρ ((i,ob)::Pr) o φ σ s)(hp:∀x∈Pr,x.1≠i)(hc:ob.cls≠.type "tuple"){h':Heap}(sb:i0 i s.heap h')(e:h'.get? i=some kW)(tk:Nat)(hF:jj A ((env.locals,o)::(i,kW)::Pr)):
 At S G gA K d sc H A env κ ρ ((i,kW)::Pr) o φ σ {s with heap:=h',toks:=tk}:=by
 have hne:i≠env.locals:=T.apart (i,ob) (hW ..);have I1:Inv S gA φ ((i,ob)::(env.locals,o)::Pr) σ s:=T.inv.disown λx hx=>by
  rcases iL.mp hx with rfl|hx
  .exact hO _ (hW ..)
  .rcases iL.mp hx with rfl|hx
   .exact hW ..
   .exact hO _ (hO _ hx)
 have I2:=I1.Do (o':=kW) (λx hx=>by
  rcases iL.mp hx with rfl|hx
  .exact λz=>hne z.symm
  .exact hp x hx) sb hc e tk s.drawn
 exact{T with
  inv:=I2.disown λx hx=>by
   rcases iL.mp hx with rfl|hx
   .exact hO _ (hW ..)
   .rcases iL.mp hx with rfl|hx
    .exact hW ..
    .exact hO _ (hO _ hx)
  apart:=λx hx=>by
   rcases iL.mp hx with rfl|hx
   .exact hne
   .exact T.apart x (hO _ hx)
  frs:=hF}
theorem jj.weaken{A:g6}{L:Addr}{o:Obj}{Pr:ik}(PI:ik)(h:jj A ((L,o)::Pr)):jj A ((L,o)::(PI++Pr)):=by
 obtain⟨g,l,k1,k2⟩:=h;refine⟨g,l,k1,λe he=>?_⟩;obtain⟨j1,L',ob,j2,j3,j4⟩:=k2 e he;refine⟨j1,L',ob,j2,?_,j4⟩
 rcases iL.mp j3 with e'|j3
 .rw[e'];exact hW ..
 .exact hO _ (rP _ j3)
set_option tactic.hygienic true in
theorem wa{A:g6}{s:gJ}{i:Addr}{ob:Obj}{n:String}{fs:Array gG}{tg:Expr}{x:gG}{Q:Unit→gJ→Prop}{E:gG→gJ→Prop}(h1:s.heap.get? i=some ob)(hc:ob.cls= .type n)(hd:ob.data= .fields fs)
 (hn:["enumerate","zip","dict_itemiterator","dict_reverseitemiterator","odict_iterator","itertools.zip_longest","itertools.pairwise"].contains n=false)(h:Q () s):gL S.M A (letOwnedTupleGo tg (.ref i) x) Q E s:=by
 have N:gL S.M A (pure ()) Q E s:=gO h;have L:∀a,gL S.M A (letOwnedTupleGo (.Tuple [] 0 default) (.ref i) (.ref a)) Q E s:=λa=>by
  refine gH (wpAny_load h1 ?_);rw[hc,hd];dsimp only;rw[hn,Bool.false_and];exact N
 have V:gL S.M A (letOwnedTupleGo (.Tuple [] 0 default) (.ref i) x) Q E s:=by
  cases x with
  |ref a=>exact L a
  |_=>exact N
 cases tg with
 |Tuple=>exact V
 |List=>exact V
 |_=>exact N
noncomputable def isTup(x:Expr):Bool:=on x.ctorIdx 25 λU=>true
@[elab_as_elim] theorem DY{x:Expr}{P:Expr→Prop}(h:isTup x=true)(k:∀l n p,P (.Tuple l n p)):P x:=iV h λe U=>Expr.Tuple.elim (motive_1:=P) x e k
noncomputable def lz:It→Bool
 | .enum .. =>false
 | .m6 .. =>false
 | .items .. =>false
 |_=>true
theorem DZ{σ:gI}{I:It}(h:lz I=true):match It.next σ I with| .one _ I'=>lz I'=true| .two .. =>False|_=>True:=by
 have gl:∀(xs:List AV)(j:Nat)(f:AV→Got),(∀v,∃I',f v= .one v I'∧lz I'=true)→match kL xs j f with| .one _ I'=>lz I'=true| .two .. =>False|_=>True:=by
  intro xs j f hf;show match(match i3 xs j with|some v=>f v|none=>.done)with| .one _ I'=>lz I'=true| .two .. =>False|_=>True
  induction i3 xs j with
  |none=>trivial
  |some v=>refine gW (hf v) λI' e h'=>?_;dsimp only;rw[e];exact h'
 induction I with
 |vals xs=>induction xs with
  |nil=>trivial
  |cons x r=>rfl
 |list a j=>
  show match(match σ.get a with|some (.list xs)=>kL xs j λv=>.one v (.list a (Nat.succ j))|_=>.bad)with| .one _ I'=>lz I'=true| .two .. =>False|_=>True
  induction σ.get a with
  |none=>trivial
  |some ob=>induction ob<;>first|trivial|exact gl _ _ _ λv=>⟨_,rfl,rfl⟩
 |tup a j=>
  show match(match σ.get a with|some (.tuple xs)=>kL xs j λv=>.one v (.tup a (Nat.succ j))|_=>.bad)with| .one _ I'=>lz I'=true| .two .. =>False|_=>True
  induction σ.get a with
  |none=>trivial
  |some ob=>induction ob<;>first|trivial|exact gl _ _ _ λv=>⟨_,rfl,rfl⟩
 |enum=>exact gU h
 |m6=>exact gU h
 |items=>exact gU h
 |keys a j n=>
  show match(match σ.get a with|some (.dict es)=>yj es j n λe=>.one e.2.1 (.keys a (Nat.succ j) n)|_=>.bad)with| .one _ I'=>lz I'=true| .two .. =>False|_=>True
  induction σ.get a with
  |none=>trivial
  |some ob=>
   induction ob with
   |dict es=>
    show match(gT .bad (match i3 es j with|some e=>.one e.2.1 (.keys a (Nat.succ j) n)|none=>.done) (ie (iC es) n):Got)with| .one _ I'=>lz I'=true| .two .. =>False|_=>True
    induction ie (iC es) n with
    |false=>trivial
    |true=>
     induction i3 es j with
     |none=>trivial
     |some e=>rfl
   |_=>trivial
def kP(S:g8)(G:Top)(gA:Heap)(K:KE)(d:Nat)(sc:hU)(H:Bool)(A:g6)(env:Env)(κ:gX)(ρ:Loc)(Pr:ik)(o:Obj)(φ:Pl)(σ:gI)(s:gJ)(tg:Expr)(it:gG)(g:Got):Prop:=match g with
 | .done=>∀(Q:Option gG→gJ→Prop)(E:gG→gJ→Prop),(∀s',At S G gA K d sc H A env κ ρ Pr o φ σ s'→Q none s')→gL S.M A (pyNext it) Q E s
 | .one v I'=>∀(Q:Option gG→gJ→Prop)(E:gG→gJ→Prop),(∀x s',VR φ x v→(∀(Q':Unit→gJ→Prop)(E':gG→gJ→Prop),(∀mz s'',jT φ mz it I'→(∀y∈mz,∀z∈Pr,z.1≠y.1)→At S G gA K d sc H A env κ ρ (mz++Pr) o φ σ s''→Q' () s'')→gL S.M A (letOwnedTupleGo tg it x) Q' E' s')→Q (some x) s')→gL S.M A (pyNext it) Q E s
 | .two u v I'=>isTup tg=true→∀(Q:Option gG→gJ→Prop)(E:gG→gJ→Prop),(∀a s',(∀(Q':Unit→gJ→Prop)(E':gG→gJ→Prop),(∀mz s'',jT (φ.add σ.n a) mz it I'→(∀y∈mz,∀z∈Pr,z.1≠y.1)→At S G gA K d sc H A env κ ρ (mz++Pr) o (φ.add σ.n a) (σ.push (.tuple [u,v])) s''→Q' () s'')→gL S.M A (letOwnedTupleGo tg it (.ref a)) Q' E' s')→Q (some (.ref a)) s')→gL S.M A (pyNext it) Q E s
 | .bad=>True
theorem At.end_{K:KE}{d:Nat}{A:g6}{env:Env}{κ:gX}{Pr:ik}{o:Obj}{ρ:Loc}{φ:Pl}{σ:gI}{s:gJ}{i:Addr}{ob:Obj}(hF:jj A ((env.locals,o)::Pr))(ix:∀z∈Pr,z.1≠i)
 (T:At S G gA K d sc H A env κ ρ ([(i,ob)]++Pr) o φ σ s)(q1:s.heap.get? i=some ob)(hc:ob.cls≠.type "tuple"){h':Heap}(lB:Heap.ExtBut i s.heap h')(tk:Nat):At S G gA K d sc H A env κ ρ Pr o φ σ {s with heap:=h',toks:=tk}:=by
 have hmem:(i,ob)∈(env.locals,o)::([(i,ob)]++Pr):=hO _ (hW ..);refine kM (T.inv.pr _ hmem) λU p2 p3=>?_;have I':Inv S gA φ ((env.locals,o)::Pr) σ s:=T.inv.disown λx hx=>by
  rcases iL.mp hx with rfl|hx
  .exact hW ..
  .exact hO _ (rP _ hx)
 have ub:∀x∈Pr,x.1≠env.locals:=λx hx=>T.apart x (rP _ hx);have T':At S G gA K d sc H A env κ ρ Pr o φ σ s:=T.re I' ub hF;have hne:env.locals≠i:=λz=>T.apart (i,ob) (hW ..) z.symm;exact T'.step (Le.refl φ) (T'.inv.KG q1 hc p2 p3 (λx hx=>by
  rcases iL.mp hx with rfl|hx
  .exact hne
  .exact ix x hx) lB tk s.drawn)
theorem VN{K:KE}{d:Nat}{A:g6}{env:Env}{κ:gX}{Pr PI:ik}{o o0:Obj}{ρ:Loc}{φ:Pl}{σ:gI}{s:gJ}{a:Ad}{j:Nat}{it:gG}(hh:A.handled=none)(hF:jj A ((env.locals,o)::Pr))(ix:∀y∈PI,∀z∈Pr,z.1≠y.1)
 (T:At S G gA K d sc H A env κ ρ (PI++Pr) o φ σ s)(hI:jT φ PI it (.list a j))(tg:Expr):kP S G gA K d sc H A env κ ρ Pr o φ σ s tg it (It.next σ (.list a j)):=by
 cases hI with
 | @list i l ob _ _ hl hc hd=>
  have hmem:(i,ob)∈(env.locals,o)::([(i,ob)]++Pr):=hO _ (hW ..);have q1:=T.inv.nS hmem (by rw[hc];show ig "list_iterator"≠ig "frame";decide);have iB:s.heap.IsListIter i l j:=⟨_,q1,hc,hd⟩;show kP S G gA K d sc H A env κ ρ Pr o φ σ s tg _ (match σ.get a with|some (.list xs)=>kL xs j λv=>.one v (.list a (Nat.succ j))|_=>.bad)
  induction e:σ.get a with
  |none=>trivial
  |some kW=>
   induction kW with
   |list xs=>
    refine iH (T.inv.list e hl) λvs n h1 h2 h3=>?_;have hIL:s.heap.IsList l vs:=⟨_,h1,rfl,n,rfl⟩;show kP S G gA K d sc H A env κ ρ Pr o φ σ s tg _ (match i3 xs j with|some v=>.one v (.list a (Nat.succ j))|none=>.done);rw[mJ]
    induction hx:xs[j]?with
    |none=>
     have jN:vs[j]? =none:=by
      rw[List.getElem?_eq_none_iff]at hx;rw[Array.getElem?_eq_none_iff,h2.sz];exact hx
     refine λQ E k=>wpAny_pyNext_list_end hh iB hIL jN λh' lB=>k _ ?_;exact At.end_ hF (λx hx=>ix _ (hW ..) x hx) T q1 (by rw[hc];show ig "list_iterator"≠ig "tuple";decide) lB s.toks
    |some v=>
     refine gW (h2.get j hx) λx jN r=>?_;rw[n7]at jN;refine λQ E k=>wpAny_pyNext_list_item iB hIL jN λh' lS sb=>?_;refine jI lS λoy z1 z2 z3=>?_;refine k x _ r λQ' E' hq=>wa z1 z2 z3 (by decide) (hq [(i,oy)] _ (.list hl z2 z3) (λy hy z hz=>by rw[jc]at hy;subst hy;exact ix _ (hW ..) z hz) (At.v9 T (λx hx=>ix _ (hW ..) x hx) (by rw[hc];show ig "list_iterator"≠ig "tuple";decide) sb z1 s.toks (hF.weaken [(i,oy)])))
   |_=>trivial
theorem VO{K:KE}{d:Nat}{A:g6}{env:Env}{κ:gX}{Pr PI:ik}{o o0:Obj}{ρ:Loc}{φ:Pl}{σ:gI}{s:gJ}{a:Ad}{j:Nat}{it:gG}(hh:A.handled=none)(hF:jj A ((env.locals,o)::Pr))(ix:∀y∈PI,∀z∈Pr,z.1≠y.1)
 (T:At S G gA K d sc H A env κ ρ (PI++Pr) o φ σ s)(hI:jT φ PI it (.tup a j))(tg:Expr):kP S G gA K d sc H A env κ ρ Pr o φ σ s tg it (It.next σ (.tup a j)):=by
 cases hI with
 | @tup i l ob _ _ hl hc hd=>
  have hmem:(i,ob)∈(env.locals,o)::([(i,ob)]++Pr):=hO _ (hW ..);have q1:=T.inv.nS hmem (by rw[hc];show ig "tuple_iterator"≠ig "frame";decide);have iB:s.heap.IsTupleIter i l j:=⟨_,q1,hc,hd⟩;show kP S G gA K d sc H A env κ ρ Pr o φ σ s tg _ (match σ.get a with|some (.tuple xs)=>kL xs j λv=>.one v (.tup a (Nat.succ j))|_=>.bad)
  induction e:σ.get a with
  |none=>trivial
  |some kW=>
   induction kW with
   |tuple xs=>
    refine iH (T.inv.tuple e hl) λvs n h1 h2 h3=>?_;have hIL:s.heap.IsTuple l vs:=⟨_,h1,rfl,n,rfl⟩;show kP S G gA K d sc H A env κ ρ Pr o φ σ s tg _ (match i3 xs j with|some v=>.one v (.tup a (Nat.succ j))|none=>.done);rw[mJ]
    induction hx:xs[j]?with
    |none=>
     have jN:vs[j]? =none:=by
      rw[List.getElem?_eq_none_iff]at hx;rw[Array.getElem?_eq_none_iff,h2.sz];exact hx
     refine λQ E k=>wpAny_pyNext_tuple_end hh iB hIL jN λh' lB=>k _ ?_;exact At.end_ hF (λx hx=>ix _ (hW ..) x hx) T q1 (by rw[hc];show ig "tuple_iterator"≠ig "tuple";decide) lB s.toks
    |some v=>
     refine gW (h2.get j hx) λx jN r=>?_;rw[n7]at jN;refine λQ E k=>wpAny_pyNext_tuple_item iB hIL jN λh' lS sb=>?_;refine jI lS λoy z1 z2 z3=>?_;refine k x _ r λQ' E' hq=>wa z1 z2 z3 (by decide) (hq [(i,oy)] _ (.tup hl z2 z3) (λy hy z hz=>by rw[jc]at hy;subst hy;exact ix _ (hW ..) z hz) (At.v9 T (λx hx=>ix _ (hW ..) x hx) (by rw[hc];show ig "tuple_iterator"≠ig "tuple";decide) sb z1 s.toks (hF.weaken [(i,oy)])))
   |_=>trivial
theorem VP{K:KE}{d:Nat}{A:g6}{env:Env}{κ:gX}{Pr:ik}{o:Obj}{ρ:Loc}{φ:Pl}{σ:gI}{s:gJ}{i:Addr}{ob:Obj}{x:Int}{n:Nat}(hh:A.handled=none)(hF:jj A ((env.locals,o)::Pr))(ix:∀z∈Pr,z.1≠i)
 (T:At S G gA K d sc H A env κ ρ ([(i,ob)]++Pr) o φ σ s)(ho:ob={cls:=.type "range_iterator",dict:=none,data:=.fields #[iZ x,iZ n,iZ 1],slots:=#[]})(tg:Expr):kP S G gA K d sc H A env κ ρ Pr o φ σ s tg (.ref i) (It.next σ (.vals (og n x))):=by
 have hmem:(i,ob)∈(env.locals,o)::([(i,ob)]++Pr):=hO _ (hW ..);have hc:ob.cls= .type "range_iterator":=by rw[ho]
 have q1:=T.inv.nS hmem (by rw[hc];show ig "range_iterator"≠ig "frame";decide);have iB:IsRangeIter s.heap i x n 1:=q1.trans (congrArg some ho)
 induction n with
 |zero=>
  refine λQ E k=>wpAny_pyNext_range_end hh iB (by simp) λh' lB=>k _ ?_;exact At.end_ hF ix T q1 (by rw[hc];show ig "range_iterator"≠ig "tuple";decide) lB s.toks
 |succ n=>
  refine λQ E k=>wpAny_pyNext_range_item iB (by lia) λh' lS sb=>?_;have hn1:((n+1:Nat):Int)- 1=(n:Int):=by lia
  rw[hn1]at lS;refine k _ _ (.int x _) λQ' E' hq=>wa lS rfl rfl (by decide) (hq [(i,_)] _ (.range rfl) (λy hy z hz=>by rw[jc]at hy;subst hy;exact ix z hz) (At.v9 T ix (by rw[hc];show ig "range_iterator"≠ig "tuple";decide) sb lS (s.toks+1) (hF.weaken [(i,_)])))
theorem VQ{K:KE}{d:Nat}{A:g6}{env:Env}{κ:gX}{Pr:ik}{o:Obj}{ρ:Loc}{φ:Pl}{σ:gI}{s:gJ}{i:Addr}{ob:Obj}{x:Int}{n:Nat}(hh:A.handled=none)(hF:jj A ((env.locals,o)::Pr))(ix:∀z∈Pr,z.1≠i)
 (T:At S G gA K d sc H A env κ ρ ([(i,ob)]++Pr) o φ σ s)(ho:ob={cls:=.type "range_iterator",dict:=none,data:=.fields #[iZ x,iZ n,iZ (-1)],slots:=#[]})(tg:Expr):kP S G gA K d sc H A env κ ρ Pr o φ σ s tg (.ref i) (It.next σ (.vals (HF n x))):=by
 have hmem:(i,ob)∈(env.locals,o)::([(i,ob)]++Pr):=hO _ (hW ..);have hc:ob.cls= .type "range_iterator":=by rw[ho]
 have q1:=T.inv.nS hmem (by rw[hc];show ig "range_iterator"≠ig "frame";decide);have iB:IsRangeIter s.heap i x n (-1):=q1.trans (congrArg some ho)
 induction n with
 |zero=>
  refine λQ E k=>wpAny_pyNext_range_end hh iB (by simp) λh' lB=>k _ ?_;exact At.end_ hF ix T q1 (by rw[hc];show ig "range_iterator"≠ig "tuple";decide) lB s.toks
 |succ n=>
  refine λQ E k=>wpAny_pyNext_range_item iB (by lia) λh' lS sb=>?_;have hn1:((n+1:Nat):Int)- 1=(n:Int):=by lia
  rw[hn1]at lS;refine k _ _ (.int x _) λQ' E' hq=>wa lS rfl rfl (by decide) (hq [(i,_)] _ (.down rfl) (λy hy z hz=>by rw[jc]at hy;subst hy;exact ix z hz) (At.v9 T ix (by rw[hc];show ig "range_iterator"≠ig "tuple";decide) sb lS (s.toks+1) (hF.weaken [(i,_)])))
theorem VU{K:KE}{d:Nat}{A:g6}{env:Env}{κ:gX}{Pr:ik}{o:Obj}{ρ:Loc}{φ:Pl}{σ:gI}{s:gJ}{i l:Addr}{ob:Obj}{a:Ad}{j n:Nat}(hh:A.handled=none)(hF:jj A ((env.locals,o)::Pr))(ix:∀z∈Pr,z.1≠i)
 (T:At S G gA K d sc H A env κ ρ ([(i,ob)]++Pr) o φ σ s)(hl:φ a=some l)(hc:ob.cls= .type "dict_keyiterator")(hd:ob.data= .fields #[.ref l,.int j 0,.int n 0,.int n 0])(tg:Expr):kP S G gA K d sc H A env κ ρ Pr o φ σ s tg (.ref i) (It.next σ (.keys a j n)):=by
 have hmem:(i,ob)∈(env.locals,o)::([(i,ob)]++Pr):=hO _ (hW ..);have q1:=T.inv.nS hmem (by rw[hc];show ig "dict_keyiterator"≠ig "frame";decide);have hnt:ob.cls≠.type "tuple":=by rw[hc];show ig "dict_keyiterator"≠ig "tuple";decide
 show kP S G gA K d sc H A env κ ρ Pr o φ σ s tg _ (match σ.get a with|some (.dict es)=>yj es j n λe=>.one e.2.1 (.keys a (Nat.succ j) n)|_=>.bad)
 induction e:σ.get a with
 |none=>trivial
 |some kW=>
  induction kW with
  |dict es=>
   have D:=T.inv.dict e hl;refine jA D.obj λjq ep h1 h2=>?_;have pG:ep=es.length:=D.AH _ _ _ h1 rfl;have ij:jq.size=es.length:=by rw[←jM];exact h2.length
   show kP S G gA K d sc H A env κ ρ Pr o φ σ s tg _ (gT .bad (match i3 es j with|some e=>.one e.2.1 (.keys a (Nat.succ j) n)|none=>.done) (ie (iC es) n));rw[jo,oq,mJ]
   by_cases hn:es.length=n
   .rw[decide_eq_true hn];subst hn;have iB:s.heap.IsKeyIter i l j jq.size ep:=⟨_,q1,hc,by rw[hd,ij,pG]⟩
    induction hx:es[j]?with
    |none=>
     have jN:jq[j]? =none:=by
      rw[List.getElem?_eq_none_iff]at hx;rw[Array.getElem?_eq_none_iff,ij];exact hx
     exact λQ E k=>Vn hh iB h1 jN λh' lB=>k _ (At.end_ hF ix T q1 hnt lB s.toks)
    |some v=>
     refine gW (h2.vW j hx) λx jN r=>?_;rw[n7]at jN;refine λQ E k=>Vm iB h1 jN λh' lS sb=>?_;refine jI lS λoy z1 z2 z3=>?_;rw[ij,pG]at z3;exact k x.key _ r.2.1 λQ' E' hq=>wa z1 z2 z3 (by decide) (hq [(i,oy)] _ (.keys hl z2 z3) (λy hy z hz=>by rw[jc]at hy;subst hy;exact ix z hz) (At.v9 T ix hnt sb z1 s.toks (hF.weaken [(i,oy)])))
   .rw[decide_eq_false hn];trivial
  |_=>trivial
theorem VV{K:KE}{d:Nat}{A:g6}{env:Env}{κ:gX}{Pr:ik}{o:Obj}{ρ:Loc}{φ:Pl}{σ:gI}{s:gJ}{i:Addr}{ob:Obj}{x:Str}{t:PySem.Tok}{j:Nat}(hh:A.handled=none)(hF:jj A ((env.locals,o)::Pr))(ix:∀z∈Pr,z.1≠i)
 (T:At S G gA K d sc H A env κ ρ ([(i,ob)]++Pr) o φ σ s)(hx:∀c∈x.cps.toList,c<0x110000)(hc:ob.cls= .type "str_ascii_iterator")(hd:ob.data= .fields #[.str x t,.int j 0])(tg:Expr):kP S G gA K d sc H A env κ ρ Pr o φ σ s tg (.ref i) (It.next σ (.vals ((x.cps.toList.drop j).map λc=>.str (iT [c])))):=by
 have hmem:(i,ob)∈(env.locals,o)::([(i,ob)]++Pr):=hO _ (hW ..);have q1:=T.inv.nS hmem (by rw[hc];show ig "str_ascii_iterator"≠ig "frame";decide);have hnt:ob.cls≠.type "tuple":=by rw[hc];show ig "str_ascii_iterator"≠ig "tuple";decide
 have iB:s.heap.IsStrIter i "str_ascii_iterator" x t j:=⟨_,q1,hc,hd⟩
 induction hv:x.cps[j]?with
 |none=>
  have hge:x.cps.toList.length≤j:=by rw[jM];exact Array.getElem?_eq_none_iff.mp hv
  rw[List.drop_eq_nil_of_le hge];exact λQ E k=>wpAny_pyNext_ascii_end hh iB hv λh' lB=>k _ (At.end_ hF ix T q1 hnt lB s.toks)
 |some c=>
  refine jn (Array.getElem?_eq_some_iff.mp hv) λhlt hce=>?_;have hlt':j<x.cps.toList.length:=by rw[jM];exact hlt
  have hdr:x.cps.toList.drop j=c::x.cps.toList.drop (j+1):=by
   rw[List.drop_eq_getElem_cons hlt'];congr 1
  rw[hdr];have oV:c<0x110000:=hx c (by rw[←hce];exact Array.getElem_mem_toList hlt);refine λQ E k=>wpAny_pyNext_ascii_item iB hv λh' lS sb=>?_;refine jI lS λoy z1 z2 z3=>?_;exact k _ _ (.str _ (DB oV)) λQ' E' hq=>wa z1 z2 z3 (by decide) (hq [(i,oy)] _ (.chars hx z2 z3) (λy hy z hz=>by rw[jc]at hy;subst hy;exact ix z hz) (At.v9 T ix hnt sb z1 (s.toks+1) (hF.weaken [(i,oy)])))
theorem VW{K:KE}{d:Nat}{A:g6}{env:Env}{κ:gX}{Pr:ik}{o:Obj}{ρ:Loc}{φ:Pl}{σ:gI}{s:gJ}{i:Addr}{ob:Obj}{x:Str}{t:PySem.Tok}{j:Nat}(hh:A.handled=none)(hF:jj A ((env.locals,o)::Pr))(ix:∀z∈Pr,z.1≠i)
 (T:At S G gA K d sc H A env κ ρ ([(i,ob)]++Pr) o φ σ s)(hx:∀c∈x.cps.toList,c<0x110000)(hc:ob.cls= .type "str_iterator")(hd:ob.data= .fields #[.str x t,.int j 0])(tg:Expr):kP S G gA K d sc H A env κ ρ Pr o φ σ s tg (.ref i) (It.next σ (.vals ((x.cps.toList.drop j).map λc=>.str (iT [c])))):=by
 have hmem:(i,ob)∈(env.locals,o)::([(i,ob)]++Pr):=hO _ (hW ..);have q1:=T.inv.nS hmem (by rw[hc];show ig "str_iterator"≠ig "frame";decide);have hnt:ob.cls≠.type "tuple":=by rw[hc];show ig "str_iterator"≠ig "tuple";decide
 have iB:s.heap.IsStrIter i "str_iterator" x t j:=⟨_,q1,hc,hd⟩
 induction hv:x.cps[j]?with
 |none=>
  have hge:x.cps.toList.length≤j:=by rw[jM];exact Array.getElem?_eq_none_iff.mp hv
  rw[List.drop_eq_nil_of_le hge];exact λQ E k=>wpAny_pyNext_wide_end hh iB hv λh' lB=>k _ (At.end_ hF ix T q1 hnt lB s.toks)
 |some c=>
  refine jn (Array.getElem?_eq_some_iff.mp hv) λhlt hce=>?_;have hlt':j<x.cps.toList.length:=by rw[jM];exact hlt
  have hdr:x.cps.toList.drop j=c::x.cps.toList.drop (j+1):=by
   rw[List.drop_eq_getElem_cons hlt'];congr 1
  rw[hdr];have oV:c<0x110000:=hx c (by rw[←hce];exact Array.getElem_mem_toList hlt);refine λQ E k=>wpAny_pyNext_wide_item iB hv λh' lS sb=>?_;refine jI lS λoy z1 z2 z3=>?_;exact k _ _ (.str _ (DB oV)) λQ' E' hq=>wa z1 z2 z3 (by decide) (hq [(i,oy)] _ (.wide hx z2 z3) (λy hy z hz=>by rw[jc]at hy;subst hy;exact ix z hz) (At.v9 T ix hnt sb z1 (s.toks+1) (hF.weaken [(i,oy)])))
theorem At.paired{K:KE}{d:Nat}{A:g6}{env:Env}{κ:gX}{Pr:ik}{o:Obj}{ρ:Loc}{φ:Pl}{σ:gI}{s:gJ}{e i:Addr}{jJ iW KI yT:Obj}{j:Int}{x:gG}{v:AV}{t:PySem.Tok}
 (hF:jj A ((env.locals,o)::Pr))(ix:∀y∈[(e,jJ),(i,iW)],∀z∈Pr,z.1≠y.1)
 (T:At S G gA K d sc H A env κ ρ ([(e,jJ),(i,iW)]++Pr) o φ σ s)(hE:jJ.cls= .type "enumerate")(hI:iW.cls≠.type "tuple")(hI':iW.cls≠.type "frame")(hne:e≠i)(hx:VR φ x v){h':Heap}(tk:Nat)
 (he':h'.get? e=some KI)(hi':h'.get? i=some yT)(ht:h'.get? s.heap.objs.size=some {cls:=.type "tuple",data:=.seq #[.int j t,x]})
 (hk:∀b o,b≠e→b≠i→s.heap.get? b=some o→h'.get? b=some o):
 At S G gA K d sc H A env κ ρ ([(e,KI),(i,yT)]++Pr) o (φ.add σ.n s.heap.objs.size) (σ.push (.tuple [.int j,v])) {s with heap:=h',toks:=tk}:=by
 have mE:(e,jJ)∈(env.locals,o)::([(e,jJ),(i,iW)]++Pr):=hO _ (hW ..);have mI:(i,iW)∈(env.locals,o)::([(e,jJ),(i,iW)]++Pr):=hO _ (hO _ (hW ..));have uc:=(T.inv.pr _ mE).2;have a6:=uc.1;have a7:=uc.2;have rA:=(T.inv.pr _ mI).2;have b6:=rA.1;have b7:=rA.2;have a1:=T.inv.nS mE (by rw[hE];show ig "enumerate"≠ig "frame";decide);have b1:=T.inv.nS mI hI';have KJ:e≠env.locals:=T.apart _ (hW ..);have yU:i≠env.locals:=T.apart _ (hO _ (hW ..));have I0:Inv S gA φ ((env.locals,o)::Pr) σ s:=T.inv.disown λx hx=>by
  rcases iL.mp hx with rfl|hx
  .exact hW ..
  .exact hO _ (rP _ hx)
 have T0:At S G gA K d sc H A env κ ρ Pr o φ σ s:=T.re I0 (λx hx=>T.apart x (rP _ hx)) hF;have I1:=I0.yB (vs:=[.int j t,x]) (xs:=[.int j,v]) 0 (.cons (.int j t) (.cons hx .nil)) (by show 2≤1000000;decide) s.toks;have le:=mF a1;have li:=mF b1;have pE:(s.heap.push {cls:=.type "tuple",data:=.seq #[.int j t,x]}).get? e=some jJ:=ja _ a1;have pI:(s.heap.push {cls:=.type "tuple",data:=.seq #[.int j t,x]}).get? i=some iW:=ja _ b1;have wb:∀b,b<s.heap.objs.size→(∀p,φ p≠some b)→∀p,φ.add σ.n s.heap.objs.size p≠some b:=λb hb h p z=>by
  by_cases q:p=σ.n
  .subst q;rw[Pl.mr]at z;obtain rfl:=gP z;exact jQ _ hb
  .rw[Pl.nQ φ _ q]at z;exact h p z
 have I2:=I1.DX (X:=λb=>b=e∨b=i) (h':=h') (λb hb ob hob=>by
  rcases hb with rfl|rfl
  .have z:ob=jJ:=gP (hob.symm.trans pE);rw[z,hE];show ig "enumerate"≠ig "tuple";decide
  .have z:ob=iW:=gP (hob.symm.trans pI);rw[z];exact hI)
  (λb hb=>by
   rcases hb with rfl|rfl
   .exact a6
   .exact b6)
  (λb hb=>by
   rcases hb with rfl|rfl
   .exact wb _ le a7
   .exact wb _ li b7)
  (λb hb y hy=>by
   rcases iL.mp hy with rfl|hy
   .rcases hb with rfl|rfl
    .exact KJ.symm
    .exact yU.symm
   .rcases hb with rfl|rfl
    .exact ix _ (hW ..) y hy
    .exact ix _ (hO _ (hW ..)) y hy)
  (λb ob hb hob=>by
   rcases Heap.get?_push_cases hob with⟨rfl,rfl⟩|hob
   .exact ht
   .exact hk b ob (λz=>hb (.inl z)) (λz=>hb (.inr z)) hob) tk s.drawn
 have T2:=T0.step (I0.jY _) I2;exact(T2.take hi' b6 (wb _ li b7) yU).take he' a6 (wb _ le a7) KJ
theorem VX{K:KE}{d:Nat}{A:g6}{env:Env}{κ:gX}{Pr:ik}{o:Obj}{ρ:Loc}{φ:Pl}{σ:gI}{s:gJ}{e i l:Addr}{jJ iW:Obj}{a:Ad}{j:Nat}{old:gG}(hh:A.handled=none)(hF:jj A ((env.locals,o)::Pr))(ix:∀y∈[(e,jJ),(i,iW)],∀z∈Pr,z.1≠y.1)
 (T:At S G gA K d sc H A env κ ρ ([(e,jJ),(i,iW)]++Pr) o φ σ s)(hl:φ a=some l)(hE:jJ={cls:=.type "enumerate",dict:=none,data:=.fields #[.none,.bool false,.ref i,iZ j,.none,old],slots:=#[]})(hc:iW.cls= .type "list_iterator")(hd:iW.data= .fields #[.ref l,.int j 0])(hne:e≠i)(tg:Expr):
 kP S G gA K d sc H A env κ ρ Pr o φ σ s tg (.ref e) (It.next σ (.enum a j)):=by
 have mE:(e,jJ)∈(env.locals,o)::([(e,jJ),(i,iW)]++Pr):=hO _ (hW ..);have mI:(i,iW)∈(env.locals,o)::([(e,jJ),(i,iW)]++Pr):=hO _ (hO _ (hW ..));have uc:=(T.inv.pr _ mE).2;have a6:=uc.1;have a7:=uc.2;have rA:=(T.inv.pr _ mI).2;have b6:=rA.1;have b7:=rA.2;have yV:jJ.cls= .type "enumerate":=by rw[hE]
 have yW:iW.cls≠.type "tuple":=by rw[hc];show ig "list_iterator"≠ig "tuple";decide
 have yX:iW.cls≠.type "frame":=by rw[hc];show ig "list_iterator"≠ig "frame";decide
 have a1:=T.inv.nS mE (by rw[yV];show ig "enumerate"≠ig "frame";decide);have b1:=T.inv.nS mI yX;have he:IsEnum s.heap e i j old:=a1.trans (congrArg some hE);have iB:s.heap.IsListIter i l j:=⟨_,b1,hc,hd⟩;show kP S G gA K d sc H A env κ ρ Pr o φ σ s tg _ (match σ.get a with|some (.list xs)=>kL xs j λv=>.two (.int (.ofNat j)) v (.enum a (Nat.succ j))|_=>.bad)
 induction eg:σ.get a with
 |none=>trivial
 |some kW=>
  induction kW with
  |list xs=>
   refine iH (T.inv.list eg hl) λvs n h1 h2 h3=>?_;have hIL:s.heap.IsList l vs:=⟨_,h1,rfl,n,rfl⟩;show kP S G gA K d sc H A env κ ρ Pr o φ σ s tg _ (match i3 xs j with|some v=>.two (.int (.ofNat j)) v (.enum a (Nat.succ j))|none=>.done);rw[mJ]
   induction hx:xs[j]?with
   |none=>
    have jN:vs[j]? =none:=by
     rw[List.getElem?_eq_none_iff]at hx;rw[Array.getElem?_eq_none_iff,h2.sz];exact hx
    have T1:At S G gA K d sc H A env κ ρ ([(i,iW)]++Pr) o φ σ s:=T.re (T.inv.disown λx hx=>by
     rcases iL.mp hx with rfl|hx
     .exact hW ..
     .exact hO _ (hO _ hx)) (λx hx=>T.apart x (hO _ hx)) (hF.weaken [(i,iW)])
    exact λQ E k=>wpAny_pyNext_enum_end hh he iB hIL jN λh' lB=>k _ (At.end_ hF (λz hz=>ix _ (hO _ (hW ..)) z hz) T1 b1 yW lB s.toks)
   |some v=>
    refine gW (h2.get j hx) λx jN r=>?_;rw[n7]at jN;refine λud=>DY ud λelts z1 pos=>λQ E k=>?_;refine wpAny_pyNext_enum_item he iB hIL jN hne λh' k1 k2 k3 k4 k5=>k _ _ λQ' E' hq=>?_;refine wpAny_letOwnedTupleGo_enum (s:={s with heap:=h',toks:=s.toks+1}) k1 λh'' m1 sb=>?_;refine jI k2 λoi c1 c2 c3=>?_;have D2:h''.get? i=some oi:=(sb.2 i hne.symm).trans c1;have nt:s.heap.objs.size≠e:=λz=>jQ _ (z▸mF a1);refine hq [(e,_),(i,oi)] _ (.xk (T.inv.jY _ _ _ hl) rfl c2 c3 hne) (λy hy z hz=>?_) (At.paired hF ix T yV yW yX hne r (s.toks+1) m1 D2 ((sb.2 _ nt).trans k3) λb ob hb1 hb2 hb=>(sb.2 b hb1).trans (k5 b ob hb1 hb2 hb))
    rcases iL.mp hy with rfl|hy
    .exact ix _ (hW ..) z hz
    .rw[jc]at hy;subst hy;exact ix _ (hO _ (hW ..)) z hz
  |_=>trivial
theorem VY{K:KE}{d:Nat}{A:g6}{env:Env}{κ:gX}{Pr:ik}{o:Obj}{ρ:Loc}{φ:Pl}{σ:gI}{s:gJ}{e i l:Addr}{jJ iW:Obj}{a:Ad}{j:Nat}{old:gG}(hh:A.handled=none)(hF:jj A ((env.locals,o)::Pr))(ix:∀y∈[(e,jJ),(i,iW)],∀z∈Pr,z.1≠y.1)
 (T:At S G gA K d sc H A env κ ρ ([(e,jJ),(i,iW)]++Pr) o φ σ s)(hl:φ a=some l)(hE:jJ={cls:=.type "enumerate",dict:=none,data:=.fields #[.none,.bool false,.ref i,iZ j,.none,old],slots:=#[]})(hc:iW.cls= .type "tuple_iterator")(hd:iW.data= .fields #[.ref l,.int j 0])(hne:e≠i)(tg:Expr):
 kP S G gA K d sc H A env κ ρ Pr o φ σ s tg (.ref e) (It.next σ (.m6 a j)):=by
 have mE:(e,jJ)∈(env.locals,o)::([(e,jJ),(i,iW)]++Pr):=hO _ (hW ..);have mI:(i,iW)∈(env.locals,o)::([(e,jJ),(i,iW)]++Pr):=hO _ (hO _ (hW ..));have uc:=(T.inv.pr _ mE).2;have a6:=uc.1;have a7:=uc.2;have rA:=(T.inv.pr _ mI).2;have b6:=rA.1;have b7:=rA.2;have yV:jJ.cls= .type "enumerate":=by rw[hE]
 have yW:iW.cls≠.type "tuple":=by rw[hc];show ig "tuple_iterator"≠ig "tuple";decide
 have yX:iW.cls≠.type "frame":=by rw[hc];show ig "tuple_iterator"≠ig "frame";decide
 have a1:=T.inv.nS mE (by rw[yV];show ig "enumerate"≠ig "frame";decide);have b1:=T.inv.nS mI yX;have he:IsEnum s.heap e i j old:=a1.trans (congrArg some hE);have iB:s.heap.IsTupleIter i l j:=⟨_,b1,hc,hd⟩;show kP S G gA K d sc H A env κ ρ Pr o φ σ s tg _ (match σ.get a with|some (.tuple xs)=>kL xs j λv=>.two (.int (.ofNat j)) v (.m6 a (Nat.succ j))|_=>.bad)
 induction eg:σ.get a with
 |none=>trivial
 |some kW=>
  induction kW with
  |tuple xs=>
   refine iH (T.inv.tuple eg hl) λvs n h1 h2 h3=>?_;have hIL:s.heap.IsTuple l vs:=⟨_,h1,rfl,n,rfl⟩;show kP S G gA K d sc H A env κ ρ Pr o φ σ s tg _ (match i3 xs j with|some v=>.two (.int (.ofNat j)) v (.m6 a (Nat.succ j))|none=>.done);rw[mJ]
   induction hx:xs[j]?with
   |none=>
    have jN:vs[j]? =none:=by
     rw[List.getElem?_eq_none_iff]at hx;rw[Array.getElem?_eq_none_iff,h2.sz];exact hx
    have T1:At S G gA K d sc H A env κ ρ ([(i,iW)]++Pr) o φ σ s:=T.re (T.inv.disown λx hx=>by
     rcases iL.mp hx with rfl|hx
     .exact hW ..
     .exact hO _ (hO _ hx)) (λx hx=>T.apart x (hO _ hx)) (hF.weaken [(i,iW)])
    exact λQ E k=>Vq hh he iB hIL jN λh' lB=>k _ (At.end_ hF (λz hz=>ix _ (hO _ (hW ..)) z hz) T1 b1 yW lB s.toks)
   |some v=>
    refine gW (h2.get j hx) λx jN r=>?_;rw[n7]at jN;refine λud=>DY ud λelts z1 pos=>λQ E k=>?_;refine Vr he iB hIL jN hne λh' k1 k2 k3 k4 k5=>k _ _ λQ' E' hq=>?_;refine wpAny_letOwnedTupleGo_enum (s:={s with heap:=h',toks:=s.toks+1}) k1 λh'' m1 sb=>?_;refine jI k2 λoi c1 c2 c3=>?_;have D2:h''.get? i=some oi:=(sb.2 i hne.symm).trans c1;have nt:s.heap.objs.size≠e:=λz=>jQ _ (z▸mF a1);refine hq [(e,_),(i,oi)] _ (.m6 (T.inv.jY _ _ _ hl) rfl c2 c3 hne) (λy hy z hz=>?_) (At.paired hF ix T yV yW yX hne r (s.toks+1) m1 D2 ((sb.2 _ nt).trans k3) λb ob hb1 hb2 hb=>(sb.2 b hb1).trans (k5 b ob hb1 hb2 hb))
    rcases iL.mp hy with rfl|hy
    .exact ix _ (hW ..) z hz
    .rw[jc]at hy;subst hy;exact ix _ (hO _ (hW ..)) z hz
  |_=>trivial
theorem At.VZ{K:KE}{d:Nat}{A:g6}{env:Env}{κ:gX}{Pr:ik}{o:Obj}{ρ:Loc}{φ:Pl}{σ:gI}{s:gJ}{i:Addr}{iW yT:Obj}{x y:gG}{u v:AV}
 (hF:jj A ((env.locals,o)::Pr))(ix:∀z∈Pr,z.1≠i)
 (T:At S G gA K d sc H A env κ ρ ([(i,iW)]++Pr) o φ σ s)(hI:iW.cls≠.type "tuple")(hI':iW.cls≠.type "frame")(hx:VR φ x u)(hy:VR φ y v){h':Heap}(tk:Nat)
 (hi':h'.get? i=some yT)(ht:h'.get? s.heap.objs.size=some {cls:=.type "tuple",data:=.seq #[x,y]})
 (hk:∀b o,b≠i→s.heap.get? b=some o→h'.get? b=some o):
 At S G gA K d sc H A env κ ρ ([(i,yT)]++Pr) o (φ.add σ.n s.heap.objs.size) (σ.push (.tuple [u,v])) {s with heap:=h',toks:=tk}:=by
 have mI:(i,iW)∈(env.locals,o)::([(i,iW)]++Pr):=hO _ (hW ..);have rA:=(T.inv.pr _ mI).2;have b6:=rA.1;have b7:=rA.2;have b1:=T.inv.nS mI hI';have yU:i≠env.locals:=T.apart _ (hW ..);have I0:Inv S gA φ ((env.locals,o)::Pr) σ s:=T.inv.disown λx hx=>by
  rcases iL.mp hx with rfl|hx
  .exact hW ..
  .exact hO _ (rP _ hx)
 have T0:At S G gA K d sc H A env κ ρ Pr o φ σ s:=T.re I0 (λx hx=>T.apart x (rP _ hx)) hF;have I1:=I0.yB (vs:=[x,y]) (xs:=[u,v]) 0 (.cons hx (.cons hy .nil)) (by show 2≤1000000;decide) s.toks;have li:=mF b1;have pI:(s.heap.push {cls:=.type "tuple",data:=.seq #[x,y]}).get? i=some iW:=ja _ b1;have wb:∀b,b<s.heap.objs.size→(∀p,φ p≠some b)→∀p,φ.add σ.n s.heap.objs.size p≠some b:=λb hb h p z=>by
  by_cases q:p=σ.n
  .subst q;rw[Pl.mr]at z;obtain rfl:=gP z;exact jQ _ hb
  .rw[Pl.nQ φ _ q]at z;exact h p z
 have I2:=I1.DX (X:=λb=>b=i) (h':=h') (λb hb ob hob=>by
  subst hb;have z:ob=iW:=gP (hob.symm.trans pI);rw[z];exact hI)
  (λb hb=>by subst hb;exact b6)
  (λb hb=>by subst hb;exact wb _ li b7)
  (λb hb y hy=>by
   subst hb
   rcases iL.mp hy with rfl|hy
   .exact yU.symm
   .exact ix y hy)
  (λb ob hb hob=>by
   rcases Heap.get?_push_cases hob with⟨rfl,rfl⟩|hob
   .exact ht
   .exact hk b ob hb hob) tk s.drawn
 have T2:=T0.step (I0.jY _) I2;exact T2.take hi' b6 (wb _ li b7) yU
theorem V5{K:KE}{d:Nat}{A:g6}{env:Env}{κ:gX}{Pr:ik}{o:Obj}{ρ:Loc}{φ:Pl}{σ:gI}{s:gJ}{i l:Addr}{ob:Obj}{a:Ad}{j n:Nat}{ok ov:gG}(hh:A.handled=none)(hF:jj A ((env.locals,o)::Pr))(ix:∀z∈Pr,z.1≠i)
 (T:At S G gA K d sc H A env κ ρ ([(i,ob)]++Pr) o φ σ s)(hl:φ a=some l)(ho:ob={cls:=.type "dict_itemiterator",dict:=none,data:=.fields #[.none,.bool false,.ref l,.int j 0,.int n 0,.int n 0,ok,ov],slots:=#[]})(tg:Expr):kP S G gA K d sc H A env κ ρ Pr o φ σ s tg (.ref i) (It.next σ (.items a j n)):=by
 have hmem:(i,ob)∈(env.locals,o)::([(i,ob)]++Pr):=hO _ (hW ..);have hc:ob.cls= .type "dict_itemiterator":=by rw[ho]
 have hf:ob.cls≠.type "frame":=by rw[hc];show ig "dict_itemiterator"≠ig "frame";decide
 have q1:=T.inv.nS hmem hf;have hnt:ob.cls≠.type "tuple":=by rw[hc];show ig "dict_itemiterator"≠ig "tuple";decide
 show kP S G gA K d sc H A env κ ρ Pr o φ σ s tg _ (match σ.get a with|some (.dict es)=>yj es j n λe=>.two e.2.1 e.2.2 (.items a (Nat.succ j) n)|_=>.bad)
 induction e:σ.get a with
 |none=>trivial
 |some kW=>
  induction kW with
  |dict es=>
   have D:=T.inv.dict e hl;refine jA D.obj λjq ep h1 h2=>?_;have pG:ep=es.length:=D.AH _ _ _ h1 rfl;have ij:jq.size=es.length:=by rw[←jM];exact h2.length
   show kP S G gA K d sc H A env κ ρ Pr o φ σ s tg _ (gT .bad (match i3 es j with|some e=>.two e.2.1 e.2.2 (.items a (Nat.succ j) n)|none=>.done) (ie (iC es) n));rw[jo,oq,mJ]
   by_cases hn:es.length=n
   .rw[decide_eq_true hn];subst hn;have iB:IsItemIter s.heap i l j jq.size ep ok ov:=by rw[ij,pG];exact q1.trans (congrArg some ho)
    induction hx:es[j]?with
    |none=>
     have jN:jq[j]? =none:=by
      rw[List.getElem?_eq_none_iff]at hx;rw[Array.getElem?_eq_none_iff,ij];exact hx
     exact λQ E k=>VJ hh iB h1 jN λh' lB=>k _ (At.end_ hF ix T q1 hnt lB s.toks)
    |some v=>
     refine gW (h2.vW j hx) λx jN r=>?_;rw[n7]at jN;refine λud=>DY ud λelts z1 pos=>λQ E k=>?_;refine VF iB h1 jN λh' k1 k2 k3 k4=>k _ _ λQ' E' hq=>?_;refine wpAny_letOwnedTupleGo_items (s:={s with heap:=h'}) k1 λh'' m1 sb=>?_;have nt:s.heap.objs.size≠i:=λz=>jQ _ (z▸mF q1);refine hq [(i,_)] _ (.items (T.inv.jY _ _ _ hl) (by rw[ij,pG])) (λy hy z hz=>by rw[jc]at hy;subst hy;exact ix z hz) (At.VZ hF ix T hnt hf r.2.1 r.2.2 s.toks m1 ((sb.2 _ nt).trans k2) λb ob hb1 hb=>(sb.2 b hb1).trans (k4 b ob hb1 hb))
   .rw[decide_eq_false hn];trivial
  |_=>trivial
end
end
section
variable{S:g8}{G:Top}{gA:Heap}{sc:hU}{H:Bool}
theorem KM(hh:A.handled=none)(hF:jj A ((env.locals,o)::Pr))(ix:∀y∈PI,∀z∈Pr,z.1≠y.1)
 (T:At S G gA K d sc H A env κ ρ (PI++Pr) o φ σ s)(hI:jT φ PI it I)(tg:Expr):kP S G gA K d sc H A env κ ρ Pr o φ σ s tg it (It.next σ I):=by
 induction hI with
 |list hl hc hd=>exact VN (o0:=o) hh hF ix T (.list hl hc hd) tg
 |tup hl hc hd=>exact VO (o0:=o) hh hF ix T (.tup hl hc hd) tg
 |range ho=>exact VP hh hF (λz hz=>ix _ (hW ..) z hz) T ho tg
 |down ho=>exact VQ hh hF (λz hz=>ix _ (hW ..) z hz) T ho tg
 |xk hl hE hc hd hne=>exact VX hh hF ix T hl hE hc hd hne tg
 |m6 hl hE hc hd hne=>exact VY hh hF ix T hl hE hc hd hne tg
 |keys hl hc hd=>exact VU hh hF (λz hz=>ix _ (hW ..) z hz) T hl hc hd tg
 |items hl ho=>exact V5 hh hF (λz hz=>ix _ (hW ..) z hz) T hl ho tg
 |chars hx hc hd=>exact VV hh hF (λz hz=>ix _ (hW ..) z hz) T hx hc hd tg
 |wide hx hc hd=>exact VW hh hF (λz hz=>ix _ (hW ..) z hz) T hx hc hd tg
def tc(S:g8)(G:Top)(gA:Heap)(sc:hU)(H:Bool)(e:Expr)(f:VI):Prop:=(∀x env,foldedSetIterable e env x=pure x)∧∀K d A env κ ρ Pr o φ σ s,kO S gA K d→At S G gA K d sc H A env κ ρ Pr o φ σ s→match f K ρ κ σ with
 | .ok I σ'=>∀(Q:gG→gJ→Prop)(E:gG→gJ→Prop),(∀gE PI it s',Le φ gE→jT gE PI it I→(∀y∈PI,∀z∈Pr,z.1≠y.1)→At S G gA K d sc H A env κ ρ (PI++Pr) o gE σ' s'→Q it s')→gL S.M A (eval e env) (λx s₁=>gL S.M A (pyIter x) Q E s₁) E s
 |_=>True
theorem V6(t:VT)(b o:VS)(K:KE)(κ:gX)(n:Nat)(I:It)(ρ:Loc)(σ:gI):lr t b o K κ (n+1) I ρ σ=(match It.next σ I with
 | .done=>o K ρ κ σ
 | .one v I'=>(t K ρ κ v σ).run λρ σ=>yP (lr t b o K κ n I') (b K ρ κ σ)
 | .two u v I'=>(rU t K ρ κ u v σ).run λρ σ=>yP (lr t b o K κ n I') (b K ρ κ σ)
 | .bad=>.stuck 37):=rfl
theorem V7(ht:GoodG S G gA sc H t f)(hi:tc S G gA sc H i u)(hb:nR S G gA sc H b g)(he:nR S G gA sc H e h)(hH:H=true)(htw:isTup t=true∨∀K ρ κ σ I σ',u K ρ κ σ= .ok I σ'→lz I=true):kE S G gA sc H (.For t i b e p) (pC f u g h):=
 λK d A env κ ρ Pr o φ σ s hK T=>by
  refine gen (pC f u g h K ρ κ σ) λr hrd=>?_;have hrd:R.run (u K ρ κ σ) (lr f g h K κ K.N · ρ ·)=r:=hrd;refine iN.of_post λhr E=>?_;refine jA (A9 (hrd▸hr)) λI0 ip e0 U=>?_;have h0:=hi.2 K d A env κ ρ Pr o φ σ s hK T;rw[e0]at h0 hrd;refine wpAny_For (h0 _ _ λtd V8 it s0 l0 hI0 V9 T0=>?_) (λx=>hi.1 x env);have hh:=T.hnd hH;refine IW (λR=>codeAny S.M A (.forLoop t it b e env) R s0) λRz hR=>?_;have hR:∀x y,nk S G gA K d sc H A env κ Pr φ r x y→Rz (.ok x) y:=λx y=>hR (.ok x) y;refine CR (λn s'=>∀C:Prop,(∀gE o' ρ' σ' PI I,Le φ gE→At S G gA K d sc H A env κ ρ' (PI++Pr) o' gE σ' s'→jT gE PI it I→(∀y∈PI,∀z∈Pr,z.1≠y.1)→(isTup t=true∨lz I=true)→lr f g h K κ n I ρ' σ'=r→C)→C) λJ j1 j2=>?_;refine VM J (λE n s' hI=>?_) K.N (j2 _ _ λC k=>k td o ρ ip V8 I0 l0 T0 hI0 V9 (htw.imp id λz=>z _ _ _ _ _ _ e0) hrd);refine j1 _ _ hI _ λgE o' ρ' σ' PI I l T' D3 ap hw e'=>?_
  induction n with
  |zero=>rw[←e']at hr;exact gU hr
  |succ n=>
   have hst:=KM hh (T.frs.of T'.fr.yS (T'.pK.trans T.pK.symm)) ap T' D3 t;rw[V6]at e';have turn:∀(I':It)(oW:Pl)(jk:Loc)(σ1:gI)(xl:ik)(o1:Obj)(s1:gJ),Le φ oW→At S G gA K d sc H A env κ jk (xl++Pr) o1 oW σ1 s1→jT oW xl it I'→(∀y∈xl,∀z∈Pr,z.1≠y.1)→(isTup t=true∨lz I'=true)→yP (lr f g h K κ n I') (g K jk κ σ1)=r→gL S.M A (execs b env) (KH J Rz (n+1)) E s1:=
    λI' oW jk σ1 xl o1 s1 l1 T1 V' Wa hw1 er=>KC (hb K d A env κ jk (xl++Pr) o1 oW σ1 s1 hK T1) hr er
     (λkl σ2 kF o2 s2 e2 l2 T2=>have z:=⟨n,Ar n,j2 _ _ λC k=>k kF o2 kl σ2 xl I' (l1.trans l2) T2 (V'.mono l2) Wa hw1 e2⟩;⟨z,z⟩)
     (λkl σ2 kF o2 s2 e2 l2 T2=>hR _ _ (e2▸⟨rfl,kF,o2,l1.trans l2,T.drop T2⟩)) λv2 σ2 kF s2 x e2 l2 I2 r2=>hR _ _ (e2▸⟨x,kF,rfl,l1.trans l2,I2.disown λy hy=>rP _ hy,r2⟩)
   induction hn:It.next σ' I with
   |bad=>rw[hn]at e';rw[←e']at hr;exact gU hr
   |done=>
    rw[hn]at hst e';refine hst _ _ λs1 T1=>?_;have h2:=he K d A env κ ρ' Pr o' gE σ' s1 hK T1;have e':h K ρ' κ σ'=r:=e';rw[e']at h2;exact jg (h2.post hr _) (λfl s3 q=>hR _ _ (nk.le l q)) λU U z=>z
   |one v I'=>
    have Bc:isTup t=true∨lz I'=true:=hw.imp id λz=>by have:=DZ (σ:=σ') z;rw[hn]at this;exact this
    rw[hn]at hst e';rw[←e']at hr;refine jA (A9 hr) λjk σ1 e1 hr1=>?_;refine hst _ _ λx s1 rx hgo=>hgo _ _ λmz s2 hI' ub T2=>?_;have h2:=ht K d A env κ ρ' (mz++Pr) o' gE σ' s2 x v hK T2 rx;change R.run (f K ρ' κ v σ') _=r at e';rw[e1]at h2 e';refine h2 _ _ λkF o2 s3 l2 T3=>turn I' kF jk σ1 mz o2 s3 (l.trans l2) T3 (hI'.mono l2) ub Bc ?_;exact e'
   |two u2 v I'=>
    have Bc:isTup t=true:=hw.elim id λz=>by have:=DZ (σ:=σ') z;rw[hn]at this;exact this.elim
    rw[hn]at hst e';rw[←e']at hr;refine jA (A9 hr) λjk σ1 e1 hr1=>?_;refine hst Bc _ _ λa s1 hgo=>hgo _ _ λmz s2 hI' ub T2=>?_;have hfree:gE σ'.n=none:=T'.inv.free;have la:Le gE (gE.add σ'.n a):=T'.inv.jY a;have h2:=ht K d A env κ ρ' (mz++Pr) o' (gE.add σ'.n a) (σ'.push (.tuple [u2,v])) s2 (.ref a) (.ref σ'.n) hK T2 (VR.top ..);have Wb:f K ρ' κ (.ref σ'.n) (σ'.push (.tuple [u2,v]))= .ok jk σ1:=e1;rw[Wb]at h2;change R.run (rU f K ρ' κ u2 v σ') _=r at e';rw[e1]at e';refine h2 _ _ λkF o2 s3 l2 T3=>turn I' kF jk σ1 mz o2 s3 ((l.trans la).trans l2) T3 (hI'.mono l2) ub (.inl Bc) ?_;exact e'
end
section
variable{S:g8}{G:Top}{gA:Heap}{sc:hU}{H:Bool}
theorem At.wc(T:At S G gA K d sc H A env κ ρ Pr o φ σ s)(hf:ob.isFreed=false):
 (∀y∈[(s.heap.objs.size,ob)],∀z∈Pr,z.1≠y.1)∧At S G gA K d sc H A env κ ρ ([(s.heap.objs.size,ob)]++Pr) o φ σ {s with heap:=s.heap.push ob}:=by
 have hb:=T.inv.beyond (a:=s.heap.objs.size) (i8 _);have T1:At S G gA K d sc H A env κ ρ Pr o φ σ {s with heap:=s.heap.push ob}:=T.step (Le.refl φ) (T.inv.grow (λb o e=>ja _ e) s.toks s.drawn);refine⟨λy hy z hz=>by rw[jc]at hy;subst hy;exact hb.2 z (hO _ hz),T1.take (j7 _ hf) ?_ hb.1 λe=>hb.2 _ (hW ..) e.symm⟩
 induction e:gA.get? s.heap.objs.size with
 |none=>rfl
 |some o1=>have:=T.inv.keep _ _ e;rw[se]at this;exact gV this
noncomputable def D4(e:Expr):Bool:=sg 7 e
theorem Wc(h:D4 e=true)(x:gG)(env:Env):foldedSetIterable e env x=pure x:=by
 cases e<;>first|rfl|exact gU h
theorem Wd(T:At S G gA K d sc H A env κ ρ Pr o φ σ s)(hx:VR φ x v)(hI:p7 σ v=some I)
 (k:∀PI it s',jT φ PI it I→(∀y∈PI,∀z∈Pr,z.1≠y.1)→At S G gA K d sc H A env κ ρ (PI++Pr) o φ σ s'→Q it s'):gL S.M A (pyIter x) Q E s:=by
 induction hx with
 |none=>exact gV hI
 |bool=>exact gV hI
 |int=>exact gV hI
 | @str x n t hs=>
  have hI:some (It.vals (lL (λc=>.str (iT [c])) (dec n)))=some I:=hI;rw[w7,hs.dec]at hI;obtain rfl:=gP hI;have hc:∀c∈x.cps.toList,c<0x110000:=λc hc=>JS hs hc
  induction ha:x.cps.all (·<128)with
  |true=>
   refine wpAny_pyIter_ascii ha ?_;refine iK (T.wc (ob:={cls:=.type "str_ascii_iterator",data:=.fields #[.str x t,.int 0 0]}) rfl) λh1 h2=>?_;exact k _ _ _ (.chars (j:=0) hc rfl rfl) h1 h2
  |false=>
   refine wpAny_pyIter_wide ha ?_;refine iK (T.wc (ob:={cls:=.type "str_iterator",data:=.fields #[.str x t,.int 0 0]}) rfl) λh1 h2=>?_;exact k _ _ _ (.wide (j:=0) hc rfl rfl) h1 h2
 | @ref l a hp=>
  have hI:(hG none (yk a) (σ.get a):Option It)=some I:=hI
  induction e:σ.get a with
  |none=>rw[e]at hI;exact gV hI
  |some ob=>
   rw[e]at hI;have hI:yk a ob=some I:=hI
   induction ob with
   |list xs=>
    obtain rfl:=gP hI;refine iH (T.inv.list e hp) λvs n h1 h2 h3=>?_;refine wpAny_pyIter_list ⟨_,h1,rfl,n,rfl⟩ ?_;refine iK (T.wc (ob:={cls:=.type "list_iterator",data:=.fields #[.ref l,.int 0 0]}) rfl) λh1 h2=>?_;exact k _ _ _ (.list (j:=0) hp rfl rfl) h1 h2
   |tuple xs=>
    obtain rfl:=gP hI;refine iH (T.inv.tuple e hp) λvs n h1 h2 h3=>?_;refine wpAny_pyIter_tuple ⟨_,h1,rfl,n,rfl⟩ ?_;refine iK (T.wc (ob:={cls:=.type "tuple_iterator",data:=.fields #[.ref l,.int 0 0]}) rfl) λh1 h2=>?_;exact k _ _ _ (.tup (j:=0) hp rfl rfl) h1 h2
   |dict es=>
    have hI:some (It.keys a 0 (iC es))=some I:=hI;rw[jo]at hI;obtain rfl:=gP hI;have D:=T.inv.dict e hp;refine jA D.obj λjq ep h1 h2=>?_;have pG:ep=es.length:=D.AH _ _ _ h1 rfl;have ij:jq.size=es.length:=by rw[←jM];exact h2.length
    refine Vl (T.inv.tU hp (by intro _ z;rw[e]at z;obtain rfl:=gP z;rfl)) h1 ?_;refine iK (T.wc (ob:={cls:=.type "dict_keyiterator",data:=.fields #[.ref l,.int 0 0,.int jq.size 0,.int ep 0]}) rfl) λh1 h2=>?_;exact k _ _ _ (.keys (j:=0) hp rfl (by rw[ij,pG];rfl)) h1 h2
   |_=>exact gV hI
theorem We(he:ib S G gA sc H e f)(hs:D4 e=true):tc S G gA sc H e (qB f):=
 ⟨λx env=>Wc hs x env,λK d A env κ ρ Pr o φ σ s hK T=>by
  have h0:=he K d A env κ ρ Pr o φ σ s hK T;show match(f K ρ κ σ).bind λv σ=>go (p7 σ v) 23 λit=>.ok it σ with| .ok I σ'=>_|_=>True
  induction hf:f K ρ κ σ with
  |exc=>trivial
  |stuck=>trivial
  |ok v σ1=>
   rw[hf]at h0;show match go (p7 σ1 v) 23 λit=>R.ok it σ1 with| .ok I σ'=>_|_=>True
   induction hi:p7 σ1 v with
   |none=>trivial
   |some I=>exact λQ E k=>h0 _ _ λgE x s' l I' rx=>Wd (T.step l I') rx hi λPI it s'' a b c=>k gE PI it s'' l a b c⟩
end
theorem Be(h:nI k=true): -(2^62)≤k∧k<2^62:=by
 induction k with
 |ofNat n=>
  have h:n≤2305843009213693952:=kT h;show-(2^62)≤(n:Int)∧(n:Int)<2^62;lia
 |negSucc n=>
  have h:n≤2305843009213693951:=kT h;rw[Int.negSucc_eq];lia
theorem KN{α β:Type}{f:α→Option β}:∀{l:List α}{r:List β},lM f l=some r→r.length=l.length
 |[],r,h=>by obtain rfl:=gP h;rfl
 |a::l,r,h=>by
  rw[DD]at h
  induction e:f a with
  |none=>rw[e]at h;injection h
  |some b=>
   induction e':lM f l with
   |none=>rw[e,e']at h;injection h
   |some r'=>
    rw[e,e']at h;obtain rfl:=gP h;rw[mZ,mZ,KN e']
theorem Wf{l:List AV}{xs:List AV}(h:vT l=some xs):
 (∃b,l=[.int b]∧nI b=true∧xs=og b.toNat 0)∨∃b c,l=[.int b,.int c]∧nI b=true∧nI c=true∧xs=og (Int.toNat (Int.sub c b)) b:=by
 match l with
 |[]=>injection h
 |[v]=>
  induction v with
  |int b=>
   have h:(gT none (some (og b.toNat 0)) (nI b):Option (List AV))=some xs:=h
   induction e:nI b with
   |false=>rw[e]at h;injection h
   |true=>rw[e]at h;obtain rfl:=gP h;exact .inl ⟨b,rfl,e,rfl⟩
  |_=>cases h
 |[u,v]=>
  induction u with
  |int b=>
   induction v with
   |int c=>
    have h:(gT none (gT none (some (og (Int.toNat (Int.sub c b)) b)) (nI b)) (nI c):Option (List AV))=some xs:=h
    induction e:nI c with
    |false=>rw[e]at h;injection h
    |true=>
     rw[e]at h
     induction e':nI b with
     |false=>rw[e']at h;injection h
     |true=>rw[e']at h;obtain rfl:=gP h;exact .inr ⟨b,c,rfl,e',e,rfl⟩
   |_=>cases h
  |_=>induction v<;>injection h
 |u::v::w::r=>
  exfalso
  have h:(hG none HG (lM jV (u::v::w::r)):Option (List AV))=some xs:=h
  induction e:lM jV (u::v::w::r)with
  |none=>rw[e]at h;injection h
  |some l=>
   rw[e]at h;have hl:l.length=r.length+3:=by have:=KN e;simpa using this
   match l,h,hl with
   |[],h,_=>injection h
   |[_],_,hl=>simp at hl
   |[_,_],_,hl=>simp at hl
   |_::_::_::_,h,_=>injection h
section
variable{S:g8}{G:Top}{gA:Heap}{sc:hU}{H:Bool}
theorem KO(T:At S G gA K d sc H A env κ ρ Pr o φ σ s)(hr:IsRange s.heap r a b 1 t u v)
 (ha:nI a=true)(hb:nI b=true)(k:∀PI it s',jT φ PI it (.vals (og (Int.toNat (Int.sub b a)) a))→(∀y∈PI,∀z∈Pr,z.1≠y.1)→At S G gA K d sc H A env κ ρ (PI++Pr) o φ σ s'→Q it s'):gL S.M A (pyIter (.ref r)) Q E s:=by
 refine wpAny_pyIter_range hr (small_one (Be ha).1 (Be ha).2 (Be hb).1 (Be hb).2) ?_;have e:Builtin.Range.rangeSize a b 1=((Int.toNat (Int.sub b a):Nat):Int):=by
  rw[rangeSize_one];show _=(((b- a).toNat:Nat):Int);split<;>lia
 rw[e];refine iK (T.wc (ob:={cls:=.type "range_iterator",dict:=none,data:=.fields #[iZ a,iZ (Int.toNat (Int.sub b a):Nat),iZ 1],slots:=#[]}) rfl) λh1 h2=>?_;exact k _ _ _ (.range rfl) h1 h2
theorem At.pushed(T:At S G gA K d sc H A env κ ρ Pr o φ σ s)(ob:Obj)(tk:Nat):At S G gA K d sc H A env κ ρ Pr o φ σ {s with heap:=s.heap.push ob,toks:=tk}:=
 T.step (Le.refl φ) (T.inv.grow (λb o e=>ja _ e) tk s.drawn)
theorem KQ(h:il φ vs [.int b]):∃t,vs=[.int b t]:=by
 cases h with
 |cons h1 h2=>cases h2;cases h1;exact⟨_,rfl⟩
theorem Wg(h:il φ vs [.int b,.int c]):∃t u,vs=[.int b t,.int c u]:=by
 cases h with
 |cons h1 h2=>
  refine jn (KQ h2) λu e=>?_
  cases h1;exact⟨_,u,congrArg _ e⟩
theorem Wh(hk:sc.names.lookup ("range":Str)=some .globalImplicit)(hv:G.val "range"=some (.type "range"))(hes:mu S G gA sc H es f)(hs:jZ es=true):
 tc S G gA sc H (.Call (.Name "range" p) es [] pos) (qE f):=
 ⟨λx env=>rfl,λK d A env κ ρ Pr o φ σ s hK T=>by
  have h0:=hes K d A env κ ρ Pr o φ σ s hK T pos;show match(f K ρ κ σ).bind λvs σ=>go (vT vs) 24 λxs=>R.ok (It.vals xs) σ with| .ok I σ'=>_|_=>True
  induction hf:f K ρ κ σ with
  |exc=>trivial
  |stuck=>trivial
  |ok us σ1=>
   rw[hf]at h0;show match go (vT us) 24 λxs=>R.ok (It.vals xs) σ1 with| .ok I σ'=>_|_=>True
   induction hi:vT us with
   |none=>trivial
   |some xs=>
    intro Q E k;rw[vZ];refine gH (rq T hk (by decide) hv ?_);refine PySem.callWith_type (nh hs pos env) (tW (nh hs pos env) (h0 _ _ λgE vs s' l I' rv=>?_));have T':=T.step l I'
    rcases Wf hi with⟨b,rfl,hb,rfl⟩|⟨b,c,rfl,hb,hc,rfl⟩
    .refine jn (KQ rv) λt e=>?_;subst e;exact call_range_1 (KO (a:=0) (T'.pushed _ _) (IsRange.new ..) (by decide) hb λPI it s'' a b' c=>k gE PI it s'' l ((congrArg (λz=>jT gE PI it (.vals (og z 0))) (congrArg Int.toNat (Int.sub_zero b))).mp a) b' c)
    .refine qY (Wg rv) λt u e=>?_;subst e;exact call_range_2 (KO (T'.pushed _ _) (IsRange.new ..) hb hc λPI it s'' a b' c=>k gE PI it s'' l a b' c)⟩
end
section
variable{S:g8}{G:Top}{gA:Heap}{sc:hU}{H:Bool}
theorem At.KR(T:At S G gA K d sc H A env κ ρ Pr o φ σ s)(he:h'.get? (s.heap.objs.size+1)=some oe)(hi:h'.get? s.heap.objs.size=some oi)(hk:∀b o,s.heap.get? b=some o→h'.get? b=some o):
 (∀y∈[(s.heap.objs.size+1,oe),(s.heap.objs.size,oi)],∀z∈Pr,z.1≠y.1)∧At S G gA K d sc H A env κ ρ ([(s.heap.objs.size+1,oe),(s.heap.objs.size,oi)]++Pr) o φ σ {s with heap:=h'}:=by
 have hb:=T.inv.beyond (a:=s.heap.objs.size) (i8 _);have hb1:=T.inv.beyond (a:=s.heap.objs.size+1) (nF _);have nb:∀a,s.heap.objs.size≤a→gA.get? a=none:=λa ha=>by
  induction e:gA.get? a with
  |none=>rfl
  |some o1=>have:=T.inv.keep _ _ e;rw[yJ _ ha]at this;exact gV this
 have T1:At S G gA K d sc H A env κ ρ Pr o φ σ {s with heap:=h'}:=T.step (Le.refl φ) (T.inv.grow hk s.toks s.drawn);refine⟨λy hy z hz=>?_,(T1.take hi (nb _ (i8 _)) hb.1 λe=>hb.2 _ (hW ..) e.symm).take he (nb _ (nF _)) hb1.1 λe=>hb1.2 _ (hW ..) e.symm⟩
 rcases iL.mp hy with rfl|hy
 .exact hb1.2 z (hO _ hz)
 .rw[jc]at hy;subst hy;exact hb.2 z (hO _ hz)
theorem Wi(hk:sc.names.lookup ("enumerate":Str)=some .globalImplicit)(hv:G.val "enumerate"=some (.type "enumerate"))(he:ib S G gA sc H e f)(hs:jZ [e]=true)(hn:noStar e=true):
 tc S G gA sc H (.Call (.Name "enumerate" p) [e] [] pos) (qI f):=
 ⟨λx env=>rfl,λK d A env κ ρ Pr o φ σ s hK T=>by
  have h0:=J9 he hn J8 K d A env κ ρ Pr o φ σ s hK T pos;show match(f K ρ κ σ).bind λv σ=>go (refOf v) 25 λa=>go (σ.get a) 25 λo=>go (w3 a o) 25 λit=>R.ok it σ with| .ok I σ'=>_|_=>True
  induction hf:f K ρ κ σ with
  |exc=>trivial
  |stuck=>trivial
  |ok v σ1=>
   have hc:nL f nK K ρ κ σ= .ok [v] σ1:=by
    show(f K ρ κ σ).bind _=_;rw[hf];rfl
   rw[hc]at h0;show match go (refOf v) 25 λa=>go (σ1.get a) 25 λo=>go (w3 a o) 25 λit=>R.ok it σ1 with| .ok I σ'=>_|_=>True
   induction v with
   |ref a=>
    show match go (σ1.get a) 25 λo=>go (w3 a o) 25 λit=>R.ok it σ1 with| .ok I σ'=>_|_=>True
    induction eg:σ1.get a with
    |none=>trivial
    |some ob=>
     show match go (w3 a ob) 25 λit=>R.ok it σ1 with| .ok I σ'=>_|_=>True
     induction ob with
     |list xs=>
      intro Q E k;rw[vZ];refine gH (rq T hk (by decide) hv ?_);refine PySem.callWith_type (nh hs pos env) (tW (nh hs pos env) (h0 _ _ λgE vs s' l I' rv=>?_));have T':=T.step l I'
      cases rv with
      |cons h1 h2=>
       cases h2
       cases h1 with
       | @ref la _ hp=>
        refine iH (T'.inv.list eg hp) λvs n g1 g2 g3=>?_;refine call_enumerate_list ⟨_,g1,rfl,n,rfl⟩ λh' k1 k2 k3 k4=>?_;refine jI k2 λoi c1 c2 c3=>?_;refine iK (T'.KR k1 c1 k4) λz1 z2=>?_;exact wpAny_pyIter_enum (s:={s' with heap:=h'}) k1 (k gE _ _ _ l (.xk hp rfl c2 c3 (Nat.succ_ne_self _)) z1 z2)
     |tuple xs=>
      intro Q E k;rw[vZ];refine gH (rq T hk (by decide) hv ?_);refine PySem.callWith_type (nh hs pos env) (tW (nh hs pos env) (h0 _ _ λgE vs s' l I' rv=>?_));have T':=T.step l I'
      cases rv with
      |cons h1 h2=>
       cases h2
       cases h1 with
       | @ref la _ hp=>
        refine iH (T'.inv.tuple eg hp) λvs n g1 g2 g3=>?_;refine Vy g1 λh' k1 k2 k3 k4=>?_;refine jI k2 λoi c1 c2 c3=>?_;refine iK (T'.KR k1 c1 k4) λz1 z2=>?_;exact wpAny_pyIter_enum (s:={s' with heap:=h'}) k1 (k gE _ _ _ l (.m6 hp rfl c2 c3 (Nat.succ_ne_self _)) z1 z2)
     |_=>trivial
   |_=>trivial⟩
end
section
variable{S:g8}{G:Top}{gA:Heap}{sc:hU}{H:Bool}
theorem Wj(he:ib S G gA sc H e f)(hb:vY e=true)(hline:(apos.endLine==pos.line)=true):
 tc S G gA sc H (.Call (.Attribute e "items" apos) [] [] pos) (qJ f):=
 ⟨λx env=>rfl,λK d A env κ ρ Pr o φ σ s hK T=>by
  have h0:=he K d A env κ ρ Pr o φ σ s hK T;show match(f K ρ κ σ).bind λv σ=>go (refOf v) 26 λa=>go (σ.get a) 26 λo=>go (vR o) 26 λes=>R.ok (It.items a 0 (iC es)) σ with| .ok I σ'=>_|_=>True
  induction hf:f K ρ κ σ with
  |exc=>trivial
  |stuck=>trivial
  |ok v σ1=>
   rw[hf]at h0;show match go (refOf v) 26 λa=>go (σ1.get a) 26 λo=>go (vR o) 26 λes=>R.ok (It.items a 0 (iC es)) σ1 with| .ok I σ'=>_|_=>True
   induction v with
   |ref a=>
    show match go (σ1.get a) 26 λo=>go (vR o) 26 λes=>R.ok (It.items a 0 (iC es)) σ1 with| .ok I σ'=>_|_=>True
    induction eg:σ1.get a with
    |none=>trivial
    |some ob=>
     induction ob with
     |dict es=>
      intro Q E k;rw[arm_eval_Call,DG hb];refine gH (h0 _ _ λgE y s' l I' rv=>gH (ky ?_));have T':=T.step l I'
      cases rv with
      | @ref la _ hp=>
       have D:=T'.inv.dict eg hp;refine jA D.obj λjq ep g1 g2=>?_;have pG:ep=es.length:=D.AH _ _ _ g1 rfl;have ij:jq.size=es.length:=by rw[←jM];exact g2.length
       have hns:(la==nA)=false:=T'.inv.tU hp (by intro _ z;rw[eg]at z;obtain rfl:=gP z;rfl);have hd:∀b,gG.ref la= .ref b→∃o,s'.heap.get? b=some o∧o.dict=none:=λb e=>by cases e;exact⟨_,g1,rfl⟩
       refine DM (DN (es:=[]) rfl (by decide) pos env) hline (λpl Q k=>getMethod_builtin D.typeIs F.plainAttrs_dict F.slot_dict_items F.type_dict_items hd k) ?_;refine Calls.callWith_builtin (nh (es:=[]) rfl pos env) (tW (nh (es:=[]) rfl pos env) ?_);refine gO ?_;refine VC hns g1 ?_;have T1:=T'.step (Le.refl gE) (T'.inv.grow (λb o e=>ja _ e) s'.toks s'.drawn (h':=s'.heap.push {cls:=.type "dict_items",data:=.fields #[.ref la]}));refine VD (s:={s' with heap:=s'.heap.push {cls:=.type "dict_items",data:=.fields #[.ref la]}}) (j7 _ rfl) (ja _ g1) ?_;refine iK (T1.wc (ob:={cls:=.type "dict_itemiterator",data:=.fields #[.none,.bool false,.ref la,.int 0 0,.int jq.size 0,.int ep 0,.none,.none]}) rfl) λz1 z2=>?_;exact k gE _ _ _ l (.items (j:=0) hp (by rw[jo,ij,pG];rfl)) z1 z2
     |_=>trivial
   |_=>trivial⟩
end
noncomputable def freeNames(names:List (Str×NameKind)):List Str:=(names.filter λx=>x.2== .free).map (·.1)
noncomputable def so(cells:List (Str×Addr)):List (Str×NameKind)→List (Str×Addr)→Option (List (Str×Addr))
 |[],acc=>some acc
 |(n,k)::r,acc=>if k== .free then(match cells.lookup n with|some c=>so cells r ((n,c)::acc)|none=>none)else so cells r acc
theorem D5:∀(names:List (Str×NameKind))(acc cl:List (Str×Addr)),so env.cells names acc=some cl→
 (forIn names acc (λ(x:Str×NameKind) cs=>(do if x.2== .free then do let c←cellOf env x.1;pure (ForInStep.yield ((x.1,c)::cs))else pure (ForInStep.yield cs):Sem (ForInStep (List (Str×Addr))))))=pure cl
 |[],acc,cl,h=>by obtain rfl:=gP h;rfl
 |(n,k)::r,acc,cl,h=>by
  rw[List.forIn_cons];unfold so at h
  induction hk:(k==NameKind.free)with
  |false=>
   rw[hk]at h;exact D5 r acc cl h
  |true=>
   rw[hk]at h
   induction hc:env.cells.lookup n with
   |none=>rw[hc]at h;exact gV h
   |some c=>
    rw[hc]at h;have hce:cellOf env n=pure c:=by unfold cellOf;rw[hc]
    have:=D5 r _ cl h;refine Eq.trans ?_ this;show((do let c←cellOf env n;pure (ForInStep.yield ((n,c)::acc)))>>=_)=_;rw[hce];rfl
theorem D6(h:so env.cells scope.names []=some cl):closureFor scope env=pure cl:=by
 have:=D5 scope.names [] cl h;refine Eq.trans ?_ (congrArg (λm:Sem (List (Str×Addr))=>m>>=λr=>pure r) this);rfl
theorem D7:∀(names:List (Str×NameKind))(acc cl:List (Str×Addr)),so cells names acc=some cl→(∀n c,acc.lookup n=some c→cells.lookup n=some c)→
 (∀n c,cl.lookup n=some c→cells.lookup n=some c)∧(∀n c,acc.lookup n=some c→cl.lookup n=some c)∧∀n∈freeNames names,∃c,cl.lookup n=some c
 |[],acc,cl,h,ha=>by obtain rfl:=gP h;exact⟨ha,λU U e=>e,λn hn=>by cases hn⟩
 |(m,k)::r,acc,cl,h,ha=>by
  unfold so at h;unfold freeNames;rw[List.filter_cons]
  induction hk:(k==NameKind.free)with
  |false=>
   rw[hk]at h;exact D7 r acc cl h ha
  |true=>
   rw[hk]at h
   induction hc:cells.lookup m with
   |none=>rw[hc]at h;exact gV h
   |some c=>
    rw[hc]at h;have ha':∀n c',List.lookup n ((m,c)::acc)=some c'→cells.lookup n=some c':=λn c' e=>by
     rw[mG]at e
     induction hb:(n==m)with
     |true=>rw[hb]at e;obtain rfl:=gP e;rw[eq_of_beq hb];exact hc
     |false=>rw[hb]at e;exact ha n c' e
    refine kM (D7 r ((m,c)::acc) cl h ha') λh1 h2 h3=>?_;refine⟨h1,λn c' e=>?_,λn hn=>?_⟩
    .induction hb:(n==m)with
     |true=>
      have e1:=eq_of_beq hb;subst e1;have:=ha n c' e;rw[hc]at this;obtain rfl:=gP this;exact h2 n c (by rw[mG,hb])
     |false=>exact h2 n c' (by rw[mG,hb];exact e)
    .rcases iL.mp hn with rfl|hn
     .exact⟨c,h2 _ c (by rw[mG,beq_self_eq_true])⟩
     .exact h3 n hn
theorem D8:∀(names:List (Str×NameKind))(acc:List (Str×Addr)),(∀n∈freeNames names,∃c,cells.lookup n=some c)→∃cl,so cells names acc=some cl
 |[],acc,_=>⟨acc,rfl⟩
 |(m,k)::r,acc,h=>by
  unfold so;unfold freeNames at h;rw[List.filter_cons]at h
  induction hk:(k==NameKind.free)with
  |false=>rw[hk]at h;exact D8 r acc h
  |true=>
   rw[hk]at h;obtain⟨c,hc⟩:=h m (hW ..);rw[hc];exact D8 r _ λn hn=>h n (hO _ hn)
theorem KS:∀{l:List Ad}{κ':gX},lq κ l=some κ'→(∀x∈l,∃p,kh κ x=some p)∧∀x p,kh κ' x=some p→x∈l∧kh κ x=some p
 |[],κ',h=>by
  have h:some ([]:gX)=some κ':=h;obtain rfl:=gP h;exact⟨λx hx=>(nomatch hx),λx p e=>(nomatch e)⟩
 |y::l,κ',h=>by
  have h:(hG none (λa=>hG none (λr=>some ((y,a)::r)) (lq κ l)) (kh κ y):Option gX)=some κ':=h
  induction hy:kh κ y with
  |none=>rw[hy]at h;exact gV h
  |some a=>
   rw[hy]at h;have h:(hG none (λr=>some ((y,a)::r)) (lq κ l):Option gX)=some κ':=h
   induction hr:lq κ l with
   |none=>rw[hr]at h;exact gV h
   |some r=>
    rw[hr]at h;obtain rfl:=gP h;obtain⟨h1,h2⟩:=KS hr;refine⟨λx hx=>?_,λx p e=>?_⟩
    .rcases iL.mp hx with rfl|hx
     .exact⟨a,hy⟩
     .exact h1 x hx
    .have e:(gT (kh r x) (some a) (Ad.eq y x):Option Ad)=some p:=e
     induction hb:Ad.eq y x with
     |true=>
      rw[hb]at e;obtain rfl:=gP e;have:=Ad.eq_iff.mp hb;subst this;exact⟨hW ..,hy⟩
     |false=>
      rw[hb]at e;obtain⟨z1,z2⟩:=h2 x p e;exact⟨hO _ z1,z2⟩
def wd(nm:Ad→Option Str)(fr:List Ad)(names:List (Str×NameKind)):Prop:=(∀n∈freeNames names,∃a∈fr,nm a=some n)∧∀a∈fr,∃n∈freeNames names,nm a=some n
theorem D9(hc:ou S φ cells κ)(hf:wd S.nm fr names)(h:lq κ fr=some κ'):
 ∃cl,so cells names []=some cl∧ou S φ cl κ':=by
 refine iK (KS h) λh1 h2=>?_;obtain⟨cl,hcl⟩:=D8 (cells:=cells) names [] λn hn=>by
  refine gW (hf.1 n hn) λa ha hn'=>?_;refine jn (h1 a ha) λp hp=>?_;refine iH (hc a p hp) λn' c z1 z2 U=>?_;rw[hn']at z1;obtain rfl:=gP z1;exact⟨c,z2⟩
 refine kM (D7 names [] cl hcl (λn c e=>by exact gV e)) λk1 k2 k3=>?_;refine⟨cl,hcl,λx p e=>?_⟩;refine iK (h2 x p e) λz1 z2=>?_;refine iH (hc x p z2) λn c y1 y2 y3=>?_;refine gW (hf.2 x z1) λn' hn' e'=>?_;rw[y1]at e';obtain rfl:=gP e';refine jn (k3 n hn') λc' hc'=>?_;have:=k1 n c' hc';rw[y2]at this;obtain rfl:=gP this;exact⟨n,c,y1,hc',y3⟩
section
variable{S:g8}{G:Top}{gA:Heap}{sc:hU}{H:Bool}
theorem Wl(T:At S G gA K d sc H A env κ ρ (PI++Pr) o φ σ s)(hI:jT φ PI it I)(h1:lz I=true)(h:Q it s):gL S.M A (pyIter it) Q E s:=by
 have own:∀{i:Addr}{ob:Obj},PI=[(i,ob)]→ob.cls≠.type "frame"→s.heap.get? i=some ob:=λ{i ob} e hf=>by
  subst e;refine kM (T.inv.pr (i,ob) (hO _ (hW ..))) λWm U U=>?_;refine rW Wm λo1 q1 q2 q3 q4 q5=>?_;rw[q5 hf]at q1;exact q1
 induction hI with
 |list hl hc hd=>exact wpAny_pyIter_listiter ⟨_,own rfl (by rw[hc];show ig "list_iterator"≠ig "frame";decide),hc,hd⟩ h
 |tup hl hc hd=>exact wpAny_pyIter_tupleiter ⟨_,own rfl (by rw[hc];show ig "tuple_iterator"≠ig "frame";decide),hc,hd⟩ h
 |range ho=>exact wpAny_pyIter_rangeiter (by rw[IsRangeIter,own rfl (by rw[ho];show ig "range_iterator"≠ig "frame";decide),ho]) h
 |down ho=>exact wpAny_pyIter_rangeiter (by rw[IsRangeIter,own rfl (by rw[ho];show ig "range_iterator"≠ig "frame";decide),ho]) h
 |keys hl hc hd=>exact wpAny_pyIter_keyiter ⟨_,own rfl (by rw[hc];show ig "dict_keyiterator"≠ig "frame";decide),hc,hd⟩ h
 |chars hx hc hd=>exact wpAny_pyIter_striter_ascii ⟨_,own rfl (by rw[hc];show ig "str_ascii_iterator"≠ig "frame";decide),hc,hd⟩ h
 |wide hx hc hd=>exact wpAny_pyIter_striter_wide ⟨_,own rfl (by rw[hc];show ig "str_iterator"≠ig "frame";decide),hc,hd⟩ h
 |xk=>exact gU h1
 |m6=>exact gU h1
 |items=>exact gU h1
end
section
variable{S:g8}{G:Top}{gA:Heap}{sc:hU}{H:Bool}
def ue(S:g8)(G:Top)(gA:Heap)(sc:hU)(H:Bool)(ifs:List Expr)(f:VE):Prop:=(ifs=[]∧f=lO (.bool true))∨∃c,ifs=[c]∧kD S G gA sc H c f
noncomputable def Ea(ifs:List Expr)(env:Env):Sem Bool:=forIn ifs true λc r=>if r=true then do let ok←isTrue c env (eval c env);pure (ForInStep.yield ok)else pure (ForInStep.yield r)
theorem Wn(h:ue S G gA sc H ifs f)(hK:kO S gA K d)(T:At S G gA K d sc H A env κ ρ Pr o φ σ s):
 gK S gA A ((env.locals,o)::Pr) φ (λU b c=>b=c) (Ea ifs env) s (test f K ρ κ σ):=by
 rcases h with⟨rfl,rfl⟩|⟨c,rfl,h⟩
 .exact λQ E k=>gO (k φ true s (Le.refl φ) T.inv rfl)
 .have h0:=h K d A env κ ρ Pr o φ σ s hK T;refine h0.same λQ E q=>?_;unfold Ea;rw[List.forIn_cons];refine gH ?_;show gL S.M A (do let ok←isTrue c env (eval c env);pure (ForInStep.yield ok)) _ E s;refine gH (jg q (λb s' hb=>gO ?_) λU U z=>z);exact gO hb
def Wo(S:g8)(A:g6)(env:Env)(elt:Expr)(acc:gG)(I:Nat→gJ→Prop)(n:Nat)(E:gG→gJ→Prop)(ok:Bool)(s:gJ):Prop:=
 if ok=true then gL S.M A (eval elt env) (λx s=>gL S.M A (call (.builtin "list.append") [acc,x]) (λU s=>∃m,m<n∧I m s) E s) E s else∃m,m<n∧I m s
def Wp(S:g8)(A:g6)(env:Env)(target elt:Expr)(ifs:List Expr)(it acc:gG)(I:Nat→gJ→Prop)(R:Result→gJ→Prop)(n:Nat)(E:gG→gJ→Prop)(r:Option gG)(s:gJ):Prop:=match r with
 |none=>R (.ok .next) s
 |some v=>gL S.M A (letOwnedTupleGo target it v) (λU s=>gL S.M A (assign target env v) (λU s=>gL S.M A (Ea ifs env) (Wo S A env elt acc I n E) E s) E s) E s
theorem Wq{R:Result→gJ→Prop}{A:g6}{s:gJ}{elt target iter:Expr}{ifs:List Expr}{scope:hU}{pos:Pos}{it acc:gG}{env:Env}(I:Nat→gJ→Prop)
 (turn:∀E n s,I n s→gL S.M A (pyNext it) (Wp S A env target elt ifs it acc I R n E) E s)(n:Nat)(h:I n s):
 codeAny S.M A (.compLoop (.ListComp elt [⟨target,iter,ifs,0⟩] scope pos) 0 it acc env) R s:=by
 refine codeAny_loop rfl I (λn s hI=>?_) n h;show gL _ A ((compTurn (.ListComp elt [⟨target,iter,ifs,0⟩] scope pos) 0 it acc env).onRaise (λx=>do noteFrame x env;theTreesLotGoes x)) _ _ s;refine wpAny_noted ?_;rw[compTurn_list];refine gH (ky (gH (jg (turn _ n s hI) (λr s₁ h₁=>?_) λU U h'=>h')))
 induction r with
 |none=>exact gO h₁
 |some v=>
  refine gH (jg h₁ (λU s₁' h₁'=>?_) λU U h'=>h');refine gH (jg h₁' (λU s₂ h₂=>gH (jg h₂ (λok s₃ h₃=>?_) λU U h'=>h')) λU U h'=>h')
  induction ok with
  |false=>exact gO ⟨rfl,h₃⟩
  |true=>
   exact gH (gH (jg h₃ (λx s₄ h₄=>gH (jg h₄ (λU s₅ h₅=>gO (gO ⟨rfl,h₅⟩)) λU U h'=>h')) λU U h'=>h'))
def KU(e:VE)(c:VE)(K:KE)(κ:gX)(a:Ad)(ih:It→Loc→gI→R Unit)(r:R Loc)(it:It):R Unit:=r.bind λρ σ=>(test c K ρ κ σ).bind λb σ=>gT (ih it ρ σ) ((e K ρ κ σ).bind λv σ=>match σ.get a with|some (.list xs)=>go (j8 (app xs [v])) 35 λo=>ih it ρ (σ.set a o)|_=>.stuck 35) b
theorem Wr(e:VE)(t:VT)(c:VE)(K:KE)(κ:gX)(a:Ad)(n:Nat)(I:It)(ρ:Loc)(σ:gI):kj e t c K κ a (n+1) I ρ σ=(match It.next σ I with
 | .done=>.ok () σ
 | .one v it=>KU e c K κ a (kj e t c K κ a n) (t K ρ κ v σ) it
 | .two u v it=>KU e c K κ a (kj e t c K κ a n) (rU t K ρ κ u v σ) it
 | .bad=>.stuck 37):=rfl
theorem sY{α β:Type}{r:R α}{f:α→gI→R β}{v:β}{σ':gI}(h:r.bind f= .ok v σ'):∃x σ,r= .ok x σ∧f x σ= .ok v σ':=by
 induction r with
 |ok x σ=>exact⟨x,σ,rfl,h⟩
 |exc=>injection h
 |stuck=>injection h
theorem KV{α:Type}{r:R α}{v:α}{σ':gI}(h:r.nM= .ok v σ'):r= .ok v σ':=by
 induction r with
 |ok x σ=>exact h
 |exc=>exact stk h
 |stuck=>exact stk h
theorem Ws{C:Prop}{o:Option gY}{y:AV}{k:gY→R Unit}{σ':gI}(e:(match o with|some (.list xs)=>go (j8 (app xs [y])) 35 k|_=>.stuck 35)=R.ok () σ')(h:∀xs ob,o=some (.list xs)→j8 (app xs [y])=some ob→k ob= .ok () σ'→C):C:=by
 induction o with
 |none=>exact stk e
 |some x=>
  induction x with
  |list xs=>
   have e:go (j8 (app xs [y])) 35 k= .ok () σ':=e
   induction ec:j8 (app xs [y])with
   |none=>rw[ec]at e;exact stk e
   |some ob=>rw[ec]at e;exact h xs ob rfl ec e
  |_=>exact stk e
theorem Wt{elt target iter:Expr}{ifs:List Expr}{scope:hU}{pos:Pos}{f:VT}{g c:VE}(ht:GoodG S G gA sc H target f)(he:ib S G gA sc H elt g)(hc:ue S G gA sc H ifs c)(hH:H=true)
 {K:KE}{d:Nat}{A:g6}{env:Env}{κ:gX}{Pr:ik}{td:Pl}{a:Ad}{D:Addr}{it:gG}(hK:kO S gA K d)(hD:td a=some D){σ':gI}{R:Result→gJ→Prop}
 (hR:∀gE ρ' o' s',Le td gE→At S G gA K d sc H A env κ ρ' Pr o' gE σ' s'→R (.ok .next) s')
 {n:Nat}{I:It}{ρ:Loc}{σ:gI}{PI:ik}{o:Obj}{s:gJ}(h1:lz I=true)(T:At S G gA K d sc H A env κ ρ (PI++Pr) o td σ s)(T0:jj A ((env.locals,o)::Pr))(hI:jT td PI it I)(ix:∀y∈PI,∀z∈Pr,z.1≠y.1)
 (hr:kj g f c K κ a n I ρ σ= .ok () σ'):
 codeAny S.M A (.compLoop (.ListComp elt [⟨target,iter,ifs,0⟩] scope pos) 0 it (.ref D) env) R s:=by
 have hh:=T.hnd hH;refine CR (λn s'=>∀C:Prop,(∀gE o' ρ' σ1 PI I,Le td gE→At S G gA K d sc H A env κ ρ' (PI++Pr) o' gE σ1 s'→jT gE PI it I→(∀y∈PI,∀z∈Pr,z.1≠y.1)→lz I=true→kj g f c K κ a n I ρ' σ1= .ok () σ'→C)→C) λJ j1 j2=>?_;refine Wq J (λE n s1 hJ=>?_) n (j2 _ _ λC k=>k td o ρ σ PI I (Le.refl td) T hI ix h1 hr);refine j1 _ _ hJ _ λgE o' ρ' σ1 PI I l T' D3 ap hw e'=>?_
 induction n with
 |zero=>exact stk e'
 |succ n=>
  have hst:=KM hh (T0.of T'.fr.yS (T'.pK.trans T.pK.symm)) ap T' D3 target;rw[Wr]at e';have h2:=DZ (σ:=σ1) hw
  induction hn:It.next σ1 I with
  |bad=>rw[hn]at e';exact stk e'
  |done=>
   rw[hn]at hst e'
   cases e'
   exact hst _ _ λs2 T2=>hR gE ρ' o' s2 l T2
  |two u v I'=>rw[hn]at h2;exact h2.elim
  |one v I'=>
   rw[hn]at hst e' h2;refine jA (sY e') λjk σ2 e1 e2=>?_;refine jA (sY e2) λb σ3 e3 e4=>?_;refine hst _ _ λx s2 rx hgo=>hgo _ _ λmz s3 hI' ub T2=>?_;have k1:=ht K d A env κ ρ' (mz++Pr) o' gE σ1 s3 x v hK T2 rx;rw[e1]at k1;refine k1 _ _ λkF o2 s4 l2 T3=>?_;have k2:=Wn hc hK T3;rw[e3]at k2;refine k2 _ _ λyF tb s5 l3 I3 et=>?_;have et:tb=b:=et;subst et;have T4:=T3.step l3 I3;have l:=(l.trans l2).trans l3;have hI':=(hI'.mono l2).mono l3
   induction tb with
   |false=>exact⟨n,Ar n,j2 _ _ λC k=>k yF o2 jk σ3 mz I' l T4 hI' ub h2 e4⟩
   |true=>
    refine jA (sY e4) λy A7 e5 e6=>?_;have k3:=he K d A env κ jk (mz++Pr) o2 yF σ3 s5 hK T4;rw[e5]at k3;refine k3 _ _ λVi yv s6 l4 I4 ry=>?_;have T5:=T4.step l4 I4;refine Ws e6 λxs ob eg ec e6=>?_;have k4:=JU (A:=A) I4 eg (l4 _ _ (l _ _ hD)) ry;rw[ec]at k4;exact k4 _ _ λA8 U s7 l5 I5 U=>⟨n,Ar n,j2 _ _ λC k=>k A8 o2 jk _ mz I' ((l.trans l4).trans l5) (T5.step l5 I5) ((hI'.mono l4).mono l5) ub h2 e6⟩
end
section
variable{S:g8}{G:Top}{gA:Heap}{sc:hU}{H:Bool}
noncomputable def lC(scope sc:hU):hU:={scope with names:=scope.names.map λ(n,k)=>if(k== .free&&sc.kind== .function&&sc.names.lookup n==some .cell)then(n,.cell)else(n,k)}
theorem Wu(hc:∀x∈scope.names,x.2≠.cell)
 (h:Q (newEnv scope s.heap.objs.size env.globals cl env.qual none .none (some env) builtinsNs) {s with heap:=s.heap.push {cls:=.type "dict",data:=.dict #[]}}):
 gL S.M A (newFunctionEnv scope env.globals cl [] env.qual none .none (some env)) Q E s:=by
 simp only[newFunctionEnv,Option.isSome_some,if_true];refine gH (wpAny_alloc ?_);rw[forIn_yield_id cl (λx hx c=>by
  obtain⟨name,kind⟩:=x;have:(kind==NameKind.cell)=false:=by simpa using hc _ hx
  simp only[this,Bool.false_eq_true,if_false])]
 refine gH (gO (gH ?_));exact gO (gO h)
noncomputable def xm(scope:hU):Bool:=scope.kind== .function&&scope.names.all λx=>x.2 != .cell&&(x.2 != .local||scope.names.lookup x.1==some .local)
theorem Wv(h:xm scope=true):scope.kind= .function∧(∀x∈scope.names,x.2≠.cell)∧∀x∈scope.names,x.2= .local→scope.names.lookup x.1=some .local:=by
 unfold xm at h;rw[n5,kf]at h;refine⟨eq_of_beq h.1,λx hx e=>?_,λx hx e=>?_⟩
 .have:=h.2 x hx;rw[n5]at this;rw[e]at this;exact absurd this.1 (by decide)
 .have:=h.2 x hx;rw[n5,Bool.or_eq_true]at this
  rcases this.2 with z|z
  .rw[e]at z;exact absurd z (by decide)
  .exact eq_of_beq z
theorem jj.more(h:jj A Pr):jj A (x::Pr):=by
 obtain⟨g,l,k1,k2⟩:=h;refine⟨g,l,k1,λe he=>?_⟩;obtain⟨j1,L',ob,j2,j3,j4⟩:=k2 e he;exact⟨j1,L',ob,j2,hO _ j3,j4⟩
theorem jj.sub(h:jj A Pr)(hs:∀x∈Pr,x∈pH):jj A pH:=by
 obtain⟨g,l,k1,k2⟩:=h;refine⟨g,l,k1,λe he=>?_⟩;obtain⟨j1,L',ob,j2,j3,j4⟩:=k2 e he;exact⟨j1,L',ob,j2,hs _ j3,j4⟩
theorem KW(hs:xm scope=true)(hf:wd S.nm fr scope.names)
 (ht:GoodG S G gA (lC scope sc) H target f)(he:ib S G gA (lC scope sc) H elt g)(hc:ue S G gA (lC scope sc) H ifs c)(hi:tc S G gA sc H iter u)(hH:H=true)(hnf:isFn (lC scope sc)=false)(xn:S.lR (lC scope sc)=none)(hw:∀K ρ κ σ I σ',u K ρ κ σ= .ok I σ'→lz I=true)
 (hK:kO S gA K d)(T:At S G gA K d sc H A env κ ρ Pr o φ σ s)(hr:mf g f u c fr K ρ κ σ= .ok v σ')
 (k:∀gE D C oC s',Le φ gE→VR gE (.ref D) v→At S G gA K d sc H A env κ ρ ((C,oC)::Pr) o gE σ' s'→(∃es ep,oC.data= .dict es ep∧StrKeys es)→oC.cls≠.type "tuple"→(∀x∈Pr,x.1≠C)→compPost S.M A E use Q (.ref D) C (.ok .next) s'):
 gL S.M A (comprehension (.ListComp elt [⟨target,iter,ifs,0⟩] scope pos) scope env cpos (newList []) false (eval iter env) use) Q E s:=by
 refine kM (Wv hs) λhkind hcell hnames=>?_;refine jA (sY hr) λI0 σ1 e1 e2=>?_;have e1:=KV e1
 induction Eb:lq κ fr with
 |none=>rw[Eb]at e2;cases e2
 |some κ'=>
  rw[Eb]at e2;refine jA (sY e2) λU σ2 e3 e4=>?_;have e3:=KV e3
  cases e4
  have h1:=hw _ _ _ _ _ _ e1;refine gW (D9 T.rn hf Eb) λcl hcl nT=>?_;have h0:=hi.2 K d A env κ ρ Pr o φ σ s hK T;rw[e1]at h0;refine wpAny_comprehension_free rfl (λx=>hi.1 x env) (D6 hcl) hkind hnames ?_;refine h0 _ _ λoW PI it s1 l1 hI ap T1=>?_;refine mY ?_ (by show(0:Nat)≤sizeLine;exact kg _);refine Wu hcell ?_;have I2:=T1.inv.AL (vs:=[]) (xs:=[]) 0 .nil (kg _) s1.toks;have T2:=T1.step (T1.inv.jY _) I2;have yY:Le oW (oW.add σ1.n s1.heap.objs.size):=T1.inv.jY _;generalize hs2:({s1 with heap:=s1.heap.push {cls:=.type "list",dict:=none,data:=.seq ([]:List gG).toArray}}:gJ)=s2;have Ww:s2={s1 with heap:=s1.heap.push {cls:=.type "list",data:=.seq ([]:List gG).toArray 0},toks:=s1.toks}:=hs2.symm;rw[←Ww]at T2;have hC:=T2.inv.beyond (a:=s2.heap.objs.size) (i8 _);have Wx:gA.get? s2.heap.objs.size=none:=by
   induction e:gA.get? s2.heap.objs.size with
   |none=>rfl
   |some o1=>have:=T2.inv.keep _ _ e;rw[se]at this;cases this
  let oC:Obj:={cls:=.type "dict",data:=.dict #[]}
  have T3:=T2.step (Le.refl _) (T2.inv.grow (h':=s2.heap.push oC) (λb o e=>ja _ e) s2.toks s2.drawn);have gC:(s2.heap.push oC).get? s2.heap.objs.size=some oC:=j7 _ rfl;have I3:=T3.inv.own (L:=s2.heap.objs.size) (o:=oC) gC Wx hC.1;have aeF:jj A ((env.locals,o)::(PI++Pr)):=T1.frs;have Ec:StrKeys #[]:=λe he=>by simp at he
  let cenv:Env:={(newEnv scope s2.heap.objs.size env.globals cl env.qual none .none (some env) builtinsNs)with scope:=relabel scope env}
  have hloc:cenv.locals=s2.heap.objs.size:=rfl;have TC:At S G gA K d (lC scope sc) H A cenv κ' .nil (PI++(env.locals,o)::Pr) oC (oW.add σ1.n s1.heap.objs.size) (σ1.push (.list [])) {s2 with heap:=s2.heap.push oC}:={
   fit:=T.fit,hnd:=T.hnd,KP:=T.KP
   scope:=by
    rw[←T.scope];rfl
   kind:=hkind
   glob:=T.glob,blt:=T.blt,ng:=T.ng,nb:=T.nb,lim:=T.lim
   rn:=(nT.mono l1).mono yY
   fr:=⟨.inr rfl,#[],0,rfl,Ec,by
    have:nsFind #[]=λU=>none:=by funext x;rfl
    rw[this];exact ot.nil S _⟩
   inv:=I3.disown λx hx=>by
    rcases iL.mp hx with rfl|hx
    .exact hW ..
    .rcases nD.mp hx with hx|hx
     .exact hO _ (hO _ (Ht _ hx))
     .rcases iL.mp hx with rfl|hx
      .exact hO _ (hW ..)
      .exact hO _ (hO _ (rP _ hx))
   apart:=λx hx=>by
    refine hC.2 x ?_
    rcases nD.mp hx with hx|hx
    .exact hO _ (Ht _ hx)
    .rcases iL.mp hx with rfl|hx
     .exact hW ..
     .exact hO _ (rP _ hx)
   frs:=(T.frs.sub (pH:=PI++(env.locals,o)::Pr) λx hx=>rP _ hx).more
   pK:=by unfold Dt;rw[hnf];rfl
   top:=λe=>by rw[hnf]at e;cases e
   Dv:=λc e=>by rw[xn]at e;cases e}
  have hI':jT (oW.add σ1.n s1.heap.objs.size) PI it I0:=hI.mono yY;have hap':∀y∈PI,∀z∈(env.locals,o)::Pr,z.1≠y.1:=λy hy z hz=>by
   rcases iL.mp hz with rfl|hz
   .exact λe=>T1.apart y (Ht _ hy) e.symm
   .exact ap y hy z hz
  have loop:codeAny S.M A (.compLoop (.ListComp elt [⟨target,iter,ifs,0⟩] scope pos) 0 it (.ref s1.heap.objs.size) cenv) (compPost S.M A E use Q (.ref s1.heap.objs.size) cenv.locals) {s2 with heap:=s2.heap.push oC}:=by
   refine Wt (Pr:=(env.locals,o)::Pr) ht he hc hH hK (Pl.mr ..) (λgE ρ' o' s' l' T'=>?_) h1 TC (T.frs.more) hI' hap' e3;have nC:∀x∈(env.locals,o)::Pr,x.1≠s2.heap.objs.size:=λx hx=>T'.apart x hx;refine k gE _ _ o' s' ((l1.trans yY).trans l') (.ref (l' _ _ (Pl.mr ..))) ?_ ?_ ?_ λx hx=>nC x (hO _ hx)
   .exact{T with
     rn:=T.rn.mono ((l1.trans yY).trans l'),fr:=T.fr.mono ((l1.trans yY).trans l')
     inv:=T'.inv.disown λx hx=>by
      rcases iL.mp hx with rfl|hx
      .exact hO _ (hW ..)
      .rcases iL.mp hx with rfl|hx
       .exact hW ..
       .exact hO _ (hO _ hx)
     apart:=λx hx=>by
      rcases iL.mp hx with rfl|hx
      .exact λe=>nC _ (hW ..) e.symm
      .exact T.apart x hx
     frs:=T.frs.sub λx hx=>by
      rcases iL.mp hx with rfl|hx
      .exact hW ..
      .exact hO _ (hO _ hx)}
   .obtain⟨_,es,ep,z1,z2,_⟩:=T'.fr;exact⟨es,ep,z1,z2⟩
   .refine iK T'.fr λz U=>?_
    rcases z with z|z<;>rw[z]<;>decide
  exact codeAny_compStart_list loop (Wl TC hI' h1 loop)
end
section
variable{S:g8}{G:Top}{gA:Heap}{sc:hU}{H:Bool}
theorem At.KX(hF:jj A ((env.locals,o)::Pr))(T:At S G gA K d sc H A env κ ρ ((C,oC)::Pr) o φ σ s)(ix:∀x∈Pr,x.1≠C)(hc:oC.cls≠.type "tuple")(hs:i0 C s.heap h'):
 At S G gA K d sc H A env κ ρ Pr o φ σ {s with heap:=h'}:=by
 refine kM (T.inv.pr (C,oC) (hO _ (hW ..))) λWy p2 p3=>?_;refine jI Wy λo1 q1 q2 U=>?_;have I0:Inv S gA φ ((env.locals,o)::Pr) σ s:=T.inv.disown λx hx=>by
  rcases iL.mp hx with rfl|hx
  .exact hW ..
  .exact hO _ (hO _ hx)
 have Wz:env.locals≠C:=λe=>T.apart (C,oC) (hW ..) e.symm;exact{T with
  inv:=I0.KG q1 (by rw[q2];exact hc) p2 p3 (λx hx=>by
   rcases iL.mp hx with rfl|hx
   .exact Wz
   .exact ix x hx) (λb ob hb e=>(hs.2 b hb).trans e) s.toks s.drawn
  apart:=λx hx=>T.apart x (hO _ hx),frs:=hF}
theorem WA(h:mf g f u c fr K ρ κ σ= .exc x σ'):False:=by
 have h:((u K ρ κ σ).nM.bind λi σ=>go (lq κ fr) 35 λκ'=>(kj g f c K κ' σ.n K.N i .nil (σ.push (.list []))).nM.bind λU σ'=>R.ok (AV.ref σ.n) σ')= .exc x σ':=h
 induction hu:u K ρ κ σ with
 |exc=>rw[hu]at h;injection h
 |stuck=>rw[hu]at h;injection h
 |ok i σ1=>
  rw[hu]at h;have h:(go (lq κ fr) 35 λκ'=>(kj g f c K κ' σ1.n K.N i .nil (σ1.push (.list []))).nM.bind λU σ'=>R.ok (AV.ref σ1.n) σ')= .exc x σ':=h
  induction hc:lq κ fr with
  |none=>rw[hc]at h;injection h
  |some κ'=>
   rw[hc]at h;have h:((kj g f c K κ' σ1.n K.N i .nil (σ1.push (.list []))).nM.bind λU σ'=>R.ok (AV.ref σ1.n) σ')= .exc x σ':=h
   induction hl:kj g f c K κ' σ1.n K.N i .nil (σ1.push (.list []))with
   |exc=>rw[hl]at h;injection h
   |stuck=>rw[hl]at h;injection h
   |ok=>rw[hl]at h;injection h
theorem KY{h:Heap}{C:Addr}{o:Obj}(e:h.get? C=some o)(hd:∃es ep,o.data= .dict es ep∧StrKeys es):∃m,h.Ns C m:=by
 refine jA hd λes ep h1 h2=>?_;exact⟨nsFind es,o,es,ep,e,h1,h2,λU=>rfl⟩
theorem KZ{elt target iter:Expr}{ifs:List Expr}{scope:hU}{pos:Pos}{f:VT}{g c:VE}{u:VI}{fr:List Ad}(hs:xm scope=true)(hf:wd S.nm fr scope.names)
 (ht:GoodG S G gA (lC scope sc) H target f)(he:ib S G gA (lC scope sc) H elt g)(hc:ue S G gA (lC scope sc) H ifs c)(hi:tc S G gA sc H iter u)(hH:H=true)(hnf:isFn (lC scope sc)=false)(xn:S.lR (lC scope sc)=none)(hw:∀K ρ κ σ I σ',u K ρ κ σ= .ok I σ'→lz I=true):
 ib S G gA sc H (.ListComp elt [⟨target,iter,ifs,0⟩] scope pos) (mf g f u c fr):=
 λK d A env κ ρ Pr o φ σ s hK T=>by
  induction hr:mf g f u c fr K ρ κ σ with
  |stuck w=>trivial
  |exc x σ'=>exact(WA hr).elim
  |ok v σ'=>
   intro Q E k;rw[eval_ListComp];refine KW hs hf ht he hc hi hH hnf xn hw hK T hr (use:=none) λgE D C oC s' l rv T' hd hcl ix=>?_;refine kM (T'.inv.pr (C,oC) (hO _ (hW ..))) λWB p2 p3=>?_;refine rW WB λo1 q1 q2 q3 q4 q5=>?_;refine jn (KY q1 (by rw[q4];exact hd)) λm hm=>?_;refine⟨m,hm,λh' hs'=>k gE _ _ l (At.KX (h':=h') ((T.frs)) T' ix hcl hs').inv rv⟩
noncomputable def K0(sc scope:hU)(t:Str)(l1 l2:Nat):Bool:=sc.names.lookup t==some .local&&l1==l2&& !(scope.names.any λx=>x.1==t&&(x.2== .local||x.2== .cell))
theorem WC(hs:env.scope=sc)(hk:sc.kind= .function):
 swapsWith (.ListComp elt gens scope pos) (some (.Name t tp)) l env=pure (K0 sc scope t tp.line pos.line):=by
 subst hs;have hb:(env.blockKind==ScopeKind.function)=true:=by unfold Env.blockKind;rw[hk];rfl
 show(pure (env.blockKind== .function&&env.kindOf t==some .local&&tp.line==pos.line&& !(scope.names.any λx=>x.1==t&&(x.2== .local||x.2== .cell))):Sem Bool)=_;rw[hb];rfl
theorem WD{y:Str}{py spos:Pos}{elt target iter:Expr}{ifs:List Expr}{scope:hU}{pos:Pos}{f:VT}{g c:VE}{u:VI}{fr:List Ad}{t:VT}(ud:GoodG S G gA sc H (.Name y py) t)(hs:xm scope=true)(hf:wd S.nm fr scope.names)
 (ht:GoodG S G gA (lC scope sc) H target f)(he:ib S G gA (lC scope sc) H elt g)(hc:ue S G gA (lC scope sc) H ifs c)(hi:tc S G gA sc H iter u)(hH:H=true)(hnf:isFn (lC scope sc)=false)(xn:S.lR (lC scope sc)=none)(hw:∀K ρ κ σ I σ',u K ρ κ σ= .ok I σ'→lz I=true):
 kE S G gA sc H (.Assign [.Name y py] (.ListComp elt [⟨target,iter,ifs,0⟩] scope pos) spos) (nN t (mf g f u c fr)):=
 λK d A env κ ρ Pr o φ σ s hK T=>by
  have hsw:=WC (elt:=elt) (gens:=[⟨target,iter,ifs,0⟩]) (scope:=scope) (pos:=pos) (t:=y) (tp:=py) (l:=spos.line) T.scope T.kind
  induction hb:K0 sc scope y py.line pos.line with
  |false=>
   rw[hb]at hsw;rw[arm_exec_Assign];have WE:swapsWithSole [.Name y py] (.ListComp elt [⟨target,iter,ifs,0⟩] scope pos) spos.line env=pure false:=hsw;rw[WE,DT (.inl rfl),yM rfl];refine iN.mw (f:=λv=>do assignAll v [assign (.Name y py) env];pure .next) T (KZ hs hf ht he hc hi hH hnf xn hw K d A env κ ρ Pr o φ σ s hK T) (λQ E h=>gH (ky (gH (gO (gH (jg h (λv s' hv=>gH (gO hv)) λU U z=>z)))))) λgE y' v σ' s' l T' r=>?_;exact iN.DS (t:=assign (.Name y py) env y') (f:=λU=>pure .next) (ud K d A env κ ρ Pr o gE σ' s' y' v hK T' r) (λQ E h=>gH h) λiv o' ρ' ju s'' l' nj=>iN.next nj
  |true=>
   rw[hb]at hsw;rw[exec_Assign_Name_used _ _ _ _ hsw];show iN S G gA K d sc H A env κ Pr φ _ s ((mf g f u c fr K ρ κ σ).run λv σ=>(t K ρ κ v σ).run λρ σ=>.next ρ σ)
   induction hr:mf g f u c fr K ρ κ σ with
   |stuck w=>trivial
   |exc x σ'=>trivial
   |ok v σ1=>
    show iN S G gA K d sc H A env κ Pr φ _ s ((t K ρ κ v σ1).run λρ σ=>.next ρ σ)
    induction hr2:t K ρ κ v σ1 with
    |stuck w=>trivial
    |exc x σ'=>trivial
    |ok kl σ2=>
     intro Q E k;refine gH (ky (gH ?_));show gL _ A (do let _←comprehension (.ListComp elt [⟨target,iter,ifs,0⟩] scope pos) scope env _ (newList []) false (eval iter env) (some (assign (.Name y py) env))) _ _ s;refine gH (jg (KW hs hf ht he hc hi hH hnf xn hw hK T hr (use:=some (assign (.Name y py) env)) (Q:=λU s'=>Q .next s') (E:=E) λgE D C oC s' l rv T' hd hcl ix=>?_) (λU s' hq=>gO (gO hq)) λU U z=>z);have h1:=ud K d A env κ ρ ((C,oC)::Pr) o gE σ1 s' (.ref D) v hK T' rv;rw[hr2]at h1;refine h1 _ _ λkF o2 s2 l2 T2=>?_;refine kM (T2.inv.pr (C,oC) (hO _ (hW ..))) λWG p2 p3=>?_;refine rW WG λo1 q1 q2 q3 q4 q5=>?_;refine jn (KY q1 (by rw[q4];exact hd)) λm hm=>?_;exact⟨m,hm,λh' hs'=>k kF o2 _ (l.trans l2) (At.KX (h':=h') (T.frs.of T2.fr.yS (T2.pK.trans T.pK.symm)) T2 ix hcl hs')⟩
end
open PySem.W PyProof.Rows
section
variable{S:g8}{G:Top}{gA:Heap}{sc:hU}{H:Bool}
section
variable{φ:Pl}{Pr:ik}{σ:gI}{s:gJ}
theorem Inv.WH(I:Inv S gA φ Pr σ s){X:Addr→Prop}{h':Heap}(hi0:∀i,X i→∀o,s.heap.get? i=some o→o.cls≠.type "tuple")(hb0:∀i,X i→gA.get? i=none)(v8:∀i,X i→∀p,φ p≠some i)(hp0:∀x∈Pr,X x.1→∃o,h'.get? x.1=some o∧Dk x.2 o)(hk:∀b o,¬X b→s.heap.get? b=some o→h'.get? b=some o)(tk:Nat)(dr:Drawn):Inv S gA φ Pr σ ⟨h',s.gens,dr,tk,s.os⟩:=by
 have I1:Inv S gA φ [] σ ⟨h',s.gens,dr,tk,s.os⟩:=(I.disown (pH:=[]) λx hx=>(nomatch hx)).DX (X:=X) hi0 hb0 v8 (λi U x hx=>(nomatch hx)) hk tk dr;refine{I1 with pr:=λx hx=>?_};refine kM (I.pr x hx) λWI q3 q4=>?_;refine gW WI λo q1 q2=>?_
 by_cases z:X x.1
 .exact⟨hp0 x hx z,q3,q4⟩
 .exact⟨⟨o,hk _ _ z q1,q2⟩,q3,q4⟩
end
section
variable{K:KE}{d:Nat}{A:g6}{env:Env}{κ:gX}{ρ:Loc}{Pr:ik}{o:Obj}{φ:Pl}{σ:gI}{s:gJ}
theorem At.mark(T:At S G gA K d sc H A env κ ρ Pr o φ σ s)(e:gG):At S G gA K d sc false (A.mark (some e)) env κ ρ Pr o φ σ s:=
 {T with fit:=T.fit,hnd:=λh=>(nomatch h),frs:=T.frs,top:=T.top}
theorem At.unmark(T:At S G gA K d sc false (A.mark (some e)) env κ ρ Pr o φ σ s)(h:H=true→A.handled=none):At S G gA K d sc H A env κ ρ Pr o φ σ s:=
 {T with fit:=T.fit,hnd:=h,frs:=T.frs,top:=T.top}
theorem nk.unmark(x:nk S G gA K d sc false (A.mark (some e)) env κ Pr φ r fl s)(h:H=true→A.handled=none):nk S G gA K d sc H A env κ Pr φ r fl s:=by
 induction r with
 |next ρ σ=>obtain⟨e,gE,o',l,T⟩:=x;exact⟨e,gE,o',l,T.unmark h⟩
 |brk ρ σ=>obtain⟨e,gE,o',l,T⟩:=x;exact⟨e,gE,o',l,T.unmark h⟩
 |cont ρ σ=>obtain⟨e,gE,o',l,T⟩:=x;exact⟨e,gE,o',l,T.unmark h⟩
 |ret v σ=>exact x
 |stuck w=>trivial
noncomputable def yZ(l:List Env):List Addr:=l.filterMap (·.frame)
theorem WJ(he:e∈l)(hf:e.frame=some L):L∈yZ l:=List.mem_filterMap.mpr ⟨e,he,hf⟩
theorem jj.own(h:jj A Pr)(hl:A.frames=some l)(hb:b∈yZ l):∃ob,(b,ob)∈Pr∧(∀vs,ob.data≠.fields vs)∧ob.cls= .type "frame":=by
 obtain⟨_,l',h1,h2⟩:=h;rw[hl]at h1;obtain rfl:=gP h1;refine gW (List.mem_filterMap.mp hb) λe he hf=>?_;obtain⟨_,L,ob,j1,j2,j3⟩:=h2 e he;rw[hf]at j1;obtain rfl:=gP j1;exact⟨ob,j2,j3⟩
theorem K3{Pr:ik}{B h:Heap}:∀(l:List Env),(∀e∈l,e.scope.kind≠.module∧∃L o,e.frame=some L∧B.get? L=none∧h.get? L=some o∧∀vs,o.data≠.fields vs)→h.FunFrames B l
 |[],_=>trivial
 |e::r,hl=>by
  obtain⟨h1,L,o,h2,h3,h4,h5⟩:=hl e (hW ..);exact⟨h1,⟨L,o,h2,h3,h4,h5⟩,K3 (Pr:=Pr) r λe he=>hl e (hO _ he)⟩
noncomputable def stay(h:Heap)(l:List Env):Heap:=hideAll h (yZ l)
theorem Inv.y6(I:Inv S gA φ Pr σ s)(hF:jj A Pr)(hl:A.frames=some l)(k:(stay s.heap l).StaysIn h)(u:s.heap.UpToSlots h)(tk:Nat)(dr:Drawn):Inv S gA φ Pr σ ⟨h,s.gens,dr,tk,s.os⟩:=by
 have own:∀b∈yZ l,∃o,s.heap.get? b=some o∧(∀vs,o.data≠.fields vs)∧o.cls= .type "frame"∧gA.get? b=none∧∀p,φ p≠some b:=λb hb=>by
  refine jI (hF.own hl hb) λob h1 h2 h3=>?_;refine kM (I.pr _ h1) λWK q6 q7=>?_;refine rW WK λo q1 q2 q3 q4 q5=>?_;exact⟨o,q1,λvs e=>h2 vs (q4▸e),q2.trans h3,q6,q7⟩
 refine I.WH (X:=λb=>b∈yZ l) (λb hb o e=>?_) (λb hb=>?_) (λb hb=>?_) (λx hx hb=>?_) (λb o hb e=>k b o (hideAll_get _ e hb)) tk dr
 .refine m8 (own b hb) λo' e' U h3 U=>?_;rw[e]at e';obtain rfl:=gP e';rw[h3];decide
 .refine rW (own b hb) λo' e' U U h4 U=>?_;exact h4
 .refine rW (own b hb) λo' e' U U U h5=>?_;exact h5
 .refine m8 (own x.1 hb) λo' e' h2 h3 U=>?_;refine iK (I.pr x hx) λWL U=>?_;refine rW WL λo q1 q2 q3 q4 q5=>?_;rw[q1]at e';obtain rfl:=gP e';refine jn (u _ _ q1 h2) λsl e2=>?_;exact⟨_,e2,q2,q3,q4,λz=>absurd (q2.symm.trans h3) z⟩
theorem At.y6(T:At S G gA K d sc H A env κ ρ Pr o φ σ s)(hl:A.frames=some l)(k:(stay s.heap l).StaysIn h)(u:s.heap.UpToSlots h)(tk:Nat):At S G gA K d sc H A env κ ρ Pr o φ σ {s with heap:=h,toks:=tk}:=
 T.step (Le.refl φ) (T.inv.y6 T.frs hl k u tk s.drawn)
theorem WM{outer:List Env}(T:At S G gA K d sc H A env κ ρ Pr o φ σ s)(hA:A.frames=some (env::outer)){h':Heap}{a:Addr}{X:String}(N:Heap.NewExc s.heap h' a X){tk:Nat}{Q:Unit→gJ→Prop}{E:gG→gJ→Prop}
 (k:∀a0 h3,Heap.FlyingW (stay s.heap (env::outer)) (env::outer) a (.type X) a0 h3→s.heap.UpToSlots h3→Q () {s with heap:=h3,toks:=tk}):
 gL S.M A (noteFrame (.ref a) env) (λU s₂=>gL S.M A (setFlight (.ref a) none) Q E s₂) E {s with heap:=h',toks:=tk}:=by
 obtain⟨kp,nw,ob,a0,he,hc,hd⟩:=N;obtain⟨g,l',f1,f2⟩:=T.frs;rw[hA]at f1;obtain rfl:=gP f1;obtain⟨hkm,L,oL,hf,hm,hnf,_⟩:=f2 env (hW ..);have hB:(stay s.heap (env::outer)).StaysIn h':=λb o e=>kp b o (of_hideAll _ e);have hen:(stay s.heap (env::outer)).get? a=none:=by
  induction q:(stay s.heap (env::outer)).get? a with
  |none=>rfl
  |some o1=>have:=of_hideAll _ q;rw[nw]at this;exact gV this
 have hl:h'.FunFrames (stay s.heap (env::outer)) (env::outer):=K3 (Pr:=Pr) _ λe hem=>by
  obtain⟨j1,L',o',j2,j3,j4,_⟩:=f2 e hem;refine kM (T.inv.pr _ j3) λWN U U=>?_;refine rW WN λo1 q1 q2 q3 q4 q5=>?_;exact⟨j1,L',o1,j2,hideAll_none _ (WJ hem j2),kp _ _ q1,λvs z=>j4 vs (q4▸z)⟩
 unfold noteFrame;simp only[hf];refine gH (oI (x:=gG.none) he hd rfl ?_);refine jx (decide_eq_false (by decide)) ?_;refine wpAny_entryW (base:=stay s.heap (env::outer)) hA hl hf he hB hen hd (by show 1<6;decide) (a0:=a0) rfl λh2 n2=>?_;refine QR n2 λn1 n2 n3 n4=>?_;rw[hc]at n3;refine wpAny_landsW (base:=stay s.heap (env::outer)) (s:={s with heap:=h2,toks:=tk}) ⟨n1,hen,n2,n3⟩ λh3 z1 z2=>?_;refine k a0 h3 z1 ?_;exact(Heap.UpToSlots.of_keeps kp).trans (Heap.UpToSlots.trans (λb o e hn=>n4 b o e hn) z2)
end
end
theorem K4:isSubtype (.type "KeyError") (.type "BaseException")=pure true:=by rw[isSubtype_type];kernel_rfl
theorem K5:isSubtype (.type ((Manifest.find? "KeyError").elim "type" λx=>x.metatype)) (.type "tuple")=pure false:=by
 rw[show((Manifest.find? "KeyError").elim "type" λx=>x.metatype)="type" from by kernel_rfl,isSubtype_type];kernel_rfl
theorem K6:isSubtype (.type "KeyError") (.type "KeyError")=pure true:=by rw[isSubtype_type];kernel_rfl
theorem WO:isSubtype (.type "KeyError") (.type "IndexError")=pure false:=by rw[isSubtype_type];kernel_rfl
theorem WQ:isSubtype (.type "IndexError") (.type "KeyError")=pure false:=by rw[isSubtype_type];kernel_rfl
theorem WR(x:Heap.FlyingW B l e cls a0 h)(o:Obj):Heap.FlyingW B l e cls a0 (h.push o):=by
 obtain⟨f1,f2,f3,oe,vs,T,oT,ts,a1,a2,a3,a4,a5,a6,a7,a8,a9⟩:=x;exact⟨λb ob q=>ja _ (f1 b ob q),f2,f3.of_keeps λb ob hb U=>⟨ob,ja _ hb,rfl⟩,oe,vs,T,oT,ts,ja _ a1,a2,a3,a4,a5,a6,ja _ a7,a8,a9⟩
section
variable{S:g8}{G:Top}{gA:Heap}{sc:hU}{H:Bool}
def y7(G:Top)(sc:hU)(n:String):Prop:=sc.names.lookup (n:Str)=some .globalImplicit∧G.val n=some (.type n)∧((n:Str)==("__debug__":Str))=false
def sx(G:Top)(sc:hU)(t:Expr)(key idx:Bool):Prop:=
 (∃p,t= .Name "KeyError" p∧y7 G sc "KeyError"∧key=true∧idx=false)∨(∃p,t= .Name "IndexError" p∧y7 G sc "IndexError"∧key=false∧idx=true)∨
 (∃p1 p2 k pos,t= .Tuple [.Name "IndexError" p1,.Name "KeyError" p2] k pos∧y7 G sc "IndexError"∧y7 G sc "KeyError"∧key=true∧idx=true)
section
variable{K:KE}{d:Nat}{A:g6}{env:Env}{κ:gX}{ρ:Loc}{Pr:ik}{o:Obj}{φ:Pl}{σ:gI}{s:gJ}
theorem WS{t:Expr}{key idx:Bool}(hc:sx G sc t key idx){k:Exc}(hk:catches key idx k=true){outer:List Env}(T:At S G gA K d sc H A env κ ρ Pr o φ σ s)(hA:A.frames=some (env::outer)){h:Heap}{a:Addr}{a0:gG}{tk:Nat}
 (f:Heap.FlyingW (stay s.heap (env::outer)) (env::outer) a (.type (sW k)) a0 h)(u:s.heap.UpToSlots h){b₀:Stmt}{suite:List Stmt}{pos:Pos}{rest:List ExceptHandler}{Q:Flow→gJ→Prop}{E:gG→gJ→Prop}
 (kk:∀h',At S G gA K d sc false (A.mark (some (.ref a))) env κ ρ Pr o φ σ {s with heap:=h',toks:=tk}→∀E',gL S.M (A.mark (some (.ref a))) (execs (b₀::suite) env) Q E' {s with heap:=h',toks:=tk}):
 gL S.M A (handleBy (.ref a) env (.ExceptHandler (some t) none (b₀::suite) pos::rest)) Q E {s with heap:=h,toks:=tk}:=by
 have T1:At S G gA K d sc false (A.mark (some (.ref a))) env κ ρ Pr o φ σ {s with heap:=h,toks:=tk}:=(T.y6 hA f.1 u tk).mark (.ref a);refine gW f.there λob hob K7=>?_;have one:∀{n:String}{p:Pos},y7 G sc n→sW k=n→isSubtype (.type n) (.type "BaseException")=pure true→isSubtype (.type ((Manifest.find? n).elim "type" λx=>x.metatype)) (.type "tuple")=pure false→isSubtype (.type n) (.type n)=pure true→
  gL S.M A (handleBy (.ref a) env (.ExceptHandler (some (.Name n p)) none (b₀::suite) pos::rest)) Q E {s with heap:=h,toks:=tk}:=by
  intro n p hn he e1 e2 e3;subst he;refine wpAny_handleBy_builtin (X:=sW k) (T:=sW k) (b:=true) e1 e2 e3 (rq T1 hn.1 hn.2.2 hn.2.1 ⟨rfl,⟨ob,hob,K7⟩,?_⟩);rw[if_pos rfl];refine lands_againW f λh' f' u'=>kk h' ((T.y6 hA f'.1 (u.trans u') tk).mark (.ref a)) _
 rcases hc with⟨p,rfl,hn,rfl,rfl⟩|⟨p,rfl,hn,rfl,rfl⟩|⟨p1,p2,k',tpos,rfl,hn1,hn2,rfl,rfl⟩
 .induction k with
  |key=>exact one hn rfl K4 K5 K6
  |idx=>exact gU hk
 .induction k with
  |key=>exact gU hk
  |idx=>exact one hn rfl F.isExc_IndexError F.notTuple_IndexError F.self_IndexError
 .have two:∀{b1 b2:Bool},isSubtype (.type (sW k)) (.type "IndexError")=pure b1→isSubtype (.type (sW k)) (.type "KeyError")=pure b2→(b1||b2)=true→
   gL S.M A (handleBy (.ref a) env (.ExceptHandler (some (.Tuple [.Name "IndexError" p1,.Name "KeyError" p2] k' tpos)) none (b₀::suite) pos::rest)) Q E {s with heap:=h,toks:=tk}:=by
   intro b1 b2 s1 s2 hb;refine wpAny_handleBy_tup2 (T1:="IndexError") (T2:="KeyError") F.isExc_IndexError F.notTuple_IndexError K4 K5 s1 s2 ?_;refine Tuple_ (spliced_more (rq T1 hn1.1 hn1.2.2 hn1.2.1 (spliced_more (rq T1 hn2.1 hn2.2.2 hn2.2.1 (spliced_none ?_)))));refine mY ⟨_,rfl,IsTup.new _ _,⟨ob,ja _ hob,K7⟩,?_⟩;rw[if_pos hb];refine lands_againW (WR f _) λh' f' u'=>kk h' ((T.y6 hA f'.1 ((u.trans (Heap.UpToSlots.of_keeps λb o e=>ja _ e)).trans u') tk).mark (.ref a)) _
  induction k with
  |key=>exact two WO K6 rfl
  |idx=>exact two F.self_IndexError WQ rfl
end
theorem K8{body:List Stmt}{t:Expr}{key idx:Bool}(hc:sx G sc t key idx){b₀:Stmt}{suite:List Stmt}{hpos pos:Pos}{h:VS}(hs:nR S G gA sc false (b₀::suite) h)(hfn:isFn sc=true)
 {K:KE}{d:Nat}{A:g6}{env:Env}{κ:gX}{ρ:Loc}{Pr:ik}{o:Obj}{φ:Pl}{σ:gI}{s:gJ}(hK:kO S gA K d)(T:At S G gA K d sc H A env κ ρ Pr o φ σ s){k:Exc}(hk:catches key idx k=true){σ1:gI}
 (hb:∀(Q:Flow→gJ→Prop)(E:gG→gJ→Prop),(∀gE s1 a h' tk,Le φ gE→Inv S gA gE ((env.locals,o)::Pr) σ1 s1→Heap.NewExc s1.heap h' a (sW k)→E (.ref a) {s1 with heap:=h',toks:=tk})→gL S.M A (execs body env) Q E s):
 iN S G gA K d sc H A env κ Pr φ (exec (.Try body [.ExceptHandler (some t) none (b₀::suite) hpos] [] [] pos) env) s (h K ρ κ σ1):=
 iN.of_post λhr E=>by
  refine wpAny_Try_except (hb _ _ λgE s1 a h' tk l I N=>?_);have T1:=T.step l I;refine jn (T1.top hfn) λouter hA=>?_;refine WM T1 hA N λa0 h3 f u=>WS hc hk T1 hA f u λh4 T4 E'=>?_;exact jg ((hs K d _ env κ ρ Pr o gE σ1 _ hK T4).post hr _) (λfl s5 q=>nk.le l (q.unmark T.hnd)) λU U z=>z
theorem K9{body:List Stmt}{h₀:ExceptHandler}{hs:List ExceptHandler}{pos:Pos}{K:KE}{d:Nat}{A:g6}{env:Env}{κ:gX}{Pr:ik}{φ:Pl}{s:gJ}{r:RS}
 (hb:iN S G gA K d sc H A env κ Pr φ (execs body env) s r):iN S G gA K d sc H A env κ Pr φ (exec (.Try body (h₀::hs) [] [] pos) env) s r:=
 iN.of_post λhr E=>wpAny_Try_except (jg (hb.post hr _) (λf s1 hq=>by induction f<;>first|exact hq|exact gO hq) λU U z=>z)
theorem K'{st:Stmt}{f:VS}(h:kE S G gA sc H st f){K:KE}{d:Nat}{A:g6}{env:Env}{κ:gX}{ρ:Loc}{Pr:ik}{o:Obj}{φ:Pl}{σ:gI}{s:gJ}(hK:kO S gA K d)(T:At S G gA K d sc H A env κ ρ Pr o φ σ s):
 iN S G gA K d sc H A env κ Pr φ (execs [st] env) s (f K ρ κ σ):=by
 have:=Kx h Kw K d A env κ ρ Pr o φ σ s hK T;have e:oO f oN K ρ κ σ=f K ρ κ σ:=by
  show(f K ρ κ σ).then (λρ σ=>.next ρ σ)=_
  cases f K ρ κ σ<;>rfl
 rw[e]at this;exact this
theorem WT{t e:Expr}{p:Pos}{f:VE}{g:VT}(he:ib S G gA sc H e f)(ht:GoodG S G gA sc H t g)(hn:s9 e=true)(hs:yN t=true∨xg e=true)(hst:noStar t=true)
 {x:Expr}{key idx:Bool}(hc:sx G sc x key idx){b₀:Stmt}{suite:List Stmt}{hpos pos:Pos}{h:VS}(hh:nR S G gA sc false (b₀::suite) h)(hfn:isFn sc=true)(hH:H=true):
 kE S G gA sc H (.Try [.Assign [t] e p] [.ExceptHandler (some x) none (b₀::suite) hpos] [] [] pos) (pD g f key idx h):=
 λK d A env κ ρ Pr o φ σ s hK T=>by
  have h1:=K' (KA (p:=p) he ht (.inl hn) hs hst) hK T;show iN S G gA K d sc H A env κ Pr φ _ s (sT (f K ρ κ σ) key idx (λv σ=>(g K ρ κ v σ).run λρ σ=>.next ρ σ) (λσ=>h K ρ κ σ));have h0:=he K d A env κ ρ Pr o φ σ s hK T;have e1:nN g f K ρ κ σ=(f K ρ κ σ).run λv σ=>(g K ρ κ v σ).run λρ σ=>.next ρ σ:=rfl;rw[e1]at h1
  induction ef:f K ρ κ σ with
  |stuck w=>trivial
  |ok v σ1=>
   rw[ef]at h1;exact K9 h1
  |exc k σ1=>
   rw[ef]at h0;show iN S G gA K d sc H A env κ Pr φ _ s (gT (.stuck 44) (h K ρ κ σ1) (catches key idx k))
   induction hk:catches key idx k with
   |false=>trivial
   |true=>
    refine K8 hc hh hfn hK T hk λQ E hE=>?_;rw[arm_execs_cons];refine gH ?_;have hsw:swapsWithSole [t] e p.line env=pure false:=A6 (t:=some t) hn;rw[arm_exec_Assign,hsw,DT hs,yM hst];refine gH (ky (gH (gO (gH ?_))));exact h0 (T.hnd hH) _ _ hE
theorem WU{e:Expr}{p:Pos}{f:VE}(he:ib S G gA sc H e f)(hn:s9 e=true)
 {x:Expr}{key idx:Bool}(hc:sx G sc x key idx){b₀:Stmt}{suite:List Stmt}{hpos pos:Pos}{h:VS}(hh:nR S G gA sc false (b₀::suite) h)(hfn:isFn sc=true)(hH:H=true):
 kE S G gA sc H (.Try [.Expr e p] [.ExceptHandler (some x) none (b₀::suite) hpos] [] [] pos) (qW f key idx h):=
 λK d A env κ ρ Pr o φ σ s hK T=>by
  have h1:=K' (Kz (p:=p) he hn) hK T;show iN S G gA K d sc H A env κ Pr φ _ s (sT (f K ρ κ σ) key idx (λU σ=>.next ρ σ) (λσ=>h K ρ κ σ));have h0:=he K d A env κ ρ Pr o φ σ s hK T;have e1:pA f K ρ κ σ=(f K ρ κ σ).run λU σ=>.next ρ σ:=rfl;rw[e1]at h1
  induction ef:f K ρ κ σ with
  |stuck w=>trivial
  |ok v σ1=>
   rw[ef]at h1;exact K9 h1
  |exc k σ1=>
   rw[ef]at h0;show iN S G gA K d sc H A env κ Pr φ _ s (gT (.stuck 44) (h K ρ κ σ1) (catches key idx k))
   induction hk:catches key idx k with
   |false=>trivial
   |true=>
    refine K8 hc hh hfn hK T hk λQ E hE=>?_;rw[arm_execs_cons];refine gH ?_;rw[exec_Expr env e p (Ky (by rw[T.scope];exact T.kind)) (A6 hn)];refine gH (ky (gH ?_));exact h0 (T.hnd hH) _ _ hE
end
section
variable{S:g8}{G:Top}{gA:Heap}{sc:hU}{H:Bool}
section
variable{φ:Pl}{Pr:ik}{σ:gI}{s:gJ}
theorem Inv.WV(I:Inv S gA φ Pr σ s)(e:σ.get ta=some (.tab ks))(hp:φ ta=some P)(hk:∀b o,b≠P→s.heap.get? b=some o→h'.get? b=some o)(r:Dj S h' ta P ks')(tk:Nat)(dr:Drawn):
 Inv S gA φ Pr (σ.set ta (.tab ks')) ⟨h',s.gens,dr,tk,s.os⟩:=by
 have hbase:gA.get? P=none:=by
  rcases I.new ta P hp with z|⟨xs,hz,z⟩
  .exact z
  .rw[e]at z;obtain rfl:=gP z;exact gU hz
 obtain⟨P0,hp0,h0,ps0,g0,_⟩:=I.obj ta _ e;rw[hp]at hp0;obtain rfl:=gP hp0;obtain⟨_,ps1,g1,_⟩:=id r;have kt:js s.heap h':=λb o eb hc=>hk b o (λz=>by rw[z,g0]at eb;obtain rfl:=gP eb;cases hc) eb;have hg:∀q b,q≠ta→φ q=some b→h'.get? b=s.heap.get? b:=λq b hq hb=>by
  refine jn (I.low q b hb) λo eo=>?_;rw[eo];exact hk b o (λz=>hq (I.inj q ta P (z▸hb) hp)) eo
 exact{
  keep:=λb o eb=>hk b o (λz=>by rw[z,hbase]at eb;exact gV eb) (I.keep b o eb)
  dom:=λq=>by rw[gI.yp];exact I.dom q
  inj:=I.inj
  new:=λq b hb=>by
   by_cases h:q=ta
   .subst h;rw[hp]at hb;obtain rfl:=gP hb;exact .inl hbase
   .rw[gI.get_set,if_neg h];exact I.new q b hb
  low:=λq b hb=>by
   by_cases h:q=ta
   .subst h;rw[hp]at hb;obtain rfl:=gP hb;exact⟨_,g1⟩
   .refine jn (I.low q b hb) λo eo=>?_;exact⟨o,(hg q b h hb).trans eo⟩
  obj:=λq o hq=>by
   rw[gI.get_set]at hq
   by_cases h:q=ta
   .subst h;rw[if_pos rfl]at hq;obtain rfl:=gP hq;exact⟨P,hp,r⟩
   .rw[if_neg h]at hq;refine gW (I.obj q o hq) λb hb R=>?_;refine⟨b,hb,OR.mono (λU U z=>z) kt (hg q b h hb) (λhx d hd=>hg _ d (λz=>?_) hd) R⟩;have:σ.get q.succ=some .aux:=by
     rcases hx with⟨c,k,fs,rfl⟩|⟨k,κ,rfl⟩
     .exact I.kU q c k fs hq
     .exact I.mh q k κ hq
    rw[z,e]at this;cases this
  kU:=λq c k fs hq=>by
   rw[gI.get_set]at hq⊢
   by_cases h:q=ta
   .rw[if_pos h]at hq;cases hq
   .rw[if_neg h]at hq;have:=I.kU q c k fs hq;rw[if_neg (λz=>by rw[z,e]at this;cases this)];exact this
  mh:=λq k κ hq=>by
   rw[gI.get_set]at hq⊢
   by_cases h:q=ta
   .rw[if_pos h]at hq;cases hq
   .rw[if_neg h]at hq;have:=I.mh q k κ hq;rw[if_neg (λz=>by rw[z,e]at this;cases this)];exact this
  pr:=λx hx=>by
   refine kM (I.pr x hx) λWW q3 q4=>?_;refine gW WW λo q1 q2=>?_;exact⟨⟨o,hk _ _ (λz=>q4 ta (z▸hp)) q1,q2⟩,q3,q4⟩
  gens:=I.gens
  os:=I.os
  sys:=I.sys
  st:=I.st
  tb:=λq e'=>by
   refine jn (I.tb q e') λkq h=>?_;rw[gI.get_set]
   by_cases z:q=ta
   .exact⟨ks',by rw[if_pos z]⟩
   .exact⟨kq,by rw[if_neg z];exact h⟩}
theorem Inv.WX(I:Inv S gA φ Pr σ s)(na:gA.get? a=none)(nd:gA.get? d=none)(ha:∃o,s.heap.get? a=some o)(hd:∃o,s.heap.get? d=some o)(hne:d≠a)(hab:∀p,φ p≠some a)(hdb:∀p,φ p≠some d)(rm:∀x∈Pr,x.1≠a∧x.1≠d)
 (r:OR S ((φ.add σ.n a).add σ.n.succ d) s.heap σ.n a ob):Inv S gA ((φ.add σ.n a).add σ.n.succ d) Pr ((σ.push ob).push .aux) s:=by
 have I1:=I.Dp na ha hab (λx hx=>(rm x hx).1);have Dq:∀p,(φ.add σ.n a) p≠some d:=λp e=>by
  by_cases h1:p=σ.n
  .subst h1;rw[Pl.mr]at e;exact hne (gP e).symm
  .rw[Pl.nQ φ a h1]at e;exact hdb p e
 have I2:Inv S gA ((φ.add σ.n a).add σ.n.succ d) Pr ((σ.push .aux).push .aux) s:=I1.Dp nd hd Dq (λx hx=>(rm x hx).2);refine I2.promote (p:=σ.n) (ob:=ob) ?_ ?_ ?_ rfl ?_ ?_
 .rw[gI.kB,gI.vU,if_neg (λe=>Ad.oR σ.n e.symm),gI.kB,if_pos rfl]
 .rw[gI.kB];exact if_pos rfl
 .intro q hq x hx;have nq:q≠σ.n:=λe=>Ad.oR q (hq.trans e.symm);have Ds:q≠σ.n.succ:=λe=>by
   have:=congrArg Ad.num hq;rw[e,Ad.pF,Ad.pF]at this;lia
  rw[gI.kB,gI.vU,if_neg Ds,gI.kB,if_neg nq]at hx;have nf:=I.Dl I.free;refine⟨λc k fs e=>?_,λk κ e=>?_⟩
  .subst e;have:=I.kU q c k fs hx;rw[hq,nf]at this;exact gV this
  .subst e;have:=I.mh q k κ hx;rw[hq,nf]at this;exact gV this
 .intro q;simp only[gI.kB,gI.vU]
  by_cases h1:q=σ.n.succ
  .rw[if_pos h1,if_pos h1,if_neg (λe=>Ad.oR σ.n (h1.symm.trans e))]
  .rw[if_neg h1,if_neg h1]
   by_cases h2:q=σ.n
   .rw[if_pos h2,if_pos h2]
   .rw[if_neg h2,if_neg h2,if_neg h2]
 .intro b hb;rw[Pl.nQ _ d (λe=>Ad.oR σ.n e.symm),Pl.mr]at hb;obtain rfl:=gP hb;exact r
end
noncomputable def uf(name qual:Str)(params:Arguments)(body:FuncBody)(scope:hU)(globals:Addr)(cl:List (Str×Addr))(pm cdv ct doc:gG):FuncData:=
 {name,qualname:=qual,params,body,scope,globals,closure:=cl,defaults:=.none,kwdefaults:=.none,doc,pyModule:=pm,annotations:=none,code:=cdv,closureTuple:=ct,builtins:=builtinsNs}
noncomputable def Bf:FuncBody→Bool
 | .stmts b=>(docOf b).isNone
 | .expr _=>true
theorem WY
 (hd:Bf body=true)(hcl:closureFor scope env=pure clos)(hg:s.heap.Ns env.globals mg)(hcode:env.code= .ref c)(C:CodeHd s.heap c P)(hP:s.heap.get? P=some (tabObj ps))(ht:TriplesOk ps.toList)
 (hnf:codeAmong pos ps.toList=none)(hgP:env.globals≠P)(hb:s.heap.BuiltinsAt mg P)
 (h:∀c' ctv h' tk,Heap.ExtBut P s.heap h'→s.heap.objs.size≤c'→c'<h'.objs.size→h'.CodeRec (.ref c') qual→h'.get? P=some (tabObj (ps++#[iZ pos.line,iZ pos.col,.ref c']))→
  Q (.ref h'.objs.size) {s with heap:=h'.push {cls:=.type "function",data:=.func (uf name qual params body scope env.globals clos ((mg "__name__").getD .none) (.ref c') ctv .none)},toks:=tk}):
 gL M A (makeTail name qual params body scope env .none .none none pos firstLine) Q E s:=by
 refine IX hb λbm ob hbm La U Lb Lc hcls hdict hdata=>?_;unfold makeTail;rw[hcl];refine gH (gO ?_)
 induction clos with
 |nil=>
  simp only[List.isEmpty_nil,if_true];refine gH (gO ?_);refine gH (wpAny_functionCodeX hcode (C.code hP ht) (C.tab hP) hnf λc' h' tk hx hge hlt U hrec htb U=>?_);have hg':=hg.extBut hx hgP;refine gH (wpAny_builtinsFor hg' hbm La (hx _ _ Lb Lc) hcls hdict hdata ?_);refine gH (wpAny_nsGet hg' ?_)
  induction body with
  |expr e=>exact gH (gO (mY (h c' .none h' tk hx hge hlt hrec htb.2) (by size_fits)))
  |stmts b=>
   have hdn:docOf b=none:=Option.isNone_iff_eq_none.mp hd;dsimp only;rw[hdn];exact gH (gO (mY (h c' .none h' tk hx hge hlt hrec htb.2) (by size_fits)))
 |cons q r=>
  simp only[List.isEmpty_cons,Bool.false_eq_true,if_false];refine gH (wpAny_newTextTuple ?_);refine gH (wpAny_functionCodeX hcode ((C.keeps λb o e=>ja _ e).code (ja _ hP) ht) ((C.keeps λb o e=>ja _ e).tab (ja _ hP)) hnf λc' h' tk hx hge hlt U hrec htb U=>?_);have hg':=(hg.push _).extBut hx hgP;have hx':Heap.ExtBut P s.heap h':=λb o hb' e=>hx b o hb' (ja _ e);have Ld:s.heap.objs.size≤c':=ia (by rw[Heap.size_push];lia) hge;refine gH (wpAny_builtinsFor hg' hbm La (hx' _ _ Lb Lc) hcls hdict hdata ?_);refine gH (wpAny_nsGet hg' ?_)
  induction body with
  |expr e=>exact gH (gO (mY (h c' _ h' tk hx' Ld hlt hrec htb.2) (by size_fits)))
  |stmts b=>
   have hdn:docOf b=none:=Option.isNone_iff_eq_none.mp hd;dsimp only;rw[hdn];exact gH (gO (mY (h c' _ h' tk hx' Ld hlt hrec htb.2) (by size_fits)))
theorem WZ{P:List gG→Prop}(h0:P [])(h1:∀a ta b tb d r,P r→P (.int a ta::.int b tb::d::r))(n:Nat):∀l:List gG,l.length≤n→TriplesOk l→P l:=by
 induction n with
 |zero=>exact λl hl U=>List.eq_nil_of_length_eq_zero (Nat.le_zero.mp hl)▸h0
 |succ n ih=>
  intro l hl h
  cases l with
  |nil=>exact h0
  |cons x l=>
   cases l with
   |nil=>cases x<;>exact h.elim
   |cons y l=>
    cases l with
    |nil=>cases x<;>first|exact h.elim|(cases y<;>exact h.elim)
    |cons d r=>
     cases x with
     |int a ta=>cases y with
      |int b tb=>exact h1 a ta b tb d r (ih r (ia (lK _ 2) (Nat.le_of_succ_le_succ hl)) h)
      |_=>exact h.elim
     |_=>exact h.elim
theorem W0(l:List gG)(ht:TriplesOk l):codeAmong p (l++[iZ pos.line,iZ pos.col,c])≠none→codeAmong p l≠none∨rj p=rj pos:=by
 refine WZ (P:=λl=>codeAmong p (l++[iZ pos.line,iZ pos.col,c])≠none→codeAmong p l≠none∨rj p=rj pos) (λh=>.inr ?_) (λa ta b tb d r ih h=>?_) l.length l (i8 _) ht
 .have h:(if((pos.line:Int)==(p.line:Int)&&(pos.col:Int)==(p.col:Int))=true then some c else codeAmong p [])≠none:=h
  by_cases q:((pos.line:Int)==(p.line:Int)&&(pos.col:Int)==(p.col:Int))=true
  .have q:=lJ.mp q;unfold rj;rw[Int.ofNat.inj (eq_of_beq q.1),Int.ofNat.inj (eq_of_beq q.2)]
  .rw[if_neg q]at h;exact absurd rfl h
 .have h:(if(a==(p.line:Int)&&b==(p.col:Int))=true then some d else codeAmong p (r++[iZ pos.line,iZ pos.col,c]))≠none:=h;show(if(a==(p.line:Int)&&b==(p.col:Int))=true then some d else codeAmong p r)≠none∨_
  by_cases q:(a==(p.line:Int)&&b==(p.col:Int))=true
  .rw[if_pos q];exact .inl nofun
  .rw[if_neg q]at h⊢;exact ih h
end
section
variable{S:g8}{G:Top}{gA:Heap}{sc:hU}{H:Bool}
def xp(S:g8)(G:Top)(gA:Heap)(sc:hU)(ta:Ad):Prop:=∃c P,S.lR sc=some c∧S.kC ta=some P∧CodeHd gA c P∧gA.BuiltinsAt G.mg P∧G.glob≠P
theorem Inv.Lf(I:Inv S gA φ Pr σ s)(a d:Addr):Le φ ((φ.add σ.n a).add σ.n.succ d):=λp b e=>by
 have h1:p≠σ.n:=λq=>by rw[q,I.free]at e;exact gV e
 have h2:p≠σ.n.succ:=λq=>by
  have:=(I.dom p).mp (by rw[e];rfl);rw[q,Ad.pF]at this;lia
 rw[Pl.nQ _ _ h2,Pl.nQ _ _ h1];exact e
theorem Lg:∀{l:List Nat},c∈l→n9 c l=true
 |x::l,h=>by
  show gT (n9 c l) true (ie x c)=true;rw[oq]
  by_cases q:x=c
  .rw[decide_eq_true q]
  .rw[decide_eq_false q];exact Lg ((iL.mp h).resolve_left λz=>q z.symm)
theorem Lh{name qual:Str}{params:Arguments}{body:FuncBody}{scope:hU}{clos:List (Str×Addr)}{firstLine:Nat}{pos:Pos}{k:Nat}{ta:Ad}{pn:Nat}{κ':gX}{fd:FD}(hd:Bf body=true)(hT:xp S G gA sc ta)(xq:pn=rj pos)
 (hn:i3 S.P.nested k=some fd)(y8:∀qual cl pm cdv ct,S.FK (uf name qual params body scope G.glob cl pm cdv ct .none) fd)
 {K:KE}{d:Nat}{A:g6}{env:Env}{κ:gX}{ρ:Loc}{Pr:ik}{o:Obj}{φ:Pl}{σ:gI}{s:gJ}(T:At S G gA K d sc H A env κ ρ Pr o φ σ s)(hcl:closureFor scope env=pure clos)(nT:ou S φ clos κ'){v:AV}{σ':gI}(hr:px k ta pn κ' σ= .ok v σ')
 {Q:gG→gJ→Prop}{E:gG→gJ→Prop}(kk:∀gE x s',Le φ gE→Inv S gA gE ((env.locals,o)::Pr) σ' s'→VR gE x v→Q x s'):
 gL S.M A (makeTail name qual params body scope env .none .none none pos firstLine) Q E s:=by
 refine nO hT λc P h1 h2 h3 h4 h5=>?_;have hr:(go (σ.get ta) 36 λo=>go (CP o) 36 λks=>gT (.ok (.ref σ.n) (((σ.set ta (.tab (pn::ks))).push (.fn k κ')).push .aux)) (.stuck 36) (n9 pn ks))=R.ok v σ':=hr
 induction e:σ.get ta with
 |none=>rw[e]at hr;exact stk hr
 |some ob=>
  rw[e]at hr
  induction ob with
  |tab ks=>
   have hr:(gT (.ok (.ref σ.n) (((σ.set ta (.tab (pn::ks))).push (.fn k κ')).push .aux)) (.stuck 36) (n9 pn ks):R AV)=R.ok v σ':=hr
   induction hb:n9 pn ks with
   |true=>rw[hb]at hr;exact stk hr
   |false=>
    rw[hb]at hr
    cases hr
    obtain⟨P',W4,h2',ps,g1,g2,g3⟩:=T.inv.obj ta _ e;rw[h2]at h2';obtain rfl:=gP h2';have hnf:codeAmong pos ps.toList=none:=by
     induction q:codeAmong pos ps.toList with
     |none=>rfl
     |some x=>
      have:=Lg (g3 pos (by rw[q];intro z;cases z));rw[←xq,hb]at this;cases this
    have hg:s.heap.Ns env.globals G.mg:=by rw[T.glob];exact T.Jz
    refine WY hd hcl hg (T.Dv c h1) (h3.keeps T.inv.keep) g1 g2 hnf (by rw[T.glob];exact h5) (h4.keeps T.inv.keep) λc' ctv h' tk hx hge hlt hrec W5=>?_;have nb:∀b,s.heap.objs.size≤b→gA.get? b=none:=λb hb=>by
     induction q:gA.get? b with
     |none=>rfl
     |some o1=>exact absurd (mF (T.inv.keep _ _ q)) (Nat.not_lt.mpr hb)
    have aeG:P<s.heap.objs.size:=mF g1;have ha:s.heap.objs.size≤h'.objs.size:=ia hge (Nat.le_of_lt hlt)
    let fo:Obj:={cls:=.type "function",data:=.func (uf name qual params body scope env.globals clos ((G.mg "__name__").getD .none) (.ref c') ctv .none)}
    have I1:Inv S gA φ ((env.locals,o)::Pr) (σ.set ta (.tab (pn::ks))) {s with heap:=h'.push fo,toks:=tk}:=by
     refine T.inv.WV e W4 (λb o hb eb=>ja _ (hx b o hb eb)) ⟨h2,_,ja _ W5,?_,λp hp=>?_⟩ tk s.drawn
     .have:(ps++#[iZ pos.line,iZ pos.col,gG.ref c']).toList=ps.toList++[iZ pos.line,iZ pos.col,.ref c']:=by simp
      rw[this];exact TriplesOk_snoc _ _ _ _ g2
     .have:(ps++#[iZ pos.line,iZ pos.col,gG.ref c']).toList=ps.toList++[iZ pos.line,iZ pos.col,.ref c']:=by simp
      rw[this]at hp
      rcases W0 _ g2 hp with z|z
      .exact hO _ (g3 p z)
      .rw[z,←xq];exact hW ..
    have ga:(h'.push fo).get? h'.objs.size=some fo:=j7 _ rfl;refine CU (id hrec) λc2 oc vs tq k1 k2 k3=>?_
    cases k1
    have bA:=T.inv.beyond (a:=h'.objs.size) ha;have bC:=T.inv.beyond (a:=c') hge;have I2:=I1.WX (ob:=.fn k κ') (a:=h'.objs.size) (d:=c') (nb _ ha) (nb _ hge) ⟨_,ga⟩ ⟨oc,ja _ k2⟩ (Nat.ne_of_lt hlt) bA.1 bC.1 (λx hx'=>⟨bA.2 x hx',bC.2 x hx'⟩) ?_
    .refine kk _ _ _ ?_ I2 (.ref ?_)
     .exact I1.Lf _ _
     .show((φ.add (σ.set ta (.tab (pn::ks))).n h'.objs.size).add _ c') σ.n=_;rw[gI.yp,Pl.nQ _ _ (λz=>Ad.oR σ.n z.symm),Pl.mr]
    .refine⟨none,_,#[],c',fd,ga,hn,?_,Pl.mr ..,rfl,hrec.keeps λb o hb=>ja _ hb,?_⟩
     .show S.FK (uf name qual params body scope env.globals clos _ _ _ _) fd;rw[T.glob];exact y8 _ _ _ _ _
     .exact nT.mono (I1.Lf _ _)
  |_=>exact stk hr
end
noncomputable def y9(as:List Arg):Bool:=as.all λa=>a.annotation.isNone
theorem Li:∀{as:List Arg}(e:Env),y9 as=true→annotationsOf as e=[]
 |[],_,_=>rfl
 |⟨n,none,p⟩::r,e,h=>Li (as:=r) e (by
  unfold y9 at h⊢;rw[List.all_cons,n5]at h;exact h.2)
 |⟨n,some a,p⟩::r,e,h=>by
  unfold y9 at h;rw[List.all_cons,n5]at h;exact gU h.1
section
variable{S:g8}{G:Top}{gA:Heap}{sc:hU}{H:Bool}
theorem Lj:(∃w,(go (lq κ fr) 36 λκ'=>px k ta pn κ' σ)=R.stuck w)∨∃κ' v σ',lq κ fr=some κ'∧px k ta pn κ' σ= .ok v σ'∧(go (lq κ fr) 36 λκ'=>px k ta pn κ' σ)= .ok v σ':=by
 induction hc:lq κ fr with
 |none=>exact .inl ⟨36,rfl⟩
 |some κ'=>
  have e:(go (some κ') 36 λκ'=>px k ta pn κ' σ)=px k ta pn κ' σ:=rfl;rw[e]
  induction hm:px k ta pn κ' σ with
  |stuck w=>exact .inl ⟨w,rfl⟩
  |ok v σ'=>exact .inr ⟨κ',v,σ',rfl,hm,rfl⟩
  |exc x σ'=>
   have hm:(go (σ.get ta) 36 λo=>go (CP o) 36 λks=>gT (R.ok (AV.ref σ.n) (((σ.set ta (.tab (pn::ks))).push (.fn k κ')).push .aux)) (.stuck 36) (n9 pn ks))=R.exc x σ':=hm
   induction e:σ.get ta with
   |none=>rw[e]at hm;injection hm
   |some ob=>
    rw[e]at hm
    induction ob with
    |tab ks=>
     have hm:(gT (R.ok (AV.ref σ.n) (((σ.set ta (.tab (pn::ks))).push (.fn k κ')).push .aux)) (.stuck 36) (n9 pn ks):R AV)=R.exc x σ':=hm
     cases hb:n9 pn ks<;>rw[hb]at hm<;>injection hm
    |_=>injection hm
theorem W6(hT:xp S G gA sc ta)(xq:pn=rj pos)(hf:wd S.nm fr scope.names)
 (hn:i3 S.P.nested k=some fd)(y8:∀qual cl pm cdv ct,S.FK (uf "<lambda>" qual ⟨[],as,none,[],[],none,[]⟩ (.expr body) scope G.glob cl pm cdv ct .none) fd):
 ib S G gA sc H (.Lambda ⟨[],as,none,[],[],none,[]⟩ body scope pos) (qt k ta pn fr):=
 λK d A env κ ρ Pr o φ σ s hK T=>by
  show gK S gA A _ φ VR _ s (go (lq κ fr) 36 λκ'=>px k ta pn κ' σ)
  rcases Lj (fr:=fr) (κ:=κ) (k:=k) (ta:=ta) (pn:=pn) (σ:=σ)with⟨w,e⟩|⟨κ',v,σ',hc,hm,e⟩
  .rw[e];trivial
  .rw[e];intro Q E kk;refine gW (D9 T.rn hf hc) λcl hcl nT=>?_;rw[arm_eval_Lambda];refine gH (gO (gH (jt (gO ?_))));rw[makeFunction_eq];simp only[List.zip_nil_right,List.filterMap_nil,List.isEmpty_nil,if_true,pure_bind];exact Lh rfl hT xq hn y8 T (D6 hcl) nT hm kk
theorem W7{name bind:Str}{as:List Arg}{body:List Stmt}{scope:hU}{pos:Pos}{k:Nat}{ta:Ad}{pn:Nat}{fr:List Ad}{fd:FD}{t:VT}(ht:GoodG S G gA sc H (.Name bind pos) t)(hT:xp S G gA sc ta)(xq:pn=rj pos)(hf:wd S.nm fr scope.names)
 (hn:i3 S.P.nested k=some fd)(y8:∀qual cl pm cdv ct,S.FK (uf name qual ⟨[],as,none,[],[],none,[]⟩ (.stmts body) scope G.glob cl pm cdv ct .none) fd)(ha:y9 as=true)(hd:Bf (.stmts body)=true):
 kE S G gA sc H (.FunctionDef name ⟨[],as,none,[],[],none,[]⟩ body [] none [] scope none bind pos) (qX t k ta pn fr):=
 λK d A env κ ρ Pr o φ σ s hK T=>by
  show iN S G gA K d sc H A env κ Pr φ _ s ((go (lq κ fr) 36 λκ'=>px k ta pn κ' σ).run λv σ=>(t K ρ κ v σ).run λρ σ=>.next ρ σ)
  rcases Lj (fr:=fr) (κ:=κ) (k:=k) (ta:=ta) (pn:=pn) (σ:=σ)with⟨w,e⟩|⟨κ',v,σ',hc,hm,e⟩
  .rw[e];trivial
  .rw[e];refine gW (D9 T.rn hf hc) λcl hcl nT=>?_;have hv:gK S gA A ((env.locals,o)::Pr) φ VR (makeTail name (qualnameIn env name bind) ⟨[],as,none,[],[],none,[]⟩ (.stmts body) scope env .none .none none pos pos.line) s (.ok v σ'):=λQ E kk=>
    Lh hd hT xq hn y8 T (D6 hcl) nT hm kk
   have hann:(annotationsOf (as++[]++[]++[]++[]) env)=[]:=by
    simp only[nB];exact Li env ha
   refine iN.mw (r:=.ok v σ') (f:=λf=>do PySem.standAt pos;bindName env bind f;pure .next) T hv (λQ E h=>?_) λgE y v σ' s' l T' r=>?_
   .rw[arm_exec_FunctionDef];unfold defStmt;refine gH (gO (gH (ky (gH ?_))));refine jt (gH (gO (gH (jt (gO (jt ?_))))));show gL S.M A (do let ann←evalNamed (annotationsOf (as++[]++[]++[]++[]) env++[]);makeFunction name (qualnameIn env name bind) ⟨[],as,none,[],[],none,[]⟩ (.stmts body) scope env [] [] ann pos pos.line) _ E s;rw[hann];refine gH (gO ?_);rw[makeFunction_eq];simp only[List.zip_nil_right,List.filterMap_nil,List.isEmpty_nil,if_true,pure_bind];refine jg h (λf s1 h1=>?_) λU U z=>z;exact gH (gO h1)
   .refine iN.DS (t:=assign (.Name bind pos) env y) (f:=λU=>pure .next) (ht K d A env κ ρ Pr o gE σ' s' y v hK T' r) (λQ E h=>?_) λiv o' ρ' ju s'' l' nj=>iN.next nj;show gL S.M A (assign (.Name bind pos) env y>>=λU=>pure .next) Q E s';exact gH h
end
abbrev Bd:=List (Str×gG)
noncomputable def xr(l:Bd)(acc:Bd):Bd:=l.foldl (λa x=>if(a.lookup x.1).isNone then a++[x]else a) acc
theorem lookup_append(a b:Bd)(n:Str):(a++b).lookup n=(a.lookup n).or (b.lookup n):=by
 induction a with
 |nil=>rfl
 |cons x r ih=>
  obtain⟨m,v⟩:=x;rw[List.cons_append,mG,mG]
  induction h:(n==m)with
  |true=>rfl
  |false=>exact ih
theorem Lk:∀(l acc:Bd)(n:Str),(xr l acc).lookup n=(acc.lookup n).or (l.lookup n)
 |[],acc,n=>by
  show acc.lookup n=(acc.lookup n).or none
  cases acc.lookup n<;>rfl
 |(m,v)::r,acc,n=>by
  show(xr r (if(acc.lookup m).isNone then acc++[(m,v)]else acc)).lookup n=_;rw[Lk r,mG]
  induction hm:acc.lookup m with
  |none=>
   show((acc++[(m,v)]).lookup n).or (r.lookup n)=_;rw[lookup_append,mG]
   induction hb:(n==m)with
   |true=>
    have e:=eq_of_beq hb;subst e;rw[hm];rfl
   |false=>cases acc.lookup n<;>rfl
  |some w=>
   show(acc.lookup n).or (r.lookup n)=_
   induction hb:(n==m)with
   |true=>
    have e:=eq_of_beq hb;subst e;rw[hm];rfl
   |false=>rfl
theorem Ll:∀(ns:List Str)(vs:List gG)(n:Str),n∉ns→(ns.zip vs).lookup n=none
 |[],_,_,_=>rfl
 |m::r,[],_,_=>rfl
 |m::r,v::vs,n,h=>by
  have hb:(n==m)=false:=beq_eq_false_iff_ne.mpr λ(e:n=m)=>h (by rw[e];exact hW ..);rw[List.zip_cons_cons,mG,hb];exact Ll r vs n λz=>h (hO _ z)
theorem Ed:∀(ns:List Str)(vs:List gG)(n:Str),n∈ns→ns.length≤vs.length→((ns.zip vs).lookup n).isSome=true
 |[],_,_,h,_=>by cases h
 |m::r,[],_,_,h=>by simp at h
 |m::r,v::vs,n,h,hl=>by
  rw[List.zip_cons_cons,mG]
  induction hb:(n==m)with
  |true=>rfl
  |false=>
   have:n≠m:=λe=>by rw[e,beq_self_eq_true]at hb;injection hb
   exact Ed r vs n ((iL.mp h).resolve_left this) (by simpa using hl)
theorem Lm:∀(ns:List Str)(vs:List gG)(f:Str→Option gG),ns.Nodup→ns.length=vs.length→(∀n∈ns,f n=(ns.zip vs).lookup n)→(ns.filterMap λn=>(f n).map (n,·))=ns.zip vs
 |[],_,_,_,_,_=>rfl
 |m::r,[],_,_,h,_=>by injection h
 |m::r,v::vs,f,hd,hl,hf=>by
  refine iK (List.nodup_cons.mp hd) λh1 h2=>?_;have e1:f m=some v:=by rw[hf m (hW ..),List.zip_cons_cons,mG,beq_self_eq_true]
  rw[List.filterMap_cons,e1];have:=Lm r vs f h2 (by simpa using hl) λn hn=>by
   have hb:(n==m)=false:=beq_eq_false_iff_ne.mpr λ(e:n=m)=>h1 (by rw[←e];exact hn);rw[hf n (hO _ hn),List.zip_cons_cons,mG,hb]
  show(m,v)::_=_;rw[this];rfl
theorem za{α β:Type}:∀(a:List α)(c:List β)(b:List α)(d:List β),a.length=c.length→(a++b).zip (c++d)=a.zip c++b.zip d
 |[],[],b,d,_=>rfl
 |x::a,y::c,b,d,h=>by
  show(x,y)::(a++b).zip (c++d)=_;rw[za a c b d (by simpa using h)];rfl
 |[],_::_,_,_,h=>by injection h
 |_::_,[],_,_,h=>by injection h
theorem W8{ns:List Str}{xs ds:List gG}(hn:ns.Nodup)(h1:xs.length≤ns.length)(h2:ns.length- xs.length≤ds.length)(h3:ds.length≤ns.length):
 (ns.filterMap λn=>((xr ((ns.drop (ns.length- ds.length)).zip ds) (ns.zip xs)).lookup n).map (n,·))=ns.zip (xs++ds.drop (ds.length- (ns.length- xs.length))):=by
 obtain⟨n1,n2,rfl,e1⟩:∃n1 n2,ns=n1++n2∧n1.length=xs.length:=⟨ns.take xs.length,ns.drop xs.length,(List.take_append_drop _ _).symm,List.length_take_of_le h1⟩;rw[jm]at*;have hk:n1.length+n2.length- xs.length=n2.length:=by rw[e1,Nat.add_sub_cancel_left]
 rw[hk]at h2⊢;obtain⟨d1,d2,rfl,e2⟩:∃d1 d2,ds=d1++d2∧d1.length=ds.length- n2.length:=⟨ds.take (ds.length- n2.length),ds.drop (ds.length- n2.length),(List.take_append_drop _ _).symm,List.length_take_of_le (Nat.sub_le ..)⟩;rw[jm]at*;have hd2:d2.length=n2.length:=(Nat.add_left_cancel ((congrArg (·+n2.length) e2).trans (Nat.sub_add_cancel h2))).symm;have hd1:d1.length+d2.length- n2.length=d1.length:=e2.symm;rw[hd1,List.drop_left];refine Lm _ _ _ hn (by rw[jm,jm,e1,hd2]) λn hm=>?_;rw[Lk];have z1:(n1++n2).zip xs=n1.zip xs:=by
  have:=za n1 xs n2 ([]:List gG) e1;rw[nB,List.zip_nil_right,nB]at this;exact this
 have z2:(n1++n2).zip (xs++d2)=n1.zip xs++n2.zip d2:=za _ _ _ _ e1;have hj:n1.length+n2.length- (d1.length+d2.length)=n1.length- d1.length:=by rw[hd2,Nat.add_sub_add_right]
 have z3:((n1++n2).drop (n1.length+n2.length- (d1.length+d2.length))).zip (d1++d2)=(n1.drop (n1.length- d1.length)).zip d1++n2.zip d2:=by
  rw[hj,List.drop_append_of_le_length (Nat.sub_le ..)];exact za _ _ _ _ (by rw[List.length_drop,Nat.sub_sub_self (Nat.le_of_add_le_add_right (hd2▸h3))])
 rw[z1,z2,z3,lookup_append,lookup_append]
 induction hl:(n1.zip xs).lookup n with
 |some v=>rfl
 |none=>
  have hn1:n∉n1:=λhm1=>by
   have:=Ed n1 xs n hm1 (pe e1);rw[hl]at this;injection this
  rw[Ll (n1.drop _) d1 n λz=>hn1 (List.mem_of_mem_drop z)]
  cases List.lookup n (n2.zip d2)<;>rfl
theorem Ln{α:Type}(g:Bd→Str×gG→Bd):∀(l:Bd)(a:Bd),(forIn l a (λx a=>(pure (ForInStep.yield (g a x)):Sem (ForInStep Bd))))=pure (l.foldl g a)
 |[],a=>rfl
 |x::r,a=>by
  rw[List.forIn_cons];exact Ln (α:=α) g r (g a x)
def xt(h:Heap)(v:gG)(ds:List gG):Prop:=(v= .none∧ds=[])∨∃T o n,v= .ref T∧h.get? T=some o∧o.data= .seq ds.toArray n
theorem W9{ns:List Str}{xs ds:List gG}(h1:xs.length≤ns.length)(h2:ns.length- xs.length≤ds.length):(List.filter (λn=>(List.lookup n (ns.zip xs)).isNone) (List.take (ns.length- ds.length) ns))=[]:=by
 rw[List.filter_eq_nil_iff];intro n hm;have hsub:n∈ns.take xs.length:=List.take_subset_take_left ns (Nat.sub_le_iff_le_add.2 (Nat.sub_le_iff_le_add'.1 h2)) hm;have e0:ns.zip xs=(ns.take xs.length).zip xs:=by
  have:=za (ns.take xs.length) xs (ns.drop xs.length) ([]:List gG) (List.length_take_of_le h1);rw[nB,List.zip_nil_right,nB,List.take_append_drop]at this;exact this
 have:=Ed (ns.take xs.length) xs n hsub (by rw[List.length_take_of_le h1];exact i8 _);rw[←e0]at this
 induction hq:List.lookup n (ns.zip xs)with
 |none=>rw[hq]at this;injection this
 |some v=>exact jD
theorem Xa(l:List (Str×gG))(b:Bd):(forIn l b λx s=>if(List.lookup x.fst s).isNone=true then(pure (ForInStep.yield (s++[(x.fst,x.snd)])):Sem (ForInStep Bd))else pure (ForInStep.yield s))=pure (xr l b):=by
 refine Eq.trans ?_ (Ln (α:=Unit) (λ(a:Bd) x=>if(a.lookup x.1).isNone then a++[x]else a) l b)
 congr 1
 funext x a
 by_cases q:(List.lookup x.fst a).isNone=true
 .rw[if_pos q,if_pos q]
 .rw[if_neg q,if_neg q]
theorem Xb{M:Model}{A:g6}{E:gG→gJ→Prop}{s:gJ}{fd:FuncData}{as:List Arg}{dx:List Expr}{xs ds:List gG}{Q:Bd→gJ→Prop}(hp:fd.params=⟨[],as,none,[],[],none,dx⟩)(hd:xt s.heap fd.defaults ds)(hn:(as.map (·.arg)).Nodup)
 (h1:xs.length≤as.length)(h2:as.length- xs.length≤ds.length)(h3:ds.length≤as.length)(h:Q ((as.map (·.arg)).zip (xs++ds.drop (ds.length- (as.length- xs.length)))) s):
 gL M A (bindArgs fd ⟨xs,[]⟩) Q E s:=by
 have sq:∀Q:Option (Array gG)→gJ→Prop,(∀o,(o.getD #[]).toList=ds→Q o s)→gL M A (seqItems? fd.defaults) Q E s:=λQ k=>by
  rcases hd with⟨e,rfl⟩|⟨T,o,n,e,h1,h2⟩
  .rw[e];exact gO (k none rfl)
  .rw[e];exact wpAny_seqItems h1 h2 (k _ rfl)
 have hl:(as.map (·.arg)).length=as.length:=ke ..;have hz:ds.length- (as.map (·.arg)).length=0:=Nat.sub_eq_zero_of_le (hl▸h3);rw[←hl]at h1 h2 h3 h;refine gH (gO (gH (sq _ λo ho=>jx ?c1 (jx ?c2 (gH (wpAny_of_eq (a:=xr (((as.map (·.arg)).drop ((as.map (·.arg)).length- ds.length)).zip ds) ((as.map (·.arg)).zip xs)) ?hf (gH (wpAny_of_eq (a:=(xr (((as.map (·.arg)).drop ((as.map (·.arg)).length- ds.length)).zip ds) ((as.map (·.arg)).zip xs),[])) ?hk (jx ?c3 ?rest)))))))))
 case c1=>rw[hp];exact decide_eq_false λh=>Nat.not_lt_of_le h1 (of_decide_eq_true (gQ h λh U=>h))
 case c2=>rw[ho,hp];show decide ((!(List.filter (λn=>(List.lookup n ((as.map (·.arg)).zip xs)).isNone) (List.take ((as.map (·.arg)).length- (ds.drop (ds.length- (as.map (·.arg)).length)).length) (as.map (·.arg)))).isEmpty)=true)=false;rw[hz,List.drop_zero,W9 h1 h2];rfl
 case hf=>rw[ho,hp];show forIn (((as.map (·.arg)).drop ((as.map (·.arg)).length- (ds.drop (ds.length- (as.map (·.arg)).length)).length)).zip (ds.drop (ds.length- (as.map (·.arg)).length))) _ _=_;rw[hz,List.drop_zero];exact Xa _ _
 case hk=>rw[hp];rfl
 case c3=>rfl
 case rest=>
  rw[hp];refine gO ?_;rw[←W8 hn h1 h2 h3]at h;simpa using h
section
variable{S:g8}{G:Top}{gA:Heap}{sc:hU}{H:Bool}
theorem Xc(I:Inv S gA φ ((env.locals,o)::Pr) σ s)(ix:∀x∈Pr,x.1≠env.locals)(hfr:pJ S φ ρ o)(hks:env.scope.kind= .function)(hk:env.scope.names.lookup x=some .local)(hn:S.nm a=some x)(r:VR φ y v)
 (h:∀o' s',Inv S gA φ ((env.locals,o')::Pr) σ s'→pJ S φ (ρ.set a v) o'→o'.cls=o.cls→Q () s'):gL S.M A (storeName env x y) Q E s:=by
 rw[storeName_local hk (by rw[hks];rfl)];obtain⟨h1,es,ep,h2,h3,h4⟩:=hfr;refine kM (I.pr _ (hW ..)) λXd p2 p3=>?_;refine rW Xd λo1 q1 q2 q3 q4 q5=>?_;obtain⟨c1,d1,DR,tY⟩:=o1;have h2':DR= .dict es ep:=q4.trans h2;subst h2';have hc1:c1= .type "frame"∨c1= .type "dict":=by rw[show c1=o.cls from q2];exact h1
 refine DA q1 h3 λh' es' mi z1 z2 z3 z4 z5 z6=>h ⟨c1,d1,.dict es' mi,tY⟩ _ ?_ ?_ q2
 .exact I.Do (o':=⟨c1,d1,.dict es' mi,tY⟩) ix z6 (by rcases h1 with h1|h1<;>rw[h1]<;>decide) z1 (s.toks+1) s.drawn
 .refine⟨hc1,es',mi,rfl,z2,?_⟩;have e:nsFind es'=λk=>if k=x then some y else nsFind es k:=funext z3;rw[e];exact h4.set hn r
theorem Xe(I:Inv S gA φ Pr σ s)(nT:ou S φ env.cells κ)(hks:env.scope.kind= .function)(hk:env.scope.names.lookup x=some .cell)(hn:S.nm a=some x)(r:VR φ y v)(hp:yl κ a v σ=some σ')
 (h:∀s',Inv S gA φ Pr σ' s'→Q () s'):gL S.M A (storeName env x y) Q E s:=by
 have hp:(hG none (λa=>hG none (λo=>hG none (λU=>some (σ.set a (.cell (some v)))) (CM o)) (σ.get a)) (kh κ a):Option gI)=some σ':=hp
 induction hq:kh κ a with
 |none=>rw[hq]at hp;exact gV hp
 |some q=>
  rw[hq]at hp;refine iH (nT a q hq) λn c h1 h2 h3=>?_;rw[hn]at h1;obtain rfl:=gP h1;have hp:(hG none (λo=>hG none (λU=>some (σ.set q (.cell (some v)))) (CM o)) (σ.get q):Option gI)=some σ':=hp
  induction e:σ.get q with
  |none=>rw[e]at hp;exact gV hp
  |some ob=>
   rw[e]at hp
   induction ob with
   |cell v0=>
    obtain rfl:=gP hp;obtain⟨c',hc',y0,sZ,_⟩:=I.obj q _ e;rw[h3]at hc';obtain rfl:=gP hc';have hl:env.kindOf x=some .cell:=hk;unfold storeName;rw[hl,hks];dsimp only;refine gH (wpAny_cellOf h2 ?_);refine gH (wpAny_load sZ ?_);refine wpAny_update sZ ?_;have sb:i0 c s.heap (s.heap.update c λo=>{o with data:=.cell (some y)}):=i0.update ..;have hg:(s.heap.update c λo=>{o with data:=.cell (some y)}).get? c=some ⟨.type "cell",none,.cell (some y),#[]⟩:=vG _ sZ rfl;refine h _ (I.tS (ob:=.cell (some v)) e h3 sb (js.ri sb sZ (by show ig "cell"≠ig "tuple";decide)) ⟨_,hg⟩ (.inl rfl) (by intro e;injection e) rfl (by intro _ _ _ e;injection e) (by intro _ _ e;injection e) ⟨(by intro e;injection e),(by intro _ e;injection e)⟩ λb hb=>?_);rw[h3]at hb;obtain rfl:=gP hb;exact⟨some y,hg,y,rfl,r⟩
   |_=>exact gV hp
noncomputable def Bg(names:List (Str×NameKind)):List Str:=(names.filter λx=>x.2== .cell).map (·.1)
theorem Xf(x:Ad)(l:List Ad)(κ:gX)(σ:gI):j9 (x::l) κ σ=j9 l ((x,σ.n)::κ) (σ.push (.cell none)):=rfl
theorem Xg(x:Ad)(p:Ad)(κ:gX)(y:Ad):kh ((x,p)::κ) y=if x=y then some p else kh κ y:=by
 show(gT (kh κ y) (some p) (Ad.eq x y):Option Ad)=_
 by_cases h:x=y
 .rw[Ad.eq_iff.mpr h,if_pos h]
 .induction hb:Ad.eq x y with
  |true=>exact absurd (Ad.eq_iff.mp hb) h
  |false=>rw[if_neg h]
theorem Ee(f:Str×NameKind→List (Str×Addr)→Sem (ForInStep (List (Str×Addr))))
 (hf:∀name kind cells,f (name,kind) cells=if kind== .cell then(do let a←PySem.alloc {cls:=.type "cell",data:=.cell none};pure (.yield ((name,a)::cells)))else pure (.yield cells)):
 ∀(names:List (Str×NameKind))(xs:List Ad)(acc:List (Str×Addr))(κ:gX)(φ:Pl)(σ:gI)(s:gJ)(Q:List (Str×Addr)→gJ→Prop),ji (λx n=>S.nm x=some n) xs (Bg names)→Inv S gA φ Pr σ s→ou S φ acc κ→
  (∀gE cells s',Le φ gE→Inv S gA gE Pr (j9 xs κ σ).2 s'→ou S gE cells (j9 xs κ σ).1→Q cells s')→gL S.M A (forIn names acc f) Q E s
 |[],xs,acc,κ,φ,σ,s,Q,hx,I,hc,h=>by
  rw[List.forIn_nil]
  cases hx
  exact gO (h φ acc s (Le.refl φ) I hc)
 |(name,kind)::r,xs,acc,κ,φ,σ,s,Q,hx,I,hc,h=>by
  rw[List.forIn_cons,hf];unfold Bg at hx;rw[List.filter_cons]at hx
  induction hk:(kind==NameKind.cell)with
  |false=>
   rw[hk]at hx;exact gH (gO (Ee f hf r xs acc κ φ σ s Q hx I hc h))
  |true=>
   rw[hk]at hx
   cases hx with
   | @cons x _ xs _ hn hr=>
    rw[Xf]at h;have hb:=I.beyond (a:=s.heap.objs.size) (i8 _);have gC:(s.heap.push {cls:=.type "cell",data:=.cell none}).get? s.heap.objs.size=some ⟨.type "cell",none,.cell none,#[]⟩:=j7 _ rfl;have I2:Inv S gA (φ.add σ.n s.heap.objs.size) Pr (σ.push (.cell none)) {s with heap:=s.heap.push {cls:=.type "cell",data:=.cell none}}:=
     I.push (ob:=.cell none) (a:=s.heap.objs.size) (tk:=s.toks) (dr:=s.drawn) (λb o e=>ja _ e) (se ..) ⟨_,gC⟩ hb.1 hb.2 (by intro _ _ _ e;injection e) (by intro _ _ e;injection e) ⟨none,gC,rfl⟩
    refine gH (gH (wpAny_alloc (gO ?_)));refine Ee f hf r xs ((name,s.heap.objs.size)::acc) ((x,σ.n)::κ) _ _ _ Q hr I2 ?_ λgE cells s' l I' hc'=>h gE cells s' ((I.jY _).trans l) I' hc';intro y p hy;rw[Xg]at hy
    by_cases q:x=y
    .rw[if_pos q]at hy;obtain rfl:=gP hy;subst q;exact⟨name,s.heap.objs.size,hn,by rw[mG,beq_self_eq_true],Pl.mr ..⟩
    .rw[if_neg q]at hy;refine iH (hc y p hy) λm c z1 z2 z3=>?_;have hne:(m==name)=false:=beq_eq_false_iff_ne.mpr λ(e:m=name)=>q (S.Dh x y name hn (e▸z1));exact⟨m,c,z1,by rw[mG,hne];exact z2,I.jY _ _ _ z3⟩
end
section
variable{S:g8}{G:Top}{gA:Heap}{sc:hU}{H:Bool}
theorem Ef(hks:env.scope.kind= .function)(ix:∀x∈Pr,x.1≠env.locals)(nT:ou S φ env.cells κ)
 (f:Str×gG→PUnit→Sem (ForInStep PUnit))(hf:∀n v u,f (n,v) u=(do storeName env n v;pure (.yield ⟨⟩))):
 ∀(xs:List Ad)(ns:List Str)(ys:List gG)(vs:List AV)(ρ:Loc)(σ:gI)(o:Obj)(s:gJ)(Q:PUnit→gJ→Prop),ji (λx n=>S.nm x=some n) xs ns→(∀x∈xs,∀n,S.nm x=some n→env.scope.names.lookup n=some (if w0 x cs=true then .cell else .local))→il φ ys vs→
  nJ cs κ xs vs ρ σ=some (ρ',σ')→Inv S gA φ ((env.locals,o)::Pr) σ s→pJ S φ ρ o→(∀o' s',Inv S gA φ ((env.locals,o')::Pr) σ' s'→pJ S φ ρ' o'→o'.cls=o.cls→Q ⟨⟩ s')→gL S.M A (forIn (ns.zip ys) ⟨⟩ f) Q E s
 |[],ns,ys,vs,ρ,σ,o,s,Q,hx,hkk,hv,hs,I,hfr,h=>by
  cases hx
  induction vs with
  |cons v vs=>injection hs
  |nil=>
   cases hs
   rw[List.zip_nil_left,List.forIn_nil];exact gO (h o s I hfr rfl)
 |x::xs,_,ys,vs,ρ,σ,o,s,Q,hx,hkk,hv,hs,I,hfr,h=>by
  cases hx with
  | @cons _ n _ ns hn hr=>
   induction hv with
   |nil=>injection hs
   | @cons y v ys vs h1 h2=>
    rw[List.zip_cons_cons,List.forIn_cons,hf];have hs:(gT (nJ cs κ xs vs (ρ.set x v) σ) (hG none (λσ=>nJ cs κ xs vs ρ σ) (yl κ x v σ)) (w0 x cs):Option (Loc×gI))=some (ρ',σ'):=hs;have hkx:=hkk x (hW ..) n hn;have Lo:=λz hz=>hkk z (hO _ hz)
    induction hm:w0 x cs with
    |false=>
     rw[hm]at hs hkx;refine gH (gH (Xc I ix hfr hks (by rw[hkx];rfl) hn h1 λo' s' I' Xh hc=>gO ?_));exact Ef hks ix nT f hf xs ns ys vs _ σ o' s' Q hr Lo h2 hs I' Xh λo2 s2 I2 Xi hc2=>h o2 s2 I2 Xi (hc2.trans hc)
    |true=>
     rw[hm]at hs hkx;have hs:(hG none (λσ=>nJ cs κ xs vs ρ σ) (yl κ x v σ):Option (Loc×gI))=some (ρ',σ'):=hs
     induction hp:yl κ x v σ with
     |none=>rw[hp]at hs;injection hs
     |some σ1=>
      rw[hp]at hs;refine gH (gH (Xe I nT hks (by rw[hkx];rfl) hn h1 hp λs' I'=>gO ?_));exact Ef hks ix nT f hf xs ns ys vs ρ σ1 o s' Q hr Lo h2 hs I' hfr h
structure Bh(S:g8)(G:Top)(gA:Heap)(g9:FuncData)(fd:FD):Prop where
 co:g9.scope.isCoroutine=false
 gen:g9.scope.isGenerator=false
 kind:g9.scope.kind= .function
 par:∃as dx,g9.params=⟨[],as,none,[],[],none,dx⟩∧(as.map (·.arg)).Nodup∧ji (λx n=>S.nm x=some n) fd.params (as.map (·.arg))∧fd.nH.length≤as.length
 kinds:∀x∈fd.params,∀n,S.nm x=some n→g9.scope.names.lookup n=some (if w0 x fd.cells=true then .cell else .local)
 cells:ji (λx n=>S.nm x=some n) fd.cells (Bg g9.scope.names)
 Lp:∃ds,xt gA g9.defaults ds∧∀φ:Pl,(∀p a,S.kC p=some a→φ p=some a)→il φ ds fd.nH
 glob:g9.globals=G.glob
 blt:g9.builtins=G.blt
 Lq:isFn g9.scope=true
 lR:∀c,S.lR g9.scope=some c→g9.code= .ref c
 body:(∃b,g9.body= .stmts b∧nR S G gA g9.scope true b (dB fd.body))∨∃e f,g9.body= .expr e∧ib S G gA g9.scope true e f∧dB fd.body=oO (om f) oN
structure Eg(G:Top)(gA:Heap):Prop where
 ng:gA.Ns G.glob G.mg
 nb:gA.Ns G.blt G.mb
 lim:gA.NoLimit
theorem Xj{h h':Heap}(x:h.NoLimit)(k:∀b o,h.get? b=some o→h'.get? b=some o):h'.NoLimit:=by
 refine gW x λmc h1 h2=>?_;exact⟨mc,h1.keeps k,h2⟩
theorem xt.keeps(x:xt h v ds)(k:∀b o,h.get? b=some o→h'.get? b=some o):xt h' v ds:=by
 rcases x with x|⟨T,o,n,h1,h2,h3⟩
 .exact .inl x
 .exact .inr ⟨T,o,n,h1,k _ _ h2,h3⟩
theorem Xk(h:rS n vs ds=some us):vs.length≤n∧n- vs.length≤ds.length∧us=vs++ds.drop (ds.length- (n- vs.length)):=by
 unfold rS at h;rw[jo,jo,rX,lQ]at h
 induction h1:iS vs.length n with
 |false=>rw[h1]at h;exact gV h
 |true=>
  rw[h1]at h
  induction h2:iS (Nat.sub n vs.length) ds.length with
  |false=>rw[h2]at h;exact gV h
  |true=>
   rw[h2]at h;obtain rfl:=gP h;exact⟨kT h1,kT h2,rfl⟩
noncomputable def Lr(f:Flow):gG:=match f with| .ret v=>v|_=>.none
theorem Xl{K:KE}{d:Nat}{A:g6}{env:Env}{κ:gX}{Pr:ik}{φ:Pl}{rs:RS}{f:Flow}{s:gJ}{v:AV}{σ':gI}(h:lu rs= .ok v σ')(hr:nk S G gA K d sc H A env κ Pr φ rs f s):
 ∃x gE,Lr f=x∧Le φ gE∧Inv S gA gE Pr σ' s∧VR gE x v:=by
 induction rs with
 |next ρ σ=>
  cases h
  obtain⟨rfl,gE,o',l,T⟩:=hr;exact⟨_,gE,rfl,l,T.inv.disown λx hx=>hO _ hx,.none⟩
 |brk ρ σ=>exact stk h
 |cont ρ σ=>exact stk h
 |ret u σ=>
  cases h
  refine lx hr λx gE Xm l I r=>?_;subst Xm;exact⟨x,gE,rfl,l,I,r⟩
 |stuck w=>exact stk h
end
section
variable{S:g8}{G:Top}{gA:Heap}
theorem Ls{A:g6}{Pr:ik}{φ:Pl}{σ:gI}{s:gJ}{fd:FD}{g9:FuncData}{κ:gX}{us:List AV}{ys:List gG}{a:Addr}{d:Nat}{K:KE}(FO:Bh S G gA g9 fd)(F3:Eg G gA)(KP:K.P=S.P)
 (hfit:r9 A (d+1))(hh:A.handled=none)(hfr:jj A Pr)(I:Inv S gA φ Pr σ s)(nT:ou S φ g9.closure κ)(hv:il φ ys us){kl:Loc}{σ2:gI}{as:List Arg}(has:ji (λx n=>S.nm x=some n) fd.params (as.map (·.arg)))
 (hs:nJ fd.cells (j9 fd.cells κ σ).1 fd.params us .nil (j9 fd.cells κ σ).2=some (kl,σ2)){Q:Env→gJ→Prop}{E:gG→gJ→Prop}
 (k:∀env o gE s',Le φ gE→At S G gA K d g9.scope true (A.deeper env) env (j9 fd.cells κ σ).1 kl Pr o gE σ2 s'→s'.heap.NoLimit→Q env s'):
 gL S.M A.in1 (newFunctionEnv g9.scope g9.globals g9.closure ((as.map (·.arg)).zip ys) (g9.qualname++".<locals>.") (some a) g9.code none g9.builtins) Q E s:=by
 simp only[newFunctionEnv,Option.isSome_none,Bool.false_eq_true,if_false];refine gH (wpAny_alloc ?_);have hb:=I.beyond (a:=s.heap.objs.size) (i8 _);have nb:gA.get? s.heap.objs.size=none:=by
  induction e:gA.get? s.heap.objs.size with
  |none=>rfl
  |some o1=>have:=I.keep _ _ e;rw[se]at this;exact gV this
 let oF:Obj:={cls:=.type "frame",data:=.dict #[]}
 have gF:(s.heap.push oF).get? s.heap.objs.size=some oF:=j7 _ rfl;have I1:Inv S gA φ ((s.heap.objs.size,oF)::Pr) σ {s with heap:=s.heap.push oF}:=(I.grow (h':=s.heap.push oF) (λb o e=>ja _ e) s.toks s.drawn).own gF nb hb.1;have Ec:StrKeys #[]:=λe he=>by simp at he
 have Xn:pJ S φ .nil oF:=⟨.inl rfl,#[],0,rfl,Ec,by
  have:nsFind #[]=λU=>none:=by funext x;rfl
  rw[this];exact ot.nil S _⟩
 refine gH (Ee _ (λname kind cells=>by cases hkc:kind==NameKind.cell<;>simp) g9.scope.names fd.cells g9.closure κ φ σ _ _ FO.cells I1 nT λkF cells s2 l2 I2 hc2=>?_)
 let env:Env:={scope:=g9.scope,locals:=s.heap.objs.size,globals:=g9.globals,cells:=cells,qual:=g9.qualname++".<locals>.",func:=some a,code:=g9.code,frame:=some s.heap.objs.size,builtins:=g9.builtins}
 refine gH ?_;refine Ef (env:=env) (cs:=fd.cells) (κ:=(j9 fd.cells κ σ).1) FO.kind (λx hx=>hb.2 x hx) hc2 _ ?hf fd.params (as.map (·.arg)) ys us .nil _ oF s2 _ has FO.kinds (hv.mono l2) hs I2 (Xn.mono l2) λo3 s3 I3 Lu hc3=>?fin
 case hf=>intro n v u;rfl
 refine gO (k env o3 kF s3 l2 ?_ (Xj F3.lim I3.keep));have hcls:o3.cls= .type "frame":=hc3;obtain⟨g,l,f1,f2⟩:=hfr;exact{
  fit:=by
   obtain⟨z1,z2⟩:=hfit;constructor
   .show A.depth+1+8*d+40<recursionLimit;lia
   .show A.units+3+40*d+400<i';lia
  hnd:=λU=>hh
  KP:=KP
  scope:=rfl
  kind:=FO.kind
  glob:=FO.glob
  blt:=FO.blt
  ng:=F3.ng
  nb:=F3.nb
  lim:=F3.lim
  rn:=hc2
  fr:=Lu
  inv:=I3
  apart:=λx hx=>hb.2 x hx
  frs:=by
   refine⟨g,env::l,by show A.frames.map (env::·)=_;rw[f1];rfl,λe he=>?_⟩
   rcases iL.mp he with rfl|he
   .refine⟨?_,s.heap.objs.size,o3,rfl,hW ..,Lu.yS,hcls⟩;rw[FO.kind];decide
   .obtain⟨j1,L,ob,j2,j3,j4⟩:=f2 e he;exact⟨j1,L,ob,j2,hO _ j3,j4⟩
  pK:=by unfold Dt;rw[if_pos FO.Lq];exact hcls
  top:=λU=>⟨l,by show A.frames.map (env::·)=_;rw[f1];rfl⟩
  Dv:=FO.lR}
theorem Xo(P:jE)(N d:Nat)(fd:FD)(κ:gX)(vs:List AV)(σ:gI):iF P N (d+1) fd κ vs σ=go (rS (iC fd.params) vs fd.nH) 48 λvs=>go (nJ fd.cells (j9 fd.cells κ σ).1 fd.params vs .nil (j9 fd.cells κ σ).2) 48 λq=>lu (dB fd.body ⟨P,N,iF P N d⟩ q.1 (j9 fd.cells κ σ).1 q.2):=rfl
theorem Lv(Bi:∀g9 fd,S.FK g9 fd→Bh S G gA g9 fd)(F3:Eg G gA)(N:Nat):∀d,kO S gA ⟨S.P,N,iF S.P N d⟩ d
 |0=>λA Pr φ σ s fd κ vs xs a hf hh hfr I hfn hv=>trivial
 |d+1=>λA Pr φ σ s fd κ vs xs a hf hh hfr I hfn hv=>by
  have hK:=Lv Bi F3 N d;show yz S gA A Pr φ _ s (iF S.P N (d+1) fd κ vs σ);rw[Xo];refine tR hfn λod g9 sl g1 g2 g3 g4=>?_;have FO:=Bi g9 fd g2;refine lx FO.par λas dx p1 p2 p3 p4=>?_;refine gW FO.Lp λds d1 d2=>?_;have hds:=d2 φ I.st;have hlen:iC fd.params=as.length:=by rw[jo,p3.length,ke]
  induction hb:rS (iC fd.params) vs fd.nH with
  |none=>trivial
  |some us=>
   refine kM (Xk hb) λb1 b2 b3=>?_;rw[hlen]at b1 b2 b3;show yz S gA A Pr φ _ s (go (nJ fd.cells (j9 fd.cells κ σ).1 fd.params us .nil (j9 fd.cells κ σ).2) 48 λq=>lu (dB fd.body ⟨S.P,N,iF S.P N d⟩ q.1 (j9 fd.cells κ σ).1 q.2))
   induction hst:nJ fd.cells (j9 fd.cells κ σ).1 fd.params us .nil (j9 fd.cells κ σ).2 with
   |none=>trivial
   |some q=>
    obtain⟨kl,σ2⟩:=q;show yz S gA A Pr φ _ s (lu (dB fd.body ⟨S.P,N,iF S.P N d⟩ kl (j9 fd.cells κ σ).1 σ2));generalize hrs:dB fd.body ⟨S.P,N,iF S.P N d⟩ kl (j9 fd.cells κ σ).1 σ2=rs
    induction hret:lu rs with
    |stuck w=>trivial
    |exc x σ'=>induction rs<;>injection hret
    |ok v σ'=>
     intro Q kQ;have Eh:xs.length=vs.length:=hv.length;have hdl:ds.length=fd.nH.length:=hds.length;have hys:il φ (xs++ds.drop (ds.length- (as.length- xs.length))) us:=by
      rw[b3,Eh,hdl];exact hv.append (hds.drop _)
     have hns:rs.tZ=false:=by induction rs<;>first|rfl|injection hret
     have args:∀{R:Bd→gJ→Prop}{E:gG→gJ→Prop},R ((as.map (·.arg)).zip (xs++ds.drop (ds.length- (as.length- xs.length)))) s→gL S.M A.in1 (bindArgs g9 ⟨xs,[]⟩) R E s:=λhR=>
      Xb p1 (d1.keeps I.keep) p2 (by rw[Eh];exact b1) (by rw[Eh,hdl];exact b2) (by rw[hdl];exact p4) hR
     have room:A.depth<recursionLimit:=by have:=hf.1;lia
     rcases FO.body with⟨b,e1,e2⟩|⟨e,f,e1,e2,e3⟩
     .refine codeAny_call_function room g1 rfl FO.co FO.gen e1 g3 (args ?_);refine Ls (K:=⟨S.P,N,iF S.P N d⟩) FO F3 rfl hf hh hfr I g4 hys p3 hst λenv o gE s' l T hl=>⟨hl,codeAny_func ?_⟩;have hg:=e2 _ _ _ _ _ _ _ _ _ _ _ hK T;rw[hrs]at hg;refine jg (hg.post hns _) (λfl s2 hr=>?_) λU U z=>z;refine lx (Xl hret hr) λx kF z1 z2 z3 z4=>?_;show Q (.ok (.ret (Lr fl))) s2;rw[z1];exact kQ kF x s2 (l.trans z2) z3 z4
     .refine kla_callFunE room g1 rfl FO.co FO.gen e1 g3 (args ?_);refine Ls (K:=⟨S.P,N,iF S.P N d⟩) FO F3 rfl hf hh hfr I g4 hys p3 hst λenv o gE s' l T hl=>⟨hl,kla_codeExpr ?_⟩;have hg:=e2 _ _ _ _ _ _ _ _ _ _ _ hK T;rw[e3]at hrs;have hrs:((f ⟨S.P,N,iF S.P N d⟩ kl (j9 fd.cells κ σ).1 σ2).run λv σ=>.ret v σ).then (λρ σ=>.next ρ σ)=rs:=hrs
      induction hfe:f ⟨S.P,N,iF S.P N d⟩ kl (j9 fd.cells κ σ).1 σ2 with
      |stuck w=>rw[hfe]at hrs;rw[←hrs]at hns;exact gU hns
      |exc x σ=>rw[hfe]at hrs;rw[←hrs]at hns;exact gU hns
      |ok u σ3=>
       rw[hfe]at hrs hg;rw[←hrs]at hret
       cases hret
       exact hg _ _ λkF x s2 l2 I2 r2=>kQ kF x s2 (l.trans l2) (I2.disown λy hy=>hO _ hy) r2
end
section
def km{β:Type}(l:List (Ad×β))(a:Ad):Option β:=List.rec none (λp U ih=>gT ih (some p.2) (Ad.eq p.1 a)) l
abbrev ug(l:List (Ad×Str))(a:Ad):Option Str:=km l a
structure Ck where
 nm:List (Ad×Str)
 attr:Ad→Bool
 consts:List (Str×AV)
 tab:hU→Option Ad
 nest:Nat→Arguments→FuncBody→hU→Bool
 we:hU→Bool
def Ck.is(ck:Ck)(a:Ad)(x:Str):Bool:=jh (ug ck.nm a) λy=>y==x
def uh(x:Str)(n:Nat):Bool:=hY.strOk x&&ie n (iT x.cps.toList)&&iS x.cps.size 1000000
noncomputable def xu(x:Str):Bool:=!(x==("__debug__":Str))
noncomputable def mK(sc:hU)(x:Str)(k:NameKind):Bool:=sc.names.lookup x==some k
def nU:AV→AV→Bool
 | .none,.none=>true
 | .bool a,.bool b=>a==b
 | .int a,.int b=>a==b
 | .str a,.str b=>ie a b
 | .ref a,.ref b=>Ad.eq a b
 |_,_=>false
def Bj(ck:Ck)(fr:List Ad)(names:List (Str×NameKind)):Bool:=((freeNames names).all λn=>fr.any λa=>ck.is a n)&&fr.all λa=>jh (ug ck.nm a) λn=>(freeNames names).any λm=>m==n
def zd(sc:hU)(x:Str)(n:String):Bool:=x==(n:Str)&&mK sc x .globalImplicit
def Ei(ck:Ck)(sc:hU)(ta:Ad):Bool:=jh (ck.tab sc) λa=>Ad.eq a ta
section
variable{α:Type}
noncomputable def Ej(x:PySem.Expr)(f:Const→Bool):Bool:=on x.ctorIdx 19 λe=>PySem.Expr.Constant.elim (motive_1:=λU=>Bool) x e λc U U=>f c
noncomputable def oX(x:PySem.Expr)(f:Str→Bool):Bool:=on x.ctorIdx 23 λe=>PySem.Expr.Name.elim (motive_1:=λU=>Bool) x e λn U=>f n
noncomputable def wg(x:PySem.Expr)(f:Expr→Str→Pos→Bool):Bool:=on x.ctorIdx 20 λe=>PySem.Expr.Attribute.elim (motive_1:=λU=>Bool) x e λo n p=>f o n p
noncomputable def wh(x:PySem.Expr)(f:Expr→Expr→Bool):Bool:=on x.ctorIdx 21 λe=>PySem.Expr.Subscript.elim (motive_1:=λU=>Bool) x e λo k U=>f o k
noncomputable def zf(x:PySem.Expr)(f:(Option Expr)→(Option Expr)→(Option Expr)→Bool):Bool:=on x.ctorIdx 26 λe=>PySem.Expr.Slice.elim (motive_1:=λU=>Bool) x e λa b c U=>f a b c
noncomputable def xv(x:PySem.Expr)(f:Expr→(List Expr)→(List Keyword)→Pos→Bool):Bool:=on x.ctorIdx 16 λe=>PySem.Expr.Call.elim (motive_1:=λU=>Bool) x e λg es ks p=>f g es ks p
noncomputable def Ek(x:PySem.Expr)(f:Expr→Operator→Expr→Bool):Bool:=on x.ctorIdx 2 λe=>PySem.Expr.BinOp.elim (motive_1:=λU=>Bool) x e λl o r U=>f l o r
noncomputable def Bk(x:PySem.Expr)(f:UnaryOp→Expr→Bool):Bool:=on x.ctorIdx 3 λe=>PySem.Expr.UnaryOp.elim (motive_1:=λU=>Bool) x e λo l U=>f o l
noncomputable def El(x:PySem.Expr)(f:Expr→(List CmpOp)→(List Expr)→Bool):Bool:=on x.ctorIdx 15 λe=>PySem.Expr.Compare.elim (motive_1:=λU=>Bool) x e λl os rs U=>f l os rs
noncomputable def Em(x:PySem.Expr)(f:BoolOp→(List Expr)→Pos→Bool):Bool:=on x.ctorIdx 0 λe=>PySem.Expr.BoolOp.elim (motive_1:=λU=>Bool) x e λo vs p=>f o vs p
noncomputable def En(x:PySem.Expr)(f:Expr→Expr→Expr→Bool):Bool:=on x.ctorIdx 5 λe=>PySem.Expr.IfExp.elim (motive_1:=λU=>Bool) x e λq l r U=>f q l r
noncomputable def Eo(x:PySem.Expr)(f:(List Expr)→Bool):Bool:=on x.ctorIdx 24 λe=>PySem.Expr.List.elim (motive_1:=λU=>Bool) x e λl U=>f l
noncomputable def zg(x:PySem.Expr)(f:(List Expr)→Bool):Bool:=on x.ctorIdx 25 λe=>PySem.Expr.Tuple.elim (motive_1:=λU=>Bool) x e λl U U=>f l
noncomputable def Ep(x:PySem.Expr)(f:(List (Option Expr))→(List Expr)→Bool):Bool:=on x.ctorIdx 6 λe=>PySem.Expr.Dict.elim (motive_1:=λU=>Bool) x e λks vs U=>f ks vs
noncomputable def Er(x:PySem.Expr)(f:Expr→Int→(Option Expr)→Bool):Bool:=on x.ctorIdx 17 λe=>PySem.Expr.FormattedValue.elim (motive_1:=λU=>Bool) x e λl c s U=>f l c s
noncomputable def Es(x:PySem.Expr)(f:(List Expr)→Bool):Bool:=on x.ctorIdx 18 λe=>PySem.Expr.JoinedStr.elim (motive_1:=λU=>Bool) x e λl U=>f l
noncomputable def Bl(x:PySem.Expr)(f:Expr→(List Comprehension)→hU→Bool):Bool:=on x.ctorIdx 8 λe=>PySem.Expr.ListComp.elim (motive_1:=λU=>Bool) x e λe gs sc U=>f e gs sc
noncomputable def Et(x:PySem.Expr)(f:Arguments→Expr→hU→Pos→Bool):Bool:=on x.ctorIdx 4 λe=>PySem.Expr.Lambda.elim (motive_1:=λU=>Bool) x e λa b sc p=>f a b sc p
noncomputable def Eu(x:PySem.Stmt)(f:Expr→Bool):Bool:=on x.ctorIdx 24 λe=>PySem.Stmt.Expr.elim (motive_2:=λU=>Bool) x e λx U=>f x
noncomputable def Bm(x:PySem.Stmt)(f:(List Expr)→Expr→Bool):Bool:=on x.ctorIdx 5 λe=>PySem.Stmt.Assign.elim (motive_2:=λU=>Bool) x e λts x U=>f ts x
noncomputable def Bn(x:PySem.Stmt)(f:Expr→Operator→Expr→Bool):Bool:=on x.ctorIdx 7 λe=>PySem.Stmt.AugAssign.elim (motive_2:=λU=>Bool) x e λy o v U=>f y o v
noncomputable def Ew(x:PySem.Stmt)(f:Expr→(List Stmt)→(List Stmt)→Bool):Bool:=on x.ctorIdx 12 λe=>PySem.Stmt.If.elim (motive_2:=λU=>Bool) x e λq x y U=>f q x y
noncomputable def Ex(x:PySem.Stmt)(f:Expr→(List Stmt)→(List Stmt)→Bool):Bool:=on x.ctorIdx 11 λe=>PySem.Stmt.While.elim (motive_2:=λU=>Bool) x e λq x y U=>f q x y
noncomputable def Ey(x:PySem.Stmt)(f:Expr→Expr→(List Stmt)→(List Stmt)→Bool):Bool:=on x.ctorIdx 9 λe=>PySem.Stmt.For.elim (motive_2:=λU=>Bool) x e λy i x z U=>f y i x z
noncomputable def Ez(x:PySem.Stmt)(f:(Option Expr)→Bool):Bool:=on x.ctorIdx 3 λe=>PySem.Stmt.Return.elim (motive_2:=λU=>Bool) x e λx U=>f x
noncomputable def EB(x:PySem.Stmt)(f:Pos→Bool):Bool:=on x.ctorIdx 26 λe=>PySem.Stmt.Break.elim (motive_2:=λU=>Bool) x e λp=>f p
noncomputable def EC(x:PySem.Stmt)(f:Pos→Bool):Bool:=on x.ctorIdx 27 λe=>PySem.Stmt.Continue.elim (motive_2:=λU=>Bool) x e λp=>f p
noncomputable def ED(x:PySem.Stmt)(f:Pos→Bool):Bool:=on x.ctorIdx 25 λe=>PySem.Stmt.Pass.elim (motive_2:=λU=>Bool) x e λp=>f p
noncomputable def EE(x:PySem.Stmt)(f:(List Stmt)→(List ExceptHandler)→(List Stmt)→(List Stmt)→Bool):Bool:=on x.ctorIdx 17 λe=>PySem.Stmt.Try.elim (motive_2:=λU=>Bool) x e λbd hs o fi U=>f bd hs o fi
noncomputable def EF(x:PySem.Stmt)(f:Arguments→(List Stmt)→(List Expr)→(Option Expr)→(List TypeParam)→hU→(Option hU)→Str→Pos→Bool):Bool:=on x.ctorIdx 0 λe=>PySem.Stmt.FunctionDef.elim (motive_2:=λU=>Bool) x e λU a body ds rt tp scope ts bind pos=>f a body ds rt tp scope ts bind pos
noncomputable def isName(x:Expr):Bool:=oX x λU=>true
noncomputable def zh(x:Expr):Bool:=Bl x λU U U=>true
noncomputable def EG(x:II):Bool:=II.casesOn (motive_5:=λU=>Bool) x (λU=>true) (λU=>true) (λU=>false) (λU=>false)
noncomputable def EH(x:IE)(f:AV→Bool):Bool:=IE.casesOn (motive_1:=λU=>Bool) x f (λU=>false) (λU=>false) (λU U=>false) (λU U=>false) (λU=>false) (λU U=>false) (λU U=>false) (λU U=>false) (λU U=>false) (λU U=>false) (λU U=>false) (λU U U=>false) (λU U U=>false) (λU=>false) (λU=>false) (λU U U=>false) (λU U=>false) (λU U=>false) (λU U U=>false) (λU=>false) (λU=>false) (λU=>false) (λU=>false) (λU U=>false) (λU=>false) (λU U U U U=>false) (λU U U U=>false)
def EI(x:IE):Bool:=EH x λv=>nU v (.bool true)
noncomputable def EJ(a:Arguments)(f:List Arg→Bool):Bool:=a.posonlyargs.isEmpty&&(a.vararg.isNone&&(a.kwonlyargs.isEmpty&&(a.kw_defaults.isEmpty&&(a.kwarg.isNone&&(a.defaults.isEmpty&&f a.args)))))
end
def Lw(sc:hU)(key idx:Bool)(x:Expr):Bool:=
 oX x (λx=>(zd sc x "KeyError"&&(key&& !idx))||(zd sc x "IndexError"&&(!key&&idx)))||
 zg x λes=>jS es λa r=>jS r λb r=>r.isEmpty&&(oX a λx=>oX b λy=>zd sc x "IndexError"&&(zd sc y "KeyError"&&(key&&idx)))
inductive Md where
 |e (x:Expr)
 |t (x:Expr)
 |j (l:List Expr)
noncomputable def Md.own(m:Md)(f:Bool→Expr→Bool):Bool:=match m with
 | .e x=>!(zh x)&&f false x
 | .t x=>!(zh x)&&f true x
 | .j _=>false
def Md.at(m:Md)(f:Expr→Bool):Bool:=m.own λt x=>(!t||plainT x)&&f x
noncomputable def Md.of(t:Bool)(x:Expr):Md:=match t with|true=>.t x|false=>.e x
inductive EK where
 |l (es:List Expr)
 |p (ks:List (Option Expr)) (vs:List Expr)
 |q (ks:List (Option Expr)) (vs:List Expr)
abbrev CE:=hU→Bool→Md→Bool
abbrev CL:=hU→Bool→EK→Bool
abbrev CT:=hU→Bool→Expr→Bool
abbrev nV:=hU→Bool→List Expr→Bool
abbrev CS:=hU→Bool→Stmt→Bool
abbrev CB:=hU→Bool→List Stmt→Bool
section
variable(ck:Ck)
def kstB(v:AV)(c:Const):Bool:=match c with
 | .none=>nU v .none
 | .bool b=>nU v (.bool b)
 | .int i=>nU v (.int i)
 | .str x=>on v.ctorIdx 3 λe=>AV.str.elim (motive:=λU=>Bool) v e λn=>uh x n
 |_=>false
def ui(v:AV):CE:=λsc H m=>(match m with| .j l=>l.isEmpty&&nU v (.str 1)|_=>false)||m.at λx=>Ej x (kstB v)||oX x λn=>mK sc n .globalImplicit&&(xu n&&jh (ck.consts.lookup n) λu=>nU v u)
def uj(a:Ad):CE:=λsc H m=>m.at λx=>oX x λn=>mK sc n .local&&(ck.is a n&&xu n)
def uk(a:Ad):CE:=λsc H m=>m.at λx=>oX x λn=>(mK sc n .cell||mK sc n .free)&&(ck.is a n&&(xu n&& !(n==("__classdict__":Str))))
def um(e:CE)(a:Ad):CE:=λsc H m=>m.at λx=>wg x λo n U=>e sc H (.e o)&&(vY o&&(ck.is a n&&ck.attr a))
def uo(e i:CE):CE:=λsc H m=>m.at λx=>wh x λo k=>e sc H (.e o)&&(i sc H (.e k)&&DH k)
def uq(e:CE):CE:=λsc H m=>m.at λx=>wh x λo k=>zf k λa b c=>a.isNone&&(b.isNone&&(c.isNone&&e sc H (.e o)))
def ur(e i:CE):CE:=λsc H m=>m.at λx=>wh x λo k=>zf k λa b c=>jh a λa=>b.isNone&&(c.isNone&&(e sc H (.e o)&&i sc H (.e a)))
def uu(e i:CE):CE:=λsc H m=>m.at λx=>wh x λo k=>zf k λa b c=>a.isNone&&jh b λb=>c.isNone&&(e sc H (.e o)&&i sc H (.e b))
noncomputable def zj(x:Expr)(f:Str→List Expr→Bool):Bool:=xv x λg es ks U=>ks.isEmpty&&oX g λn=>f n es
def nr(k:Nat)(as:CL):CE:=λsc H m=>m.at λx=>zj x λn es=>mK sc n .globalImplicit&&(xu n&&(uh n k&&(H&&(as sc H (.l es)&&jZ es))))
def uv(b:BI)(as:CL):CE:=λsc H m=>m.at λx=>zj x λn es=>mK sc n .globalImplicit&&(xu n&&(n==AY b&&(H&&(as sc H (.l es)&&jZ es))))
def uw(e:CE)(as:CL):CE:=λsc H m=>m.at λx=>xv x λg es ks U=>ks.isEmpty&&(isName g&&(e sc H (.e g)&&(H&&(as sc H (.l es)&&jZ es))))
def ux(e:CE)(k:Nat)(as:CL):CE:=λsc H m=>m.at λx=>xv x λg es ks pos=>ks.isEmpty&&wg g λo n q=>e sc H (.e o)&&(vY o&&(uh n k&&(H&&(as sc H (.l es)&&(jZ es&&(Nat.blt es.length 30&&q.endLine==pos.line))))))
def uy(op:Op)(a b:CE):CE:=λsc H m=>m.at λx=>Ek x λl o r=>a sc H (.e l)&&(b sc H (.e r)&&DK op o)
def uz(a:CE):CE:=λsc H m=>m.at λx=>Bk x λo l=>decide (o= .USub)&&a sc H (.e l)
noncomputable def uA(a:CE):CE:=λsc H m=>m.own λt x=>Bk x λo l=>decide (o= .Not)&&a sc H (.of t l)
noncomputable def uB(op:Cp)(a b:CE):CE:=λsc H m=>m.own λt x=>El x λl os rs=>jS os λo os=>jS rs λr rs=>os.isEmpty&&(rs.isEmpty&&(a sc H (.e l)&&(b sc H (.e r)&&(AU op o&& !(behindInMarks o r)))))
noncomputable def Xp(o:BoolOp)(y:Expr)(r:List Expr)(p:Pos):Expr:=match r with|[]=>y|_::_=>.BoolOp o (y::r) p
def EL(o:BoolOp)(a b:CE):CE:=λsc H m=>m.own λt x=>Em x λo' vs p=>decide (o'=o)&&jS vs λx vs=>jS vs λy r=>a sc H (.of t x)&&b sc H (.of t (Xp o y r p))
def uC(a b:CE):CE:=EL .And a b
def uD(a b:CE):CE:=EL .Or a b
noncomputable def uE(c a b:CE):CE:=λsc H m=>m.own λt x=>En x λq l r=>c sc H (.t q)&&(a sc H (.of t l)&&b sc H (.of t r))
def uF(l:CL):CE:=λsc H m=>m.at λx=>Eo x λes=>l sc H (.l es)
def uG(l:CL):CE:=λsc H m=>m.at λx=>zg x λes=>l sc H (.l es)
noncomputable def Xq(x:i9):Bool:=i9.casesOn (motive_2:=λU=>Bool) x true (λU U=>false)
def uH(es:i9)(l:CL):CE:=λsc H m=>m.at λx=>Ep x λks vs=>(ks.isEmpty&&(vs.isEmpty&&Xq es))||(jS ks λk kr=>jh k λk=>jS vs λv vr=>l sc H (.p (some k::kr) (v::vr))&&((some k::kr).all (·.isSome)&&(decide ((some k::kr).length=(v::vr).length)&&iS (some k::kr).length 15)))
def uI(e:CE):CE:=λsc H m=>m.at λx=>Er x λl c s=>decide (c=115)&&(s.isNone&&e sc H (.e l))
noncomputable def uJ(e r:CE):CE:=λsc H m=>match m with| .j l=>jS l λx l=>e sc H (.e x)&&r sc H (.j l)|_=>false
def uK(r:CE):CE:=λsc H m=>m.at λx=>Es x λl=>jS l λx l=>jS l λy l=>r sc H (.j (x::y::l))&&iS l.length 10
def EM(e:CE)(t:CT)(it:CT)(c:IE)(ic:CE)(iw:II)(fr:List Ad)(sc:hU)(H:Bool)(x:Expr):Bool:=Bl x λelt gs scope=>jS gs λg gr=>gr.isEmpty&&(decide (g.is_async=0)&&(xm scope&&(Bj ck fr scope.names&&(t (lC scope sc) H g.target&&(e (lC scope sc) H (.e elt)&&
 (((g.ifs.isEmpty&&EI c)||jS g.ifs λq qr=>qr.isEmpty&&ic (lC scope sc) H (.t q))&&(it sc H g.iter&&(H&&(!(isFn (lC scope sc))&&(ck.we (lC scope sc)&&EG iw))))))))))
def uL(e:CE)(t:CT)(it:CT)(c:IE)(ic:CE)(iw:II)(fr:List Ad):CE:=λsc H m=>match m with
 | .e x=>EM ck e t it c ic iw fr sc H x
 | .t x=>plainT x&&EM ck e t it c ic iw fr sc H x
 | .j _=>false
def uM(k:Nat)(ta:Ad)(pn:Nat)(fr:List Ad):CE:=λsc H m=>m.at λx=>Et x λa b scope pos=>EJ a λas=>Ei ck sc ta&&(ie pn (rj pos)&&(Bj ck fr scope.names&&ck.nest k ⟨[],as,none,[],[],none,[]⟩ (.expr b) scope))
noncomputable def uN:CL:=λU U m=>match m with| .l es=>es.isEmpty| .p ks vs=>ks.isEmpty&&vs.isEmpty| .q _ _=>false
noncomputable def uO(f:CE)(l:CL):CL:=λsc H m=>match m with
 | .l es=>jS es λe r=>f sc H (.e e)&&(noStar e&&l sc H (.l r))
 | .p ks vs=>jS ks λk kr=>jh k λk=>f sc H (.e k)&&l sc H (.q kr vs)
 | .q ks vs=>jS vs λv vr=>f sc H (.e v)&&l sc H (.p ks vr)
def uP(a:Ad):CT:=λsc H x=>oX x λn=>mK sc n .local&&ck.is a n
def uQ(a:Ad):CT:=λsc H x=>oX x λn=>mK sc n .cell&&ck.is a n
def uR(e:CE)(a:Ad):CT:=λsc H x=>wg x λo n U=>e sc H (.e o)&&(ck.is a n&&ck.attr a)
noncomputable def uS(e i:CE):CT:=λsc H x=>wh x λo k=>e sc H (.e o)&&i sc H (.e k)
noncomputable def uT(l:nV)(n:Nat):CT:=λsc H x=>zg x λes=>l sc H es&&(jZ es&&(ie es.length n&&H))
noncomputable def uU:nV:=λU U es=>es.isEmpty
noncomputable def uV(t:CT)(l:nV):nV:=λsc H es=>jS es λe r=>t sc H e&&(noStar e&&l sc H r)
noncomputable def uW(f:CE):CT:=λsc H x=>f sc H (.e x)&&D4 x
def uX(l:CL):CT:=λsc H x=>zj x λn es=>n==("range":Str)&&(mK sc n .globalImplicit&&(l sc H (.l es)&&jZ es))
def uY(f:CE):CT:=λsc H x=>zj x λn es=>n==("enumerate":Str)&&(mK sc n .globalImplicit&&jS es λe r=>r.isEmpty&&(f sc H (.e e)&&noStar e))
noncomputable def uZ(f:CE):CT:=λsc H x=>xv x λg es ks pos=>ks.isEmpty&&(es.isEmpty&&wg g λo n q=>n==("items":Str)&&(f sc H (.e o)&&(vY o&&q.endLine==pos.line)))
noncomputable def te(e:CE):CS:=λsc H s=>Eu s λx=>e sc H (.e x)&&s9 x
noncomputable def EN(t:CT)(e:CE)(sc:hU)(H:Bool)(ts:List Expr)(x:Expr):Bool:=jS ts λy r=>r.isEmpty&&(e sc H (.e x)&&(t sc H y&&((yN y||xg x)&&noStar y)))
noncomputable def u4(t:CT)(e:CE):CS:=λsc H s=>Bm s λts x=>EN t e sc H ts x&&(s9 x||(zh x&&jS ts λy U=>isName y))
def u5(a:Ad)(op:Op)(e:CE):CS:=λsc H s=>Bn s λy o v=>oX y λn=>mK sc n .local&&(ck.is a n&&(e sc H (.e v)&&yO op o))
def u6(f:CE)(a:Ad)(op:Op)(e:CE):CS:=λsc H s=>Bn s λy o' v=>wg y λo n U=>f sc H (.e o)&&(ck.is a n&&(ck.attr a&&(e sc H (.e v)&&yO op o')))
noncomputable def u7(c:CE)(b o:CB):CS:=λsc H s=>Ew s λq x y=>c sc H (.t q)&&(b sc H x&&o sc H y)
noncomputable def u9(c:CE)(b o:CB):CS:=λsc H s=>Ex s λq x y=>c sc H (.t q)&&(b sc H x&&o sc H y)
def va(t:CT)(it:CT)(iw:II)(b o:CB):CS:=λsc H s=>Ey s λy i x z=>t sc H y&&(it sc H i&&(b sc H x&&(o sc H z&&(H&&(isTup y||EG iw)))))
def Xr(x:IE):Bool:=EH x λv=>nU v .none
def vb(e:IE)(f:CE):CS:=λsc H s=>Ez s λx=>(x.isNone&&Xr e)||jh x λx=>f sc H (.e x)
noncomputable def vc:CS:=λU U s=>EB s λU=>true
noncomputable def vd:CS:=λU U s=>EC s λU=>true
noncomputable def ve:CS:=λU U s=>ED s λU=>true
def EO(key idx:Bool)(h:CB)(sc:hU)(H:Bool)(s:Stmt)(f:Stmt→Bool):Bool:=EE s λbd hs o fi=>o.isEmpty&&(fi.isEmpty&&jS bd λb br=>br.isEmpty&&(f b&&jS hs λx hr=>hr.isEmpty&&(match x with| .ExceptHandler c nm l _=>nm.isNone&&jh c λc=>jS l λb0 su=>Lw sc key idx c&&(h sc false (b0::su)&&(isFn sc&&H)))))
def vf(e:CE)(key idx:Bool)(h:CB):CS:=λsc H s=>EO key idx h sc H s λb=>te e sc H b
def vg(t:CT)(e:CE)(key idx:Bool)(h:CB):CS:=λsc H s=>EO key idx h sc H s λb=>Bm b λts x=>EN t e sc H ts x&&s9 x
def vi(t:CT)(k:Nat)(ta:Ad)(pn:Nat)(fr:List Ad):CS:=λsc H s=>EF s λa body ds rt tp scope ts bind pos=>ds.isEmpty&&(rt.isNone&&(tp.isEmpty&&(ts.isNone&&EJ a λas=>t sc H (.Name bind pos)&&(Ei ck sc ta&&(ie pn (rj pos)&&(Bj ck fr scope.names&&(ck.nest k ⟨[],as,none,[],[],none,[]⟩ (.stmts body) scope&&(y9 as&&Bf (.stmts body)))))))))
noncomputable def vj(_:Nat):CS:=λU U U=>true
noncomputable def vk:CB:=λU U l=>l.isEmpty
noncomputable def vl(s:CS)(l:CB):CB:=λsc H b=>jS b λx y=>s sc H x&&l sc H y
def Bo:IE→CE:=@IE.rec (λU=>CE) (λU=>CL) (λU=>CT) (λU=>nV) (λU=>CT) (λU=>CS) (λU=>CB)
 (λv=>ui ck v)
 (λx=>uj ck x)
 (λx=>uk ck x)
 (λU x e=>um ck e x)
 (λU U e i=>uo e i)
 (λU e=>uq e)
 (λU U e a=>ur e a)
 (λU U e b=>uu e b)
 (λk U as=>nr k as)
 (λk U as=>nr k as)
 (λb U as=>uv b as)
 (λU U e as=>uw e as)
 (λU m U e as=>ux e m as)
 (λop U U a b=>uy op a b)
 (λU a=>uz a)
 (λU a=>uA a)
 (λop U U a b=>uB op a b)
 (λU U a b=>uC a b)
 (λU U a b=>uD a b)
 (λU U U c a b=>uE c a b)
 (λU es=>uF es)
 (λU es=>uG es)
 (λmM es=>uH mM es)
 (λU e=>uI e)
 (λU U e r=>uJ e r)
 (λU r=>uK r)
 (λU U j0 mN fr e t it c=>uL ck e t it mN c j0 fr)
 (λk ta pn fr=>uM ck k ta pn fr)
 (uN)
 (λU U e l=>uO e l)
 (λx=>uP ck x)
 (λx=>uQ ck x)
 (λU x e=>uR ck e x)
 (λU U e i=>uS e i)
 (λU n l=>uT l n)
 (uU)
 (λU U t l=>uV t l)
 (λU e=>uW e)
 (λU as=>uX as)
 (λU e=>uY e)
 (λU e=>uZ e)
 (λU e=>te e)
 (λU U t e=>u4 t e)
 (λx op U e=>u5 ck x op e)
 (λU x op U o e=>u6 ck o x op e)
 (λU U U c b o=>u7 c b o)
 (λU U U c b o=>u9 c b o)
 (λU j0 U U t it b o=>va t it j0 b o)
 (λmO e=>vb mO e)
 (vc)
 (vd)
 (ve)
 (λU key idx U e h=>vf e key idx h)
 (λU U key idx U t e h=>vg t e key idx h)
 (λU k ta pn fr t=>vi ck t k ta pn fr)
 (λw=>vj w)
 (vk)
 (λU U s l=>vl s l)
def Lx:i9→CL:=@i9.rec (λU=>CE) (λU=>CL) (λU=>CT) (λU=>nV) (λU=>CT) (λU=>CS) (λU=>CB)
 (λv=>ui ck v)
 (λx=>uj ck x)
 (λx=>uk ck x)
 (λU x e=>um ck e x)
 (λU U e i=>uo e i)
 (λU e=>uq e)
 (λU U e a=>ur e a)
 (λU U e b=>uu e b)
 (λk U as=>nr k as)
 (λk U as=>nr k as)
 (λb U as=>uv b as)
 (λU U e as=>uw e as)
 (λU m U e as=>ux e m as)
 (λop U U a b=>uy op a b)
 (λU a=>uz a)
 (λU a=>uA a)
 (λop U U a b=>uB op a b)
 (λU U a b=>uC a b)
 (λU U a b=>uD a b)
 (λU U U c a b=>uE c a b)
 (λU es=>uF es)
 (λU es=>uG es)
 (λmM es=>uH mM es)
 (λU e=>uI e)
 (λU U e r=>uJ e r)
 (λU r=>uK r)
 (λU U j0 mN fr e t it c=>uL ck e t it mN c j0 fr)
 (λk ta pn fr=>uM ck k ta pn fr)
 (uN)
 (λU U e l=>uO e l)
 (λx=>uP ck x)
 (λx=>uQ ck x)
 (λU x e=>uR ck e x)
 (λU U e i=>uS e i)
 (λU n l=>uT l n)
 (uU)
 (λU U t l=>uV t l)
 (λU e=>uW e)
 (λU as=>uX as)
 (λU e=>uY e)
 (λU e=>uZ e)
 (λU e=>te e)
 (λU U t e=>u4 t e)
 (λx op U e=>u5 ck x op e)
 (λU x op U o e=>u6 ck o x op e)
 (λU U U c b o=>u7 c b o)
 (λU U U c b o=>u9 c b o)
 (λU j0 U U t it b o=>va t it j0 b o)
 (λmO e=>vb mO e)
 (vc)
 (vd)
 (ve)
 (λU key idx U e h=>vf e key idx h)
 (λU U key idx U t e h=>vg t e key idx h)
 (λU k ta pn fr t=>vi ck t k ta pn fr)
 (λw=>vj w)
 (vk)
 (λU U s l=>vl s l)
def Ly:IT→CT:=@IT.rec (λU=>CE) (λU=>CL) (λU=>CT) (λU=>nV) (λU=>CT) (λU=>CS) (λU=>CB)
 (λv=>ui ck v)
 (λx=>uj ck x)
 (λx=>uk ck x)
 (λU x e=>um ck e x)
 (λU U e i=>uo e i)
 (λU e=>uq e)
 (λU U e a=>ur e a)
 (λU U e b=>uu e b)
 (λk U as=>nr k as)
 (λk U as=>nr k as)
 (λb U as=>uv b as)
 (λU U e as=>uw e as)
 (λU m U e as=>ux e m as)
 (λop U U a b=>uy op a b)
 (λU a=>uz a)
 (λU a=>uA a)
 (λop U U a b=>uB op a b)
 (λU U a b=>uC a b)
 (λU U a b=>uD a b)
 (λU U U c a b=>uE c a b)
 (λU es=>uF es)
 (λU es=>uG es)
 (λmM es=>uH mM es)
 (λU e=>uI e)
 (λU U e r=>uJ e r)
 (λU r=>uK r)
 (λU U j0 mN fr e t it c=>uL ck e t it mN c j0 fr)
 (λk ta pn fr=>uM ck k ta pn fr)
 (uN)
 (λU U e l=>uO e l)
 (λx=>uP ck x)
 (λx=>uQ ck x)
 (λU x e=>uR ck e x)
 (λU U e i=>uS e i)
 (λU n l=>uT l n)
 (uU)
 (λU U t l=>uV t l)
 (λU e=>uW e)
 (λU as=>uX as)
 (λU e=>uY e)
 (λU e=>uZ e)
 (λU e=>te e)
 (λU U t e=>u4 t e)
 (λx op U e=>u5 ck x op e)
 (λU x op U o e=>u6 ck o x op e)
 (λU U U c b o=>u7 c b o)
 (λU U U c b o=>u9 c b o)
 (λU j0 U U t it b o=>va t it j0 b o)
 (λmO e=>vb mO e)
 (vc)
 (vd)
 (ve)
 (λU key idx U e h=>vf e key idx h)
 (λU U key idx U t e h=>vg t e key idx h)
 (λU k ta pn fr t=>vi ck t k ta pn fr)
 (λw=>vj w)
 (vk)
 (λU U s l=>vl s l)
def Lz:rQ→nV:=@rQ.rec (λU=>CE) (λU=>CL) (λU=>CT) (λU=>nV) (λU=>CT) (λU=>CS) (λU=>CB)
 (λv=>ui ck v)
 (λx=>uj ck x)
 (λx=>uk ck x)
 (λU x e=>um ck e x)
 (λU U e i=>uo e i)
 (λU e=>uq e)
 (λU U e a=>ur e a)
 (λU U e b=>uu e b)
 (λk U as=>nr k as)
 (λk U as=>nr k as)
 (λb U as=>uv b as)
 (λU U e as=>uw e as)
 (λU m U e as=>ux e m as)
 (λop U U a b=>uy op a b)
 (λU a=>uz a)
 (λU a=>uA a)
 (λop U U a b=>uB op a b)
 (λU U a b=>uC a b)
 (λU U a b=>uD a b)
 (λU U U c a b=>uE c a b)
 (λU es=>uF es)
 (λU es=>uG es)
 (λmM es=>uH mM es)
 (λU e=>uI e)
 (λU U e r=>uJ e r)
 (λU r=>uK r)
 (λU U j0 mN fr e t it c=>uL ck e t it mN c j0 fr)
 (λk ta pn fr=>uM ck k ta pn fr)
 (uN)
 (λU U e l=>uO e l)
 (λx=>uP ck x)
 (λx=>uQ ck x)
 (λU x e=>uR ck e x)
 (λU U e i=>uS e i)
 (λU n l=>uT l n)
 (uU)
 (λU U t l=>uV t l)
 (λU e=>uW e)
 (λU as=>uX as)
 (λU e=>uY e)
 (λU e=>uZ e)
 (λU e=>te e)
 (λU U t e=>u4 t e)
 (λx op U e=>u5 ck x op e)
 (λU x op U o e=>u6 ck o x op e)
 (λU U U c b o=>u7 c b o)
 (λU U U c b o=>u9 c b o)
 (λU j0 U U t it b o=>va t it j0 b o)
 (λmO e=>vb mO e)
 (vc)
 (vd)
 (ve)
 (λU key idx U e h=>vf e key idx h)
 (λU U key idx U t e h=>vg t e key idx h)
 (λU k ta pn fr t=>vi ck t k ta pn fr)
 (λw=>vj w)
 (vk)
 (λU U s l=>vl s l)
def LA:II→CT:=@II.rec (λU=>CE) (λU=>CL) (λU=>CT) (λU=>nV) (λU=>CT) (λU=>CS) (λU=>CB)
 (λv=>ui ck v)
 (λx=>uj ck x)
 (λx=>uk ck x)
 (λU x e=>um ck e x)
 (λU U e i=>uo e i)
 (λU e=>uq e)
 (λU U e a=>ur e a)
 (λU U e b=>uu e b)
 (λk U as=>nr k as)
 (λk U as=>nr k as)
 (λb U as=>uv b as)
 (λU U e as=>uw e as)
 (λU m U e as=>ux e m as)
 (λop U U a b=>uy op a b)
 (λU a=>uz a)
 (λU a=>uA a)
 (λop U U a b=>uB op a b)
 (λU U a b=>uC a b)
 (λU U a b=>uD a b)
 (λU U U c a b=>uE c a b)
 (λU es=>uF es)
 (λU es=>uG es)
 (λmM es=>uH mM es)
 (λU e=>uI e)
 (λU U e r=>uJ e r)
 (λU r=>uK r)
 (λU U j0 mN fr e t it c=>uL ck e t it mN c j0 fr)
 (λk ta pn fr=>uM ck k ta pn fr)
 (uN)
 (λU U e l=>uO e l)
 (λx=>uP ck x)
 (λx=>uQ ck x)
 (λU x e=>uR ck e x)
 (λU U e i=>uS e i)
 (λU n l=>uT l n)
 (uU)
 (λU U t l=>uV t l)
 (λU e=>uW e)
 (λU as=>uX as)
 (λU e=>uY e)
 (λU e=>uZ e)
 (λU e=>te e)
 (λU U t e=>u4 t e)
 (λx op U e=>u5 ck x op e)
 (λU x op U o e=>u6 ck o x op e)
 (λU U U c b o=>u7 c b o)
 (λU U U c b o=>u9 c b o)
 (λU j0 U U t it b o=>va t it j0 b o)
 (λmO e=>vb mO e)
 (vc)
 (vd)
 (ve)
 (λU key idx U e h=>vf e key idx h)
 (λU U key idx U t e h=>vg t e key idx h)
 (λU k ta pn fr t=>vi ck t k ta pn fr)
 (λw=>vj w)
 (vk)
 (λU U s l=>vl s l)
def LB:IS→CS:=@IS.rec (λU=>CE) (λU=>CL) (λU=>CT) (λU=>nV) (λU=>CT) (λU=>CS) (λU=>CB)
 (λv=>ui ck v)
 (λx=>uj ck x)
 (λx=>uk ck x)
 (λU x e=>um ck e x)
 (λU U e i=>uo e i)
 (λU e=>uq e)
 (λU U e a=>ur e a)
 (λU U e b=>uu e b)
 (λk U as=>nr k as)
 (λk U as=>nr k as)
 (λb U as=>uv b as)
 (λU U e as=>uw e as)
 (λU m U e as=>ux e m as)
 (λop U U a b=>uy op a b)
 (λU a=>uz a)
 (λU a=>uA a)
 (λop U U a b=>uB op a b)
 (λU U a b=>uC a b)
 (λU U a b=>uD a b)
 (λU U U c a b=>uE c a b)
 (λU es=>uF es)
 (λU es=>uG es)
 (λmM es=>uH mM es)
 (λU e=>uI e)
 (λU U e r=>uJ e r)
 (λU r=>uK r)
 (λU U j0 mN fr e t it c=>uL ck e t it mN c j0 fr)
 (λk ta pn fr=>uM ck k ta pn fr)
 (uN)
 (λU U e l=>uO e l)
 (λx=>uP ck x)
 (λx=>uQ ck x)
 (λU x e=>uR ck e x)
 (λU U e i=>uS e i)
 (λU n l=>uT l n)
 (uU)
 (λU U t l=>uV t l)
 (λU e=>uW e)
 (λU as=>uX as)
 (λU e=>uY e)
 (λU e=>uZ e)
 (λU e=>te e)
 (λU U t e=>u4 t e)
 (λx op U e=>u5 ck x op e)
 (λU x op U o e=>u6 ck o x op e)
 (λU U U c b o=>u7 c b o)
 (λU U U c b o=>u9 c b o)
 (λU j0 U U t it b o=>va t it j0 b o)
 (λmO e=>vb mO e)
 (vc)
 (vd)
 (ve)
 (λU key idx U e h=>vf e key idx h)
 (λU U key idx U t e h=>vg t e key idx h)
 (λU k ta pn fr t=>vi ck t k ta pn fr)
 (λw=>vj w)
 (vk)
 (λU U s l=>vl s l)
def Bp:g7→CB:=@g7.rec (λU=>CE) (λU=>CL) (λU=>CT) (λU=>nV) (λU=>CT) (λU=>CS) (λU=>CB)
 (λv=>ui ck v)
 (λx=>uj ck x)
 (λx=>uk ck x)
 (λU x e=>um ck e x)
 (λU U e i=>uo e i)
 (λU e=>uq e)
 (λU U e a=>ur e a)
 (λU U e b=>uu e b)
 (λk U as=>nr k as)
 (λk U as=>nr k as)
 (λb U as=>uv b as)
 (λU U e as=>uw e as)
 (λU m U e as=>ux e m as)
 (λop U U a b=>uy op a b)
 (λU a=>uz a)
 (λU a=>uA a)
 (λop U U a b=>uB op a b)
 (λU U a b=>uC a b)
 (λU U a b=>uD a b)
 (λU U U c a b=>uE c a b)
 (λU es=>uF es)
 (λU es=>uG es)
 (λmM es=>uH mM es)
 (λU e=>uI e)
 (λU U e r=>uJ e r)
 (λU r=>uK r)
 (λU U j0 mN fr e t it c=>uL ck e t it mN c j0 fr)
 (λk ta pn fr=>uM ck k ta pn fr)
 (uN)
 (λU U e l=>uO e l)
 (λx=>uP ck x)
 (λx=>uQ ck x)
 (λU x e=>uR ck e x)
 (λU U e i=>uS e i)
 (λU n l=>uT l n)
 (uU)
 (λU U t l=>uV t l)
 (λU e=>uW e)
 (λU as=>uX as)
 (λU e=>uY e)
 (λU e=>uZ e)
 (λU e=>te e)
 (λU U t e=>u4 t e)
 (λx op U e=>u5 ck x op e)
 (λU x op U o e=>u6 ck o x op e)
 (λU U U c b o=>u7 c b o)
 (λU U U c b o=>u9 c b o)
 (λU j0 U U t it b o=>va t it j0 b o)
 (λmO e=>vb mO e)
 (vc)
 (vd)
 (ve)
 (λU key idx U e h=>vf e key idx h)
 (λU U key idx U t e h=>vg t e key idx h)
 (λU k ta pn fr t=>vi ck t k ta pn fr)
 (λw=>vj w)
 (vk)
 (λU U s l=>vl s l)
end
end
@[elab_as_elim] theorem Xs{x:PySem.Expr}{P:PySem.Expr→Prop}{f:Const→Bool}(h:Ej x f=true)(k:∀c u1 u2,f c=true→P (.Constant c u1 u2)):P x:=iV h λe U=>PySem.Expr.Constant.elim (motive_1:=λx=>Ej x f=true→P x) x e k h
@[elab_as_elim] theorem rB{x:PySem.Expr}{P:PySem.Expr→Prop}{f:Str→Bool}(h:oX x f=true)(k:∀n u1,f n=true→P (.Name n u1)):P x:=iV h λe U=>PySem.Expr.Name.elim (motive_1:=λx=>oX x f=true→P x) x e k h
@[elab_as_elim] theorem zk{x:PySem.Expr}{P:PySem.Expr→Prop}{f:Expr→Str→Pos→Bool}(h:wg x f=true)(k:∀o n p,f o n p=true→P (.Attribute o n p)):P x:=iV h λe U=>PySem.Expr.Attribute.elim (motive_1:=λx=>wg x f=true→P x) x e k h
@[elab_as_elim] theorem zl{x:PySem.Expr}{P:PySem.Expr→Prop}{f:Expr→Expr→Bool}(h:wh x f=true)(k:∀o k u1,f o k=true→P (.Subscript o k u1)):P x:=iV h λe U=>PySem.Expr.Subscript.elim (motive_1:=λx=>wh x f=true→P x) x e k h
@[elab_as_elim] theorem EP{x:PySem.Expr}{P:PySem.Expr→Prop}{f:(Option Expr)→(Option Expr)→(Option Expr)→Bool}(h:zf x f=true)(k:∀a b c u1,f a b c=true→P (.Slice a b c u1)):P x:=iV h λe U=>PySem.Expr.Slice.elim (motive_1:=λx=>zf x f=true→P x) x e k h
@[elab_as_elim] theorem call_k{x:PySem.Expr}{P:PySem.Expr→Prop}{f:Expr→(List Expr)→(List Keyword)→Pos→Bool}(h:xv x f=true)(k:∀g es ks p,f g es ks p=true→P (.Call g es ks p)):P x:=iV h λe U=>PySem.Expr.Call.elim (motive_1:=λx=>xv x f=true→P x) x e k h
@[elab_as_elim] theorem Xu{x:PySem.Expr}{P:PySem.Expr→Prop}{f:Expr→Operator→Expr→Bool}(h:Ek x f=true)(k:∀l o r u1,f l o r=true→P (.BinOp l o r u1)):P x:=iV h λe U=>PySem.Expr.BinOp.elim (motive_1:=λx=>Ek x f=true→P x) x e k h
@[elab_as_elim] theorem LC{x:PySem.Expr}{P:PySem.Expr→Prop}{f:UnaryOp→Expr→Bool}(h:Bk x f=true)(k:∀o l u1,f o l=true→P (.UnaryOp o l u1)):P x:=iV h λe U=>PySem.Expr.UnaryOp.elim (motive_1:=λx=>Bk x f=true→P x) x e k h
@[elab_as_elim] theorem Xv{x:PySem.Expr}{P:PySem.Expr→Prop}{f:Expr→(List CmpOp)→(List Expr)→Bool}(h:El x f=true)(k:∀l os rs u1,f l os rs=true→P (.Compare l os rs u1)):P x:=iV h λe U=>PySem.Expr.Compare.elim (motive_1:=λx=>El x f=true→P x) x e k h
@[elab_as_elim] theorem Xw{x:PySem.Expr}{P:PySem.Expr→Prop}{f:BoolOp→(List Expr)→Pos→Bool}(h:Em x f=true)(k:∀o vs p,f o vs p=true→P (.BoolOp o vs p)):P x:=iV h λe U=>PySem.Expr.BoolOp.elim (motive_1:=λx=>Em x f=true→P x) x e k h
@[elab_as_elim] theorem Xx{x:PySem.Expr}{P:PySem.Expr→Prop}{f:Expr→Expr→Expr→Bool}(h:En x f=true)(k:∀q l r u1,f q l r=true→P (.IfExp q l r u1)):P x:=iV h λe U=>PySem.Expr.IfExp.elim (motive_1:=λx=>En x f=true→P x) x e k h
@[elab_as_elim] theorem Xy{x:PySem.Expr}{P:PySem.Expr→Prop}{f:(List Expr)→Bool}(h:Eo x f=true)(k:∀l u1,f l=true→P (.List l u1)):P x:=iV h λe U=>PySem.Expr.List.elim (motive_1:=λx=>Eo x f=true→P x) x e k h
@[elab_as_elim] theorem ER{x:PySem.Expr}{P:PySem.Expr→Prop}{f:(List Expr)→Bool}(h:zg x f=true)(k:∀l u1 u2,f l=true→P (.Tuple l u1 u2)):P x:=iV h λe U=>PySem.Expr.Tuple.elim (motive_1:=λx=>zg x f=true→P x) x e k h
@[elab_as_elim] theorem Xz{x:PySem.Expr}{P:PySem.Expr→Prop}{f:(List (Option Expr))→(List Expr)→Bool}(h:Ep x f=true)(k:∀ks vs u1,f ks vs=true→P (.Dict ks vs u1)):P x:=iV h λe U=>PySem.Expr.Dict.elim (motive_1:=λx=>Ep x f=true→P x) x e k h
@[elab_as_elim] theorem XA{x:PySem.Expr}{P:PySem.Expr→Prop}{f:Expr→Int→(Option Expr)→Bool}(h:Er x f=true)(k:∀l c s u1,f l c s=true→P (.FormattedValue l c s u1)):P x:=iV h λe U=>PySem.Expr.FormattedValue.elim (motive_1:=λx=>Er x f=true→P x) x e k h
@[elab_as_elim] theorem XC{x:PySem.Expr}{P:PySem.Expr→Prop}{f:(List Expr)→Bool}(h:Es x f=true)(k:∀l u1,f l=true→P (.JoinedStr l u1)):P x:=iV h λe U=>PySem.Expr.JoinedStr.elim (motive_1:=λx=>Es x f=true→P x) x e k h
@[elab_as_elim] theorem XD{x:PySem.Expr}{P:PySem.Expr→Prop}{f:Expr→(List Comprehension)→hU→Bool}(h:Bl x f=true)(k:∀e gs sc u1,f e gs sc=true→P (.ListComp e gs sc u1)):P x:=iV h λe U=>PySem.Expr.ListComp.elim (motive_1:=λx=>Bl x f=true→P x) x e k h
@[elab_as_elim] theorem XE{x:PySem.Expr}{P:PySem.Expr→Prop}{f:Arguments→Expr→hU→Pos→Bool}(h:Et x f=true)(k:∀a b sc p,f a b sc p=true→P (.Lambda a b sc p)):P x:=iV h λe U=>PySem.Expr.Lambda.elim (motive_1:=λx=>Et x f=true→P x) x e k h
@[elab_as_elim] theorem LD{x:PySem.Stmt}{P:PySem.Stmt→Prop}{f:Expr→Bool}(h:Eu x f=true)(k:∀x u1,f x=true→P (.Expr x u1)):P x:=iV h λe U=>PySem.Stmt.Expr.elim (motive_2:=λx=>Eu x f=true→P x) x e k h
@[elab_as_elim] theorem LF{x:PySem.Stmt}{P:PySem.Stmt→Prop}{f:(List Expr)→Expr→Bool}(h:Bm x f=true)(k:∀ts x u1,f ts x=true→P (.Assign ts x u1)):P x:=iV h λe U=>PySem.Stmt.Assign.elim (motive_2:=λx=>Bm x f=true→P x) x e k h
@[elab_as_elim] theorem LG{x:PySem.Stmt}{P:PySem.Stmt→Prop}{f:Expr→Operator→Expr→Bool}(h:Bn x f=true)(k:∀y o v u1,f y o v=true→P (.AugAssign y o v u1)):P x:=iV h λe U=>PySem.Stmt.AugAssign.elim (motive_2:=λx=>Bn x f=true→P x) x e k h
@[elab_as_elim] theorem XF{x:PySem.Stmt}{P:PySem.Stmt→Prop}{f:Expr→(List Stmt)→(List Stmt)→Bool}(h:Ew x f=true)(k:∀q x y u1,f q x y=true→P (.If q x y u1)):P x:=iV h λe U=>PySem.Stmt.If.elim (motive_2:=λx=>Ew x f=true→P x) x e k h
@[elab_as_elim] theorem XG{x:PySem.Stmt}{P:PySem.Stmt→Prop}{f:Expr→(List Stmt)→(List Stmt)→Bool}(h:Ex x f=true)(k:∀q x y u1,f q x y=true→P (.While q x y u1)):P x:=iV h λe U=>PySem.Stmt.While.elim (motive_2:=λx=>Ex x f=true→P x) x e k h
@[elab_as_elim] theorem XH{x:PySem.Stmt}{P:PySem.Stmt→Prop}{f:Expr→Expr→(List Stmt)→(List Stmt)→Bool}(h:Ey x f=true)(k:∀y i x z u1,f y i x z=true→P (.For y i x z u1)):P x:=iV h λe U=>PySem.Stmt.For.elim (motive_2:=λx=>Ey x f=true→P x) x e k h
@[elab_as_elim] theorem XI{x:PySem.Stmt}{P:PySem.Stmt→Prop}{f:(Option Expr)→Bool}(h:Ez x f=true)(k:∀x u1,f x=true→P (.Return x u1)):P x:=iV h λe U=>PySem.Stmt.Return.elim (motive_2:=λx=>Ez x f=true→P x) x e k h
@[elab_as_elim] theorem XJ{x:PySem.Stmt}{P:PySem.Stmt→Prop}{f:Pos→Bool}(h:EB x f=true)(k:∀p,f p=true→P (.Break p)):P x:=iV h λe U=>PySem.Stmt.Break.elim (motive_2:=λx=>EB x f=true→P x) x e k h
@[elab_as_elim] theorem XK{x:PySem.Stmt}{P:PySem.Stmt→Prop}{f:Pos→Bool}(h:EC x f=true)(k:∀p,f p=true→P (.Continue p)):P x:=iV h λe U=>PySem.Stmt.Continue.elim (motive_2:=λx=>EC x f=true→P x) x e k h
@[elab_as_elim] theorem XM{x:PySem.Stmt}{P:PySem.Stmt→Prop}{f:Pos→Bool}(h:ED x f=true)(k:∀p,f p=true→P (.Pass p)):P x:=iV h λe U=>PySem.Stmt.Pass.elim (motive_2:=λx=>ED x f=true→P x) x e k h
@[elab_as_elim] theorem XN{x:PySem.Stmt}{P:PySem.Stmt→Prop}{f:(List Stmt)→(List ExceptHandler)→(List Stmt)→(List Stmt)→Bool}(h:EE x f=true)(k:∀bd hs o fi u1,f bd hs o fi=true→P (.Try bd hs o fi u1)):P x:=iV h λe U=>PySem.Stmt.Try.elim (motive_2:=λx=>EE x f=true→P x) x e k h
@[elab_as_elim] theorem XO{x:PySem.Stmt}{P:PySem.Stmt→Prop}{f:Arguments→(List Stmt)→(List Expr)→(Option Expr)→(List TypeParam)→hU→(Option hU)→Str→Pos→Bool}(h:EF x f=true)(k:∀u1 a body ds rt tp scope ts bind pos,f a body ds rt tp scope ts bind pos=true→P (.FunctionDef u1 a body ds rt tp scope ts bind pos)):P x:=iV h λe U=>PySem.Stmt.FunctionDef.elim (motive_2:=λx=>EF x f=true→P x) x e k h
structure tf(S:g8)(G:Top)(gA:Heap)(ck:Ck):Prop where
 FS:ly S gA
 F2:si S G gA
 hL:tV S 85073674658080482268389154181357764717
 nm:∀a,S.nm a=ug ck.nm a
 attr:∀x,ck.attr x=true→S.attr x=true
 consts:∀x v,ck.consts.lookup x=some v→∃w,G.val x=some w∧∀φ,VR φ w v
 range:G.val "range"=some (.type "range")
 enum:G.val "enumerate"=some (.type "enumerate")
 key:G.val "KeyError"=some (.type "KeyError")
 idx:G.val "IndexError"=some (.type "IndexError")
 tabs:∀sc ta,ck.tab sc=some ta→xp S G gA sc ta
 nest:∀k args body scope,ck.nest k args body scope=true→∃fd,i3 S.P.nested k=some fd∧∀name qual cl pm cdv ct,S.FK (uf name qual args body scope G.glob cl pm cdv ct .none) fd
 we:∀sc,ck.we sc=true→S.lR sc=none
section
variable{S:g8}{G:Top}{gA:Heap}{ck:Ck}
def XQ(S:g8)(G:Top)(gA:Heap)(sc:hU)(H:Bool)(x:Expr)(f:VE):Prop:=zh x=true→∀(y:Expr)(p:Pos)(t:VT),isName y=true→GoodG S G gA sc H y t→kE S G gA sc H (.Assign [y] x p) (nN t f)
def Md.Good(S:g8)(G:Top)(gA:Heap)(sc:hU)(H:Bool)(m:Md)(f:VE):Prop:=match m with
 | .e x=>ib S G gA sc H x f∧XQ S G gA sc H x f
 | .t x=>kD S G gA sc H x f
 | .j l=>xe S G gA sc H l f
def EK.Good(S:g8)(G:Top)(gA:Heap)(sc:hU)(H:Bool)(m:EK)(f:VL):Prop:=match m with
 | .l es=>mu S G gA sc H es f
 | .p ks vs=>xf S G gA sc H ks vs f
 | .q ks vs=>∀k g,ib S G gA sc H k g→xf S G gA sc H (some k::ks) vs (nL g f)
theorem rC(HY:tf S G gA ck)(h:ck.is a x=true):S.nm a=some x:=(HY.nm a).trans (qZ (P:=λo=>o=some x) h λy e=>congrArg some (eq_of_beq e))
theorem oz(h:mK sc x k=true):sc.names.lookup x=some k:=eq_of_beq h
theorem xw(h:xu x=true):(x==("__debug__":Str))=false:=by
 exact jW h
theorem oY:∀{u v:AV},nU u v=true→u=v:=by
 intro u v h
 cases u<;>cases v<;>first|rfl|(cases h;done)|skip
 .exact congrArg AV.bool (eq_of_beq h)
 .exact congrArg AV.int (eq_of_beq h)
 .exact congrArg AV.str (mH h)
 .exact congrArg AV.ref (Ad.eq_iff.mp h)
theorem ES(HY:tf S G gA ck)(h:Bj ck fr names=true):wd S.nm fr names:=gQ h λh1 h2=>⟨λn hn=>(List.any_eq_true.mp (kf.mp h1 n hn)).elim λa h=>⟨a,h.1,rC HY h.2⟩,λa ha=>by
 rw[HY.nm];exact qZ (P:=λo=>∃m∈freeNames names,o=some m) (kf.mp h2 a ha) λn h=>(List.any_eq_true.mp h).elim λm h=>⟨m,h.1,congrArg some (eq_of_beq h.2).symm⟩⟩
theorem XR{σ:gI}{v:AV}{it:It}(h:p7 σ v=some it):lz it=true:=by
 induction v with
 |str n=>exact gP h▸rfl
 |ref a=>
  have h:(hG none (yk a) (σ.get a):Option It)=some it:=h
  induction e:σ.get a with
  |none=>rw[e]at h;exact gV h
  |some ob=>rw[e]at h;cases ob<;>first|exact gV h|exact gP h▸rfl
 |_=>exact gV h
theorem ET{u:II}(h:EG u=true):∀K ρ κ σ I σ',dI u K ρ κ σ= .ok I σ'→lz I=true:=by
 intro K ρ κ σ I σ' e
 cases u with
 |range as=>
  refine jA (sY (show(dL as K ρ κ σ).bind (λvs σ=>go (vT vs) 24 λxs=>R.ok (It.vals xs) σ)= .ok I σ' from e)) λvs σ1 U e2=>?_
  induction hr:vT vs with
  |none=>rw[hr]at e2;exact stk e2
  |some xs=>rw[hr]at e2;exact(R.ok.inj e2).1▸rfl
 |val f=>
  refine jA (sY (show(dE f K ρ κ σ).bind (λv σ=>go (p7 σ v) 23 λit=>R.ok it σ)= .ok I σ' from e)) λv σ1 U e2=>?_
  induction hr:p7 σ1 v with
  |none=>rw[hr]at e2;exact stk e2
  |some it=>rw[hr]at e2;exact(R.ok.inj e2).1▸XR hr
 |_=>exact gU h
theorem Bq{sc:hU}{x:Str}{n:String}(h:zd sc x n=true){P:Str→Prop}(k:sc.names.lookup (n:Str)=some .globalImplicit→P n):P x:=gQ h λh1 h2=>by
 have e:=eq_of_beq h1;subst e;exact k (oz h2)
theorem XS(HY:tf S G gA ck){sc:hU}{key idx:Bool}{t:Expr}(h:Lw sc key idx t=true):sx G sc t key idx:=oQ h (λh=>rB h λx p h=>oQ h
 (λh=>gQ h λh1 h=>gQ h λh2 h3=>Bq h1 (P:=λx=>sx G sc (.Name x p) key idx) λh4=>.inl ⟨p,rfl,⟨h4,HY.key,by decide⟩,h2,jW h3⟩)
 (λh=>gQ h λh1 h=>gQ h λh2 h3=>Bq h1 (P:=λx=>sx G sc (.Name x p) key idx) λh4=>.inr (.inl ⟨p,rfl,⟨h4,HY.idx,by decide⟩,jW h2,h3⟩)))
 λh=>ER h λes k pos h=>lP h λa r h=>lP h λb r h=>jX h λh=>rB h λx p h=>rB h λy q h=>gQ h λh1 h=>gQ h λh2 h=>gQ h λh3 h4=>
  Bq h1 (P:=λx=>sx G sc (.Tuple [.Name x p,.Name y q] k pos) key idx) λh5=>Bq h2 (P:=λy=>sx G sc (.Tuple [.Name "IndexError" p,.Name y q] k pos) key idx) λh6=>.inr (.inr ⟨p,q,k,pos,rfl,⟨h5,HY.idx,by decide⟩,⟨h6,HY.key,by decide⟩,h3,h4⟩)
theorem LH(HY:tf S G gA ck)(h:Ei ck sc ta=true):xp S G gA sc ta:=HY.tabs sc ta (qZ (P:=λo=>o=some ta) h λa e=>congrArg some (Ad.eq_iff.mp e))
theorem LJ{x:IE}{f:AV→Bool}{P:IE→Prop}(h:EH x f=true)(k:∀v,f v=true→P (.const v)):P x:=by cases x<;>first|exact k _ h|exact gU h
theorem XT(h:EI c=true):ue S G gA sc H [] (dE c):=LJ (P:=λc=>ue S G gA sc H [] (dE c)) h λv h=>by rw[oY h];exact .inl ⟨rfl,rfl⟩
theorem XU(h:noStar e=true):jZ [e]=true:=by
 unfold jZ;rw[List.all_cons,h];rfl
end
section
variable{α:Type}{C:Prop}
section
variable{x:Expr}{P:Expr→Prop}
@[elab_as_elim] theorem zm{f:Str→List Expr→Bool}(h:zj x f=true)(k:∀n q es p,f n es=true→P (.Call (.Name n q) es [] p)):P x:=
 call_k h λg es ks p h=>jX h λh=>rB h λn q h=>k n q es p h
end
@[elab_as_elim] theorem LK{a:Arguments}{f:List Arg→Bool}{P:Arguments→Prop}(h:EJ a f=true)(k:∀as,f as=true→P ⟨[],as,none,[],[],none,[]⟩):P a:=by
 obtain⟨a1,a2,a3,a4,a5,a6,a7⟩:=a;exact jX (P:=λa1=>P ⟨a1,a2,a3,a4,a5,a6,a7⟩) h λh=>m9 (P:=λa3=>P ⟨[],a2,a3,a4,a5,a6,a7⟩) h λh=>jX (P:=λa4=>P ⟨[],a2,none,a4,a5,a6,a7⟩) h λh=>jX (P:=λa5=>P ⟨[],a2,none,[],a5,a6,a7⟩) h λh=>m9 (P:=λa6=>P ⟨[],a2,none,[],[],a6,a7⟩) h λh=>jX (P:=λa7=>P ⟨[],a2,none,[],[],none,a7⟩) h λh=>k a2 h
end
section
variable{S:g8}{G:Top}{gA:Heap}{ck:Ck}(HY:tf S G gA ck){sc:hU}{H:Bool}{m:Md}
def SE(S:g8)(G:Top)(gA:Heap)(c:CE)(f:VE):Prop:=∀sc H m,c sc H m=true→m.Good S G gA sc H f
def SL(S:g8)(G:Top)(gA:Heap)(c:CL)(f:VL):Prop:=∀sc H m,c sc H m=true→m.Good S G gA sc H f
def SG(S:g8)(G:Top)(gA:Heap)(c:CT)(f:VT):Prop:=∀sc H x,c sc H x=true→GoodG S G gA sc H x f
def xx(S:g8)(G:Top)(gA:Heap)(c:nV)(f:l8):Prop:=∀sc H x,c sc H x=true→yL S G gA sc H x f
def SI(S:g8)(G:Top)(gA:Heap)(c:CT)(f:VI):Prop:=∀sc H x,c sc H x=true→tc S G gA sc H x f
def SS(S:g8)(G:Top)(gA:Heap)(c:CS)(f:VS):Prop:=∀sc H x,c sc H x=true→kE S G gA sc H x f
def SB(S:g8)(G:Top)(gA:Heap)(c:CB)(f:VS):Prop:=∀sc H x,c sc H x=true→nR S G gA sc H x f
theorem zp{F:Bool→Expr→Bool}{g:VE}(h:m.own F=true)(k:∀t x,F t x=true→match t with|true=>kD S G gA sc H x g|false=>ib S G gA sc H x g):m.Good S G gA sc H g:=by
 cases m with
 |e x=>exact gQ h λh1 h2=>⟨k false x h2,λe=>by rw[jW h1]at e;exact gU e⟩
 |t x=>exact gQ h λh1 h2=>k true x h2
 |j l=>exact gU h
include HY in
theorem lD{F:Expr→Bool}{g:VE}(h:m.at F=true)(k:∀x,F x=true→ib S G gA sc H x g):m.Good S G gA sc H g:=
 zp h λt x h=>gQ h λh1 h2=>by
  cases t with
  |false=>exact k x h2
  |true=>exact J4 HY.FS HY.hL (k x h2) h1
theorem SE.e{c:CE}{f:VE}(z:SE S G gA c f){x:Expr}(h:c sc H (.e x)=true):ib S G gA sc H x f:=(z sc H (.e x) h).1
theorem SE.t{c:CE}{f:VE}(z:SE S G gA c f){x:Expr}(h:c sc H (.t x)=true):kD S G gA sc H x f:=z sc H (.t x) h
theorem SE.of{c:CE}{f:VE}(z:SE S G gA c f){t:Bool}{x:Expr}(h:c sc H (.of t x)=true):match t with|true=>kD S G gA sc H x f|false=>ib S G gA sc H x f:=by
 cases t
 .exact z.e h
 .exact z.t h
theorem SE.j{c:CE}{f:VE}(z:SE S G gA c f){l:List Expr}(h:c sc H (.j l)=true):xe S G gA sc H l f:=z sc H (.j l) h
theorem SL.l{c:CL}{f:VL}(z:SL S G gA c f){l:List Expr}(h:c sc H (.l l)=true):mu S G gA sc H l f:=z sc H (.l l) h
theorem XW{v:AV}{c:Const}{n:Nat}{p:Pos}(h:kstB v c=true):ib S G gA sc H (.Constant c n p) (lO v):=by
 cases c with
 |none=>rw[oY h];exact good_none
 |bool b=>rw[oY h];exact good_bool
 |int i=>rw[oY h];exact good_int
 |str x=>
  exact iV h λe U=>AV.str.elim (motive:=λv=>(on v.ctorIdx 3 λe=>AV.str.elim (motive:=λU=>Bool) v e λn=>uh x n)=true→ib S G gA sc H (.Constant (.str x) n p) (lO v)) v e (λk h=>good_str (mv h)) h
 |_=>exact gU h
include HY in
theorem LM(v:AV):SE S G gA (ui ck v) (lO v):=λsc H m h=>oQ h (λh=>by
 cases m with
 |j l=>exact jX h λh=>by rw[oY h];exact UE
 |_=>exact gU h) λh=>lD HY h λx h=>oQ h (λh=>Xs h λc n p h=>XW h) λh=>rB h λn p h=>gQ h λh1 h=>gQ h λh2 h=>by
  cases e:ck.consts.lookup n with
  |none=>rw[e]at h;exact gU h
  |some u=>
   rw[e]at h;refine gW (HY.consts n u e) λw k1 k2=>?_;rw[oY (show nU v u=true from h)];exact TI (oz h1) (xw h2) k1 k2
include HY in
theorem LN(a:Ad):SE S G gA (uj ck a) (p8 a):=λsc H m h=>lD HY h λx h=>rB h λn p h=>gQ h λh1 h=>gQ h λh2 h3=>RM (oz h1) (rC HY h2) (xw h3)
include HY in
theorem LO(a:Ad):SE S G gA (uk ck a) (p9 a):=λsc H m h=>lD HY h λx h=>rB h λn p h=>gQ h λh1 h=>gQ h λh2 h=>gQ h λh3 h4=>RN ((CV h1).imp oz oz) (rC HY h2) (xw h3) (jW h4)
include HY in
theorem LP{c:CE}{f:VE}(z:SE S G gA c f)(a:Ad):SE S G gA (um ck c a) (qa f a):=λsc H m h=>lD HY h λx h=>zk h λo n p h=>gQ h λh1 h=>gQ h λh2 h=>gQ h λh3 h4=>Tc HY.FS (z.e h1) h2 (rC HY h3) (HY.attr _ h4)
include HY in
theorem LQ{c d:CE}{f g:VE}(z:SE S G gA c f)(y:SE S G gA d g):SE S G gA (uo c d) (qb f g):=λsc H m h=>lD HY h λx h=>zl h λo n p h=>gQ h λh1 h=>gQ h λh2 h3=>Te (z.e h1) (y.e h2) h3
include HY in
theorem LR{c:CE}{f:VE}(z:SE S G gA c f):SE S G gA (uq c) (qc f):=λsc H m h=>lD HY h λx h=>zl h λo i p h=>EP h λa b c q h=>m9 h λh=>m9 h λh=>m9 h λh=>Tf (z.e h)
include HY in
theorem LS{c d:CE}{f g:VE}(z:SE S G gA c f)(y:SE S G gA d g):SE S G gA (ur c d) (qe f g):=λsc H m h=>lD HY h λx h=>zl h λo i p h=>EP h λa b c q h=>qZ h λa h=>m9 h λh=>m9 h λh=>gQ h λh1 h2=>Tg (z.e h1) (y.e h2)
include HY in
theorem LU{c d:CE}{f g:VE}(z:SE S G gA c f)(y:SE S G gA d g):SE S G gA (uu c d) (qg f g):=λsc H m h=>lD HY h λx h=>zl h λo i p h=>EP h λa b c q h=>m9 h λh=>qZ h λb h=>m9 h λh=>gQ h λh1 h2=>Th (z.e h1) (y.e h2)
include HY in
theorem LV(k:Nat){c:CL}{f:VL}(z:SL S G gA c f):SE S G gA (nr k c) (qh k f):=λsc H m h=>lD HY h λx h=>zm h λn q es p h=>gQ h λh1 h=>gQ h λh2 h=>gQ h λh3 h=>gQ h λh4 h=>gQ h λh5 h6=>TM HY.F2 (oz h1) (xw h2) (mv h3) h4 (z.l h5) h6
include HY in
theorem LX(k:Nat){c:CL}{f:VL}(z:SL S G gA c f):SE S G gA (nr k c) (qi k f):=λsc H m h=>lD HY h λx h=>zm h λn q es p h=>gQ h λh1 h=>gQ h λh2 h=>gQ h λh3 h=>gQ h λh4 h=>gQ h λh5 h6=>Um HY.FS HY.F2 (oz h1) (xw h2) (mv h3) h4 (z.l h5) h6
include HY in
theorem LY(b:BI){c:CL}{f:VL}(z:SL S G gA c f):SE S G gA (uv b c) (qj b f):=λsc H m h=>lD HY h λx h=>zm h λn q es p h=>gQ h λh1 h=>gQ h λh2 h=>gQ h λh3 h=>gQ h λh4 h=>gQ h λh5 h6=>Ue HY.FS HY.F2 (oz h1) (xw h2) (eq_of_beq h3) h4 (z.l h5) h6
include HY in
theorem LZ{d:CE}{g:VE}(y:SE S G gA d g){c:CL}{f:VL}(z:SL S G gA c f):SE S G gA (uw d c) (pj g f):=λsc H m h=>lD HY h λx h=>call_k h λv es ks p h=>jX h λh=>gQ h λh0 h=>rB h0 (P:=λv=>(d sc H (.e v)&&(H&&(c sc H (.l es)&&jZ es)))=true→ib S G gA sc H (.Call v es [] p) (pj g f)) (λn q U h=>gQ h λh1 h=>gQ h λh2 h=>gQ h λh3 h4=>TN (y.e h1) h2 (z.l h3) h4) h
include HY in
theorem L0{d:CE}{g:VE}(y:SE S G gA d g)(k:Nat){c:CL}{f:VL}(z:SL S G gA c f):SE S G gA (ux d k c) (ql g k f):=λsc H m h=>lD HY h λx h=>call_k h λv es ks p h=>jX h λh=>zk h λo n q h=>gQ h λh1 h=>gQ h λh2 h=>gQ h λh3 h=>gQ h λh4 h=>gQ h λh5 h=>gQ h λh6 h=>gQ h λh7 h8=>Ua HY.FS HY.F2 (y.e h1) h2 (mv h3) h4 (z.l h5) h6 (kT h7) h8
include HY in
theorem L4(op:Op){c d:CE}{f g:VE}(z:SE S G gA c f)(y:SE S G gA d g):SE S G gA (uy op c d) (qm op f g):=λsc H m h=>lD HY h λx h=>Xu h λl o r p h=>gQ h λh1 h=>gQ h λh2 h3=>Tj (z.e h1) (y.e h2) h3 λI hx hy hu=>Uq I hx hy hu
include HY in
theorem L5{c:CE}{f:VE}(z:SE S G gA c f):SE S G gA (uz c) (qn f):=λsc H m h=>lD HY h λx h=>LC h λo l p h=>yn h λh=>Tn (z.e h)
include HY in
theorem L6{c:CE}{f:VE}(z:SE S G gA c f):SE S G gA (uA c) (pk f):=λsc H m h=>zp h λt x h=>LC h λo l p h=>yn h λh=>by
 cases t
 .exact To (z.e h) HY.FS HY.hL
 .exact Tz (z.t h)
include HY in
theorem L7(op:Cp){c d:CE}{f g:VE}(z:SE S G gA c f)(y:SE S G gA d g):SE S G gA (uB op c d) (pq op f g):=λsc H m h=>zp h λt x h=>Xv h λl os rs p h=>lP h λo os h=>by
 refine lP h λr rs h=>?_
 cases os with
 |cons=>exact gU h
 |nil=>
  cases rs with
  |cons=>exact gU h
  |nil=>
   refine gQ h λU h=>gQ h λU h=>gQ h λh1 h=>gQ h λh2 h=>gQ h λh3 h4=>?_
   cases t
   .exact Tq (z.e h1) (y.e h2) h3 (jW h4)
   .exact Tr HY.FS HY.hL (z.e h1) (y.e h2) h3 (jW h4)
theorem L8{o:BoolOp}{c d:CE}{f g k:VE}(z:SE S G gA c f)(y:SE S G gA d g)(hE:∀{x y r p},ib S G gA sc H x f→ib S G gA sc H (.BoolOp o (y::r) p) g→ib S G gA sc H (.BoolOp o (x::y::r) p) k)(hT:∀{x y r p},kD S G gA sc H x f→kD S G gA sc H (.BoolOp o (y::r) p) g→kD S G gA sc H (.BoolOp o (x::y::r) p) k)(h:EL o c d sc H m=true):m.Good S G gA sc H k:=zp h λt x h=>by
 refine Xw h λo' vs p h=>yn h λh=>?_
 cases vs with
 |nil=>exact gU h
 |cons x vs=>
  cases vs with
  |nil=>exact gU h
  |cons y r=>
   refine gQ h λh1 h2=>?_;have a1:=z.of h1
   cases t with
   |false=>
    refine hE a1 ?_
    cases r with
    |nil=>exact Tu (SE.e ‹SE S G gA d g› h2)
    |cons w r=>exact SE.e ‹SE S G gA d g› h2
   |true=>
    refine hT a1 ?_
    cases r with
    |nil=>exact Tx (SE.t ‹SE S G gA d g› h2)
    |cons w r=>exact SE.t ‹SE S G gA d g› h2
include HY in
theorem L9{c d:CE}{f g:VE}(z:SE S G gA c f)(y:SE S G gA d g):SE S G gA (uC c d) (oh f g):=λsc H m h=>L8 z y (λa b=>J5 (op:=.And) HY.FS HY.hL a b) (λa b=>J6 (op:=.And) a b) h
include HY in
theorem Ma{c d:CE}{f g:VE}(z:SE S G gA c f)(y:SE S G gA d g):SE S G gA (uD c d) (oj f g):=λsc H m h=>L8 z y (λa b=>J5 (op:=.Or) HY.FS HY.hL a b) (λa b=>J6 (op:=.Or) a b) h
theorem Mb{c d e:CE}{f g k:VE}(z:SE S G gA c f)(y:SE S G gA d g)(w:SE S G gA e k):SE S G gA (uE c d e) (pv f g k):=λsc H m h=>zp h λt x h=>Xx h λq l r p h=>gQ h λh1 h=>gQ h λh2 h3=>by
 cases t
 .exact TA (z.t h1) (y.e h2) (w.e h3)
 .exact TB (z.t h1) (y.t h2) (w.t h3)
include HY in
theorem Mc{c:CL}{f:VL}(z:SL S G gA c f):SE S G gA (uF c) (qo f):=λsc H m h=>lD HY h λx h=>Xy h λl p h=>TG (z.l h)
include HY in
theorem Me{c:CL}{f:VL}(z:SL S G gA c f):SE S G gA (uG c) (qp f):=λsc H m h=>lD HY h λx h=>ER h λl n p h=>TH (z.l h)
include HY in
theorem Mf(es:i9){c:CL}(z:SL S G gA c (dL es)):SE S G gA (uH es c) (oM (dL es)):=λsc H m h=>lD HY h λx h=>Xz h λks vs p h=>oQ h (λh=>jX h λh=>jX h λh=>by
 cases es with|nil=>exact UR|cons=>exact gU h)
 λh=>lP h λk kr h=>qZ h λk h=>lP h λv vr h=>gQ h λh1 h=>gQ h λh2 h=>gQ h λh3 h4=>US (z sc H (.p _ _) h1) h2 (of_decide_eq_true h3) (kT h4)
include HY in
theorem Mg{c:CE}{f:VE}(z:SE S G gA c f):SE S G gA (uI c) (qq f):=λsc H m h=>lD HY h λx h=>XA h λl c s p h=>yn h λh=>m9 h λh=>UD (z.e h)
theorem Mh{c d:CE}{f g:VE}(z:SE S G gA c f)(y:SE S G gA d g):SE S G gA (uJ c d) (pw f g):=λsc H m h=>by
 cases m with
 |j l=>exact lP h λe l h=>gQ h λh1 h2=>UI (z.e h1) (y.j h2)
 |_=>exact gU h
include HY in
theorem Mi{c:CE}{f:VE}(z:SE S G gA c f):SE S G gA (uK c) (qs f):=λsc H m h=>lD HY h λx h=>XC h λl p h=>by
 cases l with
 |nil=>exact gU h
 |cons a l=>
  cases l with
  |nil=>exact gU h
  |cons b l=>exact gQ h λh1 h2=>UK (z.j h1) (kT h2)
theorem XX{c:IE}{d:CE}(y:SE S G gA d (dE c)){ifs:List Expr}(h:((ifs.isEmpty&&EI c)||jS ifs λq qr=>qr.isEmpty&&d sc H (.t q))=true):ue S G gA sc H ifs (dE c):=oQ h (λh=>jX h XT) λh=>lP h λq qr h=>jX h λh=>.inr ⟨q,rfl,y.t h⟩
include HY in
theorem Mj{e ic:CE}{t it:CT}{c iw}{g:VE}{f:VT}(ze:SE S G gA e g)(zt:SG S G gA t f)(zi:SI S G gA it (dI iw))(zc:SE S G gA ic (dE c))(fr:List Ad){x:Expr}(h:EM ck e t it c ic iw fr sc H x=true):(Md.e x).Good S G gA sc H (mf g f (dI iw) (dE c) fr):=
 XD h λelt gs scope pos h=>lP h λgn gr h=>jX h λh=>by
  obtain⟨ta,XY,ifs,as⟩:=gn;refine yn (P:=λas=>(Md.e (.ListComp elt [⟨ta,XY,ifs,as⟩] scope pos)).Good S G gA sc H (mf g f (dI iw) (dE c) fr)) h λh=>?_;refine gQ h λh1 h=>gQ h λh2 h=>gQ h λh3 h=>gQ h λh4 h=>gQ h λh5 h=>gQ h λh6 h=>gQ h λh7 h=>gQ h λh8 h=>gQ h λh9 Mk=>?_;have hf:=ES HY h2;have ht:=zt _ H _ h3;have he:=ze.e h4;have hc:=XX zc h5;have hi:=zi _ H _ h6;refine⟨KZ h1 hf ht he hc hi h7 (jW h8) (HY.we _ h9) (ET Mk),λU y p t hy hg=>?_⟩
  cases y with
  |Name n q=>exact WD hg h1 hf ht he hc hi h7 (jW h8) (HY.we _ h9) (ET Mk)
  |_=>exact gU hy
include HY in
theorem Ml{e ic:CE}{t it:CT}{g:VE}{f:VT}(ze:SE S G gA e g)(zt:SG S G gA t f){iw:II}(zi:SI S G gA it (dI iw))(c:IE)(zc:SE S G gA ic (dE c))(fr:List Ad):SE S G gA (uL ck e t it c ic iw fr) (mf g f (dI iw) (dE c) fr):=λsc H m h=>by
 cases m with
 |e x=>exact Mj HY ze zt zi zc fr h
 |t x=>exact gQ h λh1 h2=>J4 HY.FS HY.hL (Mj HY ze zt zi zc fr h2).1 h1
 |j l=>exact gU h
include HY in
theorem Mm(k:Nat)(ta:Ad)(pn:Nat)(fr:List Ad):SE S G gA (uM ck k ta pn fr) (qt k ta pn fr):=λsc H m h=>lD HY h λx h=>XE h λa b scope pos h=>LK h λas h=>gQ h λh1 h=>gQ h λh2 h=>gQ h λh3 h4=>by
 refine gW (HY.nest _ _ _ _ h4) λfd k1 k2=>?_;exact W6 (LH HY h1) (mH h2) (ES HY h3) k1 (λqual cl pm cdv ct=>k2 _ qual cl pm cdv ct)
theorem Mn:SL S G gA uN nK:=λsc H m h=>by
 cases m with
 |l es=>
  cases es with
  |nil=>exact J8
  |cons=>exact gU h
 |p ks vs=>
  cases ks with
  |cons=>exact gU h
  |nil=>
   cases vs with
   |nil=>exact UP
   |cons=>exact gU h
 |q=>exact gU h
theorem Mo{c:CE}{f:VE}(z:SE S G gA c f){d:CL}{g:VL}(y:SL S G gA d g):SL S G gA (uO c d) (nL f g):=λsc H m h=>by
 cases m with
 |l es=>exact lP h λe r h=>gQ h λh1 h=>gQ h λh2 h3=>J9 (z.e h1) h2 (y.l h3)
 |p ks vs=>exact lP h λk kr h=>qZ h λk h=>gQ h λh1 h2=>y sc H (.q _ _) h2 k f (z.e h1)
 |q ks vs=>exact lP h λv vr h=>gQ h λh1 h2=>λk w hk=>UQ hk (z.e h1) (y sc H (.p _ _) h2)
include HY in
theorem Mp(a:Ad):SG S G gA (uP ck a) (qu a):=λsc H x h=>rB h λn p h=>gQ h λh1 h2=>UX (oz h1) (rC HY h2)
include HY in
theorem Mq(a:Ad):SG S G gA (uQ ck a) (pz a):=λsc H x h=>rB h λn p h=>gQ h λh1 h2=>UY (oz h1) (rC HY h2)
include HY in
theorem Mr{c:CE}{f:VE}(z:SE S G gA c f)(a:Ad):SG S G gA (uR ck c a) (qv f a):=λsc H x h=>zk h λo n p h=>gQ h λh1 h=>gQ h λh2 h3=>UZ HY.FS (z.e h1) (rC HY h2) (HY.attr _ h3)
theorem Ms{c d:CE}{f g:VE}(z:SE S G gA c f)(y:SE S G gA d g):SG S G gA (uS c d) (qw f g):=λsc H x h=>zl h λo k p h=>gQ h λh1 h2=>U0 (z.e h1) (y.e h2)
theorem Mt{c:nV}{f:l8}(z:xx S G gA c f)(n:Nat):SG S G gA (uT c n) (qx f n):=λsc H x h=>ER h λl k p h=>gQ h λh1 h=>gQ h λh2 h=>gQ h λh3 h4=>U7 (z sc H _ h1) h2 (mH h3) h4
theorem Mu:xx S G gA uU qy:=λsc H es h=>by
 cases es with
 |nil=>exact U2
 |cons=>exact gU h
theorem Mv{c:CT}{f:VT}(z:SG S G gA c f){d:nV}{g:l8}(y:xx S G gA d g):xx S G gA (uV c d) (qz f g):=λsc H es h=>lP h λe r h=>gQ h λh1 h=>gQ h λh2 h3=>U3 (z sc H _ h1) h2 (y sc H _ h3)
theorem Mw{c:CE}{f:VE}(z:SE S G gA c f):SI S G gA (uW c) (qB f):=λsc H x h=>gQ h λh1 h2=>We (z.e h1) h2
include HY in
theorem Mx{c:CL}{f:VL}(z:SL S G gA c f):SI S G gA (uX c) (qE f):=λsc H x h=>zm h λn q es p h=>gQ h λh1 h=>gQ h λh2 h=>gQ h λh3 h4=>by
 have e:=eq_of_beq h1;subst e;exact Wh (oz h2) HY.range (z.l h3) h4
include HY in
theorem My{c:CE}{f:VE}(z:SE S G gA c f):SI S G gA (uY c) (qI f):=λsc H x h=>zm h λn q es p h=>gQ h λh1 h=>gQ h λh2 h=>lP h λe r h=>jX h λh=>gQ h λh3 h4=>by
 have e:=eq_of_beq h1;subst e;exact Wi (oz h2) HY.enum (z.e h3) (XU h4) h4
theorem Mz{c:CE}{f:VE}(z:SE S G gA c f):SI S G gA (uZ c) (qJ f):=λsc H x h=>call_k h λg es ks p h=>jX h λh=>jX h λh=>zk h λo n q h=>gQ h λh1 h=>gQ h λh2 h=>gQ h λh3 h4=>by
 have e:=eq_of_beq h1;subst e;exact Wj (z.e h2) h3 h4
theorem MA{c:CE}{f:VE}(z:SE S G gA c f):SS S G gA (te c) (pA f):=λsc H s h=>LD h λx p h=>gQ h λh1 h2=>Kz (z.e h1) h2
theorem MB{t:CT}{g:VT}(zt:SG S G gA t g){c:CE}{f:VE}(z:SE S G gA c f){ts:List Expr}{x:Expr}{p:Pos}{P:List Expr→Prop}(h:EN t c sc H ts x=true)(k:∀y,c sc H (.e x)=true→GoodG S G gA sc H y g→(yN y=true∨xg x=true)→noStar y=true→P [y]):P ts:=
 lP h λy r h=>jX h λh=>gQ h λh1 h=>gQ h λh2 h=>gQ h λh3 h4=>k y h1 (zt sc H y h2) (CV h3) h4
theorem MC{t:CT}{g:VT}(zt:SG S G gA t g){c:CE}{f:VE}(z:SE S G gA c f):SS S G gA (u4 t c) (nN g f):=λsc H s h=>LF h λts x p h=>by
 refine gQ h λh h5=>?_;revert h5;refine MB zt z (p:=p) (P:=λts=>(s9 x||(zh x&&jS ts λy U=>isName y))=true→kE S G gA sc H (.Assign ts x p) (nN g f)) h λy h1 h2 h3 h4 h5=>oQ h5 (λh5=>KA (z.e h1) h2 (.inl h5) h3 h4) λh5=>gQ h5 λh6 h7=>(z sc H (.e x) h1).2 h6 y p g h7 h2
include HY in
theorem MD(a:Ad)(op:Op){c:CE}{f:VE}(z:SE S G gA c f):SS S G gA (u5 ck a op c) (qK a op f):=λsc H s h=>LG h λy o v p h=>rB h λn q h=>gQ h λh1 h=>gQ h λh2 h=>gQ h λh3 h4=>Vg (oz h1) (rC HY h2) (z.e h3) h4
include HY in
theorem ME{d:CE}{g:VE}(y:SE S G gA d g)(a:Ad)(op:Op){c:CE}{f:VE}(z:SE S G gA c f):SS S G gA (u6 ck d a op c) (qN g a op f):=λsc H s h=>LG h λx o v p h=>zk h λob n q h=>gQ h λh1 h=>gQ h λh2 h=>gQ h λh3 h=>gQ h λh4 h5=>Vh HY.FS (y.e h1) (z.e h4) (rC HY h2) (HY.attr _ h3) h5
theorem MF{c:CE}{f:VE}(z:SE S G gA c f){b o:CB}{g k:VS}(zb:SB S G gA b g)(zo:SB S G gA o k):SS S G gA (u7 c b o) (qO f g k):=λsc H s h=>XF h λq x y p h=>gQ h λh1 h=>gQ h λh2 h3=>Vf (z.t h1) (zb sc H _ h2) (zo sc H _ h3)
theorem MG{c:CE}{f:VE}(z:SE S G gA c f){b o:CB}{g k:VS}(zb:SB S G gA b g)(zo:SB S G gA o k):SS S G gA (u9 c b o) (pB f g k):=λsc H s h=>XG h λq x y p h=>gQ h λh1 h=>gQ h λh2 h3=>Vk (z.t h1) (zb sc H _ h2) (zo sc H _ h3)
theorem MH{t it:CT}{f:VT}(zt:SG S G gA t f){iw:II}(zi:SI S G gA it (dI iw)){b o:CB}{g k:VS}(zb:SB S G gA b g)(zo:SB S G gA o k):SS S G gA (va t it iw b o) (pC f (dI iw) g k):=λsc H s h=>XH h λy i x z p h=>gQ h λh1 h=>gQ h λh2 h=>gQ h λh3 h=>gQ h λh4 h=>gQ h λh5 h6=>V7 (zt sc H _ h1) (zi sc H _ h2) (zb sc H _ h3) (zo sc H _ h4) h5 ((CV h6).imp id λz=>ET z)
theorem MI(e:IE){c:CE}(z:SE S G gA c (dE e)):SS S G gA (vb e c) (om (dE e)):=λsc H s h=>XI h λx p h=>oQ h (λh=>m9 h λh=>by
 exact LJ (P:=λe=>kE S G gA sc H (.Return none p) (om (dE e))) h λv h=>by rw[oY h];exact Va) λh=>qZ h λx h=>U' (z.e h)
theorem MJ:SS S G gA vc qP:=λsc H s h=>XJ h λp h=>Vc
theorem MK:SS S G gA vd qS:=λsc H s h=>XK h λp h=>Vd
theorem ML:SS S G gA ve qU:=λsc H s h=>XM h λp h=>Vb
include HY in
@[elab_as_elim] theorem MM{key idx:Bool}{b:CB}{g:VS}(zb:SB S G gA b g){s:Stmt}{F:Stmt→Bool}{P:Stmt→Prop}(h:EO key idx b sc H s F=true)(k:∀x c b0 su hp p,F x=true→sx G sc c key idx→nR S G gA sc false (b0::su) g→isFn sc=true→H=true→P (.Try [x] [.ExceptHandler (some c) none (b0::su) hp] [] [] p)):P s:=XN h λbd hs o fi p h=>by
 refine jX h λh=>jX h λh=>lP h λx br h=>jX h λh=>gQ h λh1 h=>lP h λe hr h=>jX h λh=>?_
 cases e with
 |ExceptHandler c nm l q=>exact m9 h λh=>qZ h λc h=>lP h λb0 su h=>gQ h λh2 h=>gQ h λh3 h=>gQ h λh4 h5=>k x c b0 su q p h1 (XS HY h2) (zb sc false _ h3) h4 h5
include HY in
theorem MN{c:CE}{f:VE}(z:SE S G gA c f)(key idx:Bool){b:CB}{g:VS}(zb:SB S G gA b g):SS S G gA (vf c key idx b) (qW f key idx g):=λsc H s h=>MM HY zb h λx t b0 su hp p h1 h2 h3 h4 h5=>LD h1 λx q h1=>gQ h1 λh1 h6=>WU (z.e h1) h6 h2 h3 h4 h5
include HY in
theorem MO{t:CT}{k:VT}(zt:SG S G gA t k){c:CE}{f:VE}(z:SE S G gA c f)(key idx:Bool){b:CB}{g:VS}(zb:SB S G gA b g):SS S G gA (vg t c key idx b) (pD k f key idx g):=λsc H s h=>MM HY zb h λx tt b0 su hp p h1 h2 h3 h4 h5=>LF h1 λts x q h1=>gQ h1 λh1 h6=>MB zt z (p:=q) (P:=λts=>kE S G gA sc H (.Try [.Assign ts x q] [.ExceptHandler (some tt) none (b0::su) hp] [] [] p) (pD k f key idx g)) h1 λy a1 a2 a3 a4=>WT (z.e a1) a2 h6 a3 a4 h2 h3 h4 h5
include HY in
theorem MP{t:CT}{f:VT}(zt:SG S G gA t f)(k:Nat)(ta:Ad)(pn:Nat)(fr:List Ad):SS S G gA (vi ck t k ta pn fr) (qX f k ta pn fr):=λsc H s h=>XO h λn a body ds rt tp scope ts bind pos h=>by
 refine jX h λh=>m9 h λh=>jX h λh=>m9 h λh=>LK h λas h=>?_;refine gQ h λh1 h=>gQ h λh2 h=>gQ h λh3 h=>gQ h λh4 h=>gQ h λh5 h=>gQ h λh6 h7=>?_;refine gW (HY.nest _ _ _ _ h5) λfd k1 k2=>?_;exact W7 (zt sc H _ h1) (LH HY h2) (mH h3) (ES HY h4) k1 (λqual cl pm cdv ct=>k2 _ qual cl pm cdv ct) h6 h7
theorem MQ(w:Nat):SS S G gA (vj w) (oo w):=λsc H s h=>Ve
theorem MR:SB S G gA vk oN:=λsc H l h=>by
 cases l with
 |nil=>exact Kw
 |cons=>exact gU h
theorem MS{s:CS}{f:VS}(z:SS S G gA s f){b:CB}{g:VS}(zb:SB S G gA b g):SB S G gA (vl s b) (oO f g):=λsc H l h=>lP h λx y h=>gQ h λh1 h2=>Kx (z sc H x h1) (zb sc H y h2)
include HY in
theorem XZ:∀x:IE,SE S G gA (Bo ck x) (dE x):=@IE.rec (λx=>SE S G gA (Bo ck x) (dE x)) (λx=>SL S G gA (Lx ck x) (dL x)) (λx=>SG S G gA (Ly ck x) (dT x)) (λx=>xx S G gA (Lz ck x) (tQ x)) (λx=>SI S G gA (LA ck x) (dI x)) (λx=>SS S G gA (LB ck x) (dS x)) (λx=>SB S G gA (Bp ck x) (dB x))
 (λv=>LM HY v)
 (λx=>LN HY x)
 (λx=>LO HY x)
 (λU x e=>LP HY e x)
 (λU U e i=>LQ HY e i)
 (λU e=>LR HY e)
 (λU U e a=>LS HY e a)
 (λU U e b=>LU HY e b)
 (λk U as=>LV HY k as)
 (λk U as=>LX HY k as)
 (λb U as=>LY HY b as)
 (λU U e as=>LZ HY e as)
 (λU m U e as=>L0 HY e m as)
 (λop U U a b=>L4 HY op a b)
 (λU a=>L5 HY a)
 (λU a=>L6 HY a)
 (λop U U a b=>L7 HY op a b)
 (λU U a b=>L9 HY a b)
 (λU U a b=>Ma HY a b)
 (λU U U c a b=>Mb c a b)
 (λU es=>Mc HY es)
 (λU es=>Me HY es)
 (λmM es=>Mf HY mM es)
 (λU e=>Mg HY e)
 (λU U e r=>Mh e r)
 (λU r=>Mi HY r)
 (λU U U mN fr e t it c=>Ml HY e t it mN c fr)
 (λk ta pn fr=>Mm HY k ta pn fr)
 (Mn)
 (λU U e l=>Mo e l)
 (λx=>Mp HY x)
 (λx=>Mq HY x)
 (λU x e=>Mr HY e x)
 (λU U e i=>Ms e i)
 (λU n l=>Mt l n)
 (Mu)
 (λU U t l=>Mv t l)
 (λU e=>Mw e)
 (λU as=>Mx HY as)
 (λU e=>My HY e)
 (λU e=>Mz e)
 (λU e=>MA e)
 (λU U t e=>MC t e)
 (λx op U e=>MD HY x op e)
 (λU x op U o e=>ME HY o x op e)
 (λU U U c b o=>MF c b o)
 (λU U U c b o=>MG c b o)
 (λU U U U t it b o=>MH t it b o)
 (λmO e=>MI mO e)
 (MJ)
 (MK)
 (ML)
 (λU key idx U e h=>MN HY e key idx h)
 (λU U key idx U t e h=>MO HY t e key idx h)
 (λU k ta pn fr t=>MP HY t k ta pn fr)
 (λw=>MQ w)
 (MR)
 (λU U s l=>MS s l)
include HY in
theorem X5:∀x:g7,SB S G gA (Bp ck x) (dB x):=@g7.rec (λx=>SE S G gA (Bo ck x) (dE x)) (λx=>SL S G gA (Lx ck x) (dL x)) (λx=>SG S G gA (Ly ck x) (dT x)) (λx=>xx S G gA (Lz ck x) (tQ x)) (λx=>SI S G gA (LA ck x) (dI x)) (λx=>SS S G gA (LB ck x) (dS x)) (λx=>SB S G gA (Bp ck x) (dB x))
 (λv=>LM HY v)
 (λx=>LN HY x)
 (λx=>LO HY x)
 (λU x e=>LP HY e x)
 (λU U e i=>LQ HY e i)
 (λU e=>LR HY e)
 (λU U e a=>LS HY e a)
 (λU U e b=>LU HY e b)
 (λk U as=>LV HY k as)
 (λk U as=>LX HY k as)
 (λb U as=>LY HY b as)
 (λU U e as=>LZ HY e as)
 (λU m U e as=>L0 HY e m as)
 (λop U U a b=>L4 HY op a b)
 (λU a=>L5 HY a)
 (λU a=>L6 HY a)
 (λop U U a b=>L7 HY op a b)
 (λU U a b=>L9 HY a b)
 (λU U a b=>Ma HY a b)
 (λU U U c a b=>Mb c a b)
 (λU es=>Mc HY es)
 (λU es=>Me HY es)
 (λmM es=>Mf HY mM es)
 (λU e=>Mg HY e)
 (λU U e r=>Mh e r)
 (λU r=>Mi HY r)
 (λU U U mN fr e t it c=>Ml HY e t it mN c fr)
 (λk ta pn fr=>Mm HY k ta pn fr)
 (Mn)
 (λU U e l=>Mo e l)
 (λx=>Mp HY x)
 (λx=>Mq HY x)
 (λU x e=>Mr HY e x)
 (λU U e i=>Ms e i)
 (λU n l=>Mt l n)
 (Mu)
 (λU U t l=>Mv t l)
 (λU e=>Mw e)
 (λU as=>Mx HY as)
 (λU e=>My HY e)
 (λU e=>Mz e)
 (λU e=>MA e)
 (λU U t e=>MC t e)
 (λx op U e=>MD HY x op e)
 (λU x op U o e=>ME HY o x op e)
 (λU U U c b o=>MF c b o)
 (λU U U c b o=>MG c b o)
 (λU U U U t it b o=>MH t it b o)
 (λmO e=>MI mO e)
 (MJ)
 (MK)
 (ML)
 (λU key idx U e h=>MN HY e key idx h)
 (λU U key idx U t e h=>MO HY t e key idx h)
 (λU k ta pn fr t=>MP HY t k ta pn fr)
 (λw=>MQ w)
 (MR)
 (λU U s l=>MS s l)
end
theorem rD{l:List Bool}(h:l.all id=true):∀i,l.getD i true=true:=by
 induction l with
 |nil=>exact λU=>rfl
 |cons b l ih=>exact gQ (a:=b) h λh1 h2 i=>Nat.casesOn i h1 (ih h2)
theorem kG{α:Type}{o:Option α}{f:α→Bool}{C:Prop}(h:jh o f=true)(k:∀a,o=some a→f a=true→C):C:=by
 cases o
 .cases h
 .exact k _ rfl h
def sy{α β:Type}(f:α→β→Bool)(l:List α):List β→Bool:=List.rec (motive:=λU=>List β→Bool) (λr=>r.isEmpty) (λa U ih r=>jS r λb r=>f a b&&ih r) l
theorem th{α β:Type}{f:α→β→Bool}{R:α→β→Prop}(hf:∀a b,f a b=true→R a b){l:List α}:∀{r:List β},sy f l r=true→ji R l r:=by
 induction l with
 |nil=>intro r h;cases r;exact .nil;cases h
 |cons a l ih=>exact λh=>lP h λb r h=>gQ h λh1 h2=>.cons (hf _ _ h1) (ih h2)
noncomputable def xy(x:gG)(f:Addr→Bool):Bool:=on x.ctorIdx 10 λe=>gG.ref.elim (motive:=λU=>Bool) x e λa=>f a
theorem Br{C:Prop}{x:gG}{f:Addr→Bool}(h:xy x f=true)(k:∀a,x= .ref a→f a=true→C):C:=iV h λe U=>gG.ref.elim (motive:=λx=>xy x f=true→(∀a,x= .ref a→f a=true→C)→C) x e (λa h k=>k a rfl h) h k
noncomputable def zq(x:gG)(f:Int→Bool):Bool:=on x.ctorIdx 4 λe=>gG.int.elim (motive:=λU=>Bool) x e λi t=>f i
theorem EU{C:Prop}{x:gG}{f:Int→Bool}(h:zq x f=true)(k:∀i t,x= .int i t→f i=true→C):C:=iV h λe U=>gG.int.elim (motive:=λx=>zq x f=true→(∀i t,x= .int i t→f i=true→C)→C) x e (λi t h k=>k i t rfl h) h k
noncomputable def xA(x:gG)(f:Str→Bool):Bool:=on x.ctorIdx 6 λe=>gG.str.elim (motive:=λU=>Bool) x e λn t=>f n
theorem Bs{C:Prop}{x:gG}{f:Str→Bool}(h:xA x f=true)(k:∀n t,x= .str n t→f n=true→C):C:=iV h λe U=>gG.str.elim (motive:=λx=>xA x f=true→(∀n t,x= .str n t→f n=true→C)→C) x e (λn t h k=>k n t rfl h) h k
noncomputable def EV(x:gG)(f:Bool→Bool):Bool:=on x.ctorIdx 3 λe=>gG.bool.elim (motive:=λU=>Bool) x e λb=>f b
theorem X6{C:Prop}{x:gG}{f:Bool→Bool}(h:EV x f=true)(k:∀b,x= .bool b→f b=true→C):C:=iV h λe U=>gG.bool.elim (motive:=λx=>EV x f=true→(∀b,x= .bool b→f b=true→C)→C) x e (λb h k=>k b rfl h) h k
noncomputable def Bt(x:gG)(f:Bool):Bool:=on x.ctorIdx 0 λe=>gG.none.elim (motive:=λU=>Bool) x e f
theorem MT{C:Prop}{x:gG}{f:Bool}(h:Bt x f=true)(k:x= .none→f=true→C):C:=iV h λe U=>gG.none.elim (motive:=λx=>Bt x f=true→(x= .none→f=true→C)→C) x e (λh k=>k rfl h) h k
noncomputable def Bu(x:Data)(f:(Array gG)→Bool):Bool:=on x.ctorIdx 2 λe=>Data.seq.elim (motive:=λU=>Bool) x e λxs n=>f xs
theorem MU{C:Prop}{x:Data}{f:(Array gG)→Bool}(h:Bu x f=true)(k:∀xs n,x= .seq xs n→f xs=true→C):C:=iV h λe U=>Data.seq.elim (motive:=λx=>Bu x f=true→(∀xs n,x= .seq xs n→f xs=true→C)→C) x e (λxs n h k=>k xs n rfl h) h k
noncomputable def EW(x:Data)(f:(Array kJ)→Bool):Bool:=on x.ctorIdx 3 λe=>Data.dict.elim (motive:=λU=>Bool) x e λes n=>f es
theorem X7{C:Prop}{x:Data}{f:(Array kJ)→Bool}(h:EW x f=true)(k:∀es n,x= .dict es n→f es=true→C):C:=iV h λe U=>Data.dict.elim (motive:=λx=>EW x f=true→(∀es n,x= .dict es n→f es=true→C)→C) x e (λes n h k=>k es n rfl h) h k
noncomputable def EX(x:Data)(f:FuncData→Bool):Bool:=on x.ctorIdx 7 λe=>Data.func.elim (motive:=λU=>Bool) x e λd=>f d
theorem X9{C:Prop}{x:Data}{f:FuncData→Bool}(h:EX x f=true)(k:∀d,x= .func d→f d=true→C):C:=iV h λe U=>Data.func.elim (motive:=λx=>EX x f=true→(∀d,x= .func d→f d=true→C)→C) x e (λd h k=>k d rfl h) h k
noncomputable def zr(x:Data)(f:(Array gG)→Bool):Bool:=on x.ctorIdx 9 λe=>Data.fields.elim (motive:=λU=>Bool) x e λvs=>f vs
theorem EY{C:Prop}{x:Data}{f:(Array gG)→Bool}(h:zr x f=true)(k:∀vs,x= .fields vs→f vs=true→C):C:=iV h λe U=>Data.fields.elim (motive:=λx=>zr x f=true→(∀vs,x= .fields vs→f vs=true→C)→C) x e (λvs h k=>k vs rfl h) h k
noncomputable def EZ(x:Data)(f:Bool):Bool:=on x.ctorIdx 0 λe=>Data.plain.elim (motive:=λU=>Bool) x e f
theorem Yb{C:Prop}{x:Data}{f:Bool}(h:EZ x f=true)(k:x= .plain→f=true→C):C:=iV h λe U=>Data.plain.elim (motive:=λx=>EZ x f=true→(x= .plain→f=true→C)→C) x e (λh k=>k rfl h) h k
def vm(l:List Str):Bool:=List.rec true (λx r ih=>!(r.any λy=>y==x)&&ih) l
theorem MV{l:List Str}:vm l=true→l.Nodup:=by
 induction l with
 |nil=>exact λU=>.nil
 |cons x r ih=>exact λh=>gQ h λh1 h2=>List.nodup_cons.mpr ⟨λhm=>gU ((jW h1).symm.trans (List.any_eq_true.mpr ⟨x,hm,beq_self_eq_true x⟩)),ih h2⟩
noncomputable def MW(p:Arguments)(f:List Arg→Bool):Bool:=p.posonlyargs.isEmpty&&(p.vararg.isNone&&(p.kwonlyargs.isEmpty&&(p.kw_defaults.isEmpty&&(p.kwarg.isNone&&f p.args))))
theorem Yc{C:Prop}{p:Arguments}{f:List Arg→Bool}(h:MW p f=true)(k:∀as dx,p=⟨[],as,none,[],[],none,dx⟩→f as=true→C):C:=by
 obtain⟨a,b,c,d,e,g,x⟩:=p;have h:(a.isEmpty&&(c.isNone&&(d.isEmpty&&(e.isEmpty&&(g.isNone&&f b)))))=true:=h;revert k;exact jX h λh=>m9 h λh=>jX h λh=>jX h λh=>m9 h λh k=>k _ _ rfl h
noncomputable def MX(l:g7)(g:IE→Bool):Bool:=g7.casesOn (motive_7:=λU=>Bool) l false λs r=>IS.casesOn (motive_6:=λU=>Bool) s (λU=>false) (λU U=>false) (λU U U=>false) (λU U U U=>false) (λU U U=>false) (λU U U=>false) (λU U U U=>false) (λf=>g7.casesOn (motive_7:=λU=>Bool) r (g f) λU U=>false) false false false (λU U U U=>false) (λU U U U U=>false) (λU U U U U=>false) (λU=>false)
theorem Yd{C:Prop}{l:g7}{g:IE→Bool}(h:MX l g=true)(k:∀f,l= .cons (.ret f) .nil→g f=true→C):C:=by
 cases l with
 |nil=>exact gU h
 |cons s r=>cases r with
  |nil=>cases s<;>first|exact k _ rfl h|exact gU h
  |cons _ _=>cases s<;>exact gU h
def Ye(ck:Ck)(as:List Arg)(body:FuncBody)(scope:hU)(fd:FD):List Bool:=[!scope.isCoroutine,!scope.isGenerator,scope.kind== .function,isFn scope,vm (as.map (·.arg)),sy ck.is fd.params (as.map (·.arg)),iS fd.nH.length as.length,
 fd.params.all λx=>jh (ug ck.nm x) λn=>mK scope n (if w0 x fd.cells=true then .cell else .local),sy ck.is fd.cells (Bg scope.names),
 FuncBody.casesOn body (λb=>Bp ck fd.body scope true b) λe=>MX fd.body λf=>Bo ck f scope true (.e e)]
def zu(ck:Ck)(params:Arguments)(body:FuncBody)(scope:hU)(fd:FD):Bool:=MW params λas=>(Ye ck as body scope fd).all id
def E0(kC:Ad→Option Addr)(gA:Heap)(g9:FuncData)(fd:FD):Prop:=∃ds,xt gA g9.defaults ds∧∀φ:Pl,(∀p a,kC p=some a→φ p=some a)→il φ ds fd.nH
def Yg(zv xB:Ck)(glob:Addr)(lR:hU→Option Addr)(kC:Ad→Option Addr)(gA:Heap)(g9:FuncData)(fd:FD):Prop:=
 (zu zv g9.params g9.body g9.scope fd=true∨zu xB g9.params g9.body g9.scope fd=true)∧g9.globals=glob∧g9.builtins=builtinsNs∧(∀c,lR g9.scope=some c→g9.code= .ref c)∧E0 kC gA g9 fd
section
variable{S:g8}{G:Top}{gA:Heap}{ck:Ck}
theorem MY(HY:tf S G gA ck){g9:FuncData}{fd:FD}(h:zu ck g9.params g9.body g9.scope fd=true)(hg:g9.globals=G.glob)(hb:g9.builtins=G.blt)(hc:∀c,S.lR g9.scope=some c→g9.code= .ref c)(hd:E0 S.kC gA g9 fd):Bh S G gA g9 fd:=
 Yc h λas dx hp h=>
  have H:=rD h
  {co:=jW (H 0),gen:=jW (H 1),kind:=eq_of_beq (H 2),par:=⟨as,dx,hp,MV (H 4),th (λU U=>rC HY) (H 5),kT (H 6)⟩,
   kinds:=λx hx n hn=>qZ (P:=λo=>o=some n→_) (kf.1 (H 7) x hx) (λa h e=>oz (gP e▸h)) ((HY.nm x).symm.trans hn),
   cells:=th (λU U=>rC HY) (H 8),Lp:=hd,glob:=hg,blt:=hb,Lq:=H 3,lR:=hc,
   body:=by
    have q:=H 9;revert q
    induction g9.body with
    |stmts b=>exact λq=>.inl ⟨b,rfl,X5 HY fd.body g9.scope true b q⟩
    |expr e=>exact λq=>Yd q λf hf q=>.inr ⟨e,dE f,rfl,(XZ HY f g9.scope true (.e e) q).1,by rw[hf];rfl⟩}
end
structure Ent where
 n:Str
 k:Nat
 a:Addr
 fd:FD
structure Bv where
 n:Str
 k:Nat
 C:Addr
 at_:BT AV
 ms:List Ent
structure Dat where
 glob:List Ent
 cls:List Bv
 P:jE
 nm:List (Ad×Str)
 attr:List Ad
 consts:List (Str×AV)
 tab:hU→Option Ad
 mA:List (Ad×Addr×Addr)
 zw:List (Ad×Addr)
def zx(l:List Ad)(a:Ad):Bool:=l.any λb=>Ad.eq b a
def Dat.kC(D:Dat)(a:Ad):Option Addr:=Option.casesOn (km D.mA a) (km D.zw a) λq=>some q.2
def Dat.lR(D:Dat)(sc:hU):Option Addr:=(D.tab sc).bind λa=>(km D.mA a).map (·.1)
def Dat.zv(D:Dat):Ck:={nm:=D.nm,attr:=zx D.attr,consts:=D.consts,tab:=λU=>none,nest:=λU U U U=>false,we:=λsc=>(D.tab sc).isNone}
def Dat.xB(D:Dat):Ck:={nm:=D.nm,attr:=zx D.attr,consts:=D.consts,tab:=D.tab,nest:=λk args body scope=>jh (i3 D.P.nested k) λfd=>zu D.zv args body scope fd&&((D.tab scope).isNone&&fd.nH.isEmpty),we:=λsc=>(D.tab sc).isNone}
noncomputable def zy(K:Frag)(ns:Addr)(x:Str):Option gG:=(nsIn K ns x).join
noncomputable def pO(K:Frag):Top:=⟨pd,builtinsNs,zy K pd,zy K builtinsNs⟩
theorem oZ{β:Type}{l:List (Ad×β)}{a:Ad}{b:β}:km l a=some b→(a,b)∈l:=by
 induction l with
 |nil=>exact gV
 |cons p r ih=>
  show(gT (km r a) (some p.2) (Ad.eq p.1 a):Option β)=some b→_
  induction h:Ad.eq p.1 a with
  |false=>exact λe=>.tail _ (ih e)
  |true=>exact λe=>by rw[←Ad.eq_iff.1 h,←gP e];exact .head _
theorem Yh{l:List (Ad×Str)}{x y:Ad}{n:Str}(h1:(x,n)∈l)(h2:(y,n)∈l)(h:(l.map (·.2)).Nodup):x=y:=by
 induction l with
 |nil=>cases h1
 |cons p r ih=>
  have h:=List.nodup_cons.1 h
  cases h1 with
  |head=>cases h2 with
   |head=>rfl
   |tail _ h2=>exact absurd (List.mem_map_of_mem h2) h.1
  |tail _ h1=>cases h2 with
   |head=>exact absurd (List.mem_map_of_mem h1) h.1
   |tail _ h2=>exact ih h1 h2 h.2
theorem Yi{l:List (Ad×Str)}(h:vm (l.map (·.2))=true)(x y:Ad)(n:Str)(h1:ug l x=some n)(h2:ug l y=some n):x=y:=Yh (oZ h1) (oZ h2) (MV h)
def o4(D:Dat)(hnm:vm (D.nm.map (·.2))=true)(prog:lg)(w:jb)(os:OsState)(K:Frag)(gA:Heap):g8 where
 prog:=prog
 w:=w
 P:=D.P
 os:=os
 nm:=ug D.nm
 Dh:=Yi hnm
 cls:=λc=>iM (D.cls.map λe=>(e.k,e.C)) c
 FK:=Yg D.zv D.xB pd D.lR D.kC gA
 K:=K
 attr:=zx D.attr
 kC:=D.kC
 Jt:=λa=>(km D.mA a).isSome
 lR:=D.lR
noncomputable def rE(a:Option (Option gG))(b:Option gG):Bool:=jh a (·==b)
noncomputable def Yj(K:Frag)(C:Addr):List Bool:=[rE (findIn K (.ref C) "__getattribute__") (some (.builtin "object.__getattribute__")),rE (findIn K (.ref C) "__getattr__") none,rE (findIn K (.ref C) "__setattr__") (some (.builtin "object.__setattr__")),
 plainOver K C,rE (findIn K (.ref C) "__bool__") none,(clsIn K C).any (·.hasDict)]
noncomputable def MZ(K:Frag)(C:Addr):Bool:=(Yj K C).all id
def zA(tA:Ad→Option Addr)(x:gG)(v:AV):Bool:=AV.casesOn v (Bt x true) (λU=>false) (λj=>zq x λi=>i==j) (λn=>xA x λs=>uh s n) λp=>xy x λa=>tA p==some a
def M0(K:Frag)(C:Addr)(n:Str)(d:Option AV):Bool:=!(copiedNames.contains n)&&(rE (takerIn K C n) none&&Option.casesOn d (rE (findIn K (.ref C) n) none) λv=>jh (findIn K (.ref C) n) λo=>jh o λy=>rE (specialIn K y "__get__") none&&(handedIn y&&zA (λU=>none) y v))
noncomputable def M1(K:Frag)(cd:gG)(q:Str):Bool:=xy cd λc=>jh (K.lookup c) λo=>zr o.data λvs=>jh (vs[1]? :Option gG) λv=>xA v λr=>r==q
def M3(D:Dat)(K:Frag)(v:gG)(ds:List AV):Bool:=Bt v ds.isEmpty||xy v λT=>jh (K.lookup T) λo=>Bu o.data λxs=>sy (zA D.kC) xs.toList ds
def zB(D:Dat)(K:Frag)(a:Addr)(fd:FD):Bool:=jh (K.lookup a) λo=>o.cls== .type "function"&&EX o.data λg9=>zu D.xB g9.params g9.body g9.scope fd&&(g9.globals==pd&&(g9.builtins==builtinsNs&&(M1 K g9.code g9.qualname&&(Option.casesOn (D.lR g9.scope) true (λc=>g9.code== .ref c)&&M3 D K g9.defaults fd.nH))))
theorem sA{a:Option (Option gG)}{b:Option gG}(h:rE a b=true):a=some b:=by
 revert b;intro b h;exact qZ h λa h=>congrArg some (eq_of_beq h)
theorem Yk{K:Frag}{C:Addr}(h:MZ K C=true):AM K C:=
 have H:=rD h
 ⟨sA (H 0),sA (H 1),sA (H 2),H 3,sA (H 4),H 5⟩
theorem Bw{tA:Ad→Option Addr}{x:gG}{v:AV}(h:zA tA x v=true){φ:Pl}(hφ:∀p a,tA p=some a→φ p=some a):VR φ x v:=by
 induction v with
 |none=>exact MT h λe U=>e▸.none
 |bool _=>exact gU h
 |int j=>exact EU h λi t e h=>by rw[e,eq_of_beq h];exact .int _ _
 |str n=>exact Bs h λs t e h=>by rw[e];exact .str _ (mv h)
 |ref p=>exact Br h λa e h=>by rw[e];exact .ref (hφ _ _ (eq_of_beq h))
theorem Yl{K:Frag}{C:Addr}{n:Str}{d:Option AV}(h:M0 K C n d=true):xb K C n d:=by
 refine gQ h λh1 h=>gQ h λh2 h=>⟨jW h1,sA h2,?_⟩
 induction d with
 |none=>exact sA h
 |some v=>exact kG h λo e h=>kG h λy e' h=>gQ h λk1 h=>gQ h λk2 k3=>⟨y,e.trans (congrArg some e'),sA k1,k2,λφ=>Bw k3 nofun⟩
theorem Ym{K:Frag}{h:Heap}(X:K.In h){cd:gG}{q:Str}(e:M1 K cd q=true):h.CodeRec cd q:=
 Br e λc e1 e=>kG e λo h1 e=>EY e λvs h2 e=>kG e λv h3 e=>Bs e λr t h4 e=>⟨c,o,vs,t,e1,X _ _ h1,h2,by rw[h3,h4,eq_of_beq e]⟩
theorem M4{φ:Pl}{xs:List gG}{vs:List AV}(h:ji (VR φ) xs vs):il φ xs vs:=by
 induction h with
 |nil=>exact .nil
 |cons h _ ih=>exact .cons h ih
theorem Yn{D:Dat}{K:Frag}{h:Heap}(X:K.In h){g9:FuncData}{fd:FD}(e:M3 D K g9.defaults fd.nH=true):E0 D.kC h g9 fd:=
 oQ e (λe=>MT e λhv e=>⟨[],.inl ⟨hv,rfl⟩,λφ U=>List.isEmpty_iff.1 e▸.nil⟩)
  λe=>Br e λT hv e=>kG e λo ho e=>MU e λxs n hd e=>⟨xs.toList,.inr ⟨T,o,n,hv,X _ _ ho,hd⟩,λφ hφ=>M4 (th (λU U h=>Bw h hφ) e)⟩
theorem E5{D:Dat}{hnm:vm (D.nm.map (·.2))=true}{prog:lg}{w:jb}{os:OsState}{K:Frag}{gA:Heap}(X:K.In gA){a:Addr}{fd:FD}(h:zB D K a fd=true):yG (o4 D hnm prog w os K gA) gA a fd:=
 kG h λo ho h=>gQ h λh1 h=>X9 h λg9 hf h=>gQ h λh2 h=>gQ h λh3 h=>gQ h λh4 h=>gQ h λh5 h=>gQ h λh6 h7=>
  ⟨o.dict,g9,o.slots,(X _ _ ho).trans (congrArg some (by cases o;cases hf;cases eq_of_beq h1;rfl)),⟨.inr h2,eq_of_beq h3,eq_of_beq h4,λc hc=>by
   have hc:D.lR g9.scope=some c:=hc;rw[hc]at h6;exact eq_of_beq h6,Yn X h7⟩,Ym X h5⟩
section
noncomputable def gB(K:Frag)(x:Str)(v:gG):Bool:=(pO K).val x==some v
def Yo(K:Frag)(p:Str×AV):Bool:=jh ((pO K).val p.1) λw=>zA (λU=>none) w p.2
noncomputable def zC(K:Frag)(ns:Addr):Bool:=jh (K.lookup ns) λo=>EW o.data λes=>es.toList.all λe=>xA e.key λU=>true
noncomputable def Yp(c P:Addr)(o:Obj)(vs:Array gG):List Bool:=[o.cls== .type "code",(vs[11]? :Option gG)==some (.ref P),vs.getD 11 .none== .ref P,xA (vs.getD 18 .none) λU=>true,zq (vs.getD 7 .none) λU=>true,EV (vs.getD 9 .none) λU=>true,zq (vs.getD 10 .none) λU=>true,!(c==P)]
noncomputable def M5(K:Frag)(c P:Addr):Bool:=jh (K.lookup c) λo=>zr o.data λvs=>(Yp c P o vs).all id
noncomputable def Yq(bm P:Addr)(o:Obj):List Bool:=[!(bm==builtinsNs),!(bm==pd),!(bm==P),o.cls== .type "module",o.dict==some builtinsNs,EZ o.data true]
noncomputable def bmB(K:Frag)(P:Addr):Bool:=jh (zy K pd "__builtins__") λv=>xy v λbm=>jh (K.lookup bm) λo=>(Yq bm P o).all id
noncomputable def bis:List BI:=[.len,.all,.tuple,.list,.min,.max,.set]
def Yr(D:Dat)(K:Frag)(e:Ent):Bool:=uh e.n e.k&&(gB K e.n (.ref e.a)&&zB D K e.a e.fd)
def Ys(D:Dat)(K:Frag)(C:Addr)(m:Ent):List Bool:=[uh m.n m.k,rE (findIn K (.ref C) m.n) (some (.ref m.a)),typeIn K (.ref m.a)==some (.type "function"),zB D K m.a m.fd,D.nm.all λp=>!(p.2==m.n)]
def E6(D:Dat)(K:Frag)(e:Bv):List Bool:=[MZ K e.C,uh e.n e.k,gB K e.n (.ref e.C),makesIn K e.C,keepIn K (.ref e.C),D.nm.all λp=>!(zx D.attr p.1)||M0 K e.C p.2 (e.at_.get p.1),e.ms.all λm=>(Ys D K e.C m).all id,
 !(ie e.k 85073674658080482268389154181357764717)||rE (findIn K (.ref e.C) "__len__") none]
def sC(D:Dat)(K:Frag)(e:Bv):Bool:=(E6 D K e).all id
def zD(D:Dat)(K:Frag):List Bool:=[D.glob.all (Yr D K),bis.all λb=>gB K (AY b) (AZ b),D.consts.all (Yo K),gB K "range" (.type "range"),gB K "enumerate" (.type "enumerate"),gB K "KeyError" (.type "KeyError"),gB K "IndexError" (.type "IndexError"),
 D.mA.all λq=>M5 K q.2.1 q.2.2&&(bmB K q.2.2&& !(pd==q.2.2)),zC K pd,zC K builtinsNs,zC K cStatics,rE (nsIn K cStatics "sys.recursionlimit") none]
def E7(D:Dat)(K:Frag):Bool:=D.cls.all (sC D K)&&(zD D K).all id
theorem Bx{α β:Type}{k:α→Nat}{f:α→β}{l:List α}{c:Nat}{b:β}:iM (l.map λe=>(k e,f e)) c=some b→∃e∈l,k e=c∧f e=b∧∀{γ:Type}(g:α→γ),iM (l.map λe=>(k e,g e)) c=some (g e):=by
 induction l with
 |nil=>exact gV
 |cons e r ih=>
  show(gT (iM (r.map _) c) (some (f e)) (ie (k e) c):Option β)=some b→_
  induction h:ie (k e) c with
  |false=>exact λq=>(ih q).elim λx ⟨h1,h2,h3,h4⟩=>⟨x,.tail _ h1,h2,h3,λg=>by
   show(gT (iM (r.map _) c) (some (g e)) (ie (k e) c):Option _)=_;rw[h];exact h4 g⟩
  |true=>exact λq=>⟨e,.head _,mH h,gP q,λg=>by
   show(gT (iM (r.map _) c) (some (g e)) (ie (k e) c):Option _)=_;rw[h]⟩
theorem wi{K:Frag}{x:Str}{v:gG}(h:gB K x v=true):(pO K).val x=some v:=eq_of_beq h
theorem By{K:Frag}{ns:Addr}{h:Heap}(X:K.In h)(e:zC K ns=true):h.Ns ns (zy K ns):=
 kG e λo ho e=>X7 e λes ep hd e=>by
  have hk:StrKeys es:=λen hen=>Bs (kf.1 e en (Array.mem_toList_iff.mpr hen)) λn t h U=>⟨n,t,h⟩;refine⟨_,es,ep,X _ _ ho,hd,hk,λx=>?_⟩;obtain⟨o1,o2,d,o3⟩:=o
  cases hd
  show _=(nsIn K ns x).join;rw[show nsIn K ns x=lookIn x ⟨o1,o2,.dict es ep,o3⟩ by unfold nsIn lookIn;rw[ho];rfl,AN (ep:=ep) hk x o1 o2 o3];rfl
section
variable{D:Dat}{hnm:vm (D.nm.map (·.2))=true}{prog:lg}{w:jb}{os:OsState}{K:Frag}{gA:Heap}
theorem Bz(hC:D.P.cls=D.cls.map λe=>(e.k,e.at_,e.ms.map λm=>(m.k,m.fd)))(h:D.cls.all (sC D K)=true){c:Nat}{C:Addr}(e:(o4 D hnm prog w os K gA).cls c=some C):∃e,e.k=c∧e.C=C∧iM D.P.cls c=some (e.at_,e.ms.map λm=>(m.k,m.fd))∧∀i,(E6 D K e).getD i true=true:=by
 refine m8 (Bx e) λx m h1 h2 h3=>?_;exact⟨x,h1,h2,by rw[hC];exact h3 _,rD (kf.1 h x m)⟩
theorem Yt(H:∀i,(E6 D K e).getD i true=true)(hn:ug D.nm x=some n)(ha:zx D.attr x=true):xb K e.C n (e.at_.get x):=
 oQ (kf.1 (H 5) (x,n) (oZ hn)) (λh=>gU ((jW h).symm.trans ha)) Yl
theorem Yu(X:K.In gA)(hC:D.P.cls=D.cls.map λe=>(e.k,e.at_,e.ms.map λm=>(m.k,m.fd)))(h:D.cls.all (sC D K)=true):ly (o4 D hnm prog w os K gA) gA where
 sf:=X
 cls:=λc C e=>by
  refine m8 (Bz hC h e) λx U Yv U H=>?_;subst Yv;exact Yk (H 0)
 attr:=λc C x n e ha hn=>by
  refine m8 (Bz hC h e) λy U Yw l H=>?_;subst Yw;show xb K y.C n ((iM D.P.cls c).bind λcd=>cd.1.get x);rw[l];exact Yt H hn ha
theorem Yx(X:K.In gA)(hP:D.P.m3=D.glob.map λe=>(e.k,e.fd))(hC:D.P.cls=D.cls.map λe=>(e.k,e.at_,e.ms.map λm=>(m.k,m.fd)))(h:D.cls.all (sC D K)=true)(H:∀i,(zD D K).getD i true=true):si (o4 D hnm prog w os K gA) (pO K) gA where
 fn:=λk x fd e hx=>by
  refine m8 (Bx (hP▸e:iM (D.glob.map λe=>(e.k,e.fd)) k=some fd)) λy m h1 h2 U=>?_;refine gQ (kf.1 (H 0) y m) λq1 q=>gQ q λq2 q3=>⟨y.a,?_,h2▸E5 X q3⟩;have hx:SR x y.k:=h1▸hx;rw[hx.inj (mv q1)];exact wi q2
 cls:=λc x cd e hx=>by
  refine m8 (Bx (hC▸e:iM (D.cls.map λe=>(e.k,e.at_,e.ms.map λm=>(m.k,m.fd))) c=some cd)) λy m h1 U h3=>?_;have q:=rD (kf.1 h y m);refine⟨y.C,?_,h3 λe=>e.C,q 3,q 4⟩;have hx:SR x y.k:=h1▸hx;rw[hx.inj (mv (q 1))];exact wi (q 2)
 A0:=λc C cd m x fd e l e2 hx=>by
  refine m8 (Bz hC h e) λy U Yy l' q=>?_;subst Yy
  cases gP (l.symm.trans l')
  refine m8 (Bx e2) λz m1 h1 h2 U=>?_;have p:=rD (kf.1 (q 6) z m1);have hx:SR x z.k:=h1▸hx
  cases hx.inj (mv (p 0))
  exact⟨z.a,sA (p 1),eq_of_beq (p 2),h2▸E5 X (p 3),λa ha=>gU ((jW (kf.1 (p 4) (a,z.n) (oZ ha))).symm.trans (beq_self_eq_true _))⟩
 bi:=λb=>wi (kf.1 (H 1) b (by induction b<;>repeat (first|exact .head _|apply List.Mem.tail)))
theorem Yz(hC:D.P.cls=D.cls.map λe=>(e.k,e.at_,e.ms.map λm=>(m.k,m.fd)))(h:D.cls.all (sC D K)=true):tV (o4 D hnm prog w os K gA) 85073674658080482268389154181357764717:=λC e=>by
 refine m8 (Bz hC h e) λy hk YA U H=>?_;subst YA;exact oQ (H 7) (λq=>by rw[hk]at q;exact gU q) sA
theorem M6(H:∀i,(zD D K).getD i true=true)(x:Str)(v:AV)(e:D.consts.lookup x=some v):∃u,(pO K).val x=some u∧∀φ,VR φ u v:=by
 have hm:(x,v)∈D.consts:=by
  generalize D.consts=l at e
  induction l with
  |nil=>exact gV e
  |cons p r ih=>
   rw[mG]at e
   induction hb:(x==p.1)with
   |true=>rw[hb]at e;rw[eq_of_beq hb,←gP e];exact .head _
   |false=>rw[hb]at e;exact .tail _ (ih e)
 exact kG (kf.1 (H 2) (x,v) hm) λu e2 q=>⟨u,e2,λφ=>Bw q nofun⟩
theorem M7(X:K.In gA)(h:M5 K c P=true):CodeHd gA c P:=
 kG h λo ho h=>EY h λvs hd h=>
  have q:=rD h
  Bs (q 3) λf ft ef U=>EU (q 4) λg gt eg U=>X6 (q 5) λb eb U=>EU (q 6) λu ut eu U=>⟨o,vs,f,ft,g,gt,b,u,ut,X _ _ ho,eq_of_beq (q 0),hd,eq_of_beq (q 1),eq_of_beq (q 2),ef,eg,eb,eu,ne_of_beq_false (jW (q 7))⟩
theorem YB(X:K.In gA)(h:bmB K P=true):gA.BuiltinsAt (pO K).mg P:=
 kG h λv hv h=>Br h λbm e h=>kG h λo ho h=>
  have q:=rD h
  ⟨bm,o,hv.trans (congrArg some e),ne_of_beq_false (jW (q 0)),ne_of_beq_false (jW (q 1)),ne_of_beq_false (jW (q 2)),X _ _ ho,eq_of_beq (q 3),eq_of_beq (q 4),Yb (q 5) λe U=>e⟩
theorem YC(X:K.In gA)(H:∀i,(zD D K).getD i true=true)(e:D.tab sc=some ta)(hq:km D.mA ta=some q):xp (o4 D hnm prog w os K gA) (pO K) gA sc ta:=
 gQ (kf.1 (H 7) _ (oZ hq)) λz1 z=>gQ z λz2 z3=>⟨q.1,q.2,by
  show(D.tab sc).bind _=_;rw[e];show(km D.mA ta).map _=_;rw[hq];rfl,by
  show Option.casesOn (motive:=λU=>Option Addr) (km D.mA ta) _ _=_;rw[hq],M7 X z1,YB X z2,ne_of_beq_false (jW z3)⟩
theorem E8(e:(D.tab sc).isNone=true):D.lR sc=none:=by
 show(D.tab sc).bind _=none;rw[Option.isNone_iff_eq_none.mp e];rfl
theorem YD(e:D.xB.nest k args body scope=true):∃fd,i3 D.P.nested k=some fd∧∀(name qual:Str)(cl:List (Str×Addr))(pm cdv ct:gG),(o4 D hnm prog w os K gA).FK (uf name qual args body scope pd cl pm cdv ct .none) fd:=
 kG e λfd hn e=>gQ e λe1 e=>gQ e λe2 e3=>⟨fd,hn,λname qual cl pm cdv ct=>⟨.inl e1,rfl,rfl,λc hc=>(Aq _ (hc.symm.trans (E8 e2))).elim,[],.inl ⟨rfl,rfl⟩,λφ U=>List.isEmpty_iff.mp e3▸.nil⟩⟩
theorem YE(X:K.In gA)(hT:∀sc ta,D.tab sc=some ta→∃q,km D.mA ta=some q)(hP:D.P.m3=D.glob.map λe=>(e.k,e.fd))(hC:D.P.cls=D.cls.map λe=>(e.k,e.at_,e.ms.map λm=>(m.k,m.fd)))(h:E7 D K=true):
 (tf (o4 D hnm prog w os K gA) (pO K) gA D.zv∧tf (o4 D hnm prog w os K gA) (pO K) gA D.xB)∧Eg (pO K) gA:=
 gQ h λh1 h=>
  have H:=rD h;have q:=λck a b c d e f=>(⟨Yu X hC h1,Yx X hP hC h1 H,Yz hC h1,a,b,c,wi (H 3),wi (H 4),wi (H 5),wi (H 6),d,e,f⟩:tf (o4 D hnm prog w os K gA) (pO K) gA ck)
  ⟨⟨q _ (λU=>rfl) (λU e=>e) (M6 H) (λU U e=>(Aq _ e.symm).elim) (λU U U U e=>(jD e).elim) λU=>E8,q _ (λU=>rfl) (λU e=>e) (M6 H) (λsc ta e=>(hT sc ta e).elim λU=>YC X H e) (λU U U U=>YD) λU=>E8⟩,
   By X (H 8),By X (H 9),_,By X (H 10),congrArg Option.join (sA (H 11))⟩
end
end
section
noncomputable def YF(D0 P1 P2 P3 a:Addr):List (Ad×Addr):=[(.h,D0),(.o .h,P1),(.i .h,P2),(.o (.o .h),P3),(.i (.o .h),a)]
def sD(D0 P1 P2 P3 a:Addr):Pl:=km (YF D0 P1 P2 P3 a)
noncomputable def M8:List (Ad×gY):=[(.h,.tuple [.str 40567024288966772448377926844532,.int 0]),(.o .h,.tab []),(.i .h,.tab []),(.o (.o .h),.tab []),(.i (.o .h),.jH)]
def mP:gI:=(((((⟨.h,.nil⟩:gI).push (.tuple [.str 40567024288966772448377926844532,.int 0])).push (.tab [])).push (.tab [])).push (.tab [])).push .jH
theorem zE{β:Type}{q:Ad}{b:β}{l:List (Ad×β)}{p:Ad}:km ((q,b)::l) p=if p=q then some b else km l p:=by
 show(gT (km l p) (some b) (Ad.eq q p):Option β)=_
 induction h:Ad.eq q p with
 |true=>rw[if_pos (Ad.eq_iff.1 h).symm]
 |false=>rw[if_neg λe=>gU (h.symm.trans (Ad.eq_iff.2 e.symm))]
theorem E9{p:Ad}{ob:gY}(h:mP.get p=some ob):(p,ob)∈M8:=by
 have e:(⟨.h,.nil⟩:gI).get p=none:=BT.get_nil p;unfold mP at h;rw[gI.kB,gI.kB,gI.kB,gI.kB,gI.kB,e]at h;refine List.mem_reverse.1 (oZ (l:=M8.reverse) (Eq.trans ?_ h));show km [_,_,_,_,_] p=_;rw[zE,zE,zE,zE,zE];rfl
theorem YG:mP.n= .o (.i .h):=rfl
theorem vn{α:Type}{a b:α}{l:List α}{P:α→Prop}(h:a∈b::l)(k1:P b)(k2:a∈l→P a):P a:=(iL.1 h).elim (λe=>e▸k1) k2
@[elab_as_elim] theorem wj{β:Type}{P:Ad→β→Prop}{a b c d e:β}{p:Ad}{x:β}(h:(p,x)∈[(Ad.h,a),(.o .h,b),(.i .h,c),(.o (.o .h),d),(.i (.o .h),e)])(k0:P .h a)(k1:P (.o .h) b)(k2:P (.i .h) c)(k3:P (.o (.o .h)) d)(k4:P (.i (.o .h)) e):P p x:=
 vn (P:=λq=>P q.1 q.2) h k0 λh=>vn (P:=λq=>P q.1 q.2) h k1 λh=>vn (P:=λq=>P q.1 q.2) h k2 λh=>vn (P:=λq=>P q.1 q.2) h k3 λh=>vn (P:=λq=>P q.1 q.2) h k4 λh=>(iA h).elim
theorem YH(p:Ad):(sD D0 P1 P2 P3 a p).isSome=true↔p.num<6:=by
 constructor
 .intro h;obtain⟨b,h⟩:=Option.isSome_iff_exists.1 h;exact wj (P:=λp U=>p.num<6) (oZ h) (by decide) (by decide) (by decide) (by decide) (by decide)
 .intro h;have k:∀{q:Ad},p.num=q.num→(sD D0 P1 P2 P3 a q).isSome=true→(sD D0 P1 P2 P3 a p).isSome=true:=λe h=>Ad.w6 e▸h
  rcases(by decide:∀n<6,0<n→n=1∨n=2∨n=3∨n=4∨n=5) _ h p.w5 with e|e|e|e|e
  .exact k (q:=.h) e rfl
  .exact k (q:=.o .h) e rfl
  .exact k (q:=.i .h) e rfl
  .exact k (q:=.o (.o .h)) e rfl
  .exact k (q:=.i (.o .h)) e rfl
noncomputable def rF(K:Frag)(P:Addr):Bool:=jh (K.lookup P) λo=>o.cls== .none&&(o.dict.isNone&&(o.slots.isEmpty&&zr o.data λps=>ps.isEmpty))
def BA(K:Frag)(a:Addr):Bool:=jh (K.lookup a) λo=>o.cls== .type "tuple"&&(o.dict.isNone&&(o.slots.isEmpty&&Bu o.data λxs=>sy (zA λU=>none) xs.toList [.str 40567024288966772448377926844532,.int 0]))
theorem BB{K:Frag}{h:Heap}(X:K.In h){P:Addr}(e:rF K P=true):h.get? P=some {cls:=.none,data:=.fields #[]}:=
 kG e λo ho e=>gQ e λe1 e=>gQ e λe2 e=>gQ e λe3 e=>EY e λps e4 e5=>by
  obtain⟨c,d,x,s⟩:=o;rw[X _ _ ho,show c=_ from eq_of_beq e1,show d=_ from Option.isNone_iff_eq_none.1 e2,show x=_ from e4,show s=_ from Array.isEmpty_iff.1 e3,Array.isEmpty_iff.1 e5]
theorem YI{K:Frag}{h:Heap}(X:K.In h){a:Addr}(e:BA K a=true)(φ:Pl):∃vs n,h.get? a=some ⟨.type "tuple",none,.seq vs n,#[]⟩∧il φ vs.toList [.str 40567024288966772448377926844532,.int 0]:=
 kG e λo ho e=>gQ e λe1 e=>gQ e λe2 e=>gQ e λe3 e=>MU e λxs n e4 e5=>⟨xs,n,by
  obtain⟨c,d,x,s⟩:=o;rw[X _ _ ho,show c=_ from eq_of_beq e1,show d=_ from Option.isNone_iff_eq_none.1 e2,show x=_ from e4,show s=_ from Array.isEmpty_iff.1 e3],M4 (th (λU U h=>Bw h λU U e=>(Aq _ e.symm).elim) e5)⟩
noncomputable def nu(hid:List Addr)(K:Frag):Frag:=K.filter λp=>!(hid.contains p.1)
theorem M9{hid:List Addr}{K:Frag}{a:Addr}{o:Obj}:(nu hid K).lookup a=some o→K.lookup a=some o∧a∉hid:=by
 induction K with
 |nil=>exact gV
 |cons p r ih=>
  intro e;unfold nu at e;rw[List.filter_cons]at e;rw[mG]
  induction hab:(a==p.1)with
  |true=>
   induction hb:hid.contains p.1 with
   |true=>
    rw[hb]at e;exact absurd (eq_of_beq hab▸List.contains_iff_mem.1 hb) (ih e).2
   |false=>
    rw[hb]at e;have e:List.lookup a (p::nu hid r)=some o:=e;rw[mG,hab]at e;exact⟨e,λhm=>gU (hb.symm.trans (List.contains_iff_mem.2 (eq_of_beq hab▸hm)))⟩
  |false=>
   induction hb:hid.contains p.1 with
   |true=>rw[hb]at e;exact ih e
   |false=>
    rw[hb]at e;have e:List.lookup a (p::nu hid r)=some o:=e;rw[mG,hab]at e;exact ih e
theorem Na{hid:List Addr}{K:Frag}{h:Heap}(X:K.In h):(nu hid K).In (hideAll h hid):=λa o e=>hideAll_get _ (X a o (M9 e).1) (M9 e).2
section
variable{D:Dat}{hnm:vm (D.nm.map (·.2))=true}{prog:lg}{w:jb}{K:Frag}{s₁:gJ}{c1 c2 c3 D0 P1 P2 P3 a:Addr}
theorem YJ(hd:[D0,P1,P2,P3,a].Nodup)(hp:sD D0 P1 P2 P3 a p=some b)(hq:sD D0 P1 P2 P3 a q=some b):p=q:=by
 have g:∀{p b},sD D0 P1 P2 P3 a p=some b→∃i:Nat,[D0,P1,P2,P3,a][i]? =some b∧[Ad.h,.o .h,.i .h,.o (.o .h),.i (.o .h)][i]? =some p:=λh=>wj (P:=λp b=>∃i:Nat,[D0,P1,P2,P3,a][i]? =some b∧[Ad.h,.o .h,.i .h,.o (.o .h),.i (.o .h)][i]? =some p) (oZ h) ⟨0,rfl,rfl⟩ ⟨1,rfl,rfl⟩ ⟨2,rfl,rfl⟩ ⟨3,rfl,rfl⟩ ⟨4,rfl,rfl⟩
 refine gW (g hp) λi h1 h2=>?_;refine gW (g hq) λj h3 h4=>?_;rw[(List.getElem?_inj (List.getElem?_eq_some_iff.mp h1).1 hd).mp (h1.trans h3.symm)]at h2;exact gP (h2.symm.trans h4)
noncomputable def tL(c1 c2 c3 P1 P2 P3:Addr):List (Ad×Addr×Addr):=[(.o .h,c1,P1),(.i .h,c2,P2),(.o (.o .h),c3,P3)]
theorem Nb{C:Ad→Addr→Addr→Prop}{p:Ad}{c P:Addr}(h:km (tL c1 c2 c3 P1 P2 P3) p=some (c,P))(k1:C (.o .h) c1 P1)(k2:C (.i .h) c2 P2)(k3:C (.o (.o .h)) c3 P3):C p c P:=
 vn (P:=λq=>C q.1 q.2.1 q.2.2) (oZ h) k1 λh=>vn (P:=λq=>C q.1 q.2.1 q.2.2) h k2 λh=>vn (P:=λq=>C q.1 q.2.1 q.2.2) h k3 λh=>(iA h).elim
theorem YK(hC:D.mA=tL c1 c2 c3 P1 P2 P3)(hS:D.zw=[(.h,D0)])(p:Ad)(b:Addr)(e:D.kC p=some b):sD D0 P1 P2 P3 a p=some b:=by
 unfold Dat.kC at e;rw[hC,hS]at e
 induction q:km (tL c1 c2 c3 P1 P2 P3) p with
 |none=>
  rw[q]at e
  cases oZ e with
  |head=>rfl
  |tail _ h=>cases h
 |some y=>
  rw[q]at e;rw[←gP e];exact Nb (C:=λp c P=>sD D0 P1 P2 P3 a p=some P) q rfl rfl rfl
theorem YL(X:K.In s₁.heap)(hC:D.mA=tL c1 c2 c3 P1 P2 P3)(hS:D.zw=[(.h,D0)])(h1:rF K P1=true)(h2:rF K P2=true)(h3:rF K P3=true)(h0:BA K D0=true)(hsys:((nu [P1,P2,P3] K).lookup nA).isSome=true)
 {vs:List gG}{xs:List AV}{n:Nat}(hX:D.P.xs=some xs)(hs:s₁.heap.get? a=some ⟨.type "list",none,.seq vs.toArray n,#[]⟩)(hv:∀φ,il φ vs xs)(hl:xs.length≤cap)(hd:[D0,P1,P2,P3,a].Nodup)(hg:s₁.gens= #[]):
 Inv (o4 D hnm prog w s₁.os (nu [P1,P2,P3] K) (hideAll s₁.heap [P1,P2,P3])) (hideAll s₁.heap [P1,P2,P3]) (sD D0 P1 P2 P3 a) [] mP s₁:=by
 have g1:=BB X h1;have g2:=BB X h2;have g3:=BB X h3;refine jA (YI X h0 (sD D0 P1 P2 P3 a)) λv0 n0 g0 r0=>?_;have YM:D.kC (.o .h)=some P1:=by unfold Dat.kC;rw[hC];rfl
 have YN:D.kC (.i .h)=some P2:=by unfold Dat.kC;rw[hC];rfl
 have YO:D.kC (.o (.o .h))=some P3:=by unfold Dat.kC;rw[hC];rfl
 have Fb:∀{p:Ad}{P:Addr},D.kC p=some P→s₁.heap.get? P=some {cls:=.none,data:=.fields #[]}→Dj (o4 D hnm prog w s₁.os (nu [P1,P2,P3] K) (hideAll s₁.heap [P1,P2,P3])) s₁.heap p P []:=λ{p P} e1 e2=>
  ⟨e1,#[],e2,trivial,λpos h=>absurd rfl h⟩
 refine{
  keep:=λb o e=>of_hideAll _ e
  dom:=λp=>by rw[YG];exact YH p
  inj:=?inj
  new:=?new
  low:=?low
  obj:=?obj
  kU:=λp c k fs e=>?aI
  mh:=λp k κ e=>?aF
  pr:=λx hx=>(nomatch hx)
  gens:=hg
  os:=rfl
  sys:=?sys
  st:=YK hC hS
  tb:=?tb}
 case inj=>exact λp q b hp hq=>YJ hd hp hq
 case new=>exact λp b hp=>wj (P:=λp b=>(hideAll s₁.heap [P1,P2,P3]).get? b=none∨∃ob,AI ob=true∧mP.get p=some ob) (oZ hp) (.inr ⟨_,rfl,rfl⟩) (.inl (hideAll_none _ (hW ..))) (.inl (hideAll_none _ (hO _ (hW ..)))) (.inl (hideAll_none _ (hO _ (hO _ (hW ..))))) (.inr ⟨.jH,rfl,rfl⟩)
 case low=>exact λp b hp=>wj (P:=λU b=>∃o,s₁.heap.get? b=some o) (oZ hp) ⟨_,g0⟩ ⟨_,g1⟩ ⟨_,g2⟩ ⟨_,g3⟩ ⟨_,hs⟩
 case obj=>exact λp ob e=>wj (E9 e) ⟨D0,rfl,v0,n0,g0,r0,by show 2≤1000000;decide⟩ ⟨P1,rfl,Fb YM g1⟩ ⟨P2,rfl,Fb YN g2⟩ ⟨P3,rfl,Fb YO g3⟩ ⟨a,rfl,xs,vs.toArray,n,hX,hs,hv _,hl⟩
 case aI=>exact wj (P:=λp ob=>ob= .inst c k fs→mP.get p.succ=some .aux) (E9 e) (λh=>gY.noConfusion h) (λh=>gY.noConfusion h) (λh=>gY.noConfusion h) (λh=>gY.noConfusion h) (λh=>gY.noConfusion h) rfl
 case aF=>exact wj (P:=λp ob=>ob= .fn k κ→mP.get p.succ=some .aux) (E9 e) (λh=>gY.noConfusion h) (λh=>gY.noConfusion h) (λh=>gY.noConfusion h) (λh=>gY.noConfusion h) (λh=>gY.noConfusion h) rfl
 case sys=>
  refine jn (Option.isSome_iff_exists.mp hsys) λo e=>?_;exact⟨o,Na X _ _ e⟩
 case tb=>
  intro p e;refine jn (Option.isSome_iff_exists.mp (show(km D.mA p).isSome=true from e)) λy e=>?_;rw[hC]at e;exact Nb (C:=λp U U=>∃ks,mP.get p=some (.tab ks)) e ⟨[],rfl⟩ ⟨[],rfl⟩ ⟨[],rfl⟩
end
end
section
section
variable{D:Dat}{prog:lg}{w:jb}{K:Frag}{s₁:gJ}{c1 c2 c3 D0 P1 P2 P3 a:Addr}
noncomputable def Dat.wx(D:Dat)(xs:List AV):Dat:={D with P:={D.P with xs:=some xs}}
theorem YP(hnm:vm (D.nm.map (·.2))=true)(hT:∀sc ta,D.tab sc=some ta→∃q,km D.mA ta=some q)(hP:D.P.m3=D.glob.map λe=>(e.k,e.fd))(YQ:D.P.cls=D.cls.map λe=>(e.k,e.at_,e.ms.map λm=>(m.k,m.fd)))
 (hC:D.mA=tL c1 c2 c3 P1 P2 P3)(hS:D.zw=[(.h,D0)])
 (X:K.In s₁.heap)(hchk:E7 D (nu [P1,P2,P3] K)=true)(h1:rF K P1=true)(h2:rF K P2=true)(h3:rF K P3=true)(h0:BA K D0=true)(hsys:((nu [P1,P2,P3] K).lookup nA).isSome=true)
 (hs:s₁.heap.get? a=some ⟨.type "list",none,.seq vs.toArray n,#[]⟩)(hv:∀φ,il φ vs xs)(hl:xs.length≤cap)(hd:[D0,P1,P2,P3,a].Nodup)(hg:s₁.gens= #[])
 (hfn:zB D (nu [P1,P2,P3] K) fa fd=true)(Fc:iF (D.wx xs).P N 60 fd [] [.ref (.i (.o .h))] mP= .ok (.bool true) σ')
 (hQ:∀s',OldK s₁.heap s'.heap→s'.os=s₁.os→s'.gens= #[]→Q (.bool true) s'):
 gL (iJ prog w) callerA (call (.ref fa) [.ref a]) Q E s₁:=by
 let gA:=hideAll s₁.heap [P1,P2,P3]
 let S:g8:=o4 (D.wx xs) hnm prog w s₁.os (nu [P1,P2,P3] K) gA
 have XB:(nu [P1,P2,P3] K).In gA:=Na X;refine iK (YE (D:=D.wx xs) (hnm:=hnm) (prog:=prog) (w:=w) (os:=s₁.os) XB hT hP YQ hchk) λYR F3=>?_;refine iK YR λH0 H1=>?_;have Bi:∀g9 fd,S.FK g9 fd→Bh S (pO (nu [P1,P2,P3] K)) gA g9 fd:=λg9 fd ⟨k1,k2,k3,k4,k5⟩=>by
  rcases k1 with k1|k1
  .exact MY H0 k1 k2 k3 k4 k5
  .exact MY H1 k1 k2 k3 k4 k5
 have I:=YL (D:=D.wx xs) (hnm:=hnm) (prog:=prog) (w:=w) X hC hS h1 h2 h3 h0 hsys (xs:=xs) rfl hs hv hl hd hg;have BF:=E5 (D:=D.wx xs) (hnm:=hnm) (prog:=prog) (w:=w) (os:=s₁.os) XB hfn;have hfit:r9 callerA 60:=by
  exact⟨by decide,by decide⟩
 have hc:=Lv (S:=S) Bi F3 N 60 callerA [] _ _ s₁ fd [] [.ref (.i (.o .h))] [.ref a] fa hfit rfl ⟨rfl,[],rfl,λe he=>(nomatch he)⟩ I (BF.at I.keep) (.cons (.ref rfl) .nil);have YS:(iF S.P N 60 fd [] [.ref (.i (.o .h))] mP)= .ok (.bool true) σ':=Fc;rw[show(KE.call ⟨S.P,N,iF S.P N 60⟩) fd [] [.ref (.i (.o .h))] mP= .ok (.bool true) σ' from YS]at hc;refine wpAny_call (hc _ λgE x s' l I' r=>?_)
 cases r
 have tab:∀p c P,km (tL c1 c2 c3 P1 P2 P3) p=some (c,P)→rF K P=true→∀o,s₁.heap.get? P=some o→asItWas s₁.heap s'.heap P o∧∃o',s'.heap.get? P=some o':=λp c P e g o ho=>by
  have g:=BB X g
  cases gP (g.symm.trans ho)
  have e:km D.mA p=some (c,P):=hC▸e;refine jn (I'.tb p (show(km D.mA p).isSome=true by rw[e];rfl)) λks hk=>?_;obtain⟨b,hb,_,ps,hps,_⟩:=I'.obj p _ hk
  cases gP (hb.symm.trans (I'.st p P (show Option.casesOn (motive:=λU=>Option Addr) (km D.mA p) _ _=_ by rw[e])))
  exact gQ hchk λU hc=>gQ (kf.1 (rD hc 7) _ (oZ e)) λz U=>by
   obtain⟨o,vs,_,_,_,_,_,_,_,y1,y2,y3,y4,_⟩:=M7 XB z;exact⟨.inr (.inl ⟨⟨c,o,vs,of_hideAll _ y1,y2,y3,y4⟩,rfl,#[],ps,rfl,by rw[hps,Array.empty_append]⟩),_,hps⟩
 have all:∀b o,s₁.heap.get? b=some o→asItWas s₁.heap s'.heap b o∧∃o',s'.heap.get? b=some o':=λb o e=>by
  by_cases q:b∈[P1,P2,P3]
  .cases q with
   |head=>exact tab (.o .h) c1 P1 rfl h1 o e
   |tail _ q=>cases q with
    |head=>exact tab (.i .h) c2 P2 rfl h2 o e
    |tail _ q=>cases q with
     |head=>exact tab (.o (.o .h)) c3 P3 rfl h3 o e
     |tail _ q=>cases q
  .have:=I'.keep b o (hideAll_get _ e q);exact⟨.inl this,o,this⟩
 exact hQ s' ⟨λb o e=>(all b o e).1,λb o e=>(all b o e).2⟩ I'.os I'.gens
end
end
end Mini.Internal
namespace Mini.Internal
open PySem (Str Addr Scope NameKind)
section
open Ad renaming o→a,i→b,h→c
open IE renaming loc→d,const→h,attr→l,sub→n,cmp→o,Fd→r,list→s,bin→v,me→D,tuple→F,dict→G,Fe→H,not→I,neg→J,xC→N,and→S,Nc→X,or→Y,rT→ab,ite→ac,aeH→af,Ff→ah,callC→ak,conv→al,lam→ao,Nd→av,aeI→ax,slA→aJ
open g7 renaming cons→e,nil→f
open i9 renaming cons→g,nil→i
open IS renaming assign→j,ite→p,«for»→x,ret→y,expr→z,bad→U,«while»→W,brk→aa,Nf→ag,aeJ→ai,cont→aj,aeK→az,aeL→aG,pass→aH,aeM→aL
open IT renaming loc→k,sub→t,attr→w,tup→L,xC→aB
open AV renaming int→m,str→q,bool→E,none→P
open II renaming val→u,enum→an,range→aC,items→aK
open rQ renaming cons→A,nil→M
open Op renaming add→B,sub→O,mod→ar
open Cp renaming eq→C,Au→Q,As→T,ne→V,lt→Z,gt→ad,ge→am,Hv→au,Hu→aD,le→aM
open BI renaming len→K,list→ae,tuple→aq,max→aw,set→ay,min→aA,all→aE
noncomputable abbrev aN:Ad:=a (a c)
noncomputable abbrev f8:Ad:=b c
noncomputable abbrev aO:Ad:=a f8
noncomputable abbrev aP:Ad:=b (a c)
noncomputable abbrev gc:Ad:=b aN
noncomputable abbrev aQ:Ad:=a gc
noncomputable abbrev aR:Ad:=b f8
noncomputable abbrev aS:Nat:=85074526519864120391673425436428206180
noncomputable abbrev aT:Ad:=b gc
noncomputable abbrev aU:Ad:=a aN
noncomputable abbrev gd:Ad:=b aP
noncomputable abbrev bT:Ad:=a gd
noncomputable abbrev aV:IE:=d bT
noncomputable abbrev aW:IE:=d aO
noncomputable abbrev fB:Ad:=a aO
noncomputable abbrev aX:Ad:=a fB
noncomputable abbrev aY:Ad:=a (b aO)
noncomputable abbrev aZ:Ad:=b gd
noncomputable abbrev fT:Ad:=b aQ
noncomputable abbrev bb:Ad:=b fT
noncomputable abbrev bc:Nat:=2124652264787807827778747362067011185175829787508557236669706815013029817363001890753350061131395406164003088856109239066388730755709114012276919254766327882934367618941222976097353843
noncomputable abbrev be:Nat:=374161367731143740807411317305772578063481370050655
noncomputable abbrev bf:Ad:=b (b aO)
noncomputable abbrev bg:Nat:=1013114597311440814197226534844291990643173690078186578537001169886298740355893798211630833706507467750193365243964998200696826895228897745777006456905012504447896733915696595059
noncomputable abbrev bh:IE:=h (m 1)
noncomputable abbrev bj:Ad:=b (a aP)
noncomputable abbrev bV:Nat:=3451029496412968318011132732041130808765551501054566645885816245583972
noncomputable abbrev bD:Ad:=a (a aP)
noncomputable abbrev dk:Ad:=a (a bD)
noncomputable abbrev fN:IE:=d (b dk)
noncomputable abbrev dl:Ad:=a (b bD)
noncomputable abbrev d5:Ad:=b (b bD)
noncomputable abbrev dD:Ad:=a fT
noncomputable abbrev cm:Ad:=b dD
noncomputable abbrev bP:Ad:=b (b aT)
noncomputable abbrev bH:Ad:=b (a aT)
noncomputable abbrev d8:IE:=d (a bH)
noncomputable abbrev bk:IE:=H bV (g fN (g (d (a dl)) (g (d (a d5)) (g (N cm) (g (d (a bP)) (g d8 i))))))
noncomputable abbrev bl:Nat:=109841947615584776939143047579104821842112700087703241742517260003744192478998712626626928479770304468307303707547880005993311116646129951574041602041692815475
noncomputable abbrev fC:Ad:=a aU
noncomputable abbrev bn:Ad:=b fC
noncomputable abbrev bp:Ad:=b fB
noncomputable abbrev gw:Ad:=a (b aZ)
noncomputable abbrev c6:Ad:=a bj
noncomputable abbrev eK:Ad:=b c6
noncomputable abbrev ce:Nat:=9223825035857231988
noncomputable abbrev bS:Nat:=85074445390225705748098223907794845797
noncomputable abbrev cG:Ad:=b (b aZ)
noncomputable abbrev eZ:IE:=d cG
noncomputable abbrev fD:IE:=J bh
abbrev bq:IS:=j (k gw) (r (l aW eK) ce (g (H bS (g eZ i)) (g fD i)))
noncomputable abbrev bu:Nat:=384002683604660998209429878071872669071118906336646075594323478937197703518557516696053166144102721374065724704937151738252756636986632014132103882055281591897831961756611252321923336455858100383356214036161399574172234494812376140505080554187723875691178890864322111744267545038504000858552122069234823083284441289171844262683661740448714549670454788344485584735573025406845679150889318939236690043076653
noncomputable abbrev bw:IE:=h (m 0)
noncomputable abbrev gf:Ad:=b aU
noncomputable abbrev bx:Ad:=a gf
noncomputable abbrev bz:Nat:=374163687010260726922897509763418380271326416863343
noncomputable abbrev bB:Ad:=b (a aR)
noncomputable abbrev bE:Ad:=a fC
noncomputable abbrev bF:Nat:=1291185889054375386132246548223268255860554496233549207628041620892447616084433300263058627004314984758467546037534851187
noncomputable abbrev bG:Nat:=1291184657738452501493599591596502930657458293767490581825169111119900493369505646959676428722945489532216472679548452979
noncomputable abbrev bI:Nat:=31830128955554679863709745715470439225751108630352441289328906628795764504133666772877426
noncomputable abbrev bJ:Ad:=b gf
noncomputable abbrev bK:Ad:=a (a aR)
noncomputable abbrev bL:Nat:=615689813565166596561110848850682844444521306056856204104955242293557342889287908512265619012220168081575075905644
noncomputable abbrev bM:Nat:=15177817184448711362124440410210640591088790391115198616121798675411628045941866612
noncomputable abbrev bO:Nat:=293581681274730587149917152651884920455939776782895298230820951115201933991307669835477282198113005919535219
noncomputable abbrev cK:Ad:=b aR
noncomputable abbrev bQ:Ad:=b (b cK)
noncomputable abbrev bR:IE:=h (q 19343145155671596495536228)
noncomputable abbrev bU:Nat:=3451050887976921301658139936791796854483564507964508884563726685962341
noncomputable abbrev bW:Ad:=a aQ
noncomputable abbrev bX:Nat:=31830189664000983930501994455154065336883038946308021008197062451793669922544470756163703
noncomputable abbrev bY:Nat:=31830326257929179520497065838911669158115247144783162707742109091985911630067163750989925
noncomputable abbrev bZ:Nat:=31830159309719935811076719920065992921924501379747085424016804619387806849996561705861235
noncomputable abbrev b5:Nat:=31830159309719935811076719920069131473914627977598541266578023049243042079654837613494382
noncomputable abbrev b8:Nat:=31830417320439421535943672380656899490002562974454953322828235364750710829634809503940718
noncomputable abbrev b9:Nat:=15177809947463839262320576760544329494848933302616142435834202286939816519513669747
noncomputable abbrev ca:Nat:=15177788236416049393809349476384551064869379060186320294912577138182737015949230181
noncomputable abbrev fk:Ad:=b aX
noncomputable abbrev cb:Ad:=a fk
noncomputable abbrev dQ:Ad:=b aY
noncomputable abbrev cf:IE:=d dQ
noncomputable abbrev cg:IE:=h (E true)
noncomputable abbrev ch:Nat:=7237333410461449334053683031265521557098659347263878496557058887962622689395
noncomputable abbrev cj:Nat:=7237333410461449334053683031265521557524012468174328405099640582810795769971
noncomputable abbrev cn:IE:=d (a bb)
noncomputable abbrev fG:Ad:=a (b aT)
noncomputable abbrev cp:Ad:=a fG
noncomputable abbrev cq:Nat:=3451029496412968318011132732041130808441033198852811855993953528578148
noncomputable abbrev cr:Nat:=3451037723940462749594593787117200625344438265181435867921990203474030
noncomputable abbrev cu:IE:=h (q 9223811841751253093)
noncomputable abbrev cw:Nat:=139989119357933028743539273104513366906541709248753640851222100774506533342094294676556015204999102565
noncomputable abbrev eE:Ad:=b (a bW)
noncomputable abbrev eW:Ad:=b bW
noncomputable abbrev cy:IT:=L (A (k eE) (A (k (b eW)) (A (k (a dD)) M))) 3
noncomputable abbrev cz:Nat:=374165114257953434870455154091934702765950145396837
noncomputable abbrev cB:IE:=h (q 19343772344952510430052454)
noncomputable abbrev cC:IE:=h (q 19343717004720289313980517)
noncomputable abbrev cD:Nat:=1645567328381212392549542854575551378712387362370988390349799534
noncomputable abbrev cE:Nat:=1645579097944721373563352933903279689786348349326654681510838376
noncomputable abbrev cF:Nat:=1645579097944721373563352933903279689825034067788051979727536243
noncomputable abbrev cH:Nat:=178414468651677316602949983525149301129871464
noncomputable abbrev ej:IE:=d (b (a bn))
noncomputable abbrev dC:Ad:=b bn
noncomputable abbrev fe:IE:=d (b dC)
noncomputable abbrev fj:Ad:=b bT
noncomputable abbrev fb:IE:=d (b bQ)
noncomputable abbrev dJ:IE:=d bb
abbrev cI:IS:=p (S (I ej) (I fe)) (e (z (r (l aW (a fj)) aS (g (F (g fb (g dJ (g (h (q 85075216121577873493535270834687443045)) i)))) i))) f) f
noncomputable abbrev eY:Ad:=b (a bD)
noncomputable abbrev cJ:Ad:=b eY
noncomputable abbrev cM:Nat:=784678124540942303987808358395411068695117200124956115059
noncomputable abbrev cN:Nat:=784680743549557129249990832248058888582439643375288189044
noncomputable abbrev cO:IE:=h (q 178411065827845848057542996652027295402295358)
noncomputable abbrev dZ:Ad:=a bp
noncomputable abbrev cP:Ad:=b dZ
abbrev cQ:g7:=e (p (I fe) (e (z (r (l aW (a fj)) aS (g (F (g fb (g dJ (g (h (q 40567043631770662919203956195444)) i)))) i))) f) f) f
noncomputable abbrev cR:Nat:=374155123523594069600906164309607799704563402932286
noncomputable abbrev cS:IE:=d gw
noncomputable abbrev eI:Ad:=b bK
noncomputable abbrev cT:IE:=d (a eI)
noncomputable abbrev cU:Nat:=85074445390032277589289841896101773428
noncomputable abbrev dH:IE:=h (q 40567024288966772448377926844532)
abbrev fU:i9:=g bw i
abbrev cV:IS:=j (L (A (k (a (a bn))) (A (k (b (a bn))) M)) 2) (r (d fT) ce (g dJ (g (F (g dH fU)) i)))
noncomputable abbrev d4:Ad:=a bE
noncomputable abbrev cW:IT:=t (d (a d4)) dJ
noncomputable abbrev cX:IE:=d (a bn)
noncomputable abbrev fV:Ad:=b bp
noncomputable abbrev cY:Ad:=b fV
noncomputable abbrev cZ:Ad:=b (a aY)
noncomputable abbrev c4:IE:=h (E false)
noncomputable abbrev fL:Ad:=a (a bW)
noncomputable abbrev c5:IE:=d fL
noncomputable abbrev c7:Ad:=b bj
noncomputable abbrev c9:IS:=j (t (d (b d4)) dJ) aV
noncomputable abbrev da:IE:=S (o C ej fe) (o C (d (a dC)) (h (q 374164043821928694152695900025857252409163869323363)))
noncomputable abbrev db:IE:=h (q 40565534892421570877871177597027)
noncomputable abbrev dc:IE:=h (q 40566734146696277983071400099955)
noncomputable abbrev de:IE:=d fk
noncomputable abbrev df:Ad:=a (a aT)
noncomputable abbrev dg:Ad:=a eW
noncomputable abbrev dh:IE:=s i
noncomputable abbrev di:IE:=d (b bx)
noncomputable abbrev dj:IE:=h (q 19343514090394740940865618)
noncomputable abbrev dn:IE:=h (q 19343735451481955182313584)
noncomputable abbrev dq:Ad:=b bf
noncomputable abbrev du:IE:=l aV aR
noncomputable abbrev dw:IE:=l aW bP
noncomputable abbrev ei:Ad:=a bJ
noncomputable abbrev eC:Ad:=b bJ
noncomputable abbrev dy:i9:=g (d ei) (g (d eC) i)
noncomputable abbrev dz:Nat:=178412001604882223055898679327064662814490738
noncomputable abbrev dA:Nat:=178414043298313017334511566563802095827288159
noncomputable abbrev dF:IE:=h (q 2097235)
noncomputable abbrev dG:IE:=d bf
noncomputable abbrev dK:IE:=h (q 4398249934964)
noncomputable abbrev fy:IE:=h (m 2)
abbrev dM:IE:=ab (d aU) (g fy i)
noncomputable abbrev ez:IE:=l aW bW
noncomputable abbrev gm:Ad:=b bB
noncomputable abbrev fE:IE:=d dq
noncomputable abbrev eJ:Ad:=a bB
abbrev dN:g7:=e (z (r (n ez (d gm)) aS (g fE i))) (e (j (k eJ) cg) f)
noncomputable abbrev dO:IE:=G i
noncomputable abbrev dP:Ad:=a cK
noncomputable abbrev gq:Ad:=a bx
noncomputable abbrev dR:IE:=d gq
noncomputable abbrev dU:IE:=n (d bB) (l aV aU)
noncomputable abbrev dW:IE:=d (b bH)
noncomputable abbrev dX:Nat:=85073674658080482268389154181357764717
noncomputable abbrev dY:IE:=l aW bx
noncomputable abbrev d6:IE:=d cb
noncomputable abbrev eR:IE:=l aV aX
noncomputable abbrev f4:IE:=l aV cK
noncomputable abbrev d7:IE:=o Z eR (v O f4 bh)
noncomputable abbrev d9:IE:=l aW bJ
noncomputable abbrev ee:IT:=L (A (k cZ) (A (k (a bn)) M)) 2
noncomputable abbrev ek:g7:=e (j (k (b bx)) (H cH (g (d (b eI)) dy))) (e (y di) f)
noncomputable abbrev ex:IE:=d aZ
noncomputable abbrev ey:Ad:=a aX
noncomputable abbrev eB:Ad:=a (b cK)
noncomputable abbrev eD:Ad:=a c7
noncomputable abbrev eF:IE:=d (b bP)
noncomputable abbrev f0:IE:=l aW bB
noncomputable abbrev eG:IS:=p (I (d dZ)) (e (j (k dZ) (l (n f0 bh) aP)) f) f
noncomputable abbrev eH:i9:=g (l aW aR) i
noncomputable abbrev eL:IE:=h P
noncomputable abbrev eN:IE:=v O (J (d cJ)) bh
noncomputable abbrev eO:IS:=j (t cX (n dR fD)) (h (m 9223372036854775807))
abbrev eP:g7:=e (y c4) f
noncomputable abbrev eQ:IE:=l aV aP
noncomputable abbrev eS:IE:=d c
noncomputable abbrev eT:IT:=k bT
noncomputable abbrev eU:g7:=e aa f
noncomputable abbrev eV:Ad:=a bK
noncomputable abbrev eX:IE:=d bH
noncomputable abbrev fg:IE:=d cp
noncomputable abbrev fJ:IE:=d cZ
abbrev fh:IS:=j (k cG) (r aW bz (g (n d6 fJ) (g cX i)))
noncomputable abbrev fq:Ad:=a bf
noncomputable abbrev fw:IE:=h (q 1)
noncomputable abbrev fx:IE:=l aW bE
noncomputable abbrev fz:IS:=z (r (d cP) 9223798647576068196 (g eQ i))
noncomputable abbrev fF:Ad:=b bE
noncomputable abbrev fH:Ad:=a c6
noncomputable abbrev fK:IE:=d cY
noncomputable abbrev fM:IE:=d (b df)
abbrev fO:IS:=j (k (a eI)) (r (d (a d4)) ce (g dJ i))
noncomputable abbrev fP:IE:=h (q 2097274)
noncomputable abbrev fQ:IE:=h (q 40566772832479303002219807244402)
noncomputable abbrev fR:IS:=j (k df) (r dR 9223864618296803440 i)
noncomputable abbrev fW:IE:=v B dG bh
noncomputable abbrev fX:IE:=d bQ
noncomputable abbrev fY:i9:=g cf i
noncomputable abbrev fZ:IS:=j cW (J (l aV aU))
noncomputable abbrev f5:IT:=L (A (k (a dC)) (A (k (b dC)) M)) 2
abbrev f6:IE:=n cn cu
abbrev f7:IS:=j (k bf) bw
noncomputable abbrev f9:IE:=n (d bB) (l (n (d (b d4)) dJ) aU)
noncomputable abbrev gb:Nat:=9223847026081398903
noncomputable abbrev gg:IE:=h (q 19343108261937158371147808)
noncomputable abbrev gh:IE:=d c6
noncomputable abbrev gi:IE:=d c7
noncomputable abbrev gj:Ad:=a aZ
noncomputable abbrev gu:i9:=g cX (g dR (g di (g (d dC) dy)))
noncomputable abbrev gv:Ad:=b c7
noncomputable abbrev gx:IE:=n du (v B eR bh)
noncomputable abbrev gy:IE:=d (b eW)
noncomputable abbrev gz:IE:=d (a eD)
def Fg:g7:=e (y (S (o ad (D K (g eS i)) bw) (D aE (g (X (o T (d (a c)) (h (q bu))) (k (a c)) (u eS) cg []) i)))) f
def Ng:FD:=⟨39,bI,[.h],[],[],Fg⟩
def Fh:g7:=e (j (w aW aP) (d aP)) (e (j (w aW aR) (D aq (g (d aR) i))) (e (j (w aW aU) (d aU)) (e (j (w aW gc) (d gc)) (e (j (w aW (a aP)) eL) (e (j (w aW gd) (d gd)) (e (j (w aW fB) (d fB)) (e (j (w aW (a aR)) (d (b aO))) (e (j (w aW cK) (D K eH)) (e (j (w aW fC) dh) (e (x (k c) (u (l aW aR)) (e (p (o Q eS (l aW fC)) (e (z (r (l aW fC) aS (g eS i))) f) f) f) f) (e (j (w aW gf) dh) (e (j (w aW aQ) eL) (e (p (l aW aR) (e (j (w aW aT) (ax (af (al (l aW aP)) (af gg (af (al (r (h (q 2097184)) 19343790791758156784468078 eH)) fw))))) f) (e (j (w aW aT) (v ar (h (q 15177368490116720127856851715738124369746665464782209044878335172050783817703620670)) (l aW aP))) f)) f)))))))))))))
def Nh:FD:=⟨62,be,[aO,aU,aP,aR,(b aO),gc,gd,fB],[(.ref .h),.none,(.str 1),(.int 0)],[],Fh⟩
noncomputable def Fi:g7:=e (y (D K eH)) f
def Ni:FD:=⟨83,dA,[aO],[],[],Fi⟩
noncomputable def Fj:g7:=e (j (w aW aP) eQ) (e (j (w aW aR) (D ae (g du i))) (e (j (w aW aU) (l aV aU)) (e (j (w aW aX) ex) (e (j (w aW bp) dO) (e (z (r (l aW aR) 85074851038379093219842656569430900852 (g ex (g (h (q 2097198)) i)))) (e (j (w aW aR) (D aq eH)) (e (j (w aW cK) (D K eH)) (e (j (w aW fC) (l aV fC)) f))))))))
def Nj:FD:=⟨118,be,[aO,bT,aZ],[],[],Fj⟩
def Fk:g7:=e (j (k bf) (v O (D K (g (d aY) i)) bh)) (e (W (o am dG bw) (e (p (o T (n (d aY) dG) (d bK)) (e (y (n (d aY) dG)) f) f) (e (ag bf O bh) f)) f) (e (y eL) f))
def Nk:FD:=⟨146,bL,[aY,bK],[],[],Fk⟩
def Fm:g7:=e (j (w aW bB) (s (g eL i))) (e (j (w aW dP) dO) (e (j (w aW (b cK)) dO) (e (j (w aW bE) dO) (e (x (k bn) (u (d bK)) (e (j (t fx (d bn)) dh) f) f) (e (j (t fx fQ) dh) (e (j (w aW bx) dO) (e (j (w aW bJ) dO) (e (j (w aW bW) dO) (e (j (w aW fT) dO) (e (j (w aW (a aT)) (D ay i)) (e (j (w aW (b aT)) eL) f)))))))))))
def Nl:FD:=⟨172,be,[aO,bK],[],[],Fm⟩
def Fn:g7:=e (p (o T gh fx) (e (U 113) f) f) (e (p (o C gh fQ) (e (U 115) f) f) (e (p (I (H bI (g gh i))) (e (U 117) f) f) (e (x (L (A (k aZ) (A (k c) M)) 2) (an gi) (e (p (o T (n eS bw) (h (q 4398128300066))) (e (U 120) f) f) (e (p (S (I (H bI (g eS i))) (o V eS db)) (e (U 131) f) f) f)) f) (e (p (o T db gi) (e (p (o C (n gi fD) db) (e (U 134) f) f) (e (p (o V (n gi (J fy)) db) (e (U 136) f) f) (e (j (k (a bT)) (n gi fD)) (e (j (k fj) (r (l aW fT) ce (g (d (a bT)) i))) (e (p (I (d fj)) (e (U 140) f) (e (z (r (l aW (a aT)) 9223798647576068196 (g (d (a bT)) i))) f)) (e (U 143) f)))))) (e (j (k (a bT)) (H bL (g gi (g fx i)))) (e (j (k fj) (r (l aW fT) ce (g (d (a bT)) (g (F (g dH fU)) i)))) f))) (e (j (k gj) (ax (af (al gh) (af gg (af (al gi) fw))))) (e (p (o T (d gj) (l aW (b cK))) (e (j (k (b aZ)) (n (l aW (b cK)) (d gj))) (e (U 150) f)) f) (e (j (k ey) (D K (g f0 i))) (e (p (o Q gh dY) (e (j (t dY gh) dh) f) f) (e (x (k fk) (u gi) (e (p (o T de fx) (e (z (r (n fx de) aS (g (d ey) i))) f) (e (p (o Q de dY) (e (j (t dY de) dh) f) f) (e (z (r (n dY de) aS (g (d ey) i))) f))) f) f) (e (j eT (ak cD (g (d ey) (g gh (g gi (g (d fj) (g (d gc) (g (d gd) (g (d fB) i))))))))) (e (z (r f0 aS (g aV i))) (e (j (t (l aW (b cK)) (d gj)) aV) (e (aG (r (n (l aW dP) gh) aS (g aV i)) true false (e (j (t (l aW dP) gh) (s (g aV i))) f)) f)))))))))))))
def Nm:FD:=⟨201,b5,[aO,c6,c7,gc,gd,fB],[.none,(.str 1),(.int 0)],[],Fn⟩
def Fo:g7:=e eG (e (p (o Q (d dZ) dY) (e (U 173) f) f) (e (j (t f0 bw) (ak cD (g bw (g (h (q 4398220574759)) (g (s (g (d dZ) i)) i))))) (e (z (r (n dY (d dZ)) aS fU)) (e (j (w aW (b aT)) (d dZ)) f))))
def Nn:FD:=⟨209,cN,[aO,dZ],[.none],[],Fo⟩
def Fp:g7:=e (j (k fV) dh) (e (x (k dQ) (u (d (a aY))) (e (j (k fq) c4) (e (x (k dq) (u (n d9 cf)) (e (p (o C fE cO) (e (j (k fq) cg) f) (e (p (o Q fE (d fV)) (e (z (r (d fV) aS (g fE i))) f) f) f)) f) f) (e (p (d fq) (e aH f) eU) f))) (e (z (r (d fV) aS (g cO i))) f)) (e (y (d fV)) f))
def Np:FD:=⟨258,cU,[aO,(a aY)],[],[],Fp⟩
def Fq:g7:=e (p d9 (e (y d9) f) f) (e (x (k fk) (u fx) (e (j (t d9 de) (s (g de i))) f) f) (e (j (t d9 bR) (s (g bR i))) (e (x (k aZ) (u dY) (e (j (t d9 ex) dh) f) f) (e (W cg (e (j (k eV) c4) (e (x (k aZ) (u dY) (e (x eT (u (n (l aW dP) ex)) (e (x (k dq) (u (r aW cU (g du i))) (e (p (o Q fE (n d9 ex)) (e (z (r (n d9 ex) aS (g fE i))) (e (j (k eV) cg) f)) f) f) f) f) f) f) f) (e (p (I (d eV)) eU f) f))) f) (e (y d9) f)))))
def Nq:FD:=⟨265,bM,[aO],[],[],Fq⟩
def Fs:g7:=e (p ez (e (y ez) f) f) (e (p (I d9) (e (z (r aW bM i)) f) f) (e (x (k eI) (u dY) (e (j (t ez (d eI)) dh) f) f) (e eG (e (j (t ez (d dZ)) (s (g bR i))) (e (W cg (e (j (k eJ) c4) (e (x eT (u (ah f0 bh)) (e (x (L (A (k bf) (A (k gm) M)) 2) (an du) (e (p (o T (d gm) dY) (e (j (k (a dP)) (r aW cU (g (ah du fW) i))) (e (j (k (b dP)) c4) (e (x (k dq) (u (d (a dP))) (e (p (S (o V fE cO) (o Q fE (n ez (d gm)))) dN f) (e (p (o C fE cO) (e (j (k (b dP)) cg) f) f) f)) f) (e (p (Y (d (b dP)) (o C dG (v O (D K (g du i)) bh))) (e (x (k dq) (u (n ez eQ)) (e (p (o Q fE (n ez (d gm))) dN f) f) f) f) f) f)))) f) f) f) f) f) (e (p (I (d eJ)) eU f) f))) f) (e (y ez) f))))))
def Nr:FD:=⟨273,bX,[aO,dZ],[.none],[],Fs⟩
def Ft:g7:=e (x eT (u f0) (e (j (k eB) aV) (e f7 (e (j (k gf) dh) (e (W cg (e (p (o ad dG (D K (g aV i))) (e (j (k bQ) eL) f) (e (j (k bQ) (ak dX (g aV (g dG i)))) (e (az (w fX d4) (n (l aW dP) (n (l fX aR) fW)) true true (e (j (w fX d4) dh) f)) (e (az (w fX fF) (n (l fX aR) (v O dG bh)) false true (e (j (w fX fF) eL) f)) f)))) (e (j (w (d eB) aQ) fX) (e (p (I fX) eU f) (e (z (r (d gf) aS (g fX i))) (e (j (k eB) fX) (e (ag bf B bh) f)))))) f) (e (j (w aV gf) (d gf)) f))))) f) f
def Nt:FD:=⟨280,b9,[aO],[],[],Ft⟩
def Fu:g7:=e (j (k (a bn)) dO) (e (x (k dQ) (u (d dC)) (e (j (t cX cf) bw) f) f) (e (j (k gq) dh) (e (j (k (b bx)) dO) (e (x (k dQ) (u (d dC)) (e (p (o C (n cX cf) bw) (e (z (H cz (g cf gu))) f) f) f) f) (e (y di) f)))))
def Nu:FD:=⟨294,cH,[dC,ei,eC],[],[],Fu⟩
def Fv:g7:=e (z (r dR aS fY)) (e (j (k (a bW)) (D K (g dR i))) (e (j (t cX cf) (d (a bW))) (e (j (t di cf) (ab (d eC) fY)) (e (j (k eW) (ab (d ei) fY)) (e (x (k dD) (u (d eW)) (e (p (o C (n cX (d dD)) bw) (e (z (H cz (g (d dD) gu))) f) f) (e (j (t cX cf) (D aA (g (n cX cf) (g (n cX (d dD)) i)))) (e (x (k bb) (u (r di ce (g (d dD) (g dh i)))) (e (p (o Q dJ (n di cf)) (e (z (r (n di cf) aS (g dJ i))) f) f) f) f) f))) f) (e (p (o C (n cX cf) (d (a bW))) (e eO (e (j (t di (n dR fD)) (n di cf)) (e fR (e (W (o V (d df) cf) (e eO (e (j (t di (n dR fD)) (n di cf)) (e fR f))) f) f)))) f) f))))))
def Nv:FD:=⟨301,cz,[dQ,(a bn),gq,(b bx),dC,ei,eC],[],[],Fv⟩
def Fw:g7:=e (p (I eX) (e (y (F i)) f) f) (e (y (D aq (g (X (F (g (l aV aU) (g eR i))) eT (u eX) cg []) i))) f)
def Nw:FD:=⟨318,bS,[bH],[],[],Fw⟩
def Fx:g7:=e (p (o Q (d fG) (s (g (h (q 9223737074874581074)) (g dj i)))) (e (U 331) f) f) (e (j (w aW bP) (d bP)) (e (j (w aW dk) (d fG)) (e (j (w aW eY) dO) (e (j (w aW dl) dO) (e (j (w aW d5) (l (d bP) bB)) (e (j (w aW fH) dO) (e (j (w aW eK) dO) (e (j (w aW eD) bw) (e (j (w aW gv) bw) (e (j (w aW (a (a bT))) bw) (e (j (w aW (b (a bT))) dh) (e (j (w aW (a fj)) dh) (e (j (w aW (b fj)) dh) (e (z (r dw b9 i)) (e (z (r dw bM i)) (e (z (r dw bX i)) (e (z (r aW bY i)) f)))))))))))))))))
def Nx:FD:=⟨333,be,[aO,bP,fG,(a gj)],[(.str 19343514090394740940865618),.none],[],Fx⟩
def Fy:g7:=e (ai aW eD B bh) (e (j (k (b gj)) (aJ eX)) (e (j (k eJ) cg) (e (W (d eJ) (e (j (k eJ) c4) (e (x (k gw) (u (d (b gj))) (e (x (k dQ) (u (l cS d4)) (e (p (o C (l cf aN) (l aW eD)) (e aj f) f) (e (z (r (d (b gj)) aS (g (l cf aQ) i))) (e (j (w cf aN) (l aW eD)) (e (j (k eJ) cg) f)))) f) f) f) f)) f) (e (y (d (b gj))) f))))
def Ny:FD:=⟨340,bU,[aO,bH],[],[],Fy⟩
def Fz:g7:=e (j (k cG) (r (l aW fH) ce (g (F (g (H bS (g eX i)) fY)) i))) (e (p eZ (e (y eZ) f) f) (e (j (k c) (r (l aW fH) ce fY)) (e (p (I eS) (e (j (k c) dO) (e (j (t (l aW fH) cf) eS) f)) f) (e (j (k (a ey)) dh) (e (x eT (u eX) (e (j (k aZ) (l aV aQ)) (e (p (S ex (o C (l ex fF) cf)) (e (j (k (b ey)) (r eS ce (g (F (g (l ex aU) (g (l ex aX) i))) i))) (e (p (I (d (b ey))) (e (j (k (b ey)) dO) (e (j (t eS (F (g (l ex aU) (g (l ex aX) i)))) (d (b ey))) f)) f) (e (z (r (d (a ey)) aS (g ex i))) (e (j (k c) (d (b ey))) f)))) f) f)) f) (e (j (k cG) (r eS ce (g bR i))) (e (p (I eZ) (e (p (d (a ey)) (e (j (k cG) (r aW bU (g (d (a ey)) i))) (e (j (t eS bR) eZ) f)) (e (j (t eS bR) (d (a ey))) f)) f) f) (e (j (t (l aW fH) (F (g (H bS (g eX i)) fY))) eZ) (e (y eZ) f)))))))))
def Nz:FD:=⟨347,bz,[aO,bH,dQ],[],[],Fz⟩
def FA:g7:=e (j (k cb) (s (g (r aW bU (g (s (g (l (n (l dw bB) bw) aQ) i)) i)) i))) (e f7 (e (x (k bH) (u d6) (e (j (t (l aW eK) (H bS (g eX i))) dG) (e (ag bf B bh) f)) f) (e f7 (e (W (o Z dG (D K (g d6 i))) (e (j (k bH) (n d6 dG)) (e (ag bf B bh) (e (j (k (b fk)) dO) (e (x (k (a dZ)) (u eX) (e (x (k c) (u (l (d (a dZ)) fC)) (e (j (t (d (b fk)) eS) eL) f) f) f) f) (e (x (k dQ) (u (d (b fk))) (e (j (k cG) (r aW bz (g eX fY))) (e (p (Y (I eZ) (o T (H bS (g eZ i)) (l aW eK))) (e aj f) f) (e (j (t (l aW eK) (H bS (g eZ i))) (D K (g d6 i))) (e (z (r d6 aS (g eZ i))) f)))) f) f))))) f) (e (y d6) f)))))
def NA:FD:=⟨354,cM,[aO],[],[],FA⟩
def FB:g7:=e (j (k cP) (D ay i)) (e (j (k (a fV)) bw) (e (W cg (e (x eT (u (ah (l dw bB) bh)) (e (p (o C f4 bw) (e fz (e aj f)) f) (e (x (k fk) (u du) (e (p (o Q de (d cP)) eU f) f) (e fz f)) f)) f) (e (p (o C (D K (g (d cP) i)) (d (a fV))) eU f) (e (j (k (a fV)) (D K (g (d cP) i))) f))) f) (e (y (d cP)) f)))
def NB:FD:=⟨361,bc,[aO],[],[],FB⟩
def FC:g7:=e (j (k cY) dh) (e (x (L (A (k (a (a aY))) (A (k cZ) M)) 2) (an d6) (e (x eT (u fJ) (e (p d7 (e (j (k fk) (F (g (d (a (a aY))) (g gx i)))) (e (p (o T (n de bh) (l dw bx)) (e (p (o Q de fK) (e (z (r fK aS (g de i))) f) f) f) f) f)) f) f) f) f) f) (e (y fK) f))
def NC:FD:=⟨368,bg,[aO,cb],[],[],FC⟩
def FE:g7:=e (j ee fK) (e (j (k (a dQ)) dh) (e fh (e (x eT (u eZ) (e (p d7 (e (j (k bb) gx) (e (p (o T dJ (l dw bE)) (e (p (o Q dJ (d (a dQ))) (e (z (r (d (a dQ)) aS (g dJ i))) f) f) f) f) f)) f) f) f) (e (p (S (o C fJ bw) (o C cX (n (l (n (l dw bB) bw) aR) bw))) (e (z (r (d (a dQ)) aS (g bR i))) f) f) (e (y (d (a dQ))) f)))))
def ND:FD:=⟨375,cr,[aO,cb,cY,cP],[],[],FE⟩
def FF:g7:=e (j (k eW) dh) (e (j ee fK) (e fh (e bq (e (x eT (u eZ) (e (p d7 (e (j (k bb) gx) (e (p (o T dJ (d (b dQ))) (e (z (r (d eW) aS (g (F (g cS (g dJ i))) i))) f) f) f)) f) f) f) (e (y (d eW)) f)))))
def NF:FD:=⟨382,b8,[aO,cb,cY,(b dQ)],[],[],FF⟩
def FG:g7:=e (j (k (a fq)) dO) (e (j (k (b fq)) dO) (e (j (k (a dq)) dO) (e (x (k fk) (u fK) (e (j (t (d (a dq)) de) bh) f) f) (e (x ee (u fK) (e (j (k (b dq)) dh) (e (j (k (a eV)) dh) (e (x eT (u (n d6 fJ)) (e (p (o V eQ cX) (e aj f) f) (e (j (k aX) eR) (e (j (k gw) fJ) (e (W (o Z (d aX) (v O f4 bh)) (e (j (k aX) (v B (d aX) bh)) (e (j (k fk) (n du (d aX))) (e (p (o T (F (g cS (g de i))) (d (a dq))) (e (j (k (b eV)) (v B (d aX) bh)) (e (W (o Z (d (b eV)) f4) (e (p (o T (n du (d (b eV))) (l dw bE)) eU f) (e (p (o Q (n du (d (b eV))) (d cP)) eU f) (e (j (k (b eV)) (v B (d (b eV)) bh)) f))) (e (z (r (d (a eV)) aS (g (F (g cS (g de i))) i))) f)) f)) f) (e (j (k cG) (r aW bz (g (n d6 cS) (g de i)))) (e bq f))))) f) (e (x (k (a eI)) (u (n d6 cS)) (e (p (o V (l cT aP) eQ) (e aj f) f) (e (p (o V (l cT cK) f4) (e aj f) f) (e f7 (e (W (o Z dG (l cT aX)) (e (p (o V (n (l cT aR) dG) (n du fW)) eU f) (e (j (k bf) fW) f)) (e (z (r (d (b dq)) aS (g (F (g cS (g cT i))) i))) f)) f)))) f) f))))) f) (e (x (k bf) (u (d (a eV))) (e (p (o Q dG (d (b fq))) (e (j (t (d (b fq)) dG) dh) f) f) (e (z (r (n (d (b fq)) dG) aS (g (F (g fJ (g cX i))) i))) f)) f) (e (j (t (d (a fq)) (F (g fJ (g cX i)))) (d (b dq))) f))))) f) (e (y (F (g (d (a fq)) (g (d (b fq)) i)))) f)))))
def NG:FD:=⟨389,bl,[aO,cb,cY,cP],[],[],FG⟩
noncomputable def FH:g7:=e (j (k eC) (ao 0 f8 544210957 [cb,cP,aO])) (e (j (k ei) (ao 1 f8 545259532 [cb,cP,aO])) ek)
noncomputable def NH:FD:=⟨396,bO,[aO,cb,(b eI),cP],[],[aO,cb,cP],FH⟩
noncomputable def FI:g7:=e (j (k eC) (ao 2 aN 550502413 [a eJ])) (e (j (k ei) (ao 3 aN 551550988 [b eJ])) ek)
noncomputable def NI:FD:=⟨403,bF,[aO,(b eI),(a eJ),(b eJ)],[],[(a eJ),(b eJ)],FI⟩
def FJ:g7:=e (x (L (A (k cY) (A (k (b gm)) M)) 2) (aK (d (a gm))) (e (x (L (A (k cZ) (A eT M)) 2) (u (d (b gm))) (e (p (o Q fJ (l aV bp)) (e (j (t (l aV bp) fJ) dh) f) f) (e (j (k dq) (r (d (a (a dP))) ce (g fK (g dh i)))) (e (x (k bb) (u fE) (e (p (o Q dJ (n (l aV bp) fJ)) (e (z (r (n (l aV bp) fJ) aS (g dJ i))) f) f) f) f) f))) f) f) f) f
def NJ:FD:=⟨410,bZ,[aO,(a gm),(a (a dP))],[],[],FJ⟩
def FL:g7:=e (j (k cP) (r aW bc i)) (e (j (k cY) (r aW bg (g d6 i))) (e (j (k (a eJ)) (r aW bO (g d6 (g fK (g (d cP) i))))) (e (j (L (A (k (b (a dP))) (A (k (a (b dP))) M)) 2) (r aW bl (g d6 (g fK (g (d cP) i))))) (e (j (k (b (b dP))) (r aW bF (g fK (g (d (a eJ)) (g (d (a (b dP))) i))))) (e (z (r aW bZ (g (d (b (a dP))) (g (d (b (b dP))) i)))) f)))))
def NK:FD:=⟨417,bG,[aO,cb],[],[],FL⟩
def FM:g7:=e (j (k bB) (l dw bB)) (e (j (k fT) (l dw fT)) (e (j (k (a eB)) (l aW dl)) (e (j (k (b eB)) (l aW eY)) (e (j (k (a bQ)) dO) (e (j (k cb) (r aW cM i)) (e (p (o C (l aW dk) dj) (e (z (r aW bG (g d6 i))) f) f) (e (j (k (b bQ)) bw) (e (x (k bH) (u d6) (e (j (k (a d4)) dO) (e (j (k (b d4)) dO) (e (j (k (a fF)) dO) (e (x eT (u eX) (e (p (o C f4 (v B eR bh)) (e (p (o C eQ (h (q 4398220574759))) (e (j (t (d (a d4)) bR) bw) (e (j (t (d (b d4)) bR) aV) f)) (e (p (o C (l aW dk) dj) (e (j (k (b fF)) (n (l aV bp) fb)) f) (e (j (k (b fF)) (n (l dw bW) eQ)) f)) (e (x (k bb) (u (d (b fF))) (e fO (e (p (o au cT eL) (e (p (o ad cT bw) (e cV (e (j f5 (l dU (a aR))) (e (p (Y (o Z ej fe) (S (o C ej fe) (o C (d (a dC)) (h (q 19343809238458250022617204))))) (e fZ (e c9 (e cI (e (ai dU f8 B bh) f)))) (e (p da (e (j cW eL) f) cQ) f)) f))) (e (p (o Z cT bw) (e (j (k (a gq)) (n (d bB) (J cT))) (e (j (k (b gq)) dU) (e (p (o ad (l (d (a gq)) fB) (l (d (b gq)) fB)) (e fZ (e c9 (e (U 594) (e (ai dU f8 B bh) (e (ai (n (d bB) (l (d (a gq)) aU)) f8 O bh) f))))) (e (U 598) f)) (e (z (r (l aW (b fj)) aS (g (F (g fb (g (d (a (b bx))) (g (d (b (b bx))) i)))) i))) f)))) (e (U 601) f)) f)) f) (e fZ (e c9 (e (ai dU f8 B bh) f)))) f)) f) f))) f) (e (j (k bf) eR) (e (j (k bb) (n du fW)) (e (p (o T dJ (l dw bE)) (e (j (k cG) (r aW bz (g eX (g dJ i)))) (e bq (e (p (o am cS bw) (e fO (e (p (o au cT eL) (e (p (o ad cT bw) (e (p (o V cT cS) (e (U 617) f) f) f) (e (p (o Z cT bw) (e cV (e (j f5 (l f9 (a aR))) (e (p (Y (o ad ej fe) (S (o C ej fe) (o C (d (a dC)) dH))) (e (ai f9 f8 O bh) (e (j cW cS) (e c9 cQ))) (e (p da (e (j cW eL) f) (e cI f)) f)) f))) (e (U 632) f)) f)) f) (e (j cW cS) (e c9 f))) f)) f) f))) f) f)))) f) f) (e (j (k (a ei)) dO) (e (x (k (a dZ)) (u eX) (e (x (k c) (u (l (d (a dZ)) fC)) (e (p (o T eS (l dw bx)) (e (j (t (d (a ei)) eS) eL) f) f) f) f) f) f) (e (x (k aZ) (u (d (a ei))) (e (j (k cG) (r aW bz (g eX (g ex i)))) (e bq (e (p (o am cS bw) (e (j (t (d (a fF)) ex) cS) f) f) f))) f) (e (j (t (d (b eB)) fb) (d (a d4))) (e (j (t (d (a bQ)) fb) (d (b d4))) (e (j (t (d (a eB)) fb) (d (a fF))) (e (ag (b bQ) B bh) f))))))))))) f) f))))))))
def NL:FD:=⟨424,bY,[aO],[],[],FM⟩
def FN:g7:=e (j (aB (b ei)) (G (g dK fU))) (e (aL (k aU) 4 (a c) 685768708 [b ei,a eC]) (e (y (d aU)) f))
def NM:FD:=⟨438,ch,[(a eC)],[],[(a eC),(b ei)],FN⟩
def FP:g7:=e (j (k fL) dh) (e (x (k eI) (aC (g (v B bh dM) i)) (e (j (k eE) (ab (d aU) (g (h (m 3)) i))) (e (z (r c5 aS (g (F (g (d eE) (g (n (h (q 4398249934947)) (d eI)) (g (ac (d eE) (n (h (q 4398252032100)) (d eI)) fw) i)))) i))) f)) f) (e (y c5) f))
def NN:FD:=⟨445,cF,[aU],[],[],FP⟩
def FQ:g7:=e (j cy (d dg)) (e (j (k aY) (s (g gy i))) (e (p (o C (d eE) bh) (e (j (k aY) (s (g gy (g dF (g (d (a dD)) i))))) f) f) (e (p (o C (d eE) fy) (e (j (k aY) (s (g gy (g (d (a dD)) i)))) f) f) (e (y (ac (d cm) (v B (d aY) (s (g dF i))) (v B (s (g dF i)) (d aY)))) f))))
def NO:FD:=⟨452,cj,[dg,cm],[],[],FQ⟩
def FR:g7:=e (p (n cn cB) (e (y (s (g (n cn cB) i))) f) f) (e (j (k (b bb)) (X gy cy (u c5) cg [])) (e (j (k (a df)) (ah f6 fD)) (e (p (I fM) (e (y (v B (d (a df)) (d (b bb)))) f) f) (e (p (d cm) (e (y (ac (n cn cC) (v B (s (g fP i)) (d (b bb))) (d (a df)))) f) f) (e (y (ac (n cn cC) (s (g fP i)) (v B (d (a df)) (d (b bb))))) f)))))
def xD:FD:=⟨457,ca,[fL,(b df),cm,(a bb)],[],[],FR⟩
def BC:g7:=e (p (o C d8 (n cn cB)) (e (j (t cn cB) fw) f) (e (p (o C d8 fP) (e (j (t cn cC) c4) f) (e (p (o C (s (g d8 i)) (ah f6 fD)) (e (j (t cn cu) (av f6 fD)) (e (j (t cn cC) (d cm)) f)) (e (x (L (A (k eI) (A (k dg) M)) 2) (an c5) (e (p (o C (n (d dg) bh) d8) (e (j (k (b bH)) (D ae (g (n cn dc) i))) (e (j (t dW (v B (d eI) bh)) (v B (n dW (v B (d eI) bh)) bh)) (e (p (o C (n (d dg) bw) bh) (e (j (t cn cu) (v B f6 (s (g (n (d dg) fy) i)))) (e (j (t cn cC) cg) (e (j (t dW bw) (v B (n dW bw) bh)) (e (j (t cn dn) (D aw (g (n cn dn) (g (D K (g f6 i)) i)))) f)))) f) (e (p (o C (n (d dg) bw) fy) (e (j (t cn cB) (n (d dg) fy)) f) f) (e (j (t cn dc) dW) f))))) f) f) f) f)) f)) f)) f
def ti:FD:=⟨464,cq,[fL,cm,(a bb),(a bH)],[],[],BC⟩
def NP:g7:=e (p (o C fg dh) (e (y bw) f) f) (e (p (I (d (b fG))) (e (y (n fg bw)) f) f) (e (y (ac (d cm) (D aw (g (v B (n fg bw) bh) (g (n fg bh) i))) (D aw (g (n fg bw) (g (v B (n fg bh) bh) i))))) f))
def wk:FD:=⟨471,cE,[cp,(b fG),cm],[],[],NP⟩
def NQ:g7:=e (j (L (A (k (b bP)) (A (k cp) (A (k (b bH)) M))) 3) (d (a bP))) (e (j (k (b bP)) (D ae (g eF i))) (e (j (k cp) (D ae (g fg i))) (e (j (k (b bH)) (D ae (g dW i))) (e (x (k (a dk)) (aC (g (h (m 60)) i)) (e (j (k cJ) (r (n (l fN eY) (n eF fD)) ce (g (d (a eY)) i))) (e (p (Y (o aD (d cJ) eL) (o am (d cJ) bw)) (e (y (F (g (d cJ) (g (F (g (v B eF (s (g (d cJ) i))) (g fg (g dW i)))) i)))) f) f) (e (j (k aY) (n (d (a dl)) eN)) (e (j (k (b eC)) (D K (g (X (d (b dl)) (k (b dl)) (u (d aY)) (o C (d (b dl)) dF) []) i))) (e (j (k (b bP)) (av eF (v O (D K (g eF i)) (D K (g (d aY) i))))) (e (z (r eF aS (g (n (n (l fN dl) (n eF fD)) dF) i))) (e (j (k (b d5)) (H cE (g (ah fg (v O (D K (g fg i)) (d (b eC)))) (g (n (d (a d5)) eN) (g (d cm) i))))) (e (j (k cp) (v B (av fg (v O (D K (g fg i)) (d (b eC)))) (s (g (d (b d5)) i)))) (e (j (t dW eN) (v B (n dW eN) bh)) f))))))))) f) (e (y (F (g eL (g (F (g eF (g fg (g dW i)))) i)))) f)))))
def zF:FD:=⟨476,bV,[(b dk),(a dl),(a d5),cm,(a bP),(a eY)],[],[],NQ⟩
def o5:g7:=e (j (k aU) (H ch (g (d (a eC)) i))) (e (j (aB cm) (o C dM bh)) (e (j (k (b df)) (n (s (g fw (g fP i))) dM)) (e (j (k fL) (H cF (g (d aU) i))) (e (j (k (a fH)) (n (s (g dj (g (h (q 9223737074874581074)) i))) dM)) (e (j (k (b fH)) (v O (h (m 12)) (ab (d aU) (g (h (m 13)) i)))) (e (j (k (a dl)) (v B (s (g (ac fM (s (g fM i)) dh) i)) (X (H cj (g (d dg) (g (N cm) i))) (k dg) (u c5) cg [cm]))) (e (j (k (a d5)) (v B (s (g c4 i)) (X (o C (n (d dg) bw) bh) (k dg) (u c5) cg []))) (e (j (k (a eK)) (v B (v B (X gy cy (u c5) cg []) (X (d (a dD)) cy (u c5) (d eE) [])) (X d8 (k (a bH)) (u fM) cg []))) (e (j (k bP) (ak dz (g (D ae (g (d (a eK)) i)) i))) (e (x (k aY) (u (d (a dl))) (e (z (r (d bP) b5 (g dF (g (D ae (g (d aY) i)) i)))) f) f) (e (z (r (d bP) cN (g dF i))) (e (j (k (b dk)) (ak cw (g (d bP) (g (d (a fH)) i)))) (e (p (Y (o V (l fN (a fj)) dh) (o V (l fN (b fj)) dh)) eP f) (e (j (k (a bb)) (G (g cu (g dh (g cB (g fw (g cC (g cg (g dc (g (v B (s (g bh i)) (X bw (k dg) (u c5) cg [])) (g dn fU))))))))))) (e (j (k (a bP)) (F (g (s fU) (g dh (g (v B (s fU) (X bw (k dg) (u c5) cg [])) i))))) (e (j (k (b eK)) bw) (e (W cg (e (j (k (a eD)) (H ca (g c5 (g fM (g (N cm) (g cn i)))))) (e (j (k (b eD)) (Y (o C (d (b eK)) (d (b fH))) (o C gz dh))) (e (p (Y (d (b eD)) (o Z (d (b eK)) (h (m 4)))) (e (x (k (a bH)) (u (d (a eK))) (e (p (S (o Q d8 gz) (o au (n bk bw) eL)) eP f) (e (p (S (o T d8 gz) (I (o ad (Y (n bk bw) bw) bw))) eP f) f)) f) (e (j (k (a gv)) (S (o C (n cn cB) fw) (S (o C f6 dh) (I (S fM (n cn cC)))))) (e (j (L (A (k cJ) (A (k (b gv)) M)) 2) (H bV (g fN (g (d (a dl)) (g (d (a d5)) (g (N cm) (g (d (a bP)) (g bR i)))))))) (e (p (o V (d cJ) (ac (d (a gv)) bw eL)) eP f) (e (p (S (d (a gv)) (Y (o V (n (d (b gv)) bh) (s (g (n cn dn) i))) (o V (n (d (b gv)) fy) (n cn dc)))) eP f) f))))) f) (e (p (d (b eD)) (e (y cg) f) f) (e (j (k (a bH)) (n gz (v ar (ab (d aU) (g (h (m 60)) i)) (D K (g gz i))))) (e (j (L (A (k cJ) (A (k (a bP)) M)) 2) bk) (e (p (Y (o aD (d cJ) eL) (o C (d cJ) bw)) eP f) (e (z (H cq (g c5 (g (N cm) (g cn (g d8 i)))))) (e (ag (b eK) B bh) f))))))))) f) f)))))))))))))))))
def wm:FD:=⟨481,gb,[(a eC)],[],[cm],o5⟩
noncomputable def FT:g7:=e (y (r (N aO) cr (g (N cb) (g cf (g (N cP) i))))) f
noncomputable def YT:FD:=⟨1000,cR,[dQ],[],[],FT⟩
def FU:g7:=e (y (r (N aO) b8 (g (N cb) (g cf (g (N cP) i))))) f
def n_1:FD:=⟨1001,cR,[dQ],[],[],FU⟩
noncomputable def FV:g7:=e (y (n (N (a eJ)) cf)) f
noncomputable def n_2:FD:=⟨1002,cR,[dQ],[],[],FV⟩
def FW:g7:=e (y (r (N (b eJ)) ce (g cf (g dh i)))) f
def YU:FD:=⟨1003,cR,[dQ],[],[],FW⟩
def BD:g7:=e (j (t (N (b ei)) dK) (v B (n (N (b ei)) dK) bh)) (e (y (ac (o aM (n (N (b ei)) dK) (D aA (g (D K (g (N (a eC)) i)) (g (h (m 63)) i)))) (v ar (n (N (a eC)) (v O (n (N (b ei)) dK) bh)) (d (b eC))) bw)) f)
def tj:FD:=⟨1004,85075053862610529373003489094215401586,[(b eC)],[],[],BD⟩
def PQ:jE:=⟨[(bI,Ng),(bL,Nk),(cH,Nu),(cz,Nv),(bS,Nw),(ch,NM),(cF,NN),(cj,NO),(ca,xD),(cq,ti),(cE,wk),(bV,zF),(gb,wm)],[(cD,(.node .none (.node .none (.node (some (.int 0)) .nil .nil) .nil) (.node (some (.int 0)) .nil .nil)),[(be,Nh),(dA,Ni)]),(dX,.nil,[(be,Nj)]),(dz,.nil,[(be,Nl),(b5,Nm),(cN,Nn),(cU,Np),(bM,Nq),(bX,Nr),(b9,Nt)]),(cw,.nil,[(be,Nx),(bU,Ny),(bz,Nz),(cM,NA),(bc,NB),(bg,NC),(cr,ND),(b8,NF),(bl,NG),(bO,NH),(bF,NI),(bZ,NJ),(bG,NK),(bY,NL)])],[YT,n_1,n_2,YU,tj],.none⟩
noncomputable def YV:List (Ad×Str):=[(.h,gM "s"),((a c),gM "c"),(f8,gM "reduced"),(aN,gM "lr0_added"),(aP,gM "name"),(aO,gM "self"),(aR,gM "prod"),(aU,gM "number"),(gc,gM "func"),((a aP),gM "callable"),(gd,gM "file"),(fB,gM "line"),((b aO),gM "precedence"),((a aR),gM "prec"),(cK,gM "len"),(fC,gM "usyms"),(gf,gM "lr_items"),(aQ,gM "lr_next"),(aT,gM "str"),(bD,gM "index"),(bj,gM "pdict"),(bT,gM "p"),(aZ,gM "n"),(aX,gM "lr_index"),(bp,gM "lookaheads"),(aY,gM "symbols"),(bf,gM "i"),(bK,gM "terminals"),(bB,gM "Productions"),(dP,gM "Prodnames"),((b cK),gM "Prodmap"),(bE,gM "Terminals"),(bn,gM "term"),(bx,gM "Nonterminals"),(bJ,gM "First"),(bW,gM "Follow"),(fT,gM "Precedence"),((a aT),gM "UsedPrecedence"),((b aT),gM "Start"),((a bD),gM "assoc"),((b bD),gM "level"),(c6,gM "prodname"),(c7,gM "syms"),((a bT),gM "precname"),(fj,gM "prodprec"),(gj,gM "map"),((b aZ),gM "m"),(ey,gM "pnumber"),(fk,gM "t"),(dZ,gM "start"),(fV,gM "result"),((a aY),gM "beta"),(dQ,gM "x"),(fq,gM "x_produces_empty"),(dq,gM "f"),(eV,gM "some_change"),(eI,gM "k"),(eJ,gM "didadd"),(gm,gM "B"),((a dP),gM "fst"),((b dP),gM "hasempty"),(eB,gM "lastlri"),(bQ,gM "lri"),(d4,gM "lr_after"),(fF,gM "lr_before"),((a bn),gM "N"),(dC,gM "X"),(gq,gM "stack"),((b bx),gM "F"),(ei,gM "R"),(eC,gM "FP"),((a bW),gM "d"),(eW,gM "rel"),(dD,gM "y"),(bb,gM "a"),(df,gM "element"),(bH,gM "I"),(fG,gM "method"),(bP,gM "grammar"),(dk,gM "lr_method"),(eY,gM "lr_action"),(dl,gM "lr_goto"),(d5,gM "lr_productions"),(fH,gM "lr_goto_cache"),(eK,gM "lr0_cidhash"),(eD,gM "_add_count"),(gv,gM "sr_conflict"),((a (a bT)),gM "rr_conflict"),((b (a bT)),gM "conflicts"),((a fj),gM "sr_conflicts"),((b fj),gM "rr_conflicts"),((a gj),gM "log"),((b gj),gM "J"),(gw,gM "j"),(cG,gM "g"),((a ey),gM "gs"),((b ey),gM "s1"),(cb,gM "C"),((b fk),gM "asyms"),((a dZ),gM "ii"),(cP,gM "nullable"),((a fV),gM "num_nullable"),(cY,gM "trans"),((a (a aY)),gM "stateno"),(cZ,gM "state"),((a dQ),gM "terms"),((b dQ),gM "empty"),((a fq),gM "lookdict"),((b fq),gM "includedict"),((a dq),gM "dtrans"),((b dq),gM "lookb"),((a eV),gM "includes"),((b eV),gM "li"),((a eI),gM "r"),((b eI),gM "ntrans"),((a eJ),gM "readsets"),((b eJ),gM "inclsets"),((a gm),gM "lookbacks"),((b gm),gM "lb"),((a (a dP)),gM "followset"),((b (a dP)),gM "lookd"),((a (b dP)),gM "included"),((b (b dP)),gM "followsets"),((a eB),gM "goto"),((b eB),gM "action"),((a bQ),gM "actionp"),((b bQ),gM "st"),((a d4),gM "st_action"),((b d4),gM "st_actionp"),((a fF),gM "st_goto"),((b fF),gM "laheads"),((a (a bn)),gM "sprec"),((b (a bn)),gM "slevel"),((a dC),gM "rprec"),((b dC),gM "rlevel"),((a gq),gM "oldp"),((b gq),gM "pp"),((a (b bx)),gM "chosenp"),((b (b bx)),gM "rejectp"),((a ei),gM "nkeys"),((b ei),gM "held"),((a eC),gM "script"),((b eC),gM "below"),(fL,gM "forms"),(eE,gM "kind"),(dg,gM "form"),((b eW),gM "one"),((a dD),gM "other"),(cm,gM "rightward"),((a bb),gM "view"),((b bb),gM "firsts"),((a df),gM "closing"),((b df),gM "base"),((a bH),gM "letter"),((b bH),gM "calls"),(cp,gM "depths"),((b fG),gM "pair"),((a bP),gM "desk"),((b bP),gM "trail"),((a dk),gM "_"),((b dk),gM "table"),((a eY),gM "token"),(cJ,gM "act"),((a dl),gM "rules"),((b dl),gM "symbol"),((a d5),gM "pairs"),((b d5),gM "depth"),((a fH),gM "way"),((b fH),gM "most"),((a eK),gM "letters"),((b eK),gM "place"),((a eD),gM "possible"),((b eD),gM "last"),((a gv),gM "whole"),((b gv),gM "after")]
noncomputable def YW:List (Str×AV):=[(gM "_IDENTIFIER",(.str bu)),(gM "MAXINT",(.int 9223372036854775807))]
noncomputable def attrL:List Ad:=[aP,aR,aU,gc,(a aP),gd,fB,(a aR),cK,fC,gf,aQ,aT,aX,bp,bB,dP,(b cK),bE,bx,bJ,bW,fT,(a aT),(b aT),d4,fF,bP,dk,eY,dl,d5,fH,eK,eD,gv,(a (a bT)),(b (a bT)),(a fj),(b fj),aN,f8]
noncomputable def YX:List (Ad×Addr×Addr):=[(.o .h,437,433),(.i .h,395,391),(.o (a c),402,398)]
noncomputable def YY:List (Ad×Addr):=[(.h,54)]
def YZ:List Ent:=[⟨gM "_is_identifier",bI,39,Ng⟩,⟨gM "rightmost_terminal",bL,146,Nk⟩,⟨gM "digraph",cH,294,Nu⟩,⟨gM "traverse",cz,301,Nv⟩,⟨gM "_place",bS,318,Nw⟩,⟨gM "_law_numbers",ch,438,NM⟩,⟨gM "_law_forms",cF,445,NN⟩,⟨gM "_law_symbols",cj,452,NO⟩,⟨gM "_law_possible",ca,457,xD⟩,⟨gM "_law_onward",cq,464,ti⟩,⟨gM "_law_depth",cE,471,wk⟩,⟨gM "_law_walked",bV,476,zF⟩,⟨gM "law",gb,481,wm⟩]
def Y0:List Bv:=[⟨gM "Production",cD,100,(.node .none (.node .none (.node (some (.int 0)) .nil .nil) .nil) (.node (some (.int 0)) .nil .nil)),[⟨gM "__init__",be,62,Nh⟩,⟨gM "__len__",dA,83,Ni⟩]⟩,⟨gM "LRItem",dX,135,.nil,[⟨gM "__init__",be,118,Nj⟩]⟩,⟨gM "Grammar",dz,283,.nil,[⟨gM "__init__",be,172,Nl⟩,⟨gM "add_production",b5,201,Nm⟩,⟨gM "set_start",cN,209,Nn⟩,⟨gM "_first",cU,258,Np⟩,⟨gM "compute_first",bM,265,Nq⟩,⟨gM "compute_follow",bX,273,Nr⟩,⟨gM "build_lritems",b9,280,Nt⟩]⟩,⟨gM "LRGeneratedTable",cw,427,.nil,[⟨gM "__init__",be,333,Nx⟩,⟨gM "lr0_closure",bU,340,Ny⟩,⟨gM "lr0_goto",bz,347,Nz⟩,⟨gM "lr0_items",cM,354,NA⟩,⟨gM "compute_nullable_nonterminals",bc,361,NB⟩,⟨gM "find_nonterminal_transitions",bg,368,NC⟩,⟨gM "dr_relation",cr,375,ND⟩,⟨gM "reads_relation",b8,382,NF⟩,⟨gM "compute_lookback_includes",bl,389,NG⟩,⟨gM "compute_read_sets",bO,396,NH⟩,⟨gM "compute_follow_sets",bF,403,NI⟩,⟨gM "add_lookaheads",bZ,410,NJ⟩,⟨gM "add_lalr_lookaheads",bG,417,NK⟩,⟨gM "lr_parse_table",bY,424,NL⟩]⟩]
def FX(sc:hU):Option Ad:=if mK sc "held" .cell then some (a c)else if mK sc "nullable" .cell then some f8 else if mK sc "inclsets" .cell then some aN else none
def mQ:Dat:={glob:=YZ,cls:=Y0,P:=PQ,nm:=YV,attr:=attrL,consts:=YW,tab:=FX,mA:=YX,zw:=YY}
end
end Mini.Internal
section
namespace Mini.Internal
open PySem PySem.W
def wU(tb:String→Option Builtin)(p:lg)(w:jb)(n₀:Nat)(ann:Option gG):Nat→SharedT→Thread→Option SharedT
 |0,_,_=>none
 |n+1,s,t=>match through t with
  |true=>some s
  |false=>match stepOk n₀ ann t with
   |false=>none
   |true=>match stepT (denote tb) p w s t with
    |some q=>wU tb p w n₀ ann n q.1 q.2
    |none=>none
theorem Qz:∀{n:Nat}{s s':SharedT}{t:Thread},wU tb p w n₀ ann n s t=some s'→topRun tb p w n₀ ann n s.abs t=some s'.abs
 |0,_,_,_,h=>by cases h
 |n+1,s,s',t,h=>by
  unfold wU at h;unfold topRun
  cases ht:through t with
  |true=>rw[ht]at h;cases h;rfl
  |false=>
   rw[ht]at h
   cases hk:stepOk n₀ ann t with
   |false=>rw[hk]at h;cases h
   |true=>
    rw[hk]at h
    cases hs:stepT (denote tb) p w s t with
    |none=>rw[hs]at h;cases h
    |some r=>rw[hs]at h;rw[stepT_spec (s':=r.1) (t':=r.2) hs];exact Qz h
def treeOf(l:List Obj):PySem.W.BT×Nat:=l.foldl (λq o=>(q.1.ins q.2 o,q.2+1)) (.nil,0)
def Ho(p q:lg)(loose:List PySem.Str)(Xt:gJ→Bool){α:Type}(Yf:gJ→α)(h₀:Heap)(s:gJ):=
 ((staticsOk (importedModules p.main.body) h₀ s.heap&&namesBound p s.heap&&gensDone s&&laidKept h₀ s.heap),openSeen q loose (importedModules p.main.body) Xt true s,Yf s)
def Ao(P:Params)(os:OsState):SharedT:=⟨(treeOf (boot_heap P).objs.toList).1,(boot_heap P).objs.size,(boot_heap P).life,#[],boot_drawn,boot_toks,os⟩
theorem aed{p q:lg}{loose:List PySem.Str}{Xt:gJ→Bool}{oa ob oc:gJ→Bool}{N M m₀:Nat}{ann:Option gG}
 (e:opening p=plainProg p.main.scope.names)(hN:iS 600 N=true)(f:∀s,fenceModules? p s=some s)
 (tree:∀P os,(Ao P os).abs=⟨boot_heap P,#[],boot_drawn,boot_toks,os⟩)
 (size:∀w:jb,((boot_heap w.params).isNs pd,(boot_heap w.params).objs.size,(boot_heap w.params).nsMap pd "__annotations__")=(true,m₀,ann))
 (le:iS M N=true)
 (ra:∀(w:jb)(os:OsState),(wU treeTable p w m₀ ann M (Ao w.params os) (topStub p)).map (λs=>Ho p q loose Xt oa (boot_heap w.params) s.abs)=some (true,openGood q loose,true))
 (rb:∀(w:jb)(os:OsState),(wU treeTable p w m₀ ann M (Ao w.params os) (topStub p)).map (λs=>ob s.abs)=some true)
 (rc:∀(w:jb)(os:OsState),(wU treeTable p w m₀ ann M (Ao w.params os) (topStub p)).map (λs=>oc s.abs)=some true):LeftO p q loose Xt (λs=>oa s&&(ob s&&oc s)) (λU=>true) N:=λw=>by
 obtain⟨⟨h,gs,d,k,os⟩,e1,e2⟩:=pW.mp (boot_open e hN f w);obtain⟨rfl,rfl,rfl,rfl⟩:h=boot_heap w.params∧gs= #[]∧d=boot_drawn∧k=boot_toks:=by simpa using e2
 obtain⟨s1,r1,r2⟩:=pW.mp (ra w os);have rb:=rb w os;have rc:=rc w os;rw[r1]at rb rc;have rb:ob s1.abs=true:=gP rb;have rc:oc s1.abs=true:=gP rc;have z:=size w;rw[Prod.mk.injEq,Prod.mk.injEq]at z;obtain⟨z1,z2,z3⟩:=z;unfold Ho at r2;rw[Prod.mk.injEq,Prod.mk.injEq]at r2;obtain⟨l1,l2,l3⟩:=r2;have r:=Qz r1;rw[tree]at r;have r:=topRun_mono (N- M) _ _ _ _ r;rw[show M+(N- M)=N by have:=kT le;lia]at r;have t:topFrom treeTable p w N ⟨boot_heap w.params,#[],boot_drawn,boot_toks,os⟩=some s1.abs:=by
  unfold topFrom;dsimp only;rw[z1,z2,z3,r];show(match staticsOk (importedModules p.main.body) (boot_heap w.params) s1.abs.heap&&namesBound p s1.abs.heap&&gensDone s1.abs&&laidKept (boot_heap w.params) s1.abs.heap with|true=>_|false=>_)=_;rw[l1]
 unfold openEnds;rw[e1];show(topFrom treeTable p w N _).map _=_;rw[t];exact congrArg some (Prod.ext l2 (by show(oa s1.abs&&(ob s1.abs&&oc s1.abs))=true;rw[l3,rb,rc];rfl))
end Mini.Internal
set_option maxHeartbeats 0
open PySem PySem.W PyProof.Rows
namespace Mini.Internal
section
def KK(K:Frag):Frag:=nu [433,391,398] K
def QA(K:Frag):Bool:=(zD mQ (KK K)).all id
def QB(K:Frag):Bool:=rF K 433&&rF K 391&&rF K 398&&BA K 54&&((KK K).lookup nA).isSome&&zB mQ (KK K) 481 wm&&zy K pd "law"==some (.ref 481)&&zC K pd
def adL:List Nat:=[100,99,135,134,283,282,427,426,3,0,2,1,4,5,39,38,62,61,83,82,118,117,146,145,172,171,201,200,209,208,258,257,265,264,273,272,280,279,294,293,301,300,318,317,333,332,340,339,347,346,354,353,361,360,368,367,375,374,382,381,389,388,396,395,403,402,410,409,417,416,424,423,438,437,445,444,452,451,457,456,464,463,471,470,476,475,481,480,55,194,202,266,326,54,433,391,398]
def fragOf(s:gJ):Frag:=adL.filterMap λa=>match s.heap.get? a with|some o=>some (a,o)|none=>none
def CA(s:gJ):Bool:=QA (fragOf s)&&QB (fragOf s)&&ie s.heap.objs.size 482
def Hp(s:gJ):Bool:=(mQ.cls.take 2).all (sC mQ (KK (fragOf s)))
def Hq(s:gJ):Bool:=(mQ.cls.drop 2).all (sC mQ (KK (fragOf s)))
def q7:lg:=view lj.prog [25]
def Hr:List PySem.Str:=["_wall","__name__","MAXINT","YaccError","_is_identifier","_IDENTIFIER","_literal","Production","LRItem","rightmost_terminal","GrammarError","Grammar","digraph","traverse","LALRError","_place","LRGeneratedTable","_law_numbers","_law_forms","_law_symbols","_law_possible","_law_onward","_law_depth","_law_walked"]
def QC(s:gJ):Bool:=xlAt q7 [] s&&recOk (RowW.records lj.row.toRowW) s
abbrev Hs(w:jb)(os:OsState):Option SharedT:=wU treeTable lj.prog w 11 (some (.ref 6)) 3500 (Ao w.params os) (topStub lj.prog)
end
end Mini.Internal
set_option maxHeartbeats 0
open PySem PySem.W PyProof.Rows
namespace Mini.Internal
theorem ra7:∀(w:jb)(os:OsState),(Hs w os).map (λs=>Ho lj.prog q7 Hr QC CA (boot_heap w.params) s.abs)=some (true,openGood q7 Hr,true):=by intro w os;kernel_rfl
end Mini.Internal
set_option maxHeartbeats 0
open PySem PySem.W PyProof.Rows
namespace Mini.Internal
theorem rb7:∀(w:jb)(os:OsState),(Hs w os).map (λs=>Hp s.abs)=some true:=by intro w os;kernel_rfl
end Mini.Internal
set_option maxHeartbeats 0
open PySem PySem.W PyProof.Rows
namespace Mini.Internal
theorem rc7:∀(w:jb)(os:OsState),(Hs w os).map (λs=>Hq s.abs)=some true:=by intro w os;kernel_rfl
end Mini.Internal
end
set_option genInjectivity false
namespace Mini.Internal
section
section
variable{α β:Type}{σ σ' σ1:gI}{ρ:Loc}{κ:gX}{K:KE}
@[simp] theorem j5(a:α)(f:α→gI→R β):(R.ok a σ).bind f=f a σ:=rfl
@[simp] theorem NR(a:α)(f:α→gI→RS):(R.ok a σ).run f=f a σ:=rfl
@[simp] theorem NS(a:α):(R.ok a σ).nM=R.ok a σ:=rfl
@[simp] theorem mj(a:α)(w:Nat)(f:α→R β):go (some a) w f=f a:=rfl
@[simp] theorem FY(f:Loc→gI→RS):(RS.next ρ σ).then f=f ρ σ:=rfl
@[simp] theorem Y1(x:Ad):dE (.loc x) K ρ κ σ=go (ρ.get x) 27 λv=>.ok v σ:=rfl
@[simp] theorem Y2(x:Ad):dE (.xC x) K ρ κ σ=go (kh κ x) 28 λa=>match σ.get a with|some (.cell (some v))=>.ok v σ|_=>.stuck 28:=rfl
@[simp] theorem Y3(e:IE)(x:Ad):dE (.attr e x) K ρ κ σ=(dE e K ρ κ σ).bind λo σ=>getAttr K.P o x σ:=rfl
@[simp] theorem Y4(e i:IE):dE (.sub e i) K ρ κ σ=(dE e K ρ κ σ).bind λo σ=>(dE i K ρ κ σ).bind λk σ=>getItem K.P.xs o k σ:=rfl
@[simp] theorem Y5(e a:IE):dE (.Ff e a) K ρ κ σ=(dE e K ρ κ σ).bind λo σ=>(dE a K ρ κ σ).bind λi σ=>go (jV i) 10 λi=>m7 o (some i) .none σ:=rfl
@[simp] theorem Y6(e b:IE):dE (.Nd e b) K ρ κ σ=(dE e K ρ κ σ).bind λo σ=>(dE b K ρ κ σ).bind λi σ=>go (jV i) 10 λi=>m7 o .none (some i) σ:=rfl
@[simp] theorem Y7(k:Nat)(as:i9):dE (.Fe k as) K ρ κ σ=go (iM K.P.m3 k) 29 λfd=>(dL as K ρ κ σ).bind λvs σ=>K.call fd [] vs σ:=rfl
@[simp] theorem Y8(b:BI)(as:i9):dE (.me b as) K ρ κ σ=(dL as K ρ κ σ).bind λvs σ=>me K b vs σ:=rfl
@[simp] theorem Y9(e:IE)(as:i9):dE (.rT e as) K ρ κ σ=(dE e K ρ κ σ).bind λf σ=>go (tP σ f) 32 λU=>(dL as K ρ κ σ).bind λvs σ=>go (tP σ f) 32 λp=>rT K p vs σ:=rfl
@[simp] theorem Y'(e:IE)(m:Nat)(as:i9):dE (.Fd e m as) K ρ κ σ=(dE e K ρ κ σ).bind λo σ=>go (sR K.P o m σ) 21 λr=>(dL as K ρ κ σ).bind λvs σ=>tO K.call o r vs σ:=rfl
@[simp] theorem Za(op:Op)(a b:IE):dE (.bin op a b) K ρ κ σ=(dE a K ρ κ σ).bind λx σ=>(dE b K ρ κ σ).bind λy σ=>binop op x y σ:=rfl
@[simp] theorem Zb(a:IE):dE (.neg a) K ρ κ σ=(dE a K ρ κ σ).bind λx σ=>go (jV x) 34 λi=>.ok (.int (-i)) σ:=rfl
@[simp] theorem Zc(a:IE):dE (.not a) K ρ κ σ=(test (dE a) K ρ κ σ).bind λt σ=>.ok (.bool (jR t)) σ:=rfl
@[simp] theorem Zd(op:Cp)(a b:IE):dE (.cmp op a b) K ρ κ σ=(dE a K ρ κ σ).bind λx σ=>(dE b K ρ κ σ).bind λy σ=>cmp op x y σ:=rfl
@[simp] theorem NT(a b:IE):dE (.and a b) K ρ κ σ=(dE a K ρ κ σ).bind λx σ=>(ki x σ).bind λt σ=>match t with|true=>dE b K ρ κ σ|false=>.ok x σ:=by
 show R.bind _ _=R.bind _ _
 congr 1;funext x σ;congr 1;funext t σ;induction t<;>rfl
@[simp] theorem NU(a b:IE):dE (.or a b) K ρ κ σ=(dE a K ρ κ σ).bind λx σ=>(ki x σ).bind λt σ=>match t with|true=>.ok x σ|false=>dE b K ρ κ σ:=by
 show R.bind _ _=R.bind _ _
 congr 1;funext x σ;congr 1;funext t σ;induction t<;>rfl
@[simp] theorem NV(c a b:IE):dE (.ite c a b) K ρ κ σ=(test (dE c) K ρ κ σ).bind λt σ=>match t with|true=>dE a K ρ κ σ|false=>dE b K ρ κ σ:=by
 show R.bind _ _=R.bind _ _
 congr 1;funext t σ;induction t<;>rfl
@[simp] theorem Ze(es:i9):dE (.list es) K ρ κ σ=(dL es K ρ κ σ).bind λvs σ=>go (j8 vs) 35 λo=>alloc o σ:=rfl
@[simp] theorem Zf(es:i9):dE (.tuple es) K ρ κ σ=(dL es K ρ κ σ).bind λvs σ=>go (yc vs) 35 λo=>alloc o σ:=rfl
@[simp] theorem NW(e:IE)(t:IT)(it:II)(c:IE)(fr:List Ad):dE (.Nc e t it c fr) K ρ κ σ=(dI it K ρ κ σ).nM.bind λi σ=>go (lq κ fr) 35 λκ'=>(kj (dE e) (dT t) (dE c) K κ' σ.n K.N i .nil (σ.push (.list []))).nM.bind λU σ'=>.ok (.ref σ.n) σ':=rfl
@[simp] theorem Zg(e:IE)(l:i9):dL (.cons e l) K ρ κ σ=(dE e K ρ κ σ).bind λv σ=>(dL l K ρ κ σ).bind λvs σ=>.ok (v::vs) σ:=rfl
@[simp] theorem Zh(e i:IE)(v:AV):dT (.sub e i) K ρ κ v σ=(dE e K ρ κ σ).bind λo σ=>(dE i K ρ κ σ).bind λk σ=>(setItem o k v σ).bind λU σ=>.ok ρ σ:=rfl
@[simp] theorem NX(l:rQ)(n:Nat)(v:AV):dT (.tup l n) K ρ κ v σ=go (w2 σ v) 41 λvs=>match ie (iC vs) n with|true=>tQ l K ρ κ vs σ|false=>.stuck 41:=by
 show go _ _ _=go _ _ _
 congr 1;funext vs;cases ie (iC vs) n<;>rfl
@[simp] theorem NY(e:IE):dI (.val e) K ρ κ σ=(dE e K ρ κ σ).bind λv σ=>go (p7 σ v) 23 λit=>.ok it σ:=rfl
@[simp] theorem Zi(e:IE):dI (.enum e) K ρ κ σ=(dE e K ρ κ σ).bind λv σ=>go (refOf v) 25 λa=>go (σ.get a) 25 λo=>go (w3 a o) 25 λit=>.ok it σ:=rfl
@[simp] theorem Zj(e:IE):dS (.expr e) K ρ κ σ=(dE e K ρ κ σ).run λU σ=>.next ρ σ:=rfl
@[simp] theorem NZ(t:IT)(e:IE):dS (.assign t e) K ρ κ σ=(dE e K ρ κ σ).run λv σ=>(dT t K ρ κ v σ).run λρ σ=>.next ρ σ:=rfl
@[simp] theorem Zk(x:Ad)(op:Op)(e:IE):dS (.Nf x op e) K ρ κ σ=match ρ.get x with
 |some a=>(dE e K ρ κ σ).run λb σ=>(vP op a b σ).run λv σ=>.next (ρ.set x v) σ
 | .none=>.stuck 42:=rfl
@[simp] theorem N0(c:IE)(b o:g7):dS (.ite c b o) K ρ κ σ=(test (dE c) K ρ κ σ).run λt σ=>match t with|true=>dB b K ρ κ σ|false=>dB o K ρ κ σ:=by
 show R.run _ _=R.run _ _
 congr 1;funext t σ;induction t<;>rfl
@[simp] theorem Zl(t:IT)(it:II)(b o:g7):dS (.for t it b o) K ρ κ σ=(dI it K ρ κ σ).run λi σ=>lr (dT t) (dB b) (dB o) K κ K.N i ρ σ:=rfl
@[simp] theorem Zm(c:IE)(b o:g7):dS (.while c b o) K ρ κ σ=oP (dE c) (dB b) (dB o) K κ K.N ρ σ:=rfl
@[simp] theorem Zn(e:IE):dS (.ret e) K ρ κ σ=(dE e K ρ κ σ).run λv σ=>.ret v σ:=rfl
@[simp] theorem FZ(s:IS)(l:g7):dB (.cons s l) K ρ κ σ=(dS s K ρ κ σ).then λρ σ=>dB l K ρ κ σ:=rfl
@[simp] theorem zG(c:VE):test c K ρ κ σ=(c K ρ κ σ).bind ki:=rfl
@[simp] theorem tm(v:AV):ki v σ=go (truth σ v) 15 λb=>.ok b σ:=rfl
@[simp] theorem N1(t:BT β)(p q:Ad)(o:β):(t.set p o).get q=if q=p then some o else t.get q:=BT.get_set p q t o
theorem i4(o:gY):(σ.push o).get σ.n=some o:=by rw[gI.kB,if_pos rfl]
theorem jB(o:gY)(h:q.num<σ.n.num):(σ.push o).get q=σ.get q:=by
 rw[gI.kB,if_neg λe=>by rw[e]at h;exact jQ _ h]
theorem rG(o:gY)(p:Ad):(σ.set p o).get p=some o:=by rw[gI.get_set,if_pos rfl]
theorem Zo(o:gY)(h:q.num<p.num):(σ.set p o).get q=σ.get q:=by
 rw[gI.get_set,if_neg λe=>by rw[e]at h;exact jQ _ h]
theorem kH(o:gY)(h:q≠p):(σ.set p o).get q=σ.get q:=by
 rw[gI.get_set,if_neg h]
theorem N2(o:gY):(σ.push o).n.num=σ.n.num+1:=Ad.pF _
theorem yp(o:gY)(p:Ad):(σ.set p o).n=σ.n:=rfl
def WF(σ:gI):Prop:=∀p o,σ.get p=some o→p.num<σ.n.num
set_option tactic.hygienic true in
theorem WF.push(W:WF σ)(o:gY):WF (σ.push o):=λp o' e=>by
 rw[N2];rw[gI.kB]at e;split at e
 .rename_i h;rw[h];lia
 .have:=W _ _ e;lia
set_option tactic.hygienic true in
theorem WF.set(W:WF σ)(o:gY)(h:p.num<σ.n.num):WF (σ.set p o):=λq o' e=>by
 rw[yp];rw[gI.get_set]at e;split at e
 .rename_i h';rw[h'];exact h
 .exact W _ _ e
structure hZ(M:List Ad)(σ σ':gI):Prop where
 get:∀p o,p∉M→σ.get p=some o→σ'.get p=some o
 le:σ.n.num≤σ'.n.num
 wf:WF σ'
theorem hZ.refl(W:WF σ):hZ M σ σ:=⟨λU U U e=>e,i8 _,W⟩
theorem hZ.trans(X:hZ M σ σ1)(Y:hZ M σ1 σ'):hZ M σ σ':=⟨λp o h e=>Y.get p o h (X.get p o h e),ia X.le Y.le,Y.wf⟩
theorem hZ.mono(X:hZ M σ σ')(h:∀p∈M,p∈M'):hZ M' σ σ':=⟨λp o n e=>X.get p o (λq=>n (h p q)) e,X.le,X.wf⟩
theorem hZ.push(X:hZ M σ σ')(W:WF σ)(o:gY):hZ M σ (σ'.push o):=⟨λp o' h e=>by rw[jB _ (Nat.lt_of_lt_of_le (W _ _ e) X.le)];exact X.get p o' h e,by rw[N2];have:=X.le;lia,X.wf.push o⟩
theorem hZ.N3(X:hZ M σ σ')(W:WF σ)(o:gY)(h:σ.n.num≤p.num)(h2:p.num<σ'.n.num):hZ M σ (σ'.set p o):=⟨λq o' n e=>by rw[Zo _ (Nat.lt_of_lt_of_le (W _ _ e) h)];exact X.get q o' n e,X.le,X.wf.set o h2⟩
theorem hZ.setM(X:hZ M σ σ')(o:gY)(h:p∈M)(h2:p.num<σ'.n.num):hZ M σ (σ'.set p o):=⟨λq o' n e=>by rw[kH _ (λk=>n (by rw[k];exact h))];exact X.get q o' n e,X.le,X.wf.set o h2⟩
end
end
section
def cA(v:AV):Nat:=match v with| .none=>2| .int i=>8*l9 i| .str n=>8*n+1|_=>0
def iz(v:AV):Bool:=(match v with| .none=>true| .int _=>true| .str _=>true|_=>false)&&Nat.blt (m2 (cA v)) 65535
theorem xE(h:iz v=true):code L σ (n+1) v=some (cA v):=by
 unfold iz at h
 induction v with
 |none=>rfl
 |int i=>rfl
 |str n=>rfl
 |bool b=>simp at h
 |ref a=>simp at h
theorem BE{C:AV→Nat→Prop}{v:AV}(h:iz v=true)(k0:C .none (8*0+2))(k1:∀i,C (.int i) (8*l9 i+0))(k2:∀n,C (.str n) (8*n+1)):C v (cA v):=by
 cases v with
 |none=>exact k0
 |int i=>exact k1 i
 |str n=>exact k2 n
 |_=>exact gU h
theorem F0{v w:AV}(h:iz v=true)(h':iz w=true)(e:cA v=cA w):v=w:=
 BE (C:=λv c=>c=cA w→v=w) h (BE (C:=λw c=>8*0+2=c→.none=w) h' (λU=>rfl) (λi e=>tn e) λn e=>tn e)
  (λi=>BE (C:=λw c=>8*l9 i+0=c→.int i=w) h' (λe=>tn e) (λj e=>congrArg _ (Jd (tg e (by decide) (by decide)).2)) λn e=>tn e)
  (λn=>BE (C:=λw c=>8*n+1=c→.str n=w) h' (λe=>tn e) (λi e=>tn e) λm e=>congrArg _ (tg e (by decide) (by decide)).2) e
def cL:List AV→Nat
 |[]=>0
 |v::r=>((cL r+1)*2^(m2 (cA v)+1)+cA v)*65536+(m2 (cA v)+1)
theorem zH{v:AV}(h:iz v=true)(r:List AV):rR (cA v) (cL r+1)=some (cL (v::r)):=(Jb ..).trans (if_pos (Nat.lt_succ_of_le (kT (lJ.1 h).2)))
theorem Zp{xs:List AV}(h:xs.all iz=true):codes (lL (code L σ (n+1)) xs)=some (cL xs):=by
 induction xs with
 |nil=>rfl
 |cons v r ih=>
  refine gQ h λh1 h2=>?_;show codes (code L σ (n+1) v::lL (code L σ (n+1)) r)=_;rw[xE h1,Je,ih h2];exact zH h1 r
theorem Zq{xs ys:List AV}(h:xs.all iz=true)(h':ys.all iz=true)(e:cL xs=cL ys):xs=ys:=by
 induction xs generalizing ys with
 |nil=>
  cases ys with
  |nil=>rfl
  |cons w s=>exact gQ h' λh1 U=>absurd e (Nat.ne_of_lt (AD (zH h1 s)))
 |cons v r ih=>
  refine gQ h λh1 h2=>?_
  cases ys with
  |nil=>exact absurd e.symm (Nat.ne_of_lt (AD (zH h1 r)))
  |cons w s=>
   refine gQ h' λh3 h4=>?_;have z:=Jc (zH h1 r) ((zH h3 s).trans (congrArg some e.symm));rw[F0 h1 h3 z.1,ih h2 h4 (Nat.succ.inj z.2)]
theorem sE(h:iz v=true):lN σ v v=some true:=by
 unfold lN ma;rw[xE h];show some (ie (cA v) (cA v))=_;rw[Nat.beq_refl]
theorem xF(h:a≠b):ie a b=false:=by
 cases hb:ie a b
 .rfl
 .exact absurd (mH hb) h
theorem sF(h:iz v=true)(h':iz w=true)(n:v≠w):lN σ v w=some false:=by
 unfold lN ma;rw[xE h,xE h'];show some (ie (cA v) (cA w))=_;rw[xF λe=>n (F0 h h' e)]
theorem BG(hp:σ.get p=some (.list xs))(h:xs.all iz=true):ma σ (.ref p)=some (8*cL xs+4):=by
 unfold ma;rw[show code true σ 8 (.ref p)=match σ.get p with|some o=>Av true (code true σ 7) o|none=>none from Jh true σ 7 p,hp];show hG (motive:=λU=>Option Nat) .none (λc=>some (Nat.add (Nat.mul 8 c) 4)) (codes (lL (code true σ 7) xs))=_;rw[Zp h];rfl
theorem xG(hp:σ.get p=some (.list xs))(hq:σ.get q=some (.list xs))(h:xs.all iz=true):lN σ (.ref p) (.ref q)=some true:=by
 unfold lN;rw[BG hp h,BG hq h];show some (ie _ _)=_;rw[Nat.beq_refl]
theorem BH(hp:σ.get p=some (.list xs))(hq:σ.get q=some (.list ys))(h:xs.all iz=true)(h':ys.all iz=true)(n:xs≠ys):lN σ (.ref p) (.ref q)=some false:=by
 unfold lN;rw[BG hp h,BG hq h'];show some (ie _ _)=_;rw[xF λe=>n (Zq h h' (tg e (by decide) (by decide)).2)]
theorem N4(h:iz v=true):∀{xs:List AV},xs.all iz=true→∃b,p5 σ (cA v) xs=some b∧(b=true↔v∈xs)
 |[],_=>⟨false,rfl,by simp⟩
 |w::r,h'=>by
  rw[List.all_cons,n5]at h';refine gW (N4 (σ:=σ) h h'.2) λb e i=>?_;rw[JH,e];unfold ma;rw[xE h'.1]
  by_cases k:cA w=cA v
  .refine⟨true,?_,by rw[F0 h'.1 h k];simp⟩;show some (if cA w=cA v then true else b)=_;rw[if_pos k]
  .refine⟨b,?_,?_⟩
   .show some (if cA w=cA v then true else b)=_;rw[if_neg k]
   .rw[i,iL];exact⟨.inr,λz=>z.resolve_left λy=>k (by rw[y])⟩
theorem Zr(hp:σ.get p=some (.list xs))(hv:iz v=true)(h:xs.all iz=true):∃b,contains σ v (.ref p)=some b∧(b=true↔v∈xs):=by
 refine gW (N4 (σ:=σ) hv h) λb e i=>?_;refine⟨b,?_,i⟩;show hG (motive:=λU=>Option Bool) .none (CG σ v) (σ.get p)=_;rw[hp];show hG (motive:=λU=>Option Bool) .none (λk=>p5 σ k xs) (ma σ v)=_;unfold ma;rw[xE hv];exact e
end
section
section
variable{X:Option (List AV)}{α β:Type}{σ σ' σ1:gI}{ρ:Loc}{κ:gX}{K:KE}
@[simp] theorem Zs(a b:AV):cmp .eq a b σ=go (lN σ a b) 5 λt=>.ok (.bool t) σ:=rfl
@[simp] theorem Zt(a b:AV):cmp .ne a b σ=go (lN σ a b) 5 λt=>.ok (.bool (jR t)) σ:=rfl
@[simp] theorem Zu(a b:Int):cmp .gt (.int a) (.int b) σ= .ok (.bool (decide (b<a))) σ:=by rw[←nP];rfl
@[simp] theorem N5(a b:Int):cmp .lt (.int a) (.int b) σ= .ok (.bool (decide (a<b))) σ:=by rw[←nP];rfl
@[simp] theorem N6(a b:Int):cmp .ge (.int a) (.int b) σ= .ok (.bool (decide (b≤a))) σ:=by rw[←AB];rfl
@[simp] theorem N7(a b:Int):cmp .le (.int a) (.int b) σ= .ok (.bool (decide (a≤b))) σ:=by rw[←AB];rfl
@[simp] theorem Zv(a b:AV):cmp .As a b σ=go (contains σ a b) 8 λt=>.ok (.bool t) σ:=rfl
@[simp] theorem Zw(a b:AV):cmp .Au a b σ=go (contains σ a b) 8 λt=>.ok (.bool (jR t)) σ:=rfl
@[simp] theorem F1(a b:Int):binop .sub (.int a) (.int b) σ= .ok (.int (a- b)) σ:=rfl
@[simp] theorem F9(a b:Int):me K .max [.int a,.int b] σ= .ok (.int (max a b)) σ:=by
 show R.ok (AV.int (gT a b (kz a b))) σ=_;rw[nP]
 by_cases h:a<b
 .rw[decide_eq_true h,Int.max_eq_right (by lia)]
 .rw[decide_eq_false h,Int.max_eq_left (by lia)]
theorem F'(h:xs.length≤1000):j8 xs=some (.list xs):=by
 unfold j8;rw[show pf xs=true from(w8 xs).2 (ia h (by decide))]
theorem xH(h:σ.get p=some (.list xs)):getItem X (.ref p) i σ=p6 xs i σ:=by
 show go (σ.get p) 9 (λob=>ye X ob i σ)=_;rw[h];rfl
theorem getItem_tuple(h:σ.get p=some (.tuple xs)):getItem X (.ref p) i σ=tN xs i σ:=by
 show go (σ.get p) 9 (λob=>ye X ob i σ)=_;rw[h];rfl
theorem tu(h:σ.get p=some (.dict es)):getItem X (.ref p) i σ=dictAt es i σ:=by
 show go (σ.get p) 9 (λob=>ye X ob i σ)=_;rw[h];rfl
theorem Ga(h:i<n):place n (.ofNat i)=some i:=by
 show gT (motive:=λU=>Option Nat) .none (some i) (Nat.blt i n)=_;rw[show Nat.blt i n=true from Nat.ble_eq_true_of_le h]
theorem Zx(h:0<n):place n (-1)=some (n- 1):=by
 show gT (motive:=λU=>Option Nat) .none (some (Nat.sub (Nat.pred n) 0)) (Nat.blt 0 n)=_;rw[show Nat.blt 0 n=true from Nat.ble_eq_true_of_le h];rfl
theorem zI(h:xs[i]? =some v):p6 xs (.int (.ofNat i)) σ= .ok v σ:=by
 have hi:i<xs.length:=by
  rcases Nat.lt_or_ge i xs.length with k|k
  .exact k
  .rw[List.getElem?_eq_none k]at h;exact gV h
 unfold p6 jV;simp only[mj];rw[jo,Ga hi];simp only[mj];rw[mJ,h];rfl
theorem Gb(h:xs[i]? =some v):tN xs (.int (.ofNat i)) σ= .ok v σ:=by
 have hi:i<xs.length:=by
  rcases Nat.lt_or_ge i xs.length with k|k
  .exact k
  .rw[List.getElem?_eq_none k]at h;exact gV h
 unfold tN jV;simp only[mj];rw[jo,Ga hi];simp only[mj];rw[mJ,h];rfl
@[simp] theorem Zy{x:AV}{r:List AV}:p6 (x::r) (.int 0) σ= .ok x σ:=zI (i:=0) rfl
@[simp] theorem Zz{x y:AV}{r:List AV}:p6 (x::y::r) (.int 1) σ= .ok y σ:=zI (i:=1) rfl
@[simp] theorem Gc{x:AV}{r:List AV}:tN (x::r) (.int 0) σ= .ok x σ:=Gb (i:=0) rfl
@[simp] theorem N8{x y:AV}{r:List AV}:tN (x::y::r) (.int 1) σ= .ok y σ:=Gb (i:=1) rfl
@[simp] theorem Gd{x y z:AV}{r:List AV}:tN (x::y::z::r) (.int 2) σ= .ok z σ:=Gb (i:=2) rfl
theorem N9:p6 (xs++[v]) (.int (-1)) σ= .ok v σ:=by
 unfold p6 jV;simp only[mj];rw[jo,Zx (by simp)];simp only[mj];rw[mJ];simp
end
def o6:List Ad→List AV→Loc→Loc
 |x::xs,v::vs,ρ=>o6 xs vs (ρ.set x v)
 |_,_,ρ=>ρ
theorem N'(κ:gX):∀{xs:List Ad}{vs:List AV}{ρ:Loc},vs.length=xs.length→nJ [] κ xs vs ρ σ=some (o6 xs vs ρ,σ)
 |[],[],_,_=>rfl
 |x::xs,v::vs,ρ,h=>N' κ (xs:=xs) (vs:=vs) (ρ:=ρ.set x v) (Nat.succ.inj h)
theorem call_plain(hc:fd.cells=[])(hd:fd.nH=[])(hl:vs.length=fd.params.length):iF P N (d+1) fd κ vs σ=lu (dB fd.body ⟨P,N,iF P N d⟩ (o6 fd.params vs .nil) κ σ):=by
 show go (rS (iC fd.params) vs fd.nH) 48 (λvs=>match j9 fd.cells κ σ with
  |(κ,σ)=>go (nJ fd.cells κ fd.params vs .nil σ) 48 λq=>lu (dB fd.body ⟨P,N,iF P N d⟩ q.1 κ q.2))=_
 rw[hc,hd];have:rS (iC fd.params) vs []=some vs:=by
  unfold rS;rw[jo,jo,jo,←hl,show Nat.sub vs.length vs.length=0 from Nat.sub_self _];rw[show iS vs.length vs.length=true from Nat.ble_eq_true_of_le (i8 _),lQ,rX];show some (vs++[])=_;rw[nB]
 rw[this];show go (nJ [] κ fd.params vs .nil σ) 48 (λq=>lu (dB fd.body ⟨P,N,iF P N d⟩ q.1 κ q.2))=_;rw[N' κ hl];rfl
noncomputable def rH(xs:List Int)(pair rw:Bool):Int:=match xs with
 |[]=>0
 |x::r=>match pair with
  |false=>x
  |true=>match r with
   |[]=>x
   |y::_=>if rw then max (x+1) y else max x (y+1)
def tv(xs:List Int):Prop:=∀x∈xs,iz (.int x)=true
end
section
section
variable{K:KE}{ρ jk kl:Loc}{κ:gX}{σ σ1 σ2 σ3 A7:gI}{e a b i c:IE}{as:i9}{u v w o:AV}{vs:List AV}{x:Ad}{r:RS}{t:Bool}{s:IS}{l:g7}{re:R AV}
theorem gR(h:ρ.get x=some v):dE (.loc x) K ρ κ σ= .ok v σ:=by rw[Y1,h];rfl
theorem tw(h:kh κ x=some q)(g:σ.get q=some (.cell (some v))):dE (.xC x) K ρ κ σ= .ok v σ:=by rw[Y2,h,mj,g]
theorem Oa(h:dE e K ρ κ σ= .ok o σ1)(g:getAttr K.P o x σ1=re):dE (.attr e x) K ρ κ σ=re:=by rw[Y3,h];exact g
theorem iU(h:dE e K ρ κ σ= .ok o σ1)(k:dE i K ρ κ σ1= .ok u σ2)(g:getItem K.P.xs o u σ2=re):dE (.sub e i) K ρ κ σ=re:=by rw[Y4,h,j5,k];exact g
theorem Ge(h:dE e K ρ κ σ= .ok o σ1)(k:dE i K ρ κ σ1= .ok (.int n) σ2)(g:m7 o (some n) .none σ2=re):dE (.Ff e i) K ρ κ σ=re:=by rw[Y5,h,j5,k];exact g
theorem Gf(h:dE e K ρ κ σ= .ok o σ1)(k:dE i K ρ κ σ1= .ok (.int n) σ2)(g:m7 o .none (some n) σ2=re):dE (.Nd e i) K ρ κ σ=re:=by rw[Y6,h,j5,k];exact g
theorem BJ(h:iM K.P.m3 k=some fd)(g:dL as K ρ κ σ= .ok vs σ1)(z:K.call fd [] vs σ1=re):dE (.Fe k as) K ρ κ σ=re:=by rw[Y7,h,mj,g];exact z
theorem nv{b:BI}(g:dL as K ρ κ σ= .ok vs σ1)(z:me K b vs σ1=re):dE (.me b as) K ρ κ σ=re:=by rw[Y8,g];exact z
theorem Ob(h:dE e K ρ κ σ= .ok o σ1)(y:sR K.P o m σ1=some q)(g:dL as K ρ κ σ1= .ok vs σ2)(z:tO K.call o q vs σ2=re):dE (.Fd e m as) K ρ κ σ=re:=by rw[Y',h,j5,y,mj,g];exact z
theorem Oc(h:dE e K ρ κ σ= .ok o σ1)(y:tP σ1 o=some q)(g:dL as K ρ κ σ1= .ok vs σ1)(z:rT K q vs σ1=re):dE (.rT e as) K ρ κ σ=re:=by rw[Y9,h,j5,y,mj,g,j5,y];exact z
theorem kX(h:dE a K ρ κ σ= .ok u σ1)(k:dE b K ρ κ σ1= .ok v σ2)(z:binop op u v σ2=re):dE (.bin op a b) K ρ κ σ=re:=by rw[Za,h,j5,k];exact z
theorem jf(h:dE a K ρ κ σ= .ok u σ1)(k:dE b K ρ κ σ1= .ok v σ2)(z:cmp op u v σ2=re):dE (.cmp op a b) K ρ κ σ=re:=by rw[Zd,h,j5,k];exact z
theorem ZA(h:dE a K ρ κ σ= .ok (.int n) σ1):dE (.neg a) K ρ κ σ= .ok (.int (-n)) σ1:=by rw[Zb,h];rfl
theorem wo(h:dE a K ρ κ σ= .ok v σ1)(g:truth σ1 v=some t):dE (.not a) K ρ κ σ= .ok (.bool (jR t)) σ1:=by rw[Zc,zG,h,j5,tm,g];rfl
theorem tx(h:dE a K ρ κ σ= .ok v σ1)(g:truth σ1 v=some true)(z:dE b K ρ κ σ1=re):dE (.and a b) K ρ κ σ=re:=by rw[NT,h,j5,tm,g];exact z
theorem xI(h:dE a K ρ κ σ= .ok v σ1)(g:truth σ1 v=some false):dE (.and a b) K ρ κ σ= .ok v σ1:=by rw[NT,h,j5,tm,g];rfl
theorem BK(h:dE a K ρ κ σ= .ok v σ1)(g:truth σ1 v=some true):dE (.or a b) K ρ κ σ= .ok v σ1:=by rw[NU,h,j5,tm,g];rfl
theorem wq(h:dE a K ρ κ σ= .ok v σ1)(g:truth σ1 v=some false)(z:dE b K ρ κ σ1=re):dE (.or a b) K ρ κ σ=re:=by rw[NU,h,j5,tm,g];exact z
theorem zJ(h:dE c K ρ κ σ= .ok v σ1)(g:truth σ1 v=some true)(z:dE a K ρ κ σ1=re):dE (.ite c a b) K ρ κ σ=re:=by rw[NV,zG,h,j5,tm,g];exact z
theorem zK(h:dE c K ρ κ σ= .ok v σ1)(g:truth σ1 v=some false)(z:dE b K ρ κ σ1=re):dE (.ite c a b) K ρ κ σ=re:=by rw[NV,zG,h,j5,tm,g];exact z
theorem oA(g:dL as K ρ κ σ= .ok vs σ1)(h:j8 vs=some ob):dE (.list as) K ρ κ σ= .ok (.ref σ1.n) (σ1.push ob):=by rw[Ze,g,j5,h];rfl
theorem Od(g:dL as K ρ κ σ= .ok vs σ1)(h:yc vs=some ob):dE (.tuple as) K ρ κ σ= .ok (.ref σ1.n) (σ1.push ob):=by rw[Zf,g,j5,h];rfl
theorem jd:dL .nil K ρ κ σ= .ok [] σ:=rfl
theorem iO(h:dE e K ρ κ σ= .ok v σ1)(g:dL as K ρ κ σ1= .ok vs σ2):dL (.cons e as) K ρ κ σ= .ok (v::vs) σ2:=by rw[Zg,h,j5,g];rfl
theorem o7(h:dE e K ρ κ σ= .ok o σ1)(k:dE i K ρ κ σ1= .ok u σ2)(g:setItem o u v σ2= .ok () σ3):dT (.sub e i) K ρ κ v σ= .ok ρ σ3:=by rw[Zh,h,j5,k,j5,g];rfl
theorem BL(h:w2 σ v=some [u,w]):dT (.tup (.cons (.loc x) (.cons (.loc y) .nil)) 2) K ρ κ v σ= .ok ((ρ.set x u).set y w) σ:=by rw[NX,h];rfl
theorem Oe(h:w2 σ v=some [u,w,o]):dT (.tup (.cons (.loc x) (.cons (.loc y) (.cons (.loc z) .nil))) 3) K ρ κ v σ= .ok (((ρ.set x u).set y w).set z o) σ:=by rw[NX,h];rfl
theorem lT(h:dE e K ρ κ σ= .ok v σ1):dS (.assign (.loc x) e) K ρ κ σ= .next (ρ.set x v) σ1:=by rw[NZ,h];rfl
theorem mR{t:IT}(h:dE e K ρ κ σ= .ok v σ1)(g:dT t K ρ κ v σ1= .ok jk σ2):dS (.assign t e) K ρ κ σ= .next jk σ2:=by rw[NZ,h,NR,g];rfl
theorem Of(h:dE e K ρ κ σ= .ok v σ1):dS (.expr e) K ρ κ σ= .next ρ σ1:=by rw[Zj,h];rfl
theorem oB(h:dE e K ρ κ σ= .ok v σ1):dS (.ret e) K ρ κ σ= .ret v σ1:=by rw[Zn,h];rfl
theorem nx{o l:g7}(h:dE c K ρ κ σ= .ok v σ1)(g:truth σ1 v=some true)(z:dB l K ρ κ σ1=r):dS (.ite c l o) K ρ κ σ=r:=by rw[N0,zG,h,j5,tm,g];exact z
theorem ka{o l:g7}(h:dE c K ρ κ σ= .ok v σ1)(g:truth σ1 v=some false)(z:dB o K ρ κ σ1=r):dS (.ite c l o) K ρ κ σ=r:=by rw[N0,zG,h,j5,tm,g];exact z
theorem Gg{t:IT}{it:II}{l o:g7}{y:It}(h:dI it K ρ κ σ= .ok y σ1)(g:lr (dT t) (dB l) (dB o) K κ K.N y ρ σ1=r):dS (.for t it l o) K ρ κ σ=r:=by rw[Zl,h];exact g
theorem Og(h:dE e K ρ κ σ= .ok v σ1)(g:p7 σ1 v=some y):dI (.val e) K ρ κ σ= .ok y σ1:=by rw[NY,h,j5,g];rfl
theorem ZC(h:dE e K ρ κ σ= .ok (.ref q) σ1)(g:σ1.get q=some (.list xs)):dI (.enum e) K ρ κ σ= .ok (.enum q 0) σ1:=by rw[Zi,h,j5];show go (σ1.get q) 25 _=_;rw[g];rfl
theorem ZD(h:ρ.get x=some (.int n)):dS (.Nf x .add (.const (.int m))) K ρ κ σ= .next (ρ.set x (.int (n+m))) σ:=by rw[Zk,h];rfl
theorem iy(h:dS s K ρ κ σ= .next jk σ1)(g:dB l K jk κ σ1=r):dB (.cons s l) K ρ κ σ=r:=by rw[FZ,h];exact g
theorem kc(h:dS s K ρ κ σ= .ret v σ1):dB (.cons s l) K ρ κ σ= .ret v σ1:=by rw[FZ,h];rfl
theorem i7:dB .nil K ρ κ σ= .next ρ σ:=rfl
theorem iQ{t:Loc}:(t.set x v).get x=some v:=by rw[N1,if_pos rfl]
theorem gN{t:Loc}{y:Ad}{z:Option AV}(h:t.get y=z)(e:Ad.eq y x=false:=by rfl):(t.set x v).get y=z:=by
 rw[N1,if_neg λk=>gU (e.symm.trans (Ad.eq_iff.2 k)),h]
theorem k_eq(h:lN σ u v=some t):cmp .eq u v σ= .ok (.bool t) σ:=by rw[Zs,h];rfl
theorem BM(h:lN σ u v=some t):cmp .ne u v σ= .ok (.bool (jR t)) σ:=by rw[Zt,h];rfl
theorem Oh(h:contains σ u v=some t):cmp .As u v σ= .ok (.bool t) σ:=by rw[Zv,h];rfl
theorem Oi(h:contains σ u v=some t):cmp .Au u v σ= .ok (.bool (jR t)) σ:=by rw[Zw,h];rfl
theorem BN{p:Prop}[Decidable p](z:cmp op u v σ= .ok (.bool (decide p)) σ)(h:p):cmp op u v σ= .ok (.bool true) σ:=by rw[z,decide_eq_true h]
theorem Gh{p:Prop}[Decidable p](z:cmp op u v σ= .ok (.bool (decide p)) σ)(h:¬p):cmp op u v σ= .ok (.bool false) σ:=by rw[z,decide_eq_false h]
end
end
section
theorem ZE(W:WF σ)(hp:σ.get p=some (.list (xs.map .int)))(hxs:tv xs)(hl:pair=true→2≤xs.length∨xs=[]):
 iF P N (d+1) wk [] [.ref p,.bool pair,.bool rw] σ= .ok (.int (rH xs pair rw)) (σ.push (.list [])):=by
 have h0:(σ.push (.list [])).get p=some (.list (xs.map .int)):=(jB _ (W _ _ hp)).trans hp;refine(call_plain rfl rfl rfl).trans (congrArg lu (show dB NP _ _ _ _= .ret (.int (rH xs pair rw)) _ from ?_))
 cases xs with
 |nil=>exact kc (nx (jf (gR rfl) (oA jd rfl) (k_eq (xG h0 (i4 _) rfl))) rfl (kc (oB rfl)))
 |cons x r=>
  refine iy (ka (jf (gR rfl) (oA jd rfl) (k_eq (BH h0 (i4 _) ((List.all_map).trans (kf.2 hxs)) rfl nofun))) rfl i7) ?_;have g0:=(xH (X:=P.xs) h0).trans Zy
  cases pair with
  |false=>exact kc (nx (wo (gR rfl) rfl) rfl (kc (oB (iU (gR rfl) rfl g0))))
  |true=>
   refine iy (ka (wo (gR rfl) rfl) rfl i7) ?_
   cases r with
   |nil=>exact absurd ((hl rfl).resolve_right nofun) (by decide:¬2≤1)
   |cons y r=>
    have g1:=(xH (X:=P.xs) h0).trans Zz
    cases rw with
    |true=>exact kc (oB (zJ (gR rfl) rfl (nv (iO (kX (iU (gR rfl) rfl g0) rfl rfl) (iO (iU (gR rfl) rfl g1) jd)) (F9 _ _))))
    |false=>exact kc (oB (zK (gR rfl) rfl (nv (iO (iU (gR rfl) rfl g0) (iO (kX (iU (gR rfl) rfl g1) rfl rfl) jd)) (F9 _ _))))
theorem ZF:kj e t c K κ a (n+1) it ρ σ=match it.next σ with
 | .done=>.ok () σ
 | .one v it=>(t K ρ κ v σ).bind λρ σ=>(test c K ρ κ σ).bind λb σ=>gT (kj e t c K κ a n it ρ σ) ((e K ρ κ σ).bind λv σ=>match σ.get a with|some (.list xs)=>go (j8 (app xs [v])) 35 λo=>kj e t c K κ a n it ρ (σ.set a o)|_=>.stuck 35) b
 | .two u v it=>(rU t K ρ κ u v σ).bind λρ σ=>(test c K ρ κ σ).bind λb σ=>gT (kj e t c K κ a n it ρ σ) ((e K ρ κ σ).bind λv σ=>match σ.get a with|some (.list xs)=>go (j8 (app xs [v])) 35 λo=>kj e t c K κ a n it ρ (σ.set a o)|_=>.stuck 35) b
 | .bad=>.stuck 37:=rfl
theorem Oj(h:σ.get b=some (.list xs))(hi:xs[i]? =some v):It.next σ (.list b i)= .one v (.list b (i+1)):=by
 show(match σ.get b with|some (.list xs)=>kL xs i λv=>Got.one v (.list b (Nat.succ i))|_=>.bad)=_;rw[h];show kL xs i _=_;unfold kL;rw[mJ,hi]
theorem Ol(h:σ.get b=some (.list xs))(hi:xs[i]? =none):It.next σ (.list b i)= .done:=by
 show(match σ.get b with|some (.list xs)=>kL xs i λv=>Got.one v (.list b (Nat.succ i))|_=>.bad)=_;rw[h];show kL xs i _=_;unfold kL;rw[mJ,hi]
set_option tactic.hygienic true in
theorem Gi(hab:a≠b)(hx:xs.length≤500)
 (h:∀x∈xs,∀ρ σ1,hZ [a] ip σ1→∃jk,t K ρ κ x σ1= .ok jk σ1∧match f x with
  |none=>test c K jk κ σ1= .ok false σ1
  |some y=>test c K jk κ σ1= .ok true σ1∧e K jk κ σ1= .ok y σ1):
 ∀(n i:Nat)(acc:List AV)(ρ:Loc)(σ:gI),hZ [a] ip σ→xs.length- i<n→acc.length+(xs.length- i)≤1000→σ.get a=some (.list acc)→σ.get b=some (.list xs)→
  ∃σ',kj e t c K κ a n (.list b i) ρ σ= .ok () σ'∧hZ [a] ip σ'∧σ'.get a=some (.list (acc++(xs.drop i).filterMap f))
 |0,i,acc,ρ,σ,X,hn,_,_,_=>absurd hn (Nat.not_lt_zero _)
 |n+1,i,acc,ρ,σ,X,hn,hl,ha,hb=>by
  rw[ZF]
  rcases hi:xs[i]?with _|x
  .rw[Ol hb hi];refine⟨σ,rfl,X,?_⟩;rw[List.drop_eq_nil_of_le (by rw[List.getElem?_eq_none_iff]at hi;exact hi),List.filterMap_nil,nB];exact ha
  .rw[Oj hb hi];have hi':i<xs.length:=by
    rcases Nat.lt_or_ge i xs.length with k|k
    .exact k
    .rw[List.getElem?_eq_none k]at hi;exact gV hi
   have hxi:xs[i]=x:=by rw[pV hi']at hi;exact gP hi
   refine gW (h x (by rw[←hxi];exact List.getElem_mem hi') ρ σ X) λjk e1 e2=>?_;show∃σ',R.bind (t K ρ κ x σ) _=_∧_;rw[e1];show∃σ',R.bind (test c K jk κ σ) _=_∧_;rw[List.drop_eq_getElem_cons hi',hxi,List.filterMap_cons];split at e2
   .rename_i hf
    rw[e2];refine jI (Gi hab hx h n (i+1) acc jk σ X (by lia) (by lia) ha hb) λσ' z1 z2 z3=>?_;exact⟨σ',z1,z2,by rw[z3,hf]⟩
   .rename_i y hf
    rw[e2.1];show∃σ',R.bind (e K jk κ σ) _=_∧_;rw[e2.2];show∃σ',(match σ.get a with|some (.list xs)=>go (j8 (app xs [y])) 35 λo=>kj e t c K κ a n (.list b (i+1)) jk (σ.set a o)|_=>.stuck 35)=_∧_;rw[ha];have hla:(acc++[y]).length≤1000:=by rw[jm];show acc.length+1≤1000;lia
    show∃σ',go (j8 (app acc [y])) 35 _=_∧_;rw[lQ,F' hla];have la:a.num<σ.n.num:=X.wf _ _ ha;refine jI (Gi hab hx h n (i+1) (acc++[y]) jk (σ.set a (.list (acc++[y]))) (X.setM _ (by simp) la) (by lia) (by rw[jm];show acc.length+1+_≤1000;lia) (rG _ _) (by rw[kH _ (Ne.symm hab)];exact hb)) λσ' z1 z2 z3=>?_;exact⟨σ',z1,z2,by rw[z3,hf,tG];rfl⟩
theorem Om(W:WF σ)(hb:σ.get b=some (.list xs))(hx:xs.length≤500)(hn:xs.length<K.N)
 (h:∀x∈xs,∀ρ σ1,hZ [] σ σ1→∃jk,t K ρ κ x σ1= .ok jk σ1∧match f x with
  |none=>test c K jk κ σ1= .ok false σ1
  |some y=>test c K jk κ σ1= .ok true σ1∧e K jk κ σ1= .ok y σ1):
 ∃σ',kj e t c K κ σ.n K.N (.list b 0) .nil (σ.push (.list []))= .ok () σ'∧hZ [] σ σ'∧σ'.get σ.n=some (.list (xs.filterMap f)):=by
 have lb:=W _ _ hb;have X0:hZ [] σ (σ.push (.list [])):=(hZ.refl W).push W _;have key:∀σ1,hZ [σ.n] (σ.push (.list [])) σ1→hZ [] σ σ1:=λσ1 Y=>
  ⟨λp o U e=>Y.get p o (by simp;intro k;rw[k]at e;exact jQ _ (W _ _ e)) (X0.get p o (by simp) e),ia X0.le Y.le,Y.wf⟩
 refine jI (Gi (a:=σ.n) (b:=b) (ip:=σ.push (.list [])) (λk=>by rw[←k]at lb;exact jQ _ lb) hx (λx hx ρ σ1 Y=>h x hx ρ σ1 (key σ1 Y)) K.N 0 [] .nil (σ.push (.list [])) (hZ.refl (W.push _)) (by omega) (by simp;omega) (i4 _) (by rw[jB _ lb];exact hb)) λσ' z1 z2 z3=>?_;exact⟨σ',z1,key _ z2,z3⟩
end
section
section
variable{X:Option (List AV)}{σ σ' σ1:gI}{ρ:Loc}{κ:gX}{K:KE}
abbrev Form:=Nat×Nat×Nat
def lU(σ:gI):List Ad→List Form→Prop
 |[],[]=>True
 |p::ps,f::fs=>σ.get p=some (.tuple [.int f.1,.str f.2.1,.str f.2.2])∧lU σ ps fs
 |_,_=>False
theorem lU.ext(X:hZ M σ σ'):∀{ps:List Ad}{fs:List Form},(∀p∈ps,p∉M)→lU σ ps fs→lU σ' ps fs
 |[],[],_,_=>trivial
 |p::ps,f::fs,hM,h=>⟨X.get _ _ (hM p (by simp)) h.1,lU.ext X (λq hq=>hM q (by simp[hq])) h.2⟩
 |[],_::_,_,h=>h.elim
 |_::_,[],_,h=>h.elim
theorem lU.len:∀{ps:List Ad}{fs:List Form},lU σ ps fs→ps.length=fs.length
 |[],[],_=>rfl
 |p::ps,f::fs,h=>by rw[mZ,mZ,h.2.len]
 |[],_::_,h=>h.elim
 |_::_,[],h=>h.elim
structure BO(σ:gI)(F:Ad)(ps:List Ad)(fs:List Form):Prop where
 l:σ.get F=some (.list (ps.map .ref))
 t:lU σ ps fs
noncomputable def jO(D:Ad)(h:Nat)(b:Bool)(C:Ad)(m:Int):List (Nat×AV×AV):=
 [(73790494734010024745,.str 9223811841751253093,.ref D),(154750178759620083440419633,.str 19343772344952510430052454,.str h),(154749736037762314511844137,.str 19343717004720289313980517,.bool b),(324533873173570223864571200799641,.str 40566734146696277983071400099955,.ref C),(154749883611855641458508673,.str 19343735451481955182313584,.int m)]
structure xJ(σ:gI)(V D C:Ad)(due:List Nat)(h:Nat)(b:Bool)(calls:List Int)(m:Int):Prop where
 v:σ.get V=some (.dict (jO D h b C m))
 d:σ.get D=some (.list (due.map .str))
 c:σ.get C=some (.list (calls.map .int))
theorem wt(h:i5 es (8*k+1)=some v):dictAt es (.str k) σ= .ok v σ:=by
 show go (some (8*k+1)) 9 (λk=>match i5 es k with|some v=>R.ok v σ| .none=>.exc .key σ)=_;rw[mj,h]
section
variable{V D C:Ad}{due:List Nat}{h:Nat}{b:Bool}{calls:List Int}{m:Int}
theorem wu(g:σ.get V=some (.dict (jO D h b C m))):getItem X (.ref V) (.str 9223811841751253093) σ= .ok (.ref D) σ:=by
 rw[tu g];exact wt rfl
theorem Gj(g:σ.get V=some (.dict (jO D h b C m))):getItem X (.ref V) (.str 19343772344952510430052454) σ= .ok (.str h) σ:=by
 rw[tu g];exact wt rfl
theorem On(g:σ.get V=some (.dict (jO D h b C m))):getItem X (.ref V) (.str 19343717004720289313980517) σ= .ok (.bool b) σ:=by
 rw[tu g];exact wt rfl
theorem Oo(g:σ.get V=some (.dict (jO D h b C m))):getItem X (.ref V) (.str 40566734146696277983071400099955) σ= .ok (.ref C) σ:=by
 rw[tu g];exact wt rfl
theorem Oq(g:σ.get V=some (.dict (jO D h b C m))):getItem X (.ref V) (.str 19343735451481955182313584) σ= .ok (.int m) σ:=by
 rw[tu g];exact wt rfl
end
noncomputable def jr{α:Type}(xs:List α):List α:=xs.drop (xs.length- 1)
theorem Os(h:σ.get p=some (.list xs)):m7 (.ref p) (some (-1)) .none σ= .ok (.ref σ.n) (σ.push (.list (jr xs))):=by
 show go (σ.get p) 10 (λob=>go (yg ob (some (-1)) .none) 10 λo=>R.ok (AV.ref σ.n) (σ.push o))=_;rw[h];show R.ok (AV.ref σ.n) (σ.push (.list (oK xs (Nat.sub (iC xs) 1))))=_;rw[rX,jo];rfl
theorem zL(h:σ.get p=some (.list xs))(k:σ.get q=some (.list ys))(hl:xs.length+ys.length≤1000):binop .add (.ref p) (.ref q) σ= .ok (.ref σ.n) (σ.push (.list (xs++ys))):=by
 show go (σ.get p) 2 (λxo=>go (σ.get q) 2 λyo=>go (Hw xo yo) 2 λo=>R.ok (AV.ref σ.n) (σ.push o))=_;rw[h,k];show go (j8 (app xs ys)) 2 (λo=>R.ok (AV.ref σ.n) (σ.push o))=_;rw[lQ,F' (by rw[jm];exact hl)];rfl
theorem Gk(h:σ.get p=some (.list xs)):p7 σ (.ref p)=some (.list p 0):=by
 show hG (motive:=λU=>Option It) .none (yk p) (σ.get p)=_;rw[h];rfl
@[simp] theorem Ot(κ:gX):lq κ []=some []:=rfl
end
theorem xK(h:σ.get k=some (.tuple xs)):w2 σ (.ref k)=some xs:=by
 show hG (motive:=λU=>Option (List AV)) .none CQ (σ.get k)=_;rw[h];rfl
noncomputable def lE:Nat→g7→IS
 |0,.cons s _=>s
 |n+1,.cons _ l=>lE n l
 |_,.nil=>.pass
theorem zM{K:KE}{ρ ρ':Loc}{κ:gX}{σ σ':gI}{l l':g7}{X:Ad→gI→Prop}(h:∀{r},dB l' K ρ' κ σ'=r→dB l K ρ κ σ=r)(g:∃p s,dB l' K ρ' κ σ'= .ret (.ref p) s∧X p s):∃p s,dB l K ρ κ σ= .ret (.ref p) s∧X p s:=
 ⟨_,_,h g.choose_spec.choose_spec.1,g.choose_spec.choose_spec.2⟩
noncomputable def wy(fs:List Form)(gA:Nat)(rw:Bool)(due:List Nat)(half:Nat)(bare:Bool):List Nat:=
 if half=1 then
  if gA=1 then jr due++fs.map (·.2.1)
  else if rw then(if bare then[2097274]++fs.map (·.2.1)else jr due)
  else if bare then[2097274]else jr due++fs.map (·.2.1)
 else[half]
theorem zN{α β:Type}(f:α→β)(l:List α):jr (l.map f)=(jr l).map f:=by
 unfold jr;rw[List.map_drop,ke]
theorem ZG{α:Type}(l:List α):(jr l).length≤1:=by unfold jr;rw[List.length_drop];omega
def BP(σ:gI)(x:AV):Option AV:=match x with| .ref p=>(match σ.get p with|some (.tuple [_,o,_])=>some o|_=>.none)|_=>.none
theorem Ou:∀{ps:List Ad}{fs:List Form},lU σ ps fs→(ps.map AV.ref).filterMap (BP σ)=(fs.map (·.2.1)).map .str
 |[],[],_=>rfl
 |p::ps,f::fs,h=>by
  rw[lI,List.filterMap_cons];have:BP σ (.ref p)=some (.str f.2.1):=by
   show(match σ.get p with|some (.tuple [_,o,_])=>some o|_=>.none)=_;rw[h.1]
  rw[this,Ou h.2];rfl
 |[],_::_,h=>h.elim
 |_::_,[],h=>h.elim
theorem lU.mem:∀{ps:List Ad}{fs:List Form},lU σ ps fs→∀x∈ps.map AV.ref,∃p f,x= .ref p∧f∈fs∧σ.get p=some (.tuple [.int f.1,.str f.2.1,.str f.2.2])
 |[],[],_,x,hx=>by cases hx
 |p::ps,f::fs,h,x,hx=>by
  rw[lI,iL]at hx
  rcases hx with rfl|hx
  .exact⟨p,f,rfl,by simp,h.1⟩
  .refine iH (h.2.mem x hx) λq g e1 e2 e3=>?_;exact⟨q,g,e1,by simp[e2],e3⟩
 |[],_::_,h,_,_=>h.elim
 |_::_,[],h,_,_=>h.elim
theorem Gl{α β:Type}(f:α→β){l:List α}{n:Nat}(h:l.length≤n):(l.map f).length≤n:=ia (pe (ke f)) h
theorem ZH{P:jE}{N d:Nat}{σ:gI}(W:WF σ)(hN:500<N){F V D C:Ad}{ps:List Ad}{fs:List Form}{due:List Nat}{h:Nat}{b:Bool}{calls:List Int}{m:Int}(hF:BO σ F ps fs)(hfl:fs.length≤100)(hdl:due.length≤100)(hV:xJ σ V D C due h b calls m){gA:Nat}{rt:Bool}:
 ∃p σ',iF P N (d+1) xD [] [.ref F,.str gA,.bool rt,.ref V] σ= .ok (.ref p) σ'∧hZ [] σ σ'∧σ'.get p=some (.list ((wy fs gA rt due h b).map .str)):=by
 suffices hs:∃p σ',dB FR ⟨P,N,iF P N d⟩ (o6 xD.params [.ref F,.str gA,.bool rt,.ref V] .nil) [] σ= .ret (.ref p) σ'∧hZ [] σ σ'∧σ'.get p=some (.list ((wy fs gA rt due h b).map .str)) by
  refine jA hs λp σ' e r=>?_;exact⟨p,σ',(call_plain rfl rfl rfl).trans (congrArg lu e),r⟩
 have vh:=Gj (X:=P.xs) hV.v
 by_cases hh:h=1
 .subst hh;unfold wy;rw[if_pos rfl];obtain⟨σ1,e1,X1,z3⟩:=Om (K:=⟨P,N,iF P N d⟩) (κ:=[]) (t:=dT (.tup (.cons (.loc (.i (.o (.o (.o (.i (.o (.o .h)))))))) (.cons (.loc (.i (.i (.o (.o (.i (.o (.o .h)))))))) (.cons (.loc (.o (.o (.i (.o (.i (.o (.o .h)))))))) .nil))) 3)) (c:=dE (.const (.bool true))) (e:=dE (.loc (.i (.i (.o (.o (.i (.o (.o .h))))))))) (f:=BP σ) W hF.l (ia (pe ((ke _).trans hF.t.len)) (ia hfl (by decide))) (n6 (pe ((ke _).trans hF.t.len)) (n6 (ia hfl (by decide:100≤500)) hN)) (λx hx ρ σ1 X=>by
   refine iH (hF.t.mem x hx) λp f ZI U e=>?_;subst ZI;have e1:=X.get _ _ iA e;have e2:BP σ (.ref p)=some (.str f.2.1):=by
    show(match σ.get p with|some (.tuple [_,o,_])=>some o|_=>.none)=_;rw[e]
   rw[e2];exact⟨_,Oe (xK e1),rfl,gR (gN iQ)⟩)
  rw[Ou hF.t]at z3;have X2:hZ [] σ (σ1.push (.list (jr (due.map .str)))):=X1.push W _;have W2:=X2.wf;have v2:=On (X:=P.xs) (X2.get _ _ iA hV.v);have n2:=i4 (σ:=σ1) (.list (jr (due.map AV.str)));have f2:=(jB (.list (jr (due.map AV.str))) (X1.wf _ _ z3)).trans z3;have hfm:=Gl AV.str (Gl (λf:Form=>f.2.1) hfl);have E2:=nE (ia (ZG (due.map AV.str)) (by decide:1≤900)) hfm;have s1:dS (lE 1 FR) ⟨P,N,iF P N d⟩ (o6 xD.params [.ref F,.str gA,.bool rt,.ref V] .nil) [] σ= .next _ σ1:=lT (by
   rw[NW,Og (gR rfl) (Gk hF.l),NS,j5,Ot,mj,e1];rfl)
  have ha:=zL n2 f2 E2;have ra:jr (due.map AV.str)++(fs.map (·.2.1)).map AV.str=(jr due++fs.map (·.2.1)).map .str:=by rw[zN,List.map_append]
  rw[ra]at ha;refine zM (iy (ka (iU (gR rfl) rfl vh) rfl i7)) (zM (iy s1) (zM (iy (lT (Ge (iU (gR rfl) rfl (wu (X1.get _ _ iA hV.v))) rfl (Os (X1.get _ _ iA hV.d))))) ?_))
  by_cases hb:gA=1
  .subst hb;rw[if_pos rfl];exact⟨_,_,kc (nx (wo (gR rfl) rfl) rfl (kc (oB (kX (gR rfl) (gR rfl) ha)))),X2.push W _,i4 _⟩
  rw[if_neg hb];refine zM (iy (ka (wo (gR rfl) (congrArg (λb=>some (jR b)) (xF hb))) rfl i7)) ?_
  induction rt with
  |false=>
   rw[if_neg jD];refine zM (iy (ka (gR rfl) rfl i7)) ?_
   induction b with
   |true=>exact⟨_,_,kc (oB (zJ (iU (gR rfl) rfl v2) rfl (oA (iO rfl jd) rfl))),X2.push W _,i4 _⟩
   |false=>exact⟨_,_,kc (oB (zK (iU (gR rfl) rfl v2) rfl (kX (gR rfl) (gR rfl) ha))),X2.push W _,i4 _⟩
  |true=>
   rw[if_pos rfl]
   induction b with
   |true=>exact⟨_,_,kc (nx (gR rfl) rfl (kc (oB (zJ (iU (gR rfl) rfl v2) rfl (kX (oA (iO rfl jd) rfl) (gR rfl) (zL (i4 _) ((jB _ (W2 _ _ f2)).trans f2) (nE (by decide:1≤900) hfm))))))),(X2.push W _).push W _,i4 _⟩
   |false=>exact⟨_,_,kc (nx (gR rfl) rfl (kc (oB (zK (iU (gR rfl) rfl v2) rfl (gR rfl))))),X2,by rw[n2,zN];rfl⟩
 .unfold wy;rw[if_neg hh];exact⟨_,_,kc (nx (iU (gR rfl) rfl vh) (congrArg (λb=>some (jR b)) (xF hh)) (kc (oB (oA (iO (iU (gR rfl) rfl vh) jd) rfl)))),(hZ.refl W).push W _,i4 _⟩
end
section
section
variable{σ σ' σ1:gI}{ρ:Loc}{κ:gX}{K:KE}
theorem xM(h:σ.get p=some (.list xs)):me K .len [.ref p] σ= .ok (.int (.ofNat xs.length)) σ:=by
 show(match ph (.ref p) σ with|some q=>_| .none=>lenOf K.P.xs (.ref p) σ)=_;have:ph (.ref p) σ=none:=by
  show hG (motive:=λU=>Option (Nat×Nat×BT AV)) .none wZ (σ.get p)=_;rw[h];rfl
 rw[this];show go (σ.get p) 16 (λo=>go (CJ K.P.xs o) 16 λn=>R.ok (AV.int (.ofNat n)) σ)=_;rw[h];show R.ok (AV.int (.ofNat (iC xs))) σ=_;rw[jo]
theorem BQ(h:σ.get p=some (.list xs)):me K .list [.ref p] σ= .ok (.ref σ.n) (σ.push (.list xs)):=by
 show go (wX σ (.ref p)) 16 (λxs=>R.ok (AV.ref σ.n) (σ.push (.list xs)))=_;have:wX σ (.ref p)=some xs:=by
  show hG (motive:=λU=>Option (List AV)) .none Aw (σ.get p)=_;rw[h];rfl
 rw[this];rfl
theorem ZJ(h:σ.get p=some (.list xs)):sR P (.ref p) 85074526519864120391673425436428206180 σ=some (.append p):=by
 show hG (motive:=λU=>Option mq) .none (λo=>vQ P p o _) (σ.get p)=_;rw[h];rfl
theorem ZK(h:σ.get p=some (.list xs))(hl:xs.length<1000):tO call o (.append p) [v] σ= .ok .none (σ.set p (.list (xs++[v]))):=by
 show go (listAt σ p) 18 (λxs=>HD p xs v σ)=_;have:listAt σ p=some xs:=by
  show hG (motive:=λU=>Option (List AV)) .none yh (σ.get p)=_;rw[h];rfl
 rw[this];show go (j8 (app xs [v])) 18 _=_;rw[lQ,F' (by rw[jm];exact hl)];rfl
theorem ZL(h:σ.get p=some (.dict es)):sR P (.ref p) 9223825035857231988 σ=some (.get p):=by
 show hG (motive:=λU=>Option mq) .none (λo=>vQ P p o _) (σ.get p)=_;rw[h];rfl
theorem ZM(h:σ.get p=some (.dict es)):tO call o (.get p) [.str n] σ= .ok (match i5 es (8*n+1)with|some v=>v| .none=>.none) σ:=by
 show go (sS σ p) 19 (λes=>yi es (.str n) .none σ)=_;have:sS σ p=some es:=by
  show hG (motive:=λU=>Option (List (Nat×AV×AV))) .none vR (σ.get p)=_;rw[h];rfl
 rw[this];rfl
theorem Ov(h:j≤n):bound n (.ofNat j)=j:=by
 show gT (motive:=λU=>Nat) n j (iS j n)=_;rw[Nat.ble_eq_true_of_le h]
theorem Ow(h:σ.get p=some (.list xs))(hj:j≤xs.length):m7 (.ref p) .none (some (.ofNat j)) σ= .ok (.ref σ.n) (σ.push (.list (xs.take j))):=by
 show go (σ.get p) 10 (λob=>go (yg ob .none (some (.ofNat j))) 10 λo=>R.ok (AV.ref σ.n) (σ.push o))=_;rw[h];show R.ok (AV.ref σ.n) (σ.push (.list (oK (tJ xs (bound (iC xs) (.ofNat j))) 0)))=_;rw[rX,yq,jo,Ov hj,List.drop_zero]
theorem ZN(h:σ.get p=some (.list xs))(hj:j≤xs.length):m7 (.ref p) (some (.ofNat j)) .none σ= .ok (.ref σ.n) (σ.push (.list (xs.drop j))):=by
 show go (σ.get p) 10 (λob=>go (yg ob (some (.ofNat j)) .none) 10 λo=>R.ok (AV.ref σ.n) (σ.push o))=_;rw[h];show R.ok (AV.ref σ.n) (σ.push (.list (oK xs (bound (iC xs) (.ofNat j)))))=_;rw[rX,jo,Ov hj]
theorem Ox(h:σ.get p=some (.list xs))(hj:j<xs.length):setItem (.ref p) (.int (.ofNat j)) v σ= .ok () (σ.set p (.list (xs.set j v))):=by
 show go (σ.get p) 11 (λob=>go (Ay σ ob (.int (.ofNat j)) v) 11 λo=>R.ok () (σ.set p o))=_;rw[h];have:Ay σ (.list xs) (.int (.ofNat j)) v=some (.list (xs.set j v)):=by
  show gT (motive:=λU=>Option gY) (match place (iC xs) (.ofNat j)with|some j=>some (gY.list (tI xs j v))| .none=>.none) .none (kz (.ofNat j) 0)=_;rw[show kz (.ofNat j) 0=false by rw[nP];exact decide_eq_false (by intro k;exact absurd k (by show¬((j:Int)<0);lia))];show(match place (iC xs) (.ofNat j)with|some j=>some (gY.list (tI xs j v))| .none=>.none)=_;rw[jo,Ga hj];show some (gY.list (tI xs j v))=_;rw[CX]
 rw[mj,this];rfl
theorem Oy(h:σ.get p=some (.inst c n fs))(hx:fs.get x=some v):getAttr P (.ref p) x σ= .ok v σ:=by
 show go (ph (.ref p) σ) 12 _=_;have:ph (.ref p) σ=some (c,n,fs):=by
  show hG (motive:=λU=>Option (Nat×Nat×BT AV)) .none wZ (σ.get p)=_;rw[h];rfl
 rw[this,mj];show(match fs.get x with|some v=>R.ok v σ| .none=>_)=_;rw[hx]
theorem Oz(h:i5 es (8*l9 k)=some v):dictAt es (.int k) σ= .ok v σ:=by
 show go (some (8*l9 k)) 9 (λk=>match i5 es k with|some v=>R.ok v σ| .none=>.exc .key σ)=_;rw[mj,h]
end
abbrev Act:=Int→Nat→Option Int
abbrev pP:=Int→Option Int
structure TabAt(σ:gI)(T:Ad)(act:Act)(iG:pP)(ok:Int→Prop):Prop where
 i:∃c n fs A G ea eg,σ.get T=some (.inst c n fs)∧fs.get (.i (.o (.o (.o (.i (.o .h))))))=some (.ref A)∧fs.get (.o (.i (.o (.o (.i (.o .h))))))=some (.ref G)∧σ.get A=some (.dict ea)∧σ.get G=some (.dict eg)∧
  (∀s,ok s→∃r rs,i5 ea (8*l9 s)=some (.ref r)∧σ.get r=some (.dict rs)∧∀t,i5 rs (8*t+1)=(act s t).map .int)∧
  (∀s g,iG s=some g→∃r rs,i5 eg (8*l9 s)=some (.ref r)∧σ.get r=some (.dict rs)∧i5 rs 16777881=some (.int g))
def oD(σ:gI):List Ad→List (List Nat)→Prop
 |[],[]=>True
 |p::ps,f::fs=>σ.get p=some (.list (f.map .str))∧oD σ ps fs
 |_,_=>False
theorem oD.ext(X:hZ M σ σ'):∀{ps:List Ad}{fs:List (List Nat)},(∀p∈ps,p∉M)→oD σ ps fs→oD σ' ps fs
 |[],[],_,_=>trivial
 |p::ps,f::fs,hM,h=>⟨X.get _ _ (hM p (by simp)) h.1,oD.ext X (λq hq=>hM q (by simp[hq])) h.2⟩
 |[],_::_,_,h=>h.elim
 |_::_,[],_,h=>h.elim
theorem oD.i3:∀{ps:List Ad}{fs:List (List Nat)}{i:Nat}{f:List Nat},oD σ ps fs→fs[i]? =some f→∃p,ps[i]? =some p∧σ.get p=some (.list (f.map .str))
 |[],[],_,_,_,e=>by simp at e
 |p::ps,f::fs,0,g,h,e=>by simp at e;subst e;exact⟨p,rfl,h.1⟩
 |p::ps,f::fs,i+1,g,h,e=>by simp at e;refine gW (h.2.i3 e) λq e1 e2=>?_;exact⟨q,by simpa using e1,e2⟩
 |[],_::_,_,_,h,_=>h.elim
 |_::_,[],_,_,h,_=>h.elim
structure BR(σ:gI)(R:Ad)(ps:List Ad)(rs:List (List Nat)):Prop where
 l:σ.get R=some (.list (ps.map .ref))
 t:oD σ ps rs
inductive Walk(act:Act)(iG:pP)(ok:Int→Prop)(rules:List (List Nat))(pairs:List Bool)(rt:Bool)(tok:Nat):Nat→List Int→List Int→List Int→Option (Int×List Int×List Int×List Int)→Prop
 |refuse {n tr s dp cl} (h:act s tok=none) (o:ok s) (l:tr.length≤400):Walk act iG ok rules pairs rt tok (n+1) (tr++[s]) dp cl none
 |shift {n tr s dp cl} {a:Nat} (h:act s tok=some (a:Int)) (o:ok s) (l:tr.length≤400):Walk act iG ok rules pairs rt tok (n+1) (tr++[s]) dp cl (some ((a:Int),tr++[s],dp,cl))
 |reduce {n tr s dp cl i syms pr iR s' g top ds c r} (h:act s tok=some (.negSucc i)) (o:ok s) (l:tr.length≤400)
  (h1:rules[i]? =some syms) (h2:pairs[i]? =some pr) (h3:tr++[s]=(iR++[s'])++top) (h4:top.length=syms.length) (h5:iG s'=some g)
  (h6:ds.length=(syms.filter (·==2097235)).length) (h7:tv ds) (h8:pr=true→2≤ds.length∨ds=[]) (h9:cl[i]? =some c) (l1:dp.length≤400) (l2:syms.length≤10)
  (k:Walk act iG ok rules pairs rt tok n (iR++[s']++[g]) (dp++[rH ds pr rt]) (cl.set i (c+1)) r):
  Walk act iG ok rules pairs rt tok (n+1) (tr++[s]) (dp++ds) cl r
end
section
noncomputable def bodyOf(s:IS):g7:=match s with| .for _ _ b _=>b| .while _ b _=>b|_=>.nil
def tB:g7:=bodyOf (lE 4 NQ)
noncomputable def fS(x:AV):Option AV:=match x with| .str n=>if n=2097235 then some x else none|_=>none
theorem ZO(l:List Nat):((l.map AV.str).filterMap fS).length=(l.filter (·==2097235)).length:=by
 induction l with
 |nil=>rfl
 |cons a l ih=>
  rw[lI,List.filterMap_cons,List.filter_cons]
  by_cases h:a=2097235
  .subst h;simp[fS,ih,-List.filterMap_map]
  .simp[fS,h,ih,-List.filterMap_map]
structure rI(σ:gI)(k:Ad)(tr dp cl:List Int):Prop where
 d:∃t d c,σ.get k=some (.tuple [.ref t,.ref d,.ref c])∧σ.get t=some (.list (tr.map .int))∧σ.get d=some (.list (dp.map .int))∧σ.get c=some (.list (cl.map .int))
def vp(σ:gI)(v:Ad)(r:Option (Int×List Int×List Int×List Int)):Prop:=match r with
 |none=>∃k,σ.get v=some (.tuple [.none,.ref k])
 |some (a,tr,dp,cl)=>∃k,σ.get v=some (.tuple [.int a,.ref k])∧rI σ k (tr++[a]) dp cl
structure ZP(ρ:Loc)(T R Q:Ad)(rt:Bool)(tok:Nat)(t d c:Ad):Prop where
 T:ρ.get (.i (.o (.o (.o (.o (.i (.o .h)))))))=some (.ref T)
 R:ρ.get (.o (.o (.i (.o (.o (.i (.o .h)))))))=some (.ref R)
 Q:ρ.get (.o (.i (.i (.o (.o (.i (.o .h)))))))=some (.ref Q)
 r:ρ.get (.i (.o (.i (.o (.i (.o (.o .h)))))))=some (.bool rt)
 k:ρ.get (.o (.i (.o (.o (.o (.i (.o .h)))))))=some (.str tok)
 t:ρ.get (.i (.i (.i (.i (.i (.o (.o .h)))))))=some (.ref t)
 d:ρ.get (.o (.o (.i (.i (.i (.o (.o .h)))))))=some (.ref d)
 c:ρ.get (.i (.i (.o (.i (.i (.o (.o .h)))))))=some (.ref c)
structure ZQ(σ:gI)(k:Ad)(tr:List AV)(dp cl:List Int):Prop where
 d:∃t d c,σ.get k=some (.tuple [.ref t,.ref d,.ref c])∧σ.get t=some (.list tr)∧σ.get d=some (.list (dp.map .int))∧σ.get c=some (.list (cl.map .int))
section
variable{P:jE}{N d0:Nat}{act:Act}{iG:pP}{ok:Int→Prop}{rules:List (List Nat)}{pairs:List Bool}{rt:Bool}{tok:Nat}{T R Q:Ad}{tX:List Ad}{ip σ σ1 σ2:gI}{K:KE}{ρ:Loc}{κ:gX}{t d c:Ad}{tr dp cl:List Int}{s:Int}
theorem hZ.keep(W:WF ip)(X:hZ [] ip σ1)(E:hZ [σ1.n] σ1 σ2):hZ [] ip σ2:=
 ⟨λp o h e=>E.get p o (λk=>Nat.ne_of_lt (Nat.lt_of_lt_of_le (W _ _ e) X.le) (congrArg Ad.num (jc.1 k))) (X.get p o h e),ia X.le E.le,E.wf⟩
theorem hZ.old(E:hZ [σ1.n] σ1 σ2)(W:WF σ1)(h:σ1.get p=some o):σ2.get p=some o:=E.get p o (λk=>Nat.ne_of_lt (W _ _ h) (congrArg Ad.num (jc.1 k))) h
theorem Gm(X:hZ [] ip σ)(hT:TabAt ip T act iG ok)(o:ok s)(h1:ρ.get (.i (.o (.o (.o (.o (.i (.o .h)))))))=some (.ref T))(h2:ρ.get (.i (.i (.i (.i (.i (.o (.o .h)))))))=some (.ref t))(h3:ρ.get (.o (.i (.o (.o (.o (.i (.o .h)))))))=some (.str tok))(ht:σ.get t=some (.list (tr.map .int++[.int s])))(ha:(match(act s tok).map AV.int with|some v=>v|none=>.none)=a):
 dE (.Fd (.sub (.attr (.loc (.i (.o (.o (.o (.o (.i (.o .h)))))))) (.i (.o (.o (.o (.i (.o .h))))))) (.sub (.loc (.i (.i (.i (.i (.i (.o (.o .h)))))))) (.neg (.const (.int 1))))) 9223825035857231988 (.cons (.loc (.o (.i (.o (.o (.o (.i (.o .h)))))))) .nil)) K ρ κ σ= .ok a σ:=by
 obtain⟨cc,nn,fs,A,G,ea,eg,k1,k2,k3,k4,k5,k6,k7⟩:=hT.i;obtain⟨rw,rs,z1,z2,z3⟩:=k6 s o;have g2:=X.get _ _ iA z2;exact Ob (iU (Oa (gR h1) (Oy (X.get _ _ iA k1) k2)) (iU (gR h2) rfl ((xH ht).trans N9)) ((tu (X.get _ _ iA k4)).trans (Oz z1))) (ZL g2) (iO (gR h3) jd) ((ZM g2).trans (by rw[z3];exact congrArg (R.ok · σ) ha))
theorem ZR(X:hZ [] ip σ)(hT:TabAt ip T act iG ok)(o:iG s=some g)(h1:ρ.get (.i (.o (.o (.o (.o (.i (.o .h)))))))=some (.ref T))(h2:ρ.get (.i (.i (.i (.i (.i (.o (.o .h)))))))=some (.ref t))(ht:σ.get t=some (.list (tr.map .int++[.int s]))):
 dE (.sub (.sub (.attr (.loc (.i (.o (.o (.o (.o (.i (.o .h)))))))) (.o (.i (.o (.o (.i (.o .h))))))) (.sub (.loc (.i (.i (.i (.i (.i (.o (.o .h)))))))) (.neg (.const (.int 1))))) (.const (.str 2097235))) K ρ κ σ= .ok (.int g) σ:=by
 obtain⟨cc,nn,fs,A,G,ea,eg,k1,k2,k3,k4,k5,k6,k7⟩:=hT.i;obtain⟨rw,rs,z1,z2,z3⟩:=k7 s g o;exact iU (iU (Oa (gR h1) (Oy (X.get _ _ iA k1) k3)) (iU (gR h2) rfl ((xH ht).trans N9)) ((tu (X.get _ _ iA k5)).trans (Oz z1))) rfl ((tu (X.get _ _ iA z2)).trans (wt (k:=2097235) z3))
def ZS:IS:=lE 0 (match lE 1 tB with| .ite _ b _=>b|_=>.nil)
theorem OA(W:WF ip)(X:hZ [] ip σ)(h1:ρ.get (.i (.i (.i (.i (.i (.o (.o .h)))))))=some (.ref t))(h2:ρ.get (.o (.o (.i (.i (.i (.o (.o .h)))))))=some (.ref d))(h3:ρ.get (.i (.i (.o (.i (.i (.o (.o .h)))))))=some (.ref c))(h4:ρ.get (.i (.i (.o (.o (.o (.i (.o .h)))))))=some v)
 (ht:σ.get t=some (.list ts))(hl:ts.length≤500)(hd:σ.get d=some (.list (dp.map .int)))(hc:σ.get c=some (.list (cl.map .int))):
 ∃u σ' k,dS ZS K ρ κ σ= .ret (.ref u) σ'∧hZ [] ip σ'∧σ'.get u=some (.tuple [v,.ref k])∧ZQ σ' k (ts++[v]) dp cl:=by
 have E1:hZ [] σ (σ.push (.list [v])):=(hZ.refl X.wf).push X.wf _;have e1:=zL (E1.get _ _ iA ht) (i4 (.list [v])) (nE hl (by decide:1≤500));have E2:=E1.push X.wf (.list (ts++[v]));have E3:=E2.push X.wf (.tuple [.ref (σ.push (.list [v])).n,.ref d,.ref c]);have E4:=E3.push X.wf (.tuple [v,.ref ((σ.push (.list [v])).push (.list (ts++[v]))).n]);exact⟨_,_,_,oB (Od (iO (gR h4) (iO (Od (iO (kX (gR h1) (oA (iO (gR h4) jd) rfl) e1) (iO (gR h2) (iO (gR h3) jd))) rfl) jd)) rfl),X.trans E4,i4 _,
  _,_,_,(jB _ (E3.wf _ _ (i4 _))).trans (i4 _),(jB _ (E3.wf _ _ ((jB _ (E2.wf _ _ (i4 _))).trans (i4 _)))).trans ((jB _ (E2.wf _ _ (i4 _))).trans (i4 _)),E4.get _ _ iA hd,E4.get _ _ iA hc⟩
noncomputable def OB:IE:=.Nc (.loc (.i (.o (.i (.o (.o (.i (.o .h)))))))) (.loc (.i (.o (.i (.o (.o (.i (.o .h)))))))) (.val (.loc (.o (.i (.o (.i .h)))))) (.cmp .eq (.loc (.i (.o (.i (.o (.o (.i (.o .h)))))))) (.const (.str 2097235))) []
theorem ZT{syms:List Nat}(W:WF σ){p:Ad}(h1:ρ.get (.o (.i (.o (.i .h))))=some (.ref p))(gS:σ.get p=some (.list (syms.map .str)))(hS:∀n∈syms,iz (.str n)=true)(hl:syms.length≤10)(hN:500<K.N):
 ∃σ1,dE OB K ρ κ σ= .ok (.ref σ.n) σ1∧hZ [] σ σ1∧σ1.get σ.n=some (.list ((syms.map .str).filterMap fS)):=by
 have hl':(syms.map AV.str).length≤10:=(ke _).symm▸hl;obtain⟨σ1,e,X1,q1⟩:=Om (K:=K) (κ:=[]) (t:=dT (.loc (.i (.o (.i (.o (.o (.i (.o .h))))))))) (c:=dE (.cmp .eq (.loc (.i (.o (.i (.o (.o (.i (.o .h)))))))) (.const (.str 2097235)))) (e:=dE (.loc (.i (.o (.i (.o (.o (.i (.o .h))))))))) (f:=fS) W gS (ia hl' (by decide)) (n6 (ia hl' (by decide:10≤500)) hN) λx hx ρ σ1 X=>by
  refine gW (List.mem_map.1 hx) λq hq ZU=>?_;subst ZU;refine⟨_,rfl,?_⟩
  by_cases e:q=2097235
  .rw[e];exact⟨congrArg (R.bind · ki) (jf (gR iQ) rfl (k_eq (sE rfl))),gR iQ⟩
  .rw[show fS (.str q)=none from if_neg e];exact congrArg (R.bind · ki) (jf (gR iQ) rfl (k_eq (sF (hS q hq) rfl λk=>e (AV.str.inj k))))
 refine⟨σ1,?_,X1,q1⟩;unfold OB;rw[NW,NY,gR h1,j5,Gk gS,mj,NS,j5,Ot,mj,e];rfl
structure zO(ip:gI)(T R Q:Ad)(rt:Bool)(tok:Nat)(ρ:Loc)(σ:gI)(tr dp cl:List Int)(t d c:Ad):Prop where
 L:ZP ρ T R Q rt tok t d c
 X:hZ [] ip σ
 ht:σ.get t=some (.list (tr.map .int))
 hd:σ.get d=some (.list (dp.map .int))
 hc:σ.get c=some (.list (cl.map .int))
 hn:ip.n.num≤c.num
 cd:c≠d
theorem vq:(l++[a]).map AV.int=l.map AV.int++[.int a]:=List.map_append
theorem sub_len{a b c:Nat}(h:a=c+b):binop .sub (.int (.ofNat a)) (.int (.ofNat b)) σ= .ok (.int (.ofNat c)) σ:=by
 rw[F1];exact congrArg (λi:Int=>R.ok (AV.int i) σ) (by rw[h,Int.ofNat_eq_natCast,Int.ofNat_eq_natCast,Int.ofNat_eq_natCast];lia)
theorem BS(h:ρ.get x=some (.int (.negSucc j))):dE (.bin .sub (.neg (.loc x)) (.const (.int 1))) K ρ κ σ= .ok (.int (.ofNat j)) σ:=
 kX (ZA (gR h)) rfl ((F1 _ _).trans (congrArg (λi:Int=>R.ok (AV.int i) σ) (by rw[Int.ofNat_eq_natCast];lia)))
theorem OC{α β:Type}{f:α→β}{l:List α}{n:Nat}(h:l.length=n):(l.map f).length=n:=(ke f).trans h
theorem BU{α:Type}{f:α→AV}{l:List α}{j:Nat}{a:α}{X:Option (List AV)}{p:Ad}(h:σ.get p=some (.list (l.map f)))(e:l[j]? =some a):getItem X (.ref p) (.int (.ofNat j)) σ= .ok (f a) σ:=
 (xH h).trans (zI (by rw[sQ,e];rfl))
theorem ZV(W:WF ip)(hN:500<N)(hP:iM P.m3 1645579097944721373563352933903279689786348349326654681510838376=some wk)
 (hS:∀r∈rules,∀n∈r,iz (.str n)=true)(hT:TabAt ip T act iG ok)(hR:BR ip R tX rules)(hQ:ip.get Q=some (.list (pairs.map .bool)))
 {j:Nat}{syms:List Nat}{pr:Bool}{iR top ds:List Int}{s' g c0:Int}(h:act s tok=some (.negSucc j))(o:ok s)(l:tr.length≤400)
  (h1:rules[j]? =some syms)(h2:pairs[j]? =some pr)(h3:tr++[s]=(iR++[s'])++top)(h4:top.length=syms.length)(h5:iG s'=some g)
  (h6:ds.length=(syms.filter (·==2097235)).length)(h7:tv ds)(h8:pr=true→2≤ds.length∨ds=[])(h9:cl[j]? =some c0)(l1:dp.length≤400)(l2:syms.length≤10)
 (A:zO ip T R Q rt tok ρ σ (tr++[s]) (dp++ds) cl t d c):
 ∃ρ' σ' t' d',dB tB ⟨P,N,iF P N (d0+1)⟩ ρ [] σ= .next ρ' σ'∧zO ip T R Q rt tok ρ' σ' (iR++[s']++[g]) (dp++[rH ds pr rt]) (cl.set j (c0+1)) t' d' c:=by
 obtain⟨L,X,ht,hd,hc,hn,hcd⟩:=A;refine gW (hR.t.i3 h1) λrp y1 y2=>?_;have gS:=X.get _ _ iA y2;refine jI (ZT (K:=⟨P,N,iF P N (d0+1)⟩) (κ:=[]) (ρ:=(ρ.set (.i (.i (.o (.o (.o (.i (.o .h))))))) (.int (.negSucc j))).set (.o (.i (.o (.i .h)))) (.ref rp)) X.wf iQ gS (hS _ (List.mem_of_getElem? h1)) l2 hN) λσ1 b1 X1 q1=>?_;have W1:=X1.wf;have el:(tr++[s]).length=(iR++[s']).length+syms.length:=by rw[h3,jm,h4]
 have et:m7 (.ref t) .none (some (.ofNat (iR++[s']).length)) σ1= .ok (.ref σ1.n) (σ1.push (.list (iR.map .int++[.int s']))):=by
  refine(Ow (X1.get _ _ iA ht) (by rw[ke,el];exact lK _ _)).trans ?_;rw[←List.map_take,h3,List.take_left' rfl,vq]
 have t2:=i4 (σ:=σ1) (.list (iR.map .int++[.int s']));have E2:hZ [σ1.n] σ1 (σ1.push (.list (iR.map .int++[.int s']))):=(hZ.refl W1).push W1 _;have hlt:iR.length≤400:=by
  rw[jm,jm]at el;exact ia (Nat.le_of_succ_le_succ (ia (lK (iR.length+1) syms.length) (pe el.symm))) l
 have e2:=ZK (call:=iF P N (d0+1)) (o:=.ref σ1.n) (v:=.int g) t2 (by rw[jm,ke];exact n6 (Nat.add_le_add_right hlt _) (by decide:400+1<1000));have E3:=E2.setM (.list (iR.map .int++[.int s']++[.int g])) (jc.2 rfl) (E2.wf _ _ t2);have t3:=rG (σ:=σ1.push (.list (iR.map .int++[.int s']))) (.list (iR.map .int++[.int s']++[.int g])) σ1.n;have ge:=λρ h1 h2=>ZR (ρ:=ρ) (κ:=[]) (K:=⟨P,N,iF P N (d0+1)⟩) (T:=T) (t:=σ1.n) (X.trans X1|>.keep W E2) hT h5 h1 h2 t2;generalize(σ1.push (.list (iR.map .int++[.int s']))).set σ1.n (.list (iR.map .int++[.int s']++[.int g]))=σ3 at e2 E3 t3;have X3:=(X.trans X1).keep W E3;have W3:=X3.wf;have d3:=E3.old W1 (X1.get _ _ iA hd);have c3:=E3.old W1 (X1.get _ _ iA hc);have ed:((dp++ds).map AV.int).length=dp.length+ds.length:=OC jm;have es:m7 (.ref d) (some (.ofNat dp.length)) .none σ3= .ok (.ref σ3.n) (σ3.push (.list (ds.map .int))):=by
  refine(ZN d3 (by rw[ed];exact lK _ _)).trans ?_;rw[←List.map_drop,List.drop_left' rfl]
 have F4:hZ [] σ3 (σ3.push (.list (ds.map .int))):=(hZ.refl W3).push W3 _;have e4:=ZE (P:=P) (N:=N) (d:=d0) F4.wf (i4 _) h7 (rw:=rt) h8;have q4:=BU (X:=P.xs) ((X3.trans F4).get _ _ iA hQ) h2;have F5:=F4.push W3 (.list []);generalize(σ3.push (.list (ds.map .int))).push (.list [])=xh at e4 F5;have ZW:m7 (.ref d) .none (some (.ofNat dp.length)) xh= .ok (.ref xh.n) (xh.push (.list (dp.map .int))):=by
  refine(Ow (F5.get _ _ iA d3) (by rw[ed];exact lK _ _)).trans ?_;rw[←List.map_take,List.take_left' rfl]
 have F6:=F5.push W3 (.list (dp.map .int));have F7:=F6.push W3 (.list [.int (rH ds pr rt)]);have e7:=zL ((jB (.list [.int (rH ds pr rt)]) (F6.wf _ _ (i4 _))).trans (i4 (σ:=xh) (.list (dp.map .int)))) (i4 _) (nE (ia (pe (ke _)) l1) (by decide:1≤600));have F8:=F7.push W3 (.list (dp.map .int++[.int (rH ds pr rt)]));have c8:=F8.get _ _ iA c3;have X8:=X3.trans F8;have n8:((xh.push (.list (dp.map .int))).push (.list [.int (rH ds pr rt)])).n≠c:=λk=>jQ _ (Nat.lt_of_lt_of_le (W3 _ _ c3) (k▸F7.le));have n1:σ1.n≠c:=λk=>jQ _ (k▸W1 _ _ (X1.get _ _ iA hc):σ1.n.num<σ1.n.num);have hb:=OC (f:=AV.int) (l:=dp++ds) (jm.trans (congrArg (dp.length+·) (h6.trans (ZO syms).symm)));have s8:=Ox (j:=j) (v:=.int (c0+1)) c8 (by rw[ke];exact(List.getElem?_eq_some_iff.1 h9).1);refine⟨_,_,_,_,iy (lT (Gm X hT o L.T L.t L.k (ht.trans (congrArg (λl=>some (gY.list l)) vq)) (by rw[h];rfl))) (iy (ka (wq (jf (gR iQ) rfl rfl) rfl (jf (gR iQ) rfl (Gh (N6 _ _) (by lia)))) rfl i7)
  (iy (lT (iU (gR (gN L.R)) (BS iQ) (BU (X:=P.xs) (X.get _ _ iA hR.l) y1)))
  (iy (lT (nv (iO b1 jd) (xM q1)))
  (iy (lT (Gf (gR (gN (gN (gN L.t)))) (kX (nv (iO (gR (gN (gN (gN L.t)))) jd) (xM (X1.get _ _ iA ht))) (nv (iO (gR (gN iQ)) jd) (xM (X1.get _ _ iA gS))) (sub_len (by rw[ke,ke];exact el))) et))
  (iy (Of (Ob (gR iQ) (ZJ t2) (iO (ge _ (gN (gN (gN (gN L.T)))) iQ) jd) e2))
  (iy (lT (BJ hP (iO (Ge (gR (gN (gN (gN (gN L.d))))) (kX (nv (iO (gR (gN (gN (gN (gN L.d))))) jd) (xM d3)) (gR (gN iQ)) (sub_len hb)) es) (iO (iU (gR (gN (gN (gN (gN L.Q))))) (BS (gN (gN (gN iQ)))) q4) (iO (gR (gN (gN (gN (gN L.r))))) jd))) e4))
  (iy (lT (kX (Gf (gR (gN (gN (gN (gN (gN L.d)))))) (kX (nv (iO (gR (gN (gN (gN (gN (gN L.d)))))) jd) (xM (F5.get _ _ iA d3))) (gR (gN (gN iQ))) (sub_len hb)) ZW) (oA (iO (gR iQ) jd) rfl) e7))
  (iy (mR (kX (iU (gR (gN (gN (gN (gN (gN (gN L.c))))))) (BS (gN (gN (gN (gN (gN iQ)))))) (BU c8 h9)) rfl rfl) (o7 (gR (gN (gN (gN (gN (gN (gN L.c))))))) (BS (gN (gN (gN (gN (gN iQ)))))) s8)) i7)))))))),
  ⟨gN (gN (gN (gN (gN (gN L.T))))),gN (gN (gN (gN (gN (gN L.R))))),gN (gN (gN (gN (gN (gN L.Q))))),gN (gN (gN (gN (gN (gN L.r))))),gN (gN (gN (gN (gN (gN L.k))))),gN (gN iQ),iQ,gN (gN (gN (gN (gN (gN L.c)))))⟩,
  X8.N3 W _ hn (X8.wf _ _ c8),?_,?_,?_,hn,n8.symm⟩
 .rw[kH _ n1,F8.get _ _ iA t3,vq,vq]
 .rw[kH _ n8,i4,vq]
 .rw[rG,List.map_set]
theorem ZX(W:WF ip)(hN:500<N)(hP:iM P.m3 1645579097944721373563352933903279689786348349326654681510838376=some wk)
 (hS:∀r∈rules,∀n∈r,iz (.str n)=true)(hT:TabAt ip T act iG ok)(hR:BR ip R tX rules)(hQ:ip.get Q=some (.list (pairs.map .bool)))
 (w:Walk act iG ok rules pairs rt tok n tr dp cl r):
 ∀{m:Nat}{i:Int}{fu:Nat}{ρ:Loc}{σ:gI}{t d c:Ad},n≤m→m<fu→zO ip T R Q rt tok ρ σ tr dp cl t d c→
  ∃v σ',lr (dT (.loc (.o (.o (.o (.o (.o (.i (.o .h))))))))) (dB tB) (dB .nil) ⟨P,N,iF P N (d0+1)⟩ [] fu (.vals (og m i)) ρ σ= .ret (.ref v) σ'∧hZ [] ip σ'∧vp σ' v r:=by
 have one:∀{n m:Nat}{i:Int}{fu:Nat}{ρ:Loc}{σ:gI}{tr dp cl:List Int}{t d c:Ad}{Z:RS→Prop},n+1≤m→m<fu→zO ip T R Q rt tok ρ σ tr dp cl t d c→
  (∀m' xN ρ',n≤m'→m'<xN→zO ip T R Q rt tok ρ' σ tr dp cl t d c→Z (match dB tB ⟨P,N,iF P N (d0+1)⟩ ρ' [] σ with
   | .next ρ σ=>lr (dT (.loc (.o (.o (.o (.o (.o (.i (.o .h))))))))) (dB tB) (dB .nil) ⟨P,N,iF P N (d0+1)⟩ [] xN (.vals (og m' (i+1))) ρ σ
   | .cont ρ σ=>lr (dT (.loc (.o (.o (.o (.o (.o (.i (.o .h))))))))) (dB tB) (dB .nil) ⟨P,N,iF P N (d0+1)⟩ [] xN (.vals (og m' (i+1))) ρ σ
   | .brk ρ σ=>.next ρ σ
   |r=>r))→Z (lr (dT (.loc (.o (.o (.o (.o (.o (.i (.o .h))))))))) (dB tB) (dB .nil) ⟨P,N,iF P N (d0+1)⟩ [] fu (.vals (og m i)) ρ σ):=by
  intro n m i fu ρ σ tr dp cl t d c Z hm hf A k
  induction m with
  |zero=>cases hm
  |succ m=>induction fu with
   |zero=>cases hf
   |succ fu=>exact k m fu _ (Nat.le_of_succ_le_succ hm) (Nat.lt_of_succ_lt_succ hf) ⟨⟨gN A.L.T,gN A.L.R,gN A.L.Q,gN A.L.r,gN A.L.k,gN A.L.t,gN A.L.d,gN A.L.c⟩,A.X,A.ht,A.hd,A.hc,A.hn,A.cd⟩
 induction w with
 | @refuse n tr s dp cl h o l=>
  intro m i fu ρ σ t d c hm hf A;refine one (i:=i) (Z:=λz=>∃v σ',z= .ret (.ref v) σ'∧hZ [] ip σ'∧vp σ' v _) hm hf A λm' xN ρ' hm hf A=>?_;obtain⟨L,X,ht,hd,hc,-,-⟩:=A;obtain⟨u,σ',k,e,X',g,-⟩:=OA (K:=⟨P,N,iF P N (d0+1)⟩) (κ:=[]) (ρ:=ρ'.set (.i (.i (.o (.o (.o (.i (.o .h))))))) .none) W X (gN L.t) (gN L.d) (gN L.c) iQ ht (by rw[ke,jm];exact nE l (by decide:1≤100)) hd hc;refine⟨u,σ',?_,X',k,g⟩;rw[show dB tB ⟨P,N,iF P N (d0+1)⟩ ρ' [] σ= .ret (.ref u) σ' from iy (lT (Gm X hT o L.T L.t L.k (ht.trans (congrArg (λl=>some (gY.list l)) vq)) (by rw[h];rfl))) (kc (nx (BK (jf (gR iQ) rfl rfl) rfl) rfl (kc e)))]
 | @shift n tr s dp cl a h o l=>
  intro m i fu ρ σ t d c hm hf A;refine one (i:=i) (Z:=λz=>∃v σ',z= .ret (.ref v) σ'∧hZ [] ip σ'∧vp σ' v _) hm hf A λm' xN ρ' hm hf A=>?_;obtain⟨L,X,ht,hd,hc,-,-⟩:=A;refine tR (OA (K:=⟨P,N,iF P N (d0+1)⟩) (κ:=[]) (ρ:=ρ'.set (.i (.i (.o (.o (.o (.i (.o .h))))))) (.int a)) W X (gN L.t) (gN L.d) (gN L.c) iQ ht (by rw[ke,jm];exact nE l (by decide:1≤100)) hd hc) λu σ' k e X' g D=>?_;refine⟨u,σ',?_,X',k,g,⟨by rw[vq];exact D.d⟩⟩;rw[show dB tB ⟨P,N,iF P N (d0+1)⟩ ρ' [] σ= .ret (.ref u) σ' from iy (lT (Gm X hT o L.T L.t L.k (ht.trans (congrArg (λl=>some (gY.list l)) vq)) (by rw[h];rfl))) (kc (nx (wq (jf (gR iQ) rfl rfl) rfl (jf (gR iQ) rfl (BN (N6 _ _) (Int.natCast_nonneg a)))) rfl (kc e)))]
 | @reduce n tr s dp cl j syms pr iR s' g top ds c0 r h o l h1 h2 h3 h4 h5 h6 h7 h8 h9 l1 l2 w' ih=>
  intro m i fu ρ σ t d c hm hf A;refine one (i:=i) (Z:=λz=>∃v σ',z= .ret (.ref v) σ'∧hZ [] ip σ'∧vp σ' v _) hm hf A λm' xN ρ' hm hf A=>?_;refine IZ (ZV (d0:=d0) W hN hP hS hT hR hQ h o l h1 h2 h3 h4 h5 h6 h7 h8 h9 l1 l2 A) λkl σ2 t2 d2 e B=>?_;rw[e];exact ih hm hf B
end
end
section
theorem rI.ext(h:rI σ k tr dp cl)(X:hZ M σ σ')(hM:∀p∈M,∀o,σ.get p=some o→(∀xs,o≠.list xs)∧(∀xs,o≠.tuple xs)):rI σ' k tr dp cl:=by
 refine tR h.d λt d c h1 h2 h3 h4=>?_;have q:∀p xs,σ.get p=some (.list xs)→σ'.get p=some (.list xs):=λp xs e=>X.get _ _ (λk=>(hM p k _ e).1 xs rfl) e;exact⟨t,d,c,X.get _ _ (λk=>(hM _ k _ h1).2 _ rfl) h1,q _ _ h2,q _ _ h3,q _ _ h4⟩
section
variable{P:jE}{N d0:Nat}{act:Act}{iG:pP}{ok:Int→Prop}{rules:List (List Nat)}{pairs:List Bool}{rt:Bool}{tok:Nat}{T R Q:Ad}{tX:List Ad}{σ:gI}
theorem ZY(W:WF σ)(hN:500<N)(hP:iM P.m3 1645579097944721373563352933903279689786348349326654681510838376=some wk)(hS:∀r∈rules,∀n∈r,iz (.str n)=true)
 (hT:TabAt σ T act iG ok)(hR:BR σ R tX rules)(hQ:σ.get Q=some (.list (pairs.map .bool)))(hK:rI σ k tr dp cl)
 (hn:n≤60)(w:Walk act iG ok rules pairs rt tok n tr dp cl r):
 ∃v σ',iF P N (d0+2) zF [] [.ref T,.ref R,.ref Q,.bool rt,.ref k,.str tok] σ= .ok (.ref v) σ'∧hZ [] σ σ'∧vp σ' v r:=by
 refine tR hK.d λt d c h1 h2 h3 h4=>?_;have X1:hZ [] σ (σ.push (.list (tr.map .int))):=(hZ.refl W).push W _;have d1:=X1.get _ _ iA h3;have X2:=X1.push W (.list (dp.map .int));have c2:=X2.get _ _ iA h4;have X3:=X2.push W (.list (cl.map .int));have l2:=X2.wf _ _ (i4 _);obtain⟨v,σ',e,X,r'⟩:=ZX (d0:=d0) W hN hP hS hT hR hQ w (m:=60) (i:=0) (fu:=N) (ρ:=(((((o6 zF.params [.ref T,.ref R,.ref Q,.bool rt,.ref k,.str tok] .nil).set (.i (.i (.i (.i (.i (.o (.o .h))))))) (.ref t)).set (.o (.o (.i (.i (.i (.o (.o .h))))))) (.ref d)).set (.i (.i (.o (.i (.i (.o (.o .h))))))) (.ref c)).set (.i (.i (.i (.i (.i (.o (.o .h))))))) (.ref σ.n)).set (.o (.o (.i (.i (.i (.o (.o .h))))))) (.ref (σ.push (.list (tr.map .int))).n)|>.set (.i (.i (.o (.i (.i (.o (.o .h))))))) (.ref ((σ.push (.list (tr.map .int))).push (.list (dp.map .int))).n))
  hn (Nat.lt_trans (by decide:60<500) hN) ⟨⟨rfl,rfl,rfl,rfl,rfl,rfl,rfl,rfl⟩,X3,(jB _ (X2.wf _ _ ((jB _ (X1.wf _ _ (i4 _))).trans (i4 _)))).trans ((jB _ (X1.wf _ _ (i4 _))).trans (i4 _)),(jB _ l2).trans (i4 _),i4 _,X2.le,λk=>jQ _ (k▸l2)⟩
 exact⟨v,σ',(call_plain rfl rfl rfl).trans (congrArg lu (iy (mR (gR rfl) (Oe (xK h1))) (iy (lT (nv (iO (gR rfl) jd) (BQ h2))) (iy (lT (nv (iO (gR rfl) jd) (BQ d1))) (iy (lT (nv (iO (gR rfl) jd) (BQ c2))) (kc (Gg rfl e))))))),X,r'⟩
end
end
section
section
variable{σ σ' σ1:gI}{ρ:Loc}{κ:gX}{K:KE}{V D C:Ad}{h:Nat}{b:Bool}{m:Int}
theorem set_dict(g:σ.get V=some (.dict es))(e:md es (8*k+1) (.str k) v=es')(hl:es'.length≤100):setItem (.ref V) (.str k) v σ= .ok () (σ.set V (.dict es')):=by
 show go (σ.get V) 11 (λob=>go (Ay σ ob (.str k) v) 11 λo=>R.ok () (σ.set V o))=_;rw[g,mj];show go (vO (md es (8*k+1) (.str k) v)) 11 _=_;rw[e];unfold vO;rw[show pf es'=true from(w8 es').2 (ia hl (by decide))];rfl
theorem OD(g:σ.get V=some (.dict (jO D h b C m))):setItem (.ref V) (.str 9223811841751253093) (.ref D') σ= .ok () (σ.set V (.dict (jO D' h b C m))):=set_dict g rfl (by simp[jO])
theorem OE(g:σ.get V=some (.dict (jO D h b C m))):setItem (.ref V) (.str 19343772344952510430052454) (.str h') σ= .ok () (σ.set V (.dict (jO D h' b C m))):=set_dict g rfl (by simp[jO])
theorem Gn(g:σ.get V=some (.dict (jO D h b C m))):setItem (.ref V) (.str 19343717004720289313980517) (.bool b') σ= .ok () (σ.set V (.dict (jO D h b' C m))):=set_dict g rfl (by simp[jO])
theorem ZZ(g:σ.get V=some (.dict (jO D h b C m))):setItem (.ref V) (.str 40566734146696277983071400099955) (.ref C') σ= .ok () (σ.set V (.dict (jO D h b C' m))):=set_dict g rfl (by simp[jO])
theorem Z0(g:σ.get V=some (.dict (jO D h b C m))):setItem (.ref V) (.str 19343735451481955182313584) (.int m') σ= .ok () (σ.set V (.dict (jO D h b C m'))):=set_dict g rfl (by simp[jO])
theorem Z2(g:σ.get p=some (.list xs)):m7 (.ref p) .none (some (-1)) σ= .ok (.ref σ.n) (σ.push (.list (xs.take (xs.length- 1)))):=by
 show go (σ.get p) 10 (λob=>go (yg ob .none (some (-1))) 10 λo=>R.ok (AV.ref σ.n) (σ.push o))=_;rw[g];show R.ok (AV.ref σ.n) (σ.push (.list (oK (tJ xs (Nat.sub (iC xs) 1)) 0)))=_;rw[rX,yq,jo,List.drop_zero];rfl
end
structure jv where
 due:List Nat
 half:Nat
 bare:Bool
 calls:List Int
 deep:Int
noncomputable def o8(k:Nat)(f:Form)(v:jv):jv:=
 let c1:=v.calls.set (k+1) (v.calls.getD (k+1) 0+1)
 if f.1=1 then{v with due:=v.due++[f.2.2],bare:=true,calls:=c1.set 0 (c1.getD 0 0+1),deep:=max v.deep ((v.due++[f.2.2]).length:Int)}
 else if f.1=2 then{v with half:=f.2.2,calls:=c1}else{v with calls:=c1}
noncomputable def wz(l:Nat):Nat→List Form→jv→jv
 |_,[],v=>v
 |k,f::fs,v=>wz l (k+1) fs (if f.2.1=l then o8 k f v else v)
noncomputable def mU(fs:List Form)(rt:Bool)(v:jv)(l:Nat):jv:=
 if l=v.half then{v with half:=1}
 else if l=2097274 then{v with bare:=false}
 else if[l]=jr v.due then{v with due:=v.due.take (v.due.length- 1),bare:=rt}
 else wz l 0 fs v
def mB(σ:gI)(V:Ad)(v:jv):Prop:=∃D C,xJ σ V D C v.due v.half v.bare v.calls v.deep
noncomputable def zP(s:IS):g7:=match s with| .ite _ b _=>b|_=>.nil
noncomputable def Gp(s:IS):g7:=match s with| .ite _ _ o=>o|_=>.nil
def OF:IS:=lE 0 (Gp (lE 0 (Gp (lE 0 BC))))
def Gq:g7:=bodyOf (lE 0 (Gp OF))
theorem Z3(h:σ.get b=some (.list xs))(hi:xs[i]? =some v):It.next σ (.enum b i)= .two (.int (.ofNat i)) v (.enum b (i+1)):=by
 show(match σ.get b with|some (.list xs)=>kL xs i λv=>Got.two (.int (.ofNat i)) v (.enum b (Nat.succ i))|_=>.bad)=_;rw[h];show kL xs i _=_;unfold kL;rw[mJ,hi]
theorem Z4(h:σ.get b=some (.list xs))(hi:xs[i]? =none):It.next σ (.enum b i)= .done:=by
 show(match σ.get b with|some (.list xs)=>kL xs i λv=>Got.two (.int (.ofNat i)) v (.enum b (Nat.succ i))|_=>.bad)=_;rw[h];show kL xs i _=_;unfold kL;rw[mJ,hi]
theorem Z5(h:It.next σ it= .two u v it'):lr t bd o K κ (n+1) it ρ σ=(rU t K ρ κ u v σ).run λρ σ=>match bd K ρ κ σ with
 | .next ρ σ=>lr t bd o K κ n it' ρ σ
 | .cont ρ σ=>lr t bd o K κ n it' ρ σ
 | .brk ρ σ=>.next ρ σ
 |r=>r:=by
 show(match It.next σ it with| .done=>_| .one v it=>_| .two u v it=>_| .bad=>_)=_;rw[h];rfl
theorem OG(h:It.next σ it= .done):lr t bd o K κ (n+1) it ρ σ=o K ρ κ σ:=by
 show(match It.next σ it with| .done=>_| .one v it=>_| .two u v it=>_| .bad=>_)=_;rw[h]
structure kI(ip σ:gI)(V p c:Ad)(f:Form)(D:Ad)(h:Nat)(b:Bool)(C:Ad)(m:Int)(due:List Nat)(cs:List Int):Prop where
 X:hZ [V] ip σ
 fv:σ.get V=some (.dict (jO D h b C m))
 fd:σ.get D=some (.list (due.map .str))
 fc:σ.get c=some (.list (cs.map .int))
 fp:σ.get p=some (.tuple [.int f.1,.str f.2.1,.str f.2.2])
 n0:ip.n.num≤c.num
 c1:c≠V
 d1:D≠V
 d2:D≠c
 p1:p≠V
 p2:p≠c
section
variable{ip σ:gI}{V p c:Ad}{f:Form}{D:Ad}{h:Nat}{b:Bool}{C:Ad}{m:Int}{due:List Nat}{cs:List Int}
theorem kI.setC(S:kI ip σ V p c f D h b C m due cs)(W:WF ip)(cs':List Int):kI ip (σ.set c (.list (cs'.map .int))) V p c f D h b C m due cs':=
 ⟨S.X.N3 W _ S.n0 (S.X.wf _ _ S.fc),by rw[kH _ S.c1.symm];exact S.fv,by rw[kH _ S.d2];exact S.fd,rG _ _,by rw[kH _ S.p2];exact S.fp,S.n0,S.c1,S.d1,S.d2,S.p1,S.p2⟩
theorem kI.xO(S:kI ip σ V p c f D h b C m due cs):kI ip (σ.set V (.dict (jO D h' b' C' m'))) V p c f D h' b' C' m' due cs:=
 ⟨S.X.setM _ (by simp) (S.X.wf _ _ S.fv),rG _ _,by rw[kH _ S.d1];exact S.fd,by rw[kH _ S.c1];exact S.fc,by rw[kH _ S.p1];exact S.fp,S.n0,S.c1,S.d1,S.d2,S.p1,S.p2⟩
theorem kI.newD(S:kI ip σ V p c f D h b C m due cs)(e:σ.get D'=some (.list (Z6.map .str)))(k1:D'≠V)(k2:D'≠c):kI ip (σ.set V (.dict (jO D' h b C m))) V p c f D' h b C m Z6 cs:=
 ⟨S.X.setM _ (by simp) (S.X.wf _ _ S.fv),rG _ _,by rw[kH _ k1];exact e,by rw[kH _ S.c1];exact S.fc,by rw[kH _ S.p1];exact S.fp,S.n0,S.c1,k1,k2,S.p1,S.p2⟩
theorem kI.push(S:kI ip σ V p c f D h b C m due cs)(W:WF ip)(o:gY):kI ip (σ.push o) V p c f D h b C m due cs:=
 ⟨S.X.push W _,(jB _ (S.X.wf _ _ S.fv)).trans S.fv,(jB _ (S.X.wf _ _ S.fd)).trans S.fd,(jB _ (S.X.wf _ _ S.fc)).trans S.fc,(jB _ (S.X.wf _ _ S.fp)).trans S.fp,S.n0,S.c1,S.d1,S.d2,S.p1,S.p2⟩
theorem kI.vw(S:kI ip σ V p c f D h b C m due cs):mB (σ.set V (.dict (jO D h b c m))) V ⟨due,h,b,cs,m⟩:=
 ⟨D,c,rG _ _,by rw[kH _ S.d1];exact S.fd,by rw[kH _ S.c1];exact S.fc⟩
theorem kI.item{X:Option (List AV)}(S:kI ip σ V p c f D h b C m due cs){j:Nat}(hj:j<cs.length):getItem X (.ref c) (.int (j:Int)) σ= .ok (.int (cs.getD j 0)) σ:=by
 rw[xH S.fc];exact zI (by rw[sQ,pV hj,oJ,pV hj];rfl)
theorem kI.put(S:kI ip σ V p c f D h b C m due cs)(hj:j<cs.length):setItem (.ref c) (.int (j:Int)) (.int x) σ= .ok () (σ.set c (.list ((cs.set j x).map .int))):=by
 refine(Ox (j:=j) S.fc (by rw[ke];exact hj)).trans ?_;rw[List.map_set]
end
noncomputable def vA:Ad:=.o (.i (.i (.o (.i (.o (.o .h))))))
noncomputable def fA:Ad:=.o (.i (.o (.o (.i (.o (.o .h))))))
noncomputable def BV:Ad:=.i (.i (.o (.i (.i (.o (.o .h))))))
noncomputable def kA:Ad:=.i (.o (.o (.i (.i .h))))
noncomputable def lA:Ad:=.o (.i (.o (.i (.i (.o (.o .h))))))
section
variable{K:KE}{ρ:Loc}{κ:gX}{ip σ:gI}{V p c:Ad}{f:Form}{D:Ad}{h:Nat}{b:Bool}{C:Ad}{m:Int}{due:List Nat}{cs:List Int}
theorem OH{α:Type}{g:α→AV}{l:List α}{q:Ad}(h:σ.get q=some (.list (l.map g))):me K .len [.ref q] σ= .ok (.int (l.length:Int)) σ:=(xM h).trans (congrArg (λn:Nat=>R.ok (AV.int (.ofNat n)) σ) (ke g))
def OI:g7:=zP (lE 0 Gq)
def Z7:g7:=zP (lE 2 OI)
theorem Z8(W:WF ip)(S:kI ip σ V p c f D h b C m due cs)(hd:due.length≤900)(h0:0<cs.length)(rV:ρ.get vA=some (.ref V))(rf:ρ.get fA=some (.ref p))(rc:ρ.get BV=some (.ref c)):
 ∃σ' D',dB Z7 K ρ κ σ= .next ρ σ'∧kI ip σ' V p c f D' h true C (max m ((due++[f.2.2]).length:Int)) (due++[f.2.2]) (cs.set 0 (cs.getD 0 0+1)):=by
 have S4:=S.push W (.list [.str f.2.2]);have e4:=zL S4.fd (i4 _) (nE (Gl _ hd) (by decide:1≤100));have S5:=S4.push W (.list (due.map .str++[.str f.2.2]));have gD:((σ.push (.list [.str f.2.2])).push (.list (due.map .str++[.str f.2.2]))).get (σ.push (.list [.str f.2.2])).n=some (.list ((due++[f.2.2]).map .str)):=by rw[i4,List.map_append];rfl
 have S6:=S5.newD gD (λk=>jQ _ (k▸S4.X.wf _ _ S4.fv)) (λk=>jQ _ (k▸S4.X.wf _ _ S4.fc));have S7:=S6.xO (h':=h) (b':=true) (C':=C) (m':=m);have S8:=S7.setC W (cs.set 0 (cs.getD 0 0+1));exact⟨_,_,iy (mR (kX (iU (gR rV) rfl (wu S.fv)) (oA (iO (iU (gR rf) rfl ((getItem_tuple S.fp).trans Gd)) jd) rfl) e4) (o7 (gR rV) rfl (OD S5.fv)))
  (iy (mR rfl (o7 (gR rV) rfl (Gn S6.fv)))
  (iy (mR (kX (iU (gR rc) rfl (S7.item (j:=0) h0)) rfl rfl) (o7 (gR rc) rfl (S7.put (j:=0) h0)))
  (iy (mR (nv (iO (iU (gR rV) rfl (Oq S8.fv)) (iO (nv (iO (iU (gR rV) rfl (wu S8.fv)) jd) (OH S8.fd)) jd)) (F9 _ _)) (o7 (gR rV) rfl (Z0 S8.fv))) i7))),S8.xO⟩
def OJ:g7:=match OI with| .cons _ (.cons _ l)=>l|_=>.nil
theorem Z9(W:WF ip)(S:kI ip σ V p c f D h b C m due cs)(hd:due.length≤900)(h0:0<cs.length)(hk:iz (.int f.1)=true)(rV:ρ.get vA=some (.ref V))(rf:ρ.get fA=some (.ref p))(rc:ρ.get BV=some (.ref c)):
 ∃σ',dB OJ K ρ κ σ= .next ρ σ'∧hZ [V] ip σ'∧mB σ' V (if f.1=1 then⟨due++[f.2.2],h,true,cs.set 0 (cs.getD 0 0+1),max m ((due++[f.2.2]).length:Int)⟩else if f.1=2 then⟨due,f.2.2,b,cs,m⟩else⟨due,h,b,cs,m⟩):=by
 have k0:∀{σ:gI}{D:Ad}{h:Nat}{b:Bool}{C:Ad}{m:Int}{due:List Nat}{cs:List Int}{n:Int}{t:Bool}{e:IE},kI ip σ V p c f D h b C m due cs→lN σ (.int f.1) (.int n)=some t→dE e K ρ κ σ= .ok (.int n) σ→dE (.cmp .eq (.sub (.loc fA) (.const (.int 0))) e) K ρ κ σ= .ok (.bool t) σ:=λS e e'=>jf (iU (gR rf) rfl ((getItem_tuple S.fp).trans Gc)) e' (k_eq e);have fin:∀{σ:gI}{D:Ad}{h:Nat}{b:Bool}{C:Ad}{m:Int}{due:List Nat}{cs:List Int},kI ip σ V p c f D h b C m due cs→dB (.cons (lE 2 OJ) .nil) K ρ κ σ= .next ρ (σ.set V (.dict (jO D h b c m))):=λS=>iy (mR (gR rc) (o7 (gR rV) rfl (ZZ S.fv))) i7
 by_cases h1:f.1=1
 .refine jA (Z8 (K:=K) (κ:=κ) W S hd h0 rV rf rc) λσ1 D' e1 S1=>?_;rw[if_pos h1];exact⟨_,iy (nx (k0 S (by rw[h1];exact sE rfl) rfl) rfl e1) (iy (ka (k0 S1 (sF hk rfl (by rw[h1];nofun)) rfl) rfl i7) (fin S1)),S1.xO.X,S1.vw⟩
 have n1:=k0 (e:=.const (.int 1)) S (sF hk (w:=.int 1) rfl (λe=>h1 (Int.ofNat.inj (AV.int.inj e)))) rfl;rw[if_neg h1]
 by_cases h2:f.1=2
 .rw[if_pos h2];have S1:=S.xO (h':=f.2.2) (b':=b) (C':=C) (m':=m);exact⟨_,iy (ka n1 rfl i7) (iy (nx (k0 S (by rw[h2];exact sE rfl) rfl) rfl (iy (mR (iU (gR rf) rfl ((getItem_tuple S.fp).trans Gd)) (o7 (gR rV) rfl (OE S.fv))) i7)) (fin S1)),S1.xO.X,S1.vw⟩
 .rw[if_neg h2];exact⟨_,iy (ka n1 rfl i7) (iy (ka (k0 S (sF hk (w:=.int 2) rfl (λe=>h2 (Int.ofNat.inj (AV.int.inj e)))) rfl) rfl i7) (fin S)),S.xO.X,S.vw⟩
end
section
variable{K:KE}{κ:gX}{rt:Bool}{F V:Ad}{ip:gI}{l:Nat}
theorem Z'(W:WF ip)(hl:iz (.str l)=true)(hp:p≠V)(g0:ip.get p=some (.tuple [.int f.1,.str f.2.1,.str f.2.2]))(hf:iz (.str f.2.1)=true∧iz (.int f.1)=true)(X:hZ [V] ip σ)(hv:mB σ V v)(hd:v.due.length≤900)(hi:i+1<v.calls.length)
 (rl:ρ.get lA=some (.str l))(rV:ρ.get vA=some (.ref V))(rf:ρ.get fA=some (.ref p))(rk:ρ.get kA=some (.int (.ofNat i))):
 ∃ρ' σ',dB Gq K ρ κ σ= .next ρ' σ'∧hZ [V] ip σ'∧mB σ' V (if f.2.1=l then o8 i f v else v)∧ρ'.get lA=some (.str l)∧ρ'.get vA=some (.ref V):=by
 refine qY hv λD C hV=>?_;have gp:=X.get _ _ (λk=>hp (jc.1 k)) g0;have k0:∀{t},lN σ (.str f.2.1) (.str l)=some t→dE (.cmp .eq (.sub (.loc fA) (.const (.int 1))) (.loc lA)) K ρ κ σ= .ok (.bool t) σ:=λe=>jf (iU (gR rf) rfl ((getItem_tuple gp).trans N8)) (gR rl) (k_eq e)
 by_cases h:f.2.1=l
 .rw[if_pos h];have lV:=X.wf _ _ hV.v;have S2:kI ip (σ.push (.list (v.calls.map .int))) V p σ.n f D v.half v.bare C v.deep v.due v.calls:=
   ⟨X.push W _,(jB _ lV).trans hV.v,(jB _ (X.wf _ _ hV.d)).trans hV.d,i4 _,(jB _ (X.wf _ _ gp)).trans gp,X.le,(λk=>jQ _ (k▸lV)),(λk=>by have:=hV.d;rw[k,hV.v]at this;cases this),(λk=>jQ _ (k▸X.wf _ _ hV.d)),hp,(λk=>jQ _ (k▸X.wf _ _ gp))⟩
  have S3:=S2.setC W (v.calls.set (i+1) (v.calls.getD (i+1) 0+1));refine jI (Z9 (K:=K) (κ:=κ) (ρ:=ρ.set BV (.ref σ.n)) W S3 hd (by rw[List.length_set];exact n6 (kg _) hi) hf.2 (gN rV) (gN rf) iQ) λA7 e4 X4 V4=>?_;have OL:=gN (x:=BV) (v:=.ref σ.n) rk;exact⟨_,A7,iy (nx (k0 (by rw[h];exact sE hl)) rfl (iy (lT (nv (iO (iU (gR rV) rfl (Oo hV.v)) jd) (BQ hV.c))) (iy (mR (kX (iU (gR iQ) (kX (gR OL) rfl rfl) (S2.item hi)) rfl rfl) (o7 (gR iQ) (kX (gR OL) rfl rfl) (S2.put hi))) e4))) i7,X4,V4,gN rl,gN rV⟩
 .rw[if_neg h];exact⟨_,_,iy (ka (k0 (sF hf.1 hl λe=>h (AV.str.inj e))) rfl i7) i7,X,⟨D,C,hV⟩,rl,rV⟩
theorem lU.i3:∀{ps:List Ad}{fs:List Form}{i:Nat}{f:Form},lU ip ps fs→fs[i]? =some f→∃p,ps[i]? =some p∧ip.get p=some (.tuple [.int f.1,.str f.2.1,.str f.2.2])
 |[],[],_,_,_,e=>nomatch e
 |p::_,_::_,0,_,h,e=>⟨p,rfl,gP e▸h.1⟩
 |_::_,_::_,_+1,_,h,e=>h.2.i3 e
 |[],_::_,_,_,h,_=>h.elim
 |_::_,[],_,_,h,_=>h.elim
theorem drop_cons{α:Type}{l r:List α}{i:Nat}{a:α}(h:l.drop i=a::r):l[i]? =some a∧l.drop (i+1)=r:=
 ⟨by rw[←List.head?_drop,h];rfl,by rw[←List.tail_drop,h];rfl⟩
theorem OM:(o8 k f v).calls.length=v.calls.length∧(o8 k f v).due.length≤v.due.length+1:=by
 unfold o8;split
 .exact⟨(List.length_set ..).trans (List.length_set ..),pe jm⟩
 .split<;>exact⟨List.length_set ..,nF _⟩
theorem aaa(W:WF ip)(hl:iz (.str l)=true){wA:List Ad}{BW:List Form}(hF:BO ip F wA BW)(zQ:F≠V)(Gr:∀p∈wA,p≠V)(hfp:∀f∈BW,iz (.str f.2.1)=true∧iz (.int f.1)=true)(fs:List Form):
 ∀(i:Nat){fu:Nat}{ρ:Loc}{σ:gI}{v:jv},BW.drop i=fs→fs.length<fu→hZ [V] ip σ→mB σ V v→v.due.length+fs.length≤900→v.calls.length=BW.length+1→
  ρ.get lA=some (.str l)→ρ.get vA=some (.ref V)→
  ∃ρ' σ',lr (dT (.tup (.cons (.loc kA) (.cons (.loc fA) .nil)) 2)) (dB Gq) (dB .nil) K κ fu (.enum F i) ρ σ= .next ρ' σ'∧hZ [V] ip σ'∧mB σ' V (wz l i fs v):=by
 induction fs with
 |nil=>
  intro i fu ρ σ v hd hf X hv _ _ _ _
  induction fu with
  |zero=>cases hf
  |succ fu=>exact⟨ρ,σ,OG (Z4 (X.get _ _ (λk=>zQ (jc.1 k)) hF.l) (List.getElem?_eq_none (by rw[ke,hF.t.len];exact List.drop_eq_nil_iff.1 hd))),X,hv⟩
 |cons f fs ih=>
  intro i fu ρ σ v hd hf X hv hdl hcl rl rV
  induction fu with
  |zero=>cases hf
  |succ fu=>
   refine iK (drop_cons hd) λhi hd'=>?_;refine gW (hF.t.i3 hi) λp hp1 hp2=>?_;have hi':=(List.getElem?_eq_some_iff.1 hi).1;rw[Z5 (Z3 (v:=.ref p) (X.get _ _ (λk=>zQ (jc.1 k)) hF.l) (by rw[sQ,hp1];rfl))];refine qY hv λD C hV=>?_;have X1:=X.push W (.tuple [.int (.ofNat i),.ref p]);have V1:mB (σ.push (.tuple [.int (.ofNat i),.ref p])) V v:=⟨D,C,(jB _ (X.wf _ _ hV.v)).trans hV.v,(jB _ (X.wf _ _ hV.d)).trans hV.d,(jB _ (X.wf _ _ hV.c)).trans hV.c⟩;have e1:rU (dT (.tup (.cons (.loc kA) (.cons (.loc fA) .nil)) 2)) K ρ κ (.int (.ofNat i)) (.ref p) σ= .ok _ _:=BL (xK (i4 _));rw[e1];refine nO (Z' (K:=K) (κ:=κ) (i:=i) W hl (Gr p (List.mem_of_getElem? hp1)) hp2 (hfp f (List.mem_of_getElem? hi)) X1 V1 (ia (lK _ _) hdl) (by rw[hcl];exact Nat.succ_lt_succ hi') (gN (gN rl)) (gN (gN rV)) iQ (gN iQ)) λkl σ2 e2 X2 V2 l2 v2=>?_;rw[NR,e2];refine ih (i+1) hd' (Nat.lt_of_succ_lt_succ hf) X2 V2 ?_ ?_ l2 v2
   .refine ia ?_ hdl;rw[mZ,Nat.add_comm fs.length,←Nat.add_assoc];refine Nat.add_le_add_right ?_ _;split
    .exact OM.2
    .exact nF _
   .split
    .exact OM.1.trans hcl
    .exact hcl
end
end
section
section
variable{P:jE}{N d0:Nat}{rt:Bool}{F V:Ad}{σ:gI}{l:Nat}{v:jv}{wA:List Ad}{fs:List Form}
theorem mB.of(hV:xJ σ V D C v.due v.half v.bare v.calls v.deep):mB (σ.set V (.dict (jO D h b C m))) V ⟨v.due,h,b,v.calls,m⟩:=
 ⟨D,C,rG _ _,(kH _ λk=>by have:=hV.d;rw[k,hV.v]at this;cases this).trans hV.d,(kH _ λk=>by have:=hV.c;rw[k,hV.v]at this;cases this).trans hV.c⟩
theorem aab:∀{q:List Nat},[AV.str l]=q.map AV.str→[l]=q
 |[_],e=>by injection e with e;injection e with e;rw[e]
 |[],e=>nomatch e
 |_::_::_,e=>nomatch e
theorem aac(W:WF σ)(hN:500<N)(hl:iz (.str l)=true)(hF:BO σ F wA fs)(zQ:F≠V)(Gr:∀p∈wA,p≠V)(hfp:∀f∈fs,iz (.str f.2.1)=true∧iz (.int f.1)=true)
 (hfl:fs.length≤100)(hv:mB σ V v)(hdl:v.due.length≤100)(hcl:v.calls.length=fs.length+1)(hh:iz (.str v.half)=true)(wB:∀x∈v.due,iz (.str x)=true):
 ∃σ',iF P N (d0+1) ti [] [.ref F,.bool rt,.ref V,.str l] σ= .ok .none σ'∧hZ [V] σ σ'∧mB σ' V (mU fs rt v l):=by
 suffices hs:∃ρ' σ',dB BC ⟨P,N,iF P N d0⟩ (o6 ti.params [.ref F,.bool rt,.ref V,.str l] .nil) [] σ= .next ρ' σ'∧hZ [V] σ σ'∧mB σ' V (mU fs rt v l) by
  refine jA hs λρ' σ' e r=>?_;exact⟨σ',(call_plain rfl rfl rfl).trans (congrArg lu e),r⟩
 refine qY hv λD C hV=>?_;have lV:=W _ _ hV.v;have vh:=Gj (X:=P.xs) hV.v;have XV:∀{o},hZ [V] σ (σ.set V o):=(hZ.refl W).setM _ (jc.2 rfl) lV;unfold mU
 by_cases h1:l=v.half
 .rw[if_pos h1];exact⟨_,_,iy (nx (jf (gR rfl) (iU (gR rfl) rfl vh) (k_eq (by rw[h1];exact sE hh))) rfl (iy (mR rfl (o7 (gR rfl) rfl (OE hV.v))) i7)) i7,XV,mB.of hV⟩
 rw[if_neg h1];have n1:=sF (σ:=σ) hl hh λe=>h1 (AV.str.inj e)
 by_cases h2:l=2097274
 .rw[if_pos h2];exact⟨_,_,iy (ka (jf (gR rfl) (iU (gR rfl) rfl vh) (k_eq n1)) rfl (iy (nx (jf (gR rfl) rfl (k_eq (by rw[h2];exact sE rfl))) rfl (iy (mR rfl (o7 (gR rfl) rfl (Gn hV.v))) i7)) i7)) i7,XV,mB.of hV⟩
 rw[if_neg h2];have n2:=sF (σ:=σ) hl (w:=.str 2097274) rfl λe=>h2 (AV.str.inj e);have X1:hZ [V] σ (σ.push (.list [.str l])):=(hZ.refl W).push W _;have V1:=(jB (.list [.str l]) lV).trans hV.v;have D1:=(jB (.list [.str l]) (W _ _ hV.d)).trans hV.d;have C1:=(jB (.list [.str l]) (W _ _ hV.c)).trans hV.c;have X2:=X1.push W (.list (jr (v.due.map .str)));have W1:=X1.wf;have vt:xJ ((σ.push (.list [.str l])).push (.list (jr (v.due.map .str)))) V D C v.due v.half v.bare v.calls v.deep:=⟨(jB _ (W1 _ _ V1)).trans V1,(jB _ (W1 _ _ D1)).trans D1,(jB _ (W1 _ _ C1)).trans C1⟩;have L2:=(jB (.list (jr (v.due.map .str))) (W1 _ _ (i4 _))).trans (i4 (σ:=σ) (.list [.str l]));have M2:=i4 (σ:=σ.push (.list [.str l])) (.list (jr (v.due.map .str)));have pl:[AV.str l].all iz=true:=(Bool.and_true _).trans hl;have c3:∀{t},lN _ (.ref σ.n) (.ref (σ.push (.list [.str l])).n)=some t→dE (.cmp .eq (.list (.cons (.loc lA) .nil)) (.Ff (.sub (.loc vA) (.const (.str 9223811841751253093))) (.neg (.const (.int 1))))) ⟨P,N,iF P N d0⟩ (o6 ti.params [.ref F,.bool rt,.ref V,.str l] .nil) [] σ= .ok (.bool t) _:=λe=>jf (oA (iO (gR rfl) jd) rfl) (Ge (iU (gR rfl) rfl (wu V1)) rfl (Os D1)) (k_eq e);have wrap:∀{ρ' σ'},dS OF ⟨P,N,iF P N d0⟩ (o6 ti.params [.ref F,.bool rt,.ref V,.str l] .nil) [] σ= .next ρ' σ'→dB BC ⟨P,N,iF P N d0⟩ (o6 ti.params [.ref F,.bool rt,.ref V,.str l] .nil) [] σ= .next ρ' σ':=
  λz=>iy (ka (jf (gR rfl) (iU (gR rfl) rfl vh) (k_eq n1)) rfl (iy (ka (jf (gR rfl) rfl (k_eq n2)) rfl (iy z i7)) i7)) i7
 by_cases h3:[l]=jr v.due
 .rw[if_pos h3];have W2:=X2.wf;have X3:=X2.push W (.list ((v.due.map AV.str).take ((v.due.map AV.str).length- 1)));have V3:=(jB (.list ((v.due.map AV.str).take ((v.due.map AV.str).length- 1))) (W2 _ _ vt.v)).trans vt.v;have ON:=X3.wf _ _ V3;have OO:xJ ((((σ.push (.list [.str l])).push (.list (jr (v.due.map .str)))).push (.list ((v.due.map AV.str).take ((v.due.map AV.str).length- 1)))).set V (.dict (jO ((σ.push (.list [.str l])).push (.list (jr (v.due.map .str)))).n v.half v.bare C v.deep))) V _ C (v.due.take (v.due.length- 1)) v.half v.bare v.calls v.deep:=
   ⟨rG _ _,(kH _ λk=>jQ _ (k▸W2 _ _ vt.v)).trans (by rw[i4,ke,List.map_take]),(kH _ λk=>by have:=hV.c;rw[k,hV.v]at this;cases this).trans ((jB _ (W2 _ _ vt.c)).trans vt.c)⟩
  exact⟨_,_,wrap (nx (c3 (xG L2 (by rw[M2,zN,←h3];rfl) pl)) rfl (iy (mR (Gf (iU (gR rfl) rfl (wu vt.v)) rfl (Z2 vt.d)) (o7 (gR rfl) rfl (OD V3))) (iy (mR (gR rfl) (o7 (gR rfl) rfl (Gn OO.v))) i7))),
   (X3.setM _ (jc.2 rfl) ON).setM _ (jc.2 rfl) ON,mB.of (v:=⟨v.due.take (v.due.length- 1),v.half,v.bare,v.calls,v.deep⟩) OO⟩
 .rw[if_neg h3];refine iH (aaa (K:=⟨P,N,iF P N d0⟩) (κ:=[]) (ρ:=o6 ti.params [.ref F,.bool rt,.ref V,.str l] .nil) (fu:=N) W hl hF zQ Gr hfp fs 0 rfl (n6 (ia hfl (by decide:100≤500)) hN) X2 ⟨D,C,vt⟩ (nE hdl (ia hfl (by decide:100≤800))) hcl rfl rfl) λρ' σ' z1 z2 z3=>?_;exact⟨ρ',σ',wrap (ka (c3 (BH L2 M2 pl (by rw[zN,List.all_map,kf];exact λx hx=>wB x (List.mem_of_mem_drop hx)) λe=>h3 (aab (e.trans (zN _ _))))) rfl (iy (Gg (ZC (gR rfl) (X2.get _ _ (λk=>zQ (jc.1 k)) hF.l)) z1) i7)),z2,z3⟩
end
end
section
noncomputable def draw(xs:List Int)(k:Nat)(b:Int):Int:=if k+1≤min xs.length 63 then xs.getD k 0%b else 0
noncomputable def ko(k:Int):List (Nat×AV×AV):=[(35185999479713,.str 4398249934964,.int k)]
structure NumC(σ:gI)(H:Ad)(κ:gX)(hc sc s:Ad):Prop where
 lh:kh κ (.i (.o (.i (.i (.o (.o (.o .h)))))))=some hc
 hv:σ.get hc=some (.cell (some (.ref H)))
 ls:kh κ (.o (.i (.i (.i (.o (.o (.o .h)))))))=some sc
 sv:σ.get sc=some (.cell (some (.ref s)))
 sr:σ.get s=some .jH
structure aad(σ:gI)(f H:Ad)(κ:gX)(hc sc s:Ad):Prop extends NumC σ H κ hc sc s where
 fn:σ.get f=some (.fn 4 κ)
section
variable{X:Option (List AV)}{σ:gI}{K:KE}
theorem aae(hX:K.P.xs=some xs)(h:σ.get p=some .jH):me K .len [.ref p] σ= .ok (.int (.ofNat xs.length)) σ:=by
 show(match ph (.ref p) σ with|some q=>_| .none=>lenOf K.P.xs (.ref p) σ)=_;have:ph (.ref p) σ=none:=by
  show hG (motive:=λU=>Option (Nat×Nat×BT AV)) .none wZ (σ.get p)=_;rw[h];rfl
 rw[this];show go (σ.get p) 16 (λo=>go (CJ K.P.xs o) 16 λn=>R.ok (AV.int (.ofNat n)) σ)=_;rw[h,hX];show R.ok (AV.int (.ofNat (iC xs))) σ=_;rw[jo]
theorem aaf(hX:X=some xs)(h:σ.get p=some .jH):getItem X (.ref p) i σ=p6 xs i σ:=by
 show go (σ.get p) 9 (λob=>ye X ob i σ)=_;rw[h,hX];rfl
theorem aag(a b:Int):me K .min [.int a,.int b] σ= .ok (.int (min a b)) σ:=by
 show R.ok (AV.int (gT a b (kz b a))) σ=_;rw[nP]
 by_cases h:b<a
 .rw[decide_eq_true h,Int.min_eq_right (by lia)]
 .rw[decide_eq_false h,Int.min_eq_left (by lia)]
theorem OP(h:0<b):binop .mod (.int a) (.int b) σ= .ok (.int (a%b)) σ:=by
 show gT (motive:=λU=>R AV) (.stuck 4) (.ok (.int (Int.emod a b)) σ) (kz 0 b)=_;rw[nP,decide_eq_true h];rfl
theorem Gs(g:σ.get H=some (.dict (ko k))):getItem X (.ref H) (.str 4398249934964) σ= .ok (.int k) σ:=by
 rw[tu g];exact wt rfl
theorem aah(g:σ.get H=some (.dict (ko k))):setItem (.ref H) (.str 4398249934964) (.int k') σ= .ok () (σ.set H (.dict (ko k'))):=set_dict g rfl (by simp[ko])
theorem OQ{P:jE}{N d:Nat}{H:Ad}{xs:List Int}{κ:gX}{hc sc s:Ad}(A:NumC σ H κ hc sc s)(hX:P.xs=some (xs.map .int)){k:Nat}(g:σ.get H=some (.dict (ko k))){b:Int}(hb:0<b):
 iF P N (d+1) tj κ [.int b] σ= .ok (.int (draw xs k b)) (σ.set H (.dict (ko ((k+1:Nat):Int)))):=by
 have n1:hc≠H:=λe=>by have:=A.hv;rw[e,g]at this;cases this
 have n2:sc≠H:=λe=>by have:=A.sv;rw[e,g]at this;cases this
 have n3:s≠H:=λe=>by have:=A.sr;rw[e,g]at this;cases this
 have g1:=rG (σ:=σ) (.dict (ko ((k+1:Nat):Int))) H;have h1:=(kH (σ:=σ) (.dict (ko ((k+1:Nat):Int))) n1).trans A.hv;have c1:=(kH (σ:=σ) (.dict (ko ((k+1:Nat):Int))) n2).trans A.sv;have s1:=(kH (σ:=σ) (.dict (ko ((k+1:Nat):Int))) n3).trans A.sr;have i1:dS (lE 0 BD) ⟨P,N,iF P N d⟩ (o6 tj.params [.int b] .nil) κ σ= .next _ _:=mR (kX (iU (tw A.lh A.hv) rfl (Gs g)) rfl rfl) (o7 (tw A.lh A.hv) rfl (aah (k':=((k+1:Nat):Int)) g));have c2:∀{r},cmp .le (.int ((k+1:Nat):Int)) (.int (min (Int.ofNat (xs.map AV.int).length) 63)) (σ.set H (.dict (ko ((k+1:Nat):Int))))=r→dE (.cmp .le (.sub (.xC (.i (.o (.i (.i (.o (.o (.o .h)))))))) (.const (.str 4398249934964))) (.me .min (.cons (.me .len (.cons (.xC (.o (.i (.i (.i (.o (.o (.o .h)))))))) .nil)) (.cons (.const (.int 63)) .nil)))) ⟨P,N,iF P N d⟩ (o6 tj.params [.int b] .nil) κ (σ.set H (.dict (ko ((k+1:Nat):Int))))=r:=λz=>jf (iU (tw A.lh h1) rfl (Gs g1)) (nv (iO (nv (iO (tw A.ls c1) jd) (aae hX s1)) (iO (e:=.const (.int 63)) rfl jd)) (aag _ _)) z;have zR:(xs.map AV.int).length=xs.length:=ke _;refine(call_plain rfl rfl rfl).trans ?_;unfold draw
 by_cases h:k+1≤min xs.length 63
 .rw[if_pos h];have hi:xs[k]? =some (xs.getD k 0):=by
   rw[oJ,pV (ia h (Nat.min_le_left _ _))];rfl
  exact congrArg lu (iy i1 (kc (oB (zJ (c2 (BN (N7 _ _) (by rw[zR,Int.ofNat_eq_natCast];lia))) rfl (kX (iU (tw A.ls c1) (kX (iU (tw A.lh h1) rfl (Gs g1)) rfl (sub_len (a:=k+1) (b:=1) rfl)) ((aaf hX s1).trans (zI (i:=k) (by rw[sQ,hi];rfl)))) (gR rfl) (OP hb))))))
 .rw[if_neg h];exact congrArg lu (iy i1 (kc (oB (zK (c2 (Gh (N7 _ _) (by rw[zR,Int.ofNat_eq_natCast];lia))) rfl rfl))))
theorem OS{N d:Nat}{P:jE}(hP:i3 P.nested 4=some tj){H:Ad}{xs:List Int}{κ:gX}{hc sc s:Ad}(A:NumC σ H κ hc sc s)(hX:P.xs=some (xs.map .int)){k:Nat}(g:σ.get H=some (.dict (ko k))){b:Int}(hb:0<b):
 rT ⟨P,N,iF P N (d+1)⟩ (4,κ) [.int b] σ= .ok (.int (draw xs k b)) (σ.set H (.dict (ko ((k+1:Nat):Int)))):=by
 show go (i3 P.nested 4) 32 (λfd=>iF P N (d+1) fd κ [.int b] σ)=_;rw[hP,mj];exact OQ A hX g hb
theorem OT(h:σ.get f=some (.fn k κ)):tP σ (.ref f)=some (k,κ):=by
 show hG (motive:=λU=>Option (Nat×gX)) .none CN (σ.get f)=_;rw[h];rfl
end
end
section
structure wC(M:List Ad)(σ:gI)(T:Ad)(act:Act)(iG:pP)(ok:Int→Prop):Prop where
 i:∃c n fs A G ea eg,(σ.get T=some (.inst c n fs)∧T∉M)∧fs.get (.i (.o (.o (.o (.i (.o .h))))))=some (.ref A)∧fs.get (.o (.i (.o (.o (.i (.o .h))))))=some (.ref G)∧(σ.get A=some (.dict ea)∧A∉M)∧(σ.get G=some (.dict eg)∧G∉M)∧
  (∀s,ok s→∃r rs,i5 ea (8*l9 s)=some (.ref r)∧(σ.get r=some (.dict rs)∧r∉M)∧∀t,i5 rs (8*t+1)=(act s t).map .int)∧
  (∀s g,iG s=some g→∃r rs,i5 eg (8*l9 s)=some (.ref r)∧(σ.get r=some (.dict rs)∧r∉M)∧i5 rs 16777881=some (.int g))
section
variable{M:List Ad}{σ σ':gI}{T:Ad}{act:Act}{iG:pP}{ok:Int→Prop}
theorem wC.tab(h:wC M σ T act iG ok):TabAt σ T act iG ok:=by
 obtain⟨c,n,fs,A,G,ea,eg,h1,h2,h3,h4,h5,h6,h7⟩:=h.i;exact⟨c,n,fs,A,G,ea,eg,h1.1,h2,h3,h4.1,h5.1,λs hs=>by obtain⟨r,rs,z1,z2,z3⟩:=h6 s hs;exact⟨r,rs,z1,z2.1,z3⟩,λs g e=>by obtain⟨r,rs,z1,z2,z3⟩:=h7 s g e;exact⟨r,rs,z1,z2.1,z3⟩⟩
theorem wC.ext(h:wC M σ T act iG ok)(X:hZ M σ σ'):wC M σ' T act iG ok:=by
 obtain⟨c,n,fs,A,G,ea,eg,h1,h2,h3,h4,h5,h6,h7⟩:=h.i;exact⟨c,n,fs,A,G,ea,eg,⟨X.get _ _ h1.2 h1.1,h1.2⟩,h2,h3,⟨X.get _ _ h4.2 h4.1,h4.2⟩,⟨X.get _ _ h5.2 h5.1,h5.2⟩,λs hs=>by obtain⟨r,rs,z1,z2,z3⟩:=h6 s hs;exact⟨r,rs,z1,⟨X.get _ _ z2.2 z2.1,z2.2⟩,z3⟩,λs g e=>by obtain⟨r,rs,z1,z2,z3⟩:=h7 s g e;exact⟨r,rs,z1,⟨X.get _ _ z2.2 z2.1,z2.2⟩,z3⟩⟩
end
structure Cf where
 fs:List Form
 gA:Nat
 rt:Bool
 pQ:List Nat
 rules:List (List Nat)
 pairs:List Bool
 act:Act
 iG:pP
 ok:Int→Prop
structure Pc where
 f:Ad
 H:Ad
 zS:gX
 hc:Ad
 sc:Ad
 s:Ad
 F:Ad
 wA:List Ad
 R:Ad
 tX:List Ad
 T:Ad
 Q:Ad
 L:Ad
 rc:Ad
 V:Ad
structure tC(c:Cf)(p:Pc)(xs:List Int)(σ:gI):Prop where
 num:aad σ p.f p.H p.zS p.hc p.sc p.s
 vu:BO σ p.F p.wA c.fs
 rules:BR σ p.R p.tX c.rules
 tab:wC [p.V,p.H] σ p.T c.act c.iG c.ok
 q:σ.get p.Q=some (.list (c.pairs.map .bool))
 l:σ.get p.L=some (.list (c.pQ.map .str))
 r:σ.get p.rc=some (.cell (some (.bool c.rt)))
theorem lU.ne(hV:σ.get V=some (.dict es)):∀{ps:List Ad}{fs:List Form},lU σ ps fs→∀p∈ps,p≠V
 |[],[],_,p,hp=>by cases hp
 |q::ps,f::fs,h,p,hp=>by
  rcases iL.1 hp with rfl|hp
  .intro k;have:=h.1;rw[k,hV]at this;cases this
  .exact lU.ne hV h.2 p hp
 |[],_::_,h,_,_=>h.elim
 |_::_,[],h,_,_=>h.elim
theorem oD.ne(hV:σ.get V=some (.dict es)):∀{ps:List Ad}{fs:List (List Nat)},oD σ ps fs→∀p∈ps,p≠V
 |[],[],_,p,hp=>by cases hp
 |q::ps,f::fs,h,p,hp=>by
  rcases iL.1 hp with rfl|hp
  .intro k;have:=h.1;rw[k,hV]at this;cases this
  .exact oD.ne hV h.2 p hp
 |[],_::_,h,_,_=>h.elim
 |_::_,[],h,_,_=>h.elim
section
variable{c:Cf}{p:Pc}{xs:List Int}{σ σ':gI}
theorem tC.ext(S:tC c p xs σ)(hV:σ.get p.V=some (.dict ev))(hH:σ.get p.H=some (.dict eh))(X:hZ [p.V,p.H] σ σ'):tC c p xs σ':=by
 have k:∀{q:Ad}{o:gY},(∀es,o≠.dict es)→σ.get q=some o→σ'.get q=some o:=λ{q o} hn e=>X.get q o (by
  intro hm;rcases iL.1 hm with rfl|hm
  .rw[hV]at e;obtain rfl:=gP e;exact hn _ rfl
  .rw[jc]at hm;subst hm;rw[hH]at e;obtain rfl:=gP e;exact hn _ rfl) e
 exact⟨⟨⟨S.num.lh,k nofun S.num.hv,S.num.ls,k nofun S.num.sv,k nofun S.num.sr⟩,k nofun S.num.fn⟩,
  ⟨k nofun S.vu.l,S.vu.t.ext X (λq hq hm=>(iL.1 hm).elim (lU.ne hV S.vu.t q hq) λhm=>lU.ne hH S.vu.t q hq (jc.1 hm))⟩,
  ⟨k nofun S.rules.l,S.rules.t.ext X (λq hq hm=>(iL.1 hm).elim (oD.ne hV S.rules.t q hq) λhm=>oD.ne hH S.rules.t q hq (jc.1 hm))⟩,
  S.tab.ext X,k nofun S.q,k nofun S.l,k nofun S.r⟩
end
end
section
structure LL(ρ:Loc)(κ:gX)(c:Cf)(p:Pc)(iE:Int)(k:Ad)(n:Int):Prop where
 f:ρ.get (.o (.o (.o .h)))=some (.ref p.f)
 F:ρ.get (.o (.o (.o (.o (.i (.o (.o .h)))))))=some (.ref p.F)
 b:ρ.get (.i (.o (.o (.i (.i (.o (.o .h)))))))=some (.str c.gA)
 m:ρ.get (.i (.o (.o (.i (.o (.i (.o .h)))))))=some (.int iE)
 R:ρ.get (.o (.o (.i (.o (.o (.i (.o .h)))))))=some (.ref p.R)
 Q:ρ.get (.o (.i (.i (.o (.o (.i (.o .h)))))))=some (.ref p.Q)
 L:ρ.get (.o (.i (.o (.i (.o (.i (.o .h)))))))=some (.ref p.L)
 T:ρ.get (.i (.o (.o (.o (.o (.i (.o .h)))))))=some (.ref p.T)
 V:ρ.get (.o (.i (.i (.o (.i (.o (.o .h)))))))=some (.ref p.V)
 k:ρ.get (.o (.i (.i (.i (.i (.o (.o .h)))))))=some (.ref k)
 n:ρ.get (.i (.i (.o (.i (.o (.i (.o .h)))))))=some (.int n)
 rc:kh κ (.i (.o (.i (.o (.i (.o (.o .h)))))))=some p.rc
noncomputable def OU:List Ad:=[.o (.o (.o .h)),.o (.o (.o (.o (.i (.o (.o .h)))))),.i (.o (.o (.i (.i (.o (.o .h)))))),.i (.o (.o (.i (.o (.i (.o .h)))))),.o (.o (.i (.o (.o (.i (.o .h)))))),.o (.i (.i (.o (.o (.i (.o .h)))))),.o (.i (.o (.i (.o (.i (.o .h)))))),.i (.o (.o (.o (.o (.i (.o .h)))))),.o (.i (.i (.o (.i (.o (.o .h)))))),.o (.i (.i (.i (.i (.o (.o .h)))))),.i (.i (.o (.i (.o (.i (.o .h))))))]
theorem LL.set{ρ:Loc}{κ:gX}{c:Cf}{p:Pc}{iE:Int}{k:Ad}{n:Int}(L:LL ρ κ c p iE k n){x:Ad}{v:AV}(e:(OU.all λy=>!(Ad.eq y x))=true:=by rfl):LL (ρ.set x v) κ c p iE k n:=
 have q:∀{y},y∈OU→Ad.eq y x=false:=λh=>Bool.not_eq_true' _▸kf.1 e _ h
 ⟨gN L.f (q (.head _)),gN L.F (q (.tail _ (.head _))),gN L.b (q (.tail _ (.tail _ (.head _)))),gN L.m (q (.tail _ (.tail _ (.tail _ (.head _))))),gN L.R (q (.tail _ (.tail _ (.tail _ (.tail _ (.head _)))))),gN L.Q (q (.tail _ (.tail _ (.tail _ (.tail _ (.tail _ (.head _))))))),gN L.L (q (.tail _ (.tail _ (.tail _ (.tail _ (.tail _ (.tail _ (.head _)))))))),gN L.T (q (.tail _ (.tail _ (.tail _ (.tail _ (.tail _ (.tail _ (.tail _ (.head _))))))))),gN L.V (q (.tail _ (.tail _ (.tail _ (.tail _ (.tail _ (.tail _ (.tail _ (.tail _ (.head _)))))))))),gN L.k (q (.tail _ (.tail _ (.tail _ (.tail _ (.tail _ (.tail _ (.tail _ (.tail _ (.tail _ (.head _))))))))))),gN L.n (q (.tail _ (.tail _ (.tail _ (.tail _ (.tail _ (.tail _ (.tail _ (.tail _ (.tail _ (.tail _ (.head _)))))))))))),L.rc⟩
structure PH(P:jE):Prop where
 depth:iM P.m3 1645579097944721373563352933903279689786348349326654681510838376=some wk
 walked:iM P.m3 3451029496412968318011132732041130808765551501054566645885816245583972=some zF
 possible:iM P.m3 15177788236416049393809349476384551064869379060186320294912577138182737015949230181=some xD
 aai:iM P.m3 3451029496412968318011132732041130808441033198852811855993953528578148=some ti
 number:i3 P.nested 4=some tj
noncomputable def wE(tk:IE):IE:=.Fe 3451029496412968318011132732041130808765551501054566645885816245583972 (.cons (.loc (.i (.o (.o (.o (.o (.i (.o .h)))))))) (.cons (.loc (.o (.o (.i (.o (.o (.i (.o .h)))))))) (.cons (.loc (.o (.i (.i (.o (.o (.i (.o .h)))))))) (.cons (.xC (.i (.o (.i (.o (.i (.o (.o .h)))))))) (.cons (.loc (.o (.i (.i (.i (.i (.o (.o .h)))))))) (.cons tk .nil))))))
section
variable{P:jE}{N d0:Nat}{c:Cf}{p:Pc}{xs:List Int}{κ:gX}{iE:Int}{σ:gI}{tr dp cl:List Int}
abbrev KL(P:jE)(N d0:Nat):KE:=⟨P,N,iF P N (d0+2)⟩
def zT(c:Cf):Prop:=∀r∈c.rules,∀n∈r,iz (.str n)=true
theorem zU(W:WF σ)(hN:500<N)(H:PH P)(hS:zT c)(S:tC c p xs σ)(L:LL ρ κ c p iE k n)(hK:rI σ k tr dp cl)(ht:dE tk (KL P N d0) ρ κ σ= .ok (.str tok) σ)
 (hm:m≤60)(w:Walk c.act c.iG c.ok c.rules c.pairs c.rt tok m tr dp cl r):
 ∃v σ',dE (wE tk) (KL P N d0) ρ κ σ= .ok (.ref v) σ'∧hZ [] σ σ'∧vp σ' v r:=by
 refine iH (ZY (d0:=d0) W hN H.depth hS S.tab.tab S.rules S.q hK hm w) λv σ' e X z=>?_;exact⟨v,σ',BJ H.walked (iO (gR L.T) (iO (gR L.R) (iO (gR L.Q) (iO (tw L.rc S.r) (iO (gR L.k) (iO ht jd)))))) e,X,z⟩
theorem res_none(h:vp σ v none):getItem X (.ref v) (.int 0) σ= .ok .none σ:=by
 obtain⟨k,e⟩:=h;rw[getItem_tuple e];exact Gc
theorem res_some(h:vp σ v (some (a,tr,dp,cl))):getItem X (.ref v) (.int 0) σ= .ok (.int a) σ:=by
 refine gW h λk e U=>?_;rw[getItem_tuple e];exact Gc
def lW:g7:=bodyOf (lE 17 o5)
def Gu:g7:=bodyOf (lE 0 (zP (lE 2 lW)))
def xP(c:Cf)(ml:List Nat)(tr dp cl:List Int)(l:Nat):Prop:=
 (l∉ml→∃m,m≤60∧Walk c.act c.iG c.ok c.rules c.pairs c.rt l m tr dp cl none)∧
 (l∈ml→∃m,m≤60∧∃(a:Nat)(iR kY kZ:List Int),0<a∧Walk c.act c.iG c.ok c.rules c.pairs c.rt l m tr dp cl (some ((a:Int),iR,kY,kZ)))
theorem BX{ml:List Nat}{l:Nat}{pp:Ad}{t:Bool}(g:σ.get pp=some (.list (ml.map .str)))(hl:iz (.str l)=true)(hp:(ml.map AV.str).all iz=true)(h:t=true↔l∈ml):contains σ (.str l) (.ref pp)=some t:=by
 refine gW (Zr g hl hp) λb hb i=>?_;rw[hb,Bool.eq_iff_iff.2 (i.trans (Iff.trans ⟨λz=>?_,List.mem_map_of_mem⟩ h.symm))];refine gW (List.mem_map.1 z) λq z1 z2=>?_;exact AV.str.inj z2▸z1
theorem aaj(W:WF σ)(hN:500<N)(H:PH P)(hS:zT c)(S:tC c p xs σ){k:Ad}{n:Int}(K:rI σ k tr dp cl){pp:Ad}{ml:List Nat}(g:σ.get pp=some (.list (ml.map .str)))(hp:(ml.map AV.str).all iz=true){l:Nat}(hl:iz (.str l)=true){ρ:Loc}(L:LL ρ κ c p iE k n)(hpp:ρ.get (.o (.o (.i (.i (.o (.i (.o .h)))))))=some (.ref pp))(rl:ρ.get lA=some (.str l))(h:xP c ml tr dp cl l):
 ∃σ',hZ [] σ σ'∧dB Gu (KL P N d0) ρ κ σ= .next ρ σ':=by
 by_cases hm:l∈ml
 .obtain⟨m,nW,a,iR,kY,kZ,ha,w⟩:=h.2 hm;refine iH (zU (d0:=d0) W hN H hS S L K (gR rl) nW w) λv σ1 e1 X1 r1=>?_;exact⟨σ1,X1,iy (ka (xI (jf (gR rl) (gR hpp) (Oi (BX (t:=true) g hl hp ⟨λU=>hm,λU=>rfl⟩))) rfl) rfl i7)
   (iy (ka (tx (jf (gR rl) (gR hpp) (Oh (BX (t:=true) g hl hp ⟨λU=>hm,λU=>rfl⟩))) rfl (wo (jf (BK (iU e1 rfl (res_some r1)) (congrArg (λb=>some (jR b)) (xF (Nat.ne_of_gt ha)))) rfl (BN (Zu _ _) (Int.ofNat_lt.2 ha))) rfl)) rfl i7) i7)⟩
 .refine gW (h.1 hm) λm nW w=>?_;refine iH (zU (d0:=d0) W hN H hS S L K (gR rl) nW w) λv σ1 e1 X1 r1=>?_;exact⟨σ1,X1,iy (ka (tx (jf (gR rl) (gR hpp) (Oi (BX (t:=false) g hl hp ⟨nofun,λz=>(hm z).elim⟩))) rfl (jf (iU e1 rfl (res_none r1)) rfl rfl)) rfl i7)
   (iy (ka (xI (jf (gR rl) (gR hpp) (Oh (BX (t:=false) (X1.get _ _ iA g) hl hp ⟨nofun,λz=>(hm z).elim⟩))) rfl) rfl i7) i7)⟩
theorem aak(W:WF ip)(hN:500<N)(H:PH P)(hS:zT c)(S:tC c p xs ip)(hK:rI ip k tr dp cl)(hp:ip.get pp=some (.list (ml.map .str)))(hpl:(ml.map AV.str).all iz=true)(hll:∀l∈c.pQ,iz (.str l)=true)
 (hV:ip.get p.V=some (.dict ev))(hH:ip.get p.H=some (.dict eh))(yK:∀l∈c.pQ,xP c ml tr dp cl l)(ls:List Nat):
 ∀(i:Nat){fu:Nat}{ρ:Loc}{σ:gI},c.pQ.drop i=ls→ls.length<fu→hZ [] ip σ→LL ρ κ c p iE k n→ρ.get (.o (.o (.i (.i (.o (.i (.o .h)))))))=some (.ref pp)→
  ∃σ' ρ',lr (dT (.loc lA)) (dB Gu) (dB .nil) (KL P N d0) κ fu (.list p.L i) ρ σ= .next ρ' σ'∧hZ [] ip σ'∧LL ρ' κ c p iE k n∧ρ'.get (.o (.o (.i (.i (.o (.i (.o .h)))))))=some (.ref pp)∧ρ'.get (.i (.o (.i (.i (.o (.i (.o .h)))))))=ρ.get (.i (.o (.i (.i (.o (.i (.o .h))))))):=by
 induction ls with
 |nil=>
  intro i fu ρ σ hd hf X L hpp
  induction fu with
  |zero=>cases hf
  |succ fu=>exact⟨σ,ρ,OG (Ol (X.get _ _ iA S.l) (List.getElem?_eq_none (by rw[ke];exact List.drop_eq_nil_iff.1 hd))),X,L,hpp,rfl⟩
 |cons l ls ih=>
  intro i fu ρ σ hd hf X L hpp
  induction fu with
  |zero=>cases hf
  |succ fu=>
   refine iK (drop_cons hd) λhi hd'=>?_;have hm:=List.mem_of_getElem? hi;refine gW (aaj (κ:=κ) (d0:=d0) (n:=n) X.wf hN H hS (S.ext hV hH (X.mono nofun)) (hK.ext X nofun) (X.get _ _ iA hp) hpl (hll l hm) (L.set (x:=lA) (v:=.str l)) (gN hpp) iQ (yK l hm)) λσ1 X1 e1=>?_;refine nO (ih (i+1) hd' (Nat.lt_of_succ_lt_succ hf) (X.trans X1) (L.set (x:=lA) (v:=.str l)) (gN hpp)) λσ2 kl z1 z2 z3 z4 z5=>?_;refine⟨σ2,kl,?_,z2,z3,z4,z5.trans (gN rfl)⟩;show(match It.next σ (.list p.L i)with| .done=>_| .one v it=>_| .two u v it=>_| .bad=>_)=_;rw[Oj (X.get _ _ iA S.l) (v:=.str l) (by rw[sQ,hi];rfl)];show(match dB Gu (KL P N d0) (ρ.set lA (.str l)) κ σ with| .next ρ σ=>_| .cont ρ σ=>_| .brk ρ σ=>_|r=>r)=_;rw[e1];exact z1
end
end
section
noncomputable def sG(c:Cf)(v:jv):Bool:=decide (v.half=1)&&(decide (v.due=[])&& !(decide (c.gA≠1)&&v.bare))
def zV(c:Cf)(v:jv)(tr dp cl:List Int):Prop:=
 (sG c v=true→∃m,m≤60∧∃iR,Walk c.act c.iG c.ok c.rules c.pairs c.rt 19343145155671596495536228 m tr dp cl (some ((0:Nat),iR,[v.deep],v.calls)))∧
 (sG c v=false→∃m,m≤60∧Walk c.act c.iG c.ok c.rules c.pairs c.rt 19343145155671596495536228 m tr dp cl none)
structure wD(c:Cf)(v:jv):Prop where
 due:v.due.length≤100
 calls:v.calls.length=c.fs.length+1
 half:iz (.str v.half)=true
 OV:∀x∈v.due,iz (.str x)=true
 aal:tv v.calls
 deep:iz (.int v.deep)=true
def OW:g7:=match zP (lE 2 lW)with| .cons _ l=>l| .nil=>.nil
section
variable{P:jE}{N d0:Nat}{c:Cf}{p:Pc}{xs:List Int}{κ:gX}{iE:Int}{σ:gI}{tr dp cl:List Int}
def aam:IE:=match lE 0 OW with| .assign _ e=>e|_=>.const .none
theorem aan(W:WF σ)(hV:xJ σ p.V D C v.due v.half v.bare v.calls v.deep)(vo:wD c v)(L:LL ρ κ c p iE k n):
 ∃σ1,dE aam K ρ κ σ= .ok (.bool (sG c v)) σ1∧hZ [] σ σ1:=by
 have c1:=λ{t}(h:lN σ (.str v.half) (.str 1)=some t)=>jf (K:=K) (b:=.const (.str 1)) (iU (e:=.loc vA) (i:=.const (.str 19343772344952510430052454)) (gR (κ:=κ) L.V) rfl (Gj hV.v)) rfl (k_eq h);unfold sG
 by_cases h1:v.half=1
 .have X1:hZ [] σ (σ.push (.list [])):=(hZ.refl W).push W _;have d1:=X1.get _ _ iA hV.d;have c1:=c1 (by rw[h1];exact sE rfl);rw[decide_eq_true h1]
  by_cases h2:v.due=[]
  .rw[decide_eq_true h2];have c2:=jf (K:=K) (iU (e:=.loc vA) (i:=.const (.str 9223811841751253093)) (gR (κ:=κ) L.V) rfl (wu hV.v)) (oA jd rfl) (k_eq (xG (by rw[d1,h2];rfl) (i4 _) rfl))
   by_cases h3:c.gA=1
   .rw[decide_eq_false (not_not_intro h3)];exact⟨_,tx c1 rfl (tx c2 rfl (wo (xI (gR L.b) (by rw[h3];rfl)) (by rw[h3];rfl))),X1⟩
   .rw[decide_eq_true h3];exact⟨_,tx c1 rfl (tx c2 rfl ((wo (tx (gR L.b) (congrArg (λb=>some (jR b)) (xF h3)) (iU (gR L.V) rfl (On (X1.get _ _ iA hV.v)))) rfl).trans (by induction v.bare<;>rfl))),X1⟩
  .rw[decide_eq_false h2];exact⟨_,tx c1 rfl (xI (jf (iU (gR L.V) rfl (wu hV.v)) (oA jd rfl) (k_eq (BH d1 (i4 _) (by rw[List.all_map,kf];exact vo.OV) rfl λe=>h2 (List.map_eq_nil_iff.1 e)))) rfl),X1⟩
 .rw[decide_eq_false h1];exact⟨σ,xI (c1 (sF vo.half rfl λe=>h1 (AV.str.inj e))) rfl,hZ.refl W⟩
theorem aao(W:WF σ)(hN:500<N)(H:PH P)(hS:zT c)(S:tC c p xs σ)(hv:mB σ p.V v)(hH:σ.get p.H=some (.dict eh))(vo:wD c v)(hK:rI σ k tr dp cl)(hf:zV c v tr dp cl)(L:LL ρ κ c p iE k n)
 (hpp:ρ.get (.o (.o (.i (.i (.o (.i (.o .h)))))))=some (.ref pp))(hlb:ρ.get (.i (.o (.i (.i (.o (.i (.o .h)))))))=lb):
 ∃ρ' σ',dB OW (KL P N d0) ρ κ σ= .next ρ' σ'∧hZ [] σ σ'∧LL ρ' κ c p iE k n∧ρ'.get (.o (.o (.i (.i (.o (.i (.o .h)))))))=some (.ref pp)∧ρ'.get (.i (.o (.i (.i (.o (.i (.o .h)))))))=lb:=by
 obtain⟨D,C,hV⟩:=hv;obtain⟨σ1,ew,X1⟩:=aan (K:=KL P N d0) W hV vo L;have L1:=L.set (x:=.o (.i (.i (.i (.o (.i (.o .h))))))) (v:=.bool (sG c v));have S1:=S.ext hV.v hH (X1.mono nofun);have K1:=hK.ext X1 nofun
 induction hw:sG c v with
 |false=>
  rw[hw]at ew L1;obtain⟨m,hm,w⟩:=hf.2 hw;obtain⟨u,σ2,e2,X2,kk,r3⟩:=zU (d0:=d0) X1.wf hN H hS S1 L1 K1 (tk:=.const (.str 19343145155671596495536228)) rfl hm w;exact⟨_,σ2,iy (lT ew) (iy (mR e2 (BL (xK r3))) (iy (ka (jf (gR (gN iQ)) (zK (gR (gN (gN iQ))) rfl rfl) (BM (sE rfl))) rfl i7) (iy (ka (xI (gR (gN (gN iQ))) rfl) rfl i7) i7))),X1.trans X2,L1.set.set,gN (gN (gN hpp)),gN (gN (gN hlb))⟩
 |true=>
  rw[hw]at ew L1;obtain⟨m,hm,iR,w⟩:=hf.1 hw;obtain⟨u,σ2,e2,X2,kk,r3,⟨t,d,cc,q1,q2,q3,q4⟩⟩:=zU (d0:=d0) X1.wf hN H hS S1 L1 K1 (tk:=.const (.str 19343145155671596495536228)) rfl hm w;have sH:=X1.trans X2;have X3:hZ [] σ2 (σ2.push (.list [.int v.deep])):=(hZ.refl X2.wf).push X2.wf _;have Gv:=sH.trans X3;have V1:=(L1.set (x:=.i (.i (.o (.o (.o (.i (.o .h))))))) (v:=.int ((0:Nat):Int))).set (x:=.i (.i (.i (.i (.o (.i (.o .h))))))) (v:=.ref kk);exact⟨_,_,iy (lT ew) (iy (mR e2 (BL (xK r3))) (iy (ka (jf (gR (gN iQ)) (zJ (gR (gN (gN iQ))) rfl rfl) (BM (sE rfl))) rfl i7) (iy (ka (tx (gR (gN (gN iQ))) rfl
   (wq (jf (iU (gR iQ) rfl ((getItem_tuple q1).trans N8)) (oA (iO (iU (gR V1.V) rfl (Oq (sH.get _ _ iA hV.v))) jd) rfl) (BM (xG (X3.get _ _ iA q3) (i4 _) ((Bool.and_true _).trans vo.deep)))) rfl
    (jf (iU (gR iQ) rfl ((getItem_tuple (X3.get _ _ iA q1)).trans Gd)) (iU (gR V1.V) rfl (Oo (Gv.get _ _ iA hV.v))) (BM (xG (X3.get _ _ iA q4) (Gv.get _ _ iA hV.c) (by rw[List.all_map,kf];exact vo.aal)))))) rfl i7) i7))),Gv,V1,gN (gN (gN hpp)),gN (gN (gN hlb))⟩
end
end
section
structure sI(c:Cf)(p:Pc)(xs:List Int)(κ:gX)(iE:Int)(ρ:Loc)(σ:gI)(v:jv)(tr dp cl:List Int)(n:Nat):Prop where
 W:WF σ
 S:tC c p xs σ
 hv:mB σ p.V v
 hh:∃kk:Nat,σ.get p.H=some (.dict (ko (kk:Int)))
 ne:p.V≠p.H
 hk:∃k,LL ρ κ c p iE k (n:Int)∧rI σ k tr dp cl
noncomputable abbrev k8(c:Cf)(v:jv):List Nat:=wy c.fs c.gA c.rt v.due v.half v.bare
structure zW(c:Cf)(iE:Nat)(I:jv→List Int→List Int→List Int→Nat→Prop):Prop where
 vv:∀{v tr dp cl n},I v tr dp cl n→wD c v
 ml:∀{v tr dp cl n},I v tr dp cl n→∀l∈k8 c v,iz (.str l)=true
 lets:∀{v tr dp cl n},I v tr dp cl n→∀l∈c.pQ,xP c (k8 c v) tr dp cl l
 fin:∀{v tr dp cl n},I v tr dp cl n→zV c v tr dp cl
 step:∀{v tr dp cl n},I v tr dp cl n→n<iE→∀l∈k8 c v,∃m,m≤60∧∃(a:Nat)(iR kY kZ:List Int),(0<a∧a≤100)∧Walk c.act c.iG c.ok c.rules c.pairs c.rt l m tr dp cl (some ((a:Int),iR,kY,kZ))∧I (mU c.fs c.rt v l) (iR++[(a:Int)]) kY kZ (n+1)
structure xQ(c:Cf):Prop where
 sym:zT c
 lets:∀l∈c.pQ,iz (.str l)=true
 fs:∀f∈c.fs,iz (.str f.2.1)=true∧iz (.int f.1)=true
 fl:c.fs.length≤50
 ll:c.pQ.length≤50
def Gw:g7:=match lW with| .cons _ (.cons _ (.cons _ l))=>l|_=>.nil
theorem sJ{n:Nat}(h:n≤100):iz (.int (n:Int))=true:=by
 unfold iz;rw[n5];refine⟨rfl,?_⟩;show iS (m2 (8*(2*n))+1) 65535=true;have:m2 (8*(2*n))≤8*(2*n):=Nat.log2_le_self _;exact Nat.ble_eq_true_of_le (by lia)
section
variable{P:jE}{N d0:Nat}{c:Cf}{p:Pc}{xs:List Int}{κ:gX}{iE:Nat}{σ:gI}{tr dp cl:List Int}{v:jv}{n:Nat}
theorem aap(W:WF σ)(hN:500<N)(H:PH P)(mC:xQ c)(S:tC c p xs σ)(hv:mB σ p.V v)(hH:σ.get p.H=some (.dict eh))(vo:wD c v)(hK:rI σ k tr dp cl)
 (yK:∀l∈c.pQ,xP c (k8 c v) tr dp cl l)(hf:zV c v tr dp cl)(L:LL ρ κ c p m k n)(hpp:ρ.get (.o (.o (.i (.i (.o (.i (.o .h)))))))=some (.ref pp))(hp:σ.get pp=some (.list ((k8 c v).map .str)))(hpl:((k8 c v).map AV.str).all iz=true)(hlb:ρ.get (.i (.o (.i (.i (.o (.i (.o .h)))))))=lb):
 ∃ρ' σ',dB (zP (lE 2 lW)) (KL P N d0) ρ κ σ= .next ρ' σ'∧hZ [] σ σ'∧LL ρ' κ c p m k n∧ρ'.get (.o (.o (.i (.i (.o (.i (.o .h)))))))=some (.ref pp)∧ρ'.get (.i (.o (.i (.i (.o (.i (.o .h)))))))=lb:=by
 refine qY hv λD C hV=>?_;refine nO (aak (d0:=d0) W hN H mC.sym S hK hp hpl mC.lets hV.v hH yK c.pQ 0 (fu:=N) rfl (n6 (ia mC.ll (by decide:50≤500)) hN) (hZ.refl W) L hpp) λσ1 jk z1 X1 L1 z4 z5=>?_;refine nO (aao (d0:=d0) X1.wf hN H mC.sym (S.ext hV.v hH (X1.mono nofun)) ⟨D,C,X1.get _ _ iA hV.v,X1.get _ _ iA hV.d,X1.get _ _ iA hV.c⟩ (X1.get _ _ iA hH) vo (hK.ext X1 nofun) hf L1 z4 (z5.trans hlb)) λkl σ2 y1 X2 L2 y4 y5=>?_;exact⟨kl,σ2,iy (Gg (Og (gR L.L) (Gk S.l)) z1) y1,X1.trans X2,L2,y4,y5⟩
end
end
section
section
variable{P:jE}{N d0:Nat}{c:Cf}{p:Pc}{xs:List Int}{κ:gX}{iE:Nat}{σ:gI}{tr dp cl:List Int}{v:jv}{n:Nat}{I:jv→List Int→List Int→List Int→Nat→Prop}
theorem aaq(g:σ.get p.H=some (.dict es))(h:σ.get q=some o)(n:∀es,o≠.dict es):q≠p.H:=λe=>n es (gP (h.symm.trans (e▸g)))
theorem aar(H:PH P)(hX:P.xs=some (xs.map .int)){K:KE}(hK:K=KL P N d0){ρ:Loc}(A:sI c p xs κ iE ρ σ v tr dp cl n){pp:Ad}{q:List Nat}(hp:σ.get pp=some (.list (q.map .str)))(hpp:ρ.get (.o (.o (.i (.i (.o (.i (.o .h)))))))=some (.ref pp))(hq:0<q.length):
 ∃l σ1,l∈q∧dE (.sub (.loc (.o (.o (.i (.i (.o (.i (.o .h)))))))) (.bin .mod (.rT (.loc (.o (.o (.o .h)))) (.cons (.const (.int 60)) .nil)) (.me .len (.cons (.loc (.o (.o (.i (.i (.o (.i (.o .h)))))))) .nil)))) K ρ κ σ= .ok (.str l) σ1∧sI c p xs κ iE ρ σ1 v tr dp cl n:=by
 obtain⟨W,S,⟨D,C,hV⟩,⟨kk,hkk⟩,ne,k,L,Kd⟩:=A;have en:=OS (N:=N) (d:=d0+1) H.number S.num.toNumC hX hkk (b:=60) (by decide);have X1:hZ [p.V,p.H] σ (σ.set p.H (.dict (ko ((kk+1:Nat):Int)))):=(hZ.refl W).setM _ (.tail _ (.head _)) (W _ _ hkk);have gs:∀{q o},σ.get q=some o→(∀es,o≠.dict es)→(σ.set p.H (.dict (ko ((kk+1:Nat):Int)))).get q=some o:=λh n=>(kH _ (aaq hkk h n)).trans h;have p1:=gs hp nofun;obtain⟨j,hj⟩:∃j:Nat,draw xs kk 60%(q.length:Int)=(j:Int):=⟨(draw xs kk 60%(q.length:Int)).toNat,(Int.toNat_of_nonneg (Int.emod_nonneg _ (Int.ne_of_gt (Int.ofNat_lt.2 hq)))).symm⟩;have hjl:j<q.length:=Int.ofNat_lt.1 (hj▸Int.emod_lt_of_pos _ (Int.ofNat_lt.2 hq));have hl:=pV hjl;subst hK;exact⟨q[j],_,List.mem_of_getElem? hl,iU (gR hpp) (kX (Oc (gR L.f) (OT S.num.fn) (iO rfl jd) en) (nv (iO (gR hpp) jd) (OH p1)) ((OP (Int.ofNat_lt.2 hq)).trans (congrArg (λi:Int=>R.ok (AV.int i) _) hj))) (BU p1 hl),
  X1.wf,S.ext hV.v hkk X1,⟨D,C,(kH _ ne).trans hV.v,gs hV.d nofun,gs hV.c nofun⟩,⟨kk+1,rG _ _⟩,ne,k,L,Kd.ext X1 λq hq o ho=>by
   rcases iL.1 hq with rfl|hq
   .rw[hV.v]at ho;obtain rfl:=gP ho;exact⟨nofun,nofun⟩
   .cases jc.1 hq;rw[hkk]at ho;obtain rfl:=gP ho;exact⟨nofun,nofun⟩⟩
theorem aas(hN:500<N)(H:PH P)(hX:P.xs=some (xs.map .int))(mC:xQ c)(LI:zW c iE I)(hI:I v tr dp cl n){ρ:Loc}(A:sI c p xs κ iE ρ σ v tr dp cl n){pp:Ad}(hpp:ρ.get (.o (.o (.i (.i (.o (.i (.o .h)))))))=some (.ref pp))(hp:σ.get pp=some (.list ((k8 c v).map .str)))
 {lb:Bool}(hlb:ρ.get (.i (.o (.i (.i (.o (.i (.o .h)))))))=some (.bool lb))(hl:lb=false→n<iE∧k8 c v≠[]):
 (lb=true→dB Gw (KL P N d0) ρ κ σ= .ret (.bool true) σ)∧(lb=false→∃ρ' σ' v' iR kY kZ,dB Gw (KL P N d0) ρ κ σ= .next ρ' σ'∧sI c p xs κ iE ρ' σ' v' iR kY kZ (n+1)∧I v' iR kY kZ (n+1)):=by
 refine⟨λh=>?_,λh=>?_⟩
 .subst h;exact kc (nx (gR hlb) rfl (kc (oB rfl)))
 .refine iK (hl h) λhnm hne=>?_;subst h;have vo:=LI.vv hI;obtain⟨l,σ1,zR,e1,A1⟩:=aar H hX rfl A hp hpp (List.length_pos_iff.2 hne);obtain⟨W1,S1,⟨D,C,BY⟩,⟨kk,h1⟩,ne,k,L,K1⟩:=A1;obtain⟨m,hm,a,iR,kY,kZ,ha,w,hI'⟩:=LI.step hI hnm l zR;obtain⟨u,σ2,e2,X2,k',r3,K2⟩:=zU (d0:=d0) W1 hN H mC.sym S1 (L.set (x:=lA) (v:=.str l)) K1 (gR iQ) hm w;have V2:=X2.get _ _ iA BY.v;have S2:=S1.ext BY.v h1 (X2.mono nofun);have h2:=X2.get _ _ iA h1;refine jI (aac (P:=P) (N:=N) (d0:=d0+1) (rt:=c.rt) (l:=l) X2.wf hN (LI.ml hI l zR) S2.vu (λe=>by have:=S2.vu.l;rw[e,V2]at this;cases this) (λq hq=>lU.ne V2 S2.vu.t q hq) mC.fs (ia mC.fl (by decide)) ⟨D,C,V2,X2.get _ _ iA BY.d,X2.get _ _ iA BY.c⟩ vo.due vo.calls vo.half vo.OV) λσ3 e3 X3 V3=>?_;exact⟨_,σ3,_,_,_,_,iy (ka (gR hlb) rfl i7) (iy (lT e1) (iy (mR e2 (BL (xK r3))) (iy (ka (wq (jf (gR (gN iQ)) rfl rfl) rfl (jf (gR (gN iQ)) rfl (k_eq (sF (sJ ha.2) rfl λe=>Nat.ne_of_gt ha.1 (Int.ofNat.inj (AV.int.inj e)))))) rfl i7)
   (iy (Of (BJ H.aai (iO (gR (gN (gN (gN L.F)))) (iO (tw L.rc S2.r) (iO (gR (gN (gN (gN L.V)))) (iO (gR (gN (gN iQ))) jd)))) e3)) (iy (ZD (gN (gN (gN L.n)))) i7))))),
   ⟨X3.wf,S2.ext V2 h2 (X3.mono λq h=>jc.1 h▸.head _),V3,⟨kk,X3.get _ _ (λe=>ne.symm (jc.1 e)) h2⟩,ne,k',⟨gN (gN (gN (gN L.f))),gN (gN (gN (gN L.F))),gN (gN (gN (gN L.b))),gN (gN (gN (gN L.m))),gN (gN (gN (gN L.R))),gN (gN (gN (gN L.Q))),gN (gN (gN (gN L.L))),gN (gN (gN (gN L.T))),gN (gN (gN (gN L.V))),gN iQ,iQ,L.rc⟩,
    K2.ext X3 λq hq o ho=>by cases jc.1 hq;rw[V2]at ho;obtain rfl:=gP ho;exact⟨nofun,nofun⟩⟩,hI'⟩
end
end
section
section
variable{P:jE}{N d0:Nat}{c:Cf}{p:Pc}{xs:List Int}{κ:gX}{iE:Nat}{I:jv→List Int→List Int→List Int→Nat→Prop}
def aat:IE:=match lE 1 lW with| .assign _ e=>e|_=>.const .none
theorem aau(W:WF σ1)(hn:n≤iE)(hm:iE≤100)(p1:σ1.get pp=some (.list (q.map .str)))(hpl:(q.map AV.str).all iz=true)(L:LL ρ κ c p iE k (n:Int))(hpp:ρ.get (.o (.o (.i (.i (.o (.i (.o .h)))))))=some (.ref pp)):
 ∃σ2,dE aat K ρ κ σ1= .ok (.bool (decide (n=iE)||decide (q=[]))) σ2∧hZ [] σ1 σ2:=by
 have X2:hZ [] σ1 (σ1.push (.list [])):=(hZ.refl W).push W _
 by_cases h:n=iE
 .rw[decide_eq_true h];exact⟨_,BK (jf (gR L.n) (gR L.m) (k_eq (by rw[h];exact sE (sJ hm)))) rfl,hZ.refl W⟩
 .rw[decide_eq_false h];have e:=λ{b re}=>wq (K:=K) (b:=b) (re:=re) (σ:=σ1) (jf (gR (κ:=κ) L.n) (gR L.m) (k_eq (sF (sJ (ia hn hm)) (sJ hm) λe=>h (Int.ofNat.inj (AV.int.inj e))))) rfl
  by_cases h2:q=[]
  .rw[decide_eq_true h2];exact⟨_,e (jf (gR hpp) (oA jd rfl) (k_eq (xG (by rw[X2.get _ _ iA p1,h2];rfl) (i4 _) rfl))),X2⟩
  .rw[decide_eq_false h2];exact⟨_,e (jf (gR hpp) (oA jd rfl) (k_eq (BH (X2.get _ _ iA p1) (i4 _) hpl rfl λe=>h2 (List.map_eq_nil_iff.1 e)))),X2⟩
theorem aav(hN:500<N)(H:PH P)(hX:P.xs=some (xs.map .int))(mC:xQ c)(LI:zW c iE I)(hm:iE≤100)(hI:I v tr dp cl n)(hn:n≤iE)(A:sI c p xs κ iE ρ σ v tr dp cl n):
 (∃σ',dB lW (KL P N d0) ρ κ σ= .ret (.bool true) σ')∨(n<iE∧∃ρ' σ' v' iR kY kZ,dB lW (KL P N d0) ρ κ σ= .next ρ' σ'∧sI c p xs κ iE ρ' σ' v' iR kY kZ (n+1)∧I v' iR kY kZ (n+1)):=by
 obtain⟨W,S,⟨D,C,hV⟩,⟨kk,hkk⟩,ne,k,L,K⟩:=A;have vo:=LI.vv hI;refine iH (ZH (P:=P) (N:=N) (d:=d0+1) W hN S.vu (ia mC.fl (by decide)) vo.due hV (gA:=c.gA) (rt:=c.rt)) λpp σ1 e1 X1 p1=>?_;have hpl:((k8 c v).map AV.str).all iz=true:=by rw[List.all_map,kf];exact LI.ml hI
 have L1:=L.set (x:=.o (.o (.i (.i (.o (.i (.o .h))))))) (v:=.ref pp);refine gW (aau (K:=KL P N d0) X1.wf hn hm p1 hpl L1 iQ) λσ2 e2 X2=>?_;obtain⟨lb,hlb⟩:∃lb,lb=(decide (n=iE)||decide (k8 c v=[])):=⟨_,rfl⟩;rw[←hlb]at e2;have sH:=X1.trans X2;have L2:=L1.set (x:=.i (.o (.i (.i (.o (.i (.o .h))))))) (v:=.bool lb);have g2:=λ{q o}(h:σ.get q=some o)=>sH.get _ _ iA h;have hf:lb=false→n<iE∧k8 c v≠[]:=λh=>by
  rw[hlb,Bool.or_eq_false_iff]at h;exact⟨Nat.lt_of_le_of_ne hn (of_decide_eq_false h.1),of_decide_eq_false h.2⟩
 have OX:∀{wF:Loc}{σ3:gI},hZ [] σ2 σ3→LL wF κ c p iE k (n:Int)→wF.get (.o (.o (.i (.i (.o (.i (.o .h)))))))=some (.ref pp)→wF.get (.i (.o (.i (.i (.o (.i (.o .h)))))))=some (.bool lb)→dS (lE 2 lW) (KL P N d0) ((ρ.set (.o (.o (.i (.i (.o (.i (.o .h))))))) (.ref pp)).set (.i (.o (.i (.i (.o (.i (.o .h))))))) (.bool lb)) κ σ2= .next wF σ3→
  (∃σ',dB lW (KL P N d0) ρ κ σ= .ret (.bool true) σ')∨(n<iE∧∃ρ' σ' v' iR kY kZ,dB lW (KL P N d0) ρ κ σ= .next ρ' σ'∧sI c p xs κ iE ρ' σ' v' iR kY kZ (n+1)∧I v' iR kY kZ (n+1)):=λ{wF σ3} X3 L3 q1 q2 e3=>by
  have hall:∀{r},dB Gw (KL P N d0) wF κ σ3=r→dB lW (KL P N d0) ρ κ σ=r:=λz=>iy (lT (BJ H.possible (iO (gR L.F) (iO (gR L.b) (iO (tw L.rc S.r) (iO (gR L.V) jd)))) e1)) (iy (lT e2) (iy e3 z));have g3:=λ{q o}(h:σ.get q=some o)=>X3.get _ _ iA (g2 h);refine iK (aas (d0:=d0) hN H hX mC LI hI ⟨X3.wf,S.ext hV.v hkk ((sH.trans X3).mono nofun),⟨D,C,g3 hV.v,g3 hV.d,g3 hV.c⟩,⟨kk,g3 hkk⟩,ne,k,L3,K.ext (sH.trans X3) nofun⟩ q1 (X3.get _ _ iA (X2.get _ _ iA p1)) q2 hf) λr1 r2=>?_
  induction lb with
  |true=>exact .inl ⟨_,hall (r1 rfl)⟩
  |false=>
   obtain⟨a,b,c,d,e,f,z,y⟩:=r2 rfl;exact .inr ⟨(hf rfl).1,a,b,c,d,e,f,hall z,y⟩
 have hck:∀(v':AV),dE (.or (.loc (.i (.o (.i (.i (.o (.i (.o .h)))))))) (.cmp .lt (.loc (.i (.i (.o (.i (.o (.i (.o .h)))))))) (.const (.int 4)))) (KL P N d0) ((ρ.set (.o (.o (.i (.i (.o (.i (.o .h))))))) (.ref pp)).set (.i (.o (.i (.i (.o (.i (.o .h))))))) (.bool lb)) κ σ2= .ok v' σ2→truth σ2 v'=some true→(∃σ',dB lW (KL P N d0) ρ κ σ= .ret (.bool true) σ')∨(n<iE∧∃ρ' σ' v' iR kY kZ,dB lW (KL P N d0) ρ κ σ= .next ρ' σ'∧sI c p xs κ iE ρ' σ' v' iR kY kZ (n+1)∧I v' iR kY kZ (n+1)):=λv' e t=>by
  refine nO (aap (d0:=d0) sH.wf hN H mC (S.ext hV.v hkk (sH.mono nofun)) ⟨D,C,g2 hV.v,g2 hV.d,g2 hV.c⟩ (g2 hkk) vo (K.ext sH nofun) (LI.lets hI) (LI.fin hI) L2 (pp:=pp) (gN iQ) (X2.get _ _ iA p1) hpl iQ) λwF σ3 z1 X3 L3 z4 z5=>?_;exact OX X3 L3 z4 z5 (nx e t z1)
 induction lb with
 |true=>exact hck _ (BK (gR iQ) rfl) rfl
 |false=>
  by_cases h4:(n:Int)<4
  .exact hck _ (wq (gR iQ) rfl (jf (gR L2.n) rfl (BN (N5 _ _) h4))) rfl
  .exact OX (hZ.refl sH.wf) L2 (gN iQ) iQ (ka (wq (gR iQ) rfl (jf (gR L2.n) rfl (Gh (N5 _ _) h4))) rfl i7)
theorem Gx(hN:500<N)(H:PH P)(hX:P.xs=some (xs.map .int))(mC:xQ c)(LI:zW c iE I)(hm:iE≤100):∀(fu:Nat){ρ:Loc}{σ:gI}{v:jv}{tr dp cl:List Int}{n:Nat},I v tr dp cl n→n≤iE→iE- n<fu→sI c p xs κ iE ρ σ v tr dp cl n→
 ∃σ',oP (dE (.const (.bool true))) (dB lW) (dB .nil) (KL P N d0) κ fu ρ σ= .ret (.bool true) σ'
 |0,_,_,_,_,_,_,_,_,_,h,_=>absurd h (Nat.not_lt_zero _)
 |fu+1,ρ,σ,v,tr,dp,cl,n,hI,hn,hf,A=>by
  have e:oP (dE (.const (.bool true))) (dB lW) (dB .nil) (KL P N d0) κ (fu+1) ρ σ=(match dB lW (KL P N d0) ρ κ σ with
   | .next ρ σ=>oP (dE (.const (.bool true))) (dB lW) (dB .nil) (KL P N d0) κ fu ρ σ
   | .cont ρ σ=>oP (dE (.const (.bool true))) (dB lW) (dB .nil) (KL P N d0) κ fu ρ σ
   | .brk ρ σ=>.next ρ σ
   |r=>r):=rfl
  rw[e]
  rcases aav (d0:=d0) hN H hX mC LI hm hI hn A with⟨σ',z⟩|⟨hlt,ρ',σ',v',iR,kY,kZ,z,A',hI'⟩
  .rw[z];exact⟨σ',rfl⟩
  .rw[z];exact Gx hN H hX mC LI hm fu hI' hlt (by omega) A'
end
end
section
inductive St where
 |e
 |s1
 |z
 |T (k:Nat)
 |X (k:Nat)
 |R (k:Nat)
 |F (k:Nat)
inductive Tk where
 |one (k:Nat)
 |iD (k:Nat)
 |zz
 |fin
inductive EA where
 |no
 |acc
 |red (i:Nat)
 |sh (s:St)
structure ir where
 rt:Bool
 gA:Bool
 jU:Bool
 kd:Nat→Nat
 n:Nat
noncomputable def lX(g:ir)(t:Tk):Bool:=match t with
 | .fin=>true
 | .iD j=>g.kd j==1
 | .one _=>!g.rt
 | .zz=>false
noncomputable def ku(g:ir)(s:St)(t:Tk):Bool:=match g.jU with
 |false=>lX g t
 |true=>match s with
  | .e=>(match t with| .fin=>true| .one _=>!g.rt|_=>false)
  | .T k=>if g.kd k=1 then(match t with| .iD j=>j==k| .one _=>!g.rt|_=>false)else lX g t
  |_=>lX g t
noncomputable def rJ(g:ir)(s:St)(t:Tk):EA:=
 match t with
 | .zz=>if g.gA then .sh .z else .no
 | .one j=>if g.rt then .sh (.T j)else if g.gA then .no else if ku g s (.one j)then .red 0 else .no
 |t=>if g.gA then .no else if ku g s t then .red 0 else .no
noncomputable def lF(g:ir)(s:St)(t:Tk):EA:=match s with
 | .s1=>(match t with| .fin=>.acc| .one j=>if g.rt then .no else .sh (.T j)|_=>.no)
 | .R k=>(match t with| .iD j=>if j=k then .sh (.X k)else .no| .one j=>if g.rt then .no else .sh (.T j)|_=>.no)
 | .z=>if lX g t then .red 0 else .no
 | .F k=>if lX g t then .red (k+1)else .no
 | .e=>rJ g .e t
 | .T k=>if g.kd k=2 then(match t with| .iD j=>if j=k then .sh (.X k)else .no|_=>.no)
  else if g.kd k=1 then rJ g (.T k) t
  else if g.rt then rJ g (.T k) t else if lX g t then .red (k+1)else .no
 | .X k=>if g.rt then rJ g (.X k) t else if lX g t then .red (k+1)else .no
noncomputable def vx(g:ir)(s:St):Option St:=match s with
 | .e=>some .s1
 | .T k=>if g.kd k=1 then some (.R k)else if g.rt&&g.kd k==0 then some (.F k)else none
 | .X k=>if g.rt then some (.F k)else none
 |_=>none
end
section
noncomputable def iI(k:Nat):Nat:=if k=0 then 2097249 else 2097251
noncomputable def iu(k:Nat):Nat:=if k=0 then 2097250 else 2097252
noncomputable def jw(t:Tk):Nat:=match t with| .one k=>iI k| .iD k=>iu k| .zz=>2097274| .fin=>19343145155671596495536228
noncomputable def mm(g:ir)(k:Nat):List Nat:=
 let s:=if g.kd k=1 then[iI k,2097235,iu k]else if g.kd k=2 then[iI k,iu k]else[iI k]
 if g.rt then s++[2097235]else 2097235::s
noncomputable def jG(g:ir)(s:St):Bool:=match s with
 | .e=>true| .s1=>true| .z=>g.gA
 | .T k=>decide (k<g.n)| .X k=>decide (k<g.n)&&decide (g.kd k≠0)| .R k=>decide (k<g.n)&&decide (g.kd k=1)| .F k=>decide (k<g.n)&&g.rt
noncomputable def iY(g:ir)(t:Tk):Bool:=match t with
 | .one k=>decide (k<g.n)| .iD k=>decide (k<g.n)&&decide (g.kd k≠0)| .zz=>g.gA| .fin=>true
structure jK(g:ir)(c:Cf)(nm:St→Nat):Prop where
 act:∀s t,jG g s=true→iY g t=true→c.act (nm s:Int) (jw t)=match lF g s t with| .no=>none| .acc=>some 0| .red i=>some (.negSucc i)| .sh s'=>some (nm s':Int)
 iG:∀s s',jG g s=true→vx g s=some s'→c.iG (nm s:Int)=some (nm s':Int)
 ok:∀s,jG g s=true→c.ok (nm s:Int)
 pos:∀s,s≠.e→jG g s=true→0<nm s
 le:∀s,nm s≤100
 rt:c.rt=g.rt
 rules:c.rules=(if g.gA then[2097274]else[])::(List.range g.n).map (mm g)
 pairs:c.pairs=false::(List.range g.n).map (λk=>decide (g.kd k=1))
section
variable{g:ir}{c:Cf}{nm:St→Nat}
noncomputable def rep(nm:St→Nat)(l:List St):List Int:=l.reverse.map λs=>(nm s:Int)
theorem sL(s:St)(l:List St):rep nm (s::l)=rep nm l++[(nm s:Int)]:=by simp[rep]
theorem aaw(a l:List St):rep nm (a++l)=rep nm l++rep nm a:=by simp[rep]
theorem zX(l:List St):(rep nm l).length=l.length:=by simp[rep]
abbrev Wk(c:Cf)(t:Tk):=Walk c.act c.iG c.ok c.rules c.pairs c.rt (jw t)
theorem sM(O:jK g c nm){s:St}{t:Tk}(hs:jG g s=true)(ht:iY g t=true)(e:lF g s t= .no){l:List St}(hl:l.length≤400){dp cl:List Int}{m:Nat}:Wk c t (m+1) (rep nm (s::l)) dp cl none:=by
 rw[sL];have:=O.act s t hs ht;rw[e]at this;exact .refuse this (O.ok s hs) (by rw[zX];exact hl)
theorem xR(O:jK g c nm){s s':St}{t:Tk}(hs:jG g s=true)(ht:iY g t=true)(e:lF g s t= .sh s'){l:List St}(hl:l.length≤400){dp cl:List Int}{m:Nat}:Wk c t (m+1) (rep nm (s::l)) dp cl (some ((nm s':Int),rep nm (s::l),dp,cl)):=by
 rw[sL];have:=O.act s t hs ht;rw[e]at this;exact .shift this (O.ok s hs) (by rw[zX];exact hl)
theorem OY(O:jK g c nm){s:St}{t:Tk}(hs:jG g s=true)(ht:iY g t=true)(e:lF g s t= .acc){l:List St}(hl:l.length≤400){dp cl:List Int}{m:Nat}:Wk c t (m+1) (rep nm (s::l)) dp cl (some (((0:Nat):Int),rep nm (s::l),dp,cl)):=by
 rw[sL];have:=O.act s t hs ht;rw[e]at this;exact .shift (a:=0) this (O.ok s hs) (by rw[zX];exact hl)
noncomputable def bump(cl:List Int)(i:Nat):List Int:=cl.set i (cl.getD i 0+1)
theorem vy(O:jK g c nm){s:St}{t:Tk}{i:Nat}(hs:jG g s=true)(ht:iY g t=true)(e:lF g s t= .red i){l top rest:List St}{q q':St}{syms:List Nat}{pr:Bool}{ds dp cl:List Int}{m:Nat}{r:Option (Int×List Int×List Int×List Int)}
 (h:s::l=top++q::rest)(hr:c.rules[i]? =some syms)(hp:c.pairs[i]? =some pr)(hlen:top.length=syms.length)(hq:jG g q=true)(hg:vx g q=some q')(hd:ds.length=(syms.filter (·==2097235)).length)(hpl:tv ds)(h8:pr=true→2≤ds.length∨ds=[])(hc:i<cl.length)
 (hl:l.length≤400)(wB:dp.length≤400)(ny:syms.length≤10)(w:Wk c t m (rep nm (q'::q::rest)) (dp++[rH ds pr g.rt]) (bump cl i) r):Wk c t (m+1) (rep nm (s::l)) (dp++ds) cl r:=by
 have ha:=O.act s t hs ht;rw[e]at ha;have hrep:rep nm l++[(nm s:Int)]=(rep nm rest++[(nm q:Int)])++rep nm top:=by
  rw[←sL,h,aaw,sL]
 rw[sL,sL]at w;rw[sL];refine .reduce ha (O.ok s hs) (by rw[zX];exact hl) hr hp hrep (by rw[zX];exact hlen) (O.iG q q' hq hg) hd hpl h8 (c:=cl.getD i 0) ?_ wB ny ?_
 .rw[oJ,pV hc];rfl
 .rw[←O.rt]at w;exact w
theorem nt{b:Bool}(h:b=false):¬b=true:=λe=>gU (h.symm.trans e)
theorem bt{b:Bool}(h:b=false):(!b)=true:=by rw[h];rfl
theorem jz{a b c:Nat}(h:a=b)(n:b≠c:=by decide):a≠c:=λe=>n (h.symm.trans e)
theorem OZ(gZ:g.rt=false){s:St}{t:Tk}(ht:t≠.zz):rJ g s t=if g.gA then .no else if ku g s t then .red 0 else .no:=by
 cases t with
 |one j=>exact if_neg (nt gZ)
 |zz=>exact absurd rfl ht
 |_=>rfl
theorem BZ{k:Nat}(h:k<g.n)(h2:g.kd k≠0):jG g (.X k)=true:=lJ.2 ⟨decide_eq_true h,decide_eq_true h2⟩
theorem plain1{d:Nat}(h:d≤100):tv [(d:Int)]:=λy hy=>by rw[jc.1 hy];exact sJ h
theorem B0(O:jK g c nm){k:Nat}(hk:k<g.n):c.rules[k+1]? =some (mm g k):=by
 rw[O.rules];show((List.range g.n).map (mm g))[k]? =_
 rw[sQ,List.getElem?_range hk];rfl
theorem B1(O:jK g c nm){k:Nat}(hk:k<g.n):c.pairs[k+1]? =some (decide (g.kd k=1)):=by
 rw[O.pairs];show((List.range g.n).map λk=>decide (g.kd k=1))[k]? =_
 rw[sQ,List.getElem?_range hk];rfl
end
end
section
inductive Cx where
 |top
 |iq (k:Nat) (d:Nat) (c:Cx)
noncomputable def Cx.hd:Cx→St| .top=>.e| .iq k _ _=>.T k
noncomputable def Cx.rw:Cx→St| .top=>.s1| .iq k _ _=>.R k
def Cx.tl:Cx→List St| .top=>[]| .iq _ _ c=>c.rw::c.hd::c.tl
noncomputable def Cx.iP:Cx→List Int| .top=>[]| .iq _ d c=>c.iP++[(d:Int)]
noncomputable def Cx.due:Cx→List Nat| .top=>[]| .iq k _ c=>c.due++[iu k]
noncomputable def Cx.lvl:Cx→Nat| .top=>0| .iq _ _ c=>c.lvl+1
def Cx.mx:Cx→Nat| .top=>0| .iq _ d c=>max c.mx (max (c.lvl+d) (c.lvl+1))
noncomputable def Cx.sz:Cx→Nat| .top=>0| .iq _ d c=>c.sz+d+1
def Cx.ok(g:ir):Cx→Prop| .top=>True| .iq k _ c=>k<g.n∧g.kd k=1∧c.ok g
noncomputable def Cx.pend:Cx→Nat→Nat| .top,_=>0| .iq k _ c,i=>c.pend i+(if i=k+1 then 1 else 0)
inductive Sa where
 |bare
 |jC
 |half (k d:Nat)
 |done (k d:Nat)
 |pair (k d d':Nat)
def Sa.stk(g:ir)(c:Cx):Sa→List St
 | .bare=>c.hd::c.tl
 | .jC=>.z::c.hd::c.tl
 | .half k _=>.T k::c.rw::c.hd::c.tl
 | .done k _=>if g.kd k=2 then .X k::.T k::c.rw::c.hd::c.tl else .T k::c.rw::c.hd::c.tl
 | .pair k _ _=>.X k::.R k::.T k::c.rw::c.hd::c.tl
noncomputable def Sa.iP:Sa→List Int| .half _ d=>[(d:Int)]| .done _ d=>[(d:Int)]| .pair _ d d'=>[(d:Int),(d':Int)]|_=>[]
noncomputable def Sa.hf:Sa→Nat| .half k _=>iu k|_=>1
noncomputable def Sa.jl:Sa→Bool| .bare=>true|_=>false
noncomputable def Sa.cur:Sa→Nat| .half _ d=>d| .done _ d=>d| .pair _ d d'=>max d (d'+1)|_=>0
noncomputable def Sa.sz:Sa→Nat| .half _ d=>d| .done _ d=>d| .pair _ d d'=>d+d'+1|_=>0
noncomputable def Sa.rule:Sa→Nat| .half k _=>k+1| .done k _=>k+1| .pair k _ _=>k+1|_=>0
def Sa.ok(g:ir):Sa→Prop
 | .bare=>True
 | .jC=>g.gA=true
 | .half k _=>k<g.n∧g.kd k=2
 | .done k _=>k<g.n∧(g.kd k=0∨g.kd k=2)
 | .pair k _ _=>k<g.n∧g.kd k=1
section
variable{g:ir}{c:Cf}{nm:St→Nat}
theorem Cx.rK{x:Cx}(h:x.ok g):jG g x.hd=true∧jG g x.rw=true∧vx g x.hd=some x.rw:=by
 cases x with
 |top=>exact⟨rfl,rfl,rfl⟩
 |iq k d c=>exact⟨decide_eq_true h.1,lJ.2 ⟨decide_eq_true h.1,decide_eq_true h.2.1⟩,if_pos h.2.1⟩
theorem B2{x:Cx}(hx:x.ok g)(t:Tk):lF g x.hd t=rJ g x.hd t:=by
 cases x with
 |top=>rfl
 |iq k d cx=>exact(if_neg (jz hx.2.1)).trans (if_pos hx.2.1)
theorem Cx.wG(x:Cx):x.tl.length≤2*x.sz:=by
 induction x with
 |top=>exact i8 _
 |iq k d c ih=>exact ia (Nat.add_le_add_right ih 2) (Nat.mul_le_mul_left 2 (mn (lK c.sz d)))
theorem Cx.Gy(x:Cx):x.iP.length≤x.sz:=by
 induction x with
 |top=>exact i8 _
 |iq k d c ih=>exact ia (pe jm) (mn (ia ih (lK c.sz d)))
theorem Cx.zY{x:Cx}{n k:Nat}(h:x.sz+n≤20)(hk:k≤300):x.tl.length+k≤400:=ia (nE (ia x.wG (Nat.mul_le_mul_left 2 (ia (lK _ _) h))) hk) (by decide)
theorem Cx.zZ{x:Cx}{n:Nat}(h:x.sz+n≤20):x.iP.length≤400:=ia x.Gy (ia (lK _ _) (ia h (by decide)))
theorem xS(k:Nat)(l:List Nat):((iI k::l).filter (·==2097235))=l.filter (·==2097235):=by unfold iI;split<;>rfl
theorem B3(k:Nat)(l:List Nat):((iu k::l).filter (·==2097235))=l.filter (·==2097235):=by unfold iu;split<;>rfl
theorem z7(l:List Nat):((2097235::l).filter (·==2097235))=2097235::l.filter (·==2097235):=rfl
theorem B4(O:jK g c nm)(gZ:g.rt=false){x:Cx}(hx:x.ok g){s:Sa}(hs:s.ok g)(ij:x.sz+s.sz≤20){t:Tk}(ht:iY g t=true)(hh:∀k d,s≠.half k d)(hb:s= .bare→g.gA=false∧ku g x.hd t=true)(hf:s≠.bare→lX g t=true){cl:List Int}(hcl:cl.length=g.n+1)
 {m:Nat}{r:Option (Int×List Int×List Int×List Int)}(w:Wk c t m (rep nm (x.rw::x.hd::x.tl)) (x.iP++[(s.cur:Int)]) (bump cl s.rule) r):Wk c t (m+1) (rep nm (s.stk g x)) (x.iP++s.iP) cl r:=by
 obtain⟨l1,-,l3⟩:=Cx.rK hx;have p0:c.pairs[0]? =some false:=by rw[O.pairs];rfl
 have ck:∀{k},k<g.n→k+1<cl.length:=λh=>by rw[hcl];exact Nat.succ_lt_succ h
 have nf:∀{a b:Prop},false=true→a∨b:=λh=>gU h;have c0:0<cl.length:=by rw[hcl];exact Nat.succ_pos _
 have pl:∀{d},d≤s.sz→d≤100:=λh=>ia h (ia (ia (Nat.le_add_left _ _) ij) (by decide))
 cases s with
 |bare=>
  obtain⟨hb1,hb2⟩:=hb rfl;have hz:t≠.zz:=λe=>by rw[e]at ht;exact gU (hb1.symm.trans ht)
  exact vy O l1 ht ((B2 hx t).trans ((OZ gZ hz).trans ((if_neg (nt hb1)).trans (if_pos hb2)))) (top:=[]) (syms:=[]) (ds:=[]) rfl (by rw[O.rules,hb1];rfl) p0 rfl l1 l3 rfl (λy hy=>(iA hy).elim) nf c0 (Cx.zY (k:=0) ij (by decide)) (Cx.zZ ij) (kg _) w
 |jC=>
  have AQ:g.gA=true:=hs;exact vy O (show jG g .z=true from AQ) ht (if_pos (hf λe=>Sa.noConfusion e)) (top:=[.z]) (syms:=[2097274]) (ds:=[]) rfl (by rw[O.rules,AQ];rfl) p0 rfl l1 l3 rfl (λy hy=>(iA hy).elim) nf c0 (Cx.zY (k:=1) ij (by decide)) (Cx.zZ ij) (by decide) w
 |half k d=>exact absurd rfl (hh k d)
 |done k d=>
  have hk:=hs.1;have ft:=hf λe=>Sa.noConfusion e
  rcases hs.2 with h|h
  .have hst:(Sa.done k d).stk g x= .T k::x.rw::x.hd::x.tl:=if_neg (jz h);have ny:mm g k=[2097235,iI k]:=(if_neg (nt gZ)).trans (congrArg (2097235::·) ((if_neg (jz h)).trans (if_neg (jz h))));rw[hst];exact vy O (show jG g (.T k)=true from decide_eq_true hk) ht ((if_neg (jz h)).trans ((if_neg (jz h)).trans ((if_neg (nt gZ)).trans (if_pos ft)))) (top:=[.T k,x.rw]) (syms:=[2097235,iI k]) (ds:=[(d:Int)]) rfl (ny▸B0 O hk) ((B1 O hk).trans (congrArg some (decide_eq_false (jz h)))) rfl l1 l3 (by rw[z7,xS];rfl) (plain1 (pl (i8 _))) nf (ck hk) (Cx.zY (k:=2) ij (by decide)) (Cx.zZ ij) (by decide:2≤10) w
  .have hst:(Sa.done k d).stk g x= .X k::.T k::x.rw::x.hd::x.tl:=if_pos h;have ny:mm g k=[2097235,iI k,iu k]:=(if_neg (nt gZ)).trans (congrArg (2097235::·) ((if_neg (jz h)).trans (if_pos h)));rw[hst];exact vy O (BZ hk (jz h)) ht ((if_neg (nt gZ)).trans (if_pos ft)) (top:=[.X k,.T k,x.rw]) (syms:=[2097235,iI k,iu k]) (ds:=[(d:Int)]) rfl (ny▸B0 O hk) ((B1 O hk).trans (congrArg some (decide_eq_false (jz h)))) rfl l1 l3 (by rw[z7,xS,B3];rfl) (plain1 (pl (i8 _))) nf (ck hk) (Cx.zY (k:=3) ij (by decide)) (Cx.zZ ij) (by decide:3≤10) w
 |pair k d d'=>
  have hk:=hs.1;have ft:=hf λe=>Sa.noConfusion e;have ny:mm g k=[2097235,iI k,2097235,iu k]:=(if_neg (nt gZ)).trans (congrArg (2097235::·) (if_pos hs.2));have aax:rH [(d:Int),(d':Int)] true g.rt=((max d (d'+1):Nat):Int):=by
   rw[gZ];exact(Lean.Omega.Int.ofNat_max d (d'+1)).symm
  refine vy O (BZ hk (jz hs.2)) ht ((if_neg (nt gZ)).trans (if_pos ft)) (top:=[.X k,.R k,.T k,x.rw]) (syms:=[2097235,iI k,2097235,iu k]) (ds:=[(d:Int),(d':Int)]) rfl (ny▸B0 O hk) ((B1 O hk).trans (congrArg some (decide_eq_true hs.2))) rfl l1 l3 (by rw[z7,xS,z7,B3];rfl) (λy hy=>(iL.1 hy).elim (λe=>e▸sJ (pl (ia (lK d d') (nF _)))) (plain1 (pl (ia (Nat.le_add_left d' d) (nF _))) y)) (λU=>.inl (i8 2)) (ck hk) (Cx.zY (k:=4) ij (by decide)) (Cx.zZ ij) (by decide:4≤10) ?_;rw[aax];exact w
end
end
section
noncomputable def o9(g:ir):List Form:=(List.range g.n).map λk=>(g.kd k,iI k,if g.kd k=0 then 1 else iu k)
noncomputable def wH(g:ir):List Nat:=(List.range g.n).map iI++(((List.range g.n).filter λk=>decide (g.kd k≠0)).map iu++if g.gA then[2097274]else[])
structure jP(g:ir)(c:Cf):Prop where
 fs:c.fs=o9 g
 gA:c.gA=if g.gA then 2097274 else 1
 lets:c.pQ=wH g
 n1:1≤g.n
 n2:g.n≤2
 kd:∀k,g.kd k≤2
section
variable{g:ir}{c:Cf}
theorem aay(hj:j<2)(hk:k<2)(e:iu j=iu k):j=k:=by
 unfold iu at e;split at e<;>split at e<;>lia
theorem B5(j k:Nat):iI j≠iu k:=by unfold iI iu;split<;>split<;>decide
theorem Gz(j:Nat):iI j≠2097274:=by unfold iI;split<;>decide
theorem B6(j:Nat):iu j≠2097274:=by unfold iu;split<;>decide
theorem aaz(j:Nat):iI j≠1:=by unfold iI;split<;>decide
theorem xT(j:Nat):iu j≠1:=by unfold iu;split<;>decide
theorem GA:l∈wH g↔∃t,iY g t=true∧t≠.fin∧jw t=l:=by
 unfold wH;rw[nD,nD,List.mem_map,List.mem_map];constructor
 .rintro(⟨k,hk,rfl⟩|⟨k,hk,rfl⟩|h)
  .exact⟨.one k,by simpa[iY]using hk,by simp,rfl⟩
  .exact⟨.iD k,by simpa[iY]using hk,by simp,rfl⟩
  .induction hb:g.gA with
   |false=>rw[hb]at h;cases h
   |true=>rw[hb]at h;exact⟨.zz,hb,by simp,(jc.1 h).symm⟩
 .rintro⟨t,ht,hn,rfl⟩
  induction t with
  |one k=>exact .inl ⟨k,by simpa[iY]using ht,rfl⟩
  |iD k=>exact .inr (.inl ⟨k,by simpa[iY]using ht,rfl⟩)
  |zz=>exact .inr (.inr (by rw[show g.gA=true from ht];exact jc.2 rfl))
  |fin=>exact absurd rfl hn
theorem aaA(h1:1≤g.n)(h2:g.n≤2):(g.n=1∧o9 g=[(g.kd 0,iI 0,if g.kd 0=0 then 1 else iu 0)])∨(g.n=2∧o9 g=[(g.kd 0,iI 0,if g.kd 0=0 then 1 else iu 0),(g.kd 1,iI 1,if g.kd 1=0 then 1 else iu 1)]):=by
 have:g.n=1∨g.n=2:=by lia
 rcases this with h|h
 .exact .inl ⟨h,by unfold o9;rw[h];rfl⟩
 .exact .inr ⟨h,by unfold o9;rw[h];rfl⟩
theorem aaB(h1:1≤g.n)(h2:g.n≤2)(hj:j<g.n)(v:jv):wz (iI j) 0 (o9 g) v=o8 j (g.kd j,iI j,if g.kd j=0 then 1 else iu j) v:=by
 have O0:iI 0≠iI 1:=by decide
 rcases aaA h1 h2 with⟨h,e⟩|⟨h,e⟩
 .have:j=0:=by lia
  subst this;rw[e];simp[wz]
 .rw[e];have:j=0∨j=1:=by lia
  rcases this with rfl|rfl
  .simp[wz,O0.symm]
  .simp[wz,O0]
end
end
section
section
variable{g:ir}{c:Cf}
noncomputable def Cx.clos:Cx→Option Nat| .top=>none| .iq k _ _=>some k
theorem B7(x:Cx):jr x.due=match x.clos with|none=>[]|some k=>[iu k]:=by
 induction x with
 |top=>rfl
 |iq k d x=>show jr (x.due++[iu k])=_;unfold jr;simp[Cx.clos]
noncomputable def lY(x:Cx)(t:Tk):Bool:=match t with| .one _=>true| .iD j=>x.clos==some j|_=>false
theorem O1(K:jP g c):c.fs.map (·.2.1)=(List.range g.n).map iI:=by rw[K.fs];unfold o9;rw[List.map_map];rfl
theorem aaC(k:Nat):iI k≠jw .fin:=by unfold iI;split<;>decide
theorem GB(ht:iY g t=true):jw t∈(List.range g.n).map iI↔∃j,t= .one j:=by
 refine List.mem_map.trans ⟨λ⟨k,_,e⟩=>?_,λ⟨j,e⟩=>⟨j,List.mem_range.2 (by rw[e]at ht;exact of_decide_eq_true ht),by rw[e];rfl⟩⟩
 cases t with
 |one j=>exact⟨j,rfl⟩
 |iD j=>exact absurd e (B5 k j)
 |zz=>exact absurd e (Gz k)
 |fin=>exact absurd e (aaC k)
theorem Cx.aaD{x:Cx}(hx:x.ok g){k:Nat}(h:x.clos=some k):k<g.n:=by
 cases x with
 |top=>exact gV h
 |iq k' d x=>exact gP h▸hx.1
theorem O2(h2:g.n≤2)(hj:j<g.n)(hk:k<g.n)(e:iu j=iu k):j=k:=aay (Nat.lt_of_lt_of_le hj h2) (Nat.lt_of_lt_of_le hk h2) e
theorem O3(h:iY g (.iD j)=true):j<g.n:=gQ h λh U=>of_decide_eq_true h
theorem O4(h2:g.n≤2){x:Cx}(hx:x.ok g){t:Tk}(ht:iY g t=true)(hn:t≠.fin):jw t∈jr x.due↔∃j,t= .iD j∧x.clos=some j:=by
 rw[B7]
 cases hcl:x.clos with
 |none=>exact⟨λh=>(iA h).elim,λ⟨_,_,h⟩=>(Aq _ h.symm).elim⟩
 |some k=>
  refine jc.trans ⟨λe=>?_,λ⟨j,e,h⟩=>by rw[e,gP h];rfl⟩
  cases t with
  |one j=>exact absurd e (B5 j k)
  |iD j=>exact⟨j,rfl,congrArg some (O2 h2 (O3 ht) (Cx.aaD hx hcl) e).symm⟩
  |zz=>exact absurd e.symm (B6 k)
  |fin=>exact absurd rfl hn
theorem aaE(h2:g.n≤2){x:Cx}(hx:x.ok g){t:Tk}(ht:iY g t=true)(hn:t≠.fin):jw t∈jr x.due++(List.range g.n).map iI↔lY x t=true:=by
 rw[nD,GB ht,O4 h2 hx ht hn]
 cases t with
 |one j=>exact⟨λU=>rfl,λU=>.inr ⟨j,rfl⟩⟩
 |iD j=>exact⟨λh=>h.elim (λ⟨i,e,h⟩=>by cases e;exact beq_iff_eq.2 h) λ⟨i,e⟩=>Tk.noConfusion e,λh=>.inl ⟨j,rfl,eq_of_beq h⟩⟩
 |zz=>exact⟨λh=>h.elim (λ⟨i,e,_⟩=>Tk.noConfusion e) λ⟨i,e⟩=>Tk.noConfusion e,λh=>gU h⟩
 |fin=>exact absurd rfl hn
theorem O5(hn:t≠.fin):jw t∈[2097274]↔t= .zz:=by
 refine jc.trans ⟨λe=>?_,λe=>by rw[e];rfl⟩
 cases t with
 |one j=>exact absurd e (Gz j)
 |iD j=>exact absurd e (B6 j)
 |zz=>rfl
 |fin=>exact absurd rfl hn
theorem O6(h2:g.n≤2)(hk:k<g.n)(ht:iY g t=true)(hn:t≠.fin):jw t∈[iu k]↔(match(generalizing:=false) t with| .iD j=>j==k|_=>false)=true:=by
 refine jc.trans ?_
 cases t with
 |one j=>exact⟨λe=>absurd e (B5 j k),λh=>gU h⟩
 |iD j=>exact⟨λe=>beq_iff_eq.2 (O2 h2 (O3 ht) hk e),λe=>congrArg iu (eq_of_beq e)⟩
 |zz=>exact⟨λe=>absurd e.symm (B6 k),λh=>gU h⟩
 |fin=>exact absurd rfl hn
noncomputable def pb(g:ir)(x:Cx)(s:Sa)(t:Tk):Bool:=match s with
 | .half k _=>(match t with| .iD j=>j==k|_=>false)
 |s=>if g.gA&&s.jl then(match t with| .zz=>true|_=>false)else lY x t
theorem O7{C:Prop}(h:pb g x s t=true)(k1:∀k d,s= .half k d→t= .iD k→C)(k2:s= .bare→g.gA=true→t= .zz→C)(k3:(∀k d,s≠.half k d)→(g.gA=true→s.jl=false)→lY x t=true→C):C:=by
 induction s with
 |half k d=>induction t with
  |iD j=>exact k1 k d rfl (congrArg _ (eq_of_beq h))
  |_=>exact gU h
 |bare=>
  revert h;show(if(g.gA&&true)=true then _ else _)=true→_
  induction hb:g.gA with
  |false=>exact k3 (λU U e=>Sa.noConfusion e) λe=>gU (hb.symm.trans e)
  |true=>induction t with
   |zz=>exact λU=>k2 rfl hb rfl
   |_=>exact λh=>nomatch h
 |_=>
  revert h;show(if(g.gA&&false)=true then _ else _)=true→_;rw[Bool.and_false];exact k3 (λU U e=>Sa.noConfusion e) λU=>rfl
theorem O8(K:jP g c)(hc:c.rt=false){x:Cx}{s:Sa}{v:jv}(hd:v.due=x.due)(hh:v.half=s.hf)(hb:g.gA=true→v.bare=s.jl):k8 c v=if s.hf=1 then(if(g.gA&&s.jl)=true then[2097274]else jr x.due++(List.range g.n).map iI)else[s.hf]:=by
 unfold k8 wy;rw[hd,hh,O1 K,K.gA,hc]
 by_cases h:s.hf=1
 .rw[if_pos h,if_pos h]
  cases GC:g.gA with
  |false=>exact(if_pos rfl).trans (if_neg jD).symm
  |true=>rw[Bool.true_and,←hb GC];exact(if_neg (by decide)).trans (if_neg jD)
 .rw[if_neg h,if_neg h]
theorem O9(K:jP g c)(hc:c.rt=false)(hx:x.ok g)(hs:s.ok g)(hd:v.due=x.due)(hh:v.half=s.hf)(hb:g.gA=true→v.bare=s.jl)(ht:iY g t=true)(hn:t≠.fin):
 jw t∈k8 c v↔pb g x s t=true:=by
 rw[O8 K hc hd hh hb];have row:∀b:Bool,jw t∈(if b=true then[2097274]else jr x.due++(List.range g.n).map iI)↔(if b=true then(match(generalizing:=false) t with| .zz=>true|_=>false)else lY x t)=true:=λb=>by
  cases b with
  |false=>exact aaE K.n2 hx ht hn
  |true=>exact(O5 hn).trans (by cases t<;>exact⟨λh=>by first|rfl|injection h,λh=>by first|rfl|exact gU h⟩)
 cases s with
 |half k d=>rw[if_neg (show¬(Sa.half k d).hf=1 from xT k)];exact O6 K.n2 hs.1 ht hn
 |bare=>rw[if_pos (show Sa.bare.hf=1 from rfl)];exact row (g.gA&&true)
 |jC=>rw[if_pos (show Sa.jC.hf=1 from rfl)];exact row (g.gA&&false)
 |done k d=>rw[if_pos (show(Sa.done k d).hf=1 from rfl)];exact row (g.gA&&false)
 |pair k d d'=>rw[if_pos (show(Sa.pair k d d').hf=1 from rfl)];exact row (g.gA&&false)
end
end
section
section
variable{g:ir}{c:Cf}{nm:St→Nat}
noncomputable def toS(t:Tk):St:=match t with| .one j=>.T j| .iD j=>.X j| .zz=>.z| .fin=>.e
theorem O'(gZ:g.rt=false)(x:Cx)(t:Tk):lF g x.rw t=if lY x t then .sh (toS t)else match t with| .fin=>(match x with| .top=>.acc|_=>.no)|_=>.no:=by
 cases t with
 |one j=>refine Eq.trans ?_ (if_pos (c:=lY x (.one j)=true) rfl).symm;cases x<;>exact if_neg (nt gZ)
 |zz=>refine Eq.trans ?_ (if_neg (c:=lY x .zz=true) jD).symm;cases x<;>rfl
 |fin=>refine Eq.trans ?_ (if_neg (c:=lY x .fin=true) jD).symm;cases x<;>rfl
 |iD j=>cases x with
  |top=>exact(if_neg (c:=lY .top (.iD j)=true) jD).symm
  |iq k d x=>
   show(if j=k then EA.sh (.X k)else .no)=if((some k:Option Nat)==some j)=true then _ else _
   by_cases h:j=k
   .rw[if_pos h,if_pos (by rw[h];exact beq_self_eq_true _),h];rfl
   .rw[if_neg h,if_neg λe=>h (gP (eq_of_beq e)).symm]
theorem Pa(gZ:g.rt=false)(hx:x.ok g)(h:lY x t=true):lX g t=true∧ku g x.hd t=true:=by
 cases t with
 |zz=>exact gU h
 |fin=>exact gU h
 |one j=>
  refine⟨bt gZ,?_⟩;unfold ku
  cases g.jU with
  |false=>exact bt gZ
  |true=>cases x with
   |top=>exact bt gZ
   |iq k d x=>exact(if_pos hx.2.1).trans (bt gZ)
 |iD j=>cases x with
  |top=>exact gU h
  |iq k d x=>
   cases gP (eq_of_beq (show((some k:Option Nat)==some j)=true from h))
   have hf:lX g (.iD j)=true:=by show(g.kd j==1)=true;rw[hx.2.1];rfl
   refine⟨hf,?_⟩;unfold ku
   cases g.jU with
   |false=>exact hf
   |true=>exact(if_pos hx.2.1).trans (beq_self_eq_true j)
theorem Pb(gZ:g.rt=false){x:Cx}(hx:x.ok g){t:Tk}(h:ku g x.hd t=false∨g.gA=true)(ht:t≠.zz):lF g x.hd t= .no:=by
 rw[B2 hx,OZ gZ ht]
 by_cases hb:g.gA=true
 .exact if_pos hb
 .exact(if_neg hb).trans (if_neg (nt (h.resolve_right hb)))
theorem aaF{x:Cx}(hx:x.ok g)(h:g.gA=true):lF g x.hd .zz= .sh .z:=(B2 hx _).trans (if_pos h)
theorem aaG(gZ:g.rt=false){x:Cx}{s:Sa}(hs:s.ok g){t:Tk}(hf:lX g t=false)(h1:s≠.bare)(h2:∀k d,s≠.half k d):∃q l,s.stk g x=q::l∧jG g q=true∧lF g q t= .no∧l.length≤x.tl.length+4:=by
 cases s with
 |bare=>exact absurd rfl h1
 |jC=>exact⟨.z,_,rfl,hs,if_neg (nt hf),Nat.add_le_add_left (by decide:1≤4) _⟩
 |half k d=>exact absurd rfl (h2 k d)
 |done k d=>
  rcases hs.2 with h|h
  .exact⟨.T k,x.rw::x.hd::x.tl,if_neg (jz h),decide_eq_true hs.1,(if_neg (jz h)).trans ((if_neg (jz h)).trans ((if_neg (nt gZ)).trans (if_neg (nt hf)))),Nat.add_le_add_left (by decide:2≤4) _⟩
  .exact⟨.X k,.T k::x.rw::x.hd::x.tl,if_pos h,lJ.2 ⟨decide_eq_true hs.1,decide_eq_true (jz h)⟩,(if_neg (nt gZ)).trans (if_neg (nt hf)),Nat.add_le_add_left (by decide:3≤4) _⟩
 |pair k d d'=>exact⟨.X k,_,rfl,lJ.2 ⟨decide_eq_true hs.1,decide_eq_true (jz hs.2)⟩,(if_neg (nt gZ)).trans (if_neg (nt hf)),i8 _⟩
end
end
section
section
variable{g:ir}{c:Cf}{nm:St→Nat}
def tD(g:ir)(x:Cx)(s:Sa)(t:Tk):Cx×Sa:=match t with
 | .zz=>(x,.jC)
 | .one j=>if g.kd j=1 then(.iq j s.cur x,.bare)else if g.kd j=2 then(x,.half j s.cur)else(x,.done j s.cur)
 | .iD j=>(match x with| .iq k d x'=>(x',.pair k d s.cur)| .top=>(x,s))
 | .fin=>(x,s)
def wI(g:ir)(x:Cx)(s:Sa)(t:Tk):Cx×Sa:=match s with
 | .half k d=>(x,.done k d)
 |s=>tD g x s t
theorem Pd{x:Cx}{s:Sa}{t:Tk}(h:∀k d,s≠.half k d):wI g x s t=tD g x s t:=by
 induction s with
 |half k d=>exact absurd rfl (h k d)
 |_=>rfl
def z8(g:ir)(s:Sa)(cl:List Int):List Int:=match s with
 | .half _ _=>cl
 | .bare=>if g.gA then cl else bump cl 0
 |s=>bump cl s.rule
theorem Pe{x:Cx}{k d:Nat}(hs:(Sa.half k d).ok g):jG g (.T k)=true:=by simp[jG,hs.1]
theorem Pf{s:Sa}{cl:List Int}(h:∀k d,s≠.half k d)(h2:g.gA=true→s.jl=false):z8 g s cl=bump cl s.rule:=by
 induction s with
 |half k d=>exact absurd rfl (h k d)
 |bare=>exact if_neg λe=>gU (h2 e)
 |_=>rfl
theorem Pg{a b c:Nat}(h:a≤2*b)(h2:b+c≤20):a≤40:=by lia
theorem Ph(k1:g.kd j=1):tD g x s (.one j)=(.iq j s.cur x,.bare):=if_pos k1
theorem Pi(k1:g.kd j≠1)(k2:g.kd j=2):tD g x s (.one j)=(x,.half j s.cur):=(if_neg k1).trans (if_pos k2)
theorem Pj(k1:g.kd j≠1)(k2:g.kd j≠2):tD g x s (.one j)=(x,.done j s.cur):=(if_neg k1).trans (if_neg k2)
theorem aaH{x:Cx}{s:Sa}{t:Tk}(h:lY x t=true):x.iP++[(s.cur:Int)]=(tD g x s t).1.iP++(tD g x s t).2.iP∧toS t::(x.rw::x.hd::x.tl)=(tD g x s t).2.stk g (tD g x s t).1:=by
 induction t with
 |one j=>
  by_cases k1:g.kd j=1
  .rw[Ph k1];exact⟨(nB _).symm,rfl⟩
  .by_cases k2:g.kd j=2
   .rw[Pi k1 k2];exact⟨rfl,rfl⟩
   .rw[Pj k1 k2];exact⟨rfl,(if_neg k2).symm⟩
 |iD j=>
  induction x with
  |top=>exact gU h
  |iq k d x'=>
   cases gP (eq_of_beq (show((some k:Option Nat)==some j)=true from h))
   exact⟨(tG ..),rfl⟩
 |zz=>exact gU h
 |fin=>exact gU h
theorem Pk{s:Sa}(h:g.gA=true→s.jl=false)(e:s= .bare):g.gA=false:=by
 rw[e]at h
 cases hb:g.gA
 .rfl
 .cases h hb
theorem aaI(O:jK g c nm)(gZ:g.rt=false){x:Cx}(hx:x.ok g){s:Sa}(hs:s.ok g)(ij:x.sz+s.sz≤20){t:Tk}(ht:iY g t=true)(h1:lY x t=true)(h2:∀k d,s≠.half k d)(h3:g.gA=true→s.jl=false){cl:List Int}(hcl:cl.length=g.n+1):
 Wk c t 2 (rep nm (s.stk g x)) (x.iP++s.iP) cl (some ((nm (toS t):Int),rep nm (x.rw::x.hd::x.tl),x.iP++[(s.cur:Int)],bump cl s.rule)):=
 B4 O gZ hx hs ij ht h2 (λe=>⟨Pk h3 e,(Pa gZ hx h1).2⟩) (λU=>(Pa gZ hx h1).1) hcl (xR O (Cx.rK hx).2.1 ht (by rw[O' gZ,if_pos h1]) (ia (mn (Pg x.wG ij)) (by decide)))
theorem Pm(O:jK g c nm)(gZ:g.rt=false){x:Cx}(hx:x.ok g){s:Sa}(hs:s.ok g)(ij:x.sz+s.sz≤20){t:Tk}(ht:iY g t=true)(ha:pb g x s t=true){cl:List Int}(hcl:cl.length=g.n+1):
 ∃m,m≤60∧∃γ,Wk c t m (rep nm (s.stk g x)) (x.iP++s.iP) cl (some ((nm (toS t):Int),rep nm γ,(wI g x s t).1.iP++(wI g x s t).2.iP,z8 g s cl))∧toS t::γ=(wI g x s t).2.stk g (wI g x s t).1:=by
 have hl:=Pg x.wG ij;refine O7 ha (λk d e1 e2=>?_) (λe1 hb e2=>?_) λh2 h3 h1=>?_
 .subst e1 e2;exact⟨1,by decide,.T k::x.rw::x.hd::x.tl,xR O (Pe (x:=x) hs) ht ((if_pos hs.2).trans (if_pos rfl)) (ia (mn (mn hl)) (by decide)),(if_pos hs.2).symm⟩
 .subst e1 e2;refine⟨1,by decide,x.hd::x.tl,?_,rfl⟩;rw[show z8 g .bare cl=cl from if_pos hb];exact xR O (Cx.rK hx).1 ht (aaF hx hb) (l:=x.tl) (ia hl (by decide)) (dp:=x.iP++[]) (cl:=cl) (m:=0)
 .have hn:=aaH (g:=g) (s:=s) h1;rw[Pd h2,Pf h2 h3,←hn.1];exact⟨2,by decide,_,aaI O gZ hx hs ij ht h1 h2 h3 hcl,hn.2⟩
end
end
section
section
variable{g:ir}{c:Cf}{nm:St→Nat}
noncomputable def pR(g:ir)(x:Cx)(s:Sa):Bool:=match x with
 | .iq _ _ _=>false
 | .top=>match s with| .half _ _=>false| .bare=>!g.gA|_=>true
abbrev GD(g:ir)(c:Cf)(nm:St→Nat)(x:Cx)(s:Sa)(t:Tk)(cl:List Int):Prop:=∃m,m≤60∧Wk c t m (rep nm (s.stk g x)) (x.iP++s.iP) cl none
section
variable{x:Cx}{s:Sa}{t:Tk}{cl:List Int}
theorem aaJ(h2:∀k d,s≠.half k d)(h3:g.gA=true→s.jl=false):pR g .top s=true:=by
 cases s with
 |half k d=>exact absurd rfl (h2 k d)
 |bare=>
  cases hb:g.gA with
  |false=>exact bt hb
  |true=>exact gU (h3 hb)
 |_=>rfl
theorem z9(h:x.sz+s.sz≤20)(hn:n≤x.tl.length+k)(hk:k≤300):n≤400:=by have:=x.wG;lia
theorem aaK(O:jK g c nm)(gZ:g.rt=false)(hx:x.ok g)(hs:s.ok g)(ij:x.sz+s.sz≤20)(ht:iY g t=true)(hf:t= .fin→pR g x s=false)(hcl:cl.length=g.n+1)(h1:lY x t=false)(h2:∀k d,s≠.half k d)(h3:g.gA=true→s.jl=false):GD g c nm x s t cl:=by
 have hno:lF g x.rw t= .no:=by
  rw[O' gZ,if_neg (nt h1)]
  cases t with
  |fin=>cases x with
   |iq k d x'=>rfl
   |top=>exact gU ((hf rfl).symm.trans (aaJ h2 h3))
  |_=>rfl
 have l2:=(Cx.rK hx).2.1;have len:((x.hd::x.tl).length≤400):=z9 ij (i8 _) (by decide)
 by_cases hb:s= .bare
 .subst hb;have hb:=Pk h3 rfl
  cases he:ku g x.hd t with
  |true=>exact⟨2,by decide,B4 O gZ hx hs ij ht h2 (λU=>⟨hb,he⟩) (λh=>absurd rfl h) hcl (sM O l2 ht hno len)⟩
  |false=>exact⟨1,by decide,sM O (Cx.rK hx).1 ht (Pb gZ hx (.inl he) λe=>by rw[e]at ht;exact gU (hb.symm.trans ht)) (z9 ij (lK _ 0) (by decide))⟩
 .cases he:lX g t with
  |true=>exact⟨2,by decide,B4 O gZ hx hs ij ht h2 (λe=>absurd e hb) (λU=>he) hcl (sM O l2 ht hno len)⟩
  |false=>
   refine lx (aaG gZ (x:=x) hs he hb h2) λq l e1 e2 e3 e4=>?_;rw[GD,e1];exact⟨1,by decide,sM O e2 ht e3 (z9 ij e4 (by decide))⟩
theorem aaL(hk:g.kd k=2)(ha:pb g x (.half k d) t=false):lF g (.T k) t= .no:=by
 refine(if_pos hk).trans ?_
 cases t with
 |iD j=>exact if_neg (ne_of_beq_false ha)
 |_=>rfl
theorem Pn(O:jK g c nm)(gZ:g.rt=false)(hx:x.ok g)(hs:s.ok g)(ij:x.sz+s.sz≤20)(ht:iY g t=true)(ha:pb g x s t=false)(hf:t= .fin→pR g x s=false)(hcl:cl.length=g.n+1):GD g c nm x s t cl:=by
 have row:=λh1 h2 h3=>aaK O gZ hx hs ij ht hf hcl h1 h2 h3
 cases s with
 |half k d=>exact⟨1,by decide,sM O (Pe (x:=x) hs) ht (aaL hs.2 ha) (z9 ij (i8 (x.tl.length+2)) (by decide))⟩
 |bare=>
  cases hb:g.gA with
  |true=>
   refine⟨1,by decide,sM O (Cx.rK hx).1 ht (Pb gZ hx (.inr hb) λe=>?_) (z9 ij (lK _ 0) (by decide))⟩;subst e;have h:(if(g.gA&&true)=true then true else lY x .zz)=false:=ha;rw[hb]at h;exact gU h
  |false=>
   have h:(if(g.gA&&true)=true then _ else lY x t)=false:=ha;rw[hb]at h;exact row h (λU U e=>Sa.noConfusion e) λe=>gU (hb.symm.trans e)
 |_=>
  have h:(if(g.gA&&false)=true then _ else lY x t)=false:=ha;rw[Bool.and_false]at h;exact row h (λU U e=>Sa.noConfusion e) λU=>rfl
end
theorem aaM(O:jK g c nm)(gZ:g.rt=false)(hs:s.ok g)(ij:s.sz≤20)(hw:pR g .top s=true)(hcl:cl.length=g.n+1):
 ∃m,m≤60∧∃iR,Wk c .fin m (rep nm (s.stk g .top)) (Cx.top.iP++s.iP) cl (some (((0:Nat):Int),iR,[(s.cur:Int)],bump cl s.rule)):=by
 have h2:∀k d,s≠.half k d:=λk d e=>by rw[e]at hw;exact gU hw
 have he:ku g .e .fin=true:=by
  unfold ku
  cases g.jU<;>rfl
 exact⟨2,by decide,_,B4 O gZ (x:=.top) trivial hs (ia (pe (Nat.zero_add _)) ij) rfl h2 (λe=>⟨jW (by rw[e]at hw;exact hw),he⟩) (λU=>rfl) hcl (OY O rfl rfl rfl (by decide))⟩
end
end
section
section
variable{g:ir}{c:Cf}{nm:St→Nat}
def Sa.pend(s:Sa)(i:Nat):Nat:=if i=s.rule then 1 else 0
structure IL(g:ir)(nm:St→Nat)(v:jv)(tr dp cl:List Int)(n:Nat):Prop where
 i:∃(x:Cx)(s:Sa),x.ok g∧s.ok g∧tr=rep nm (s.stk g x)∧dp=x.iP++s.iP∧v.due=x.due∧v.half=s.hf∧(g.gA=true→v.bare=s.jl)∧v.calls.length=g.n+1∧cl.length=g.n+1∧
  (∀i,i<g.n+1→v.calls.getD i 0=cl.getD i 0+(x.pend i:Int)+(s.pend i:Int))∧(∀i,i<g.n+1→0≤v.calls.getD i 0∧v.calls.getD i 0≤(n:Int)+1)∧v.deep=((max x.mx (x.lvl+s.cur):Nat):Int)∧x.sz+s.sz≤n∧n≤13
theorem Cx.B8:∀x:Cx,x.due.length=x.lvl
 | .top=>rfl
 | .iq k d c=>by simp only[Cx.due,Cx.lvl,jm,mZ,List.length_nil,c.B8]
theorem Cx.GE:∀x:Cx,x.lvl≤x.sz∧x.mx≤x.sz
 | .top=>⟨i8 _,i8 _⟩
 | .iq k d c=>have h:=c.GE;have l:=mn (ia h.1 (lK _ d));⟨l,Nat.max_le.2 ⟨ia h.2 (ia (lK _ d) (nF _)),Nat.max_le.2 ⟨ia (Nat.add_le_add_right h.1 d) (nF _),l⟩⟩⟩
theorem Cx.aaN{x:Cx}(hx:x.ok g)(h2:g.n≤2):∀y∈x.due,iz (.str y)=true:=by
 induction x with
 |top=>intro y hy;cases hy
 |iq k d c ih=>
  intro y hy
  rcases nD.1 hy with hy|hy
  .exact ih hx.2.2 y hy
  .rw[jc]at hy;subst hy;unfold iu;split<;>decide
theorem Po(K:jP g c){x:Cx}(hx:x.ok g){v:jv}{n:Nat}(hn:n≤13)(e3:v.due=x.due)(e6:v.calls.length=g.n+1)(e9:∀i,i<g.n+1→0≤v.calls.getD i 0∧v.calls.getD i 0≤(n:Int)+1)(hh:v.half=1∨∃k,v.half=iu k){D:Nat}(mV:v.deep=(D:Int))(hD:D≤30)(hl:x.lvl≤30):wD c v:=by
 have l2:=x.B8;have hfl:c.fs.length=g.n:=by rw[K.fs];unfold o9;simp
 refine⟨by rw[e3,l2];lia,by rw[hfl];exact e6,?_,by rw[e3];exact Cx.aaN hx K.n2,?_,by rw[mV];exact sJ (by lia)⟩
 .rcases hh with h|⟨k,h⟩
  .rw[h];decide
  .rw[h];unfold iu;split<;>decide
 .intro y hy;refine qY (List.mem_iff_getElem.1 hy) λi hi aaO=>?_;subst aaO;have:=e9 i (by lia);rw[oJ,pV hi,Option.getD_some]at this;obtain⟨k,hk⟩:∃k:Nat,v.calls[i]=(k:Int):=⟨v.calls[i].toNat,by lia⟩;rw[hk];exact sJ (by lia)
theorem IL.vv(K:jP g c)(h:IL g nm v tr dp cl n):wD c v:=by
 obtain⟨x,s,hx,hs,e1,e2,e3,e4,e5,e6,e7,e8,e9,mV,mW,rL⟩:=h.i;have l1:=x.GE;have hc:s.cur≤s.sz:=by induction s<;>simp[Sa.cur,Sa.sz]<;>lia
 exact Po K hx rL e3 e6 e9 (by rw[e4];induction s<;>first|exact .inl rfl|exact .inr ⟨_,rfl⟩) mV (by lia) (by lia)
end
end
section
section
variable{g:ir}{c:Cf}
theorem aaP{s:Sa}(h:∀k d,s≠.half k d):s.hf=1:=by
 induction s with
 |half k d=>exact absurd rfl (h k d)
 |_=>rfl
theorem aaQ(K:jP g c)(hh:v.half=1):mU c.fs c.rt v 2097274={v with bare:=false}:=by
 unfold mU;rw[if_neg (by rw[hh];decide),if_pos rfl]
theorem Pp(hh:v.half=l):mU c.fs c.rt v l={v with half:=1}:=by
 unfold mU;rw[if_pos hh.symm]
theorem GF(K:jP g c)(hh:v.half=1)(hd:v.due=(Cx.iq k d x).due):mU c.fs c.rt v (iu k)={v with due:=x.due,bare:=c.rt}:=by
 unfold mU;have h1:jr v.due=[iu k]:=by rw[hd,B7];rfl
 have h2:v.due.take (v.due.length- 1)=x.due:=by rw[hd];simp[Cx.due]
 rw[if_neg (by rw[hh];exact xT k),if_neg (B6 k),if_pos h1.symm,h2]
theorem Pq(K:jP g c){v:jv}{x:Cx}{j:Nat}(hj:j<g.n)(hh:v.half=1)(hd:v.due=x.due):mU c.fs c.rt v (iI j)=o8 j (g.kd j,iI j,if g.kd j=0 then 1 else iu j) v:=by
 unfold mU;have h1:¬[iI j]=jr v.due:=by
  rw[hd,B7]
  induction x.clos with
  |none=>simp
  |some k=>intro e;injection e with e _;exact B5 j k e
 rw[if_neg (by rw[hh];exact aaz j),if_neg (Gz j),if_neg h1,K.fs];exact aaB K.n1 K.n2 hj v
end
end
section
section
variable{g:ir}{c:Cf}{nm:St→Nat}
theorem GH(h:l∈(List.range g.n).map iI):∃t,iY g t=true∧t≠.fin∧jw t=l:=by
 refine gW (List.mem_map.1 h) λk hk aaR=>?_;subst aaR;exact⟨.one k,decide_eq_true (List.mem_range.1 hk),λh=>Tk.noConfusion h,rfl⟩
theorem GI(h:k<g.n)(h2:g.kd k≠0)(e:l∈[iu k]):∃t,iY g t=true∧t≠.fin∧jw t=l:=⟨.iD k,lJ.2 ⟨decide_eq_true h,decide_eq_true h2⟩,λh=>Tk.noConfusion h,(jc.1 e).symm⟩
theorem Pt(h:g.gA=true)(e:l∈[2097274]):∃t,iY g t=true∧t≠.fin∧jw t=l:=⟨.zz,h,λh=>Tk.noConfusion h,(jc.1 e).symm⟩
theorem GJ{x:Cx}(hx:x.ok g){l:Nat}(h:l∈jr x.due):∃t,iY g t=true∧t≠.fin∧jw t=l:=by
 rw[B7]at h
 cases x with
 |top=>cases h
 |iq k d x=>exact GI hx.1 (jz hx.2.1) h
theorem Pu(K:jP g c)(hc:c.rt=false){x:Cx}(hx:x.ok g){s:Sa}(hs:s.ok g){v:jv}(hd:v.due=x.due)(hh:v.half=s.hf)(hb:g.gA=true→v.bare=s.jl){l:Nat}(hl:l∈k8 c v):∃t,iY g t=true∧t≠.fin∧jw t=l:=by
 rw[O8 K hc hd hh hb]at hl;have row:l∈(if(g.gA&&s.jl)=true then[2097274]else jr x.due++(List.range g.n).map iI)→∃t,iY g t=true∧t≠.fin∧jw t=l:=λhl=>by
  by_cases h:(g.gA&&s.jl)=true
  .rw[if_pos h]at hl;exact gQ h λh U=>Pt h hl
  .rw[if_neg h]at hl;exact(nD.1 hl).elim (GJ hx) GH
 cases s with
 |half k d=>rw[if_neg (show¬(Sa.half k d).hf=1 from xT k)]at hl;exact GI hs.1 (jz hs.2) hl
 |_=>exact row hl
end
end
section
section
variable{g:ir}{c:Cf}{nm:St→Nat}
theorem B9(h:t≠.fin):toS t≠.e:=by induction t<;>simp[toS]at h⊢
theorem B'(ht:iY g t=true)(h:t≠.fin):jG g (toS t)=true:=by
 induction t with
 |one k=>simpa[iY,jG,toS]using ht
 |iD k=>simpa[iY,jG,toS]using ht
 |zz=>simpa[iY,jG,toS]using ht
 |fin=>exact absurd rfl h
theorem aaS(K:jP g c)(O:jK g c nm)(gZ:g.rt=false)(h:IL g nm v tr dp cl n):∀l∈c.pQ,xP c (k8 c v) tr dp cl l:=by
 obtain⟨x,s,hx,hs,e1,e2,e3,e4,e5,e6,e7,e8,e9,mV,mW,rL⟩:=h.i;have hc:c.rt=false:=by rw[O.rt];exact gZ
 intro l hl;rw[K.lets]at hl;obtain⟨t,ht,hn,rfl⟩:=GA.1 hl;have hp:=O9 K hc hx hs e3 e4 e5 ht hn;rw[e1,e2];refine⟨λhm=>?_,λhm=>?_⟩
 .have ha:pb g x s t=false:=by
   cases hq:pb g x s t
   .rfl
   .exact absurd (hp.2 hq) hm
  exact Pn O gZ hx hs (by lia) ht ha (λe=>absurd e hn) e7
 .obtain⟨m,nW,γ,w,_⟩:=Pm O gZ hx hs (by lia) ht (hp.1 hm) e7;exact⟨m,nW,nm (toS t),_,_,_,O.pos _ (B9 hn) (B' ht hn),w⟩
end
end
section
section
variable{g:ir}{c:Cf}{nm:St→Nat}
theorem Ca(hj:j<cl.length):(bump cl j).getD i 0=cl.getD i 0+(if i=j then 1 else 0):=by
 unfold bump;rw[oJ,List.getElem?_set]
 by_cases h:j=i
 .subst h;simp[hj]
 .have h':¬i=j:=λe=>h e.symm;simp[h,h',oJ]
theorem lG(cl:List Int)(j:Nat):(bump cl j).length=cl.length:=by unfold bump;simp
theorem Pv{a b:List Int}(hl:a.length=b.length)(h:∀i,i<a.length→a.getD i 0=b.getD i 0):a=b:=by
 apply List.ext_getElem hl;intro i h1 h2;have:=h i h1;rw[oJ,oJ,pV h1,pV h2]at this;exact this
theorem Pw{s:Sa}(hs:s.ok g):s.rule<g.n+1:=by
 induction s with
 |half k d=>have:=hs.1;simp only[Sa.rule];lia
 |done k d=>have:=hs.1;simp only[Sa.rule];lia
 |pair k d d'=>have:=hs.1;simp only[Sa.rule];lia
 |_=>simp only[Sa.rule];lia
end
end
section
section
variable{g:ir}{c:Cf}{nm:St→Nat}
theorem aaT(K:jP g c)(e3:v.due=x.due)(e4:v.half=s.hf)(e5:g.gA=true→v.bare=s.jl):sG c v=pR g x s:=by
 unfold sG;rw[e3,e4,K.gA]
 induction x with
 |iq k d x=>simp[Cx.due,pR]
 |top=>
  induction s with
  |half k d=>simp[Sa.hf,xT,pR]
  |bare=>cases hb:g.gA<;>simp[Sa.hf,Cx.due,pR,hb,e5,Sa.jl]
  |jC=>cases hb:g.gA<;>simp[Sa.hf,Cx.due,pR,hb,e5,Sa.jl]
  |done k d=>cases hb:g.gA<;>simp[Sa.hf,Cx.due,pR,hb,e5,Sa.jl]
  |pair k d d'=>cases hb:g.gA<;>simp[Sa.hf,Cx.due,pR,hb,e5,Sa.jl]
end
end
section
section
variable{g:ir}{c:Cf}{nm:St→Nat}
theorem aaU(K:jP g c)(O:jK g c nm)(gZ:g.rt=false)(h:IL g nm v tr dp cl n):zV c v tr dp cl:=by
 obtain⟨x,s,hx,hs,e1,e2,e3,e4,e5,e6,e7,e8,e9,mV,mW,rL⟩:=h.i;have hw:=aaT K e3 e4 e5;rw[e1,e2];refine⟨λhm=>?_,λhm=>?_⟩
 .rw[hw]at hm
  induction x with
  |iq k d x=>simp[pR]at hm
  |top=>
   obtain⟨m,nW,iR,w⟩:=aaM O gZ hs (by simp only[Cx.sz]at mW;lia) hm e7;refine⟨m,nW,iR,?_⟩;have wB:v.deep=(s.cur:Int):=by rw[mV];simp[Cx.mx,Cx.lvl]
   have hcl:v.calls=bump cl s.rule:=Pv (by rw[lG,e6,e7]) λi hi=>by
    rw[Ca (by rw[e7];exact Pw hs),e8 i (by lia)];simp only[Cx.pend,Sa.pend];split<;>simp
   rw[wB,hcl];exact w
 .rw[hw]at hm;have ha:pb g x s .fin=false:=by
   induction s with
   |half k d=>rfl
   |bare=>cases hb:g.gA<;>simp[pb,hb,lY,Sa.jl]
   |jC=>cases hb:g.gA<;>simp[pb,hb,lY,Sa.jl]
   |done k d=>cases hb:g.gA<;>simp[pb,hb,lY,Sa.jl]
   |pair k d d'=>cases hb:g.gA<;>simp[pb,hb,lY,Sa.jl]
  exact Pn O gZ hx hs (by lia) rfl ha (λU=>hm) e7
end
end
section
section
variable{g:ir}{c:Cf}{nm:St→Nat}
theorem Px(m l c d:Nat):max (max m (max (l+d) (l+1))) (l+1+c)=max m (l+max d (c+1)):=by
 rw[←Nat.add_max_add_left,Nat.max_assoc,Nat.max_assoc,Nat.max_eq_right (lK (l+1) c),Nat.add_assoc l 1 c,Nat.add_comm 1 c]
theorem aaV(a b:Nat):max (a:Int) (b:Int)=((max a b:Nat):Int):=by omega
theorem Py(m l c:Nat):max ((max m (l+c):Nat):Int) ((l+(0+1):Nat):Int)=((max (max m (max (l+c) (l+1))) (l+1+0):Nat):Int):=by
 rw[aaV,Nat.zero_add,Nat.add_zero,←Nat.max_assoc m,Nat.max_assoc _ (l+1),Nat.max_self]
theorem jP.Pz(K:jP g c)(j:Nat)(k1:g.kd j≠1)(k2:g.kd j≠2):g.kd j=0:=by have:=K.kd j;lia
structure k9(g:ir)(x:Cx)(s:Sa)(v:jv)(cl:List Int)(n:Nat):Prop where
 hx:x.ok g
 hs:s.ok g
 due:v.due=x.due
 hf:v.half=s.hf
 ba:g.gA=true→v.bare=s.jl
 cv:v.calls.length=g.n+1
 cc:cl.length=g.n+1
 xU:∀i,i<g.n+1→v.calls.getD i 0=cl.getD i 0+(x.pend i:Int)+(s.pend i:Int)
 Aa:∀i,i<g.n+1→0≤v.calls.getD i 0∧v.calls.getD i 0≤(n:Int)+1
 dp:v.deep=((max x.mx (x.lvl+s.cur):Nat):Int)
 sz:x.sz+s.sz≤n
section
variable{x:Cx}{s:Sa}{v:jv}{cl:List Int}{n k d j:Nat}
theorem k9.up(h:k9 g x s v cl n)(i:Nat)(hi:i<g.n+1):0≤v.calls.getD i 0∧v.calls.getD i 0≤((n+1:Nat):Int)+1:=⟨(h.Aa i hi).1,Int.le_trans (h.Aa i hi).2 (Int.add_le_add_right (Int.ofNat_le.2 (nF n)) 1)⟩
theorem k9.half(h:k9 g x (.half k d) v cl n):k9 g x (.done k d) {v with half:=1} cl (n+1):=
 ⟨h.hx,⟨h.hs.1,.inr h.hs.2⟩,h.due,rfl,h.ba,h.cv,h.cc,h.xU,h.up,h.dp,Nat.le_succ_of_le h.sz⟩
theorem k9.jC(h:k9 g x .bare v cl n)(hb:g.gA=true):k9 g x .jC {v with bare:=false} cl (n+1):=
 ⟨h.hx,hb,h.due,h.hf,λU=>rfl,h.cv,h.cc,h.xU,h.up,h.dp,Nat.le_succ_of_le h.sz⟩
theorem GK(h:k9 g x s v cl n)(i:Nat):(bump cl s.rule).getD i 0=cl.getD i 0+(s.pend i:Int):=by
 rw[Ca (h.cc▸Pw h.hs)];unfold Sa.pend;split<;>rfl
theorem aaW{a b d:Int}{p q r:Nat}(h:a=b+((p+q:Nat):Int)+(r:Int))(e:d=b+(r:Int)):a=d+(p:Int)+(q:Int):=by lia
theorem aaX{a b d:Int}{p q r:Nat}(h:a=b+(p:Int)+(r:Int))(e:d=b+(r:Int)):a+(q:Int)=d+(p:Int)+(q:Int):=by lia
theorem aaY{a b d:Int}{p q r u:Nat}(h:a=b+(p:Int)+(r:Int))(e:d=b+(r:Int)):a+(q:Int)+(u:Int)=d+((p+q:Nat):Int)+(u:Int):=by lia
theorem Cb{a:Int}{n u:Nat}(h:0≤a∧a≤(n:Int)+1)(hu:u≤1):0≤a+(u:Int)∧a+(u:Int)≤((n+1:Nat):Int)+1:=by lia
theorem ite_le{p:Prop}[Decidable p]:(if p then 1 else 0:Nat)≤1:=by split<;>decide
theorem wJ{l:List Int}{j i:Nat}(hj:j<l.length):(bump l j).getD i 0=l.getD i 0+((if i=j then 1 else 0:Nat):Int):=by
 rw[Ca hj];split<;>rfl
theorem GL(s:Sa):s.cur≤s.sz:=by
 induction s with
 |pair k d d'=>exact Nat.max_le.2 ⟨ia (lK d d') (nF _),mn (Nat.le_add_left d' d)⟩
 |_=>exact i8 _
theorem sz1{a b c e n:Nat}(h:a+b+1+c≤n)(k:e≤c):a+(b+e+1)≤n+1:=by lia
theorem k9.close(h:k9 g (.iq k d x) s v cl n)(h1:v.half=1):k9 g x (.pair k d s.cur) {v with due:=x.due,bare:=false} (bump cl s.rule) (n+1):=
 ⟨h.hx.2.2,⟨h.hx.1,h.hx.2.1⟩,rfl,h1,λU=>rfl,h.cv,(lG ..).trans h.cc,λi hi=>aaW (h.xU i hi) (GK h i),h.up,h.dp.trans (congrArg Int.ofNat (Px ..)),sz1 h.sz (GL s)⟩
theorem k9.one(h:k9 g x s v cl n)(hj:j<g.n){s':Sa}(hs:s'.ok g)(hc:s'.cur=s.cur)(hz:s'.sz=s.cur)(hr:s'.rule=j+1)(hb:s'.jl=false)(hnb:g.gA=true→s.jl=false){y:Nat}(hy:y=s'.hf):k9 g x s' {v with half:=y,calls:=bump v.calls (j+1)} (bump cl s.rule) (n+1):=
 have q:∀i,(bump v.calls (j+1)).getD i 0=v.calls.getD i 0+((if i=j+1 then 1 else 0:Nat):Int):=λi=>wJ (by rw[h.cv];exact Nat.succ_lt_succ hj)
 ⟨h.hx,hs,h.due,hy,λe=>(h.ba e).trans ((hnb e).trans hb.symm),(lG ..).trans h.cv,(lG ..).trans h.cc,λi hi=>by
  show(bump v.calls (j+1)).getD i 0=_;rw[q,Sa.pend,hr];exact aaX (h.xU i hi) (GK h i),λi hi=>by
  show 0≤(bump v.calls (j+1)).getD i 0∧(bump v.calls (j+1)).getD i 0≤_;rw[q];exact Cb (h.Aa i hi) ite_le,by rw[hc];exact h.dp,by rw[hz];exact Nat.le_succ_of_le (ia (Nat.add_le_add_left (GL s) _) h.sz)⟩
theorem k9.iq(h:k9 g x s v cl n)(hj:j<g.n)(k1:g.kd j=1)(h1:v.half=1):k9 g (.iq j s.cur x) .bare {v with due:=v.due++[iu j],bare:=true,calls:=bump (bump v.calls (j+1)) 0,deep:=max v.deep ((v.due++[iu j]).length:Int)} (bump cl s.rule) (n+1):=
 have q:∀i,(bump (bump v.calls (j+1)) 0).getD i 0=v.calls.getD i 0+((if i=j+1 then 1 else 0:Nat):Int)+((if i=0 then 1 else 0:Nat):Int):=λi=>by
  rw[wJ (by rw[lG,h.cv];exact Nat.succ_pos _),wJ (by rw[h.cv];exact Nat.succ_lt_succ hj)]
 ⟨⟨hj,k1,h.hx⟩,trivial,congrArg (·++[iu j]) h.due,h1,λU=>rfl,(lG ..).trans ((lG ..).trans h.cv),(lG ..).trans h.cc,λi hi=>by
  show(bump (bump v.calls (j+1)) 0).getD i 0=_;rw[q];exact aaY (h.xU i hi) (GK h i),λi hi=>by
  show 0≤(bump (bump v.calls (j+1)) 0).getD i 0∧(bump (bump v.calls (j+1)) 0).getD i 0≤_;rw[q,Int.add_assoc,←Int.natCast_add];refine Cb (h.Aa i hi) ?_
  by_cases e:i=0
  .rw[e];exact i8 1
  .rw[if_neg e];exact ite_le,by
  show max v.deep _=_;rw[h.dp,h.due,jm,x.B8];exact Py ..,mn (ia (Nat.add_le_add_left (GL s) _) h.sz)⟩
theorem k9.next(K:jP g c)(gZ:c.rt=false)(h:k9 g x s v cl n){t:Tk}(ht:iY g t=true)(ha:pb g x s t=true):k9 g (wI g x s t).1 (wI g x s t).2 (mU c.fs c.rt v (jw t)) (z8 g s cl) (n+1):=by
 refine O7 ha (λk d e1 e2=>?_) (λe1 hb e2=>?_) λh2 h3 h1=>?_
 .subst e1 e2;rw[show jw (.iD k)=iu k from rfl,Pp (show v.half=iu k from h.hf)];exact h.half
 .subst e1 e2;rw[show jw .zz=2097274 from rfl,aaQ K h.hf,show z8 g .bare cl=cl from if_pos hb];exact h.jC hb
 .have e1:v.half=1:=h.hf.trans (aaP h2);rw[Pd h2,Pf h2 h3]
  induction t with
  |zz=>exact gU h1
  |fin=>exact gU h1
  |iD j=>
   induction x with
   |top=>exact gU h1
   |iq k d x'=>
    cases gP (eq_of_beq (show((some k:Option Nat)==some j)=true from h1))
    rw[show jw (.iD j)=iu j from rfl,GF K e1 h.due,gZ];exact h.close e1
  |one j=>
   have hj:j<g.n:=of_decide_eq_true ht;rw[show jw (.one j)=iI j from rfl,Pq K hj e1 h.due]
   by_cases k1:g.kd j=1
   .rw[Ph k1,show o8 j (g.kd j,iI j,if g.kd j=0 then 1 else iu j) v={v with due:=v.due++[iu j],bare:=true,calls:=bump (bump v.calls (j+1)) 0,deep:=max v.deep ((v.due++[iu j]).length:Int)}from(if_pos k1).trans (by rw[k1];rfl)];exact h.iq hj k1 e1
   .by_cases k2:g.kd j=2
    .rw[Pi k1 k2,show o8 j (g.kd j,iI j,if g.kd j=0 then 1 else iu j) v={v with half:=iu j,calls:=bump v.calls (j+1)}from(if_neg k1).trans ((if_pos k2).trans (by rw[k2];rfl))];exact h.one (s':=.half j s.cur) hj ⟨hj,k2⟩ rfl rfl rfl rfl h3 rfl
    .rw[Pj k1 k2,show o8 j (g.kd j,iI j,if g.kd j=0 then 1 else iu j) v={v with half:=1,calls:=bump v.calls (j+1)}from(if_neg k1).trans ((if_neg k2).trans (by rw[←e1];rfl))];exact h.one (s':=.done j s.cur) hj ⟨hj,.inl (K.Pz j k1 k2)⟩ rfl rfl rfl rfl h3 rfl
end
theorem aaZ(K:jP g c)(O:jK g c nm)(gZ:g.rt=false){v:jv}{tr dp cl:List Int}{n:Nat}(hn:n<13)(h:IL g nm v tr dp cl n):∀l∈k8 c v,∃m,m≤60∧∃(a:Nat)(iR kY kZ:List Int),(0<a∧a≤100)∧Walk c.act c.iG c.ok c.rules c.pairs c.rt l m tr dp cl (some ((a:Int),iR,kY,kZ))∧IL g nm (mU c.fs c.rt v l) (iR++[(a:Int)]) kY kZ (n+1):=by
 obtain⟨x,s,hx,hs,e1,e2,e3,e4,e5,e6,e7,e8,e9,mV,mW,rL⟩:=h.i;have hc:c.rt=false:=O.rt.trans gZ;intro l hl;obtain⟨t,ht,wK,rfl⟩:=Pu K hc hx hs e3 e4 e5 hl;have ha:=(O9 K hc hx hs e3 e4 e5 ht wK).1 hl;obtain⟨m,nW,γ,w,GM⟩:=Pm O gZ hx hs (ia mW (ia rL (by decide))) ht ha e7;have q:=k9.next K hc ⟨hx,hs,e3,e4,e5,e6,e7,e8,e9,mV,mW⟩ ht ha;rw[e1,e2];exact⟨m,nW,nm (toS t),_,_,_,⟨O.pos _ (B9 wK) (B' ht wK),O.le _⟩,w,_,_,q.hx,q.hs,(sL ..).symm.trans (congrArg (rep nm) GM),rfl,q.due,q.hf,q.ba,q.cv,q.cc,q.xU,q.Aa,q.dp,q.sz,hn⟩
end
end
section
section
variable{g:ir}{c:Cf}{nm:St→Nat}
theorem Ab(h:t≠.fin):iz (.str (jw t))=true:=by
 have ho:∀k,iz (.str (iI k))=true:=λk=>by unfold iI;split<;>decide
 have hx:∀k,iz (.str (iu k))=true:=λk=>by unfold iu;split<;>decide
 induction t with
 |one k=>exact ho k
 |iD k=>exact hx k
 |zz=>decide
 |fin=>exact absurd rfl h
theorem aba(K:jP g c)(O:jK g c nm)(gZ:g.rt=false)(hm:iE≤12):zW c iE (IL g nm)where
 vv:=IL.vv K
 ml:=λ{v tr dp cl n} h l hl=>by
  refine IX h.i λx s hx hs e1 e2 e3 e4 e5 U=>?_;refine jI (Pu K (O.rt.trans gZ) hx hs e3 e4 e5 hl) λt U hn abb=>?_;subst abb;exact Ab hn
 lets:=aaS K O gZ
 fin:=aaU K O gZ
 step:=λ{v tr dp cl n} h hn=>aaZ K O gZ (by lia) h
theorem abc(O:jK g c nm)(h0:nm .e=0):IL g nm ⟨[],1,true,1::(List.range g.n).map (λU=>0),0⟩ [0] [] (0::(List.range g.n).map (λU=>0)) 0:=by
 refine⟨.top,.bare,trivial,trivial,?_,rfl,rfl,rfl,λU=>rfl,by simp,by simp,λi hi=>?_,λi hi=>?_,rfl,by simp[Cx.sz,Sa.sz],by lia⟩
 .simp[rep,Sa.stk,Cx.hd,Cx.tl,h0]
 .induction i with
  |zero=>simp[Cx.pend,Sa.pend,Sa.rule]
  |succ i=>simp[Cx.pend,Sa.pend,Sa.rule,oJ]
 .induction i with
  |zero=>simp
  |succ i=>simp[oJ,sQ];cases(List.range g.n)[i]? <;>simp<;>lia
end
end
section
inductive Ri where
 |it (k:Nat)
 |pr (k d:Nat)
noncomputable def Ri.k:Ri→Nat| .it k=>k| .pr k _=>k
def Ri.ok(g:ir):Ri→Prop| .it k=>k<g.n∧(g.kd k=0∨g.kd k=2)| .pr k _=>k<g.n∧g.kd k=1
noncomputable def Ri.top(g:ir):Ri→St| .it k=>if g.kd k=2 then .X k else .T k| .pr k _=>.X k
noncomputable def Ri.low(g:ir):Ri→List St| .it k=>if g.kd k=2 then[.T k]else[]| .pr k _=>[.R k,.T k]
noncomputable def Ri.D:Ri→List Int| .it _=>[]| .pr _ d=>[(d:Int)]
noncomputable def Ri.dep:Ri→Nat→Nat| .it _,r=>r| .pr _ d,r=>max (d+1) r
noncomputable def Ri.Z:Ri→Nat| .it _=>1| .pr _ d=>d+1
noncomputable def kR(g:ir):List Ri→List St|[]=>[]|i::l=>i.top g::(i.low g++kR g l)
def kx:List Ri→List Int|[]=>[]|i::l=>kx l++i.D
def kS:List Ri→Nat→Nat|[],r=>r|i::l,r=>kS l (i.dep r)
def j6:List Ri→Nat|[]=>0|i::l=>j6 l+i.Z
def pS(cl:List Int):List Ri→List Int|[]=>cl|i::l=>(pS (bump cl (i.k+1)) l)
def wL:List Ri→Nat→Nat|[],_=>0|i::l,n=>wL l n+(if n=i.k+1 then 1 else 0)
inductive Cr where
 |top
 |iq (k:Nat) (l:List Ri) (c:Cr)
def Cr.cx:Cr→Cx| .top=>.top| .iq k l c=>.iq k (kS l 0) c.cx
def Cr.tl(g:ir):Cr→List St| .top=>[]| .iq _ l c=>kR g l++c.cx.hd::c.tl g
def Cr.iP:Cr→List Int| .top=>[]| .iq _ l c=>c.iP++kx l
def Cr.ok(g:ir):Cr→Prop| .top=>True| .iq k l c=>(k<g.n∧g.kd k=1)∧(∀i∈l,i.ok g)∧c.ok g
def Cr.sz:Cr→Nat| .top=>0| .iq _ l c=>c.sz+j6 l+1
def Cr.pend:Cr→Nat→Nat| .top,_=>0| .iq k l c,i=>c.pend i+wL l i+(if i=k+1 then 1 else 0)+(if i=0 then 1 else 0)
def nX(g:ir)(x:Cr):List Ri→St|[]=>x.cx.hd|i::_=>i.top g
def PA(x:Cr):List Ri→St|[]=>x.cx.rw|i::_=>.F i.k
def wM(g:ir)(x:Cr):List Ri→List St|[]=>x.tl g|i::l=>i.low g++(kR g l++x.cx.hd::x.tl g)
section
variable{g:ir}{c:Cf}{nm:St→Nat}
theorem Ri.GN(i:Ri)(r:Nat):i.dep r≤i.Z+r:=by
 cases i with
 |it k=>exact Nat.le_add_left r 1
 |pr k d=>exact Nat.max_le.2 ⟨lK _ _,Nat.le_add_left _ _⟩
theorem GP(l:List Ri):∀r:Nat,kS l r≤j6 l+r:=by
 induction l with
 |nil=>exact λr=>Nat.le_add_left r 0
 |cons i l ih=>exact λr=>ia (ih (i.dep r)) (ia (Nat.add_le_add_left (i.GN r) _) (pe (Nat.add_assoc ..).symm))
theorem abd(l:List Ri):∀r:Nat,kS l r=max (kS l 0) r:=by
 induction l with
 |nil=>exact λr=>(Nat.zero_max r).symm
 |cons i l ih=>
  intro r;show kS l (i.dep r)=max (kS l (i.dep 0)) r;rw[ih (i.dep r),ih (i.dep 0)]
  cases i with
  |it k=>exact congrArg (max · r) (Nat.max_zero _).symm
  |pr k d=>exact((congrArg (λz=>max (max (kS l 0) z) r) (Nat.max_zero _)).trans (Nat.max_assoc ..)).symm
theorem PB(l:List Ri):∀cl:List Int,(pS cl l).length=cl.length:=by
 induction l with
 |nil=>exact λU=>rfl
 |cons i l ih=>exact λcl=>(ih _).trans (lG _ _)
theorem Ri.klt{i:Ri}(h:i.ok g):i.k<g.n:=by cases i<;>exact h.1
theorem PC(l:List Ri):∀{cl:List Int}(i:Nat),(∀y∈l,y.ok g)→cl.length=g.n+1→(pS cl l).getD i 0=cl.getD i 0+(wL l i:Int):=by
 induction l with
 |nil=>exact λi U U=>(Int.add_zero _).symm
 |cons y l ih=>
  intro cl i h hl;have h:=sP.1 h;show(pS (bump cl (y.k+1)) l).getD i 0=cl.getD i 0+((wL l i+(if i=y.k+1 then 1 else 0):Nat):Int);rw[ih i h.2 ((lG ..).trans hl),wJ (by rw[hl];exact Nat.succ_lt_succ (Ri.klt h.1)),Int.natCast_add,Int.add_assoc,Int.add_comm ((if i=y.k+1 then 1 else 0:Nat):Int)]
theorem Cr.tE{x:Cr}(h:x.ok g):x.cx.ok g:=by
 induction x with
 |top=>trivial
 |iq k l c ih=>exact⟨h.1.1,h.1.2,ih h.2.2⟩
theorem Cr.szx(x:Cr):x.cx.sz≤x.sz:=by
 induction x with
 |top=>exact i8 _
 |iq k l c ih=>exact mn (nE ih (GP l 0))
theorem Ri.GQ(i:Ri):(i.low g).length≤2:=by
 cases i with
 |it k=>
  show(if _ then[St.T k]else[]).length≤2;split
  .exact nF 1
  .exact kg 2
 |pr k d=>exact i8 2
theorem Ri.Z1(i:Ri):1≤i.Z:=by
 cases i with
 |it k=>exact i8 1
 |pr k d=>exact mn (kg d)
theorem abe(h1:a≤2)(h2:b≤3*r)(h3:1≤z):a+b+1≤3*(r+z):=by lia
theorem PD(l:List Ri):(kR g l).length≤3*j6 l:=by
 induction l with
 |nil=>exact i8 _
 |cons i l ih=>
  show(i.low g++kR g l).length+1≤_;rw[jm];exact abe i.GQ ih i.Z1
theorem PE(l:List Ri):(kx l).length≤j6 l:=by
 induction l with
 |nil=>exact i8 _
 |cons i l ih=>exact ia (pe jm) (nE ih (by
  cases i with
  |it k=>exact kg 1
  |pr k d=>exact mn (kg d)))
theorem abf(h1:a≤3*z)(h2:b≤3*s):a+(b+1)≤3*(s+z+1):=by lia
theorem Cr.wG(x:Cr):(x.tl g).length≤3*x.sz:=by
 induction x with
 |top=>exact i8 _
 |iq k l c ih=>exact ia (pe jm) (abf (PD l) ih)
theorem Cr.Gy(x:Cr):x.iP.length≤x.sz:=by
 induction x with
 |top=>exact i8 _
 |iq k l c ih=>exact ia (pe jm) (Nat.le_succ_of_le (nE ih (PE l)))
theorem wN(x:Cr)(l:List Ri):kR g l++x.cx.hd::x.tl g=nX g x l::wM g x l:=by
 cases l with
 |nil=>rfl
 |cons i l=>exact congrArg (i.top g::·) (tG ..)
theorem Cc(x:Cr)(l:List Ri):(wM g x l).length≤3*(x.sz+j6 l):=by
 have h:=congrArg List.length (wN (g:=g) x l);rw[jm]at h;rw[←Nat.succ.inj h,Nat.mul_add,Nat.add_comm];exact nE (PD l) x.wG
theorem GR(e:g.kd k=0):Ri.top g (.it k)= .T k:=if_neg (jz e)
theorem GS(e:g.kd k=2):Ri.top g (.it k)= .X k:=if_pos e
theorem Ri.rK(gZ:g.rt=true){i:Ri}(h:i.ok g):jG g (i.top g)=true∧vx g (i.top g)=some (.F i.k):=by
 cases i with
 |it k=>
  rcases h.2 with e|e
  .rw[GR e];exact⟨decide_eq_true h.1,(if_neg (jz e)).trans (if_pos (by rw[gZ,e];rfl))⟩
  .rw[GS e];exact⟨BZ h.1 (jz e),if_pos gZ⟩
 |pr k d=>exact⟨BZ h.1 (jz h.2),if_pos gZ⟩
theorem Cd(gZ:g.rt=true){x:Cr}(hx:x.ok g){l:List Ri}(hl:∀i∈l,i.ok g):jG g (nX g x l)=true∧vx g (nX g x l)=some (PA x l):=by
 cases l with
 |nil=>have:=Cx.rK (Cr.tE hx);exact⟨this.1,this.2.2⟩
 |cons i l=>exact Ri.rK gZ (sP.1 hl).1
theorem Ri.rule(gZ:g.rt=true){i:Ri}(h:i.ok g):(mm g i.k).length=((St.F i.k)::i.top g::i.low g).length∧∀r:Nat,(i.D++[(r:Int)]).length=((mm g i.k).filter (·==2097235)).length∧(decide (g.kd i.k=1)=true→2≤(i.D++[(r:Int)]).length)∧rH (i.D++[(r:Int)]) (decide (g.kd i.k=1)) true=(i.dep r:Int):=by
 cases i with
 |it k=>
  rcases h.2 with e|e
  .have ny:mm g k=[iI k,2097235]:=(if_pos gZ).trans (congrArg (·++[2097235]) ((if_neg (jz e)).trans (if_neg (jz e))));have hlo:Ri.low g (.it k)=[]:=if_neg (jz e);exact⟨by rw[hlo,show mm g (Ri.it k).k=_ from ny];rfl,λr=>⟨by rw[show mm g (Ri.it k).k=_ from ny,xS];rfl,λh=>absurd (of_decide_eq_true h) (jz e),by rw[show decide (g.kd (Ri.it k).k=1)=false from decide_eq_false (jz e)];rfl⟩⟩
  .have ny:mm g k=[iI k,iu k,2097235]:=(if_pos gZ).trans (congrArg (·++[2097235]) ((if_neg (jz e)).trans (if_pos e)));have hlo:Ri.low g (.it k)=[.T k]:=if_pos e;exact⟨by rw[hlo,show mm g (Ri.it k).k=_ from ny];rfl,λr=>⟨by rw[show mm g (Ri.it k).k=_ from ny,xS,B3];rfl,λh=>absurd (of_decide_eq_true h) (jz e),by rw[show decide (g.kd (Ri.it k).k=1)=false from decide_eq_false (jz e)];rfl⟩⟩
 |pr k d=>
  have ny:mm g k=[iI k,2097235,iu k,2097235]:=(if_pos gZ).trans (congrArg (·++[2097235]) (if_pos h.2));refine⟨by rw[show mm g (Ri.pr k d).k=_ from ny];rfl,λr=>⟨by rw[show mm g (Ri.pr k d).k=_ from ny,xS,z7,B3];rfl,λU=>i8 2,?_⟩⟩;rw[show decide (g.kd (Ri.pr k d).k=1)=true from decide_eq_true h.2];exact(Lean.Omega.Int.ofNat_max (d+1) r).symm
end
end
section
section
variable{g:ir}{c:Cf}{nm:St→Nat}
theorem PF(h:s+(z+y)+r≤40)(hd:d≤y+r):s+z+d≤40:=by lia
theorem rrl(h1:a≤2)(h2:b≤3*(s+z))(h:s+(z+y)+r≤40):a+(b+1)+1≤400:=by lia
theorem rrp{i:Ri}{s z r:Nat}(h:s+(z+i.Z)+r≤40):tv (i.D++[(r:Int)]):=λy hy=>by
 have hr:tv [(r:Int)]:=plain1 (ia (Nat.le_add_left _ _) (ia h (by decide)))
 cases i with
 |it k=>exact hr y hy
 |pr k d=>exact(iL.1 hy).elim (λe=>by rw[e];exact sJ (by have:s+(z+(d+1))+r≤40:=h;lia)) (hr y)
theorem GT{x:Cr}{l:List Ri}{k:Nat}(h:x.sz+j6 l+k≤40):(x.iP++kx l).length≤400:=ia (pe jm) (ia (nE x.Gy (PE l)) (ia (lK _ _) (ia h (by decide))))
theorem abg(O:jK g c nm)(gZ:g.rt=true)(hx:x.ok g)(ht:iY g t=true)(hf:lX g t=true)(l:List Ri):∀(r:Nat)(cl:List Int),(∀i∈l,i.ok g)→x.sz+j6 l+r≤40→cl.length=g.n+1→
 Wk c t m (rep nm (x.cx.rw::x.cx.hd::x.tl g)) (x.iP++[(kS l r:Int)]) (pS cl l) res→Wk c t (m+l.length) (rep nm (PA x l::(kR g l++x.cx.hd::x.tl g))) (x.iP++kx l++[(r:Int)]) cl res:=by
 induction l with
 |nil=>intro r cl _ _ _ w;rw[show kx []=[]from rfl,nB];exact w
 |cons i l ih=>
  intro r cl hl hz hc w;refine iK (sP.1 hl) λhi hl'=>?_;have k1:=ih (i.dep r) (bump cl (i.k+1)) hl' (PF hz (i.GN r)) ((lG ..).trans hc) w;refine iK (Cd gZ hx hl') λq1 q2=>?_;refine iK (Ri.rule gZ hi) λr1 r2=>?_;refine kM (r2 r) λr3 r4 r5=>?_;rw[wN]at k1;have:=vy O (show jG g (.F i.k)=true from lJ.2 ⟨decide_eq_true (Ri.klt hi),gZ⟩) ht (if_pos hf:lF g (.F i.k) t= .red (i.k+1)) (top:=.F i.k::i.top g::i.low g) (q:=nX g x l) (rest:=wM g x l) (l:=i.top g::(i.low g++nX g x l::wM g x l)) (ds:=i.D++[(r:Int)]) (dp:=x.iP++kx l) (cl:=cl) (m:=m+l.length) (r:=res)
   rfl (B0 O (Ri.klt hi)) (B1 O (Ri.klt hi)) r1.symm q1 q2 r3 (rrp hz) (λh=>.inl (r4 h)) (by rw[hc];exact Nat.succ_lt_succ (Ri.klt hi)) (by rw[mZ,jm];exact rrl i.GQ (Cc x l) hz) (GT (PF hz (i.GN r))) (by rw[r1];exact ia (Nat.add_le_add_right i.GQ 2) (by decide:2+2≤10)) (by rw[gZ,r5];exact k1)
  rw[show kR g (i::l)++x.cx.hd::x.tl g=i.top g::(i.low g++nX g x l::wM g x l)from(congrArg (i.top g::·) (tG ..)).trans (by rw[wN]),show x.iP++kx (i::l)++[(r:Int)]=x.iP++kx l++(i.D++[(r:Int)])from(congrArg (·++[(r:Int)]) (tG ..).symm).trans (tG ..)];exact this
inductive Fl where
 |bare
 |jC
 |half (k:Nat)
noncomputable def Fl.S:Fl→List St| .bare=>[]| .jC=>[.z]| .half k=>[.T k]
theorem GU(gZ:g.rt=true)(hx:x.ok g)(hl:∀i∈l,i.ok g)(t:Tk):lF g (nX g x l) t=rJ g (nX g x l) t:=by
 cases l with
 |nil=>exact B2 (Cr.tE hx) t
 |cons i l=>
  have hi:=(sP.1 hl).1
  cases i with
  |it k=>
   show lF g (Ri.top g (.it k)) t=rJ g (Ri.top g (.it k)) t
   rcases hi.2 with e|e
   .rw[GR e];exact(if_neg (jz e)).trans ((if_neg (jz e)).trans (if_pos gZ))
   .rw[GS e];exact if_pos gZ
  |pr k d=>exact if_pos gZ
theorem GV(h2:∀j,t≠.one j)(h3:t≠.zz):rJ g s t=if g.gA then .no else if ku g s t then .red 0 else .no:=by
 cases t with
 |one j=>exact absurd rfl (h2 j)
 |zz=>exact absurd rfl h3
 |_=>rfl
theorem GW(O:jK g c nm)(gZ:g.rt=true){x:Cr}(hx:x.ok g){t:Tk}(ht:iY g t=true)(hf:lX g t=true){l:List Ri}(hl:∀i∈l,i.ok g)(hz:x.sz+j6 l≤40){f:Fl}(hfl:(f= .bare∧g.gA=false∧ku g (nX g x l) t=true∧∀j,t≠.one j)∨(f= .jC∧g.gA=true)){cl:List Int}(hc:cl.length=g.n+1)
 {m:Nat}{res:Option (Int×List Int×List Int×List Int)}(w:Wk c t m (rep nm (x.cx.rw::x.cx.hd::x.tl g)) (x.iP++[(kS l 0:Int)]) (pS (bump cl 0) l) res):Wk c t (m+l.length+1) (rep nm (f.S++(kR g l++x.cx.hd::x.tl g))) (x.iP++kx l) cl res:=by
 have k1:=abg O gZ hx ht hf l 0 (bump cl 0) hl hz (by rw[lG];exact hc) w;refine iK (Cd gZ hx hl) λq1 q2=>?_;have p0:c.pairs[0]? =some false:=by rw[O.pairs];rfl
 have hz0:x.sz+j6 l+0≤40:=hz;have b1:(wM g x l).length+1≤400:=ia (mn (ia (Cc x l) (Nat.mul_le_mul_left 3 hz))) (by decide);have hp:tv []:=λy hy=>(iA hy).elim;have c0:0<cl.length:=by rw[hc];exact Nat.succ_pos _
 have nf:∀{a b:Prop},false=true→a∨b:=λh=>gU h;rw[wN]at k1⊢;rw[←nB (x.iP++kx l)]
 rcases hfl with⟨rfl,hb,he,ho⟩|⟨rfl,hb⟩
 .have hz:t≠.zz:=λe=>by rw[e]at ht;exact gU (hb.symm.trans ht)
  exact vy O q1 ht ((GU gZ hx hl t).trans ((GV ho hz).trans ((if_neg (nt hb)).trans (if_pos he)))) (top:=[]) (syms:=[]) (ds:=[]) rfl (by rw[O.rules,hb];rfl) p0 rfl q1 q2 rfl hp nf c0 (ia (nF _) b1) (GT hz0) (kg _) (by rw[gZ];exact k1)
 .exact vy O (show jG g .z=true from hb) ht (if_pos hf) (top:=[.z]) (syms:=[2097274]) (ds:=[]) rfl (by rw[O.rules,hb];rfl) p0 rfl q1 q2 rfl hp nf c0 b1 (GT hz0) (by decide) (by rw[gZ];exact k1)
end
end
section
def nz(x:Cr)(t:Tk):Bool:=match t with| .iD j=>x.cx.clos==some j|_=>false
noncomputable def Fl.hf:Fl→Nat| .half k=>iu k|_=>1
noncomputable def Fl.jl:Fl→Bool| .jC=>false|_=>true
def Fl.ok(g:ir):Fl→Prop| .bare=>True| .jC=>g.gA=true| .half k=>k<g.n∧g.kd k=2
def vz(g:ir)(x:Cr)(f:Fl)(t:Tk):Bool:=match f with
 | .half k=>(match t with| .iD j=>j==k|_=>false)
 | .jC=>nz x t
 | .bare=>(match t with| .one _=>true| .zz=>g.gA|t=>!g.gA&&nz x t)
def lH(g:ir)(x:Cr)(l:List Ri)(f:Fl)(t:Tk):Cr×List Ri×Fl:=match t with
 | .zz=>(x,l,.jC)
 | .one j=>if g.kd j=1 then(.iq j l x,[],.bare)else if g.kd j=2 then(x,l,.half j)else(x,.it j::l,.bare)
 | .iD _=>(match f with| .half k=>(x,.it k::l,.bare)|_=>(match x with| .iq k l' c=>(c,.pr k (kS l 0)::l',.bare)| .top=>(x,l,f)))
 | .fin=>(x,l,f)
def PG(f:Fl)(t:Tk)(l:List Ri)(cl:List Int):List Int:=match t with| .iD _=>(match f with| .half _=>cl|_=>pS (bump cl 0) l)|_=>cl
def vB(g:ir)(x:Cr)(l:List Ri)(f:Fl):List St:=f.S++(kR g l++x.cx.hd::x.tl g)
section
variable{g:ir}{c:Cf}{nm:St→Nat}
theorem Ac(h:nz x t=true):∃k l c,x= .iq k l c∧t= .iD k:=by
 cases t with
 |iD j=>cases x with
  |top=>exact gU h
  |iq k l c=>exact⟨k,l,c,rfl,congrArg Tk.iD (gP (eq_of_beq (show((some k:Option Nat)==some j)=true from h))).symm⟩
 |_=>exact gU h
theorem PJ(h2:g.n≤2)(hx:x.cx.ok g)(ht:iY g t=true)(hn:t≠.fin):jw t∈jr x.cx.due↔nz x t=true:=by
 refine(O4 h2 hx ht hn).trans ?_
 cases t with
 |iD j=>exact⟨λ⟨i,e,h⟩=>by cases e;exact beq_iff_eq.2 h,λh=>⟨j,rfl,eq_of_beq h⟩⟩
 |fin=>exact absurd rfl hn
 |_=>exact⟨λ⟨_,e,_⟩=>Tk.noConfusion e,λh=>gU h⟩
theorem PK(K:jP g c)(hc:c.rt=true){x:Cr}{f:Fl}{v:jv}(hd:v.due=x.cx.due)(hh:v.half=f.hf)(hb:g.gA=true→v.bare=f.jl):k8 c v=if f.hf=1 then(if g.gA=true then(if f.jl=true then[2097274]++(List.range g.n).map iI else jr x.cx.due)else jr x.cx.due++(List.range g.n).map iI)else[f.hf]:=by
 unfold k8 wy;rw[hd,hh,O1 K,K.gA,hc]
 by_cases h:f.hf=1
 .rw[if_pos h,if_pos h]
  cases GC:g.gA with
  |false=>exact(if_pos rfl).trans (if_neg jD).symm
  |true=>rw[←hb GC];exact(if_neg (by decide)).trans ((if_pos rfl).trans (if_pos rfl).symm)
 .rw[if_neg h,if_neg h]
theorem abh(K:jP g c)(hx:x.cx.ok g)(ht:iY g t=true)(hn:t≠.fin):jw t∈(if g.gA=true then[2097274]++(List.range g.n).map iI else jr x.cx.due++(List.range g.n).map iI)↔vz g x .bare t=true:=by
 cases hb:g.gA with
 |true=>
  rw[if_pos rfl,nD,O5 hn,GB ht]
  cases t with
  |one j=>exact⟨λU=>rfl,λU=>.inr ⟨j,rfl⟩⟩
  |zz=>exact⟨λU=>hb,λU=>.inl rfl⟩
  |iD j=>exact⟨λh=>h.elim (λe=>Tk.noConfusion e) λ⟨_,e⟩=>Tk.noConfusion e,λh=>gQ h λh U=>gU ((jW h).symm.trans hb)⟩
  |fin=>exact absurd rfl hn
 |false=>
  rw[if_neg jD,nD,PJ K.n2 hx ht hn,GB ht]
  cases t with
  |one j=>exact⟨λU=>rfl,λU=>.inr ⟨j,rfl⟩⟩
  |zz=>exact gU (hb.symm.trans ht)
  |iD j=>exact⟨λh=>lJ.2 ⟨bt hb,h.elim id λ⟨_,e⟩=>Tk.noConfusion e⟩,λh=>gQ h λU h=>.inl h⟩
  |fin=>exact absurd rfl hn
theorem PL(K:jP g c)(hc:c.rt=true)(hx:x.cx.ok g)(hf:f.ok g)(hd:v.due=x.cx.due)(hh:v.half=f.hf)(hb:g.gA=true→v.bare=f.jl)(ht:iY g t=true)(hn:t≠.fin):
 jw t∈k8 c v↔vz g x f t=true:=by
 rw[PK K hc hd hh hb]
 cases f with
 |half k=>rw[if_neg (show¬(Fl.half k).hf=1 from xT k)];exact O6 K.n2 hf.1 ht hn
 |jC=>rw[if_pos (show Fl.jC.hf=1 from rfl),if_pos (show g.gA=true from hf),if_neg (show¬Fl.jC.jl=true from jD)];exact PJ K.n2 hx ht hn
 |bare=>rw[if_pos (show Fl.bare.hf=1 from rfl),if_pos (show Fl.bare.jl=true from rfl)];exact abh K hx ht hn
theorem PM(K:jP g c)(hc:c.rt=true){x:Cr}(hx:x.cx.ok g){f:Fl}(hf:f.ok g){v:jv}(hd:v.due=x.cx.due)(hh:v.half=f.hf)(hb:g.gA=true→v.bare=f.jl){l:Nat}(hl:l∈k8 c v):∃t,iY g t=true∧t≠.fin∧jw t=l:=by
 rw[PK K hc hd hh hb]at hl
 by_cases GX:f.hf=1
 .rw[if_pos GX]at hl
  by_cases h:g.gA=true
  .rw[if_pos h]at hl
   by_cases h2:f.jl=true
   .rw[if_pos h2]at hl;exact(nD.1 hl).elim (Pt h) GH
   .rw[if_neg h2]at hl;exact GJ hx hl
  .rw[if_neg h]at hl;exact(nD.1 hl).elim (GJ hx) GH
 .rw[if_neg GX]at hl
  cases f with
  |half k=>exact GI hf.1 (jz hf.2) hl
  |_=>exact absurd rfl GX
theorem PN(gZ:g.rt=true)(x:Cr)(t:Tk):lF g x.cx.rw t=if nz x t then .sh (toS t)else match t with| .fin=>(match x with| .top=>.acc|_=>.no)|_=>.no:=by
 cases t with
 |one j=>refine Eq.trans ?_ (if_neg (c:=nz x (.one j)=true) jD).symm;cases x<;>exact if_pos gZ
 |zz=>refine Eq.trans ?_ (if_neg (c:=nz x .zz=true) jD).symm;cases x<;>rfl
 |fin=>refine Eq.trans ?_ (if_neg (c:=nz x .fin=true) jD).symm;cases x<;>rfl
 |iD j=>cases x with
  |top=>exact(if_neg (c:=nz .top (.iD j)=true) jD).symm
  |iq k d x=>
   show(if j=k then EA.sh (.X k)else .no)=if((some k:Option Nat)==some j)=true then _ else _
   by_cases h:j=k
   .rw[if_pos h,if_pos (by rw[h];exact beq_self_eq_true _),h];rfl
   .rw[if_neg h,if_neg λe=>h (gP (eq_of_beq e)).symm]
theorem PO{i:Ri}(h:i.ok g)(hL:g.jU=true)(t:Tk):ku g (i.top g) t=lX g t:=by
 cases i with
 |it k=>
  rcases h.2 with e|e
  .rw[GR e];unfold ku;rw[hL];exact if_neg (jz e)
  .rw[GS e];unfold ku;rw[hL]
 |pr k d=>unfold ku;rw[hL];rfl
theorem PP(hx:x.ok g)(hl:∀i∈l,i.ok g)(h:nz x t=true∨(t= .fin∧x= .top)):ku g (nX g x l) t=true∧lX g t=true:=by
 have hf:lX g t=true:=by
  rcases h with h|⟨rfl,_⟩
  .refine ym (Ac h) λk l' c abi abj=>?_;subst abi;subst abj;show(g.kd k==1)=true;rw[hx.1.2];rfl
  .rfl
 refine⟨?_,hf⟩
 cases hL:g.jU with
 |false=>unfold ku;rw[hL];exact hf
 |true=>cases l with
  |cons i l=>exact(PO (sP.1 hl).1 hL t).trans hf
  |nil=>
   unfold ku;rw[hL]
   rcases h with h|⟨rfl,rfl⟩
   .refine ym (Ac h) λk l' c abk abl=>?_;subst abk;subst abl;exact(if_pos hx.1.2).trans (beq_self_eq_true k)
   .rfl
theorem abm(gZ:g.rt=true)(hx:x.ok g)(hl:∀i∈l,i.ok g)(h:ku g (nX g x l) t=true):lX g t=true:=by
 cases hL:g.jU with
 |false=>unfold ku at h;rw[hL]at h;exact h
 |true=>cases l with
  |cons i l=>exact(PO (sP.1 hl).1 hL t).symm.trans h
  |nil=>
   unfold ku at h;rw[hL]at h
   cases x with
   |top=>cases t with
    |fin=>rfl
    |one j=>exact gU ((jW (show(!g.rt)=true from h)).symm.trans gZ)
    |_=>exact gU h
   |iq k l c=>
    have h:=(if_pos hx.1.2).symm.trans h
    cases t with
    |iD j=>show(g.kd j==1)=true;rw[eq_of_beq (show(j==k)=true from h),hx.1.2];rfl
    |one j=>exact gU ((jW (show(!g.rt)=true from h)).symm.trans gZ)
    |_=>exact gU h
end
end
section
section
variable{g:ir}{c:Cf}{nm:St→Nat}
theorem abn(x:Cr)(l:List Ri)(hz:x.sz+j6 l≤40):(kR g l++x.cx.hd::x.tl g).length≤200:=by
 rw[wN,mZ];have:=Cc (g:=g) x l;lia
theorem PR:l.length≤j6 l:=by
 induction l with
 |nil=>exact i8 _
 |cons i l ih=>
  have:1≤i.Z:=by induction i<;>simp[Ri.Z]
  simp only[mZ,j6];lia
theorem PS{C:Prop}(h:vz g x f t=true)(k1:∀k,f= .half k→t= .iD k→C)(k2:f= .bare→g.gA=true→t= .zz→C)(k3:∀j,f= .bare→t= .one j→C)(k4:(∀k,f≠.half k)→nz x t=true→C):C:=by
 induction f with
 |half k=>induction t with
  |iD j=>exact k1 k rfl (congrArg _ (eq_of_beq h))
  |_=>exact gU h
 |jC=>exact k4 (λU e=>Fl.noConfusion e) h
 |bare=>induction t with
  |one j=>exact k3 j rfl rfl
  |zz=>exact k2 rfl h rfl
  |iD j=>exact gQ h λU h=>k4 (λU e=>Fl.noConfusion e) h
  |fin=>exact gQ h λU h=>k4 (λU e=>Fl.noConfusion e) h
abbrev PT(g:ir)(c:Cf)(nm:St→Nat)(x:Cr)(l:List Ri)(f:Fl)(t:Tk)(cl:List Int):Prop:=∃m,m≤60∧∃γ,Wk c t m (rep nm (vB g x l f)) (x.iP++kx l) cl (some ((nm (toS t):Int),rep nm γ,(lH g x l f t).1.iP++kx (lH g x l f t).2.1,PG f t l cl))∧toS t::γ=vB g (lH g x l f t).1 (lH g x l f t).2.1 (lH g x l f t).2.2
section
variable{x:Cr}{l:List Ri}{f:Fl}{t:Tk}{cl:List Int}
theorem GY(hz:x.sz+j6 l≤40):1+l.length+1≤60:=by have:=PR (l:=l);lia
theorem GZ(hz:x.sz+j6 l≤40):(kR g l++x.cx.hd::x.tl g).length≤400:=ia (abn (g:=g) x l hz) (by decide)
theorem PU(hz:x.sz+j6 l≤40):(x.cx.hd::x.tl g).length≤400:=by have:=x.wG (g:=g);simp only[mZ];lia
theorem PV(hz:x.sz+j6 l≤40):(wM g x l).length≤400:=by have:=Cc (g:=g) x l;lia
theorem abo(O:jK g c nm)(gZ:g.rt=true)(hx:x.ok g)(hl:∀i∈l,i.ok g)(hf:f.ok g)(hz:x.sz+j6 l≤40)(ht:iY g t=true)(hcl:cl.length=g.n+1)(h:nz x t=true)(h1:∀k,f≠.half k)(h2:f= .bare→g.gA=false):PT g c nm x l f t cl:=by
 refine iK (PP hx hl (.inl h)) λhe hfo=>?_;have hr:=PN gZ x t;rw[if_pos h]at hr;refine ym (Ac h) λk l' c' abp abq=>?_;subst abp;subst abq;have e:c'.iP++kx (.pr k (kS l 0)::l')=(Cr.iq k l' c').iP++[(kS l 0:Int)]:=(tG ..).symm;have w:Wk c (.iD k) 1 (rep nm ((Cr.iq k l' c').cx.rw::(Cr.iq k l' c').cx.hd::(Cr.iq k l' c').tl g)) ((Cr.iq k l' c').iP++[(kS l 0:Int)]) (pS (bump cl 0) l) (some ((nm (toS (.iD k)):Int),rep nm ((Cr.iq k l' c').cx.rw::(Cr.iq k l' c').cx.hd::(Cr.iq k l' c').tl g),c'.iP++kx (.pr k (kS l 0)::l'),pS (bump cl 0) l)):=by
  rw[e];exact xR O (Cx.rK (Cr.tE hx)).2.1 ht hr (PU hz)
 have n:=λ{f} q=>GW (f:=f) O gZ hx ht hfo hl hz q hcl w
 cases f with
 |half k=>exact absurd rfl (h1 k)
 |jC=>exact⟨1+l.length+1,GY hz,(Cr.iq k l' c').cx.rw::(Cr.iq k l' c').cx.hd::(Cr.iq k l' c').tl g,n (.inr ⟨rfl,hf⟩),rfl⟩
 |bare=>exact⟨1+l.length+1,GY hz,(Cr.iq k l' c').cx.rw::(Cr.iq k l' c').cx.hd::(Cr.iq k l' c').tl g,n (.inl ⟨rfl,h2 rfl,he,λj e=>Tk.noConfusion e⟩),rfl⟩
theorem PW:(lH g x l .bare (.one j)).1.iP++kx (lH g x l .bare (.one j)).2.1=x.iP++kx l∧St.T j::(kR g l++x.cx.hd::x.tl g)=vB g (lH g x l .bare (.one j)).1 (lH g x l .bare (.one j)).2.1 (lH g x l .bare (.one j)).2.2:=by
 by_cases k1:g.kd j=1
 .rw[show lH g x l .bare (.one j)=(.iq j l x,[],.bare)from if_pos k1];exact⟨nB _,rfl⟩
 .by_cases k2:g.kd j=2
  .rw[show lH g x l .bare (.one j)=(x,l,.half j)from(if_neg k1).trans (if_pos k2)];exact⟨rfl,rfl⟩
  .rw[show lH g x l .bare (.one j)=(x,.it j::l,.bare)from(if_neg k1).trans (if_neg k2)];refine⟨congrArg (x.iP++·) (nB _),?_⟩;show _=((if g.kd j=2 then St.X j else .T j)::((if g.kd j=2 then[St.T j]else[])++kR g l))++x.cx.hd::x.tl g;rw[if_neg k2,if_neg k2];rfl
theorem PY(O:jK g c nm)(gZ:g.rt=true)(hx:x.ok g)(hl:∀i∈l,i.ok g)(hf:f.ok g)(hz:x.sz+j6 l≤40)(ht:iY g t=true)(ha:vz g x f t=true)(hcl:cl.length=g.n+1):PT g c nm x l f t cl:=by
 have q1:=(Cd gZ hx hl).1;have sh:∀{s'},rJ g (nX g x l) t= .sh s'→Wk c t 1 (rep nm (kR g l++x.cx.hd::x.tl g)) (x.iP++kx l) cl (some ((nm s':Int),rep nm (kR g l++x.cx.hd::x.tl g),x.iP++kx l,cl)):=λe=>by
  rw[wN];exact xR O q1 ht ((GU gZ hx hl t).trans e) (PV hz)
 refine PS ha (λk e1 e2=>?_) (λe1 hb e2=>?_) (λj e1 e2=>?_) λh2 h1=>abo O gZ hx hl hf hz ht hcl h1 h2 λe=>?_
 .subst e1 e2;refine⟨1,by decide,.T k::(kR g l++x.cx.hd::x.tl g),?_,?_⟩
  .rw[show(lH g x l (.half k) (.iD k)).1.iP++kx (lH g x l (.half k) (.iD k)).2.1=x.iP++kx l from congrArg (x.iP++·) (nB _)];exact xR (l:=kR g l++x.cx.hd::x.tl g) O (show jG g (.T k)=true from decide_eq_true hf.1) ht ((if_pos hf.2).trans (if_pos rfl)) (GZ hz)
  .show _=((if g.kd k=2 then St.X k else .T k)::((if g.kd k=2 then[St.T k]else[])++kR g l))++x.cx.hd::x.tl g;rw[if_pos hf.2,if_pos hf.2];rfl
 .subst e1 e2;exact⟨1,by decide,_,sh (if_pos hb),rfl⟩
 .subst e1 e2;refine⟨1,by decide,_,?_,PW.2⟩;rw[PW.1];exact sh (if_pos gZ)
 .subst e;revert ha
  cases hb:g.gA with
  |false=>exact λU=>rfl
  |true=>
   refine ym (Ac h1) λk l' c' abr abt=>?_;subst abr;subst abt;exact λh=>gQ h λh U=>by rw[hb]at h;exact gU h
end
noncomputable def rM(g:ir)(x:Cr)(f:Fl):Bool:=match x with
 | .iq _ _ _=>false
 | .top=>match f with| .half _=>false| .bare=>!g.gA| .jC=>true
theorem abu(h:(!a)=false):a=true:=by cases a;cases h;rfl
abbrev Ce(g:ir)(c:Cf)(nm:St→Nat)(x:Cr)(l:List Ri)(f:Fl)(t:Tk)(cl:List Int):Prop:=∃m,m≤60∧Wk c t m (rep nm (vB g x l f)) (x.iP++kx l) cl none
section
variable{x:Cr}{l:List Ri}{f:Fl}{t:Tk}{cl:List Int}
theorem PZ(O:jK g c nm)(gZ:g.rt=true)(hx:x.ok g)(hl:∀i∈l,i.ok g)(hz:x.sz+j6 l≤40)(ht:iY g t=true)(hcl:cl.length=g.n+1)(h1:nz x t=false)(h3:t= .fin→x≠.top)(h4:lX g t=true)(h5:(f= .bare∧g.gA=false∧ku g (nX g x l) t=true∧∀j,t≠.one j)∨(f= .jC∧g.gA=true)):Ce g c nm x l f t cl:=by
 have hr:lF g x.cx.rw t= .no:=by
  rw[PN gZ x t,if_neg (by rw[h1];exact jD)]
  cases t with
  |fin=>cases x with
   |top=>exact absurd rfl (h3 rfl)
   |iq=>rfl
  |_=>rfl
 exact⟨1+l.length+1,GY hz,GW O gZ hx ht h4 hl hz h5 hcl (sM (m:=0) O (Cx.rK (Cr.tE hx)).2.1 ht hr (PU hz))⟩
theorem P4(O:jK g c nm)(gZ:g.rt=true)(hx:x.ok g)(hl:∀i∈l,i.ok g)(hz:x.sz+j6 l≤40)(ht:iY g t=true)(e:rJ g (nX g x l) t= .no):Ce g c nm x l .bare t cl:=by
 refine⟨1,by decide,?_⟩;show Wk c t 1 (rep nm (kR g l++x.cx.hd::x.tl g)) _ _ _;rw[wN];exact sM O (Cd gZ hx hl).1 ht ((GU gZ hx hl t).trans e) (PV hz)
theorem P5(O:jK g c nm)(gZ:g.rt=true)(hx:x.ok g)(hl:∀i∈l,i.ok g)(hz:x.sz+j6 l≤40)(ht:iY g t=true)(hcl:cl.length=g.n+1)(h1:nz x t=false∨g.gA=true)(h2:∀j,t≠.one j)(h3:t≠.zz)(h4:t= .fin→x≠.top∨g.gA=true):Ce g c nm x l .bare t cl:=by
 cases hb:g.gA with
 |true=>exact P4 O gZ hx hl hz ht ((GV h2 h3).trans (if_pos hb))
 |false=>
  have nb:¬g.gA=true:=λe=>gU (hb.symm.trans e)
  cases he:ku g (nX g x l) t with
  |false=>exact P4 O gZ hx hl hz ht ((GV h2 h3).trans ((if_neg nb).trans (if_neg λe=>gU (he.symm.trans e))))
  |true=>exact PZ O gZ hx hl hz ht hcl (h1.resolve_right nb) (λe=>(h4 e).resolve_right nb) (abm gZ hx hl he) (.inl ⟨rfl,hb,he,h2⟩)
theorem abv(hk:g.kd k=2)(ha:vz g x (.half k) t=false):lF g (.T k) t= .no:=by
 refine(if_pos hk).trans ?_
 cases t with
 |iD j=>exact if_neg (ne_of_beq_false ha)
 |_=>rfl
theorem P6(O:jK g c nm)(gZ:g.rt=true)(hx:x.ok g)(hl:∀i∈l,i.ok g)(hf:f.ok g)(hz:x.sz+j6 l≤40)(ht:iY g t=true)(ha:vz g x f t=false)(hw:t= .fin→rM g x f=false)(hcl:cl.length=g.n+1):Ce g c nm x l f t cl:=by
 cases f with
 |half k=>exact⟨1,by decide,sM (l:=kR g l++x.cx.hd::x.tl g) O (show jG g (.T k)=true from decide_eq_true hf.1) ht (abv hf.2 ha) (GZ hz)⟩
 |jC=>
  cases hfo:lX g t with
  |false=>exact⟨1,by decide,sM (l:=kR g l++x.cx.hd::x.tl g) O (show jG g .z=true from hf) ht (if_neg λe=>gU (hfo.symm.trans e)) (GZ hz)⟩
  |true=>exact PZ O gZ hx hl hz ht hcl ha (λe e'=>by have:=hw e;rw[e']at this;exact gU this) hfo (.inr ⟨rfl,hf⟩)
 |bare=>cases t with
  |one j=>exact gU ha
  |zz=>exact gU ((show g.gA=false from ha).symm.trans ht)
  |iD j=>exact P5 O gZ hx hl hz ht hcl (by cases hb:g.gA with
   |true=>exact .inr rfl
   |false=>exact .inl (by have h:(!g.gA&&nz x (.iD j))=false:=ha;rw[hb]at h;exact h)) (λU e=>Tk.noConfusion e) (λe=>Tk.noConfusion e) (λe=>Tk.noConfusion e)
  |fin=>exact P5 O gZ hx hl hz ht hcl (.inl rfl) (λU e=>Tk.noConfusion e) (λe=>Tk.noConfusion e) (λe=>by
   have h:=hw e
   cases x with
   |top=>exact .inr (abu h)
   |iq=>exact .inl (λe=>Cr.noConfusion e))
end
theorem abw(O:jK g c nm)(gZ:g.rt=true)(hl:∀i∈l,i.ok g)(hf:f.ok g)(hz:j6 l≤40)(hw:rM g .top f=true)(hcl:cl.length=g.n+1):
 ∃m,m≤60∧∃iR,Wk c .fin m (rep nm (vB g .top l f)) (Cr.top.iP++kx l) cl (some (((0:Nat):Int),iR,[(kS l 0:Int)],pS (bump cl 0) l)):=by
 have b3:=PR (l:=l);obtain⟨he,hfo⟩:=PP (x:=.top) (g:=g) trivial hl (t:=.fin) (.inr ⟨rfl,rfl⟩);refine⟨1+l.length+1,by lia,_,GW O gZ (x:=.top) trivial rfl hfo hl (by simp only[Cr.sz];lia) ?_ hcl (OY O rfl rfl rfl (by simp[Cr.tl]))⟩
 induction f with
 |half k=>simp[rM]at hw
 |jC=>exact .inr ⟨rfl,hf⟩
 |bare=>exact .inl ⟨rfl,by simpa[rM]using hw,he,λj e=>by cases e⟩
end
end
section
noncomputable def Fl.pend:Fl→Nat→Nat| .half k,i=>if i=k+1 then 1 else 0|_,_=>0
section
variable{g:ir}{c:Cf}{nm:St→Nat}
structure lZ(g:ir)(nm:St→Nat)(v:jv)(tr dp cl:List Int)(n:Nat)(x:Cr)(l:List Ri)(f:Fl):Prop where
 ox:x.ok g
 ol:∀i∈l,i.ok g
 of:f.ok g
 e1:tr=rep nm (vB g x l f)
 e2:dp=x.iP++kx l
 e3:v.due=x.cx.due
 e4:v.half=f.hf
 e5:g.gA=true→v.bare=f.jl
 e6:v.calls.length=g.n+1
 e7:cl.length=g.n+1
 e8:∀i,i<g.n+1→v.calls.getD i 0=cl.getD i 0+(x.pend i:Int)+(wL l i:Int)+(f.pend i:Int)+(if i=0 then 1 else 0)
 e9:∀i,i<g.n+1→0≤v.calls.getD i 0∧v.calls.getD i 0≤(n:Int)+1
 mV:v.deep=((max x.cx.mx (x.cx.lvl+kS l 0):Nat):Int)
 mW:x.sz+j6 l≤n
 rL:n≤13
def IR(g:ir)(nm:St→Nat)(v:jv)(tr dp cl:List Int)(n:Nat):Prop:=∃x l f,lZ g nm v tr dp cl n x l f
theorem IR.vv(K:jP g c):IR g nm v tr dp cl n→wD c v:=λ⟨x,l,f,h⟩=>by
 have:=x.cx.GE;have:=x.szx;have:=GP l 0;have:=h.mW;have:=h.rL;exact Po K (Cr.tE h.ox) h.rL h.e3 h.e6 h.e9 (by rw[h.e4];induction f<;>first|exact .inl rfl|exact .inr ⟨_,rfl⟩) h.mV (by lia) (by lia)
theorem abx(K:jP g c)(O:jK g c nm)(gZ:g.rt=true):IR g nm v tr dp cl n→∀l∈c.pQ,xP c (k8 c v) tr dp cl l:=λ⟨x,l,f,h⟩=>by
 have hc:c.rt=true:=by rw[O.rt];exact gZ
 have hz:x.sz+j6 l≤40:=ia h.mW (ia h.rL (by decide));intro y hy;rw[K.lets]at hy;refine jI (GA.1 hy) λt ht hn aby=>?_;subst aby;have hp:=PL K hc (Cr.tE h.ox) h.of h.e3 h.e4 h.e5 ht hn;rw[h.e1,h.e2];refine⟨λhm=>P6 O gZ h.ox h.ol h.of hz ht (Bool.eq_false_iff.2 λq=>hm (hp.2 q)) (λe=>absurd e hn) h.e7,λhm=>?_⟩;obtain⟨m,nW,γ,w,_⟩:=PY O gZ h.ox h.ol h.of hz ht (hp.1 hm) h.e7;exact⟨m,nW,nm (toS t),_,_,_,O.pos _ (B9 hn) (B' ht hn),w⟩
theorem abz(K:jP g c)(hf:f.ok g)(e3:v.due=x.cx.due)(e4:v.half=f.hf)(e5:g.gA=true→v.bare=f.jl):sG c v=rM g x f:=by
 unfold sG;rw[e3,e4,K.gA]
 induction x with
 |iq k l x=>simp[Cr.cx,Cx.due,rM]
 |top=>
  induction f with
  |half k=>simp[Fl.hf,xT,rM]
  |bare=>cases hb:g.gA<;>simp[Fl.hf,Cr.cx,Cx.due,rM,hb,e5,Fl.jl]
  |jC=>have hb:g.gA=true:=hf;simp[Fl.hf,Cr.cx,Cx.due,rM,hb,e5,Fl.jl]
theorem abA(K:jP g c)(O:jK g c nm)(gZ:g.rt=true):IR g nm v tr dp cl n→zV c v tr dp cl:=λ⟨x,l,f,h⟩=>by
 have hw:=abz K h.of h.e3 h.e4 h.e5;have hz:x.sz+j6 l≤40:=ia h.mW (ia h.rL (by decide));rw[h.e1,h.e2];refine⟨λhm=>?_,λhm=>?_⟩
 .rw[hw]at hm
  induction x with
  |iq k l x=>simp[rM]at hm
  |top=>
   obtain⟨m,nW,iR,w⟩:=abw O gZ h.ol h.of (by simp only[Cr.sz]at hz;lia) hm h.e7;refine⟨m,nW,iR,?_⟩;have wB:v.deep=(kS l 0:Int):=by rw[h.mV];simp[Cr.cx,Cx.mx,Cx.lvl]
   have hp:∀i,f.pend i=0:=λi=>by
    induction f with
    |half k=>simp[rM]at hm
    |_=>rfl
   have hcl:v.calls=pS (bump cl 0) l:=Pv (by rw[PB,lG,h.e6,h.e7]) λi hi=>by
    rw[PC (g:=g) l i h.ol (by rw[lG];exact h.e7),Ca (by rw[h.e7];lia),h.e8 i (by rw[h.e6]at hi;exact hi),hp,show Cr.top.pend i=0 from rfl];lia
   rw[wB,hcl];exact w
 .rw[hw]at hm;exact P6 (t:=.fin) O gZ h.ox h.ol h.of hz rfl (by induction f<;>simp[vz,nz]) (λU=>hm) h.e7
end
end
section
section
variable{g:ir}{c:Cf}{nm:St→Nat}
theorem abB(hh:v.half=1):mU c.fs c.rt v 2097274={v with bare:=false}:=by
 unfold mU;rw[if_neg (by rw[hh];decide),if_pos rfl]
section
variable{v:jv}{tr dp cl:List Int}{n j:Nat}{x:Cr}{l:List Ri}{f:Fl}
abbrev Rq(g:ir)(nm:St→Nat)(v:jv)(cl:List Int)(n:Nat)(x:Cr)(l:List Ri)(f:Fl):Prop:=lZ g nm v (rep nm (vB g x l f)) (x.iP++kx l) cl n x l f
theorem lZ.up(h:lZ g nm v tr dp cl n x l f)(i:Nat)(hi:i<g.n+1):0≤v.calls.getD i 0∧v.calls.getD i 0≤((n+1:Nat):Int)+1:=⟨(h.e9 i hi).1,Int.le_trans (h.e9 i hi).2 (Int.add_le_add_right (Int.ofNat_le.2 (nF n)) 1)⟩
theorem rq1{a b w:Int}{p q u:Nat}(h:a=b+(p:Int)+(q:Int)+(u:Int)+w):a=b+(p:Int)+((q+u:Nat):Int)+((0:Nat):Int)+w:=by lia
theorem lZ.half(h:lZ g nm v tr dp cl n x l (.half j))(hn:n<13):Rq g nm {v with half:=1} cl (n+1) x (.it j::l) .bare:=
 ⟨h.ox,sP.2 ⟨⟨h.of.1,.inr h.of.2⟩,h.ol⟩,trivial,rfl,rfl,h.e3,rfl,h.e5,h.e6,h.e7,λi hi=>rq1 (h.e8 i hi),h.up,h.mV,mn h.mW,hn⟩
theorem lZ.jC(h:lZ g nm v tr dp cl n x l .bare)(hb:g.gA=true)(hn:n<13):Rq g nm {v with bare:=false} cl (n+1) x l .jC:=
 ⟨h.ox,h.ol,hb,rfl,rfl,h.e3,h.e4,λU=>rfl,h.e6,h.e7,h.e8,h.up,h.mV,Nat.le_succ_of_le h.mW,hn⟩
theorem rq2(h:a=b+((p+q+o+e:Nat):Int)+(r:Int)+((0:Nat):Int)+w)(k:d=b+(e:Int)+(r:Int)):a=d+(p:Int)+((q+o:Nat):Int)+((0:Nat):Int)+w:=by lia
theorem rq3{a b c e n:Nat}(h:a+b+1+c≤n)(k:e≤c+0):a+(b+(e+1))≤n+1:=by lia
theorem lZ.close{k:Nat}{l':List Ri}(h:lZ g nm v tr dp cl n (.iq k l' x) l f)(h1:v.half=1)(hp:∀i,f.pend i=0)(hn:n<13):Rq g nm {v with due:=x.cx.due,bare:=true} (pS (bump cl 0) l) (n+1) x (.pr k (kS l 0)::l') .bare:=
 ⟨h.ox.2.2,sP.2 ⟨h.ox.1,h.ox.2.1⟩,trivial,rfl,rfl,rfl,h1,λU=>rfl,h.e6,(PB ..).trans ((lG ..).trans h.e7),λi hi=>rq2 (hp i▸h.e8 i hi) (by rw[PC (g:=g) l i h.ol ((lG ..).trans h.e7),wJ (h.e7▸Nat.succ_pos _)]),h.up,by
  show v.deep=_;rw[h.mV,show kS (.pr k (kS l 0)::l') 0=kS l' (max (kS l 0+1) 0)from rfl,abd l',Nat.max_zero];exact congrArg Int.ofNat (Px ..),rq3 h.mW (GP l 0),hn⟩
theorem P7{a b w:Int}{p q o:Nat}(h:a=b+(p:Int)+(q:Int)+((0:Nat):Int)+w):a+(o:Int)=b+(p:Int)+(q:Int)+(o:Int)+w∧a+(o:Int)=b+(p:Int)+((q+o:Nat):Int)+((0:Nat):Int)+w:=by lia
theorem Cg(h:v.calls.length=g.n+1)(hj:j<g.n)(i:Nat):(bump v.calls (j+1)).getD i 0=v.calls.getD i 0+((if i=j+1 then 1 else 0:Nat):Int):=wJ (by rw[h];exact Nat.succ_lt_succ hj)
theorem lZ.P8(h:lZ g nm v tr dp cl n x l f)(hj:j<g.n)(i:Nat)(hi:i<g.n+1):0≤(bump v.calls (j+1)).getD i 0∧(bump v.calls (j+1)).getD i 0≤((n+1:Nat):Int)+1:=by
 rw[Cg h.e6 hj];exact Cb (h.e9 i hi) ite_le
theorem lZ.abC(h:lZ g nm v tr dp cl n x l .bare)(hj:j<g.n)(k2:g.kd j=2)(hn:n<13):Rq g nm {v with half:=iu j,calls:=bump v.calls (j+1)} cl (n+1) x l (.half j):=
 ⟨h.ox,h.ol,⟨hj,k2⟩,rfl,rfl,h.e3,rfl,h.e5,(lG ..).trans h.e6,h.e7,λi hi=>(Cg h.e6 hj i).trans (P7 (h.e8 i hi)).1,h.P8 hj,h.mV,Nat.le_succ_of_le h.mW,hn⟩
theorem lZ.abD(h:lZ g nm v tr dp cl n x l .bare)(hj:j<g.n)(k0:g.kd j=0)(h1:v.half=1)(hn:n<13):Rq g nm {v with half:=1,calls:=bump v.calls (j+1)} cl (n+1) x (.it j::l) .bare:=
 ⟨h.ox,sP.2 ⟨⟨hj,.inl k0⟩,h.ol⟩,trivial,rfl,rfl,h.e3,rfl,h.e5,(lG ..).trans h.e6,h.e7,λi hi=>(Cg h.e6 hj i).trans (P7 (h.e8 i hi)).2,h.P8 hj,h.mV,mn h.mW,hn⟩
theorem rq5{a b:Int}{p q o:Nat}{z:Prop}[Decidable z](h:a=b+(p:Int)+(q:Int)+((0:Nat):Int)+(if z then 1 else 0)):a+(o:Int)+((if z then 1 else 0:Nat):Int)=b+((p+q+o+(if z then 1 else 0):Nat):Int)+((0:Nat):Int)+((0:Nat):Int)+(if z then 1 else 0):=by split at h<;>simp only[*,if_true,if_false]<;>lia
theorem lZ.iq(h:lZ g nm v tr dp cl n x l .bare)(hj:j<g.n)(k1:g.kd j=1)(h1:v.half=1)(hn:n<13):Rq g nm {v with due:=v.due++[iu j],bare:=true,calls:=bump (bump v.calls (j+1)) 0,deep:=max v.deep ((v.due++[iu j]).length:Int)} cl (n+1) (.iq j l x) [] .bare:=
 have q:∀i,(bump (bump v.calls (j+1)) 0).getD i 0=v.calls.getD i 0+((if i=j+1 then 1 else 0:Nat):Int)+((if i=0 then 1 else 0:Nat):Int):=λi=>by
  rw[wJ (by rw[lG,h.e6];exact Nat.succ_pos _),Cg h.e6 hj]
 ⟨⟨⟨hj,k1⟩,h.ol,h.ox⟩,λU hi=>(iA hi).elim,trivial,rfl,rfl,congrArg (·++[iu j]) h.e3,h1,λU=>rfl,(lG ..).trans ((lG ..).trans h.e6),h.e7,λi hi=>(q i).trans (rq5 (h.e8 i hi)),λi hi=>by
  show 0≤(bump (bump v.calls (j+1)) 0).getD i 0∧(bump (bump v.calls (j+1)) 0).getD i 0≤_;rw[q,Int.add_assoc,←Int.natCast_add];refine Cb (h.e9 i hi) ?_
  by_cases e:i=0
  .rw[e];exact i8 1
  .rw[if_neg e];exact ite_le,by
  show max v.deep _=_;rw[h.mV,h.e3,jm,x.cx.B8];exact Py ..,mn h.mW,hn⟩
theorem lZ.next(K:jP g c)(hc:c.rt=true)(hn:n<13)(h:lZ g nm v tr dp cl n x l f)(ht:iY g t=true)(ha:vz g x f t=true):Rq g nm (mU c.fs c.rt v (jw t)) (PG f t l cl) (n+1) (lH g x l f t).1 (lH g x l f t).2.1 (lH g x l f t).2.2:=by
 refine PS ha (λk e1 e2=>?_) (λe1 hb e2=>?_) (λj e1 e2=>?_) λh2 h1=>?_
 .subst e1 e2;rw[show jw (.iD k)=iu k from rfl,Pp (show v.half=iu k from h.e4)];exact h.half hn
 .subst e1 e2;rw[show jw .zz=2097274 from rfl,abB h.e4];exact h.jC hb hn
 .subst e1 e2;have hj:j<g.n:=of_decide_eq_true ht;have e1:v.half=1:=h.e4;rw[show jw (.one j)=iI j from rfl,Pq K hj e1 h.e3]
  by_cases k1:g.kd j=1
  .rw[show lH g x l .bare (.one j)=(.iq j l x,[],.bare)from if_pos k1,show o8 j (g.kd j,iI j,if g.kd j=0 then 1 else iu j) v={v with due:=v.due++[iu j],bare:=true,calls:=bump (bump v.calls (j+1)) 0,deep:=max v.deep ((v.due++[iu j]).length:Int)}from(if_pos k1).trans (by rw[k1];rfl)];exact h.iq hj k1 e1 hn
  .by_cases k2:g.kd j=2
   .rw[show lH g x l .bare (.one j)=(x,l,.half j)from(if_neg k1).trans (if_pos k2),show o8 j (g.kd j,iI j,if g.kd j=0 then 1 else iu j) v={v with half:=iu j,calls:=bump v.calls (j+1)}from(if_neg k1).trans ((if_pos k2).trans (by rw[k2];rfl))];exact h.abC hj k2 hn
   .rw[show lH g x l .bare (.one j)=(x,.it j::l,.bare)from(if_neg k1).trans (if_neg k2),show o8 j (g.kd j,iI j,if g.kd j=0 then 1 else iu j) v={v with half:=1,calls:=bump v.calls (j+1)}from(if_neg k1).trans ((if_neg k2).trans (by rw[←e1];rfl))];exact h.abD hj (K.Pz j k1 k2) e1 hn
 .refine ym (Ac h1) λk l' c' e1 e2=>?_;subst e1 e2
  induction f with
  |half k=>exact absurd rfl (h2 k)
  |bare=>
   rw[show jw (.iD k)=iu k from rfl,GF K (show v.half=1 from h.e4) h.e3,hc];exact h.close h.e4 (λU=>rfl) hn
  |jC=>
   rw[show jw (.iD k)=iu k from rfl,GF K (show v.half=1 from h.e4) h.e3,hc];exact h.close h.e4 (λU=>rfl) hn
end
theorem abE(K:jP g c)(O:jK g c nm)(gZ:g.rt=true)(hm:iE≤12):zW c iE (IR g nm)where
 vv:=IR.vv K
 ml:=λ{v tr dp cl n}⟨x,l,f,h⟩ y hy=>by
  refine jI (PM K (O.rt.trans gZ) (Cr.tE h.ox) h.of h.e3 h.e4 h.e5 hy) λt U hn abF=>?_;subst abF;exact Ab hn
 lets:=abx K O gZ
 fin:=abA K O gZ
 step:=λ{v tr dp cl n}⟨x,l,f,h⟩ hn y hy=>by
  have hc:c.rt=true:=by rw[O.rt];exact gZ
  refine jI (PM K hc (Cr.tE h.ox) h.of h.e3 h.e4 h.e5 hy) λt ht wK abG=>?_;subst abG;have ha:=(PL K hc (Cr.tE h.ox) h.of h.e3 h.e4 h.e5 ht wK).1 hy;obtain⟨m,nW,γ,w,GM⟩:=PY O gZ h.ox h.ol h.of (ia h.mW (ia h.rL (by decide))) ht ha h.e7;rw[h.e1,h.e2];refine⟨m,nW,nm (toS t),_,_,_,⟨O.pos _ (B9 wK) (B' ht wK),O.le _⟩,w,?_⟩;rw[←sL,GM];exact⟨_,_,_,h.next K hc (Nat.lt_of_lt_of_le hn (ia hm (by decide))) ht ha⟩
theorem abH(h0:nm .e=0):IR g nm ⟨[],1,true,1::(List.range g.n).map (λU=>0),0⟩ [0] [] (0::(List.range g.n).map (λU=>0)) 0:=by
 refine⟨.top,[],.bare,trivial,λi hi=>(by cases hi),trivial,?_,rfl,rfl,rfl,λU=>rfl,by simp,by simp,λi hi=>?_,λi hi=>?_,rfl,i8 _,by lia⟩
 .simp[rep,vB,Fl.S,kR,Cr.cx,Cx.hd,Cr.tl,h0]
 .induction i with
  |zero=>simp[Cr.pend,wL,Fl.pend]
  |succ i=>simp[Cr.pend,wL,Fl.pend,oJ]
 .induction i with
  |zero=>simp
  |succ i=>simp[oJ,sQ];cases(List.range g.n)[i]? <;>simp<;>lia
end
end
section
def rl{α β:Type}(Q:α→β→Prop)(r:R α)(r':R β):Prop:=match r with
 | .ok a σ=>∃b,r'= .ok b σ∧Q a b
 | .exc x σ=>r'= .exc x σ
 | .stuck _=>True
def jL(e ρ ρ':Loc):Prop:=∀y,ρ'.get y=hG (e.get y) some (ρ.get y)
def sl(e:Loc)(r r':RS):Prop:=match r with
 | .next ρ σ=>∃ρ',r'= .next ρ' σ∧jL e ρ ρ'
 | .brk ρ σ=>∃ρ',r'= .brk ρ' σ∧jL e ρ ρ'
 | .cont ρ σ=>∃ρ',r'= .cont ρ' σ∧jL e ρ ρ'
 | .ret v σ=>r'= .ret v σ
 | .stuck _=>True
section
variable{α β γ δ:Type}{Q:α→β→Prop}{Q':γ→δ→Prop}{e:Loc}
theorem rl.refl:(r:R α)→rl Eq r r
 | .ok a σ=>⟨a,rfl,rfl⟩
 | .exc _ _=>rfl
 | .stuck _=>trivial
theorem rl.bind(h:rl Q r r')(k:∀a b σ,Q a b→rl Q' (f a σ) (f' b σ)):rl Q' (r.bind f) (r'.bind f'):=by
 induction r with
 |ok a σ=>refine gW h λb abI q=>?_;subst abI;exact k a b σ q
 |exc x σ=>cases(show r'= .exc x σ from h);exact rfl
 |stuck=>trivial
theorem rl.bi(h:rl Eq r r')(k:∀a σ,rl Q' (f a σ) (f' a σ)):rl Q' (r.bind f) (r'.bind f'):=
 h.bind λa b σ q=>by cases q;exact k a σ
theorem rl.run(h:rl Q r r')(k:∀a b σ,Q a b→sl e (f a σ) (f' b σ)):sl e (r.run f) (r'.run f'):=by
 induction r with
 |ok a σ=>refine gW h λb abJ q=>?_;subst abJ;exact k a b σ q
 |_=>trivial
theorem rl.ru(h:rl Eq r r')(k:∀a σ,sl e (f a σ) (f' a σ)):sl e (r.run f) (r'.run f'):=
 h.run λa b σ q=>by cases q;exact k a σ
theorem rl.go(k:∀x,o=some x→rl Q (f x) (f' x)):rl Q (Internal.go o w f) (Internal.go o w f'):=by
 induction o with
 |none=>trivial
 |some x=>exact k x rfl
theorem rl.gl(k:∀x,o=some x→rl Q (f x) r'):rl Q (Internal.go o w f) r':=by
 induction o with
 |none=>trivial
 |some x=>exact k x rfl
theorem rl.nM(h:rl Q r r'):rl Q r.nM r'.nM:=by
 induction r with
 |ok a σ=>refine gW h λb abK q=>?_;subst abK;exact⟨b,rfl,q⟩
 |_=>trivial
theorem jL.set(h:jL e ρ ρ')(x:Ad)(v:AV):jL e (ρ.set x v) (ρ'.set x v):=λy=>by
 rw[BT.get_set,BT.get_set,h y];split<;>rfl
theorem sl.next(h:jL e ρ ρ'):sl e (.next ρ σ) (.next ρ' σ):=⟨_,rfl,h⟩
theorem sl.then(h:sl e r r')(k:∀ρ ρ' σ,jL e ρ ρ'→sl e (f ρ σ) (f' ρ' σ)):sl e (r.then f) (r'.then f'):=by
 induction r with
 |next ρ σ=>refine gW h λρ' abL q=>?_;subst abL;exact k _ _ _ q
 |stuck w=>trivial
 |ret v σ=>cases(show r'= .ret v σ from h);exact rfl
 |brk ρ σ=>refine gW h λρ' abM q=>?_;subst abM;exact⟨_,rfl,q⟩
 |cont ρ σ=>refine gW h λρ' abN q=>?_;subst abN;exact⟨_,rfl,q⟩
end
def xV(P:jE)(fd:FD):Prop:=(∃k,iM P.m3 k=some fd)∨(∃c cd m,iM P.cls c=some cd∧iM cd.2 m=some fd)∨∃k,i3 P.nested k=some fd
structure Du where
 P:jE
 N:Nat
 c:FD→gX→List AV→gI→R AV
 c':FD→gX→List AV→gI→R AV
 s:Option (List AV)
noncomputable def Du.A(D:Du):KE:=⟨D.P,D.N,D.c⟩
noncomputable def Du.B(D:Du):KE:=⟨{D.P with xs:=D.s},D.N,D.c'⟩
structure Du.OK(D:Du):Prop where
 x:D.P.xs=none
 c:∀fd κ vs σ,xV D.P fd→rl Eq (D.c fd κ vs σ) (D.c' fd κ vs σ)
def mE(D:Du)(f:VE):Prop:=∀e ρ ρ' κ σ,jL e ρ ρ'→rl Eq (f D.A ρ κ σ) (f D.B ρ' κ σ)
def mL(D:Du)(f:VL):Prop:=∀e ρ ρ' κ σ,jL e ρ ρ'→rl Eq (f D.A ρ κ σ) (f D.B ρ' κ σ)
def mI(D:Du)(f:VI):Prop:=∀e ρ ρ' κ σ,jL e ρ ρ'→rl Eq (f D.A ρ κ σ) (f D.B ρ' κ σ)
def mT(D:Du)(f:VT):Prop:=∀e ρ ρ' κ v σ,jL e ρ ρ'→rl (jL e) (f D.A ρ κ v σ) (f D.B ρ' κ v σ)
def Ae(D:Du)(f:l8):Prop:=∀e ρ ρ' κ v σ,jL e ρ ρ'→rl (jL e) (f D.A ρ κ v σ) (f D.B ρ' κ v σ)
def mS(D:Du)(f:VS):Prop:=∀e ρ ρ' κ σ,jL e ρ ρ'→sl e (f D.A ρ κ σ) (f D.B ρ' κ σ)
section
variable{D:Du}(O:D.OK)
theorem rl.test(h:mE D f)(q:jL e ρ ρ'):rl Eq (test f D.A ρ κ σ) (test f D.B ρ' κ σ):=(h _ _ _ _ _ q).bi λU U=>rl.refl _
theorem abO(v:AV):mE D (lO v):=λU U U U U U=>rl.refl _
theorem abP(x:Ad):mE D (p8 x):=λe ρ ρ' κ σ h=>by
 show rl Eq (go (ρ.get x) 27 _) (go (ρ'.get x) 27 _);rw[h x]
 induction ρ.get x with
 |none=>trivial
 |some v=>exact rl.refl _
theorem abQ(x:Ad):mE D (p9 x):=λU U U U U U=>rl.refl _
theorem abR(h:mE D f)(x:Ad):mE D (qa f x):=λU U U U U q=>(h _ _ _ _ _ q).bi λo σ=>rl.refl (getAttr D.P o x σ)
include O in
theorem abS(o k:AV)(σ:gI):rl Eq (getItem D.P.xs o k σ) (getItem D.s o k σ):=by
 rw[O.x]
 induction o with
 |ref a=>
  refine rl.go λob U=>?_
  induction ob with
  |jH=>trivial
  |_=>exact rl.refl _
 |_=>exact rl.refl _
include O in
theorem abT(h:mE D f)(h2:mE D g):mE D (qb f g):=λU U U U U q=>(h _ _ _ _ _ q).bi λo σ=>(h2 _ _ _ _ _ q).bi λk σ=>abS O o k σ
theorem abU(h:mE D f):mE D (qc f):=λU U U U U q=>(h _ _ _ _ _ q).bi λo σ=>rl.refl _
theorem abV(h:mE D f)(h2:mE D g):mE D (qe f g):=λU U U U U q=>(h _ _ _ _ _ q).bi λo σ=>(h2 _ _ _ _ _ q).bi λk σ=>rl.refl _
theorem abW(h:mE D f)(h2:mE D g):mE D (qg f g):=λU U U U U q=>(h _ _ _ _ _ q).bi λo σ=>(h2 _ _ _ _ _ q).bi λk σ=>rl.refl _
theorem abX:mL D nK:=λU U U U U U=>rl.refl _
theorem abY(h:mE D f)(h2:mL D l):mL D (nL f l):=λU U U U U q=>(h _ _ _ _ _ q).bi λv σ=>(h2 _ _ _ _ _ q).bi λvs σ=>rl.refl _
include O in
theorem abZ(k:Nat)(h:mL D l):mE D (qh k l):=λU U U U U q=>rl.go λfd hfd=>(h _ _ _ _ _ q).bi λvs σ=>O.c fd _ _ _ (.inl ⟨k,hfd⟩)
include O in
theorem acd(k:Nat)(h:mL D l):mE D (qi k l):=λU U U U U q=>rl.go λcd hcd=>rl.go λfd hfd=>(h _ _ _ _ _ q).bi λvs σ=>(O.c fd _ _ _ (.inr (.inl ⟨k,cd,_,hcd,hfd⟩))).bi λv σ'=>rl.refl _
include O in
theorem ace(v:AV)(σ:gI):rl Eq (lenOf D.P.xs v σ) (lenOf D.s v σ):=by
 rw[O.x]
 induction v with
 |ref a=>
  refine rl.go λob U=>?_
  induction ob with
  |jH=>trivial
  |_=>exact rl.refl _
 |_=>exact rl.refl _
include O in
theorem acf(b:BI)(h:mL D l):mE D (qj b l):=λU U U U U q=>(h _ _ _ _ _ q).bi λvs σ=>by
 induction b with
 |len=>
  induction vs with
  |nil=>exact rl.refl _
  |cons v r=>
   induction r with
   |cons=>exact rl.refl _
   |nil=>
    show rl Eq (w1 D.A v σ) (w1 D.B v σ);unfold w1
    induction ph v σ with
    |none=>exact ace O v σ
    |some p=>exact rl.go λcd hcd=>rl.go λfd hfd=>(O.c fd _ _ _ (.inr (.inl ⟨_,cd,_,hcd,hfd⟩))).bi λv σ'=>rl.refl _
 |_=>exact rl.refl _
include O in
theorem acg(h:mE D f)(h2:mL D l):mE D (pj f l):=λU U U U U q=>(h _ _ _ _ _ q).bi λv σ=>rl.go λU U=>(h2 _ _ _ _ _ q).bi λvs σ=>rl.go λp U=>rl.go λfd hfd=>O.c fd _ _ _ (.inr (.inr ⟨_,hfd⟩))
theorem ach(h:sR P o m σ=some (.fn fd)):xV P fd:=by
 have bo:∀(b:Bool)(x y:Option mq),(gT x y b:Option mq)=some (.fn fd)→x=some (.fn fd)∨y=some (.fn fd):=λb x y e=>by
  cases b
  .exact .inl e
  .exact .inr e
 induction o with
 |str n=>rcases bo _ _ _ h with h|h<;>cases h
 |ref a=>
  have h:(hG .none (λo=>vQ P a o m) (σ.get a):Option mq)=some (.fn fd):=h
  induction hg:σ.get a with
  |none=>rw[hg]at h;injection h
  |some ob=>
   rw[hg]at h;have h:vQ P a ob m=some (.fn fd):=h
   induction ob with
   |list xs=>rcases bo _ _ _ h with h|h;((rcases bo _ _ _ h with h|h;(rcases bo _ _ _ h with h|h<;>cases h);cases h));cases h
   |dict xs=>rcases bo _ _ _ h with h|h<;>cases h
   |set xs=>rcases bo _ _ _ h with h|h<;>cases h
   |inst c n fs=>
    have h:(hG .none (λcd=>hG .none (λfd=>some (.fn fd)) (iM cd.2 m)) (iM P.cls c):Option mq)=some (.fn fd):=h
    induction h1:iM P.cls c with
    |none=>rw[h1]at h;injection h
    |some cd=>
     rw[h1]at h;have h:(hG .none (λfd=>some (.fn fd)) (iM cd.2 m):Option mq)=some (.fn fd):=h
     induction h2:iM cd.2 m with
     |none=>rw[h2]at h;injection h
     |some fd'=>rw[h2]at h;cases h;exact .inr (.inl ⟨c,cd,m,h1,h2⟩)
   |_=>cases h
 |_=>injection h
include O in
theorem aci(h:mE D f)(m:Nat)(h2:mL D l):mE D (ql f m l):=λU U U U U q=>(h _ _ _ _ _ q).bi λo σ=>rl.go (o:=sR D.P o m σ) λr hr=>(h2 _ _ _ _ _ q).bi λvs σ=>by
 induction r with
 |fn fd=>exact O.c fd _ _ _ (ach hr)
 |_=>exact rl.refl _
theorem acj(op:Op)(h:mE D f)(h2:mE D g):mE D (qm op f g):=λU U U U U q=>(h _ _ _ _ _ q).bi λo σ=>(h2 _ _ _ _ _ q).bi λk σ=>rl.refl _
theorem ack(h:mE D f):mE D (qn f):=λU U U U U q=>(h _ _ _ _ _ q).bi λo σ=>rl.refl _
theorem acm(h:mE D f):mE D (pk f):=λU U U U U q=>(rl.test h q).bi λo σ=>rl.refl _
theorem acn(op:Cp)(h:mE D f)(h2:mE D g):mE D (pq op f g):=λU U U U U q=>(h _ _ _ _ _ q).bi λo σ=>(h2 _ _ _ _ _ q).bi λk σ=>rl.refl _
theorem aco(h:mE D f)(h2:mE D g):mE D (oh f g):=λU U U U U q=>(h _ _ _ _ _ q).bi λx σ=>(rl.refl (ki x σ)).bi λt σ=>by
 cases t
 .exact rl.refl _
 .exact h2 _ _ _ _ _ q
theorem acp(h:mE D f)(h2:mE D g):mE D (oj f g):=λU U U U U q=>(h _ _ _ _ _ q).bi λx σ=>(rl.refl (ki x σ)).bi λt σ=>by
 cases t
 .exact h2 _ _ _ _ _ q
 .exact rl.refl _
theorem acq(h:mE D f)(h2:mE D g)(h3:mE D k):mE D (pv f g k):=λU U U U U q=>(rl.test h q).bi λt σ=>by
 cases t
 .exact h3 _ _ _ _ _ q
 .exact h2 _ _ _ _ _ q
theorem acr(h:mL D l):mE D (qo l):=λU U U U U q=>(h _ _ _ _ _ q).bi λo σ=>rl.refl _
theorem acs(h:mL D l):mE D (qp l):=λU U U U U q=>(h _ _ _ _ _ q).bi λo σ=>rl.refl _
theorem acu(h:mL D l):mE D (oM l):=λU U U U U q=>(h _ _ _ _ _ q).bi λo σ=>rl.refl _
theorem acv(h:mE D f):mE D (qq f):=λU U U U U q=>(h _ _ _ _ _ q).bi λo σ=>rl.refl _
theorem acw(h:mE D f)(h2:mE D g):mE D (pw f g):=λU U U U U q=>(h _ _ _ _ _ q).bi λo σ=>rl.go λn U=>(h2 _ _ _ _ _ q).bi λk σ=>rl.refl _
theorem acy(h:mE D f):mE D (qs f):=λU U U U U q=>(h _ _ _ _ _ q).bi λo σ=>rl.refl _
theorem P9(h:mT D t)(q:jL e ρ ρ'):rl (jL e) (rU t D.A ρ κ u v σ) (rU t D.B ρ' κ u v σ):=h _ _ _ _ _ _ q
theorem G1(h:mE D f)(ht:mT D t)(hg:mE D g)(κ:gX)(a:Ad)(e:Loc):∀(n:Nat)(it:It)(ρ ρ':Loc)(σ:gI),jL e ρ ρ'→rl Eq (kj f t g D.A κ a n it ρ σ) (kj f t g D.B κ a n it ρ' σ)
 |0,_,_,_,_,_=>trivial
 |n+1,it,ρ,ρ',σ,q=>by
  have turn:∀{r r':R Loc}(it:It),rl (jL e) r r'→rl Eq (r.bind λρ σ=>(test g D.A ρ κ σ).bind λb σ=>(gT (kj f t g D.A κ a n it ρ σ) ((f D.A ρ κ σ).bind λv σ=>match σ.get a with|some (.list xs)=>go (j8 (app xs [v])) 35 λo=>kj f t g D.A κ a n it ρ (σ.set a o)|_=>.stuck 35) b:R Unit))
   (r'.bind λρ σ=>(test g D.B ρ κ σ).bind λb σ=>(gT (kj f t g D.B κ a n it ρ σ) ((f D.B ρ κ σ).bind λv σ=>match σ.get a with|some (.list xs)=>go (j8 (app xs [v])) 35 λo=>kj f t g D.B κ a n it ρ (σ.set a o)|_=>.stuck 35) b:R Unit)):=λ{r r'} it hr=>
   hr.bind λρ ρ' σ q=>(rl.test hg q).bi λb σ=>by
    induction b with
    |false=>exact G1 h ht hg κ a e n it ρ ρ' σ q
    |true=>
     refine(h _ _ _ _ _ q).bi λv σ=>?_
     induction σ.get a with
     |none=>trivial
     |some ob=>
      induction ob with
      |list xs=>exact rl.go λo U=>G1 h ht hg κ a e n it ρ ρ' _ q
      |_=>trivial
  show rl Eq (match it.next σ with| .done=>_| .one v it=>_| .two u v it=>_| .bad=>_) (match it.next σ with| .done=>_| .one v it=>_| .two u v it=>_| .bad=>_)
  induction it.next σ with
  |done=>exact rl.refl _
  |one v it=>exact turn it (ht _ _ _ _ _ _ q)
  |two u v it=>exact turn it (P9 ht q)
  |bad=>trivial
theorem acz(h:mE D f)(ht:mT D t)(hi:mI D i)(hg:mE D g)(fr:List Ad):mE D (mf f t i g fr):=λU U U U U q=>(hi _ _ _ _ _ q).nM.bi λit σ=>rl.go λκ' U=>(G1 h ht hg κ' _ .nil D.N it .nil .nil _ λy=>by rw[BT.get_nil]).nM.bi λU U=>rl.refl _
theorem acA(k:Nat)(ta:Ad)(pn:Nat)(fr:List Ad):mE D (qt k ta pn fr):=λU U U U U U=>rl.refl _
theorem acB(x:Ad):mT D (qu x):=λU U U U U U q=>⟨_,rfl,q.set x _⟩
theorem acC(x:Ad):mT D (pz x):=λe ρ ρ' κ v σ q=>rl.go λa U=>by
 induction σ.get a with
 |none=>trivial
 |some ob=>
  induction ob with
  |cell=>exact⟨_,rfl,q⟩
  |_=>trivial
theorem acD(h:mE D f)(x:Ad):mT D (qv f x):=λU U U U U U q=>(h _ _ _ _ _ q).bi λo σ=>(rl.refl (setAttr o x _ σ)).bi λU σ=>⟨_,rfl,q⟩
theorem acE(h:mE D f)(h2:mE D g):mT D (qw f g):=λU U U U U U q=>(h _ _ _ _ _ q).bi λo σ=>(h2 _ _ _ _ _ q).bi λk σ=>(rl.refl (setItem o k _ σ)).bi λU σ=>⟨_,rfl,q⟩
theorem acF(h:Ae D l)(n:Nat):mT D (qx l n):=λU U U U U U q=>rl.go λvs U=>by
 cases ie (iC vs) n
 .trivial
 .exact h _ _ _ _ _ _ q
theorem acG:Ae D qy:=λe ρ ρ' κ vs σ q=>by
 cases vs
 .exact⟨_,rfl,q⟩
 .trivial
theorem acH(h:mT D t)(h2:Ae D l):Ae D (qz t l):=λe ρ ρ' κ vs σ q=>by
 induction vs with
 |nil=>trivial
 |cons v vs=>exact(h _ _ _ _ _ _ q).bind λρ ρ' σ q=>h2 _ _ _ _ _ _ q
theorem acI(h:mE D f):mI D (qB f):=λU U U U U q=>(h _ _ _ _ _ q).bi λo σ=>rl.refl _
theorem acJ(h:mL D l):mI D (qE l):=λU U U U U q=>(h _ _ _ _ _ q).bi λo σ=>rl.refl _
theorem acK(h:mE D f):mI D (qI f):=λU U U U U q=>(h _ _ _ _ _ q).bi λo σ=>rl.refl _
theorem acL(h:mE D f):mI D (qJ f):=λU U U U U q=>(h _ _ _ _ _ q).bi λo σ=>rl.refl _
theorem acM:mS D oN:=λU U U U U q=>sl.next q
theorem acN(h:mS D f)(h2:mS D g):mS D (oO f g):=λU U U U U q=>(h _ _ _ _ _ q).then λρ ρ' σ q=>h2 _ _ _ _ _ q
theorem acO(h:mE D f):mS D (pA f):=λU U U U U q=>(h _ _ _ _ _ q).ru λU σ=>sl.next q
theorem acP(ht:mT D t)(h:mE D f):mS D (nN t f):=λU U U U U q=>(h _ _ _ _ _ q).ru λv σ=>(ht _ _ _ _ _ _ q).run λU U σ q=>sl.next q
theorem acQ(x:Ad)(op:Op)(h:mE D f):mS D (qK x op f):=λe ρ ρ' κ σ q=>by
 show sl e (match ρ.get x with|some a=>_| .none=>_) (match ρ'.get x with|some a=>_| .none=>_);rw[q x]
 induction ρ.get x with
 |none=>trivial
 |some a=>exact(h _ _ _ _ _ q).ru λb σ=>(rl.refl (vP op a b σ)).ru λv σ=>sl.next (q.set x v)
theorem acR(ho:mE D o)(x:Ad)(op:Op)(h:mE D f):mS D (qN o x op f):=λU U U U U q=>(ho _ _ _ _ _ q).ru λo σ=>(rl.refl (getAttr D.P o x σ)).ru λa σ=>(h _ _ _ _ _ q).ru λb σ=>(rl.refl (vP op a b σ)).ru λv σ=>(rl.refl (setAttr o x v σ)).ru λU σ=>sl.next q
theorem acS(h:mE D f)(hb:mS D b)(ho:mS D o):mS D (qO f b o):=λU U U U U q=>(rl.test h q).ru λt σ=>by
 cases t
 .exact ho _ _ _ _ _ q
 .exact hb _ _ _ _ _ q
theorem sl.turn{e:Loc}{r r':RS}{k k':Loc→gI→RS}(h:sl e r r')(hk:∀ρ ρ' σ,jL e ρ ρ'→sl e (k ρ σ) (k' ρ' σ)):sl e (match(generalizing:=false) r with| .next ρ σ=>k ρ σ| .cont ρ σ=>k ρ σ| .brk ρ σ=>.next ρ σ|r=>r) (match(generalizing:=false) r' with| .next ρ σ=>k' ρ σ| .cont ρ σ=>k' ρ σ| .brk ρ σ=>.next ρ σ|r=>r):=by
 induction r with
 |next ρ σ=>refine gW h λρ' acT q=>?_;subst acT;exact hk _ _ _ q
 |cont ρ σ=>refine gW h λρ' acU q=>?_;subst acU;exact hk _ _ _ q
 |brk ρ σ=>refine gW h λρ' acV q=>?_;subst acV;exact sl.next q
 |stuck w=>trivial
 |ret v σ=>cases(show r'= .ret v σ from h);exact rfl
theorem Qa{f:VE}{b o:VS}(h:mE D f)(hb:mS D b)(ho:mS D o)(κ:gX)(e:Loc):∀(n:Nat)(ρ ρ':Loc)(σ:gI),jL e ρ ρ'→sl e (oP f b o D.A κ n ρ σ) (oP f b o D.B κ n ρ' σ)
 |0,_,_,_,_=>trivial
 |n+1,ρ,ρ',σ,q=>(rl.test h q).ru λt σ=>by
  induction t with
  |false=>exact ho _ _ _ _ _ q
  |true=>exact(hb _ _ _ _ _ q).turn λρ ρ' σ q=>Qa h hb ho κ e n ρ ρ' σ q
theorem acW(h:mE D f)(hb:mS D b)(ho:mS D o):mS D (pB f b o):=λe ρ ρ' κ σ q=>Qa h hb ho κ e D.N ρ ρ' σ q
theorem G2{t:VT}{b o:VS}(ht:mT D t)(hb:mS D b)(ho:mS D o)(κ:gX)(e:Loc):∀(n:Nat)(it:It)(ρ ρ':Loc)(σ:gI),jL e ρ ρ'→sl e (lr t b o D.A κ n it ρ σ) (lr t b o D.B κ n it ρ' σ)
 |0,_,_,_,_,_=>trivial
 |n+1,it,ρ,ρ',σ,q=>by
  show sl e (match it.next σ with| .done=>_| .one v it=>_| .two u v it=>_| .bad=>_) (match it.next σ with| .done=>_| .one v it=>_| .two u v it=>_| .bad=>_)
  induction it.next σ with
  |done=>exact ho _ _ _ _ _ q
  |one v it=>exact(ht _ _ _ _ _ _ q).run λρ ρ' σ q=>(hb _ _ _ _ _ q).turn λρ ρ' σ q=>G2 ht hb ho κ e n it ρ ρ' σ q
  |two u v it=>exact(P9 ht q).run λρ ρ' σ q=>(hb _ _ _ _ _ q).turn λρ ρ' σ q=>G2 ht hb ho κ e n it ρ ρ' σ q
  |bad=>trivial
theorem acX(ht:mT D t)(hi:mI D i)(hb:mS D b)(ho:mS D o):mS D (pC t i b o):=λe ρ ρ' κ σ q=>(hi _ _ _ _ _ q).ru λit σ=>G2 ht hb ho κ e D.N it ρ ρ' σ q
theorem acY(h:mE D f):mS D (om f):=λU U U U U q=>(h _ _ _ _ _ q).ru λv σ=>rfl
theorem acZ:mS D qP:=λU U U U U q=>⟨_,rfl,q⟩
theorem ada:mS D qS:=λU U U U U q=>⟨_,rfl,q⟩
theorem adb:mS D qU:=λU U U U U q=>⟨_,rfl,q⟩
theorem sl.sT{α:Type}{e:Loc}{r r':R α}{key idx:Bool}{f f':α→gI→RS}{g g':gI→RS}(h:rl Eq r r')(k:∀a σ,sl e (f a σ) (f' a σ))(k2:∀σ,sl e (g σ) (g' σ)):sl e (Internal.sT r key idx f g) (Internal.sT r' key idx f' g'):=by
 induction r with
 |ok a σ=>obtain⟨b,rfl,rfl⟩:=h;exact k a σ
 |stuck w=>trivial
 |exc x σ=>
  cases(show r'= .exc x σ from h)
  show sl e (gT (.stuck 44) (g σ) (catches key idx x)) (gT (.stuck 44) (g' σ) (catches key idx x))
  cases catches key idx x
  .trivial
  .exact k2 σ
theorem ade(h:mE D f)(key idx:Bool)(hg:mS D g):mS D (qW f key idx g):=λU U U U U q=>sl.sT (h _ _ _ _ _ q) (λU U=>sl.next q) λσ=>hg _ _ _ _ _ q
theorem adf(ht:mT D t)(h:mE D f)(key idx:Bool)(hg:mS D g):mS D (pD t f key idx g):=λU U U U U q=>sl.sT (h _ _ _ _ _ q) (λv σ=>(ht _ _ _ _ _ _ q).run λU U U q=>sl.next q) λσ=>hg _ _ _ _ _ q
theorem adg(ht:mT D t)(k:Nat)(ta:Ad)(pn:Nat)(fr:List Ad):mS D (qX t k ta pn fr):=λU U U κ σ q=>(rl.refl (go (lq κ fr) 36 λκ'=>px k ta pn κ' σ)).ru λv σ=>(ht _ _ _ _ _ _ q).run λU U U q=>sl.next q
theorem adh(w:Nat):mS D (oo w):=λU U U U U U=>trivial
end
end
section
theorem G3{D:Du}(O:D.OK):∀l:g7,mS D (dB l):=@g7.rec (λx=>mE D (dE x)) (λx=>mL D (dL x)) (λx=>mT D (dT x)) (λx=>Ae D (tQ x)) (λx=>mI D (dI x)) (λx=>mS D (dS x)) (λx=>mS D (dB x))
 (λv=>abO v)
 (λx=>abP x)
 (λx=>abQ x)
 (λU x e=>abR e x)
 (λU U e i=>abT O e i)
 (λU e=>abU e)
 (λU U e a=>abV e a)
 (λU U e b=>abW e b)
 (λk U as=>abZ O k as)
 (λk U as=>acd O k as)
 (λb U as=>acf O b as)
 (λU U e as=>acg O e as)
 (λU m U e as=>aci O e m as)
 (λop U U a b=>acj op a b)
 (λU a=>ack a)
 (λU a=>acm a)
 (λop U U a b=>acn op a b)
 (λU U a b=>aco a b)
 (λU U a b=>acp a b)
 (λU U U c a b=>acq c a b)
 (λU es=>acr es)
 (λU es=>acs es)
 (λU es=>acu es)
 (λU e=>acv e)
 (λU U e r=>acw e r)
 (λU r=>acy r)
 (λU U U U fr e t it c=>acz e t it c fr)
 (λk ta pn fr=>acA k ta pn fr)
 abX
 (λU U e l=>abY e l)
 (λx=>acB x)
 (λx=>acC x)
 (λU x e=>acD e x)
 (λU U e i=>acE e i)
 (λU n l=>acF l n)
 acG
 (λU U t l=>acH t l)
 (λU e=>acI e)
 (λU as=>acJ as)
 (λU e=>acK e)
 (λU e=>acL e)
 (λU e=>acO e)
 (λU U t e=>acP t e)
 (λx op U e=>acQ x op e)
 (λU x op U o e=>acR o x op e)
 (λU U U c b o=>acS c b o)
 (λU U U c b o=>acW c b o)
 (λU U U U t it b o=>acX t it b o)
 (λU e=>acY e)
 acZ
 ada
 adb
 (λU key idx U e h=>ade e key idx h)
 (λU U key idx U t e h=>adf t e key idx h)
 (λU k ta pn fr t=>adg t k ta pn fr)
 (λw=>adh w)
 acM
 (λU U s l=>acN s l)
end
section
def xW(l:List (Nat×VS))(k:Nat):VS:=List.rec (oo 0) (λp U ih=>gT ih p.2 (ie p.1 k)) l
noncomputable def oTup(x:gY)(f:(List AV)→Bool):Bool:=on x.ctorIdx 1 λe=>gY.tuple.elim (motive:=λU=>Bool) x e f
theorem adi{C:Prop}{x:gY}{f:(List AV)→Bool}(h:oTup x f=true)(k:∀xs,x= .tuple xs→f xs=true→C):C:=iV h λe U=>gY.tuple.elim (motive:=λx=>oTup x f=true→(∀xs,x= .tuple xs→f xs=true→C)→C) x e (λxs h k=>k xs rfl h) h k
noncomputable def G4(x:gY)(f:(List AV)→Bool):Bool:=on x.ctorIdx 0 λe=>gY.list.elim (motive:=λU=>Bool) x e f
theorem adj{C:Prop}{x:gY}{f:(List AV)→Bool}(h:G4 x f=true)(k:∀xs,x= .list xs→f xs=true→C):C:=iV h λe U=>gY.list.elim (motive:=λx=>G4 x f=true→(∀xs,x= .list xs→f xs=true→C)→C) x e (λxs h k=>k xs rfl h) h k
noncomputable def G5(x:gY)(f:(List (Nat×AV×AV))→Bool):Bool:=on x.ctorIdx 2 λe=>gY.dict.elim (motive:=λU=>Bool) x e f
theorem adk{C:Prop}{x:gY}{f:(List (Nat×AV×AV))→Bool}(h:G5 x f=true)(k:∀es,x= .dict es→f es=true→C):C:=iV h λe U=>gY.dict.elim (motive:=λx=>G5 x f=true→(∀es,x= .dict es→f es=true→C)→C) x e (λes h k=>k es rfl h) h k
noncomputable def G6(x:gY)(f:Nat→Nat→BT AV→Bool):Bool:=on x.ctorIdx 4 λe=>gY.inst.elim (motive:=λU=>Bool) x e f
theorem adl{C:Prop}(h:G6 x f=true)(k:∀c n fs,x= .inst c n fs→f c n fs=true→C):C:=iV h λe U=>gY.inst.elim (motive:=λx=>G6 x f=true→(∀c n fs,x= .inst c n fs→f c n fs=true→C)→C) x e (λc n fs h k=>k c n fs rfl h) h k
noncomputable def Ci(x:gY)(f:Nat→gX→Bool):Bool:=on x.ctorIdx 6 λe=>gY.fn.elim (motive:=λU=>Bool) x e f
theorem adm{C:Prop}(h:Ci x f=true)(k:∀j κ,x= .fn j κ→f j κ=true→C):C:=iV h λe U=>gY.fn.elim (motive:=λx=>Ci x f=true→(∀j κ,x= .fn j κ→f j κ=true→C)→C) x e (λj κ h k=>k j κ rfl h) h k
noncomputable def oCell(x:gY)(f:(Option AV)→Bool):Bool:=on x.ctorIdx 7 λe=>gY.cell.elim (motive:=λU=>Bool) x e f
theorem adn{C:Prop}{x:gY}{f:(Option AV)→Bool}(h:oCell x f=true)(k:∀v,x= .cell v→f v=true→C):C:=iV h λe U=>gY.cell.elim (motive:=λx=>oCell x f=true→(∀v,x= .cell v→f v=true→C)→C) x e (λv h k=>k v rfl h) h k
noncomputable def G7(x:gY)(f:Bool):Bool:=on x.ctorIdx 9 λe=>gY.jH.elim (motive:=λU=>Bool) x e f
theorem ado{C:Prop}{x:gY}{f:Bool}(h:G7 x f=true)(k:x= .jH→f=true→C):C:=iV h λe U=>gY.jH.elim (motive:=λx=>G7 x f=true→(x= .jH→f=true→C)→C) x e (λh k=>k rfl h) h k
def Qb(a b:Nat×AV×AV):Bool:=ie a.1 b.1&&(nU a.2.1 b.2.1&&nU a.2.2 b.2.2)
theorem adp(a b:Nat×AV×AV)(h:Qb a b=true):a=b:=gQ h λh1 h=>gQ h λh2 h3=>by
 obtain⟨x,y,z⟩:=a;rw[show x=_ from mH h1,show y=_ from oY h2,show z=_ from oY h3]
theorem G8{α:Type}{l r:List α}(h:ji Eq l r):l=r:=by
 induction h with
 |nil=>rfl
 |cons h _ ih=>rw[h,ih]
def oE(o:Option gY)(p:gY):Bool:=jh o λx=>gY.casesOn p (λxs=>G4 x λys=>sy nU ys xs) (λxs=>oTup x λys=>sy nU ys xs) (λes=>G5 x λfs=>sy Qb fs es) (λU=>false) (λU U U=>false) false (λk U=>Ci x λj U=>ie j k)
 (λv=>oCell x λu=>jh u λu=>jh v λv=>nU u v) (λU=>false) (G7 x true)
theorem l6{o:Option gY}{p:gY}(h:oE o p=true)(n:∀k κ,p≠.fn k κ:=by nofun):o=some p:=kG h λx e h=>by
 rw[e]
 induction p with
 |list xs=>exact adj h λys e h=>by rw[e,G8 (th (λU U=>oY) h)]
 |tuple xs=>exact adi h λys e h=>by rw[e,G8 (th (λU U=>oY) h)]
 |dict es=>exact adk h λys e h=>by rw[e,G8 (th adp h)]
 |cell v=>exact adn h λu e h=>kG h λa e1 h=>kG h λb e2 h=>by rw[e,e1,e2,oY h]
 |jH=>exact ado h λe U=>by rw[e]
 |fn k κ=>exact absurd rfl (n k κ)
 |set _=>exact gU h
 |inst _ _ _=>exact gU h
 |aux=>exact gU h
 |tab _=>exact gU h
noncomputable def Af(o:Option gY):List (Nat×AV×AV):=Option.casesOn o [] λx=>gY.casesOn x (λU=>[]) (λU=>[]) (λes=>es) (λU=>[]) (λU U U=>[]) [] (λU U=>[]) (λU=>[]) (λU=>[]) []
noncomputable def intD(v:AV):Int:=AV.casesOn v 0 (λU=>0) (λi=>i) (λU=>0) (λU=>0)
def Qc(o:Option gY):Nat:=(intD (List.casesOn (Af o) .none λe U=>e.2.2)).toNat
def Cj(o:Option gY):Option Nat:=gT .none (some (Qc o)) (oE o (.dict (ko (Qc o))))
def wO(σ:gI)(κ:gX)(x:Ad):Option Ad:=(kh κ x).bind λhc=>Option.bind (hG (motive:=λU=>Option AV) .none (λo=>gY.casesOn o (λU=>.none) (λU=>.none) (λU=>.none) (λU=>.none) (λU U U=>.none) .none (λU U=>.none) (λv=>v) (λU=>.none) .none) (σ.get hc)) refOf
def G9(w:List (Int×Int))(κ:gX)(vs:List AV)(σ:gI):R AV:=
 go (wO σ κ (.i (.o (.i (.i (.o (.o (.o .h)))))))) 9 λH=>go (wO σ κ (.o (.i (.i (.i (.o (.o (.o .h)))))))) 9 λs=>
 gT (.stuck 9) (go (Cj (σ.get H)) 9 λk=>go (i3 w k) 9 λbv=>match vs with
  |[.int b]=>gT (.stuck 9) (.ok (.int bv.2) (σ.set H (.dict (ko ((k+1:Nat):Int))))) (tK bv.1 b)
  |_=>.stuck 9) (oE (σ.get s) .jH)
def Ag(P:jE)(T:List (Nat×VS))(w:List (Int×Int))(N d:Nat):FD→gX→List AV→gI→R AV:=
 Nat.rec (motive:=λU=>FD→gX→List AV→gI→R AV) (λU U U U=>.stuck 30) (λU ih fd κ vs σ=>gT
  (go (rS (iC fd.params) vs fd.nH) 48 λvs=>match j9 fd.cells κ σ with
   |(κ,σ)=>go (nJ fd.cells κ fd.params vs .nil σ) 48 λq=>lu (xW T fd.id ⟨P,N,ih⟩ q.1 κ q.2))
  (G9 w κ vs σ) (ie fd.id 1004)) d
structure G'(P:jE)(T:List (Nat×VS)):Prop where
 v:∀fd,xV P fd→xW T fd.id=dB fd.body∨xW T fd.id=oo 0
 n:∀fd,xV P fd→ie fd.id 1004=true→fd=tj
theorem adq{e:Loc}{r r':RS}(h:sl e r r'):rl Eq (lu r) (lu r'):=by
 induction r with
 |next ρ σ=>refine gW h λρ' ads q=>?_;subst ads;exact rl.refl _
 |cont ρ σ=>refine gW h λρ' adt q=>?_;subst adt;exact rl.refl _
 |brk ρ σ=>refine gW h λρ' adu q=>?_;subst adu;exact rl.refl _
 |stuck w=>trivial
 |ret v σ=>cases(show r'= .ret v σ from h);exact rl.refl _
theorem jL.rfl'(ρ:Loc):jL .nil ρ ρ:=λy=>by
 induction ρ.get y with
 |none=>exact(BT.get_nil y).symm
 |some v=>rfl
theorem Qd{v:AV}{a:Ad}(h:refOf v=some a):v= .ref a:=by
 induction v with
 |ref b=>exact congrArg AV.ref (gP h)
 |_=>exact gV h
theorem xX{σ:gI}{κ:gX}{x H:Ad}(h:wO σ κ x=some H):∃hc,kh κ x=some hc∧σ.get hc=some (.cell (some (.ref H))):=by
 refine gW (tH.1 h) λhc e1 h=>?_;refine gW (tH.1 h) λv e2 h=>?_;refine⟨hc,e1,?_⟩;rw[←Qd h,←e2];revert e2
 induction σ.get hc with
 |none=>exact λe=>(Aq _ e.symm).elim
 |some o=>induction o with
  |cell v=>exact λU=>rfl
  |_=>exact λe=>(Aq _ e.symm).elim
theorem Ha{o:Option gY}{k:Nat}(h:Cj o=some k):o=some (.dict (ko (k:Int))):=
 (yH h).2▸l6 (yH h).1
def Draws(xs:List Int)(w:List (Int×Int)):Prop:=∀k bv,i3 w k=some bv→0<bv.1∧draw xs k bv.1=bv.2
theorem adv{P:jE}{N d:Nat}{w:List (Int×Int)}{xs:List Int}(hX:P.xs=some (xs.map .int))(hw:Draws xs w)(κ:gX)(vs:List AV)(σ:gI):rl Eq (G9 w κ vs σ) (iF P N (d+1) tj κ vs σ):=by
 refine rl.gl λH h1=>rl.gl λs h2=>?_;refine gW (xX h1) λhc a1 a2=>?_;refine gW (xX h2) λsc b1 b2=>?_
 induction h3:oE (σ.get s) .jH with
 |false=>trivial
 |true=>
  refine rl.gl λk h4=>rl.gl λbv h5=>?_;refine iK (hw k bv h5) λc1 c2=>?_
  induction vs with
  |nil=>trivial
  |cons v r=>induction r with
   |cons _ _=>induction v<;>trivial
   |nil=>induction v with
    |int b=>
     induction h6:tK bv.1 b with
     |false=>
      show rl Eq (gT (.stuck 9) _ (tK bv.1 b):R AV) _;rw[h6];trivial
     |true=>
      have e:bv.1=b:=of_decide_eq_true ((CY ..).symm.trans h6);show rl Eq (gT (.stuck 9) _ (tK bv.1 b):R AV) _;rw[h6,←e,OQ ⟨a1,a2,b1,b2,l6 h3⟩ hX (Ha h4) c1,c2];exact rl.refl _
    |_=>trivial
theorem Qe{P:jE}{T:List (Nat×VS)}{w:List (Int×Int)}{N:Nat}{xs:List Int}(hx:P.xs=none)(H:G' P T)(hw:Draws xs w):∀(d:Nat)(fd:FD)(κ:gX)(vs:List AV)(σ:gI),xV P fd→rl Eq (Ag P T w N d fd κ vs σ) (iF {P with xs:=some (xs.map .int)} N d fd κ vs σ)
 |0,_,_,_,_,_=>trivial
 |d+1,fd,κ,vs,σ,hf=>by
  have ih:=Qe (N:=N) hx H hw d;have O:(Du.mk P N (Ag P T w N d) (iF {P with xs:=some (xs.map .int)} N d) (some (xs.map .int))).OK:=⟨hx,ih⟩;show rl Eq (gT (go (rS (iC fd.params) vs fd.nH) 48 λvs=>match j9 fd.cells κ σ with
   |(κ,σ)=>go (nJ fd.cells κ fd.params vs .nil σ) 48 λq=>lu (xW T fd.id ⟨P,N,Ag P T w N d⟩ q.1 κ q.2)) (G9 w κ vs σ) (ie fd.id 1004):R AV) _
  induction hid:ie fd.id 1004 with
  |true=>rw[H.n fd hf hid];exact adv rfl hw κ vs σ
  |false=>
   refine rl.go λus U=>?_;refine rl.go (o:=nJ fd.cells (j9 fd.cells κ σ).1 fd.params us .nil (j9 fd.cells κ σ).2) λq U=>?_
   rcases H.v fd hf with e|e
   .rw[e];exact adq (G3 O fd.body .nil q.1 q.1 _ q.2 (.rfl' _))
   .rw[e];trivial
end
section
def T0:List (Nat×VS):=[(39,dB Fg),(62,dB Fh),(83,dB Fi),(118,dB Fj),(146,dB Fk),(172,dB Fm),(201,dB Fn),(209,dB Fo),(258,dB Fp),(265,dB Fq),(273,dB Fs),(280,dB Ft),(294,dB Fu),(301,dB Fv),(318,dB Fw),(333,dB Fx),(340,dB Fy),(347,dB Fz),(354,dB FA),(361,dB FB),(368,dB FC),(375,dB FE),(382,dB FF),(389,dB FG),(396,dB FH),(403,dB FI),(410,dB FJ),(417,dB FL),(424,dB FM),(438,dB FN),(445,dB FP),(452,dB FQ),(1000,dB FT),(1001,dB FU),(1002,dB FV),(1003,dB FW),(1004,dB BD)]
def Cm:{l:List (Nat×VS)//T0=l}:=⟨_,by dsimp only[T0,Fg,Fh,Fi,Fj,Fk,Fm,Fn,Fo,Fp,Fq,Fs,Ft,Fu,Fv,Fw,Fx,Fy,Fz,FA,FB,FC,FE,FF,FG,FH,FI,FJ,FL,FM,FN,FP,FQ,FT,FU,FV,FW,BD,HI,HJ,HK,HL,HM,HN,HO,HP,HQ,HR,HS,HT,HU,HV,HW,HX,HZ,H2,H3,H4,H5,H6,H7,H8,H9,Ia,Ib,Ic,Ie,Ig,Ih,Ii,Ij,Ik,Il,Im,Io,Ip,Iq,Ir,Iu,Iv,Iw,Iy,Iz,IB,IC,ID,IF,IG,IH,IJ,IK,IM,IP,IQ,IU,IV]⟩
def Ah(fd:FD):Prop:=(xW T0 fd.id=dB fd.body∨xW T0 fd.id=oo 0)∧(ie fd.id 1004=true→fd=tj)
def xY:List (Nat×FD)→Prop|[]=>True|p::l=>Ah p.2∧xY l
def Cn:List (Nat×BT AV×List (Nat×FD))→Prop|[]=>True|p::l=>xY p.2.2∧Cn l
def Ai:List FD→Prop|[]=>True|p::l=>Ah p∧Ai l
theorem xY.look:∀{l:List (Nat×FD)}{k:Nat}{fd:FD},xY l→iM l k=some fd→Ah fd
 |[],_,_,_,e=>by cases e
 |p::l,k,fd,h,e=>by
  have e:(gT (iM l k) (some p.2) (ie p.1 k):Option FD)=some _:=e
  cases hb:ie p.1 k with
  |true=>rw[hb]at e;cases e;exact h.1
  |false=>rw[hb]at e;exact h.2.look e
theorem Cn.look:∀{l:List (Nat×BT AV×List (Nat×FD))}{k:Nat}{cd:BT AV×List (Nat×FD)},Cn l→iM l k=some cd→xY cd.2
 |[],_,_,_,e=>by cases e
 |p::l,k,fd,h,e=>by
  have e:(gT (iM l k) (some p.2) (ie p.1 k):Option (BT AV×List (Nat×FD)))=some _:=e
  cases hb:ie p.1 k with
  |true=>rw[hb]at e;cases e;exact h.1
  |false=>rw[hb]at e;exact h.2.look e
theorem Ai.look:∀{l:List FD}{k:Nat}{fd:FD},Ai l→i3 l k=some fd→Ah fd
 |[],_,_,_,e=>by cases e
 |p::l,k,fd,h,e=>by
  have e:(gT (i3 l (Nat.pred k)) (some p) (ie k 0):Option FD)=some fd:=e
  cases hb:ie k 0 with
  |true=>rw[hb]at e;cases e;exact h.1
  |false=>rw[hb]at e;exact Ai.look h.2 e
theorem adw:xY PQ.m3:=⟨⟨.inl rfl,λe=>nomatch e⟩,⟨.inl rfl,λe=>nomatch e⟩,⟨.inl rfl,λe=>nomatch e⟩,⟨.inl rfl,λe=>nomatch e⟩,⟨.inl rfl,λe=>nomatch e⟩,⟨.inl rfl,λe=>nomatch e⟩,⟨.inl rfl,λe=>nomatch e⟩,⟨.inl rfl,λe=>nomatch e⟩,⟨.inr rfl,λe=>nomatch e⟩,⟨.inr rfl,λe=>nomatch e⟩,⟨.inr rfl,λe=>nomatch e⟩,⟨.inr rfl,λe=>nomatch e⟩,⟨.inr rfl,λe=>nomatch e⟩,trivial⟩
theorem adx:Cn PQ.cls:=⟨⟨⟨.inl rfl,λe=>nomatch e⟩,⟨.inl rfl,λe=>nomatch e⟩,trivial⟩,⟨⟨.inl rfl,λe=>nomatch e⟩,trivial⟩,⟨⟨.inl rfl,λe=>nomatch e⟩,⟨.inl rfl,λe=>nomatch e⟩,⟨.inl rfl,λe=>nomatch e⟩,⟨.inl rfl,λe=>nomatch e⟩,⟨.inl rfl,λe=>nomatch e⟩,⟨.inl rfl,λe=>nomatch e⟩,⟨.inl rfl,λe=>nomatch e⟩,trivial⟩,⟨⟨.inl rfl,λe=>nomatch e⟩,⟨.inl rfl,λe=>nomatch e⟩,⟨.inl rfl,λe=>nomatch e⟩,⟨.inl rfl,λe=>nomatch e⟩,⟨.inl rfl,λe=>nomatch e⟩,⟨.inl rfl,λe=>nomatch e⟩,⟨.inl rfl,λe=>nomatch e⟩,⟨.inl rfl,λe=>nomatch e⟩,⟨.inl rfl,λe=>nomatch e⟩,⟨.inl rfl,λe=>nomatch e⟩,⟨.inl rfl,λe=>nomatch e⟩,⟨.inl rfl,λe=>nomatch e⟩,⟨.inl rfl,λe=>nomatch e⟩,⟨.inl rfl,λe=>nomatch e⟩,trivial⟩,trivial⟩
theorem ady:Ai PQ.nested:=⟨⟨.inl rfl,λe=>nomatch e⟩,⟨.inl rfl,λe=>nomatch e⟩,⟨.inl rfl,λe=>nomatch e⟩,⟨.inl rfl,λe=>nomatch e⟩,⟨.inl rfl,λU=>rfl⟩,trivial⟩
theorem adz:G' PQ T0:=by
 have h:∀fd,xV PQ fd→Ah fd:=λfd h=>by
  rcases h with⟨k,e⟩|⟨c,cd,m,e1,e2⟩|⟨k,e⟩
  .exact adw.look e
  .exact(adx.look e1).look e2
  .exact ady.look e
 exact⟨λfd f=>(h fd f).1,λfd f=>(h fd f).2⟩
theorem adA:G' PQ Cm.1:=by rw[←Cm.2];exact adz
end
section
noncomputable def vC:Nat→g7→g7
 |0,_=>.nil
 |_+1,.nil=>.nil
 |n+1,.cons s l=>.cons s (vC n l)
noncomputable def rN:Nat→g7→g7
 |0,l=>l
 |_+1,.nil=>.nil
 |n+1,.cons _ l=>rN n l
theorem then_assoc(r:RS)(f g:Loc→gI→RS):(r.then f).then g=r.then λρ σ=>(f ρ σ).then g:=by induction r<;>rfl
theorem Hb:∀(n:Nat)(l:g7)(K:KE)(ρ:Loc)(κ:gX)(σ:gI),dB l K ρ κ σ=(dB (vC n l) K ρ κ σ).then λρ σ=>dB (rN n l) K ρ κ σ
 |0,l,K,ρ,κ,σ=>rfl
 |n+1,.nil,K,ρ,κ,σ=>rfl
 |n+1,.cons s l,K,ρ,κ,σ=>by
  show(dS s K ρ κ σ).then (λρ σ=>dB l K ρ κ σ)=((dS s K ρ κ σ).then λρ σ=>dB (vC n l) K ρ κ σ).then λρ σ=>dB (rN n l) K ρ κ σ;rw[then_assoc]
  congr 1;funext ρ σ;exact Hb n l K ρ κ σ
def xZ:g7:=vC 5 o5
def x4:g7:=vC 11 (rN 6 o5)
def LW:{p:VS×VS//(dB xZ,dB x4)=p}:=⟨_,by dsimp only[xZ,x4,vC,rN,o5,HI,HJ,HK,HL,HM,HN,HO,HP,HQ,HR,HS,HT,HU,HV,HW,HX,HZ,H2,H3,H4,H5,H6,H7,H8,H9,Ia,Ib,Ic,Ie,Ig,Ih,Ii,Ij,Ik,Il,Im,Io,Ip,Iq,Ir,Iu,Iv,Iw,Iy,Iz,IB,IC,ID,IF,IG,IH,IJ,IK,IM,IP,IQ,IU,IV]⟩
noncomputable def Qf(v:AV):Ad:=AV.casesOn v .h (λU=>.h) (λU=>.h) (λU=>.h) λa=>a
noncomputable def Aj(o:Option AV):Ad:=Option.casesOn o .h Qf
def oG(ρ:Loc)(x:Ad):Ad:=Aj (ρ.get x)
def rO(ρ:Loc)(x:Ad):Bool:=jh (ρ.get x) λv=>AV.casesOn v false (λU=>false) (λU=>false) (λU=>false) λU=>true
def Ak(o:Option AV)(v:AV):Bool:=jh o λu=>nU u v
noncomputable def adB(o:Option gY):List AV:=Option.casesOn o [] λx=>gY.casesOn x (λxs=>xs) (λxs=>xs) (λU=>[]) (λU=>[]) (λU U U=>[]) [] (λU U=>[]) (λU=>[]) (λU=>[]) []
noncomputable def wQ(o:Option gY):List Ad:=(adB o).map Qf
def Qg(σ:gI):List Ad→List Form→Bool:=sy λp f=>oE (σ.get p) (.tuple [.int f.1,.str f.2.1,.str f.2.2])
def Qh(σ:gI):List Ad→List (List Nat)→Bool:=sy λp f=>oE (σ.get p) (.list (f.map .str))
def BT.under(t:BT gY)(n:Nat):(Nat→Nat)→Bool:=BT.rec (motive:=λU=>(Nat→Nat)→Bool) (λU=>true) (λv U U ihl ihr f=>Option.casesOn v true (λU=>Nat.blt (f 1) n)&&(ihl (λq=>f (2*q))&&ihr (λq=>f (2*q+1)))) t
noncomputable def fnOf(o:Option gY):gX:=Option.casesOn o [] λx=>gY.casesOn x (λU=>[]) (λU=>[]) (λU=>[]) (λU=>[]) (λU U U=>[]) [] (λU κ=>κ) (λU=>[]) (λU=>[]) []
noncomputable def Hc(o:Option gY):Bool:=jh o λx=>Ci x λk U=>ie k 4
noncomputable def x5(o:Option Ad):Ad:=o.getD .h
def rowOf(M:List Ad)(σ:gI)(e:List (Nat×AV×AV))(s:Int):Option (Ad×List (Nat×AV×AV)):=(i5 e (8*l9 s)).bind λv=>(refOf v).bind λr=>(sS σ r).bind λrs=>gT none (some (r,rs)) (!(M.any (Ad.eq r)))
noncomputable def Co(o:Option AV):Option Int:=o.bind jV
def Hd(M:List Ad)(σ:gI)(e:List (Nat×AV×AV))(s:Int)(t:Nat):Option Int:=(rowOf M σ e s).bind λp=>Co (i5 p.2 (8*t+1))
def Qi(M:List Ad)(σ:gI)(e:List (Nat×AV×AV))(s:Int):Option Int:=(rowOf M σ e s).bind λp=>Co (i5 p.2 16777881)
noncomputable def allI(l:List (Nat×AV×AV)):Bool:=l.all λe=>AV.casesOn e.2.2 false (λU=>false) (λU=>true) (λU=>false) λU=>false
def Qj(M:List Ad)(σ:gI)(e:List (Nat×AV×AV))(s:Int):Bool:=jh (rowOf M σ e s) λp=>allI p.2
def goN(o:Option Int):Nat:=Option.casesOn o 0 λi=>Int.casesOn i (λn=>gT 0 n (iS n 100)) λU=>0
section
variable(g:ir)(act:Act)(iG:pP)
def Cq(k:Nat):Nat:=goN (act (gT (goN (iG 0):Int) 0 g.rt) (iI k))
def Qk(k:Nat):Nat:=goN (iG (Cq g act iG k))
def Ql(k:Nat):Nat:=goN (act (gT (Cq g act iG k:Int) (Qk g act iG k:Int) (ie (g.kd k) 1)) (iu k))
def nmF(k:Nat):Nat:=goN (iG (gT (Ql g act iG k:Int) (Cq g act iG k:Int) (ie (g.kd k) 0)))
def Cs(s:St):Nat:=St.casesOn s 0 (goN (iG 0)) (goN (act 0 2097274)) (Cq g act iG) (Ql g act iG) (Qk g act iG) (nmF g act iG)
def Al(o:Option Int)(i:Int):Bool:=jh o λj=>tK j i
def eaB(nm:St→Nat)(a:EA)(o:Option Int):Bool:=EA.casesOn a o.isNone (Al o 0) (λi=>Al o (.negSucc i)) λs=>Al o (nm s)
noncomputable def vD:List St:=[.e,.s1,.z,.T 0,.T 1,.X 0,.X 1,.R 0,.R 1,.F 0,.F 1]
noncomputable def x6:List Tk:=[.one 0,.one 1,.iD 0,.iD 1,.zz,.fin]
noncomputable def isE(s:St):Bool:=St.casesOn s true false false (λU=>false) (λU=>false) (λU=>false) λU=>false
def adC(ok:Int→Bool)(nm:St→Nat)(s:St):List Bool:=[ok (nm s),isE s||Nat.blt 0 (nm s),x6.all λt=>!(iY g t)||eaB nm (lF g s t) (act (nm s) (jw t)),Option.casesOn (vx g s) true λs'=>Al (iG (nm s)) (nm s')]
def He(ok:Int→Bool)(nm:St→Nat):Bool:=vD.all λs=>!(jG g s)||(adC g act iG ok nm s).all id
end
noncomputable def Qm(g:ir):List (List Nat):=(if g.gA then[2097274]else[])::(List.range g.n).map (mm g)
noncomputable def pairsOf(g:ir):List Bool:=false::(List.range g.n).map (λk=>decide (g.kd k=1))
noncomputable def zeros(g:ir):List Int:=(List.range g.n).map (λU=>0)
noncomputable def Qn(g:ir):Nat:=if g.gA then 2097274 else 1
noncomputable def nY:Ad:=.i (.o (.o (.i (.o (.i (.o .h))))))
def qT(ρ:Loc):Ad:=oG ρ (.i (.o (.o (.o (.o (.i (.o .h)))))))
def qV(ρ:Loc):Ad:=oG ρ (.o (.i (.i (.o (.i (.o (.o .h)))))))
def qF(ρ:Loc):Ad:=oG ρ (.o (.o (.o (.o (.i (.o (.o .h)))))))
def qR(ρ:Loc):Ad:=oG ρ (.o (.o (.i (.o (.o (.i (.o .h)))))))
def qQ(ρ:Loc):Ad:=oG ρ (.o (.i (.i (.o (.o (.i (.o .h)))))))
def qL(ρ:Loc):Ad:=oG ρ (.o (.i (.o (.i (.o (.i (.o .h)))))))
def qk(ρ:Loc):Ad:=oG ρ (.o (.i (.i (.i (.i (.o (.o .h)))))))
def qf(ρ:Loc):Ad:=oG ρ (.o (.o (.o .h)))
def Hf(ρ:Loc)(σ:gI):gX:=fnOf (σ.get (qf ρ))
def oH(ρ:Loc)(σ:gI):Option Ad:=wO σ (Hf ρ σ) (.i (.o (.i (.i (.o (.o (.o .h)))))))
def os(ρ:Loc)(σ:gI):Option Ad:=wO σ (Hf ρ σ) (.o (.i (.i (.i (.o (.o (.o .h)))))))
def qH(ρ:Loc)(σ:gI):Ad:=x5 (oH ρ σ)
def Hg(κ:gX):Option Ad:=kh κ (.i (.o (.i (.o (.i (.o (.o .h)))))))
def qD(ρ:Loc)(σ:gI):Ad:=Aj (i5 (Af (σ.get (qV ρ))) 73790494734010024745)
def qC(ρ:Loc)(σ:gI):Ad:=Aj (i5 (Af (σ.get (qV ρ))) 324533873173570223864571200799641)
def qd(i:Nat)(ρ:Loc)(σ:gI):Ad:=(wQ (σ.get (qk ρ))).getD i .h
def x7(ρ:Loc)(σ:gI):BT AV:=Option.casesOn (σ.get (qT ρ)) .nil λx=>gY.casesOn x (λU=>.nil) (λU=>.nil) (λU=>.nil) (λU=>.nil) (λU U fs=>fs) .nil (λU U=>.nil) (λU=>.nil) (λU=>.nil) .nil
def qA(ρ:Loc)(σ:gI):Ad:=Aj ((x7 ρ σ).get (.i (.o (.o (.o (.i (.o .h)))))))
def qG(ρ:Loc)(σ:gI):Ad:=Aj ((x7 ρ σ).get (.o (.i (.o (.o (.i (.o .h)))))))
def qM(ρ:Loc)(σ:gI):List Ad:=[qV ρ,qH ρ σ]
def Hi(ρ:Loc)(σ:gI):List (Nat×AV×AV):=Af (σ.get (qA ρ σ))
def Qo(ρ:Loc)(σ:gI):List (Nat×AV×AV):=Af (σ.get (qG ρ σ))
def x8(ρ:Loc)(σ:gI):Act:=Hd (qM ρ σ) σ (Hi ρ σ)
def x9(ρ:Loc)(σ:gI):pP:=Qi (qM ρ σ) σ (Qo ρ σ)
def Hj(ρ:Loc)(σ:gI):Int→Bool:=Qj (qM ρ σ) σ (Hi ρ σ)
noncomputable def adD(o:Option gY):Bool:=jh o λx=>G6 x λU U U=>true
def Qp(g:ir)(κ:gX)(ρ:Loc)(σ:gI):List Bool:=
 [rO ρ (.i (.o (.o (.o (.o (.i (.o .h))))))),rO ρ (.o (.i (.i (.o (.i (.o (.o .h))))))),rO ρ (.o (.o (.o (.o (.i (.o (.o .h))))))),rO ρ (.o (.o (.i (.o (.o (.i (.o .h))))))),rO ρ (.o (.i (.i (.o (.o (.i (.o .h))))))),rO ρ (.o (.i (.o (.i (.o (.i (.o .h))))))),rO ρ (.o (.i (.i (.i (.i (.o (.o .h))))))),rO ρ (.o (.o (.o .h))),
  Ak (ρ.get (.i (.o (.o (.i (.i (.o (.o .h)))))))) (.str (Qn g)),Ak (ρ.get (.i (.i (.o (.i (.o (.i (.o .h)))))))) (.int 0),(ρ.get nY).isNone,
  Hc (σ.get (qf ρ)),(oH ρ σ).isSome,(os ρ σ).isSome,oE (σ.get (x5 (os ρ σ))) .jH,(Cj (σ.get (qH ρ σ))).isSome,(Hg κ).isSome,oE (σ.get (x5 (Hg κ))) (.cell (some (.bool g.rt))),
  oE (σ.get (qF ρ)) (.list ((wQ (σ.get (qF ρ))).map .ref)),Qg σ (wQ (σ.get (qF ρ))) (o9 g),oE (σ.get (qR ρ)) (.list ((wQ (σ.get (qR ρ))).map .ref)),Qh σ (wQ (σ.get (qR ρ))) (Qm g),oE (σ.get (qQ ρ)) (.list ((pairsOf g).map .bool)),oE (σ.get (qL ρ)) (.list ((wH g).map .str)),
  oE (σ.get (qV ρ)) (.dict (jO (qD ρ σ) 1 true (qC ρ σ) 0)),oE (σ.get (qD ρ σ)) (.list []),oE (σ.get (qC ρ σ)) (.list ((1::zeros g).map .int)),oE (σ.get (qk ρ)) (.tuple [.ref (qd 0 ρ σ),.ref (qd 1 ρ σ),.ref (qd 2 ρ σ)]),oE (σ.get (qd 0 ρ σ)) (.list [.int 0]),oE (σ.get (qd 1 ρ σ)) (.list []),oE (σ.get (qd 2 ρ σ)) (.list ((0::zeros g).map .int)),!(Ad.eq (qV ρ) (qH ρ σ)),
  σ.t.under σ.n.num (λq=>q),adD (σ.get (qT ρ)),oE (σ.get (qA ρ σ)) (.dict (Hi ρ σ)),oE (σ.get (qG ρ σ)) (.dict (Qo ρ σ)),Ak ((x7 ρ σ).get (.i (.o (.o (.o (.i (.o .h))))))) (.ref (qA ρ σ)),Ak ((x7 ρ σ).get (.o (.i (.o (.o (.i (.o .h))))))) (.ref (qG ρ σ)),!((qM ρ σ).any (Ad.eq (qT ρ))),!((qM ρ σ).any (Ad.eq (qA ρ σ))),!((qM ρ σ).any (Ad.eq (qG ρ σ))),
  He g (x8 ρ σ) (x9 ρ σ) (Hj ρ σ) (Cs g (x8 ρ σ) (x9 ρ σ))]
def post(g:ir)(κ:gX)(ρ:Loc)(σ:gI):Bool:=(Qp g κ ρ σ).all id
def nZ:gX:=[(.i (.o (.i (.o (.i (.o (.o .h)))))),mP.n)]
def ya:gI:=mP.push (.cell .none)
def wR:Loc:=BT.nil.set (.o (.i (.i (.i (.o (.o (.o .h))))))) (.ref (.i (.o .h)))
noncomputable def cfgOf(rt gA jU:Bool)(ks:List Nat):ir:=⟨rt,gA,jU,λk=>ks.getD k 0,ks.length⟩
def bN(b:Bool):Int:=gT 0 1 b
def drawsOf(rt gA jU:Bool)(ks:List Nat):List (Int×Int):=(2,bN rt)::(2,bN gA)::(2,(ks.length:Int)- 1)::((ks.map λ(k:Nat)=>((3:Int),(k:Int)))++[(2,bN (!jU))])
def KT(w:List (Int×Int)):KE:=⟨PQ,4000,Ag PQ Cm.1 w 4000 59⟩
def Qq(ρ:Loc)(σ:gI):Option (Ad×Nat):=
 (wO σ (fnOf (σ.get (oG ρ (.o (.o (.o .h)))))) (.i (.o (.i (.i (.o (.o (.o .h)))))))).bind λH=>(Cj (σ.get H)).bind λk=>(wO σ (fnOf (σ.get (oG ρ (.o (.o (.o .h)))))) (.o (.i (.i (.i (.o (.o (.o .h)))))))).bind λs=>
  gT none (some (H,k)) (rO ρ (.o (.o (.o .h)))&&(Hc (σ.get (oG ρ (.o (.o (.o .h)))))&&(oE (σ.get s) .jH&&(ρ.get nY).isNone)))
noncomputable def Hk(r:RS)(f:Loc→gI→Bool):Bool:=RS.casesOn r f (λU U=>false) (λU U=>false) (λU U=>false) λU=>false
theorem Qr{C:Prop}(h:Hk r f=true)(k:∀ρ σ,r= .next ρ σ→f ρ σ=true→C):C:=by
 induction r with
 |next ρ σ=>exact k ρ σ rfl h
 |_=>exact gU h
def pT(rt gA jU:Bool)(ks:List Nat):Bool:=
 Hk (LW.1.1 (KT (drawsOf rt gA jU ks)) wR nZ ya) λρ σ=>jh (Qq ρ σ) λp=>Hk (LW.1.2 (KT (drawsOf rt gA jU ks)) ρ nZ (σ.set p.1 (.dict (ko ((p.2+1:Nat):Int))))) λjk σ1=>post (cfgOf rt gA jU ks) nZ jk σ1
end
section
theorem Ct(h:Ak o v=true):o=some v:=kG h λu e h=>e.trans (congrArg some (oY h))
theorem Qs(h:rO ρ x=true):ρ.get x=some (.ref (oG ρ x)):=kG h λv e h=>by
 unfold oG;rw[e]
 induction v with
 |ref a=>rfl
 |_=>exact gU h
theorem Hl(h:o.isSome=true):o=some (x5 o):=by
 induction o with
 |none=>exact gU h
 |some a=>rfl
theorem Qt(h:Hc o=true):o=some (.fn 4 (fnOf o)):=kG h λx e h=>adm h λk κ e' h=>by rw[e,e',mH h];rfl
theorem adE(h:Qg σ ps fs=true):lU σ ps fs:=by
 have k:=th (R:=λp(f:Form)=>σ.get p=some (.tuple [.int f.1,.str f.2.1,.str f.2.2])) (λU U h=>l6 h) h;clear h
 induction k with
 |nil=>trivial
 |cons h _ ih=>exact⟨h,ih⟩
theorem adF(h:Qh σ ps fs=true):oD σ ps fs:=by
 have k:=th (R:=λp(f:List Nat)=>σ.get p=some (.list (f.map .str))) (λU U h=>l6 h) h;clear h
 induction k with
 |nil=>trivial
 |cons h _ ih=>exact⟨h,ih⟩
theorem adG{n:Nat}{t:BT gY}:∀{f:Nat→Nat},t.under n f=true→∀(p:Ad)(o:gY),t.get p=some o→f p.num<n:=by
 induction t with
 |nil=>exact λU U U e=>nomatch e
 |node v l r ihl ihr=>
  intro f h p o e;refine gQ h λh1 h=>gQ h λh2 h3=>?_
  induction p with
  |h=>
   have e:v=some o:=e;rw[e]at h1;exact kT h1
  |o q=>exact ihl h2 q o e
  |i q=>exact ihr h3 q o e
theorem Cu{M:List Ad}{a:Ad}(h:(!(M.any (Ad.eq a)))=true):a∉M:=λhm=>gU ((jW h).symm.trans (List.any_eq_true.2 ⟨a,hm,Ad.eq_iff.2 rfl⟩))
theorem Cv{M:List Ad}{σ:gI}{e:List (Nat×AV×AV)}{s:Int}{p:Ad×List (Nat×AV×AV)}(h:rowOf M σ e s=some p):i5 e (8*l9 s)=some (.ref p.1)∧σ.get p.1=some (.dict p.2)∧p.1∉M:=by
 refine gW (tH.1 h) λv e1 h=>?_;refine gW (tH.1 h) λr e2 h=>?_;refine gW (tH.1 h) λrs e3 h=>?_;refine iK (yH h) λh e=>?_;rw[←e];exact⟨e1.trans (congrArg some (Qd e2)),DP e3,Cu h⟩
theorem adH:allI l=true→i5 l k=(Co (i5 l k)).map .int:=by
 induction l with
 |nil=>exact λU=>rfl
 |cons e l ih=>
  intro h;have h:((AV.casesOn (motive:=λU=>Bool) e.2.2 false (λU=>false) (λU=>true) (λU=>false) λU=>false)&&allI l)=true:=h;refine gQ h λh1 h2=>?_;show(gT (i5 l k) (some e.2.2) (ie e.1 k):Option AV)=(Co (gT (i5 l k) (some e.2.2) (ie e.1 k))).map .int
  induction ie e.1 k with
  |false=>exact ih h2
  |true=>
   revert h1;show _=true→some e.2.2=(jV e.2.2).map .int
   induction e.2.2 with
   |int i=>exact λU=>rfl
   |_=>exact λh=>nomatch h
theorem adI(h:jV v=some i):v= .int i:=by
 induction v with
 |int j=>exact congrArg AV.int (gP h)
 |_=>exact gV h
theorem adJ(h1:σ.get T=some (.inst c n fs))(m1:T∉M)(h2:fs.get (.i (.o (.o (.o (.i (.o .h))))))=some (.ref A))(h3:fs.get (.o (.i (.o (.o (.i (.o .h))))))=some (.ref G))(h4:σ.get A=some (.dict ea))(m4:A∉M)(h5:σ.get G=some (.dict eg))(m5:G∉M):
 wC M σ T (Hd M σ ea) (Qi M σ eg) (λs=>Qj M σ ea s=true):=
 ⟨c,n,fs,A,G,ea,eg,⟨h1,m1⟩,h2,h3,⟨h4,m4⟩,⟨h5,m5⟩,λs hs=>kG hs λp e h=>⟨p.1,p.2,(Cv e).1,(Cv e).2,λt=>by unfold Hd;rw[e];exact adH h⟩,λs g e=>by
  refine gW (tH.1 e) λp hp e=>?_;refine gW (tH.1 e) λv e2 e=>?_;exact⟨p.1,p.2,(Cv hp).1,(Cv hp).2,e2.trans (congrArg some (adI e))⟩⟩
section
variable{g:ir}{act:Act}{iG:pP}
theorem adK(o:Option Int):goN o≤100:=by
 induction o with
 |none=>exact kg _
 |some i=>induction i with
  |negSucc _=>exact kg _
  |ofNat n=>
   show(gT 0 n (iS n 100):Nat)≤100
   induction h:iS n 100 with
   |false=>exact kg _
   |true=>exact kT h
theorem adM(s:St):Cs g act iG s≤100:=by induction s<;>first|exact kg _|exact adK _
theorem two{P:Nat→Prop}{k n:Nat}(h:k<n)(h2:n≤2)(p0:P 0)(p1:P 1):P k:=by
 induction k with
 |zero=>exact p0
 |succ k=>induction k with
  |zero=>exact p1
  |succ k=>exact absurd (ia h h2) (by lia)
theorem adN(h2:g.n≤2)(h:jG g s=true):s∈vD:=by
 have m:∀i{s},vD[i]? =some s→s∈vD:=λi{s} e=>List.mem_of_getElem? e
 induction s with
 |e=>exact m 0 rfl
 |s1=>exact m 1 rfl
 |z=>exact m 2 rfl
 |T k=>exact two (P:=λk=>St.T k∈vD) (of_decide_eq_true h) h2 (m 3 rfl) (m 4 rfl)
 |X k=>exact gQ h λh U=>two (P:=λk=>St.X k∈vD) (of_decide_eq_true h) h2 (m 5 rfl) (m 6 rfl)
 |R k=>exact gQ h λh U=>two (P:=λk=>St.R k∈vD) (of_decide_eq_true h) h2 (m 7 rfl) (m 8 rfl)
 |F k=>exact gQ h λh U=>two (P:=λk=>St.F k∈vD) (of_decide_eq_true h) h2 (m 9 rfl) (m 10 rfl)
theorem adP(h2:g.n≤2)(h:iY g t=true):t∈x6:=by
 have m:∀i{s},x6[i]? =some s→s∈x6:=λi{s} e=>List.mem_of_getElem? e
 induction t with
 |one k=>exact two (P:=λk=>Tk.one k∈x6) (of_decide_eq_true h) h2 (m 0 rfl) (m 1 rfl)
 |iD k=>exact gQ h λh U=>two (P:=λk=>Tk.iD k∈x6) (of_decide_eq_true h) h2 (m 2 rfl) (m 3 rfl)
 |zz=>exact m 4 rfl
 |fin=>exact m 5 rfl
theorem Cw(h:Al o i=true):o=some i:=kG h λj e h=>e.trans (congrArg some (of_decide_eq_true ((CY ..).symm.trans h)))
theorem Qu(h:(!a||b)=true)(ha:a=true):b=true:=oQ h (λh=>gU ((jW h).symm.trans ha)) id
theorem Cy(h2:g.n≤2)(h:He g act iG ok nm=true)(hs:jG g s=true):
 ok (nm s)=true∧(s≠.e→0<nm s)∧(∀t,iY g t=true→act (nm s:Int) (jw t)=match lF g s t with| .no=>none| .acc=>some 0| .red i=>some (.negSucc i)| .sh s'=>some (nm s':Int))∧∀s',vx g s=some s'→iG (nm s:Int)=some (nm s':Int):=by
 have H:=rD (Qu (kf.1 h s (adN h2 hs)) hs);refine⟨H 0,λhn=>oQ (H 1) (λh=>?_) kT,λt ht=>?_,λs' e=>?_⟩
 .induction s with
  |e=>exact absurd rfl hn
  |_=>exact gU h
 .have:=Qu (kf.1 (H 2) t (adP h2 ht)) ht;revert this
  induction lF g s t with
  |no=>exact Option.isNone_iff_eq_none.1
  |acc=>exact Cw
  |red i=>exact Cw
  |sh s'=>exact Cw
 .have:=H 3;revert this;show Option.casesOn (motive:=λU=>Bool) (vx g s) _ _=true→_;rw[e];exact Cw
end
noncomputable def Hm(g:ir)(act:Act)(iG:pP)(ok:Int→Prop):Cf:=⟨o9 g,Qn g,g.rt,wH g,Qm g,pairsOf g,act,iG,ok⟩
theorem adQ(n1:1≤g.n)(n2:g.n≤2)(kd:∀k,g.kd k≤2):jP g (Hm g act iG ok):=⟨rfl,rfl,rfl,n1,n2,kd⟩
theorem fm{α:Type}{P:α→Prop}{a:α}{l:List α}(h:P a)(k:∀x∈l,P x):∀x∈a::l,P x:=sP.2 ⟨h,k⟩
theorem adR{g:ir}{act:Act}{iG:pP}{ok:Int→Prop}(n1:1≤g.n)(n2:g.n≤2)(kd:∀k,g.kd k≤2):xQ (Hm g act iG ok):=by
 have ho:∀k,iz (.str (iI k))=true:=λk=>Ab (t:=.one k) (λh=>Tk.noConfusion h);have hx:∀k,iz (.str (iu k))=true:=λk=>Ab (t:=.iD k) (λh=>Tk.noConfusion h);have hs:iz (.str 2097235)=true:=rfl;have hz:∀k,∀n∈mm g k,iz (.str n)=true:=λk=>by
  have h3:∀n∈(if g.kd k=1 then[iI k,2097235,iu k]else if g.kd k=2 then[iI k,iu k]else[iI k]),iz (.str n)=true:=by
   split
   .exact fm (ho k) (fm hs (fm (hx k) λU h=>(iA h).elim))
   .split
    .exact fm (ho k) (fm (hx k) λU h=>(iA h).elim)
    .exact fm (ho k) λU h=>(iA h).elim
  show∀n∈(if g.rt then _++[2097235]else 2097235::_),_;split
  .exact λn hn=>(nD.1 hn).elim (h3 n) (fm (P:=λn=>iz (.str n)=true) hs (λU h=>(iA h).elim) n)
  .exact fm hs h3
 refine⟨fm (P:=λr=>∀n∈r,iz (.str n)=true) (λn hn=>?_) λr hr=>?_,λl hl=>?_,λf hf=>?_,?_,?_⟩
 .revert hn;split
  .exact fm (P:=λn=>iz (.str n)=true) rfl (λU h=>(iA h).elim) n
  .exact λh=>(iA h).elim
 .refine gW (List.mem_map.1 hr) λk U adS=>?_;subst adS;exact hz k
 .refine jI (GA.1 hl) λt U hn adT=>?_;subst adT;exact Ab hn
 .refine gW (List.mem_map.1 (show f∈o9 g from hf)) λk U adU=>?_;subst adU;exact⟨ho k,sJ (ia (kd k) (by decide))⟩
 .show(o9 g).length≤50;rw[o9,ke,List.length_range];exact ia n2 (by decide)
 .show(wH g).length≤50;have h:((List.range g.n).filter λk=>decide (g.kd k≠0)).length≤2:=ia (List.length_filter_le _ _) (by rw[List.length_range];exact n2);rw[wH,jm,jm,ke,ke,List.length_range];refine ia (nE n2 (nE h (show _≤1 from ?_))) (by decide);split<;>decide
theorem adV{g:ir}(n1:1≤g.n)(n2:g.n≤2)(kd:∀k,g.kd k≤2){κ:gX}{ρ ρ':Loc}{σ:gI}{iE:Nat}{xs:List Int}(h:post g κ ρ σ=true)(Qv:jL (BT.nil.set nY (.int (iE:Int))) ρ ρ'):
 ∃(c:Cf)(p:Pc)(nm:St→Nat),jP g c∧jK g c nm∧nm .e=0∧xQ c∧sI c p xs κ (iE:Int) ρ' σ ⟨[],1,true,1::zeros g,0⟩ [0] [] (0::zeros g) 0:=by
 have H:=rD (show(Qp g κ ρ σ).all id=true from h);have up:∀{x v},ρ.get x=some v→ρ'.get x=some v:=λ{x v} e=>by rw[Qv x,e]
 have rf:∀{x},rO ρ x=true→ρ'.get x=some (.ref (oG ρ x)):=λe=>up (Qs e);refine gW (xX (Hl (H 12))) λhc a1 a2=>?_;refine gW (xX (Hl (H 13))) λsc b1 b2=>?_;refine jn (Option.isSome_iff_exists.1 (H 15)) λkk hk=>?_;have hr:=Hl (H 16);obtain⟨ci,ni,hti⟩:∃c n,σ.get (qT ρ)=some (.inst c n (x7 ρ σ)):=kG (H 33) λx e h=>adl h λc n fs e' U=>⟨c,n,by unfold x7;rw[e,e']⟩;have tb:He g (x8 ρ σ) (x9 ρ σ) (Hj ρ σ) (Cs g (x8 ρ σ) (x9 ρ σ))=true:=H 41;have hm:ρ'.get nY=some (.int (iE:Int)):=by
  rw[Qv nY,show ρ.get nY=none from Option.isNone_iff_eq_none.1 (H 10)];show(BT.nil.set nY (AV.int (iE:Int))).get nY=_;rw[BT.get_set,if_pos rfl]
 refine⟨Hm g (x8 ρ σ) (x9 ρ σ) (λs=>Hj ρ σ s=true),⟨qf ρ,qH ρ σ,Hf ρ σ,hc,sc,x5 (os ρ σ),qF ρ,wQ (σ.get (qF ρ)),qR ρ,wQ (σ.get (qR ρ)),qT ρ,qQ ρ,qL ρ,x5 (Hg κ),qV ρ⟩,Cs g (x8 ρ σ) (x9 ρ σ),adQ n1 n2 kd,
  ⟨λs t hs ht=>(Cy n2 tb hs).2.2.1 t ht,λs s' hs e=>(Cy n2 tb hs).2.2.2 s' e,λs hs=>(Cy n2 tb hs).1,λs hn hs=>(Cy n2 tb hs).2.1 hn,adM,rfl,rfl,rfl⟩,rfl,adR n1 n2 kd,?_⟩
 refine⟨λp o e=>adG (H 32) p o e,⟨⟨⟨a1,a2,b1,b2,l6 (H 14)⟩,Qt (H 11)⟩,⟨l6 (H 18),adE (H 19)⟩,⟨l6 (H 20),adF (H 21)⟩,adJ hti (Cu (H 38)) (Ct (H 36)) (Ct (H 37)) (l6 (H 34)) (Cu (H 39)) (l6 (H 35)) (Cu (H 40)),l6 (H 22),l6 (H 23),l6 (H 17)⟩,
  ⟨qD ρ σ,qC ρ σ,l6 (H 24),l6 (H 25),l6 (H 26)⟩,⟨kk,Ha hk⟩,λe=>?_,qk ρ,⟨rf (H 7),rf (H 2),up (Ct (H 8)),hm,rf (H 3),rf (H 4),rf (H 5),rf (H 0),rf (H 1),rf (H 6),up (Ct (H 9)),hr⟩,⟨qd 0 ρ σ,qd 1 ρ σ,qd 2 ρ σ,l6 (H 27),l6 (H 28),l6 (H 29),l6 (H 30)⟩⟩
 exact gU ((jW (H 31)).symm.trans (Ad.eq_iff.2 e))
end
section
def PX(xs:List Int):jE:={PQ with xs:=some (xs.map .int)}
theorem Hn(xs:List Int):PH (PX xs):=⟨rfl,rfl,rfl,rfl,rfl⟩
theorem adW(h:Qq ρ σ=some p):∃f zS hc sc s,ρ.get (.o (.o (.o .h)))=some (.ref f)∧σ.get f=some (.fn 4 zS)∧NumC σ p.1 zS hc sc s∧σ.get p.1=some (.dict (ko (p.2:Int)))∧ρ.get nY=none:=by
 refine gW (tH.1 h) λH e1 h=>?_;refine gW (tH.1 h) λk e2 h=>?_;refine gW (tH.1 h) λs e3 h=>?_;refine iK (yH h) λh e=>?_;refine gW (xX e1) λhc a1 a2=>?_;refine gW (xX e3) λsc b1 b2=>?_;rw[←e];exact gQ h λh1 h=>gQ h λh2 h=>gQ h λh3 h4=>⟨_,_,hc,sc,s,Qs h1,Qt h2,⟨a1,a2,b1,b2,l6 h3⟩,Ha e2,Option.isNone_iff_eq_none.1 h4⟩
theorem Qw(hb:0<b):0≤draw xs k b∧draw xs k b<b:=by
 unfold draw;split
 .exact⟨Int.emod_nonneg _ (Int.ne_of_gt hb),Int.emod_lt_of_pos _ hb⟩
 .exact⟨Int.le_refl _,hb⟩
theorem jL.up(h:jL e ρ ρ')(g:ρ.get x=some v):ρ'.get x=some v:=by rw[h x,g]
def Qx:IS:=.assign (.loc nY) (.bin .sub (.const (.int 12)) (.rT (.loc (.o (.o (.o .h)))) (.cons (.const (.int 13)) .nil)))
theorem adX:rN 5 o5= .cons Qx (rN 6 o5):=rfl
theorem adY:rN 11 (rN 6 o5)= .cons (.while (.const (.bool true)) lW .nil) .nil:=rfl
theorem adZ(P:jE)(N d:Nat):iF P N (d+1) wm [] [.ref (.i (.o .h))] mP=lu (dB o5 ⟨P,N,iF P N d⟩ wR nZ ya):=rfl
theorem Qy(n1:1≤ks.length)(n2:ks.length≤2)(kd:∀k,ks.getD k 0≤2)(hw:Draws xs (drawsOf rt gA jU ks))(h:pT rt gA jU ks=true):
 ∃σ',iF (PX xs) 4000 60 wm [] [.ref (.i (.o .h))] mP= .ok (.bool true) σ':=by
 have O:(Du.mk PQ 4000 (Ag PQ Cm.1 (drawsOf rt gA jU ks) 4000 59) (iF (PX xs) 4000 59) (some (xs.map .int))).OK:=⟨rfl,Qe rfl adA hw 59⟩;have eA:LW.1.1=dB xZ:=congrArg Prod.fst LW.2.symm;have eM:LW.1.2=dB x4:=congrArg Prod.snd LW.2.symm;unfold pT at h;rw[eA,eM]at h;refine Qr h λρ σ e1 h=>kG h λp e2 h=>Qr h λjk σ1 e3 h=>?_;obtain⟨f,zS,hc,sc,s,h1,h2,h3,h4,h5⟩:=adW e2;have k1:sl .nil (dB xZ (KT (drawsOf rt gA jU ks)) wR nZ ya) (dB xZ ⟨PX xs,4000,iF (PX xs) 4000 59⟩ wR nZ ya):=G3 O xZ .nil wR wR nZ ya (.rfl' _);rw[e1]at k1;refine gW k1 λAm r1 o1=>?_;obtain⟨iE,hm,Cz⟩:∃m:Nat,12- draw xs p.2 13=(m:Int)∧m≤12:=by
  refine iK (Qw (xs:=xs) (k:=p.2) (b:=13) (by decide)) λd1 d2=>?_;exact⟨(12- draw xs p.2 13).toNat,by lia,by lia⟩
 have hcall:=OS (N:=4000) (d:=58) (Hn xs).number h3 rfl h4 (b:=13) (by decide);have r2:dS Qx ⟨PX xs,4000,iF (PX xs) 4000 59⟩ Am nZ σ= .next (Am.set nY (.int (iE:Int))) (σ.set p.1 (.dict (ko ((p.2+1:Nat):Int)))):=
  lT (kX rfl (Oc (gR (o1.up h1)) (OT h2) (iO rfl jd) hcall) ((F1 _ _).trans (by rw[hm])))
 have o2:jL (BT.nil.set nY (.int (iE:Int))) ρ (Am.set nY (.int (iE:Int))):=λy=>by
  rw[BT.get_set,BT.get_set]
  by_cases hy:y=nY
  .rw[if_pos hy,if_pos hy,hy,h5]
  .rw[if_neg hy,if_neg hy];exact o1 y
 have k2:sl _ (dB x4 (KT (drawsOf rt gA jU ks)) ρ nZ (σ.set p.1 (.dict (ko ((p.2+1:Nat):Int))))) (dB x4 ⟨PX xs,4000,iF (PX xs) 4000 59⟩ (Am.set nY (.int (iE:Int))) nZ (σ.set p.1 (.dict (ko ((p.2+1:Nat):Int))))):=G3 O x4 _ ρ _ nZ _ o2;rw[e3]at k2;refine gW k2 λkl r3 o3=>?_;refine QT (adV (g:=cfgOf rt gA jU ks) (xs:=xs) n1 n2 kd h o3) λc pc nm K T h0 mC A=>?_;have fin:∃σ',oP (dE (.const (.bool true))) (dB lW) (dB .nil) (KL (PX xs) 4000 57) nZ 4000 kl σ1= .ret (.bool true) σ':=by
  have hN:(500:Nat)<4000:=by decide
  have hl:=ia Cz (by decide:12≤100);have hf:=n6 (Nat.sub_le iE 0) (n6 Cz (by decide:12<4000))
  induction hr:(cfgOf rt gA jU ks).rt with
  |false=>exact Gx (d0:=57) hN (Hn xs) rfl mC (aba K T hr Cz) hl 4000 (abc T h0) (kg _) hf A
  |true=>exact Gx (d0:=57) hN (Hn xs) rfl mC (abE K T hr Cz) hl 4000 (abH h0) (kg _) hf A
 refine jn fin λσ' r4=>?_;refine⟨σ',?_⟩;rw[adZ (PX xs) 4000 59,Hb 5 o5,show dB (vC 5 o5) ⟨PX xs,4000,iF (PX xs) 4000 59⟩ wR nZ ya= .next Am σ from r1,FY,adX,FZ,r2,FY,Hb 11 (rN 6 o5),
  show dB (vC 11 (rN 6 o5)) ⟨PX xs,4000,iF (PX xs) 4000 59⟩ _ nZ _= .next kl σ1 from r3,FY,adY]
 exact congrArg lu (kc ((Zm (K:=KL (PX xs) 4000 57) (κ:=nZ) (σ:=σ1) (ρ:=kl) _ _ _).trans r4))
def Dr(xs:List Int):List (Int×Int)→Nat→Prop
 |[],_=>True
 |p::l,i=>(0<p.1∧draw xs i p.1=p.2)∧Dr xs l (i+1)
theorem Dr.at:∀{w:List (Int×Int)}{i k:Nat}{bv:Int×Int},Dr xs w i→i3 w k=some bv→0<bv.1∧draw xs (i+k) bv.1=bv.2
 |[],_,_,_,_,e=>by exact gV e
 |p::l,i,k,bv,h,e=>by
  have e:(gT (i3 l (Nat.pred k)) (some p) (ie k 0):Option (Int×Int))=some bv:=e
  induction k with
  |zero=>obtain rfl:=gP e;exact h.1
  |succ k=>have:=Dr.at h.2 (k:=k) e;rwa [show i+(k+1)=i+1+k by lia]
theorem Dr.ok(h:Dr xs w 0):Draws xs w:=λk bv e=>by have:=h.at e;rwa [Nat.zero_add]at this
noncomputable def mX:List (List Nat):=[[0],[1],[2],[0,0],[0,1],[0,2],[1,0],[1,1],[1,2],[2,0],[2,1],[2,2]]
theorem An{P:Nat→Prop}{k:Nat}(h:k≤2)(p0:P 0)(p1:P 1)(p2:P 2):P k:=by
 induction k with
 |zero=>exact p0
 |succ k=>exact two (P:=λk=>P (k+1)) (Nat.succ_le_of_lt (Nat.lt_of_succ_le h)) (i8 2) p1 p2
theorem aea(H:∀rt gA jU,∀ks∈mX,pT rt gA jU ks=true)(xs:List Int):∃σ',iF (PX xs) 4000 60 wm [] [.ref (.i (.o .h))] mP= .ok (.bool true) σ':=by
 have z2:(0:Int)<2:=by decide
 have z3:(0:Int)<3:=by decide
 have three:∀k{b:Nat},(0:Int)<b→∃j:Nat,j<b∧draw xs k b=(j:Int):=λk b hb=>by
  refine iK (Qw (xs:=xs) (k:=k) hb) λh1 h2=>?_;have e:=Int.toNat_of_nonneg h1;exact⟨(draw xs k b).toNat,Int.ofNat_lt.1 (e.symm▸h2),e.symm⟩
 have two':∀k,∃b:Bool,draw xs k 2=bN b:=λk=>by
  refine gW (three k (b:=2) z2) λj h e=>?_;exact two (P:=λj=>draw xs k 2=(j:Int)→∃b:Bool,draw xs k 2=bN b) h (i8 2) (λe=>⟨false,e⟩) (λe=>⟨true,e⟩) e
 have m:∀i{s},mX[i]? =some s→s∈mX:=λi{s} e=>List.mem_of_getElem? e
 refine jn (two' 0) λrt e0=>?_;refine jn (two' 1) λgA e1=>?_;refine jn (two' 2) λn e2=>?_;refine gW (three 3 (b:=3) z3) λj hj e3=>?_;have hj:=Nat.le_of_lt_succ hj
 induction n with
 |false=>
  refine jn (two' 4) λb e4=>?_;exact Qy (rt:=rt) (gA:=gA) (jU:=!b) (ks:=[j]) (i8 1) (nF 1) (λk=>Nat.casesOn k hj λU=>kg 2) (Dr.ok ⟨⟨z2,e0⟩,⟨z2,e1⟩,⟨z2,e2⟩,⟨z3,e3⟩,⟨z2,by rw[Bool.not_not];exact e4⟩,trivial⟩) (H _ _ _ _ (An (P:=λj=>[j]∈mX) hj (m 0 rfl) (m 1 rfl) (m 2 rfl)))
 |true=>
  refine gW (three 4 (b:=3) z3) λi hi e4=>?_;have hi:=Nat.le_of_lt_succ hi;refine jn (two' 5) λb e5=>?_;exact Qy (rt:=rt) (gA:=gA) (jU:=!b) (ks:=[j,i]) (nF 1) (i8 2) (λk=>Nat.casesOn k hj λk=>Nat.casesOn k hi λU=>kg 2) (Dr.ok ⟨⟨z2,e0⟩,⟨z2,e1⟩,⟨z2,e2⟩,⟨z3,e3⟩,⟨z3,e4⟩,⟨z2,by rw[Bool.not_not];exact e5⟩,trivial⟩)
   (H _ _ _ _ (An (P:=λj=>[j,i]∈mX) hj (An (P:=λi=>[0,i]∈mX) hi (m 3 rfl) (m 4 rfl) (m 5 rfl)) (An (P:=λi=>[1,i]∈mX) hi (m 6 rfl) (m 7 rfl) (m 8 rfl)) (An (P:=λi=>[2,i]∈mX) hi (m 9 rfl) (m 10 rfl) (m 11 rfl))))
end
theorem r0:∀ks∈mX,pT false false false ks=true:=(fm (by decide+kernel) (fm (by decide+kernel) (fm (by decide+kernel) (fm (by decide+kernel) (fm (by decide+kernel) (fm (by decide+kernel) (fm (by decide+kernel) (fm (by decide+kernel) (fm (by decide+kernel) (fm (by decide+kernel) (fm (by decide+kernel) (fm (by decide+kernel) (λ_ h=>nomatch h)))))))))))))
theorem r1:∀ks∈mX,pT false false true ks=true:=(fm (by decide+kernel) (fm (by decide+kernel) (fm (by decide+kernel) (fm (by decide+kernel) (fm (by decide+kernel) (fm (by decide+kernel) (fm (by decide+kernel) (fm (by decide+kernel) (fm (by decide+kernel) (fm (by decide+kernel) (fm (by decide+kernel) (fm (by decide+kernel) (λ_ h=>nomatch h)))))))))))))
theorem r2:∀ks∈mX,pT false true false ks=true:=(fm (by decide+kernel) (fm (by decide+kernel) (fm (by decide+kernel) (fm (by decide+kernel) (fm (by decide+kernel) (fm (by decide+kernel) (fm (by decide+kernel) (fm (by decide+kernel) (fm (by decide+kernel) (fm (by decide+kernel) (fm (by decide+kernel) (fm (by decide+kernel) (λ_ h=>nomatch h)))))))))))))
theorem r3:∀ks∈mX,pT false true true ks=true:=(fm (by decide+kernel) (fm (by decide+kernel) (fm (by decide+kernel) (fm (by decide+kernel) (fm (by decide+kernel) (fm (by decide+kernel) (fm (by decide+kernel) (fm (by decide+kernel) (fm (by decide+kernel) (fm (by decide+kernel) (fm (by decide+kernel) (fm (by decide+kernel) (λ_ h=>nomatch h)))))))))))))
theorem r4:∀ks∈mX,pT true false false ks=true:=(fm (by decide+kernel) (fm (by decide+kernel) (fm (by decide+kernel) (fm (by decide+kernel) (fm (by decide+kernel) (fm (by decide+kernel) (fm (by decide+kernel) (fm (by decide+kernel) (fm (by decide+kernel) (fm (by decide+kernel) (fm (by decide+kernel) (fm (by decide+kernel) (λ_ h=>nomatch h)))))))))))))
theorem r5:∀ks∈mX,pT true false true ks=true:=(fm (by decide+kernel) (fm (by decide+kernel) (fm (by decide+kernel) (fm (by decide+kernel) (fm (by decide+kernel) (fm (by decide+kernel) (fm (by decide+kernel) (fm (by decide+kernel) (fm (by decide+kernel) (fm (by decide+kernel) (fm (by decide+kernel) (fm (by decide+kernel) (λ_ h=>nomatch h)))))))))))))
theorem r6:∀ks∈mX,pT true true false ks=true:=(fm (by decide+kernel) (fm (by decide+kernel) (fm (by decide+kernel) (fm (by decide+kernel) (fm (by decide+kernel) (fm (by decide+kernel) (fm (by decide+kernel) (fm (by decide+kernel) (fm (by decide+kernel) (fm (by decide+kernel) (fm (by decide+kernel) (fm (by decide+kernel) (λ_ h=>nomatch h)))))))))))))
theorem r7:∀ks∈mX,pT true true true ks=true:=(fm (by decide+kernel) (fm (by decide+kernel) (fm (by decide+kernel) (fm (by decide+kernel) (fm (by decide+kernel) (fm (by decide+kernel) (fm (by decide+kernel) (fm (by decide+kernel) (fm (by decide+kernel) (fm (by decide+kernel) (fm (by decide+kernel) (fm (by decide+kernel) (λ_ h=>nomatch h)))))))))))))
theorem aeb:∀rt gA jU,∀ks∈mX,pT rt gA jU ks=true
 |false,false,false=>r0
 |false,false,true=>r1
 |false,true,false=>r2
 |false,true,true=>r3
 |true,false,false=>r4
 |true,false,true=>r5
 |true,true,false=>r6
 |true,true,true=>r7
theorem aec(xs:List Int):∃σ',iF (PX xs) 4000 60 wm [] [.ref (.i (.o .h))] mP= .ok (.bool true) σ':=aea aeb xs
end Mini.Internal
open PySem hiding run load update alloc
open PySem (Value Addr Obj Heap Shared Str Data DictEntry World Around PyData Reads ReadsAll)
open PySem.W PyProof.Rows
namespace Mini.Internal
section
set_option tactic.hygienic true in
theorem aee(s:gJ):(fragOf s).In s.heap:=λa o e=>by
 have hm:(a,o)∈fragOf s:=by
  revert e;generalize fragOf s=l;intro e
  induction l with
  |nil=>cases e
  |cons p l ih=>
   rw[show p=(p.1,p.2)from rfl,mG]at e
   cases hb:(a==p.1)with
   |true=>rw[hb]at e;cases e;rw[eq_of_beq hb];exact hW ..
   |false=>rw[hb]at e;exact hO _ (ih e)
 unfold fragOf at hm;refine gW (List.mem_filterMap.1 hm) λb U hb=>?_;split at hb
 .rename_i o' ho;cases hb;exact ho
 .cases hb
theorem QD{R:WRecords}{cl:Str→Option Addr}{P:Params}{ord:List kJ→List kJ}:∀(ns:List Int)(s:gJ)(r:List gG×gJ),layAllW R cl P ord (ofPys (ns.map hY.int)) s=some r→r.2.heap=s.heap∧∀φ,il φ r.1 (ns.map .int)
 |[],s,r,e=>by
  rw[List.map_nil,ofPys,layAllW]at e
  cases e;exact⟨rfl,λφ=>.nil⟩
 |n::ns,s,r,e=>by
  rw[lI,ofPys,ofPy,layAllW,layW]at e;dsimp only at e
  cases q:layAllW R cl P ord (ofPys (ns.map hY.int)) {s with toks:=s.toks+1}with
  |none=>rw[q]at e;cases e
  |some r'=>
   rw[q]at e
   cases e
   have ih:=QD ns _ _ q;exact⟨ih.1,λφ=>.cons (.int _ _) (ih.2 φ)⟩
theorem aef{R:WRecords}{w:jb}{s₀ s₁:gJ}{ns:List Int}{v:gG}{as:List Addr}(L:Laid R w s₀ s₁ [ofPy (hY.list (ns.map hY.int))] [v] as):
 v= .ref s₀.heap.objs.size∧∃vs:List gG,s₁.heap.get? s₀.heap.objs.size=some ⟨.type "list",none,.seq vs.toArray 0,#[]⟩∧∀φ,il φ vs (ns.map .int):=by
 refine gW L.laid λord U e=>?_;rw[ofPy,layAllW,layW]at e
 cases q:layAllW R (classAt s₀.heap) w.params ord (ofPys (ns.map hY.int)) s₀ with
 |none=>rw[q]at e;cases e
 |some r=>
  rw[q]at e;refine iK (QD ns s₀ r q) λh1 h2=>?_;dsimp only at e;rw[layAllW]at e;simp only[Option.some.injEq,Prod.mk.injEq,List.cons.injEq,and_true]at e;refine⟨by rw[←e.1,h1],r.1,?_,h2⟩;rw[←e.2,←h1];exact j7 _ rfl
theorem aeg{h:Heap}{a:Addr}{m m':Str→Option gG}(x:h.Ns a m)(y:h.Ns a m')(n:Str):m n=m' n:=by
 refine tR x λo es ep h1 h2 U h3=>?_;refine tR y λo' es' mi k1 k2 U k3=>?_;rw[h1]at k1;cases k1;rw[h2]at k2;cases k2;rw[←h3,←k3]
theorem aeh:∀sc ta,mQ.tab sc=some ta→∃q,km mQ.mA ta=some q:=λsc ta e=>by
 have e:FX sc=some ta:=e;unfold FX at e;split at e
 .cases e;exact⟨_,rfl⟩
 .split at e
  .cases e;exact⟨_,rfl⟩
  .split at e
   .cases e;exact⟨_,rfl⟩
   .cases e
theorem aei{K:Frag}(h:QA K=true)(h2:((mQ.cls.take 2).all (sC mQ (KK K)))=true)(h3:((mQ.cls.drop 2).all (sC mQ (KK K)))=true):E7 mQ (nu [433,391,398] K)=true:=by
 have hc:mQ.cls.all (sC mQ (KK K))=true:=by
  rw[←List.take_append_drop 2 mQ.cls,List.all_append,h2,h3];rfl
 exact lJ.2 ⟨hc,h⟩
theorem aej{w:jb}{s₀ s₁:gJ}{fa a:Addr}{ns:List Int}{vs:List gG}{mg:Str→Option gG}(ho:(CA s₀&&(Hp s₀&&Hq s₀))=true)(hk:∀b o,s₀.heap.get? b=some o→s₁.heap.get? b=some o)(hm:s₁.heap.Ns pd mg)(hmg:mg "law"=some (.ref fa))
 (ha:a=s₀.heap.objs.size)(hs:s₁.heap.get? a=some ⟨.type "list",none,.seq vs.toArray 0,#[]⟩)(hv:∀φ,il φ vs (ns.map .int))(hl:ns.length≤63)(hg:s₁.gens= #[]){Q:gG→gJ→Prop}{E:gG→gJ→Prop}
 (hQ:∀s',OldK s₁.heap s'.heap→s'.os=s₁.os→s'.gens= #[]→Q (.bool true) s'):gL (iJ lj.prog w) callerA (call (.ref fa) [.ref a]) Q E s₁:=by
 rw[n5,n5]at ho;refine kM ho λh1 h2 h3=>?_;unfold CA QB at h1;simp only[n5]at h1;refine iK h1 λaek ij=>?_;refine kM aek λhr ael t8=>?_;refine iK ael λaem t7=>?_;refine iK aem λaen t6=>?_;refine iK aen λaeo t5=>?_;refine iK aeo λaep t4=>?_;refine iK aep λaeq t3=>?_;refine iK aeq λt1 t2=>?_;have X:(fragOf s₀).In s₁.heap:=λb o e=>hk b o (aee s₀ b o e);have ij:=mH ij;have e1:mg "law"=some (.ref 481):=(aeg hm (By X t8) _).trans (eq_of_beq t7);rw[hmg]at e1
 cases e1
 rw[ij]at ha;subst ha;refine jn (aec ns) λσ' Fc=>?_;exact YP (D:=mQ) (prog:=lj.prog) (w:=w) (K:=fragOf s₀) (s₁:=s₁) (c1:=437) (c2:=395) (c3:=402) (D0:=54) (P1:=433) (P2:=391) (P3:=398) (by decide+kernel) aeh rfl rfl rfl rfl X (aei hr h2 h3) t1 t2 t3 t4 t5 hs hv (by rw[ke];exact ia hl (by decide)) (by decide) hg t6 Fc hQ
end
end Mini.Internal
open Mini.Internal
set_option maxHeartbeats 0 in
theorem PySem.Challenge.cw_qb0004_07_holds : PySem.Challenge.rw_qb0004_07.Holds := by
 w_on
 refine holds_law QL λsaid=>?_;refine holds_openX (r:=PySem.Challenge.rw_qb0004_07.row) (q:=q7) (loose:=Hr) (Xt:=QC) (XP:=XL q7 []) (Yf:=λs=>CA s&&(Hp s&&Hq s)) (Ya:=λU=>true) (N:=6858)
  (aed (by kernel_rfl) (by decide) (λs=>rfl) (by intro P os;kernel_rfl) (by intro w;kernel_rfl) (by decide) ra7 rb7 rc7) (λs e=>xl_of s (lJ.mp e).1) XL.keeps (by rfl) (by rfl) (by rfl) (λs e=>recFacts_of (lJ.mp e).2) (by rfl) said (by decide+kernel) ⟨rfl,rfl,rfl,rfl,rfl,by decide+kernel⟩ ?hw ?hc
 case hw=>w_witness2
 case hc=>
  intro w s₀ s₁ mg mb G Y fa o pm cd doc dV kV ho hd hcd hD hmg hg args vals as L hpre hlay hrd hwl hlo;refine Ground.open G ?_;intro T B D TE TW
  wrow_args hpre hlay hrd hwl hlo
  obtain⟨hv,vs,h1,h2⟩:=aef L
  cases hv
  exact aej Y L.keeps T.g hmg rfl h1 h2 (by lia) hg λs' k1 k2 k3=>⟨.inl ⟨_,_,[],rfl,λU=>rfl,ReadsW.bool true,by first|rfl|wrow_post,λU=>⟨List.nodup_nil,λU hm=>(nomatch hm)⟩⟩,k1,k2,AllBare.of_eq k3⟩
