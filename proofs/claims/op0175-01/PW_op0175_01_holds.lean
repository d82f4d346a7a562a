import PyProof.Rows.All
import Wide.All
import OpenK.AllK
import Wide.FinOn
import KE.KIntText
import Lean
import PySem.Challenge.RW_op0175_01
set_option maxRecDepth 100000
set_option maxHeartbeats 0
set_option linter.all false
set_option Elab.async false
set_option genSizeOf false
set_option genSizeOfSpec false
set_option genInjectivity false
set_option compiler.extract_closed false
open PySem PySem.W PySem.W.X PySem.Spec PySem.Calls PyProof.Rows List
noncomputable section
namespace Mine
def zk:=@wpAny_bind
def zv:=@mem_cons_of_mem
def zy:=@mem_cons_self
def zx:=@Nat.le_of_ble_eq_true
def zJ:=@length_map
def zZ:=@Nat.le_trans
def zQ:=@getElem?_eq_getElem
def zV:=@length_eq_zero_iff
def zY:=@getD_eq_getElem?_getD
def zU:=@map_append
def zX:=@wpAny_pure
def zW:=@mem_map_of_mem
def jz:=@mem_append_right
def jj:=@mem_append_left
def jk:=@congrArg
def jv:=@Nat.le_refl
def jq:=@mem_append
def jy:=@mem_of_getElem?
def jx:=@append_nil
def jJ:=@mem_singleton
def jZ:=@length_append
def jQ:=@Sem.wp_bind'
def jV:=@append_assoc
def jY:=@length_cons
def jU:=@List.getElem?_eq_none_iff
def jX:=@map_congr_left
def jW:=@Sem.wp_mono
def kz:=@Sem.wp_bind
def kj:=@Bool.and_eq_true
def kv:=@beq_eq_false_iff_ne
def ky:=@mem_map
def kJ:=@Int.natCast_nonneg
def kZ:=@Bool.false_ne_true
def kQ:=@map_cons
def kY:=@Heap.lt_size
def kU:=@Option.some.inj
def kX:=@nodup_append
def kW:=@map_map
def vz:=@mem_cons
def vk:=@if_neg
def vv:=@getElem?_append_left
def vy:=@all_eq_true
def vx:=@wpAny_newObj_type
def vJ:=@Heap.get?_push_of_some
def vZ:=@Around.under_plainId
def vQ:=@Nat.not_lt
def vV:=@getElem?_append_right
def vY:=@perm_append_comm
def vU:=@getElem?_map
def vX:=@nodup_cons
def vW:=@getElem?_zip_eq_some
def qz:=@take_left
def qj:=@mem_iff_getElem
def qk:=@wpAny_field
def qv:=@length_replicate
section
open Sem (wp)
noncomputable def unstack {α:Type}:Sem α->Sem α
 | .stack k=>k []
 |t=>t
def Fexecs:List Stmt->Env->Sem Flow:=PySem.W.Fast.tw12563942051412417395
theorem Fexecs_eq:Fexecs=execs:=PySem.W.Fast.te12563942051412417395.symm
def Feval:Expr->Env->Sem Value:=PySem.W.Fast.tw14044960220447912780
theorem Feval_eq:Feval=eval:=PySem.W.Fast.te14044960220447912780.symm
def FisTrue:Expr->Env->Sem Value->Sem Bool:=PySem.W.Fast.tw15418851999007992765
theorem FisTrue_eq:FisTrue=PySem.isTrue:=PySem.W.Fast.te15418851999007992765.symm
def Frich:CmpOp->Value->Value->Sem Value:=PySem.W.Fast.tw9423741818375054981
theorem Frich_eq:Frich=richCompare:=PySem.W.Fast.te9423741818375054981.symm
def Ftruthy:Value->Sem Bool:=PySem.W.Fast.tw15245631507167962100
theorem Ftruthy_eq:Ftruthy=truthy:=PySem.W.Fast.te15245631507167962100.symm
def Fleaving:Env->Value->Sem Unit:=PySem.W.Fast.tw9442747609961115081
theorem Fleaving_eq:Fleaving=leaving:=PySem.W.Fast.te9442747609961115081.symm
def Fnote:Value->Env->Sem Unit:=PySem.W.Fast.tw17872113653443481271
theorem Fnote_eq:Fnote=noteFrame:=PySem.W.Fast.te17872113653443481271.symm
def Flot:Value->Sem Unit:=PySem.W.Fast.tw1623429502029203251
theorem Flot_eq:Flot=theTreesLotGoes:=PySem.W.Fast.te1623429502029203251.symm
def FpyNext:Value->Sem (Option Value):=PySem.W.Fast.tw9404975358583537561
theorem FpyNext_eq:FpyNext=pyNext:=PySem.W.Fast.te9404975358583537561.symm
def Fassign:Expr->Env->Value->Sem Unit:=PySem.W.Fast.tw17772580674575903948
theorem Fassign_eq:Fassign=assign:=PySem.W.Fast.te17772580674575903948.symm
def FletGo:Expr->Value->Value->Sem Unit:=PySem.W.Fast.tw1578499551869305889
theorem FletGo_eq:FletGo=letOwnedTupleGo:=PySem.W.Fast.te1578499551869305889.symm
def richT (op:CmpOp) (a b:Value):Sem Value:=match [a,b].any Value.onHeap with
 |true=>unstack (Frich op a b)
 |false=>Frich op a b
noncomputable def isRich:CmpOp->Bool
 | .Eq=>true| .NotEq=>true| .Lt=>true| .LtE=>true| .Gt=>true| .GtE=>true
 |_=>false
def evalT (e:Expr) (env:Env):Sem Value:=match e with
 | .Compare l [op] [r] pos=>match isRich op with
  |true=>R.bindR (Feval l env) λa=>R.bindR (Feval r env) λb=> .at pos λ_=>richT op a b
  |false=>Feval e env
 |_=>Feval e env
def isTrue1T (e:Expr) (env:Env):Sem Bool:=match e with
 | .Compare l [op] [r] pos=>match isRich op with
  |true=>R.bindR (Feval l env) λa=>R.bindR (evalT r env) λb=> .at pos λ_=>R.bindR (richT op a b) λc=>Ftruthy c
  |false=>FisTrue e env (Feval e env)
 |_=>FisTrue e env (Feval e env)
def allT (op:BoolOp) (env:Env):List Expr->Sem Bool
 |[]=> .pure (op== .And)
 |x::rest=>R.bindR (isTrue1T x env) λb=>match op,b with
  | .And,false=> .pure false
  | .Or,true=> .pure true
  |_,_=>allT op env rest
def isTrueT (e:Expr) (env:Env):Sem Bool:=match e with
 | .BoolOp op vs _=>allT op env vs
 |e=>isTrue1T e env
def execsT (env:Env):List Stmt->Sem Flow
 |[]=> .pure .next
 |s::rest=>match s with
  | .If test body orelse pos=> .at pos λ_=>R.bindR (isTrueT test env) λb=>R.bindR (match b with|true=>Fexecs body env|false=>Fexecs orelse env) λf=>match f with
   | .next=>execsT env rest
   |f=> .pure f
  |s=>R.bindR (Fexecs [s] env) λf=>match f with
   | .next=>execsT env rest
   |f=> .pure f
def funcT (body:List Stmt) (env:Env):Sem Fin:=R.bindR (R.onRaiseR (execsT env body) (Fleaving env)) λf=>match f with
 | .ret v=> .pure (.done (.ret v))
 |_=> .pure (.done (.ret .none))
def forT (target:Expr) (it:Value) (body orelse:List Stmt) (env:Env):Sem Fin:=
 R.onRaiseR (.at target.pos λ_=>R.bindR (R.onRaiseR (FpyNext it) λ_=> .at {target.pos with line:=0} .pure) λx=>match x with
  |none=> .pure (.again (.block orelse env))
  |some v=>R.bindR (FletGo target it v) λ_=>R.bindR (Fassign target env v) λ_=>R.bindR (execsT env body) λf=>match f with
   | .brk=> .pure (.done .next)
   | .ret v=> .pure (.done (.ret v))
   |_=> .pure (.again (.forLoop target it body orelse env))) λx=>R.bindR (Fnote x env) λ_=>Flot x
def Rf {α:Type} (M:Model) (Γ:PySem.Ctx) (t' t:Sem α):Prop:=∀Q E p s,wp M Γ t' Q E p s->wp M Γ t Q E p s
section
variable {α β:Type} {M:Model} {Γ:PySem.Ctx}
theorem Rf.refl (t:Sem α):Rf M Γ t t:=λ_ _ _ _ h=>h
theorem Rf.bind {t' t:Sem α} {f' f:α->Sem β} (h:Rf M Γ t' t) (hf:∀a,Rf M Γ (f' a) (f a)):Rf M Γ (t'.bind f') (t.bind f):=λQ E p s x=>by
 rw [kz] at x⊢;exact h _ _ _ _ (jW M Γ t' (λa p' s' y=>hf a _ _ _ _ y) (λ_ _ _ y=>y) p s x)
theorem Rf.onRaise {t' t:Sem α} {k:Value->Sem Unit} (h:Rf M Γ t' t):Rf M Γ (t'.onRaise k) (t.onRaise k):=λQ E p s x=>by
 rw [Sem.wp_onRaise] at x⊢;exact h _ _ _ _ x
theorem Rf.at {pos:Pos} {t' t:Sem α} (h:Rf M Γ t' t):Rf M Γ (.at pos λ_=>t') (.at pos λ_=>t):=λQ E p s x=>by
 rw [Sem.wp_at] at x⊢;exact h _ _ _ _ x
theorem unstack_room (vs:List Value) (what:String) (f:Unit->Sem α):∃refs,unstack (holding vs (cRoom what>>=f))=(f ()).keep refs:=by
 rw [holding_eq_keep];exact ⟨_,rfl⟩
theorem richT_rf (hu:Γ.units<cLine) (op:CmpOp) (a b:Value):Rf M Γ (richT op a b) (richCompare op a b):=λQ E p s x=>by
 unfold richT at x;rw [Frich_eq] at x;split at x
 ·rename_i hv
  unfold richCompare at x⊢;rw [Sem.wp_holding,jQ];refine Sem.wp_cRoomFor _ _ hu ?_;rw [cRoomFor_of_heap hv] at x;obtain ⟨refs,hk⟩:=unstack_room [a,b] "comparison" _;rw [hk,Sem.wp_keep] at x;exact x
 ·exact x
theorem cmp_rich {op:CmpOp} (h:isRich op=true) (a b:Value):compareOp op a b=richCompare op a b:=by cases op<;>first|rfl|cases h
theorem mark_rich {op:CmpOp} (h:isRich op=true) (e:Expr) (t:Sem Value):markedBehindIn op e t=t:=by
 apply markedBehindIn_of_false;have h:(op== .In||op== .NotIn)=false:=by cases op<;>first|rfl|cases h
 cases e with
 |Set elts k pos=>
  show (k==0&&(op== .In||op== .NotIn)&&_)=false;rw [h,Bool.and_false,Bool.false_and]
 |_=>rfl
theorem rf_F {e:Expr} {env:Env} (h:Feval=eval):Rf M Γ (Feval e env) (eval e env):=by rw [h];exact Rf.refl _
theorem rf_T {e:Expr} {env:Env}:Rf M Γ (FisTrue e env (Feval e env)) (PySem.isTrue e env (eval e env)):=by rw [FisTrue_eq,Feval_eq];exact Rf.refl _
theorem evalT_rf (hu:Γ.units<cLine) (e:Expr) (env:Env):Rf M Γ (evalT e env) (eval e env):=by
 cases e with
 |Compare l ops rs pos=>
  rcases ops with _|⟨op,_|⟨_,_⟩⟩<;>rcases rs with _|⟨r,_|⟨_,_⟩⟩<;>first|exact rf_F Feval_eq|skip
  cases hop:isRich op with
  |false=>
   show Rf M Γ (match isRich op with|true=>_|false=>_) _;rw [hop];exact rf_F Feval_eq
  |true=>
   show Rf M Γ (match isRich op with|true=>_|false=>_) _;rw [hop];show Rf M Γ (R.bindR (Feval l env) λa=>R.bindR (Feval r env) λb=> .at pos λ_=>richT op a b) _;rw [Feval_eq];rw [eval_Compare1,<-R.bindR_eq];refine Rf.bind (Rf.refl _) λa=>?_;rw [mark_rich hop];intro Q E p s x;rw [kz] at x;rw [jQ,Sem.wp_holding];refine jW M Γ _ (λb p' s' y=>?_) (λ_ _ _ y=>y) p s x;rw [Sem.wp_at] at y;rw [jQ];show wp M Γ (.at pos .pure) _ _ _ _;rw [Sem.wp_at,Sem.wp_pure,Sem.wp_operate,cmp_rich hop];exact richT_rf hu op a b _ _ _ _ y
 |_=>exact rf_F Feval_eq
theorem isTrue1T_rf (hu:Γ.units<cLine) (e:Expr) (env:Env):Rf M Γ (isTrue1T e env) (PySem.isTrue e env (eval e env)):=by
 cases e with
 |Compare l ops rs pos=>
  rcases ops with _|⟨op,_|⟨_,_⟩⟩<;>rcases rs with _|⟨r,_|⟨_,_⟩⟩<;>first|exact rf_T|skip
  cases hop:isRich op with
  |false=>
   show Rf M Γ (match isRich op with|true=>_|false=>_) _;rw [hop];exact rf_T
  |true=>
   show Rf M Γ (match isRich op with|true=>_|false=>_) _;rw [hop];show Rf M Γ (R.bindR (Feval l env) λa=>R.bindR (evalT r env) λb=> .at pos λ_=>R.bindR (richT op a b) λc=>Ftruthy c) _;rw [Feval_eq,isTrue_Compare1,Ftruthy_eq];simp only [<-R.bindR_eq];refine Rf.bind (Rf.refl _) λa=>?_;rw [mark_rich hop];intro Q E p s x;rw [kz] at x;have x:=evalT_rf hu r env _ _ _ _ x;rw [jQ,Sem.wp_holding];refine jW M Γ _ (λb p' s' y=>?_) (λ_ _ _ y=>y) p s x;rw [Sem.wp_at,kz] at y;have y:=richT_rf hu op a b _ _ _ _ y;rw [jQ];show wp M Γ (.at pos .pure) _ _ _ _;rw [Sem.wp_at,Sem.wp_pure,jQ,Sem.wp_operate,cmp_rich hop];refine jW M Γ _ (λc p' s' z=>?_) (λ_ _ _ y=>y) _ _ y;rw [Sem.wp_holding];exact z
 |_=>exact rf_T
theorem allT_rf (hu:Γ.units<cLine) (op:BoolOp) (env:Env):∀vs:List Expr,Rf M Γ (allT op env vs) (allTrue op vs env)
 |[]=>Rf.refl _
 |x::rest=>by
  show Rf M Γ (R.bindR (isTrue1T x env) _) (Sem.bind (PySem.isTrue x env (eval x env)) _);rw [<-R.bindR_eq];refine Rf.bind (isTrue1T_rf hu x env) λb=>?_;cases op<;>cases b<;>first|exact Rf.refl _|exact allT_rf hu _ env rest
theorem isTrueT_rf (hu:Γ.units<cLine) (e:Expr) (env:Env):Rf M Γ (isTrueT e env) (PySem.isTrue e env (eval e env)):=by
 have key:=isTrue1T_rf (M:=M) hu e env;cases e with
 |BoolOp op vs pos=>exact allT_rf hu op env vs
 |_=>exact key
theorem one_rf (st:Stmt) (env:Env):Rf M Γ (execs [st] env) (exec st env):=λQ E p s x=>by
 rw [execs_cons,jQ] at x;refine jW M Γ _ (λf p' s' y=>?_) (λ_ _ _ y=>y) p s x;cases f<;>exact y
theorem execs_rest (env:Env) {rest:List Stmt} (ih:Rf M Γ (execsT env rest) (execs rest env)) (st:Stmt):Rf M Γ (R.bindR (Fexecs [st] env) λf=>match f with| .next=>execsT env rest|f=> .pure f) (execs (st::rest) env):=by
 rw [execs_cons,Fexecs_eq,<-R.bindR_eq];refine Rf.bind (one_rf _ _) λf=>?_;cases f<;>first|exact Rf.refl _|exact ih
theorem execsT_rf (hu:Γ.units<cLine) (env:Env):∀ss:List Stmt,Rf M Γ (execsT env ss) (execs ss env)
 |[]=>Rf.refl _
 |st::rest=>by
  have ih:=execsT_rf hu env rest;have key:=execs_rest env ih st;cases st with
  |If test body orelse pos=>
   show Rf M Γ (.at pos λ_=>R.bindR (isTrueT test env) λb=>R.bindR (match b with|true=>Fexecs body env|false=>Fexecs orelse env) λf=>match f with
    | .next=>execsT env rest
    |f=> .pure f) _
   rw [execs_cons,Fexecs_eq,exec_If];intro Q E p s x;simp only [<-R.bindR_eq] at x;rw [Sem.wp_at,kz] at x;have x:=isTrueT_rf hu test env _ _ _ _ x;rw [jQ,jQ];show wp M Γ (.at pos .pure) _ _ _ _;rw [Sem.wp_at,Sem.wp_pure,jQ];refine jW M Γ _ (λb p' s' y=>?_) (λ_ _ _ y=>y) _ _ x;rw [kz] at y;cases b
   ·refine jW M Γ _ (λf p' s' z=>?_) (λ_ _ _ y=>y) _ _ y
    cases f<;>first|exact z|exact ih _ _ _ _ z
   ·refine jW M Γ _ (λf p' s' z=>?_) (λ_ _ _ y=>y) _ _ y
    cases f<;>first|exact z|exact ih _ _ _ _ z
  |_=>exact key
theorem funcT_rf (hu:Γ.units<cLine) (body:List Stmt) (env:Env):Rf M Γ (funcT body env) (denote table (.func body env)):=by
 intro Q E p s x;unfold funcT at x;rw [<-R.bindR_eq,<-R.onRaiseR_eq,Fleaving_eq,kz] at x;have x:=Rf.onRaise (k:=leaving env) (execsT_rf hu env body) _ _ _ _ x;delta denote;dsimp only;rw [jQ,Sem.wp_cmd_point,jQ];refine jW M Γ _ (λf p' s' z=>?_) (λ_ _ _ y=>y) _ _ x;cases f<;>exact z
theorem forT_rf (hu:Γ.units<cLine) (target:Expr) (it:Value) (body orelse:List Stmt) (env:Env):Rf M Γ (forT target it body orelse env) (denote table (.forLoop target it body orelse env)):=by
 intro Q E p s x;unfold forT at x;delta denote;dsimp only;simp only [<-R.onRaiseR_eq,<-R.bindR_eq] at x;rw [FpyNext_eq,Fassign_eq,FletGo_eq,Fnote_eq,Flot_eq] at x;refine Rf.onRaise (k:=λx=>do noteFrame x env;theTreesLotGoes x) ?_ _ _ _ _ x;intro Q E p s x;unfold forTurn;rw [Sem.wp_at,kz] at x;rw [jQ];show wp M Γ (.at target.pos .pure) _ _ _ _;rw [Sem.wp_at,Sem.wp_pure,jQ];refine jW M Γ _ (λv p' s' y=>?_) (λ_ _ _ y=>y) _ _ x;cases v with
 |none=>exact y
 |some v=>
  have y:wp M Γ ((letOwnedTupleGo target it v).bind λ_=>(assign target env v).bind λ_=>(execsT env body).bind λf=>match f with
   | .brk=> .pure (.done .next)
   | .ret v=> .pure (.done (.ret v))
   |_=> .pure (.again (.forLoop target it body orelse env))) Q E p' s':=y
  refine Rf.bind (Rf.refl _) (λ_=>Rf.bind (Rf.refl _) λ_=>Rf.bind (execsT_rf hu env body) λf=>?_) _ _ _ _ y;cases f<;>exact Rf.refl _
end
end
section
open Sem (wp)
inductive TT where
 |sem (t:Sem Fin)
 |att (t:TT) (k:Result->TT)
 |note (e:Value) (env:Env) (k:TT)
noncomputable def TT.real:TT->Sem Fin
 | .sem t=>t
 | .att t k=>t.real.attempt.bind λr=>match r with
  | .ok fin=>match fin with
   | .done f=>(k (.ok f)).real
   | .again _=> .unsupported "x"
  | .error v=>(k (.error v)).real
 | .note e env k=>(noteFrame e env).bind λ_=>k.real
def FsetFlight:Value->Option Addr->Sem Unit:=PySem.W.Fast.tw5670386056902412789
theorem FsetFlight_eq:FsetFlight=setFlight:=PySem.W.Fast.te5670386056902412789.symm
def FhandleBy:Value->Env->List ExceptHandler->Sem Flow:=PySem.W.Fast.tw14206642085496868694
theorem FhandleBy_eq:FhandleBy=handleBy:=PySem.W.Fast.te14206642085496868694.symm
def FrunOwn:Code->Env->Option Value->Sem Flow:=@PySem.W.Fast.tw9046067596548197636
theorem FrunOwn_eq:FrunOwn=@runOwn:=PySem.W.Fast.te9046067596548197636.symm
def FpassOn:String->Value->Env->Sem Fin:=PySem.W.Fast.tw4601389910855378106
theorem FpassOn_eq:FpassOn=PySem.passOn:=congrFun PySem.W.Fast.te4601389910855378106.symm _
noncomputable def keepOf:Flow->List Value
 | .ret v=>[v]
 |_=>[]
noncomputable def doneF (f:Flow):Sem Fin:= .pure (.done f)
def stT (t:Sem Flow):TT:= .sem (R.bindR t doneF)
mutual
def exT (env:Env):Nat->List Stmt->TT
 |0,ss=>stT (Fexecs ss env)
 |_+1,[]=> .sem (doneF .next)
 |n+1,s::rest=> .att (exT1 env n s) λr=>match r with
  | .ok f=>match f with
   | .next=>exT env n rest
   |f=> .sem (doneF f)
  | .error v=> .sem (.raise v)
def exT1 (env:Env):Nat->Stmt->TT
 |0,s=>stT (Fexecs [s] env)
 |n+1,s=>match s with
  | .If test body orelse pos=> .att (.sem (.at pos λ_=>R.bindR (isTrueT test env) λb=> .pure (.done (.ret (.bool b))))) λr=>match r with
   | .ok (.ret (.bool true))=>exT env n body
   | .ok (.ret (.bool false))=>exT env n orelse
   | .ok _=> .sem (.unsupported "x")
   | .error v=> .sem (.raise v)
  | .Try body hs orelse final pos=> .att (.sem (.at pos λ_=>doneF .next)) λ_=>match final with
   |[]=>mainT env n body hs orelse
   |_=> .att (mainT env n body hs orelse) λr=>match r with
    | .ok f=> .sem (R.bindR (holding (keepOf f) (FrunOwn (.block final env) env none)) λf'=>match f' with
     | .next=>doneF f
     |f'=> .rule "try.finally-overrides-flow" λ_=>doneF f')
    | .error e=> .note e env (.sem (R.bindR (FsetFlight e none) λ_=>R.bindR (holding [e] (FrunOwn (.block final env) env (some e))) λf'=>match f' with
     | .next=>FpassOn "try.finally" e env
     |f'=> .rule "try.finally-swallows-exception" λ_=>R.bindR (FsetFlight e none) λ_=>doneF f'))
  |s=>stT (Fexecs [s] env)
def mainT (env:Env):Nat->List Stmt->List ExceptHandler->List Stmt->TT
 |0,body,hs,orelse=>stT (tryStmt false (execs body env) hs (execs orelse env) [] env)
 |n+1,body,hs,orelse=> .att (exT env n body) λr=>match r with
  | .ok f=>match f with
   | .next=>exT env n orelse
   |f=> .sem (doneF f)
  | .error e=> .note e env (match hs with
   |[]=> .sem (.raise e)
   |_=> .sem (R.bindR (FsetFlight e none) λ_=>R.bindR (FhandleBy e env hs) doneF))
end
def funcTT (n:Nat) (body:List Stmt) (env:Env):TT:= .att (exT env n body) λr=>match r with
 | .ok f=>match f with
  | .ret v=> .sem (doneF (.ret v))
  |_=> .sem (doneF (.ret .none))
 | .error v=> .note v env (.sem (R.bindR (FsetFlight v none) λ_=> .raise v))
def blockTT (n:Nat) (ss:List Stmt) (env:Env):TT:= .att (exT env n ss) λr=>match r with
 | .ok f=> .sem (doneF f)
 | .error v=> .note v env (.sem (.raise v))
def whileTT (n:Nat) (test:PySem.Expr) (body orelse:List Stmt) (env:Env):TT:= .att (.sem (R.bindR (isTrueT test env) λb=> .pure (.done (.ret (.bool b))))) λr=>match r with
 | .ok (.ret (.bool true))=> .att (exT env n body) λr=>match r with
  | .ok f=>match f with
   | .brk=> .sem (doneF .next)
   | .ret v=> .sem (doneF (.ret v))
   |_=> .sem (.pure (.again (.whileLoop test body orelse env)))
  | .error v=> .note v env (.sem (.raise v))
 | .ok (.ret (.bool false))=> .att (exT env n orelse) λr=>match r with
  | .ok f=> .sem (doneF f)
  | .error v=> .note v env (.sem (.raise v))
 | .ok _=> .sem (.unsupported "x")
 | .error v=> .note v env (.sem (.raise v))
section
variable {α β:Type} {M:Model} {Γ:PySem.Ctx}
def Rt (M:Model) (Γ:PySem.Ctx) (T:TT) (t:Sem Flow):Prop:=Rf M Γ T.real (t.bind doneF)
theorem rt_st {t t':Sem Flow} (h:Rf M Γ t' t):Rt M Γ (stT t') t:=by
 unfold Rt stT TT.real;rw [<-R.bindR_eq];exact Rf.bind h λ_=>Rf.refl _
theorem att_to {T:TT} {t:Sem Flow} {k:Result->TT} (h:Rt M Γ T t) {Q:Fin->Pos->Shared->Prop} {E:Value->Pos->Shared->Prop} {p:Pos} {s:Shared} (x:wp M Γ (TT.att T k).real Q E p s):
  wp M Γ t (λf p s=>wp M Γ (k (.ok f)).real Q E p s) (λv p s=>wp M Γ (k (.error v)).real Q E p s) p s:=by
 unfold TT.real at x;rw [kz,Sem.wp_attempt] at x;have y:=h _ _ _ _ x;rw [kz] at y;exact y
theorem att_sem {t:Sem Fin} {k:Result->TT} {Q:Fin->Pos->Shared->Prop} {E:Value->Pos->Shared->Prop} {p:Pos} {s:Shared} (x:wp M Γ (TT.att (.sem t) k).real Q E p s):
  wp M Γ t (λfin p s=>match fin with| .done f=>wp M Γ (k (.ok f)).real Q E p s| .again _=>False) (λv p s=>wp M Γ (k (.error v)).real Q E p s) p s:=by
 unfold TT.real at x;rw [kz,Sem.wp_attempt] at x;refine jW M Γ _ (λfin p s y=>?_) (λv p s y=>y) _ _ x;cases fin with
 |done f=>exact y
 |again c=>
  have:wp M Γ (.unsupported "x":Sem Fin) Q E p s:=y;rw [Sem.wp] at this;exact this
theorem lot_goes {x:Value} {Q:Unit->Pos->Shared->Prop} {E:Value->Pos->Shared->Prop} {p:Pos} {s:Shared} (h:Q () p s):wp M Γ (theTreesLotGoes x) Q E p s:=by
 unfold theTreesLotGoes;rw [jQ];show wp M Γ (.stack .pure) _ _ _ _;rw [Sem.wp_stack,Sem.wp_pure,jQ];show wp M Γ (.at _ .pure) _ _ _ _;rw [Sem.wp_at,Sem.wp_pure,jQ,Sem.wp_holding,Sem.wp_cmd_point];show wp M Γ (.at _ .pure) _ _ _ _;rw [Sem.wp_at,Sem.wp_pure];exact h
theorem passOn_to {what:String} {e:Value} {env:Env} {Q:α->Pos->Shared->Prop} {Q':β->Pos->Shared->Prop} {E:Value->Pos->Shared->Prop} {p:Pos} {s:Shared} (x:wp M Γ (PySem.passOn what e env) Q E p s):wp M Γ (PySem.passOn what e env) Q' E p s:=by
 unfold PySem.passOn at x⊢;rw [jQ] at x⊢;refine jW M Γ _ (λv p s x=>?_) (λv p s x=>x) _ _ x;dsimp only at x⊢
 by_cases h:(v==Value.none)=true
 ·rw [if_pos h] at x⊢
  rw [jQ] at x;have:wp M Γ (.unsupported (toString what++toString ":exception-without-traceback"):Sem PUnit) _ E p s:=x;rw [Sem.wp] at this;exact this.elim
 ·rw [vk h] at x⊢
  rw [jQ] at x⊢;refine jW M Γ _ (λv p s x=>?_) (λv p s x=>x) _ _ x;rw [Sem.wp_throw] at x⊢;exact x
mutual
theorem exT_rt (hu:Γ.units<cLine) (env:Env):∀n ss,Rt M Γ (exT env n ss) (execs ss env)
 |0,ss=>by
  show Rt M Γ (stT (Fexecs ss env)) _;rw [Fexecs_eq];exact rt_st (Rf.refl _)
 |n+1,[]=>by
  exact λQ E p s x=>x
 |n+1,st::rest=>by
  intro Q E p s x;have y:=att_to (exT1_rt hu env n st) x;rw [execs_cons,kz,jQ];refine jW M Γ _ (λf p s y=>?_) (λv p s y=>y) _ _ y;cases f with
  |next=>
   have z:=exT_rt hu env n rest _ _ _ _ y;rw [kz] at z;exact z
  |_=>exact y
theorem exT1_rt (hu:Γ.units<cLine) (env:Env):∀n st,Rt M Γ (exT1 env n st) (exec st env)
 |0,st=>by
  show Rt M Γ (stT (Fexecs [st] env)) _;rw [Fexecs_eq];exact rt_st (one_rf _ _)
 |n+1,st=>by
  have key:Rt M Γ (stT (Fexecs [st] env)) (exec st env):=by
   rw [Fexecs_eq];exact rt_st (one_rf _ _)
  cases st with
  |If test body orelse pos=>
   show Rt M Γ (.att (.sem (.at pos λ_=>R.bindR (isTrueT test env) λb=> .pure (.done (.ret (.bool b))))) _) _;intro Q E p s x;have y:=att_sem x;rw [Sem.wp_at,<-R.bindR_eq,kz] at y;have y:=isTrueT_rf hu test env _ _ _ _ y;rw [exec_If,kz,jQ];show wp M Γ (.at pos .pure) _ _ _ _;rw [Sem.wp_at,Sem.wp_pure,jQ];refine jW M Γ _ (λb p s y=>?_) (λv p s y=>y) _ _ y;rw [Sem.wp_pure] at y;cases b with
   |true=>
    have z:=exT_rt hu env n body _ _ _ _ y;rw [kz] at z;exact z
   |false=>
    have z:=exT_rt hu env n orelse _ _ _ _ y;rw [kz] at z;exact z
  |Try body hs orelse final pos=>
   show Rt M Γ (.att (.sem (.at pos λ_=>doneF .next)) _) _;intro Q E p s x;have y:=att_sem x;rw [Sem.wp_at] at y;rw [arm_exec_Try,kz,jQ];show wp M Γ (.at pos .pure) _ _ _ _;rw [Sem.wp_at,Sem.wp_pure,<-kz];unfold doneF at y;rw [Sem.wp_pure] at y;dsimp only at y
   cases final with
   |nil=>exact mainT_rt hu env n body hs orelse _ _ _ _ y
   |cons s0 fin=>
    dsimp only at y
    have z:=att_to (mainT_rt hu env n body hs orelse) y;unfold tryStmt at z⊢;simp only [isEmpty_nil,if_true,isEmpty_cons,Bool.false_eq_true,if_false] at z⊢;rw [kz,jQ,Sem.wp_attempt];refine jW M Γ _ (λf p s z=>?_) (λv p s z=>?_) _ _ z
    ·have z:wp M Γ (R.bindR (holding (keepOf f) (FrunOwn (.block (s0::fin) env) env none)) λf'=>match f' with
      | .next=>doneF f
      |f'=> .rule "try.finally-overrides-flow" λ_=>doneF f') Q E p s:=z
     rw [<-R.bindR_eq,kz,FrunOwn_eq] at z;dsimp only
     rw [jQ];refine jW M Γ _ (λf' p s z=>?_) (λv p s z=>z) _ _ z;cases f'<;>exact z
    ·have z:wp M Γ (TT.note v env (.sem (R.bindR (FsetFlight v none) λ_=>R.bindR (holding [v] (FrunOwn (.block (s0::fin) env) env (some v))) λf'=>match f' with
      | .next=>FpassOn "try.finally" v env
      |f'=> .rule "try.finally-swallows-exception" λ_=>R.bindR (FsetFlight v none) λ_=>doneF f'))).real Q E p s:=z
     unfold TT.real at z;rw [kz] at z;dsimp only
     rw [jQ];refine jW M Γ _ (λ_ p s z=>?_) (λv p s z=>z) _ _ z;unfold TT.real at z;rw [<-R.bindR_eq,kz,FsetFlight_eq] at z;rw [jQ];refine jW M Γ _ (λ_ p s z=>?_) (λv p s z=>z) _ _ z;rw [kz,FrunOwn_eq] at z;rw [jQ];refine jW M Γ _ (λf' p s z=>?_) (λv p s z=>z) _ _ z;cases f' with
     |next=>
      have z:wp M Γ (FpassOn "try.finally" v env) Q E p s:=z;rw [FpassOn_eq] at z;exact passOn_to z
     |_=>
      dsimp only at z⊢
      rw [Sem.wp_rule,kz] at z;rw [jQ];show wp M Γ (.rule _ .pure) _ _ _ _;rw [Sem.wp_rule,Sem.wp_pure,jQ];exact z
  |_=>exact key
theorem mainT_rt (hu:Γ.units<cLine) (env:Env):∀n body hs orelse,Rt M Γ (mainT env n body hs orelse) (tryStmt false (execs body env) hs (execs orelse env) [] env)
 |0,body,hs,orelse=>by
  exact rt_st (Rf.refl _)
 |n+1,body,hs,orelse=>by
  intro Q E p s x;have y:=att_to (exT_rt hu env n body) x;unfold tryStmt;simp only [isEmpty_nil,if_true];rw [kz,jQ,Sem.wp_attempt];refine jW M Γ _ (λf p s y=>?_) (λv p s y=>?_) _ _ y
  ·cases f with
   |next=>
    have z:=exT_rt hu env n orelse _ _ _ _ y;rw [kz] at z;exact z
   |_=>exact y
  ·dsimp only at y⊢
   unfold TT.real at y;rw [kz] at y;rw [jQ];refine jW M Γ _ (λ_ p s y=>?_) (λv p s y=>y) _ _ y;cases hs with
   |nil=>
    simp only [isEmpty_nil,if_true];exact y
   |cons h0 hs=>
    have y:wp M Γ (R.bindR (FsetFlight v none) λ_=>R.bindR (FhandleBy v env (h0::hs)) doneF) Q E p s:=y;rw [<-R.bindR_eq,kz,FsetFlight_eq] at y;simp only [isEmpty_cons,Bool.false_eq_true,if_false,Bool.false_and];rw [jQ];refine jW M Γ _ (λ_ p s y=>?_) (λv p s y=>y) _ _ y;rw [kz,FhandleBy_eq] at y;exact y
end
theorem noted_to {t:Sem α} {h:Value->Sem Unit} {Q:α->Pos->Shared->Prop} {E:Value->Pos->Shared->Prop} {p:Pos} {s:Shared} (x:wp M Γ t Q (λv p s=>wp M Γ (h v) (λ_ p s=>E v p s) E p s) p s):wp M Γ (t.onRaise h) Q E p s:=by
 rw [Sem.wp_onRaise];exact x
theorem note_lot {v:Value} {env:Env} {Q:Fin->Pos->Shared->Prop} {E:Value->Pos->Shared->Prop} {p:Pos} {s:Shared} (x:wp M Γ (TT.note v env (.sem (.raise v))).real Q E p s):wp M Γ (do noteFrame v env;theTreesLotGoes v) (λ_ p s=>E v p s) E p s:=by
 unfold TT.real at x;rw [kz] at x;rw [jQ];refine jW M Γ _ (λ_ p s y=>lot_goes ?_) (λv p s y=>y) _ _ x;unfold TT.real at y;rw [Sem.wp_raise] at y;exact y
theorem blockTT_rf (hu:Γ.units<cLine) (n:Nat) (ss:List Stmt) (env:Env):Rf M Γ (blockTT n ss env).real (denote table (.block ss env)):=by
 intro Q E p s x;have y:=att_to (exT_rt hu env n ss) x;delta denote;dsimp only;rw [jQ];refine noted_to (jW M Γ _ (λf p s y=>?_) (λv p s y=>?_) _ _ y)
 ·exact y
 ·exact note_lot y
theorem funcTT_rf (hu:Γ.units<cLine) (n:Nat) (body:List Stmt) (env:Env):Rf M Γ (funcTT n body env).real (denote table (.func body env)):=by
 intro Q E p s x;have y:=att_to (exT_rt hu env n body) x;delta denote;dsimp only;rw [jQ,Sem.wp_cmd_point,jQ];refine noted_to (jW M Γ _ (λf p s y=>?_) (λv p s y=>?_) _ _ y)
 ·cases f<;>exact y
 ·dsimp only at y
  unfold TT.real at y;rw [kz] at y;unfold leaving;rw [jQ];refine jW M Γ _ (λ_ p s y=>?_) (λv p s y=>y) _ _ y;unfold TT.real at y;rw [<-R.bindR_eq,kz,FsetFlight_eq] at y;exact y
theorem whileTT_rf (hu:Γ.units<cLine) (n:Nat) (test:PySem.Expr) (body orelse:List Stmt) (env:Env):Rf M Γ (whileTT n test body orelse env).real (denote table (.whileLoop test body orelse env)):=by
 intro Q E p s x;have y:=att_sem x;rw [<-R.bindR_eq,kz] at y;have y:=isTrueT_rf hu test env _ _ _ _ y;delta denote;dsimp only;refine noted_to ?_;unfold whileTurn;rw [jQ];refine jW M Γ _ (λb p s y=>?_) (λv p s y=>note_lot y) _ _ y;rw [Sem.wp_pure] at y;cases b with
 |true=>
  have z:=att_to (exT_rt hu env n body) y;show wp M Γ (execs body env>>=_) _ _ _ _;rw [jQ];refine jW M Γ _ (λf p s y=>?_) (λv p s y=>note_lot y) _ _ z;cases f<;>exact y
 |false=>
  have z:=att_to (exT_rt hu env n orelse) y;show wp M Γ (execs orelse env>>=_) _ _ _ _;rw [jQ];refine jW M Γ _ (λf p s y=>?_) (λv p s y=>note_lot y) _ _ z;exact y
end
end
def DF:Code->Sem Fin:=PySem.W.Fast.tw11892475500146522536 PySem.W.Fast.tw14364793385576792824
theorem DF_eq:DF=denote table:=by
 unfold DF;rw [table_eq_tree,PySem.W.Fast.te14364793385576792824,PySem.W.Fast.te11892475500146522536]
def quietId (id:String):Bool:=PySem.W.ZFast.zw17772548960776305114 (.builtin id {})
def quietQ:Code->Bool
 | .builtin id _=>quietId id
 |_=>true
theorem exit_no (id:String):Thread.atExit ⟨.pure (.again (.builtin id {})),.builtin id {},default,[]⟩=false:=by
 by_cases h:id="lifetime.exit"
 ·subst h;rfl
 ·have e:∀t:id="lifetime.exit"->Bool,dite (id="lifetime.exit") t (λ_=>false)=false:=λt=>dif_neg h
  delta Thread.atExit Thread.atExit.match_1;delta Thread.atExit._sparseCasesOn_1 Thread.atExit._sparseCasesOn_2 Thread.atExit._sparseCasesOn_3;exact e _
theorem quiet_id {id:String} (h:(Code.builtin id {}).quiet=true):id.startsWith "lifetime."=false:=by
 have e:(Code.builtin id {}).quiet= !((id.startsWith "lifetime."&& !Thread.atExit ⟨.pure (.again (.builtin id {})),.builtin id {},default,[]⟩)||false):=rfl;rw [e,exit_no] at h;cases q:id.startsWith "lifetime." with
 |false=>rfl
 |true=>rw [q] at h;cases h
theorem quietQ_ok {c:Code} (h:quietQ c=true):c.quiet=true:=by
 cases c with
 |builtin id args=>
  have h1:(Code.builtin id {}).quiet=true:=by
   have:=h;simp only [quietQ,quietId] at this;rw [<-PySem.W.ZFast.ze17772548960776305114] at this;exact this
  exact Code.quiet_builtin _ (quiet_id h1)
 |_=>rfl
def callT (self:Addr) (fd:FuncData) (body:List Stmt) (args:Args):Sem Fin:=
 PySem.W.R.bindR (PySem.W.Fast.tw6609576154772507232 fd.code 1) λv=>
 PySem.W.R.bindR (PySem.W.Fast.tw9782568553167038054 fd args) λbinds=>
 PySem.W.R.bindR (PySem.W.Fast.tw11113344188204177931 fd.scope fd.globals fd.closure binds ((match v with| .str q _=>q|_=>fd.qualname)++Str.ofString ".<locals>.") (some self) fd.code none fd.builtins) λenv=>
 Sem.pure (.again (.func body env))
theorem callT_eq (self:Addr) (fd:FuncData) (body:List Stmt) (args:Args):callT self fd body args=(do
  let v<-field fd.code 1;let binds<-bindArgs fd args;let env<-newFunctionEnv fd.scope fd.globals fd.closure binds ((match v with| .str q _=>q|_=>fd.qualname)++Str.ofString ".<locals>.") (some self) fd.code none fd.builtins;Sem.pure (.again (.func body env))):=by
 unfold callT;rw [<-PySem.W.R.bindR_eq,<-PySem.W.Fast.te6609576154772507232,<-PySem.W.Fast.te9782568553167038054,<-PySem.W.Fast.te11113344188204177931];rfl
theorem call_sound {prog:Program} {w:World} {A:Around} {R:Result->Shared->Prop} {s:Shared} {a c:Addr} {o:Obj} {fd:FuncData} {body:List Stmt} {args:Args}
  (hroom:A.depth<recursionLimit) (ho:s.heap.get? a=some o) (hd:o.data= .func fd) (hcd:fd.code= .ref c) (hco:fd.scope.isCoroutine=false) (hgen:fd.scope.isGenerator=false) (hbody:fd.body= .stmts body)
  (h:wpOwn (model prog w) A (.call (.ref a) args) (callT a fd body args) (λfin s'=>s'.heap.NoLimit/\postC prog w A R fin s') (postE R) s):
  codeAny (model prog w) A (.call (.ref a) args) R s:=by
 refine codeAny_of_own ?_;intro Γ p hc hΓ;have h1:=h Γ p hc hΓ;rw [callT_eq] at h1;show Sem.wp (model prog w) Γ (callAny (.ref a) args) _ _ p s;simp only [callAny];rw [jQ,Sem.wp_load_of (model prog w) Γ _ p s ho _];simp only [hd,callFunction,hco,hgen,hbody,hcd];simp only [hcd] at h1;rw [jQ] at h1⊢;have key:∀(q:Str) p1 s1,Sem.wp (model prog w) Γ (do
    let binds<-bindArgs fd args;let env<-newFunctionEnv fd.scope fd.globals fd.closure binds (q++Str.ofString ".<locals>.") (some a) (.ref c) none fd.builtins;Sem.pure (.again (.func body env))) (λfin _ s'=>s'.heap.NoLimit/\postC prog w A R fin s') (λe _ s'=>postE R e s') p1 s1->
   Sem.wp (model prog w) Γ (do
    let compiled<-pure q;let binds<-bindArgs fd args;let env<-newFunctionEnv fd.scope fd.globals fd.closure binds (compiled++Str.ofString ".<locals>.") (some a) (.ref c) none fd.builtins;enterFrame
    again (.func body env)) (λa _ s'=>match a with| .done f=>R (.ok f) s'| .again c'=>c'.quiet=true/\codeAny (model prog w) A c' R s') (λe _ s'=>R (.error e) s') p1 s1:=by
  intro q p1 s1 h1;rw [jQ,Sem.wp_pure'];rw [jQ] at h1⊢;refine jW (model prog w) Γ _ (λbinds p2 s2 h2=>?_) (λe p1 s1 h1=>h1) p1 s1 h1;rw [jQ] at h2⊢;refine jW (model prog w) Γ _ (λenv p3 s3 h3=>?_) (λe p1 s1 h1=>h1) p2 s2 h2;rw [jQ];have h4:s3.heap.NoLimit/\postC prog w A R (.again (.func body env)) s3:=h3;have z:=(wpAny_enterFrame (M:=model prog w) (A:=A.under (.call (.ref a) args)) (E:=λe s'=>R (.error e) s') (Q:=λ_ s'=>postC prog w A R (.again (.func body env)) s') h4.1 (by show A.depth+(Code.call (.ref a) args).weight<_;have:(Code.call (.ref a) args).weight=0:=rfl;omega) h4.2) Γ p3 (hc▸hΓ.in);exact jW (model prog w) Γ _ (λ_ p4 s4 h5=>h5) (λ_ _ _ x=>x) p3 s3 z
 refine jW (model prog w) Γ _ (λv p1 s1 h1=>?_) (λe p1 s1 h1=>h1) p s h1;cases v<;>exact key _ p1 s1 h1
inductive Fo where
 |ret (r:Result)
 |goto (c:Code)
 |bad (n:Nat)
structure Ns where
 n:List Nat
 o:List Obj
 v:List Value
 z:List (Nat×Obj)
noncomputable def Ns.nil:Ns:=⟨[],[],[],[]⟩
noncomputable def zs (l:List Ns):List (Nat×Obj):=l.flatMap (·.z)
inductive Side where
 |n (x:Nat)
 |c (x:Code)
 |o (x:Option Obj)
 |h (x:Option Value)
 |f (x:Option (List Env))
 |t (x:Sem Fin)
structure Cx where
 T:BT
 ad:List Nat
 pns:List Ns
 frs:List Env
 hd:Option Value
structure Orc where
 code:Code
 hd:Option (Option Value)
 frs:Option (List Env)
 pre:List (Nat×Nat×Obj)
 k:Nat
 fo:List Nat->Ns->Fo
 post:List Nat->Ns->List (Nat×Obj)
 news:List Nat->Ns->List Obj
 fact:List Nat->Ns->Prop
structure Cf where
 kt:KT
 st:Setting
 sf:Setting
 frs:Option (List Env)
 tt:Nat
 d0:Nat
 u0:Nat
 zr:List (Nat×Obj)
 gr:List Ns->List (Nat×Obj)
structure Me where
 T:BT
 m:Nat
 ad:List Nat
 sup:List Nat
 nss:List Ns
 tok:Nat
 tr:List Nat
 ors:List (Cx->Orc)
 pns:List Ns
 cs:List Nat
 obs:List (Side×Side)
structure Out where
 fin:Fo
 e:Me
inductive Ko where
 |base
 |ret (c:Code) (hd:Option Value) (k:Result->Sem Fin) (κ:Ko)
 |att (k:Result->TT) (κ:Ko)
inductive Ru where
 |tt (t:TT)
 |evt (c:Code)
noncomputable def cutB:List Nat->Bool
 |0::_=>true
 |_=>false
noncomputable def cutR:List Nat->List Nat
 |0::cs=>cs
 |(n+1)::cs=>n::cs
 |[]=>[]
noncomputable def handledOf (h0:Option Value):Ko->Option Value
 | .ret _ hd _ κ=>match hd with|some e=>some e|none=>handledOf h0 κ
 | .att _ κ=>handledOf h0 κ
 | .base=>h0
noncomputable def wsum:Ko->Nat
 | .ret c _ _ κ=>wsum κ+c.weight
 | .att _ κ=>wsum κ
 | .base=>0
noncomputable def usum:Ko->Nat
 | .ret c _ _ κ=>usum κ+c.cUnits
 | .att _ κ=>usum κ
 | .base=>0
noncomputable def frsOf (f0:Option (List Env)):Ko->Option (List Env)
 | .ret c _ _ κ=>pushEnvs c.envs (frsOf f0 κ)
 | .att _ κ=>frsOf f0 κ
 | .base=>f0
noncomputable def putAll:List (Nat×Obj)->BT->BT
 |[],T=>T
 |p::l,T=>putAll l (T.set p.1 λ_=>p.2)
noncomputable def fitAll:List (Nat×Obj)->BT->Bool
 |[],_=>true
 |p::l,T=>match T.get p.1 with
  |some _=>fitAll l (T.set p.1 λ_=>p.2)
  |none=>false
noncomputable def addAll:List Obj->List Nat->BT->Nat->List Nat->Option (BT×Nat×List Nat)
 |[],_,T,m,ad=>some (T,m,ad)
 |_::_,[],_,_,_=>none
 |o::l,a::as,T,m,ad=>match (T.ins m o).get m with
  |some _=>addAll l as (T.ins m o) (m+1) (ad++[a])
  |none=>none
noncomputable def preAll:List (Nat×Nat×Obj)->BT->List Nat->List (Side×Side)->List (Side×Side)
 |[],_,_,l=>l
 |p::r,T,ad,l=>preAll r T ad ((.o (T.get p.1),.o (some p.2.2))::(.n (ad.getD p.1 0),.n p.2.1)::l)
noncomputable def funcOf (C:Cf) (a:Nat):Option (FuncData×List Stmt):=match Nat.blt a 216 with
 |true=>match C.kt.get a with
  |some o=>match o.data with
   | .func fd=>match fd.code with
    | .ref _=>match fd.scope.isCoroutine with
     |false=>match fd.scope.isGenerator with
      |false=>match fd.body with
       | .stmts b=>some (fd,b)
       |_=>none
      |true=>none
     |true=>none
    |_=>none
   |_=>none
  |none=>none
 |false=>none
noncomputable def selfIter:Value->Bool
 | .type n=>n=="list_iterator"||n=="range_iterator"||n=="dict_valueiterator"
 |_=>false
def startT (e:Expr) (depth:Nat) (a:Addr) (acc:Value) (env:Env):Sem Fin:= .load a none λo=>match selfIter o.cls with
 |true=> .pure (.again (.compLoop e depth (.ref a) acc env))
 |false=>DF (.compStart e depth (.ref a) acc env)
noncomputable def syncAt (e:Expr) (depth:Nat):Bool:=match e with
 | .ListComp _ gens _ _=>match gens[depth]? with
  |some g=>g.is_async==0
  |none=>false
 |_=>false
def denC (C:Cf) (κ:Ko) (c:Code):TT:=match c with
 | .call (.ref a) args=>match funcOf C a with
  |some p=>match Nat.blt (C.d0+wsum κ) 1000 with
   |true=> .sem (callT a p.1 p.2 args)
   |false=> .sem (DF (.call (.ref a) args))
  |none=> .sem (DF (.call (.ref a) args))
 | .func body env=>match Nat.blt (C.u0+usum κ+3) 9900 with
  |true=>match C.tt with
   |0=> .sem (funcT body env)
   |n+1=>funcTT n body env
  |false=> .sem (DF (.func body env))
 | .forLoop target it body orelse env=>match Nat.blt (C.u0+usum κ) 9900 with
  |true=> .sem (forT target it body orelse env)
  |false=> .sem (DF (.forLoop target it body orelse env))
 | .whileLoop test body orelse env=>match C.tt with
  |0=> .sem (DF (.whileLoop test body orelse env))
  |n+1=>match Nat.blt (C.u0+usum κ) 9900 with
   |true=>whileTT n test body orelse env
   |false=> .sem (DF (.whileLoop test body orelse env))
 | .block ss env=>match C.tt with
  |0=> .sem (DF (.block ss env))
  |n+1=>match Nat.blt (C.u0+usum κ) 9900 with
   |true=>blockTT n ss env
   |false=> .sem (DF (.block ss env))
 | .compStart e depth (.ref a) acc env=>match syncAt e depth with
  |true=> .sem (startT e depth a acc env)
  |false=> .sem (DF (.compStart e depth (.ref a) acc env))
 |c=> .sem (DF c)
noncomputable def slotsT:List Nat->Nat->List Obj->BT->BT
 |[],_,_,T=>T
 |j::js,i,os,T=>slotsT js (i+1) os (T.set j λx=>{x with slots:=(os.getD i default).slots})
noncomputable def frChk:List Env->List Nat->BT->List Nat->List (Side×Side)->Option (List (Side×Side))
 |[],[],_,_,l=>some l
 |env::es,j::js,T,ad,l=>match env.frame with
  |some f=>match env.scope.kind with
   | .function=>match T.get j with
    |some x=>match x.data with
     | .dict _ _=>frChk es js T ad ((.n f,.n (ad.getD j 0))::l)
     |_=>none
    |none=>none
   |_=>none
  |none=>none
 |_,_,_,_,_=>none
noncomputable def tbO (head:Value) (f:Addr) (vs:List Value):Obj:={cls:= .type "traceback",data:= .fields (head:: .ref f:: .none::rawInt f:: .none::vs).toArray}
def noteN (C:Cf) (c:Code) (κ:Ko) (f:Addr) (j:Nat) (head:Value) (js:List Nat) (e:Me):Option Me:=match pushEnvs c.envs (frsOf C.frs κ) with
 |some frs=>match frs with
  |env::rest=>match env.frame with
   |some f0=>match e.nss with
    |ns::nss=>match e.sup with
     |a::sup=>match frChk (env::rest) js e.T e.ad ((.n f0,.n f)::e.obs) with
      |some obs=>match addAll [tbO head f ns.v] [a] (slotsT js 0 ns.o e.T) e.m e.ad with
       |some r=>match r.1.get j with
        |some o=>match o.data with
         | .fields _=>some {e with nss,sup,T:=r.1.set j (Obj.mapFields (·.setIfInBounds 1 (.ref a))),m:=r.2.1,ad:=r.2.2,obs}
         |_=>none
        |none=>none
       |none=>none
      |none=>none
     |[]=>none
    |[]=>none
   |none=>none
  |[]=>none
 |none=>none
structure NP where
 a:Nat
 f:Nat
 j:Nat
 v:Value
 tr:List Nat
noncomputable def fldAt (T:BT) (j k:Nat):Option Value:=match T.get j with
 |some o=>match o.data with
  | .fields vs=>vs[k]?
  |_=>none
 |none=>none
def noteP (v:Value) (env:Env) (T:BT) (tr:List Nat):Option NP:=match v with
 | .ref a=>match env.frame with
  |some f=>match tr with
   |(j+1)::tr=>match fldAt T j 1 with
    |some v=>some ⟨a,f,j,v,tr⟩
    |none=>none
   |_=>none
  |none=>none
 |_=>none
def noteQ (T:BT) (tr:List Nat):Option (Nat×Value×List Nat):=match tr with
 |(i+1)::tr=>match fldAt T i 3 with
  |some v=>some (i,v,tr)
  |none=>none
 |_=>none
def noteS (C:Cf) (c:Code) (κ:Ko) (v:Value) (env:Env) (e:Me):Option Me:=match noteP v env e.T e.tr with
 |none=>none
 |some p=>match p.v with
  | .none=>match p.tr with
   |n::tr=>noteN C c κ p.f p.j .none (tr.take n) {e with tr:=tr.drop n,obs:=(.n p.a,.n (e.ad.getD p.j 0))::e.obs}
   |[]=>none
  | .ref h=>match noteQ e.T p.tr with
   |none=>none
   |some q=>match q.2.1 with
    | .int (.ofNat m) 0=>some {e with tr:=q.2.2,obs:=(.n m,.n p.f)::(.n h,.n (e.ad.getD q.1 0))::(.n p.a,.n (e.ad.getD p.j 0))::e.obs}
    | .none=>match q.2.2 with
     |n::tr=>noteN C c κ p.f p.j (.ref h) (tr.take n) {e with T:=e.T.set q.1 (Obj.mapFields (·.setIfInBounds 3 .none)),tr:=tr.drop n,obs:=(.n h,.n (e.ad.getD q.1 0))::(.n p.a,.n (e.ad.getD p.j 0))::e.obs}
     |[]=>none
    |_=>none
  |_=>none
noncomputable def hdSide (o:Orc) (h:Option Value) (l:List (Side×Side)):List (Side×Side):=match o.hd with
 |none=>l
 |some h'=>(.h h,.h h')::l
noncomputable def frSide (o:Orc) (f:Option (List Env)) (l:List (Side×Side)):List (Side×Side):=match o.frs with
 |none=>l
 |some f'=>(.f f,.f (some f'))::l
def aft (o:Orc) (c':Code) (h:Option Value) (fr:Option (List Env)) (as:List Nat) (ns:Ns) (r:BT×Nat×List Nat) (ors:List (Cx->Orc)) (nss:List Ns) (e:Me):Me:=
 {e with T:=r.1,m:=r.2.1,ad:=r.2.2,sup:=e.sup.drop o.k,nss,tok:=ns.n.headD 0,ors,pns:=e.pns++[ns],cs:=cutR e.cs,obs:=frSide o fr (hdSide o h (preAll o.pre e.T e.ad ((.c c',.c o.code)::e.obs)))}
def ans (C:Cf) (h0:Option Value) (c':Code) (κ:Ko) (o:Orc) (ors:List (Cx->Orc)) (e:Me):Option (Fo×Me):=match (Nat.ble (wsum κ) 60&&Nat.ble (usum κ) 300) with
 |false=>none
 |true=>match e.nss with
  |[]=>none
  |ns::nss=>match (Nat.ble o.k e.sup.length&&fitAll (o.post (e.sup.take o.k) ns) e.T) with
   |false=>none
   |true=>match addAll (o.news (e.sup.take o.k) ns) (e.sup.take o.k) (putAll (o.post (e.sup.take o.k) ns) e.T) e.m e.ad with
    |none=>none
    |some r=>some (o.fo (e.sup.take o.k) ns,aft o c' (handledOf h0 κ) (frsOf C.frs κ) (e.sup.take o.k) ns r ors nss e)
def run (C:Cf) (h0:Option Value):Nat->Code->Ko->Ru->Me->Out
 |0,_,_,_,e=>⟨.bad 0,e⟩
 |n+1,c,κ,.evt c',e=>match cutB e.cs with
  |false=>run C h0 n c' κ (.tt (denC C κ c')) {e with cs:=cutR e.cs}
  |true=>match e.ors with
   |[]=>match κ with
    | .base=>⟨.goto c',e⟩
    |_=>⟨.bad 17,e⟩
   |f::ors=>match ans C h0 c' κ (f ⟨e.T,e.ad,e.pns,(frsOf C.frs κ).getD [],handledOf h0 κ⟩) ors e with
    |none=>⟨.bad 18,e⟩
    |some r=>match r.1 with
     | .ret res=>match κ with
      | .base=>⟨.ret res,r.2⟩
      | .ret c₁ _ k κ'=>run C h0 n c₁ κ' (.tt (.sem (k res))) r.2
      | .att _ _=>⟨.bad 19,e⟩
     | .goto c₂=>run C h0 n c κ (.evt c₂) r.2
     | .bad _=>⟨.bad 21,e⟩
 |n+1,c,κ,.tt t,e=>match t with
  | .att t k=>run C h0 n c (.att k κ) (.tt t) e
  | .note v env k=>match noteS C c κ v env e with
   |some e=>run C h0 n c κ (.tt k) e
   |none=>⟨.bad 22,e⟩
  | .sem t=>match t with
   | .pure fin=>match fin with
    | .done f=>match κ with
     | .base=>⟨.ret (.ok f),e⟩
     | .ret c' _ k κ'=>run C h0 n c' κ' (.tt (.sem (k (.ok f)))) e
     | .att k κ'=>run C h0 n c κ' (.tt (k (.ok f))) e
    | .again c'=>match quietQ c' with
     |false=>⟨.bad 2,e⟩
     |true=>match κ with
      | .att _ _=>⟨.bad 1,e⟩
      |κ=>run C h0 n c κ (.evt c') e
   | .raise v=>match κ with
    | .base=>⟨.ret (.error v),e⟩
    | .ret c' _ k κ'=>run C h0 n c' κ' (.tt (.sem (k (.error v)))) e
    | .att k κ'=>run C h0 n c κ' (.tt (k (.error v))) e
   | .rule _ k=>run C h0 n c κ (.tt (.sem (k ()))) e
   | .at _ k=>run C h0 n c κ (.tt (.sem (k ()))) e
   | .point _ k=>run C h0 n c κ (.tt (.sem (k ()))) e
   | .ask k=>run C h0 n c κ (.tt (.sem (k C.st))) {e with obs:=(.t (k C.sf),.t (k C.st))::e.obs}
   | .load a _ k=>match e.tr with
    |[]=>⟨.bad 4,e⟩
    |j::tr=>match j with
     |0=>match Nat.blt a 216 with
      |true=>match C.kt.get a with
       |some o=>run C h0 n c κ (.tt (.sem (k o))) {e with tr}
       |none=>⟨.bad 5,e⟩
      |false=>⟨.bad 6,e⟩
     |j+1=>match Nat.ble 1000 j with
      |false=>match e.T.get j with
       |some o=>run C h0 n c κ (.tt (.sem (k o))) {e with tr,obs:=(.n a,.n (e.ad.getD j 0))::e.obs}
       |none=>⟨.bad 7,e⟩
      |true=>match C.zr[j-1000]? with
       |some p=>run C h0 n c κ (.tt (.sem (k p.2))) {e with tr,obs:=(.n a,.n p.1)::e.obs}
       |none=>⟨.bad 7,e⟩
   | .alloc o k=>match e.sup with
    |[]=>⟨.bad 8,e⟩
    |a::sup=>match o.isFreed with
     |true=>⟨.bad 8,e⟩
     |false=>match addAll [o] [a] e.T e.m e.ad with
      |some r=>run C h0 n c κ (.tt (.sem (k a))) {e with T:=r.1,m:=r.2.1,ad:=r.2.2,sup}
      |none=>⟨.bad 8,e⟩
   | .update a _ f k=>match e.tr with
    |[]=>⟨.bad 9,e⟩
    |j::tr=>match j with
     |0=>⟨.bad 10,e⟩
     |j+1=>match e.T.get j with
      |some o=>match (f o).isFreed with
       |false=>run C h0 n c κ (.tt (.sem (k ()))) {e with tr,T:=e.T.set j f,obs:=(.n a,.n (e.ad.getD j 0))::e.obs}
       |true=>⟨.bad 11,e⟩
      |none=>⟨.bad 12,e⟩
   | .fresh k=>run C h0 n c κ (.tt (.sem (k e.tok))) {e with tok:=e.tok+1}
   | .handled own k=>match own with
    |false=>run C h0 n c κ (.tt (.sem (k (handledOf h0 κ)))) e
    |true=>⟨.bad 13,e⟩
   | .call c' hd _ _ k=>match okMark hd with
    |false=>⟨.bad 14,e⟩
    |true=>run C h0 n c (.ret c hd k κ) (.evt c') e
   |_=>⟨.bad 20,e⟩
section
structure Inv (C:Cf) (hb:Heap) (ad0:List Nat) (h:Heap) (T:BT) (m:Nat) (ad:List Nat) (Z0:List (Nat×Obj)) (Z:List Ns):Prop where
 len:ad.length=m
 own:∀j o,T.get j=some o->j<m/\h.get? (ad.getD j 0)=some o
 nd:ad.Nodup
 lt:∀a∈ad,216<=a/\a<h.objs.size
 old:∀b o,b<216->C.kt.get b=some o->h.get? b=some o
 keep:∀b o,hb.get? b=some o->b∉ad0->h.get? b=some o
 grow:hb.objs.size<=h.objs.size
 new:∀a∈ad,a∈ad0\/hb.objs.size<=a
 big:216<=hb.objs.size
 frz:∀p∈zs Z,h.get? p.1=some p.2/\p.1∉ad/\(hb.objs.size<=p.1\/p∈Z0)
 grp:∀p∈C.gr Z,h.get? p.1=some p.2/\p.1∉ad/\216<=p.1/\(p.1∈ad0\/hb.objs.size<=p.1)/\∀q∈zs Z,q.1≠p.1
 gnd:((C.gr Z).map (·.1)).Nodup
section
variable {C:Cf} {hb h:Heap} {ad0 ad:List Nat} {T:BT} {m:Nat} {Z0:List (Nat×Obj)} {Z:List Ns}
theorem getD_mem {l:List Nat} {j:Nat} (h:j<l.length):l.getD j 0∈l:=by
 rw [zY,zQ h];exact getElem_mem h
theorem getD_inj {l:List Nat} (hn:l.Nodup) {i j:Nat} (hi:i<l.length) (hj:j<l.length) (e:l.getD i 0=l.getD j 0):i=j:=by
 rw [zY,zY,zQ hi,zQ hj] at e;have e':l[i]=l[j]:=e;have hp:=pairwise_iff_getElem.mp hn;rcases Nat.lt_trichotomy i j with q|q|q
 ·exact absurd e' (hp i j hi hj q)
 ·exact q
 ·exact absurd e'.symm (hp j i hj hi q)
theorem Inv.push (I:Inv C hb ad0 h T m ad Z0 Z) {o:Obj} (hf:o.isFreed=false) (hg:((T.ins m o).get m).isSome=true):Inv C hb ad0 (h.push o) (T.ins m o) (m+1) (ad++[h.objs.size]) Z0 Z where
 len:=by rw [jZ,I.len];rfl
 own:=λj o' e=>by
  rw [BT.get_ins o T m hg] at e;by_cases hj:j=m
  ·subst hj
   rw [if_pos rfl] at e;cases e;refine ⟨Nat.lt_succ_self _,?_⟩;have:(ad++[h.objs.size]).getD j 0=h.objs.size:=by rw [<-I.len];simp
   rw [this];exact Heap.get?_push_size _ hf
  ·rw [vk hj] at e
   obtain ⟨h1,h2⟩:=I.own j o' e;refine ⟨Nat.lt_succ_of_lt h1,?_⟩;have:(ad++[h.objs.size]).getD j 0=ad.getD j 0:=by
    rw [zY,zY,vv (by rw [I.len];exact h1)]
   rw [this];exact vJ _ h2
 nd:=by
  refine kX.mpr ⟨I.nd,by simp,λa ha b hb e=>?_⟩;rw [jJ.mp hb] at e;exact absurd (I.lt a ha).2 (by rw [e];exact Nat.lt_irrefl _)
 lt:=λa ha=>by
  rw [Heap.size_push];rcases jq.mp ha with h1|h1
  ·exact ⟨(I.lt a h1).1,Nat.lt_succ_of_lt (I.lt a h1).2⟩
  ·rw [jJ.mp h1];exact ⟨zZ I.big I.grow,Nat.lt_succ_self _⟩
 old:=λb o' hb' e=>vJ _ (I.old b o' hb' e)
 keep:=λb o' e hn=>vJ _ (I.keep b o' e hn)
 grow:=by rw [Heap.size_push];exact Nat.le_succ_of_le I.grow
 new:=λa ha=>by
  rcases jq.mp ha with h1|h1
  ·exact I.new a h1
  ·rw [jJ.mp h1];exact .inr I.grow
 big:=I.big
 frz:=λp hp=>by
  obtain ⟨h1,h2,h3⟩:=I.frz p hp;refine ⟨vJ _ h1,λhm=>?_,h3⟩;rcases jq.mp hm with h4|h4
  ·exact h2 h4
  ·have:=kY h1
   rw [jJ.mp h4] at this;exact Nat.lt_irrefl _ this
 grp:=λp hp=>by
  obtain ⟨h1,h2,h3⟩:=I.grp p hp;refine ⟨vJ _ h1,λhm=>?_,h3⟩;rcases jq.mp hm with h4|h4
  ·exact h2 h4
  ·have:=kY h1
   rw [jJ.mp h4] at this;exact Nat.lt_irrefl _ this
 gnd:=I.gnd
theorem Inv.upd (I:Inv C hb ad0 h T m ad Z0 Z) {j:Nat} {o:Obj} {f:Obj->Obj} (e:T.get j=some o) (hf:(f o).isFreed=false):Inv C hb ad0 (h.update (ad.getD j 0) f) (T.set j f) m ad Z0 Z:=by
 obtain ⟨hj,hg⟩:=I.own j o e;have hjl:j<ad.length:=by rw [I.len];exact hj
 have ha:=getD_mem hjl;have hs:Heap.SameBut (ad.getD j 0) h (h.update (ad.getD j 0) f):=Heap.SameBut.update ..;have lt:=I.lt _ ha;refine ⟨I.len,λi o' e'=>?_,I.nd,λa h1=>by rw [hs.1];exact I.lt a h1,λb o' hb' e'=>?_,λb o' e' hn=>?_,by rw [hs.1];exact I.grow,I.new,I.big,λp hp=>?_,λp hp=>?_,I.gnd⟩
 ·rw [BT.get_set] at e'
  by_cases hi:i=j
  ·subst hi
   rw [if_pos rfl,e] at e';cases e';refine ⟨hj,?_⟩;first|exact Heap.get?_update_self f hg hf|exact Heap.get?_update_self _ hg hf
  ·rw [vk hi] at e'
   obtain ⟨h1,h2⟩:=I.own i o' e';exact ⟨h1,(hs.2 _ λq=>hi (getD_inj I.nd (by rw [I.len];exact h1) hjl q)).trans h2⟩
 ·exact (hs.2 b (λq=>by rw [q] at hb';omega)).trans (I.old b o' hb' e')
 ·refine (hs.2 b (λq=>?_)).trans (I.keep b o' e' hn)
  rcases I.new _ ha with h1|h1
  ·exact hn (q▸h1)
  ·have:=kY e'
   rw [q] at this;exact absurd this (vQ.mpr h1)
 ·obtain ⟨h1,h2,h3⟩:=I.frz p hp
  exact ⟨(hs.2 p.1 λq=>h2 (by rw [q];exact ha)).trans h1,h2,h3⟩
 ·obtain ⟨h1,h2,h3⟩:=I.grp p hp
  exact ⟨(hs.2 p.1 λq=>h2 (by rw [q];exact ha)).trans h1,h2,h3⟩
end
def OSub (e e':Me):Prop:=∀q∈e.obs,q∈e'.obs
theorem OSub.refl (e:Me):OSub e e:=λ_ h=>h
theorem OSub.trans {a b c:Me} (x:OSub a b) (y:OSub b c):OSub a c:=λq h=>y q (x q h)
theorem preAll_sub:∀(l:List (Nat×Nat×Obj)) (T:BT) (ad:List Nat) (r:List (Side×Side)),(∀q∈r,q∈preAll l T ad r)/\∀p∈l,(Side.o (T.get p.1),Side.o (some p.2.2))∈preAll l T ad r/\(Side.n (ad.getD p.1 0),Side.n p.2.1)∈preAll l T ad r
 |[],_,_,_=>⟨λ_ h=>h,λ_ h=>nomatch h⟩
 |p::l,T,ad,r=>by
  obtain ⟨h1,h2⟩:=preAll_sub l T ad ((.o (T.get p.1),.o (some p.2.2))::(.n (ad.getD p.1 0),.n p.2.1)::r);refine ⟨λq hq=>h1 q (zv _ (zv _ hq)),λq hq=>?_⟩;rcases vz.mp hq with rfl|hq
  ·exact ⟨h1 _ (zy ..),h1 _ (zv _ (zy ..))⟩
  ·exact h2 q hq
theorem hdSide_sub (o:Orc) (h:Option Value) (l:List (Side×Side)):(∀q∈l,q∈hdSide o h l)/\∀h',o.hd=some h'->(Side.h h,Side.h h')∈hdSide o h l:=by
 unfold hdSide;cases e:o.hd with
 |none=>exact ⟨λ_ h=>h,λ_ h=>nomatch h⟩
 |some x=>exact ⟨λ_ h=>zv _ h,λh' e'=>by cases e';exact zy ..⟩
theorem frSide_sub (o:Orc) (h:Option (List Env)) (l:List (Side×Side)):(∀q∈l,q∈frSide o h l)/\∀h',o.frs=some h'->(Side.f h,Side.f (some h'))∈frSide o h l:=by
 unfold frSide;cases e:o.frs with
 |none=>exact ⟨λ_ h=>h,λ_ h=>nomatch h⟩
 |some x=>exact ⟨λ_ h=>zv _ h,λh' e'=>by cases e';exact zy ..⟩
theorem nn {α:Type} {a:α} (h:none=some a):False:=nomatch h
inductive FkSp (env:Env) (es:List Env) (j:Nat) (js:List Nat) (T:BT) (ad:List Nat) (l l':List (Side×Side)):Prop
 |mk (f:Addr) (x:Obj) (E:Array DictEntry) (n:Nat):env.frame=some f->env.scope.kind= .function->T.get j=some x->x.data= .dict E n->frChk es js T ad ((.n f,.n (ad.getD j 0))::l)=some l'->FkSp env es j js T ad l l'
theorem frChk_cons {env:Env} {es:List Env} {j:Nat} {js:List Nat} {T:BT} {ad:List Nat} {l l':List (Side×Side)} (h:frChk (env::es) (j::js) T ad l=some l'):FkSp env es j js T ad l l':=by
 conv at h=>lhs;whnf
 generalize hf:env.frame=x at h;rcases x with _|f
 ·exact (nn h).elim
 conv at h=>lhs;whnf
 generalize hk:env.scope.kind=k at h;cases k with
 |function=>
  conv at h=>lhs;whnf
  generalize hx:T.get j=x at h;rcases x with _|x
  ·exact (nn h).elim
  conv at h=>lhs;whnf
  generalize hd:x.data=d at h;cases d with
  |dict E n=>exact .mk f x E n hf hk hx hd h
  |_=>exact (nn h).elim
 |_=>exact (nn h).elim
theorem frChk_sub:∀(es:List Env) (js:List Nat) (T:BT) (ad:List Nat) (l l':List (Side×Side)),frChk es js T ad l=some l'->∀q∈l,q∈l':=by
 intro es;induction es with
 |nil=>
  intro js T ad l l' h;cases js with
  |nil=>
   have h:some l=some l':=h;cases h;exact λ_ h=>h
  |cons j js=>exact (nn h).elim
 |cons env es ih=>
  intro js T ad l l' h;cases js with
  |nil=>exact (nn h).elim
  |cons j js=>
   obtain ⟨f,x,E,n,-,-,-,-,h⟩:=frChk_cons h;exact λq hq=>ih js T ad _ _ h q (zv _ hq)
theorem addAll_cons {o:Obj} {l:List Obj} {a:Nat} {as:List Nat} {T:BT} {m:Nat} {ad:List Nat} {r:BT×Nat×List Nat} (e:addAll (o::l) (a::as) T m ad=some r):((T.ins m o).get m).isSome=true/\addAll l as (T.ins m o) (m+1) (ad++[a])=some r:=by
 conv at e=>lhs;whnf
 generalize (T.ins m o).get m=x at e;cases x with
 |none=>exact (nn e).elim
 |some x=>exact ⟨rfl,e⟩
inductive NSp (C:Cf) (c:Code) (κ:Ko) (f:Addr) (j:Nat) (head:Value) (js:List Nat) (e e':Me):Prop
 |mk (env:Env) (rest:List Env) (f0:Addr) (ns:Ns) (nss:List Ns) (a:Nat) (sup:List Nat) (obs:List (Side×Side)) (r:BT×Nat×List Nat) (o:Obj) (vs:Array Value):pushEnvs c.envs (frsOf C.frs κ)=some (env::rest)->env.frame=some f0->e.nss=ns::nss->e.sup=a::sup->frChk (env::rest) js e.T e.ad ((.n f0,.n f)::e.obs)=some obs->
   addAll [tbO head f ns.v] [a] (slotsT js 0 ns.o e.T) e.m e.ad=some r->r.1.get j=some o->o.data= .fields vs->
   e'={e with nss,sup,T:=r.1.set j (Obj.mapFields (·.setIfInBounds 1 (.ref a))),m:=r.2.1,ad:=r.2.2,obs}->NSp C c κ f j head js e e'
theorem noteN_spec {C:Cf} {c:Code} {κ:Ko} {f:Addr} {j:Nat} {head:Value} {js:List Nat} {e e':Me} (h:noteN C c κ f j head js e=some e'):NSp C c κ f j head js e e':=by
 delta noteN at h;generalize h1:pushEnvs c.envs (frsOf C.frs κ)=x at h;rcases x with _|_|⟨env,rest⟩
 ·exact (nn h).elim
 ·exact (nn h).elim
 conv at h=>lhs;whnf
 generalize h2:env.frame=x at h;rcases x with _|f0
 ·exact (nn h).elim
 conv at h=>lhs;whnf
 generalize h3:e.nss=x at h;rcases x with _|⟨ns,nss⟩
 ·exact (nn h).elim
 conv at h=>lhs;whnf
 generalize h4:e.sup=x at h;rcases x with _|⟨a,sup⟩
 ·exact (nn h).elim
 conv at h=>lhs;whnf
 generalize h5:frChk (env::rest) js e.T e.ad ((.n f0,.n f)::e.obs)=x at h;rcases x with _|obs
 ·exact (nn h).elim
 conv at h=>lhs;whnf
 generalize h6:addAll [tbO head f ns.v] [a] (slotsT js 0 ns.o e.T) e.m e.ad=x at h;rcases x with _|r
 ·exact (nn h).elim
 conv at h=>lhs;whnf
 generalize h7:r.1.get j=x at h;rcases x with _|o
 ·exact (nn h).elim
 conv at h=>lhs;whnf
 generalize h8:o.data=x at h;cases x with
 |fields vs=>
  cases h;exact .mk _ _ _ _ _ _ _ _ _ _ _ h1 h2 h3 h4 h5 h6 h7 h8 rfl
 |_=>exact (nn h).elim
theorem noteN_sub {C:Cf} {c:Code} {κ:Ko} {f:Addr} {j:Nat} {head:Value} {js:List Nat} {e e':Me} (h:noteN C c κ f j head js e=some e'):OSub e e':=by
 obtain ⟨env,rest,f0,ns,nss,a,sup,obs,r,o,vs,-,-,-,-,hs,-,-,-,rfl⟩:=noteN_spec h;exact λq hq=>frChk_sub _ _ _ _ _ _ hs q (zv _ hq)
inductive FSp (T:BT) (j k:Nat) (v:Value):Prop
 |mk (o:Obj) (vs:Array Value):T.get j=some o->o.data= .fields vs->vs[k]?=some v->k<vs.size->FSp T j k v
theorem fldAt_spec {T:BT} {j k:Nat} {v:Value} (h:fldAt T j k=some v):FSp T j k v:=by
 delta fldAt at h;generalize ho:T.get j=x at h;rcases x with _|o
 ·exact (nn h).elim
 conv at h=>lhs;whnf
 generalize hd:o.data=x at h;cases x with
 |fields vs=>
  refine .mk o vs ho hd h (Nat.lt_of_not_le λhk=>?_);have h:vs[k]?=some v:=h;rw [Array.getElem?_eq_none hk] at h;cases h
 |_=>exact (nn h).elim
theorem noteP_spec {v:Value} {env:Env} {T:BT} {tr:List Nat} {p:NP} (h:noteP v env T tr=some p):v= .ref p.a/\env.frame=some p.f/\tr=(p.j+1)::p.tr/\fldAt T p.j 1=some p.v:=by
 delta noteP at h;cases v with
 |ref a=>
  conv at h=>lhs;whnf
  generalize hf:env.frame=x at h;rcases x with _|f
  ·exact (nn h).elim
  rcases tr with _|⟨_|j,tr⟩
  ·exact (nn h).elim
  ·exact (nn h).elim
  conv at h=>lhs;whnf
  generalize hv:fldAt T j 1=x at h;rcases x with _|v
  ·exact (nn h).elim
  cases h;exact ⟨rfl,rfl,rfl,hv⟩
 |_=>exact (nn h).elim
theorem noteQ_spec {T:BT} {tr:List Nat} {q:Nat×Value×List Nat} (h:noteQ T tr=some q):tr=(q.1+1)::q.2.2/\fldAt T q.1 3=some q.2.1:=by
 delta noteQ at h;rcases tr with _|⟨_|j,tr⟩
 ·exact (nn h).elim
 ·exact (nn h).elim
 conv at h=>lhs;whnf
 generalize hv:fldAt T j 3=x at h;rcases x with _|v
 ·exact (nn h).elim
 cases h;exact ⟨rfl,hv⟩
inductive NW (C:Cf) (c:Code) (κ:Ko) (p:NP) (e:Me):Option Me->Prop
 |first (n:Nat) (tr:List Nat):p.v= .none->p.tr=n::tr->NW C c κ p e (noteN C c κ p.f p.j .none (tr.take n) {e with tr:=tr.drop n,obs:=(.n p.a,.n (e.ad.getD p.j 0))::e.obs})
 |same (h m i:Nat) (tr:List Nat):p.v= .ref h->noteQ e.T p.tr=some (i,.int (.ofNat m) 0,tr)->NW C c κ p e (some {e with tr:=tr,obs:=(.n m,.n p.f)::(.n h,.n (e.ad.getD i 0))::(.n p.a,.n (e.ad.getD p.j 0))::e.obs})
 |more (h i n:Nat) (tr:List Nat):p.v= .ref h->noteQ e.T p.tr=some (i,.none,n::tr)->NW C c κ p e (noteN C c κ p.f p.j (.ref h) (tr.take n) {e with T:=e.T.set i (Obj.mapFields (·.setIfInBounds 3 .none)),tr:=tr.drop n,obs:=(.n h,.n (e.ad.getD i 0))::(.n p.a,.n (e.ad.getD p.j 0))::e.obs})
theorem noteS_way {C:Cf} {c:Code} {κ:Ko} {v:Value} {env:Env} {e e':Me} (h:noteS C c κ v env e=some e'):∃p,noteP v env e.T e.tr=some p/\NW C c κ p e (some e'):=by
 delta noteS at h;generalize hp:noteP v env e.T e.tr=p at h;cases p with
 |none=>exact (nn h).elim
 |some p=>
  refine ⟨p,rfl,?_⟩;conv at h=>lhs;whnf
  generalize hv:p.v=v at h;cases v with
  |ref hh=>
   conv at h=>lhs;whnf
   generalize hq:noteQ e.T p.tr=q at h;rcases q with _|⟨i,fl,tr⟩
   ·exact (nn h).elim
   cases fl with
   |int m t=>
    rcases m with m|m
    ·cases t with
     |zero=>rw [<-h];exact NW.same hh m i tr hv hq
     |succ t=>exact (nn h).elim
    ·exact (nn h).elim
   |none=>
    cases tr with
    |nil=>exact (nn h).elim
    |cons n tr=>rw [<-h];exact NW.more hh i n tr hv hq
   |_=>exact (nn h).elim
  |none=>
   conv at h=>lhs;whnf
   generalize ht:p.tr=tr at h;cases tr with
   |nil=>exact (nn h).elim
   |cons n tr=>rw [<-h];exact NW.first n tr hv ht
  |_=>exact (nn h).elim
theorem noteS_of {C:Cf} {c:Code} {κ:Ko} {v:Value} {env:Env} {e:Me} {p:NP} {r:Option Me} (hp:noteP v env e.T e.tr=some p) (h:NW C c κ p e r):noteS C c κ v env e=r:=by
 unfold noteS;rw [hp];cases h with
 |first n tr hv ht=>dsimp only;rw [hv,ht]
 |same h m i tr hv hq=>dsimp only;rw [hv];dsimp only;rw [hq];rfl
 |more h i n tr hv hq=>dsimp only;rw [hv];dsimp only;rw [hq]
theorem noteS_sub {C:Cf} {c:Code} {κ:Ko} {v:Value} {env:Env} {e e':Me} (h:noteS C c κ v env e=some e'):OSub e e':=by
 obtain ⟨p,-,w⟩:=noteS_way h;generalize hr:some e'=r at w;cases w with
 |first n tr _ _=>exact λq hq=>noteN_sub hr.symm q (zv _ hq)
 |same _ m i tr _ _=>cases hr;exact λ_ h=>zv _ (zv _ (zv _ h))
 |more _ i n tr _ _=>exact λq hq=>noteN_sub hr.symm q (zv _ (zv _ hq))
inductive ASp (C:Cf) (h0:Option Value) (c':Code) (κ:Ko) (o:Orc) (ors:List (Cx->Orc)) (e:Me) (r:Fo×Me):Prop
 |mk (ns:Ns) (nss:List Ns) (x:BT×Nat×List Nat):wsum κ<=60->usum κ<=300->e.nss=ns::nss->o.k<=e.sup.length->fitAll (o.post (e.sup.take o.k) ns) e.T=true->addAll (o.news (e.sup.take o.k) ns) (e.sup.take o.k) (putAll (o.post (e.sup.take o.k) ns) e.T) e.m e.ad=some x->
   r=(o.fo (e.sup.take o.k) ns,aft o c' (handledOf h0 κ) (frsOf C.frs κ) (e.sup.take o.k) ns x ors nss e)->ASp C h0 c' κ o ors e r
theorem ans_spec {C:Cf} {h0:Option Value} {c':Code} {κ:Ko} {o:Orc} {ors:List (Cx->Orc)} {e:Me} {r:Fo×Me} (h:ans C h0 c' κ o ors e=some r):ASp C h0 c' κ o ors e r:=by
 delta ans at h;generalize hw:(Nat.ble (wsum κ) 60&&Nat.ble (usum κ) 300)=b at h;cases b with
 |false=>exact (nn h).elim
 |true=>
 conv at h=>lhs;whnf
 generalize hn:e.nss=nss at h;cases nss with
 |nil=>exact (nn h).elim
 |cons ns nss=>
 conv at h=>lhs;whnf
 generalize hf:(Nat.ble o.k e.sup.length&&fitAll (o.post (e.sup.take o.k) ns) e.T)=b at h;cases b with
 |false=>exact (nn h).elim
 |true=>
 conv at h=>lhs;whnf
 generalize hx:addAll (o.news (e.sup.take o.k) ns) (e.sup.take o.k) (putAll (o.post (e.sup.take o.k) ns) e.T) e.m e.ad=x at h;cases x with
 |none=>exact (nn h).elim
 |some x=>
 cases h;obtain ⟨w1,w2⟩:=Bool.and_eq_true_iff.mp hw;obtain ⟨f1,f2⟩:=Bool.and_eq_true_iff.mp hf;exact .mk ns nss x (zx w1) (zx w2) hn (zx f1) f2 hx rfl
theorem aft_sub (o:Orc) (c':Code) (h:Option Value) (fr:Option (List Env)) (as:List Nat) (ns:Ns) (r:BT×Nat×List Nat) (ors:List (Cx->Orc)) (nss:List Ns) (e:Me):
  OSub e (aft o c' h fr as ns r ors nss e)/\(Side.c c',Side.c o.code)∈(aft o c' h fr as ns r ors nss e).obs/\
  (∀p∈o.pre,(Side.o (e.T.get p.1),Side.o (some p.2.2))∈(aft o c' h fr as ns r ors nss e).obs/\(Side.n (e.ad.getD p.1 0),Side.n p.2.1)∈(aft o c' h fr as ns r ors nss e).obs)/\
  (∀h',o.hd=some h'->(Side.h h,Side.h h')∈(aft o c' h fr as ns r ors nss e).obs)/\
  (∀h',o.frs=some h'->(Side.f fr,Side.f (some h'))∈(aft o c' h fr as ns r ors nss e).obs):=by
 have p:=preAll_sub o.pre e.T e.ad ((.c c',.c o.code)::e.obs);have q:=hdSide_sub o h (preAll o.pre e.T e.ad ((.c c',.c o.code)::e.obs));have f:=frSide_sub o fr (hdSide o h (preAll o.pre e.T e.ad ((.c c',.c o.code)::e.obs)));refine ⟨λx hx=>f.1 _ (q.1 _ (p.1 _ (zv _ hx))),f.1 _ (q.1 _ (p.1 _ (zy ..))),λx hx=>⟨f.1 _ (q.1 _ (p.2 x hx).1),f.1 _ (q.1 _ (p.2 x hx).2)⟩,λx hx=>f.1 _ (q.2 x hx),λx hx=>f.2 x hx⟩
theorem run_sub (C:Cf) (h0:Option Value):∀n c κ t e,OSub e (run C h0 n c κ t e).e:=by
 intro n;induction n with
 |zero=>exact λc κ t e=>OSub.refl e
 |succ n ih=>
  intro c κ t e;cases t with
  |evt c'=>
   conv=>arg 2;arg 1;whnf
   cases cutB e.cs with
   |false=>exact λq hq=>ih _ _ _ _ q hq
   |true=>
    cases e.ors with
    |nil=>cases κ<;>exact OSub.refl e
    |cons f ors=>
     conv=>arg 2;arg 1;whnf
     generalize hr:ans C h0 c' κ (f ⟨e.T,e.ad,e.pns,(frsOf C.frs κ).getD [],handledOf h0 κ⟩) ors e=r;cases r with
     |none=>exact OSub.refl e
     |some r=>
      obtain ⟨ns,nss,x,-,-,-,-,-,-,hx⟩:=ans_spec hr;have sub:OSub e r.2:=by rw [hx];exact (aft_sub _ _ _ _ [] _ _ _ _ _).1
      conv=>arg 2;arg 1;whnf
      cases r.1 with
      |ret res=>
       cases κ with
       |base=>exact sub
       |ret=>exact OSub.trans sub (ih _ _ _ _)
       |att=>exact OSub.refl e
      |goto _=>exact OSub.trans sub (ih _ _ _ _)
      |bad _=>exact OSub.refl e
  |tt t=>
   cases t with
   |att t k=>exact ih _ _ (.tt t) _
   |note v env k=>
    conv=>arg 2;arg 1;whnf
    cases he:noteS C c κ v env e with
    |some e'=>exact OSub.trans (noteS_sub he) (ih _ _ _ _)
    |none=>exact OSub.refl e
   |sem t=>
    cases t with
    |pure fin=>
     cases fin with
     |done f=>cases κ with
      |base=>exact OSub.refl e
      |ret c' _ k κ'=>exact ih c' κ' (.tt (.sem (k (.ok f)))) e
      |att k κ'=>exact ih c κ' (.tt (k (.ok f))) e
     |again c'=>
      conv=>arg 2;arg 1;whnf
      cases quietQ c' with
      |false=>exact OSub.refl e
      |true=>cases κ with
       |att _ _=>exact OSub.refl e
       |base=>exact ih c .base (.evt c') e
       |ret a b k κ'=>exact ih c (.ret a b k κ') (.evt c') e
    |raise v=>cases κ with
     |base=>exact OSub.refl e
     |ret c' _ k κ'=>exact ih c' κ' (.tt (.sem (k (.error v)))) e
     |att k κ'=>exact ih c κ' (.tt (k (.error v))) e
    |rule _ k=>exact ih c κ (.tt (.sem (k ()))) e
    |«at» _ k=>exact ih c κ (.tt (.sem (k ()))) e
    |point _ k=>exact ih c κ (.tt (.sem (k ()))) e
    |ask k=>exact λq hq=>ih c κ (.tt (.sem (k C.st))) {e with obs:=_::e.obs} q (zv _ hq)
    |load a q k=>
     conv=>arg 2;arg 1;whnf
     cases e.tr with
     |nil=>exact OSub.refl e
     |cons j tr=>
      cases j with
      |zero=>
       cases Nat.blt a 216 with
       |false=>exact OSub.refl e
       |true=>
        cases C.kt.get a with
        |some o=>exact λq hq=>ih c κ (.tt (.sem (k o))) {e with tr} q hq
        |none=>exact OSub.refl e
      |succ j=>
       conv=>arg 2;arg 1;whnf
       cases Nat.ble 1000 j with
       |false=>
        cases e.T.get j with
        |some o=>exact λq hq=>ih c κ (.tt (.sem (k o))) {e with tr,obs:=(.n a,.n (e.ad.getD j 0))::e.obs} q (zv _ hq)
        |none=>exact OSub.refl e
       |true=>
        cases C.zr[j-1000]? with
        |some p=>exact λq hq=>ih c κ (.tt (.sem (k p.2))) {e with tr,obs:=(.n a,.n p.1)::e.obs} q (zv _ hq)
        |none=>exact OSub.refl e
    |alloc o k=>
     conv=>arg 2;arg 1;whnf
     cases e.sup with
     |nil=>exact OSub.refl e
     |cons a sup=>
      conv=>arg 2;arg 1;whnf
      cases o.isFreed with
      |true=>exact OSub.refl e
      |false=>
       conv=>arg 2;arg 1;whnf
       cases addAll [o] [a] e.T e.m e.ad with
       |some r=>exact λq hq=>ih c κ (.tt (.sem (k a))) {e with T:=r.1,m:=r.2.1,ad:=r.2.2,sup} q hq
       |none=>exact OSub.refl e
    |update a q f k=>
     conv=>arg 2;arg 1;whnf
     cases e.tr with
     |nil=>exact OSub.refl e
     |cons j tr=>
      cases j with
      |zero=>exact OSub.refl e
      |succ j=>
       conv=>arg 2;arg 1;whnf
       cases e.T.get j with
       |none=>exact OSub.refl e
       |some o=>
        conv=>arg 2;arg 1;whnf
        cases (f o).isFreed with
        |false=>exact λq hq=>ih c κ (.tt (.sem (k ()))) {e with tr,T:=e.T.set j f,obs:=(.n a,.n (e.ad.getD j 0))::e.obs} q (zv _ hq)
        |true=>exact OSub.refl e
    |fresh k=>exact λq hq=>ih c κ (.tt (.sem (k e.tok))) {e with tok:=e.tok+1} q hq
    |handled own k=>cases own with
     |true=>exact OSub.refl e
     |false=>exact ih c κ (.tt (.sem (k (handledOf h0 κ)))) e
    |call c' hd g l k=>
     conv=>arg 2;arg 1;whnf
     cases okMark hd with
     |false=>exact OSub.refl e
     |true=>exact ih c (.ret c hd k κ) (.evt c') e
    |_=>exact OSub.refl e
end
section
noncomputable def Ko.act:Ko->Bool
 | .att _ _=>false
 |_=>true
noncomputable def arK (V:XV):Ko->Around
 | .base=>V.A₀
 | .ret c hd _ κ=>((arK V κ).under c).mark hd
 | .att _ κ=>arK V κ
noncomputable def pst (V:XV):Ko->Code->(Fin->Shared->Prop)×(Value->Shared->Prop)
 | .base,_=>(λfin s=>s.heap.NoLimit/\postC V.prog V.w V.A₀ V.R₀ fin s,postE V.R₀)
 | .ret c' hd k κ,_=>(λfin s=>s.heap.NoLimit/\postC V.prog V.w (((arK V κ).under c').mark hd) (λr s=>wpOwn (model V.prog V.w) (arK V κ) c' (k r) (pst V κ c').1 (pst V κ c').2 s) fin s,
   postE λr s=>wpOwn (model V.prog V.w) (arK V κ) c' (k r) (pst V κ c').1 (pst V κ c').2 s)
 | .att k κ,c=>(λfin s=>match fin with
   | .done f=>wpOwn (model V.prog V.w) (arK V κ) c (k (.ok f)).real (pst V κ c).1 (pst V κ c).2 s
   | .again _=>False,λv s=>wpOwn (model V.prog V.w) (arK V κ) c (k (.error v)).real (pst V κ c).1 (pst V κ c).2 s)
def endK (V:XV):Ko->Result->Shared->Prop
 | .base=>V.R₀
 | .ret c' _ k κ=>λr s=>wpOwn (model V.prog V.w) (arK V κ) c' (k r) (pst V κ c').1 (pst V κ c').2 s
 | .att _ _=>λ_ _=>False
def Mn (V:XV) (c:Code) (κ:Ko) (t:TT) (s:Shared):Prop:=wpOwn (model V.prog V.w) (arK V κ) c t.real (pst V κ c).1 (pst V κ c).2 s
structure Hy (V:XV) (C:Cf):Prop where
 st:(⟨V.prog,V.w.params⟩:Setting)=C.st\/(⟨V.prog,V.w.params⟩:Setting)=C.sf
 dep:V.A₀.depth<=C.d0
 uni:V.A₀.units<=C.u0
 frs:∀l,C.frs=some l->V.A₀.frames=some l
 lim:∀h:Heap,(∀b o,b<216->C.kt.get b=some o->h.get? b=some o)->h.NoLimit
def Fn (F:List Ns->Prop) (f:Cx->Orc):List Ns->Prop:=λl=>∃x as ns,l=x.pns++[ns]/\F x.pns/\as.length=(f x).k/\(f x).fact as ns
def Ff:(List Ns->Prop)->List (Cx->Orc)->List Ns->Prop
 |F,[]=>F
 |F,f::ors=>Ff (Fn F f) ors
def Good (V:XV) (C:Cf) (hb:Heap) (ad0:List Nat) (Z0:List (Nat×Obj)) (gens:Array GenState) (FF:List Ns->Prop) (o:Out):Prop:=
 (∀q∈o.e.obs,q.1=q.2)/\
 (match o.fin with
  | .ret r=>o.e.ors.isEmpty=true/\∀h',Inv C hb ad0 h' o.e.T o.e.m o.e.ad Z0 o.e.pns->FF o.e.pns->V.R₀ r ⟨h',gens,V.d,o.e.tok,V.os⟩
  | .goto c=>o.e.ors.isEmpty=true/\∀h',Inv C hb ad0 h' o.e.T o.e.m o.e.ad Z0 o.e.pns->FF o.e.pns->codeAny (model V.prog V.w) V.A₀ c V.R₀ ⟨h',gens,V.d,o.e.tok,V.os⟩
  | .bad _=>False)
def FinAt (prog:Program) (w:World) (A:Around) (R:Result->Shared->Prop):Fo->Shared->Prop
 | .ret r,s=>R r s
 | .goto c,s=>codeAny (model prog w) A c R s
 | .bad _,_=>False
def OrcOk (V:XV) (C:Cf) (hb:Heap) (ad0:List Nat) (Z0:List (Nat×Obj)) (gens:Array GenState) (f:Cx->Orc) (x:Cx):Prop:=
 ∀A:Around,A.depth<=V.A₀.depth+60->A.units<=V.A₀.units+300->∀(h:Heap) (m:Nat) (tok:Nat) (R:Result->Shared->Prop),
  (∀v,(f x).hd=some v->A.handled=v)->(∀l,(f x).frs=some l->A.frames=some l)->
  Inv C hb ad0 h x.T m x.ad Z0 x.pns->(∀p∈(f x).pre,x.ad.getD p.1 0=p.2.1/\x.T.get p.1=some p.2.2)->
  (∀h' as ns,as.length=(f x).k->(∀a∈as,216<=a)->(∀r,fitAll ((f x).post as ns) x.T=true->addAll ((f x).news as ns) as (putAll ((f x).post as ns) x.T) m x.ad=some r->Inv C hb ad0 h' r.1 r.2.1 r.2.2 Z0 (x.pns++[ns]))->(f x).fact as ns->FinAt V.prog V.w A R ((f x).fo as ns) ⟨h',gens,V.d,ns.n.headD 0,V.os⟩)->
  codeAny (model V.prog V.w) A (f x).code R ⟨h,gens,V.d,tok,V.os⟩
def OrsOk (V:XV) (C:Cf) (hb:Heap) (ad0:List Nat) (Z0:List (Nat×Obj)) (gens:Array GenState):(List Ns->Prop)->List (Cx->Orc)->Prop
 |_,[]=>True
 |F,f::ors=>(∀x:Cx,F x.pns->OrcOk V C hb ad0 Z0 gens f x)/\OrsOk V C hb ad0 Z0 gens (Fn F f) ors
section
variable {V:XV} {C:Cf} {hb:Heap} {ad0:List Nat} {gens:Array GenState}
theorem pst_act {κ:Ko} (h:κ.act=true) (c:Code):pst V κ c=(λfin s=>s.heap.NoLimit/\postC V.prog V.w (arK V κ) (endK V κ) fin s,postE (endK V κ)):=by
 cases κ with
 |base=>rfl
 |ret=>rfl
 |att=>cases h
theorem handled_is:∀κ:Ko,(arK V κ).handled=handledOf V.A₀.handled κ
 | .base=>rfl
 | .att k κ=>by
  show (arK V κ).handled=handledOf V.A₀.handled κ;exact handled_is κ
 | .ret c hd k κ=>by
  show hd.or (arK V κ).handled=_;rw [handled_is κ];cases hd<;>rfl
theorem depth_is:∀κ:Ko,(arK V κ).depth=V.A₀.depth+wsum κ
 | .base=>rfl
 | .att k κ=>by
  show (arK V κ).depth=V.A₀.depth+wsum κ;exact depth_is κ
 | .ret c hd k κ=>by
  show (arK V κ).depth+c.weight=V.A₀.depth+(wsum κ+c.weight);rw [depth_is κ,Nat.add_assoc]
theorem units_is:∀κ:Ko,(arK V κ).units=V.A₀.units+usum κ
 | .base=>rfl
 | .att k κ=>by
  show (arK V κ).units=V.A₀.units+usum κ;exact units_is κ
 | .ret c hd k κ=>by
  show (arK V κ).units+c.cUnits=V.A₀.units+(usum κ+c.cUnits);rw [units_is κ,Nat.add_assoc]
theorem pushEnvs_of {es:List Env} {x y:Option (List Env)} (h:∀l,x=some l->y=some l):∀l,pushEnvs es x=some l->pushEnvs es y=some l:=λl e=>by
 obtain ⟨l₀,h0,rfl⟩:=pushEnvs_some e;rw [h l₀ h0,pushEnvs_eq];rfl
theorem frames_is (H:Hy V C):∀(κ:Ko) (l:List Env),frsOf C.frs κ=some l->(arK V κ).frames=some l
 | .base,l,e=>H.frs l e
 | .att k κ,l,e=>frames_is H κ l e
 | .ret c hd k κ,l,e=>pushEnvs_of (frames_is H κ) l e
theorem frames_under (H:Hy V C) (κ:Ko) (c:Code) (l:List Env) (e:pushEnvs c.envs (frsOf C.frs κ)=some l):((arK V κ).under c).frames=some l:=pushEnvs_of (frames_is H κ) l e
theorem limit_is:recursionLimit=1000:=by decide
inductive FnSp (C:Cf) (a:Nat) (p:FuncData×List Stmt):Prop
 |mk (o:Obj) (c:Addr):a<216->C.kt.get a=some o->o.data= .func p.1->p.1.code= .ref c->p.1.scope.isCoroutine=false->p.1.scope.isGenerator=false->p.1.body= .stmts p.2->FnSp C a p
theorem funcOf_spec {a:Nat} {p:FuncData×List Stmt} (e:funcOf C a=some p):FnSp C a p:=by
 delta funcOf at e;generalize hlt:Nat.blt a 216=b at e;cases b with
 |false=>exact (nn e).elim
 |true=>
 conv at e=>lhs;whnf
 generalize ho:C.kt.get a=x at e;rcases x with _|o
 ·exact (nn e).elim
 conv at e=>lhs;whnf
 generalize hd:o.data=d at e;cases d with
 |func fd=>
  conv at e=>lhs;whnf
  generalize hc:fd.code=v at e;cases v with
  |ref c=>
   conv at e=>lhs;whnf
   generalize hco:fd.scope.isCoroutine=b at e;cases b with
   |true=>exact (nn e).elim
   |false=>
   conv at e=>lhs;whnf
   generalize hg:fd.scope.isGenerator=b at e;cases b with
   |true=>exact (nn e).elim
   |false=>
   conv at e=>lhs;whnf
   generalize hb:fd.body=bd at e;cases bd with
   |stmts b=>
    cases e;exact .mk o c (zx hlt) ho hd hc hco hg hb
   |_=>exact (nn e).elim
  |_=>exact (nn e).elim
 |_=>exact (nn e).elim
theorem pyIter_self {prog:Program} {w:World} {A:Around} {E:Value->Shared->Prop} {s:Shared} {Q:Value->Shared->Prop} {a:Addr} {T id nid:String} (hT:s.TypeIs (.ref a) T) (sl:Slot T "__iter__" id) (en:entryFor table id=some Builtin.«dict_keyiterator.__iter__») (ar:argsOk id ⟨[.ref a],[]⟩) (nx:Slot T "__next__" nid) (h:Q (.ref a) s):wpAny (model prog w) A (pyIter (.ref a)) Q E s:=by
 refine wpAny_pyIter_slot hT sl (wpAny_call_entry sl hT en ?_ ar);show wpAny _ _ (ret (.ref a)) _ _ s;exact zX ⟨_,rfl,T,_,hT,nx.lookup,h⟩
theorem selfIter_ok {prog:Program} {w:World} {A:Around} {E:Value->Shared->Prop} {s:Shared} {Q:Value->Shared->Prop} {a:Addr} {o:Obj} (ho:s.heap.get? a=some o) (hs:selfIter o.cls=true) (h:Q (.ref a) s):wpAny (model prog w) A (pyIter (.ref a)) Q E s:=by
 unfold selfIter at hs;split at hs
 ·rename_i n hc
  simp only [Bool.or_eq_true,beq_iff_eq] at hs;rcases hs with (rfl|rfl)|rfl
  ·exact pyIter_self ⟨o,ho,hc⟩ slot_listiter_iter entry_listiter_iter (args_listiter_iter _) slot_listiter_next h
  ·exact pyIter_self ⟨o,ho,hc⟩ F.slot_range_iterator_iter F.entry_range_iterator_iter (F.args_range_iterator_iter_1 _) F.slot_range_iterator_next h
  ·exact pyIter_self ⟨o,ho,hc⟩ F.slot_dict_valueiterator_iter entry_dict_valueiterator_iter (F.args_dict_valueiterator_iter_1 _) F.slot_dict_valueiterator_next h
 ·cases hs
inductive SySp (e:Expr) (d:Nat):Prop
 |mk (elt:Expr) (gens:List Comprehension) (scope:Scope) (pos:Pos) (g:Comprehension):e= .ListComp elt gens scope pos->gens[d]?=some g->g.is_async=0->SySp e d
theorem syncAt_spec {e:Expr} {d:Nat} (h:syncAt e d=true):SySp e d:=by
 cases e with
 |ListComp elt gens scope pos=>
  conv at h=>lhs;whnf
  generalize hg:gens[d]?=x at h;cases x with
  |none=>exact (kZ h).elim
  |some g=>exact .mk elt gens scope pos g rfl hg (by simpa using h)
 |_=>exact (kZ h).elim
theorem start_ok {prog:Program} {w:World} {A:Around} {R:Result->Shared->Prop} {s:Shared} {a:Addr} {o:Obj} {e:Expr} {depth:Nat} {acc:Value} {env:Env} (ho:s.heap.get? a=some o) (hs:selfIter o.cls=true) (hy:syncAt e depth=true) (h:codeAny (model prog w) A (.compLoop e depth (.ref a) acc env) R s):codeAny (model prog w) A (.compStart e depth (.ref a) acc env) R s:=by
 obtain ⟨elt,gens,scope,pos,g,rfl,hg,h0⟩:=syncAt_spec hy;refine codeAny_of_tree ?_;show wpAny _ _ ((compStart (.ListComp elt gens scope pos) depth (.ref a) acc env).onRaise (λx=>do noteFrame x env;standAt theWindowsPlace)) _ _ s;refine wpAny_notedAt ?_;unfold compStart;have hcl:(((clausesOf (.ListComp elt gens scope pos))[depth]?).elim false (·.is_async !=0))=false:=by
  show ((gens[depth]?).elim false (·.is_async !=0))=false;rw [hg];show (g.is_async !=0)=false;rw [h0];rfl
 rw [hcl];show wpAny _ _ (ask>>=_) _ _ s;refine zk (wpAny_askSetting (wpAny_ite ?_));split
 ·first
   |exact zk (zX (zX (And.intro rfl h)))
   |exact zX (And.intro rfl h)
 ·refine zk (wpAny_rule ?_)
  have hg':(clausesOf (.ListComp elt gens scope pos))[depth]?=some g:=hg;rw [hg'];show wpAny _ _ (standAt g.iter.pos>>=_) _ _ s;exact zk (wpAny_standAt (zk (selfIter_ok ho hs (zX (And.intro rfl h)))))
theorem code_of_rf (H:Hy V C) {c:Code} {κ:Ko} {T:TT} {s:Shared} (hκ:κ.act=true) (hroom:C.u0+usum κ+c.cUnits<9900) (hr:∀Γ:PySem.Ctx,Γ.units<cLine->Rf (model V.prog V.w) Γ T.real (denote table c)) (x:Mn V c κ T s):
  codeAny (model V.prog V.w) (arK V κ) c (endK V κ) s:=by
 refine codeAny_of_own ?_;intro Γ p hc hΓ;have hu:Γ.units<cLine:=by
  have h2:=H.uni;have h3:=hΓ.2.2.2.2;rw [units_is] at h3;show Γ.code.cUnits+unitsOf Γ.below<9900;rw [hc];omega
 have y:=x Γ p hc hΓ;rw [pst_act hκ] at y;exact jW _ _ _ (λfin p' s' z=>z.2) (λ_ _ _ z=>z) _ _ (hr Γ hu _ _ _ _ y)
theorem rf_of {M:Model} {Γ:PySem.Ctx} {t t':Sem Fin} (h:Rf M Γ t t'):Rf M Γ (TT.sem t).real t':=h
theorem code_of_den (H:Hy V C) {c:Code} {κ:Ko} (hκ:κ.act=true) {h:Heap} {T:BT} {m:Nat} {ad:List Nat} {tok:Nat} {Z0:List (Nat×Obj)} {Z:List Ns} (I:Inv C hb ad0 h T m ad Z0 Z) (x:Mn V c κ (denC C κ c) ⟨h,gens,V.d,tok,V.os⟩):
  codeAny (model V.prog V.w) (arK V κ) c (endK V κ) ⟨h,gens,V.d,tok,V.os⟩:=by
 have plain:Mn V c κ (.sem (DF c)) ⟨h,gens,V.d,tok,V.os⟩->codeAny (model V.prog V.w) (arK V κ) c (endK V κ) ⟨h,gens,V.d,tok,V.os⟩:=λy=>by
  unfold Mn TT.real at y;rw [DF_eq,pst_act hκ] at y;exact y_code _ _ _ _ _ _ (wpOwn_mono y (λ_ _ z=>z.2) λ_ _ z=>z)
 have room:∀{c':Code} {T:TT} {k:Nat},Nat.blt (C.u0+usum κ+k) 9900=true->c'.cUnits=k->(∀Γ:PySem.Ctx,Γ.units<cLine->Rf (model V.prog V.w) Γ T.real (denote table c'))->Mn V c' κ T ⟨h,gens,V.d,tok,V.os⟩->codeAny (model V.prog V.w) (arK V κ) c' (endK V κ) ⟨h,gens,V.d,tok,V.os⟩:=λh1 h4 hr x=>
  code_of_rf H hκ (by rw [h4];exact zx h1) hr x
 cases c with
 |call f args=>
  cases f with
  |ref a=>
   conv at x=>arg 4;whnf
   generalize hp:funcOf C a=p at x;cases p with
   |none=>exact plain x
   |some p=>
   conv at x=>arg 4;whnf
   generalize hroom:Nat.blt (C.d0+wsum κ) 1000=b at x;cases b with
   |false=>exact plain x
   |true=>
   obtain ⟨o,cd,hlt,ho,hd,hc,hco,hg,hbd⟩:=funcOf_spec hp;unfold Mn at x;rw [pst_act hκ] at x;refine call_sound ?_ (I.old a o hlt ho) hd hc hco hg hbd x;have h1:C.d0+wsum κ<1000:=zx hroom;have h2:=H.dep;rw [depth_is,limit_is];lia
  |_=>exact plain x
 |func body env=>
  conv at x=>arg 4;whnf
  generalize hroom:Nat.blt (C.u0+usum κ+3) 9900=b at x;cases b with
  |false=>exact plain x
  |true=>
  conv at x=>arg 4;whnf
  generalize C.tt=n at x;cases n with
  |zero=>exact room hroom rfl (λΓ hu=>rf_of (funcT_rf hu body env)) x
  |succ n=>exact room hroom rfl (λΓ hu=>funcTT_rf hu _ body env) x
 |forLoop target it body orelse env=>
  conv at x=>arg 4;whnf
  generalize hroom:Nat.blt (C.u0+usum κ) 9900=b at x;cases b with
  |false=>exact plain x
  |true=>exact room (k:=0) hroom rfl (λΓ hu=>rf_of (forT_rf hu target it body orelse env)) x
 |whileLoop test body orelse env=>
  conv at x=>arg 4;whnf
  generalize C.tt=n at x;cases n with
  |zero=>exact plain x
  |succ n=>
  conv at x=>arg 4;whnf
  generalize hroom:Nat.blt (C.u0+usum κ) 9900=b at x;cases b with
  |false=>exact plain x
  |true=>exact room (k:=0) hroom rfl (λΓ hu=>whileTT_rf hu _ test body orelse env) x
 |block ss env=>
  conv at x=>arg 4;whnf
  generalize C.tt=n at x;cases n with
  |zero=>exact plain x
  |succ n=>
  conv at x=>arg 4;whnf
  generalize hroom:Nat.blt (C.u0+usum κ) 9900=b at x;cases b with
  |false=>exact plain x
  |true=>exact room (k:=0) hroom rfl (λΓ hu=>blockTT_rf hu _ ss env) x
 |compStart e depth it acc env=>
  cases it with
  |ref a=>
   conv at x=>arg 4;whnf
   generalize hy:syncAt e depth=b at x;cases b with
   |false=>exact plain x
   |true=>
   cases ho:h.get? a with
   |none=>
    refine codeAny_of_own ?_;intro Γ p hc hΓ;have x1:=x Γ p hc hΓ;unfold TT.real startT at x1;rw [Sem.wp_load] at x1;obtain ⟨o,ho',_⟩:=x1;have:h.get? a=some o:=ho';rw [ho] at this;cases this
   |some o=>
    cases hs:selfIter o.cls with
    |true=>
     refine start_ok ho hs hy ?_;intro Γ p hc hΓ;have x1:=x {Γ with code:= .compStart e depth (.ref a) acc env} p rfl hΓ;unfold TT.real startT at x1;rw [Sem.wp_load] at x1;obtain ⟨o',ho',x2⟩:=x1;have:h.get? a=some o':=ho';rw [ho] at this;cases this;rw [hs,Sem.wp_pure,pst_act hκ] at x2;exact x2.2.2 Γ p hc hΓ
    |false=>
     refine plain ?_;intro Γ p hc hΓ;have x1:=x Γ p hc hΓ;unfold TT.real startT at x1;rw [Sem.wp_load] at x1;obtain ⟨o',ho',x2⟩:=x1;have:h.get? a=some o':=ho';rw [ho] at this;cases this;rw [hs] at x2;exact x2
  |_=>exact plain x
 |_=>exact plain x
end
end
section
theorem slotsT_get:∀(js:List Nat) (i:Nat) (os:List Obj) (T:BT) (k:Nat) (o':Obj),(slotsT js i os T).get k=some o'->∃o,T.get k=some o/\(k∉js->o'=o)/\(k∈js->∃i':Nat,js[i']?=some k/\o'={o with slots:=(os.getD (i+i') default).slots})
 |[],i,os,T,k,o',h=>⟨o',h,λ_=>rfl,λh=>nomatch h⟩
 |j::js,i,os,T,k,o',h=>by
  have h:(slotsT js (i+1) os (T.set j λx=>{x with slots:=(os.getD i default).slots})).get k=some o':=h;obtain ⟨o,h1,h2,h3⟩:=slotsT_get js (i+1) os _ k o' h;rw [BT.get_set] at h1;by_cases hk:k=j
  ·subst hk
   rw [if_pos rfl] at h1;cases ht:T.get k with
   |none=>rw [ht] at h1;cases h1
   |some x=>
    rw [ht] at h1;cases h1;refine ⟨x,rfl,λhn=>absurd (zy ..) hn,λ_=>?_⟩;by_cases hm:k∈js
    ·obtain ⟨i',hi,e⟩:=h3 hm
     refine ⟨i'+1,by simpa using hi,?_⟩;rw [e];have:i+1+i'=i+(i'+1):=by omega
     rw [this]
    ·exact ⟨0,rfl,h2 hm⟩
  ·rw [vk hk] at h1
   refine ⟨o,h1,λhn=>h2 λhm=>hn (zv _ hm),λhm=>?_⟩;rcases vz.mp hm with e|hm
   ·exact absurd e hk
   ·obtain ⟨i',hi,e⟩:=h3 hm
    refine ⟨i'+1,by simpa using hi,?_⟩;rw [e];have:i+1+i'=i+(i'+1):=by omega
    rw [this]
def FrOk (T:BT) (ad:List Nat):List Env->List Nat->Prop
 |[],[]=>True
 |env::es,j::js=>env.frame=some (ad.getD j 0)/\env.scope.kind= .function/\(∃x E n,T.get j=some x/\x.data= .dict E n)/\FrOk T ad es js
 |_,_=>False
theorem frChk_ok:∀(es:List Env) (js:List Nat) (T:BT) (ad:List Nat) (l l':List (Side×Side)),frChk es js T ad l=some l'->(∀q∈l',q.1=q.2)->FrOk T ad es js:=by
 intro es;induction es with
 |nil=>
  intro js T ad l l' h hq;cases js with
  |nil=>exact trivial
  |cons j js=>exact (nn h).elim
 |cons env es ih=>
  intro js T ad l l' h hq;cases js with
  |nil=>exact (nn h).elim
  |cons j js=>
   obtain ⟨f,x,E,n,hf,hk,hx,hd,h⟩:=frChk_cons h;have e:f=ad.getD j 0:=by injection hq _ (frChk_sub _ _ _ _ _ _ h _ (zy ..))
   subst e;exact ⟨hf,hk,⟨x,E,n,hx,hd⟩,ih js T ad _ _ h hq⟩
theorem FrOk.frames:∀{T:BT} {ad:List Nat} {es:List Env} {js:List Nat},FrOk T ad es js->es.filterMap (·.frame)=js.map (λj=>ad.getD j 0)
 |_,_,[],[],_=>rfl
 |T,ad,env::es,j::js,h=>by
  rw [filterMap_cons,h.1,kQ,h.2.2.2.frames]
theorem FrOk.at:∀{T:BT} {ad:List Nat} {es:List Env} {js:List Nat},FrOk T ad es js->∀j∈js,∃x,T.get j=some x
 |_,_,[],[],_,_,h=>nomatch h
 |T,ad,env::es,j::js,h,k,hk=>by
  rcases vz.mp hk with rfl|hk
  ·obtain ⟨x,_,_,hx,_⟩:=h.2.2.1;exact ⟨x,hx⟩
  ·exact FrOk.at h.2.2.2 k hk
section
variable {C:Cf} {hb h:Heap} {ad0 ad:List Nat} {T:BT} {m:Nat}
theorem FrOk.funs {Z0:List (Nat×Obj)} {Z:List Ns} (I:Inv C hb ad0 h T m ad Z0 Z):∀{es:List Env} {js:List Nat},FrOk T ad es js->h.FunFrames {} es
 |[],[],_=>trivial
 |env::es,j::js,x=>by
  obtain ⟨o,E,n,ho,hd⟩:=x.2.2.1;exact ⟨by rw [x.2.1];decide,⟨_,o,x.1,by simp [Heap.get?],(I.own j o ho).2,λvs e=>by rw [hd] at e;cases e⟩,FrOk.funs I x.2.2.2⟩
theorem Inv.slots {Z0:List (Nat×Obj)} {Z:List Ns} (I:Inv C hb ad0 h T m ad Z0 Z) {h₁:Heap} {es:List Env} {js:List Nat} (F:FrOk T ad es js) (S:Heap.SlotsOnly (es.filterMap (·.frame)) h h₁):∃os,Inv C hb ad0 h₁ (slotsT js 0 os T) m ad Z0 Z:=by
 rw [F.frames] at S;have jl:∀j∈js,j<ad.length:=λj hj=>by
  obtain ⟨x,hx⟩:=F.at j hj;rw [I.len];exact (I.own j x hx).1
 have inn:∀b,b∈js.map (λj=>ad.getD j 0)->b∈ad:=λb hb'=>by
  obtain ⟨j,hj,rfl⟩:=ky.mp hb';exact getD_mem (jl j hj)
 refine ⟨js.map λj=>(h₁.get? (ad.getD j 0)).getD default,I.len,λk o' e=>?_,I.nd,λa ha=>?_,λb o hb' e=>?_,λb o e hn=>?_,by rw [S.1];exact I.grow,I.new,I.big,λp hp=>?_,λp hp=>?_,I.gnd⟩
 ·obtain ⟨o,h1,h2,h3⟩:=slotsT_get _ _ _ _ _ _ e
  obtain ⟨hk,hg⟩:=I.own k o h1;refine ⟨hk,?_⟩;by_cases hm:k∈js
  ·obtain ⟨i',hi,e'⟩:=h3 hm
   obtain ⟨sl,hs⟩:=S.2.2 _ o hg;have hz:((h₁.get? (ad.getD k 0)).getD default).slots=sl:=by rw [hs];rfl
   rw [hs,e',Nat.zero_add,zY,vU,hi];simp only [Option.map_some,Option.getD_some];rw [hz]
  ·rw [h2 hm,S.2.1 _ λhin=>?_]
   ·exact hg
   ·obtain ⟨j,hj,ej⟩:=ky.mp hin
    exact hm (getD_inj I.nd (jl j hj) (by rw [I.len];exact hk) ej▸hj)
 ·rw [S.1];exact I.lt a ha
 ·rw [S.2.1 b λhin=>?_]
  ·exact I.old b o hb' e
  ·have:=(I.lt b (inn b hin)).1;omega
 ·rw [S.2.1 b λhin=>?_]
  ·exact I.keep b o e hn
  ·rcases I.new b (inn b hin) with h1|h1
   ·exact hn h1
   ·exact absurd (kY e) (vQ.mpr h1)
 ·obtain ⟨h1,h2,h3⟩:=I.frz p hp
  exact ⟨by rw [S.2.1 _ λhin=>h2 (inn _ hin)];exact h1,h2,h3⟩
 ·obtain ⟨h1,h2,h3⟩:=I.grp p hp
  exact ⟨by rw [S.2.1 _ λhin=>h2 (inn _ hin)];exact h1,h2,h3⟩
end
theorem noteN_det {C:Cf} {c:Code} {κ:Ko} {f:Addr} {j:Nat} {head:Value} {js:List Nat} {e:Me} {a:Nat} {ns:Ns} {sup sup':List Nat} {nss nss':List Ns}:
  noteN C c κ f j head js {e with sup:=a::sup,nss:=ns::nss}=(noteN C c κ f j head js {e with sup:=a::sup',nss:=ns::nss'}).map λx=>{x with sup:=sup,nss:=nss}:=by
 unfold noteN;cases pushEnvs c.envs (frsOf C.frs κ) with
 |none=>rfl
 |some frs=>
  cases frs with
  |nil=>rfl
  |cons env rest=>
   dsimp only
   cases env.frame with
   |none=>rfl
   |some f0=>
    dsimp only
    cases frChk (env::rest) js e.T e.ad ((.n f0,.n f)::e.obs) with
    |none=>rfl
    |some obs=>
     dsimp only
     cases addAll [tbO head f ns.v] [a] (slotsT js 0 ns.o e.T) e.m e.ad with
     |none=>rfl
     |some r=>
      dsimp only
      cases r.1.get j with
      |none=>rfl
      |some o=>
       dsimp only
       cases o.data<;>rfl
theorem addAll_one {o:Obj} {a:Nat} {T:BT} {m:Nat} {ad:List Nat} {r:BT×Nat×List Nat} (e:addAll [o] [a] T m ad=some r):((T.ins m o).get m).isSome=true/\r=(T.ins m o,m+1,ad++[a]):=by
 obtain ⟨h,e⟩:=addAll_cons e;exact ⟨h,(kU e).symm⟩
theorem addAll_any {o:Obj} {a b:Nat} {T:BT} {m:Nat} {ad:List Nat} {r:BT×Nat×List Nat} (e:addAll [o] [a] T m ad=some r):addAll [o] [b] T m ad=some (T.ins m o,m+1,ad++[b]):=by
 have hs:=(addAll_one e).1;conv=>lhs;whnf
 generalize (T.ins m o).get m=x at hs;cases x with
 |none=>cases hs
 |some x=>rfl
def Sups (e:Me) (P:List Nat->List Ns->Prop):Prop:=∀sup nss,sup.length=e.sup.length->nss.length=e.nss.length->(∀a∈sup,216<=a)->P sup nss
theorem Sups.one {e:Me} {P:List Nat->List Ns->Prop} (h:Sups e P):P (replicate e.sup.length 216) (replicate e.nss.length Ns.nil):=
 h _ _ (qv) (qv) λa ha=>by rw [eq_of_mem_replicate ha];exact jv _
section
variable {V:XV} {C:Cf} {hb:Heap} {ad0:List Nat} {gens:Array GenState}
theorem frameOf_ok {M:Model} {A:Around} {E:Value->Shared->Prop} {s:Shared} {base:Heap} {env env0:Env} {outer:List Env} {L:Addr} {Q:Value->Shared->Prop} (hfr:A.frames=some (env0::outer)) (hl:s.heap.FunFrames base (env0::outer))
  (h0:env0.frame=some L) (hf:env.frame=some L) (h:∀h',Heap.SlotsOnly ((env0::outer).filterMap (·.frame)) s.heap h'->Q (.ref L) {s with heap:=h'}):wpAny M A (PySem.frameOf env) Q E s:=by
 unfold PySem.frameOf;refine zk (wpAny_frameEnvs hfr ?_);have hdw:((env0::outer).dropWhile λx=>x.frame !=env.frame)=env0::outer:=by simp [dropWhile,h0,hf]
 rw [hdw];unfold frameObject;refine zk (zk (wpAny_readyFrames_fun hl λh₁ hs₁=>zX ?_));rw [h0];exact zX (h h₁ hs₁)
theorem noteN_ok (H:Hy V C) {c:Code} {κ:Ko} {f:Addr} {j:Nat} {head:Value} {js:List Nat} {e:Me} {h:Heap} {Q:Unit->Shared->Prop} {E:Value->Shared->Prop} {hn:Bool} {env:Env} (hf:env.frame=some f)
  {Z0:List (Nat×Obj)} (I:Inv C hb ad0 h e.T e.m e.ad Z0 e.pns) {o:Obj} {vs:Array Value} (ho:e.T.get j=some o) (hd:o.data= .fields vs) (hsz:1<vs.size) (P:Me->Prop) (hP:∀e',P e'->∀q∈e'.obs,q.1=q.2)
  (key:Sups e λsup nss=>∃e',noteN C c κ f j head js {e with sup,nss}=some e'/\P e')
  (K:∀(e':Me) (h':Heap),e'.ors=e.ors->e'.pns=e.pns->e'.tok=e.tok->Inv C hb ad0 h' e'.T e'.m e'.ad Z0 e'.pns->Sups e' (λsup nss=>P {e' with sup,nss})->Q () ⟨h',gens,V.d,e.tok,V.os⟩):
  wpAny (model V.prog V.w) ((arK V κ).under c) (do let a<-PySem.frameOf env;let pl<-entryPlaceOf f hn;let b<-EntryCells.newEntry head a .none (rawInt f) .none pl;setField (.ref (e.ad.getD j 0)) 1 b) Q E ⟨h,gens,V.d,e.tok,V.os⟩:=by
 obtain ⟨e1,h1,p1⟩:=key.one;obtain ⟨env0,rest,f0,ns1,nss1,a1,sup1,obs1,r1,o1,vs1,x1,x2,x3,x4,x5,x6,x7,x8,x9⟩:=noteN_spec h1;have q1:∀q∈obs1,q.1=q.2:=by
  have:=hP e1 p1;rw [x9] at this;exact this
 have F:=frChk_ok _ _ _ _ _ _ x5 q1;have e0:f0=f:=by
  have:=q1 _ (frChk_sub _ _ _ _ _ _ x5 _ (zy ..));dsimp only at this
  injection this
 subst e0;refine zk (frameOf_ok (base:={}) (frames_under H κ c _ x1) (F.funs I) x2 hf λh₁ S=>?_);refine zk (wpAny_entryPlaceOf λpl hpl=>?_);unfold EntryCells.newEntry newFields;refine zk (vx ?_ (hpl.sizeOk5 _ _ _ _ _));obtain ⟨os,I₁⟩:=I.slots F S;have hsl:∃s0 sr,e.sup=s0::sr:=by
  cases hs:e.sup with
  |nil=>rw [hs] at x4;cases x4
  |cons s0 sr=>exact ⟨s0,sr,rfl⟩
 have hnl:∃s0 sr,e.nss=s0::sr:=by
  cases hs:e.nss with
  |nil=>rw [hs] at x3;cases x3
  |cons s0 sr=>exact ⟨s0,sr,rfl⟩
 obtain ⟨s0,sr,hsl⟩:=hsl;obtain ⟨n0,nr,hnl⟩:=hnl;have big:216<=h₁.objs.size:=by rw [S.1];exact zZ I.big I.grow
 have keyS:∀sup nss,sup.length=sr.length->nss.length=nr.length->(∀a∈sup,216<=a)->∃e',noteN C c κ f0 j head js {e with sup:=h₁.objs.size::sup,nss:=⟨[],os,if pl.isEmpty then replicate 6 Value.none else pl,[]⟩::nss}=some e'/\P e':=λsup nss l1 l2 l3=>
  key _ _ (by rw [hsl,jY,jY,l1]) (by rw [hnl,jY,jY,l2]) (λa ha=>by
   rcases vz.mp ha with rfl|ha
   ·exact big
   ·exact l3 a ha)
 obtain ⟨e2,h2,p2⟩:=keyS (replicate sr.length 216) (replicate nr.length Ns.nil) (qv) (qv) (λa ha=>by rw [eq_of_mem_replicate ha];exact jv _);have h2':=h2;obtain ⟨env2,rest2,f2,ns2,nss2,a2,sup2,obs2,r2,o2,vs2,y1,y2,y3,y4,y5,y6,y7,y8,y9⟩:=noteN_spec h2;cases y3;cases y4;obtain ⟨z2,z3⟩:=addAll_one y6;dsimp only at z2 z3
 subst z3;have I₂:=I₁.push (o:=tbO head f0 (if pl.isEmpty then replicate 6 Value.none else pl)) rfl z2;have hjm:j<e.m:=(I.own j o ho).1;have hjl:j<e.ad.length:=by rw [I.len];exact hjm
 have ead:(e.ad++[h₁.objs.size]).getD j 0=e.ad.getD j 0:=by
  rw [zY,zY,vv hjl]
 have evs:vs2=vs:=by
  have y7':=y7;dsimp only at y7'
  rw [BT.get_ins _ _ _ z2,vk (Nat.ne_of_lt hjm)] at y7';obtain ⟨o3,w1,w2,w3⟩:=slotsT_get _ _ _ _ _ _ y7';rw [ho] at w1;cases w1;have:o2.data=o.data:=by
   by_cases hm:j∈js
   ·obtain ⟨i',-,e'⟩:=w3 hm
    rw [e']
   ·rw [w2 hm]
  rw [y8,hd] at this;injection this
 subst evs;have hget:=(I₂.own j o2 y7).2;rw [ead] at hget;have hfr:∀g:Array Value->Array Value,(Obj.mapFields g o2).isFreed=false:=λg=>Obj.isFreed_of_fields (Obj.data_mapFields y8 _);refine wpAny_setField (o:=o2) hget y8 hsz ?_;have I₃:=I₂.upd y7 (hfr (·.setIfInBounds 1 (.ref h₁.objs.size)));rw [ead] at I₃;refine K e2 _ (by rw [y9]) (by rw [y9]) (by rw [y9]) (by rw [y9];exact I₃) ?_;intro sup nss l1 l2 l3;rw [y9] at l1 l2;obtain ⟨e3,h3,p3⟩:=keyS sup nss (by rw [l1];exact qv) (by rw [l2];exact qv) l3;rw [noteN_det (sup':=replicate sr.length 216) (nss':=replicate nr.length Ns.nil),h2'] at h3;cases h3;exact p3
end
end
section
section
variable {V:XV} {C:Cf} {hb:Heap} {ad0:List Nat} {gens:Array GenState}
theorem sd_inj {a b:Nat} (h:Side.n a=Side.n b):a=b:=by injection h
theorem noteS_ok (H:Hy V C) {c:Code} {κ:Ko} {v:Value} {env:Env} {e:Me} {h:Heap} {Q:Unit->Shared->Prop} {E:Value->Shared->Prop}
  {Z0:List (Nat×Obj)} (I:Inv C hb ad0 h e.T e.m e.ad Z0 e.pns) (P:Me->Prop) (hP:∀e',P e'->∀q∈e'.obs,q.1=q.2)
  (key:Sups e λsup nss=>∃e',noteS C c κ v env {e with sup,nss}=some e'/\P e')
  (K:∀(e':Me) (h':Heap),e'.ors=e.ors->e'.pns=e.pns->e'.tok=e.tok->Inv C hb ad0 h' e'.T e'.m e'.ad Z0 e'.pns->Sups e' (λsup nss=>P {e' with sup,nss})->Q () ⟨h',gens,V.d,e.tok,V.os⟩):
  wpAny (model V.prog V.w) ((arK V κ).under c) (noteFrame v env) Q E ⟨h,gens,V.d,e.tok,V.os⟩:=by
 obtain ⟨e1,h1,p1⟩:=key.one;have q1:=hP e1 p1;obtain ⟨⟨a,f,j,head,ptr⟩,hp,w⟩:=noteS_way h1;have hp:noteP v env e.T e.tr=some ⟨a,f,j,head,ptr⟩:=hp;obtain ⟨rfl,hf,-,hv0⟩:=noteP_spec hp;obtain ⟨o,vs,ho,hd,hv,hsz⟩:=fldAt_spec hv0;have hget:=(I.own j o ho).2;have of:∀{sup nss r},sup.length=e.sup.length->nss.length=e.nss.length->(∀a∈sup,216<=a)->NW C c κ ⟨a,f,j,head,ptr⟩ {e with sup,nss} r->∃e',r=some e'/\P e':=λ{sup nss r} l1 l2 l3 h=>by
  obtain ⟨e2,h2,p2⟩:=key _ _ l1 l2 l3;exact ⟨e2,(noteS_of (e:={e with sup:=sup,nss:=nss}) hp h).symm.trans h2,p2⟩
 dsimp only at hf ho hv hget⊢
 unfold noteFrame;simp only [hf];generalize hr:some e1=r at w;cases w with
 |first n tr h1 h2=>
  obtain rfl:a=e.ad.getD j 0:=sd_inj (q1 _ (noteN_sub hr.symm _ (zy ..)));obtain rfl:head= .none:=h1;refine zk (qk hget hd hv ?_);rw [vk (by decide)];exact noteN_ok H (e:={e with tr:=tr.drop n,obs:=(.n (e.ad.getD j 0),.n (e.ad.getD j 0))::e.obs}) hf I ho hd hsz P hP (λsup nss l1 l2 l3=>of l1 l2 l3 (.first n tr rfl h2)) K
 |same hh m i tr h1 h2=>
  obtain rfl:head= .ref hh:=h1;cases hr;obtain rfl:m=f:=sd_inj (q1 _ (zy ..));obtain rfl:hh=e.ad.getD i 0:=sd_inj (q1 _ (zv _ (zy ..)));obtain rfl:a=e.ad.getD j 0:=sd_inj (q1 _ (zv _ (zv _ (zy ..))));obtain ⟨oh,ts,hi,hdh,h3,hsz3⟩:=fldAt_spec (noteQ_spec h2).2;refine zk (qk hget hd hv ?_);rw [if_pos (by simp)];refine zk (qk (I.own i oh hi).2 hdh h3 ?_);rw [if_pos (by show (Value.int _ _==Value.int _ _)=true;exact beq_self_eq_true _)];refine zX (K {e with tr:=tr,obs:=(.n m,.n m)::(.n (e.ad.getD i 0),.n (e.ad.getD i 0))::(.n (e.ad.getD j 0),.n (e.ad.getD j 0))::e.obs} h rfl rfl rfl I λsup nss l1 l2 l3=>?_);obtain ⟨e2,h4,p2⟩:=of l1 l2 l3 (.same _ m i tr rfl h2);cases h4;exact p2
 |more hh i n tr h1 h2=>
  obtain rfl:head= .ref hh:=h1;have s1:=noteN_sub hr.symm;obtain rfl:hh=e.ad.getD i 0:=sd_inj (q1 _ (s1 _ (zy ..)));obtain rfl:a=e.ad.getD j 0:=sd_inj (q1 _ (s1 _ (zv _ (zy ..))));obtain ⟨oh,ts,hi,hdh,h3,hsz3⟩:=fldAt_spec (noteQ_spec h2).2;refine zk (qk hget hd hv ?_);rw [if_pos (by simp)];refine zk (qk (I.own i oh hi).2 hdh h3 ?_);rw [vk (by show¬(Value.none==Value.int _ _)=true;simp)];refine zk (wpAny_setField (I.own i oh hi).2 hdh hsz3 ?_);have I':=I.upd hi (f:=Obj.mapFields (·.setIfInBounds 3 .none)) (Obj.isFreed_of_fields (Obj.data_mapFields hdh _));obtain ⟨o',vs',ho',hd',hsz'⟩:∃o' vs',(e.T.set i (Obj.mapFields (·.setIfInBounds 3 .none))).get j=some o'/\o'.data= .fields vs'/\1<vs'.size:=by
   by_cases hij:j=i
   ·subst hij
    exact ⟨_,_,by rw [BT.get_set,if_pos rfl,ho];rfl,Obj.data_mapFields hd _,by simpa using hsz⟩
   ·exact ⟨o,vs,by rw [BT.get_set,vk hij,ho],hd,hsz⟩
  exact noteN_ok H (e:={e with T:=e.T.set i (Obj.mapFields (·.setIfInBounds 3 .none)),tr:=tr.drop n,obs:=(.n (e.ad.getD i 0),.n (e.ad.getD i 0))::(.n (e.ad.getD j 0),.n (e.ad.getD j 0))::e.obs}) hf I' ho' hd' hsz' P hP (λsup nss l1 l2 l3=>of l1 l2 l3 (.more _ i n tr rfl h2)) K
end
end
section
noncomputable def Me.sn (e:Me) (sup:List Nat) (nss:List Ns):Me:={e with sup:=sup,nss:=nss}
section
variable {V:XV} {C:Cf} {hb:Heap} {ad0:List Nat} {Z0:List (Nat×Obj)} {gens:Array GenState}
def Wn (V:XV) (c:Code) (κ:Ko) (t:Ru) (s:Shared):Prop:=match t with
 | .tt t=>Mn V c κ t s
 | .evt c'=>κ.act=true->codeAny (model V.prog V.w) (arK V κ) c' (endK V κ) s
theorem not_bad {FF:List Ns->Prop} {n:Nat} {e:Me} (g:Good V C hb ad0 Z0 gens FF ⟨.bad n,e⟩):False:=g.2
theorem ans_at {C:Cf} {h0:Option Value} {c':Code} {κ:Ko} {o:Orc} {ors:List (Cx->Orc)} {e:Me} {r:Fo×Me} {as sup:List Nat} {ns:Ns} {nss:List Ns} (hk:as.length=o.k)
  (h:ans C h0 c' κ o ors {e with sup:=as++sup,nss:=ns::nss}=some r):
  fitAll (o.post as ns) e.T=true/\∃y,addAll (o.news as ns) as (putAll (o.post as ns) e.T) e.m e.ad=some y/\
   r=(o.fo as ns,{aft o c' (handledOf h0 κ) (frsOf C.frs κ) as ns y ors [] {e with sup:=[],nss:=[]} with sup:=sup,nss:=nss}):=by
 obtain ⟨ns',nss',x,-,-,hn,-,hf,hx,hr⟩:=ans_spec h;dsimp only at hn hf hx hr
 have t1:(as++sup).take o.k=as:=by rw [<-hk];exact qz
 have t2:(as++sup).drop o.k=sup:=by rw [<-hk];exact drop_left
 injection hn with e1 e2;subst e1 e2;rw [t1] at hf hx hr;refine ⟨hf,x,hx,?_⟩;rw [hr];unfold aft;dsimp only
 rw [t2]
def goOn (C:Cf) (h0:Option Value) (n:Nat) (c:Code) (κ:Ko) (e:Me) (r:Fo×Me):Out:=match r.1 with
 | .ret res=>match κ with
  | .base=>⟨.ret res,r.2⟩
  | .ret c₁ _ k κ'=>run C h0 n c₁ κ' (.tt (.sem (k res))) r.2
  | .att _ _=>⟨.bad 19,e⟩
 | .goto c₂=>run C h0 n c κ (.evt c₂) r.2
 | .bad _=>⟨.bad 21,e⟩
def goAns (C:Cf) (h0:Option Value) (n:Nat) (c:Code) (κ:Ko) (e:Me):Option (Fo×Me)->Out
 |none=>⟨.bad 18,e⟩
 |some r=>goOn C h0 n c κ e r
def Snd (V:XV) (C:Cf) (hb:Heap) (ad0:List Nat) (Z0:List (Nat×Obj)) (gens:Array GenState) (FF:List Ns->Prop) (n:Nat):Prop:=∀c κ t e h F,Sups e (λsup nss=>Good V C hb ad0 Z0 gens FF (run C V.A₀.handled n c κ t (e.sn sup nss)))->Inv C hb ad0 h e.T e.m e.ad Z0 e.pns->
  OrsOk V C hb ad0 Z0 gens F e.ors->Ff F e.ors=FF->F e.pns->(∀p∈C.zr,p∈zs e.pns)->Wn V c κ t ⟨h,gens,V.d,e.tok,V.os⟩
theorem goAns_obs {FF:List Ns->Prop} {h0:Option Value} {n:Nat} {c:Code} {κ:Ko} {e:Me} {r:Option (Fo×Me)} (hact:κ.act=true) (g:Good V C hb ad0 Z0 gens FF (goAns C h0 n c κ e r)):∃r',r=some r'/\∀q∈r'.2.obs,q.1=q.2:=by
 cases r with
 |none=>exact (not_bad g).elim
 |some r=>
  refine ⟨r,rfl,?_⟩;obtain ⟨f,e'⟩:=r;cases f with
  |ret res=>
   cases κ with
   |base=>exact g.1
   |ret c₁ hd₁ k κ'=>exact λq hq=>g.1 q (run_sub _ _ _ _ _ _ _ q hq)
   |att=>cases hact
  |goto c₂=>exact λq hq=>g.1 q (run_sub _ _ _ _ _ _ _ q hq)
  |bad z=>exact (not_bad g).elim
theorem ans_obs {C:Cf} {h0:Option Value} {c':Code} {κ:Ko} {o:Orc} {ors:List (Cx->Orc)} {e:Me} {r:Fo×Me} (ha:ans C h0 c' κ o ors e=some r) (ob:∀q∈r.2.obs,q.1=q.2):
  c'=o.code/\(∀p∈o.pre,e.ad.getD p.1 0=p.2.1/\e.T.get p.1=some p.2.2)/\(∀v,o.hd=some v->handledOf h0 κ=v)/\(∀l,o.frs=some l->frsOf C.frs κ=some l)/\o.k<=e.sup.length/\e.nss≠[]/\wsum κ<=60/\usum κ<=300:=by
 obtain ⟨ns,nss,y,w1,w2,hn,hk,hf,hx,hr⟩:=ans_spec ha;have s:=aft_sub o c' (handledOf h0 κ) (frsOf C.frs κ) (e.sup.take o.k) ns y ors nss e;rw [hr] at ob;dsimp only at ob
 generalize aft o c' (handledOf h0 κ) (frsOf C.frs κ) (e.sup.take o.k) ns y ors nss e=z at s ob;obtain ⟨-,oc,op,oh,of⟩:=s;exact ⟨by injection ob _ oc,λp hp=>⟨by injection ob _ (op p hp).2,by injection ob _ (op p hp).1⟩,λv hv=>by injection ob _ (oh v hv),λl hl=>by injection ob _ (of l hl),hk,by rw [hn];exact nofun,w1,w2⟩
theorem goAns_at {FF:List Ns->Prop} {h0:Option Value} {n:Nat} {c c':Code} {κ:Ko} {o:Orc} {ors:List (Cx->Orc)} {e:Me} {as sup:List Nat} {ns:Ns} {nss:List Ns} (hk:as.length=o.k)
  (g:Good V C hb ad0 Z0 gens FF (goAns C h0 n c κ (e.sn (as++sup) (ns::nss)) (ans C h0 c' κ o ors (e.sn (as++sup) (ns::nss))))):
  ∃y,fitAll (o.post as ns) e.T=true/\addAll (o.news as ns) as (putAll (o.post as ns) e.T) e.m e.ad=some y/\
   Good V C hb ad0 Z0 gens FF (goOn C h0 n c κ (e.sn (as++sup) (ns::nss)) (o.fo as ns,{aft o c' (handledOf h0 κ) (frsOf C.frs κ) as ns y ors [] (e.sn [] []) with sup:=sup,nss:=nss})):=by
 generalize ha:ans C h0 c' κ o ors (e.sn (as++sup) (ns::nss))=r at g;cases r with
 |none=>exact (not_bad g).elim
 |some r=>
  obtain ⟨z1,y,z2,z3⟩:=ans_at hk ha;rw [z3] at g;exact ⟨y,z1,z2,g⟩
theorem snd_go {FF:List Ns->Prop} {n:Nat} (ih:Snd V C hb ad0 Z0 gens FF n) {c:Code} {κ:Ko} (hact:κ.act=true) {fo:Fo} {e:Me} {h:Heap} {F:List Ns->Prop} {x:List Nat->List Ns->Me}
  (G:Sups e (λsup nss=>Good V C hb ad0 Z0 gens FF (goOn C V.A₀.handled n c κ (x sup nss) (fo,(e.sn sup nss))))) (I:Inv C hb ad0 h e.T e.m e.ad Z0 e.pns)
  (O:OrsOk V C hb ad0 Z0 gens F e.ors) (hFF:Ff F e.ors=FF) (hF:F e.pns) (hZ:∀p∈C.zr,p∈zs e.pns):FinAt V.prog V.w (arK V κ) (endK V κ) fo ⟨h,gens,V.d,e.tok,V.os⟩:=by
 cases fo with
 |ret res=>
  show endK V κ res _;cases κ with
  |base=>
   have g:=G.one;refine g.2.2 h I ?_;have:e.ors=[]:=isEmpty_iff.mp g.2.1;rw [this] at hFF;rw [<-hFF];exact hF
  |ret c₁ hd₁ k κ'=>exact ih c₁ κ' (.tt (.sem (k res))) e h F G I O hFF hF hZ
  |att=>cases hact
 |goto c₂=>exact ih c κ (.evt c₂) e h F G I O hFF hF hZ hact
 |bad z=>exact (not_bad G.one).elim
theorem snd_orc (H:Hy V C) {FF:List Ns->Prop} {n:Nat} (ih:Snd V C hb ad0 Z0 gens FF n) {c c':Code} {κ:Ko} (hact:κ.act=true) {e:Me} {f:Cx->Orc} {ors:List (Cx->Orc)} {h:Heap} {F:List Ns->Prop}
  (G:Sups e (λsup nss=>Good V C hb ad0 Z0 gens FF (goAns C V.A₀.handled n c κ (e.sn sup nss) (ans C V.A₀.handled c' κ (f ⟨e.T,e.ad,e.pns,(frsOf C.frs κ).getD [],handledOf V.A₀.handled κ⟩) ors (e.sn sup nss))))) (I:Inv C hb ad0 h e.T e.m e.ad Z0 e.pns)
  (O:OrsOk V C hb ad0 Z0 gens F (f::ors)) (hFF:Ff F (f::ors)=FF) (hF:F e.pns) (hZ:∀p∈C.zr,p∈zs e.pns):codeAny (model V.prog V.w) (arK V κ) c' (endK V κ) ⟨h,gens,V.d,e.tok,V.os⟩:=by
 obtain ⟨r0,ha0,ob⟩:=goAns_obs hact G.one;obtain ⟨ec,ep,eh,ef,hk0,hn0,w1,w2⟩:=ans_obs ha0 ob;rw [ec];refine O.1 _ hF (arK V κ) (by rw [depth_is];exact Nat.add_le_add_left w1 _) (by rw [units_is];exact Nat.add_le_add_left w2 _) h e.m e.tok (endK V κ) (λv hv=>(handled_is κ).trans (eh v hv)) (λl hl=>frames_is H κ l (ef l hl)) I ep ?_;intro h' as ns hk ha hI hfa;have hn1:replicate e.nss.length Ns.nil≠[]:=hn0;cases hs:e.nss with
 |nil=>rw [hs] at hn1;exact absurd rfl hn1
 |cons n0 nr=>
 have hk1:=zZ hk0 (Nat.le_of_eq qv);have G2:∀(sup:List Nat) (nss:List Ns),sup.length=(e.sup.drop as.length).length->nss.length=nr.length->(∀a∈sup,216<=a)->_:=λsup nss l1 l2 l3=>
  goAns_at hk (G (as++sup) (ns::nss) (by rw [jZ,l1,length_drop];rw [<-hk] at hk1;exact Nat.add_sub_cancel' hk1) (by rw [hs,jY,jY,l2]) (λa hm=>(jq.mp hm).elim (ha a) (l3 a)))
 obtain ⟨y,hfit,hadd,-⟩:=G2 (replicate (e.sup.drop as.length).length 216) (replicate nr.length Ns.nil) qv qv (λa hm=>by rw [eq_of_mem_replicate hm];exact jv _);refine snd_go (c:=c) ih hact (e:={aft (f ⟨e.T,e.ad,e.pns,(frsOf C.frs κ).getD [],handledOf V.A₀.handled κ⟩) c' (handledOf V.A₀.handled κ) (frsOf C.frs κ) as ns y ors [] (e.sn [] []) with sup:=e.sup.drop as.length,nss:=nr}) (x:=λsup nss=>(e.sn (as++sup) (ns::nss))) (λsup nss l1 l2 l3=>?_) (hI y hfit hadd) O.2 hFF ⟨_,as,ns,rfl,hF,hk,hfa⟩ (λp hp=>?_)
 ·obtain ⟨y',-,h2,g⟩:=G2 sup nss l1 l2 l3
  rw [hadd] at h2;cases h2;exact g
 ·have:=hZ p hp
  show p∈zs (e.pns++[ns]);unfold zs at this⊢;rw [flatMap_append];exact jj _ this
def Me.s1 (e:Me):Me:=e.sn (replicate e.sup.length 216) (replicate e.nss.length Ns.nil)
theorem not_bad2 {FF:List Ns->Prop} {X:Out} (g:Good V C hb ad0 Z0 gens FF X) {m:Nat} {e:Me} (h:X=⟨.bad m,e⟩):False:=by rw [h] at g;exact g.2
theorem Good.to {FF:List Ns->Prop} {X Y:Out} (g:Good V C hb ad0 Z0 gens FF X) (h:X=Y):Good V C hb ad0 Z0 gens FF Y:=h▸g
end
section
variable {C:Cf} {h0:Option Value} {n:Nat} {c:Code} {κ:Ko} {e:Me}
theorem v_0 {c':Code} (hc:cutB e.cs=false):run C h0 (n+1) c κ (.evt c') e=run C h0 n c' κ (.tt (denC C κ c')) {e with cs:=cutR e.cs}:=by (conv=>lhs;whnf);rw [hc];try rfl
theorem v_b {c':Code} (hc:cutB e.cs=true) (ho:e.ors=[]):run C h0 (n+1) c .base (.evt c') e=⟨.goto c',e⟩:=by (conv=>lhs;whnf);rw [hc];(conv=>lhs;whnf);rw [ho];try rfl
theorem v_r {c' c₁:Code} {a:Option Value} {k:Result->Sem Fin} (hc:cutB e.cs=true) (ho:e.ors=[]):run C h0 (n+1) c (.ret c₁ a k κ) (.evt c') e=⟨.bad 17,e⟩:=by (conv=>lhs;whnf);rw [hc];(conv=>lhs;whnf);rw [ho];try rfl
theorem v_o {c':Code} {f:Cx->Orc} {ors:List (Cx->Orc)} (hc:cutB e.cs=true) (ho:e.ors=f::ors):run C h0 (n+1) c κ (.evt c') e=goAns C h0 n c κ e (ans C h0 c' κ (f ⟨e.T,e.ad,e.pns,(frsOf C.frs κ).getD [],handledOf h0 κ⟩) ors e):=by
 obtain ⟨T,m,ad,sup,nss,tok,tr,_,pns,cs,obs⟩:=e;cases ho;conv=>lhs;whnf
 rw [hc];rfl
theorem n_0 {v:Value} {env:Env} {k:TT} (hn:noteS C c κ v env e=none):run C h0 (n+1) c κ (.tt (.note v env k)) e=⟨.bad 22,e⟩:=by (conv=>lhs;whnf);rw [hn];try rfl
theorem n_1 {v:Value} {env:Env} {k:TT} {e':Me} (hn:noteS C c κ v env e=some e'):run C h0 (n+1) c κ (.tt (.note v env k)) e=run C h0 n c κ (.tt k) e':=by (conv=>lhs;whnf);rw [hn];try rfl
theorem p_0 {c':Code} (q:quietQ c'=false):run C h0 (n+1) c κ (.tt (.sem (.pure (.again c')))) e=⟨.bad 2,e⟩:=by (conv=>lhs;whnf);rw [q];try rfl
theorem p_a {c':Code} {k:Except Value Flow->TT} (q:quietQ c'=true):run C h0 (n+1) c (.att k κ) (.tt (.sem (.pure (.again c')))) e=⟨.bad 1,e⟩:=by (conv=>lhs;whnf);rw [q];try rfl
theorem p_b {c':Code} (q:quietQ c'=true):run C h0 (n+1) c .base (.tt (.sem (.pure (.again c')))) e=run C h0 n c .base (.evt c') e:=by (conv=>lhs;whnf);rw [q];try rfl
theorem p_r {c' c₁:Code} {a:Option Value} {k:Result->Sem Fin} (q:quietQ c'=true):run C h0 (n+1) c (.ret c₁ a k κ) (.tt (.sem (.pure (.again c')))) e=run C h0 n c (.ret c₁ a k κ) (.evt c') e:=by (conv=>lhs;whnf);rw [q];try rfl
theorem c_0 {c':Code} {a:Option Value} {g l k} (q:okMark a=false):run C h0 (n+1) c κ (.tt (.sem (.call c' a g l k))) e=⟨.bad 14,e⟩:=by (conv=>lhs;whnf);rw [q];try rfl
theorem c_1 {c':Code} {a:Option Value} {g l k} (q:okMark a=true):run C h0 (n+1) c κ (.tt (.sem (.call c' a g l k))) e=run C h0 n c (.ret c a k κ) (.evt c') e:=by (conv=>lhs;whnf);rw [q];try rfl
section
variable {a:Nat} {q:Option Value} {k:Obj->Sem Fin} {tr:List Nat} {j:Nat}
theorem l_nil (ht:e.tr=[]):run C h0 (n+1) c κ (.tt (.sem (.load a q k))) e=⟨.bad 4,e⟩:=by (conv=>lhs;whnf);rw [ht];try rfl
theorem l_0f (ht:e.tr=0::tr) (hl:Nat.blt a 216=false):run C h0 (n+1) c κ (.tt (.sem (.load a q k))) e=⟨.bad 6,e⟩:=by (conv=>lhs;whnf);rw [ht];(conv=>lhs;whnf);rw [hl];try rfl
theorem l_0n (ht:e.tr=0::tr) (hl:Nat.blt a 216=true) (hk:C.kt.get a=none):run C h0 (n+1) c κ (.tt (.sem (.load a q k))) e=⟨.bad 5,e⟩:=by (conv=>lhs;whnf);rw [ht];(conv=>lhs;whnf);rw [hl];(conv=>lhs;whnf);rw [hk];try rfl
theorem l_0s (ht:e.tr=0::tr) (hl:Nat.blt a 216=true) {o:Obj} (hk:C.kt.get a=some o):run C h0 (n+1) c κ (.tt (.sem (.load a q k))) e=run C h0 n c κ (.tt (.sem (k o))) {e with tr:=tr}:=by (conv=>lhs;whnf);rw [ht];(conv=>lhs;whnf);rw [hl];(conv=>lhs;whnf);rw [hk];try rfl
theorem l_jn (ht:e.tr=(j+1)::tr) (hj:Nat.ble 1000 j=false) (hk:e.T.get j=none):run C h0 (n+1) c κ (.tt (.sem (.load a q k))) e=⟨.bad 7,e⟩:=by (conv=>lhs;whnf);rw [ht];(conv=>lhs;whnf);rw [hj];(conv=>lhs;whnf);rw [hk];try rfl
theorem l_js (ht:e.tr=(j+1)::tr) (hj:Nat.ble 1000 j=false) {o:Obj} (hk:e.T.get j=some o):run C h0 (n+1) c κ (.tt (.sem (.load a q k))) e=run C h0 n c κ (.tt (.sem (k o))) {e with tr:=tr,obs:=(.n a,.n (e.ad.getD j 0))::e.obs}:=by (conv=>lhs;whnf);rw [ht];(conv=>lhs;whnf);rw [hj];(conv=>lhs;whnf);rw [hk];try rfl
theorem l_zn (ht:e.tr=(j+1)::tr) (hj:Nat.ble 1000 j=true) (hk:C.zr[j-1000]?=none):run C h0 (n+1) c κ (.tt (.sem (.load a q k))) e=⟨.bad 7,e⟩:=by (conv=>lhs;whnf);rw [ht];(conv=>lhs;whnf);rw [hj];(conv=>lhs;whnf);rw [hk];try rfl
theorem l_zs (ht:e.tr=(j+1)::tr) (hj:Nat.ble 1000 j=true) {p:Nat×Obj} (hk:C.zr[j-1000]?=some p):run C h0 (n+1) c κ (.tt (.sem (.load a q k))) e=run C h0 n c κ (.tt (.sem (k p.2))) {e with tr:=tr,obs:=(.n a,.n p.1)::e.obs}:=by (conv=>lhs;whnf);rw [ht];(conv=>lhs;whnf);rw [hj];(conv=>lhs;whnf);rw [hk];try rfl
end
section
variable {o:Obj} {k:Nat->Sem Fin} {a:Nat} {sup:List Nat}
theorem a_nil (hs:e.sup=[]):run C h0 (n+1) c κ (.tt (.sem (.alloc o k))) e=⟨.bad 8,e⟩:=by (conv=>lhs;whnf);rw [hs];try rfl
theorem a_f (hs:e.sup=a::sup) (hf:o.isFreed=true):run C h0 (n+1) c κ (.tt (.sem (.alloc o k))) e=⟨.bad 8,e⟩:=by (conv=>lhs;whnf);rw [hs];(conv=>lhs;whnf);rw [hf];try rfl
theorem a_n (hs:e.sup=a::sup) (hf:o.isFreed=false) (hq:addAll [o] [a] e.T e.m e.ad=none):run C h0 (n+1) c κ (.tt (.sem (.alloc o k))) e=⟨.bad 8,e⟩:=by (conv=>lhs;whnf);rw [hs];(conv=>lhs;whnf);rw [hf];(conv=>lhs;whnf);rw [hq];try rfl
theorem a_s (hs:e.sup=a::sup) (hf:o.isFreed=false) {r:BT×Nat×List Nat} (hq:addAll [o] [a] e.T e.m e.ad=some r):run C h0 (n+1) c κ (.tt (.sem (.alloc o k))) e=run C h0 n c κ (.tt (.sem (k a))) {e with T:=r.1,m:=r.2.1,ad:=r.2.2,sup:=sup}:=by (conv=>lhs;whnf);rw [hs];(conv=>lhs;whnf);rw [hf];(conv=>lhs;whnf);rw [hq];try rfl
end
section
variable {a:Nat} {q:Option Value} {f:Obj->Obj} {k:Unit->Sem Fin} {tr:List Nat} {j:Nat}
theorem u_nil (ht:e.tr=[]):run C h0 (n+1) c κ (.tt (.sem (.update a q f k))) e=⟨.bad 9,e⟩:=by (conv=>lhs;whnf);rw [ht];try rfl
theorem u_0 (ht:e.tr=0::tr):run C h0 (n+1) c κ (.tt (.sem (.update a q f k))) e=⟨.bad 10,e⟩:=by (conv=>lhs;whnf);rw [ht];try rfl
theorem u_n (ht:e.tr=(j+1)::tr) (hk:e.T.get j=none):run C h0 (n+1) c κ (.tt (.sem (.update a q f k))) e=⟨.bad 12,e⟩:=by (conv=>lhs;whnf);rw [ht];(conv=>lhs;whnf);rw [hk];try rfl
theorem u_t (ht:e.tr=(j+1)::tr) {o:Obj} (hk:e.T.get j=some o) (hf:(f o).isFreed=true):run C h0 (n+1) c κ (.tt (.sem (.update a q f k))) e=⟨.bad 11,e⟩:=by (conv=>lhs;whnf);rw [ht];(conv=>lhs;whnf);rw [hk];(conv=>lhs;whnf);rw [hf];try rfl
theorem u_s (ht:e.tr=(j+1)::tr) {o:Obj} (hk:e.T.get j=some o) (hf:(f o).isFreed=false):run C h0 (n+1) c κ (.tt (.sem (.update a q f k))) e=run C h0 n c κ (.tt (.sem (k ()))) {e with tr:=tr,T:=e.T.set j f,obs:=(.n a,.n (e.ad.getD j 0))::e.obs}:=by (conv=>lhs;whnf);rw [ht];(conv=>lhs;whnf);rw [hk];(conv=>lhs;whnf);rw [hf];try rfl
end
end
section
variable {V:XV} {C:Cf} {hb:Heap} {ad0:List Nat} {Z0:List (Nat×Obj)} {gens:Array GenState}
theorem sound (H:Hy V C) (FF:List Ns->Prop):∀n,Snd V C hb ad0 Z0 gens FF n:=by
 intro n;induction n with
 |zero=>intro c κ t e h F G;exact (not_bad G.one).elim
 |succ n ih=>
  intro c κ t e h F G I O hFF hF hZ;have lim:h.NoLimit:=H.lim h I.old;have ends:e.ors.isEmpty=true->FF e.pns:=λhi=>by
   have:e.ors=[]:=isEmpty_iff.mp hi;rw [this] at hFF;rw [<-hFF];exact hF
  cases t with
  |evt c'=>
   intro hact;cases hc:cutB e.cs with
   |false=>
    exact code_of_den H hact I (ih c' κ (.tt (denC C κ c')) {e with cs:=cutR e.cs} h F (λsup nss h1 h2 h3=>(G sup nss h1 h2 h3).to (v_0 (e:=e.sn sup nss) hc)) I O hFF hF hZ)
   |true=>
    cases ho:e.ors with
    |nil=>
     cases κ with
     |base=>exact (G.one.to (v_b (e:=e.s1) hc ho)).2.2 h I (ends (by rw [ho];rfl))
     |ret=>exact (not_bad2 G.one (v_r (e:=e.s1) hc ho)).elim
     |att=>cases hact
    |cons f ors=>
     rw [ho] at O hFF;exact snd_orc (c:=c) H ih hact (λsup nss h1 h2 h3=>(G sup nss h1 h2 h3).to (v_o (e:=e.sn sup nss) hc ho)) I O hFF hF hZ
  |tt t=>
   cases t with
   |att t k=>
    have x:=ih c (.att k κ) (.tt t) e h F G I O hFF hF hZ;intro Γ p hc hΓ;have x1:=x Γ p hc hΓ;show Sem.wp _ Γ (TT.att t k).real _ _ p _;unfold TT.real;rw [kz,Sem.wp_attempt];refine jW _ _ _ (λfin p' s' z=>?_) (λv p' s' z=>?_) _ _ x1
    ·cases fin with
     |done f=>exact z Γ p' hc hΓ
     |again c'=>exact z.elim
    ·exact z Γ p' hc hΓ
   |note v env k=>
    show wpOwn _ _ c ((noteFrame v env).bind λ_=>k.real) _ _ _;refine wpOwn_bind (m:=noteFrame v env) (f:=λ_=>k.real) (wpOwn_of_wpAny ?_);refine noteS_ok H I (λe'=>Good V C hb ad0 Z0 gens FF (run C V.A₀.handled n c κ (.tt k) e')) (λe' g q hq=>g.1 q (run_sub _ _ _ _ _ _ _ q hq)) (λsup nss l1 l2 l3=>?_) (λe' h' k1 k2 k3 k4 k5=>?_)
    ·have g:=G sup nss l1 l2 l3
     cases hn:noteS C c κ v env (e.sn sup nss) with
     |none=>exact (not_bad2 g (n_0 hn)).elim
     |some e'=>exact ⟨e',hn,g.to (n_1 hn)⟩
    ·have:=ih c κ (.tt k) e' h' F k5 k4 (by rw [k1];exact O) (by rw [k1];exact hFF) (by rw [k2];exact hF) (by rw [k2];exact hZ)
     rw [k3] at this;exact this
   |sem t=>
    show wpOwn _ _ c t _ _ _;cases t with
    |pure fin=>
     refine y_pure _ _ _ _ _ _ _ _ _ ?_;cases fin with
     |done f=>
      cases κ with
      |base=>exact ⟨lim,G.one.2.2 h I (ends G.one.2.1)⟩
      |ret c' hd k κ'=>exact ⟨lim,ih c' κ' (.tt (.sem (k (.ok f)))) e h F (λsup nss h1 h2 h3=>G sup nss h1 h2 h3) I O hFF hF hZ⟩
      |att k κ'=>exact ih c κ' (.tt (k (.ok f))) e h F (λsup nss h1 h2 h3=>G sup nss h1 h2 h3) I O hFF hF hZ
     |again c'=>
      cases q:quietQ c' with
      |false=>
       exact (not_bad2 G.one (p_0 (e:=e.s1) q)).elim
      |true=>
       cases κ with
       |base=>
        refine ⟨lim,y_again _ _ _ _ _ _ (quietQ_ok q) ?_⟩;exact ih c .base (.evt c') e h F (λsup nss h1 h2 h3=>(G sup nss h1 h2 h3).to (p_b (e:=e.sn sup nss) q)) I O hFF hF hZ rfl
       |ret c₁ hd k κ'=>
        refine ⟨lim,y_again _ _ _ _ _ _ (quietQ_ok q) ?_⟩;exact ih c (.ret c₁ hd k κ') (.evt c') e h F (λsup nss h1 h2 h3=>(G sup nss h1 h2 h3).to (p_r (e:=e.sn sup nss) q)) I O hFF hF hZ rfl
       |att k κ'=>
        exact (not_bad2 G.one (p_a (e:=e.s1) q)).elim
    |raise v=>
     refine y_raise _ _ _ _ _ _ _ _ _ ?_;cases κ with
     |base=>exact y_err _ _ _ (G.one.2.2 h I (ends G.one.2.1))
     |ret c' hd k κ'=>exact ih c' κ' (.tt (.sem (k (.error v)))) e h F (λsup nss h1 h2 h3=>G sup nss h1 h2 h3) I O hFF hF hZ
     |att k κ'=>exact ih c κ' (.tt (k (.error v))) e h F (λsup nss h1 h2 h3=>G sup nss h1 h2 h3) I O hFF hF hZ
    |rule tag k=>exact y_skim _ _ _ _ _ _ _ _ _ 1 (ih c κ (.tt (.sem (k ()))) e h F G I O hFF hF hZ)
    |«at» p k=>exact y_skim _ _ _ _ _ _ _ _ _ 1 (ih c κ (.tt (.sem (k ()))) e h F G I O hFF hF hZ)
    |point l k=>exact y_skim _ _ _ _ _ _ _ _ _ 1 (ih c κ (.tt (.sem (k ()))) e h F G I O hFF hF hZ)
    |ask k=>
     have ea:k C.sf=k C.st:=by
      have q:=G.one.1 (.t (k C.sf),.t (k C.st)) (run_sub C _ n c κ (.tt (.sem (k C.st))) _ _ (zy ..));injection q
     have eb:k ⟨V.prog,V.w.params⟩=k C.st:=H.st.elim (jk k) λh=>(jk k h).trans ea;refine y_skim _ _ _ _ _ _ _ _ _ 1 ?_;have z:=ih c κ (.tt (.sem (k C.st))) {e with obs:=(.t (k C.sf),.t (k C.st))::e.obs} h F G I O hFF hF hZ;rw [<-eb] at z;exact z
    |load a q k=>
     cases htr:e.tr with
     |nil=>exact (not_bad2 G.one (l_nil (e:=e.s1) htr)).elim
     |cons j tr=>
      cases j with
      |zero=>
       cases hl:Nat.blt a 216 with
       |false=>exact (not_bad2 G.one (l_0f (e:=e.s1) htr hl)).elim
       |true=>
        cases hk:C.kt.get a with
        |none=>exact (not_bad2 G.one (l_0n (e:=e.s1) htr hl hk)).elim
        |some o=>
         refine y_load _ _ _ _ _ _ _ _ _ _ _ _ _ _ _ o (I.old a o (zx hl) hk) ?_;exact ih c κ (.tt (.sem (k o))) {e with tr:=tr} h F (λsup nss h1 h2 h3=>(G sup nss h1 h2 h3).to (l_0s (e:=e.sn sup nss) htr hl hk)) I O hFF hF hZ
      |succ j=>
       cases hj:Nat.ble 1000 j with
       |false=>
        cases hk:e.T.get j with
        |none=>exact (not_bad2 G.one (l_jn (e:=e.s1) htr hj hk)).elim
        |some o=>
         have ea:a=e.ad.getD j 0:=sd_inj ((G.one.to (l_js (e:=e.s1) htr hj hk)).1 (.n a,.n (e.ad.getD j 0)) (run_sub C _ n c κ (.tt (.sem (k o))) _ _ (zy ..)));refine y_load _ _ _ _ _ _ _ _ _ _ _ _ _ _ _ o (by rw [ea];exact (I.own j o hk).2) ?_;exact ih c κ (.tt (.sem (k o))) {e with tr:=tr,obs:=(.n a,.n (e.ad.getD j 0))::e.obs} h F (λsup nss h1 h2 h3=>(G sup nss h1 h2 h3).to (l_js (e:=e.sn sup nss) htr hj hk)) I O hFF hF hZ
       |true=>
        cases hk:C.zr[j-1000]? with
        |none=>exact (not_bad2 G.one (l_zn (e:=e.s1) htr hj hk)).elim
        |some p=>
         have ea:a=p.1:=sd_inj ((G.one.to (l_zs (e:=e.s1) htr hj hk)).1 (.n a,.n p.1) (run_sub C _ n c κ (.tt (.sem (k p.2))) _ _ (zy ..)));refine y_load _ _ _ _ _ _ _ _ _ _ _ _ _ _ _ p.2 (by rw [ea];exact (I.frz p (hZ p (jy hk))).1) ?_;exact ih c κ (.tt (.sem (k p.2))) {e with tr:=tr,obs:=(.n a,.n p.1)::e.obs} h F (λsup nss h1 h2 h3=>(G sup nss h1 h2 h3).to (l_zs (e:=e.sn sup nss) htr hj hk)) I O hFF hF hZ
    |alloc o k=>
     cases hs:e.sup with
     |nil=>exact (not_bad2 G.one (a_nil (e:=e.s1) (by show replicate e.sup.length 216=[];rw [hs];rfl))).elim
     |cons s0 srest=>
      have hs':replicate e.sup.length 216=216::replicate srest.length 216:=by rw [hs];rfl
      cases hf:o.isFreed with
      |true=>exact (not_bad2 G.one (a_f (e:=e.s1) hs' hf)).elim
      |false=>
      cases q:addAll [o] [216] e.T e.m e.ad with
      |none=>exact (not_bad2 G.one (a_n (e:=e.s1) hs' hf q)).elim
      |some r=>
       have x:=ih c κ (.tt (.sem (k h.objs.size))) {e with T:=e.T.ins e.m o,m:=e.m+1,ad:=e.ad++[h.objs.size],sup:=srest} (h.push o) F (λsup nss h1 h2 h3=>
        (G (h.objs.size::sup) nss (by rw [hs,jY,jY,h1]) h2 (λa ha=>by
         rcases vz.mp ha with rfl|ha
         ·exact zZ I.big I.grow
         ·exact h3 a ha)).to (a_s (e:=e.sn (h.objs.size::sup) nss) rfl hf (addAll_any (b:=h.objs.size) q))) (I.push hf (addAll_one q).1) O hFF hF hZ
       exact wpOwn_bind (m:=PySem.alloc o) (f:=k) (wpOwn_of_wpAny (wpAny_alloc x))
    |update a q f k=>
     cases htr:e.tr with
     |nil=>exact (not_bad2 G.one (u_nil (e:=e.s1) htr)).elim
     |cons j tr=>
      cases j with
      |zero=>exact (not_bad2 G.one (u_0 (e:=e.s1) htr)).elim
      |succ j=>
       cases hk:e.T.get j with
       |none=>exact (not_bad2 G.one (u_n (e:=e.s1) htr hk)).elim
       |some o=>
        cases hf:(f o).isFreed with
        |true=>exact (not_bad2 G.one (u_t (e:=e.s1) htr hk hf)).elim
        |false=>
         have ea:a=e.ad.getD j 0:=sd_inj ((G.one.to (u_s (e:=e.s1) htr hk hf)).1 (.n a,.n (e.ad.getD j 0)) (run_sub C _ n c κ (.tt (.sem (k ()))) _ _ (zy ..)));have x:=ih c κ (.tt (.sem (k ()))) {e with tr:=tr,T:=e.T.set j f,obs:=(.n a,.n (e.ad.getD j 0))::e.obs} (h.update (e.ad.getD j 0) f) F (λsup nss h1 h2 h3=>(G sup nss h1 h2 h3).to (u_s (e:=e.sn sup nss) htr hk hf)) (I.upd hk hf) O hFF hF hZ;subst ea;exact wpOwn_bind (m:=updatePart _ q f) (f:=k) (wpOwn_of_wpAny (wpAny_updatePart (I.own j o hk).2 x))
    |fresh k=>exact y_fresh _ _ _ _ _ _ _ _ _ _ _ _ _ (ih c κ (.tt (.sem (k e.tok))) {e with tok:=e.tok+1} h F G I O hFF hF hZ)
    |handled own k=>
     cases own with
     |true=>exact (not_bad G.one).elim
     |false=>exact y_handled _ _ _ _ _ _ _ _ _ (ih c κ (.tt (.sem (k _))) e h F (by rw [handled_is];exact G) I O hFF hF hZ)
    |call c' hd g l k=>
     cases hm:okMark hd with
     |false=>
      exact (not_bad2 G.one (c_0 (e:=e.s1) hm)).elim
     |true=>
      have hnb:hd≠some byPass:=by
       intro e;subst e;simp [okMark] at hm
      refine y_call _ _ _ _ _ _ _ _ _ _ _ _ _ hnb ?_;exact ih c (.ret c hd k κ) (.evt c') e h F (λsup nss h1 h2 h3=>(G sup nss h1 h2 h3).to (c_1 (e:=e.sn sup nss) hm)) I O hFF hF hZ rfl
    |_=>exact (not_bad G.one).elim
end
end
section
noncomputable def pF (P:Params) (b:Bool):Params:={P with followText:=λr=>if r="special-get-raises" then b else P.followText r}
theorem pF_self (P:Params):pF P (P.followText "special-get-raises")=P:=by
 unfold pF;have h:(λr=>if r="special-get-raises" then P.followText "special-get-raises" else P.followText r)=P.followText:=by
  funext r
  split
  ·rename_i e;rw [e]
  ·rfl
 rw [h]
theorem pF_or {prog:Program} (P:Params):(⟨prog,P⟩:Setting)=⟨prog,pF P true⟩\/(⟨prog,P⟩:Setting)=⟨prog,pF P false⟩:=by
 have h:=pF_self P;cases e:P.followText "special-get-raises" with
 |true=>rw [e] at h;exact .inl (by rw [h])
 |false=>rw [e] at h;exact .inr (by rw [h])
structure Ct where
 code:Code
 hd:Option (Option Value):=none
 frs:Option (List Env):=none
 zpre:List (Nat×Obj):=[]
 pre:List (Nat×Obj)
 k:Nat
 fo:List Nat->Ns->Fo
 post:List Nat->Ns->List Obj
 news:List Nat->Ns->List Obj
 fact:List Nat->Ns->Prop
noncomputable def Fo.ok:Fo->Bool
 | .bad _=>false
 |_=>true
structure St0 (kt:KT) (h:Heap) (Z pre:List (Nat×Obj)):Prop where
 old:∀b o,b<216->kt.get b=some o->h.get? b=some o
 big:216<=h.objs.size
 here:∀p∈pre,h.get? p.1=some p.2
 nd:(pre.map (·.1)).Nodup
 ge:∀p∈pre,216<=p.1
 z:∀p∈Z,h.get? p.1=some p.2/\p.1∉pre.map (·.1)
structure St1 (h h':Heap) (Z pre:List (Nat×Obj)) (post:List Obj) (as:List Nat) (news:List Obj) (Z':List (Nat×Obj)):Prop where
 plen:post.length=pre.length
 nlen:news.length=as.length
 here:∀(i:Nat) (p:Nat×Obj) (o:Obj),pre[i]?=some p->post[i]?=some o->h'.get? p.1=some o
 new:∀(i a:Nat) (o:Obj),as[i]?=some a->news[i]?=some o->h'.get? a=some o
 nd:as.Nodup
 fresh:∀a∈as,h.objs.size<=a
 keep:∀b o,h.get? b=some o->b∉pre.map (·.1)->h'.get? b=some o
 grow:h.objs.size<=h'.objs.size
 z:∀p∈Z',h'.get? p.1=some p.2/\p.1∉pre.map (·.1)/\p.1∉as/\(h.objs.size<=p.1\/p∈Z)
structure St1g (h h':Heap) (Z pre G0:List (Nat×Obj)) (post:List Obj) (as:List Nat) (news:List Obj) (Z' G':List (Nat×Obj)):Prop where
 plen:post.length=pre.length
 nlen:news.length=as.length
 here:∀(i:Nat) (p:Nat×Obj) (o:Obj),pre[i]?=some p->post[i]?=some o->h'.get? p.1=some o
 new:∀(i a:Nat) (o:Obj),as[i]?=some a->news[i]?=some o->h'.get? a=some o
 nd:as.Nodup
 fresh:∀a∈as,h.objs.size<=a
 keep:∀b o,h.get? b=some o->b∉(pre++G0).map (·.1)->h'.get? b=some o
 grow:h.objs.size<=h'.objs.size
 z:∀p∈Z',h'.get? p.1=some p.2/\p.1∉(pre++G0).map (·.1)/\p.1∉as/\(h.objs.size<=p.1\/p∈Z)
 g:∀p∈G',h'.get? p.1=some p.2/\p.1∉as/\(∀q∈Z',q.1≠p.1)/\(p.1∈G0.map (·.1)\/h.objs.size<=p.1)
 gnd:(G'.map (·.1)).Nodup
theorem St1g.one {h h':Heap} {Z pre:List (Nat×Obj)} {post:List Obj} {as:List Nat} {news:List Obj} {Z' G':List (Nat×Obj)} (S:St1g h h' Z pre [] post as news Z' G'):St1 h h' Z pre post as news Z':=
 ⟨S.plen,S.nlen,S.here,S.new,S.nd,S.fresh,λb o e hn=>S.keep b o e (by rw [jx];exact hn),S.grow,λp hp=>by have:=S.z p hp;rw [jx] at this;exact this⟩
theorem St1g.full {h h':Heap} {Z pre G0:List (Nat×Obj)} {post:List Obj} {as:List Nat} {news:List Obj} {Z' G':List (Nat×Obj)} (S:St1g h h' Z pre G0 post as news Z' G') {po:List Obj} {gas:List Nat} {gno:List Obj}
  (e:G'=(G0.map (·.1)).zip po++gas.zip gno) (h1:po.length=G0.length) (h2:gno.length=gas.length):St1 h h' Z (pre++G0) (post++po) (as++gas) (news++gno) Z':=by
 have e2:(gas.zip gno).map (·.1)=gas:=by rw [map_fst_zip];rw [h2];exact jv _
 have ga:∀a∈gas,∃p∈G',p.1=a:=λa ha=>by
  rw [<-e2] at ha;obtain ⟨p,hp,q⟩:=ky.mp ha;exact ⟨p,by rw [e];exact jz _ hp,q⟩
 have nd2:=S.gnd;rw [e,zU,e2] at nd2;have nd3:=kX.mp nd2;have z1:((G0.map (·.1)).zip po).map (·.1)=G0.map (·.1):=by
  rw [map_fst_zip];rw [zJ,h1];exact jv _
 have h3:∀a∈gas,h.objs.size<=a:=λa ha=>by
  obtain ⟨p,hp,q⟩:=ga a ha;rcases (S.g p hp).2.2.2 with x|x
  ·rw [<-z1] at x
   exact absurd q (nd3.2.2 _ x _ ha)
  ·rw [<-q];exact x
 refine ⟨by rw [jZ,jZ,S.plen,h1],by rw [jZ,jZ,S.nlen,h2],λi p o a b=>?_,λi a o x y=>?_,?_,λa ha=>?_,S.keep,S.grow,λp hp=>?_⟩
 ·by_cases hi:i<pre.length
  ·rw [vv hi] at a
   rw [vv (by rw [S.plen];exact hi)] at b;exact S.here i p o a b
  ·rw [vV (by lia)] at a
   rw [vV (by rw [S.plen];lia),S.plen] at b;refine (S.g (p.1,o) ?_).1;rw [e];refine jj _ (jy (i:=i-pre.length) ?_);rw [vW];exact ⟨by rw [vU,a];rfl,b⟩
 ·by_cases hi:i<as.length
  ·rw [vv hi] at x
   rw [vv (by rw [S.nlen];exact hi)] at y;exact S.new i a o x y
  ·rw [vV (by lia)] at x
   rw [vV (by rw [S.nlen];lia),S.nlen] at y;refine (S.g (a,o) ?_).1;rw [e];refine jz _ (jy (i:=i-as.length) ?_);rw [vW];exact ⟨x,y⟩
 ·refine kX.mpr ⟨S.nd,?_,λa ha b hb q=>?_⟩
  ·exact nd3.2.1
  ·obtain ⟨p,hp,hq⟩:=ga b hb
   exact (S.g p hp).2.1 (by rw [hq,<-q];exact ha)
 ·rcases jq.mp ha with ha|ha
  ·exact S.fresh a ha
  ·exact h3 a ha
 ·obtain ⟨x1,x2,x3,x4⟩:=S.z p hp
  refine ⟨x1,x2,λhm=>?_,x4⟩;rcases jq.mp hm with hm|hm
  ·exact x3 hm
  ·obtain ⟨q,hq,y⟩:=ga _ hm
   exact (S.g q hq).2.2.1 p hp y.symm
def HdOk (hd:Option (Option Value)) (h0:Option Value):Prop:=∀v,hd=some v->h0=v
def Ct.Ok (kt:KT) (prog:Program) (w:World) (D U:Nat) (c:Ct):Prop:=
 ∀A:Around,HdOk c.hd A.handled->(∀l,c.frs=some l->A.frames=some l)->A.depth<=D->A.units<=U->∀(h:Heap) (gens:Array GenState) (d:Drawn) (tok:Nat) (os:OsState) (R:Result->Shared->Prop),St0 kt h c.zpre c.pre->
  (∀h' as ns,as.length=c.k->St1 h h' c.zpre c.pre (c.post as ns) as (c.news as ns) ns.z->c.fact as ns->FinAt prog w A R (c.fo as ns) ⟨h',gens,d,ns.n.headD 0,os⟩)->
  codeAny (model prog w) A c.code R ⟨h,gens,d,tok,os⟩
def Ct.OkG (kt:KT) (prog:Program) (w:World) (D U:Nat) (c:Ct) (G0:List (Nat×Obj)) (gf:List Nat->Ns->List (Nat×Obj)):Prop:=
 ∀A:Around,HdOk c.hd A.handled->(∀l,c.frs=some l->A.frames=some l)->A.depth<=D->A.units<=U->∀(h:Heap) (gens:Array GenState) (d:Drawn) (tok:Nat) (os:OsState) (R:Result->Shared->Prop),St0 kt h c.zpre (c.pre++G0)->
  (∀h' as ns,as.length=c.k->St1g h h' c.zpre c.pre G0 (c.post as ns) as (c.news as ns) ns.z (gf as ns)->c.fact as ns->FinAt prog w A R (c.fo as ns) ⟨h',gens,d,ns.n.headD 0,os⟩)->
  codeAny (model prog w) A c.code R ⟨h,gens,d,tok,os⟩
theorem Ct.Ok.mono {kt:KT} {prog:Program} {w:World} {D U D' U':Nat} {c:Ct} (h:c.Ok kt prog w D U) (hD:D'<=D) (hU:U'<=U):c.Ok kt prog w D' U':=λA h1 h2 h3 h4=>h A h1 h2 (zZ h3 hD) (zZ h4 hU)
def me0 (Z pre:List (Nat×Obj)) (sup:List Nat) (nss:List Ns) (tok:Nat) (tr cs:List Nat) (ors:List (Cx->Orc)):Me:=
 let r:=(addAll (pre.map (·.2)) (pre.map (·.1)) .nil 0 []).getD (.nil,0,[]);⟨r.1,r.2.1,r.2.2,sup,nss,tok,tr,ors,[⟨[tok],[],[],Z⟩],cs,[]⟩
def F0 (tok:Nat) (Z:List (Nat×Obj)):List Ns->Prop:=λl=>l=[⟨[tok],[],[],Z⟩]
def AllB:Nat->(List Nat->Prop)->Prop
 |0,P=>P []
 |n+1,P=>∀b:Nat,AllB n λl=>P ((b+216)::l)
def AllL:Nat->(List Ns->Prop)->Prop
 |0,P=>P []
 |n+1,P=>∀ns:Ns,AllL n λl=>P (ns::l)
theorem allB_use:∀{n:Nat} {P:List Nat->Prop},AllB n P->∀sup:List Nat,sup.length=n->(∀a∈sup,216<=a)->P sup
 |0,P,h,[],_,_=>h
 |n+1,P,h,a::sup,hl,ha=>by
  have h1:216<=a:=ha a (zy ..);have h2:=allB_use (h (a-216)) sup (by simpa using hl) λb hb=>ha b (zv _ hb);rw [Nat.sub_add_cancel h1] at h2;exact h2
theorem allL_use:∀{n:Nat} {P:List Ns->Prop},AllL n P->∀l:List Ns,l.length=n->P l
 |0,P,h,[],_=>h
 |n+1,P,h,a::l,hl=>allL_use (h a) l (by simpa using hl)
abbrev Sig:=Fo×List (Option Obj)×List (Option Obj)×List Nat×List Nat×Nat×List Side×Bool×List Ns
noncomputable def sigL (o:Out) (n:Nat) (idx:List Nat):Sig:=
 (o.fin,(List.range n).map o.e.T.get,idx.map o.e.T.get,(List.range n).map (λj=>o.e.ad.getD j 0),idx.map (λj=>o.e.ad.getD j 0),o.e.tok,o.e.obs.map (·.1),o.e.ors.isEmpty,o.e.pns)
noncomputable def sigR (o:Out) (c:Ct) (as:List Nat) (ns:Ns) (ps:List Ns):Sig:=
 (c.fo as ns,(c.post as ns).map some,(c.news as ns).map some,c.pre.map (·.1),as,ns.n.headD 0,o.e.obs.map (·.2),true,ps)
theorem pairs_eq {α:Type}:∀{l:List (α×α)},l.map (·.1)=l.map (·.2)->∀q∈l,q.1=q.2
 |[],_,_,h=>nomatch h
 |p::l,e,q,h=>by
  rw [kQ,kQ] at e;injection e with e1 e2;rcases vz.mp h with rfl|h
  ·exact e1
  ·exact pairs_eq e2 q h
section
variable {C:Cf} {hb h:Heap} {ad0 ad:List Nat} {T:BT} {m:Nat} {Z0:List (Nat×Obj)} {Z:List Ns}
theorem Inv.ins (I:Inv C hb ad0 h T m ad Z0 Z) {o:Obj} {a:Nat} (hg:((T.ins m o).get m).isSome=true) (ho:h.get? a=some o) (hn:a∉ad) (h1:216<=a) (h2:a∈ad0\/hb.objs.size<=a) (hz:∀p∈zs Z,p.1≠a) (hy:∀p∈C.gr Z,p.1≠a):Inv C hb ad0 h (T.ins m o) (m+1) (ad++[a]) Z0 Z where
 len:=by rw [jZ,I.len];rfl
 own:=λj o' e=>by
  rw [BT.get_ins o T m hg] at e;by_cases hj:j=m
  ·subst hj
   rw [if_pos rfl] at e;cases e;refine ⟨Nat.lt_succ_self _,?_⟩;have:(ad++[a]).getD j 0=a:=by rw [<-I.len];simp
   rw [this];exact ho
  ·rw [vk hj] at e
   obtain ⟨h3,h4⟩:=I.own j o' e;refine ⟨Nat.lt_succ_of_lt h3,?_⟩;have:(ad++[a]).getD j 0=ad.getD j 0:=by
    rw [zY,zY,vv (by rw [I.len];exact h3)]
   rw [this];exact h4
 nd:=by
  refine kX.mpr ⟨I.nd,by simp,λx hx b hb e=>?_⟩;rw [jJ.mp hb] at e;exact hn (e▸hx)
 lt:=λx hx=>by
  rcases jq.mp hx with h3|h3
  ·exact I.lt x h3
  ·rw [jJ.mp h3];exact ⟨h1,kY ho⟩
 old:=I.old
 keep:=I.keep
 grow:=I.grow
 new:=λx hx=>by
  rcases jq.mp hx with h3|h3
  ·exact I.new x h3
  ·rw [jJ.mp h3];exact h2
 big:=I.big
 frz:=λp hp=>by
  obtain ⟨x1,x2,x3⟩:=I.frz p hp;refine ⟨x1,λhm=>?_,x3⟩;rcases jq.mp hm with h4|h4
  ·exact x2 h4
  ·exact hz p hp (jJ.mp h4)
 grp:=λp hp=>by
  obtain ⟨x1,x2,x3⟩:=I.grp p hp;refine ⟨x1,λhm=>?_,x3⟩;rcases jq.mp hm with h4|h4
  ·exact x2 h4
  ·exact hy p hp (jJ.mp h4)
 gnd:=I.gnd
theorem Inv.addAll:∀{os:List Obj} {as:List Nat} {T:BT} {m:Nat} {ad:List Nat} {r:BT×Nat×List Nat},Inv C hb ad0 h T m ad Z0 Z->Mine.addAll os as T m ad=some r->(∀(i a:Nat) (o:Obj),as[i]?=some a->os[i]?=some o->h.get? a=some o)->as.Nodup->(∀a∈as,a∉ad)->(∀a∈as,216<=a)->(∀a∈as,a∈ad0\/hb.objs.size<=a)->(∀p∈zs Z,p.1∉as)->(∀p∈C.gr Z,p.1∉as)->Inv C hb ad0 h r.1 r.2.1 r.2.2 Z0 Z
 |[],as,T,m,ad,r,I,e,_,_,_,_,_,_,_=>by
  have e:some (T,m,ad)=some r:=e;cases e;exact I
 |o::os,[],T,m,ad,r,I,e,_,_,_,_,_,_,_=>(nn e).elim
 |o::os,a::as,T,m,ad,r,I,e,hh,hn,hd,hg,hw,hz,hy=>by
  obtain ⟨hx,e⟩:=addAll_cons e;have I':=I.ins (o:=o) (a:=a) hx (hh 0 a o rfl rfl) (hd a (zy ..)) (hg a (zy ..)) (hw a (zy ..)) (λp hp e=>hz p hp (by rw [e];exact zy ..)) (λp hp e=>hy p hp (by rw [e];exact zy ..));rw [vX] at hn;refine Inv.addAll I' e (λi a' o' h1 h2=>hh (i+1) a' o' (by simpa using h1) (by simpa using h2)) hn.2 (λa' h1 h2=>?_) (λa' h1=>hg a' (zv _ h1)) (λa' h1=>hw a' (zv _ h1)) (λp hp hm=>hz p hp (zv _ hm)) λp hp hm=>hy p hp (zv _ hm);rcases jq.mp h2 with h3|h3
  ·exact hd a' (zv _ h1) h3
  ·rw [jJ.mp h3] at h1
   exact hn.1 h1
theorem map_at {α β:Type} {l:List α} {f:α->β} {r:List β} (e:l.map f=r) {i:Nat} {x:α} (hx:l[i]?=some x):r[i]?=some (f x):=by
 rw [<-e,vU,hx];rfl
theorem range_at {n i:Nat} (h:i<n):(List.range n)[i]?=some i:=getElem?_range h
theorem good_ct {prog:Program} {w:World} {A:Around} {gens:Array GenState} {d:Drawn} {os:OsState} {R:Result->Shared->Prop} {h h':Heap} {c:Ct} {o:Out} {idx as:List Nat} {ns:Ns} {ps:List Ns} {C:Cf}
  (hi:idx.Nodup) (hi2:∀j∈idx,c.pre.length<=j) (e:sigL o c.pre.length idx=sigR o c as ns ps) (hfact:c.fact as ns) (hk:as.length=c.k) (hzs:∀p∈ns.z,p∈zs ps)
  {G0:List (Nat×Obj)} {gf:List Nat->Ns->List (Nat×Obj)} (hG:C.gr ps=gf as ns) (hgs:∀a∈G0.map (·.1),a∈(gf as ns).map (·.1)) (hzg:∀p∈c.zpre,p.1∉G0.map (·.1)) (hgl:∀a∈G0.map (·.1),a<h.objs.size)
  (I:Inv C h ((c.pre++G0).map (·.1)) h' o.e.T o.e.m o.e.ad c.zpre o.e.pns)
  (K:∀h' as ns,as.length=c.k->St1g h h' c.zpre c.pre G0 (c.post as ns) as (c.news as ns) ns.z (gf as ns)->c.fact as ns->FinAt prog w A R (c.fo as ns) ⟨h',gens,d,ns.n.headD 0,os⟩):
  FinAt prog w A R o.fin ⟨h',gens,d,o.e.tok,os⟩:=by
 unfold sigL sigR at e;simp only [Prod.mk.injEq] at e;obtain ⟨e1,e2,e3,e4,e5,e6,-,-,e9⟩:=e;rw [e1,e6];have l2:(c.post as ns).length=c.pre.length:=by
  have:=jk length e2;simpa using this.symm
 have l3:(c.news as ns).length=idx.length:=by
  have:=jk length e3;simpa using this.symm
 have l5:as.length=idx.length:=by
  have:=jk length e5;simpa using this.symm
 have a4:∀(i:Nat) (p:Nat×Obj),c.pre[i]?=some p->i<c.pre.length/\o.e.ad.getD i 0=p.1:=λi p hp=>by
  have hlt:i<c.pre.length:=(List.getElem?_eq_some_iff.mp hp).1;have:=map_at e4 (range_at hlt);rw [vU,hp] at this;exact ⟨hlt,(kU this).symm⟩
 have a2:∀(i:Nat) (q:Obj),(c.post as ns)[i]?=some q->o.e.T.get i=some q:=λi q hq=>by
  have hlt:i<(c.post as ns).length:=(List.getElem?_eq_some_iff.mp hq).1;rw [l2] at hlt;have:=map_at e2 (range_at hlt);rw [vU,hq] at this;exact (kU this).symm
 have a5:∀(i a:Nat),as[i]?=some a->∃j,idx[i]?=some j/\o.e.ad.getD j 0=a:=λi a ha=>by
  have hlt:i<as.length:=(List.getElem?_eq_some_iff.mp ha).1;rw [l5] at hlt;have hj:=zQ hlt;have:=map_at e5 hj;rw [ha] at this;exact ⟨_,hj,(kU this).symm⟩
 have a3:∀(i j:Nat),idx[i]?=some j->∃q,(c.news as ns)[i]?=some q/\o.e.T.get j=some q:=λi j hj=>by
  have hlt:i<idx.length:=(List.getElem?_eq_some_iff.mp hj).1;rw [<-l3] at hlt;have hq:=zQ hlt;have:=map_at e3 hj;rw [vU,hq] at this;exact ⟨_,hq,(kU this).symm⟩
 have jlt:∀j∈idx,j<o.e.ad.length:=λj hj=>by
  obtain ⟨i,hlt,rfl⟩:=qj.mp hj;obtain ⟨q,-,hq⟩:=a3 i _ (zQ hlt);rw [I.len];exact (I.own _ _ hq).1
 have asm:∀a∈as,a∈o.e.ad:=λa ha=>by
  obtain ⟨i,hi,e'⟩:=qj.mp ha;obtain ⟨j,hj,y⟩:=a5 i _ (by rw [zQ hi,e']);rw [<-y];exact getD_mem (jlt j (jy hj))
 have Gm:∀p∈gf as ns,p∈C.gr o.e.pns:=λp hp=>by rw [e9,hG];exact hp
 refine K h' as ns hk ⟨l2,by rw [l3,l5],λi p q hp hq=>?_,λi a q ha hq=>?_,?_,λa ha=>?_,λb q hb hn=>I.keep b q hb hn,I.grow,λp hp=>?_,λp hp=>?_,by rw [<-hG,<-e9];exact I.gnd⟩ hfact
 ·obtain ⟨hlt,hp⟩:=a4 i p hp
  rw [<-hp];exact (I.own i q (a2 i q hq)).2
 ·obtain ⟨j,hj,ha⟩:=a5 i a ha
  obtain ⟨q',hq',hT⟩:=a3 i j hj;rw [hq] at hq';cases hq';rw [<-ha];exact (I.own j q hT).2
 ·rw [<-e5]
  refine Pairwise.map _ (R:=λx y=>x≠y/\x∈idx/\y∈idx) (λx y hxy he=>hxy.1 (getD_inj I.nd (jlt x hxy.2.1) (jlt y hxy.2.2) he)) ?_;rw [pairwise_iff_getElem];intro i j hi' hj' hij;exact ⟨pairwise_iff_getElem.mp hi i j hi' hj' hij,getElem_mem ..,getElem_mem ..⟩
 ·obtain ⟨i,hlt,rfl⟩:=qj.mp ha
  obtain ⟨j,hj,ha⟩:=a5 i _ (zQ hlt);have hjm:j∈idx:=jy hj;have hjl:=jlt j hjm;rcases I.new _ (getD_mem hjl) with hm|hm
  ·rw [zU] at hm
   rcases jq.mp hm with hm|hm;rotate_left
   ·obtain ⟨p,hp,he⟩:=ky.mp (hgs _ hm)
    exact absurd (he▸getD_mem hjl) (I.grp p (Gm p hp)).2.1
   obtain ⟨p,hp,he⟩:=ky.mp hm;obtain ⟨x,hx,hxe⟩:=qj.mp hp;obtain ⟨hx2,hpe⟩:=a4 x p (by rw [zQ hx,hxe]);have hxl:x<o.e.ad.length:=Nat.lt_of_lt_of_le hx2 (zZ (hi2 j hjm) (Nat.le_of_lt hjl));have:=getD_inj I.nd hxl hjl (hpe.trans he);have h3:=hi2 j hjm;lia
  ·rw [<-ha];exact hm
 ·obtain ⟨x1,x2,x3⟩:=I.frz p (by rw [e9];exact hzs p hp)
  refine ⟨x1,λhm=>?_,λhm=>x2 (asm _ hm),x3⟩;rw [zU] at hm;rcases jq.mp hm with hm|hm
  ·obtain ⟨q,hq,e⟩:=ky.mp hm
   obtain ⟨i,hi,e'⟩:=qj.mp hq;obtain ⟨hlt,y⟩:=a4 i q (by rw [zQ hi,e']);have hlt':i<o.e.ad.length:=by
    have hpl:i<(c.post as ns).length:=by rw [l2];exact hlt
    have:=(I.own i _ (a2 i _ (zQ hpl))).1;rw [I.len];exact this
   exact x2 (by rw [<-e,<-y];exact getD_mem hlt')
  ·rcases x3 with x3|x3
   ·exact absurd (hgl _ hm) (vQ.mpr x3)
   ·exact hzg p x3 hm
 ·obtain ⟨x1,x2,x3,x4,x5⟩:=I.grp p (Gm p hp)
  refine ⟨x1,λhm=>x2 (asm _ hm),λq hq=>x5 q (by rw [e9];exact hzs q hq),?_⟩;rcases x4 with x4|x4
  ·rw [zU] at x4
   rcases jq.mp x4 with hm|hm
   ·obtain ⟨q,hq,e⟩:=ky.mp hm
    obtain ⟨i,hi,e'⟩:=qj.mp hq;obtain ⟨hlt,y⟩:=a4 i q (by rw [zQ hi,e']);have hlt':i<o.e.ad.length:=by
     have hpl:i<(c.post as ns).length:=by rw [l2];exact hlt
     have:=(I.own i _ (a2 i _ (zQ hpl))).1;rw [I.len];exact this
    exact absurd (by rw [<-e,<-y];exact getD_mem hlt') x2
   ·exact .inl hm
  ·exact .inr x4
def runCt (C:Cf) (c:Ct) (h0:Option Value) (n:Nat) (tr cs:List Nat) (ors:List (Cx->Orc)) (tok:Nat) (sup:List Nat) (nss:List Ns):Out:=
 run C h0 n c.code .base (.tt (denC C .base c.code)) (me0 c.zpre c.pre sup nss tok tr cs ors)
theorem ct_of_runG {kt:KT} {prog:Program} {w:World} {D U tt:Nat} {c:Ct} {n nsup nnss:Nat} {idx:List Nat} {tr cs:List Nat} {ors:List (Cx->Orc)}
  (lim:∀h:Heap,(∀b o,b<216->kt.get b=some o->h.get? b=some o)->h.NoLimit)
  (asf:Nat->List Nat->List Ns->List Nat) (nsf:Nat->List Nat->List Ns->Ns) (psf:Nat->List Ns->List Ns)
  (gr:List Ns->List (Nat×Obj)) (G0:List (Nat×Obj)) (gf:List Nat->Ns->List (Nat×Obj)) (hG0:∀tok,gr [⟨[tok],[],[],c.zpre⟩]=G0)
  (hgf:∀tok sup nss,Ff (F0 tok c.zpre) ors (psf tok nss)->gr (psf tok nss)=gf (asf tok sup nss) (nsf tok sup nss)) (hgs:∀tok sup nss,Ff (F0 tok c.zpre) ors (psf tok nss)->∀a∈G0.map (·.1),a∈(gf (asf tok sup nss) (nsf tok sup nss)).map (·.1))
  (hi:idx.Nodup) (hi2:∀j∈idx,c.pre.length<=j) (hk:idx.length=c.k) (hnb:∀as ns,(c.fo as ns).ok=true)
  (hadd:(Mine.addAll (c.pre.map (·.2)) (c.pre.map (·.1)) .nil 0 []).isSome=true)
  (hors:∀(V:XV) (hb:Heap) (ad0:List Nat) (gens:Array GenState) (tok:Nat),V.prog=prog->V.w=w->V.A₀.depth<=D->V.A₀.units<=U->OrsOk V ⟨kt,⟨prog,pF w.params true⟩,⟨prog,pF w.params false⟩,c.frs,tt,D,U,c.zpre,gr⟩ hb ad0 c.zpre gens (F0 tok c.zpre) ors)
  (hfs:∀tok sup nss,Ff (F0 tok c.zpre) ors (psf tok nss)->c.fact (asf tok sup nss) (nsf tok sup nss))
  (hzs:∀tok sup nss,∀p∈(nsf tok sup nss).z,p∈zs (psf tok nss))
  (eq:∀h0,HdOk c.hd h0->∀tok,AllB nsup λsup=>AllL nnss λnss=>sigL (runCt ⟨kt,⟨prog,pF w.params true⟩,⟨prog,pF w.params false⟩,c.frs,tt,D,U,c.zpre,gr⟩ c h0 n tr cs ors tok sup nss) c.pre.length idx
    =sigR (runCt ⟨kt,⟨prog,pF w.params true⟩,⟨prog,pF w.params false⟩,c.frs,tt,D,U,c.zpre,gr⟩ c h0 n tr cs ors tok sup nss) c (asf tok sup nss) (nsf tok sup nss) (psf tok nss)):
  c.OkG kt prog w D U G0 gf:=by
 intro A hh hfr hD hU h gens d tok os R S0 K;have zs1:∀{p:Nat×Obj},p∈zs [(⟨[tok],[],[],c.zpre⟩:Ns)]->p∈c.zpre:=λh=>by unfold zs at h;simpa using h
 have nd0:=S0.nd;rw [zU] at nd0;have nd1:=kX.mp nd0;have gnd0:=nd1.2.1;have H:Hy ⟨prog,w,h,0,kt,.nil,A,R,d,tok,os⟩ ⟨kt,⟨prog,pF w.params true⟩,⟨prog,pF w.params false⟩,c.frs,tt,D,U,c.zpre,gr⟩:=⟨pF_or w.params,hD,hU,hfr,lim⟩
 have I0:Inv ⟨kt,⟨prog,pF w.params true⟩,⟨prog,pF w.params false⟩,c.frs,tt,D,U,c.zpre,gr⟩ h ((c.pre++G0).map (·.1)) h .nil 0 [] c.zpre [⟨[tok],[],[],c.zpre⟩]:=⟨rfl,λj o e=>(by cases e),nodup_nil,λa ha=>(by cases ha),S0.old,λ_ _ e _=>e,jv _,λa ha=>(by cases ha),S0.big,λp hp=>(have hp:=zs1 hp;⟨(S0.z p hp).1,by simp,.inr hp⟩),λp hp=>(have hp:p∈G0:=(hG0 tok)▸hp;⟨S0.here p (jz _ hp),by simp,S0.ge p (jz _ hp),.inl (zW (jz _ hp)),λq hq e=>(S0.z q (zs1 hq)).2 (e▸zW (jz _ hp))⟩),by show ((gr _).map _).Nodup;rw [hG0];exact gnd0⟩
 cases hr:Mine.addAll (c.pre.map (·.2)) (c.pre.map (·.1)) .nil 0 [] with
 |none=>rw [hr] at hadd;cases hadd
 |some r=>
  have I:=I0.addAll hr (λi a o ha ho=>by
   rw [vU] at ha ho;cases hp:c.pre[i]? with
   |none=>rw [hp] at ha;cases ha
   |some p=>
    rw [hp] at ha ho;cases ha;cases ho;exact S0.here p (jj _ (jy hp))) nd1.1 (λ_ _ h=>by cases h) (λa ha=>by
     obtain ⟨p,hp,rfl⟩:=ky.mp ha;exact S0.ge p (jj _ hp)) (λa ha=> .inl (by rw [zU];exact jj _ ha)) (λp hp hm=>(S0.z p (zs1 hp)).2 (by rw [zU];exact jj _ hm)) (λp hp hm=>(have hp:p∈G0:=(hG0 tok)▸hp;nd1.2.2 _ hm _ (zW hp) rfl))
  have me:∀sup nss,me0 c.zpre c.pre sup nss tok tr cs ors=⟨r.1,r.2.1,r.2.2,sup,nss,tok,tr,ors,[⟨[tok],[],[],c.zpre⟩],cs,[]⟩:=λsup nss=>by
   unfold me0;rw [hr];rfl
  have snd:=sound (V:=⟨prog,w,h,0,kt,.nil,A,R,d,tok,os⟩) (gens:=gens) (hb:=h) (ad0:=(c.pre++G0).map (·.1)) H (Ff (F0 tok c.zpre) ors) n c.code .base (.tt (denC ⟨kt,⟨prog,pF w.params true⟩,⟨prog,pF w.params false⟩,c.frs,tt,D,U,c.zpre,gr⟩ .base c.code))
   ⟨r.1,r.2.1,r.2.2,replicate nsup 216,replicate nnss Ns.nil,tok,tr,ors,[⟨[tok],[],[],c.zpre⟩],cs,[]⟩ h (F0 tok c.zpre) (λsup nss h1 h2 h3=>by
    have q:=allL_use (allB_use (eq A.handled hh tok) sup (by rw [h1,qv]) h3) nss (by rw [h2,qv]);unfold runCt at q;rw [me] at q;show Good _ _ _ _ _ _ _ (run _ A.handled _ _ _ _ ⟨r.1,r.2.1,r.2.2,sup,nss,tok,tr,ors,[⟨[tok],[],[],c.zpre⟩],cs,[]⟩);generalize run ⟨kt,⟨prog,pF w.params true⟩,⟨prog,pF w.params false⟩,c.frs,tt,D,U,c.zpre,gr⟩ A.handled n c.code .base (.tt (denC ⟨kt,⟨prog,pF w.params true⟩,⟨prog,pF w.params false⟩,c.frs,tt,D,U,c.zpre,gr⟩ .base c.code)) ⟨r.1,r.2.1,r.2.2,sup,nss,tok,tr,ors,[⟨[tok],[],[],c.zpre⟩],cs,[]⟩=o at q⊢;have q2:=q;unfold sigL sigR at q2;simp only [Prod.mk.injEq] at q2;obtain ⟨e1,e2,e3,e4,e5,e6,e7,e8,e9⟩:=q2;have hkl:(asf tok sup nss).length=c.k:=by
     have:=jk length e5;rw [<-hk,<-this,zJ]
    refine ⟨pairs_eq e7,?_⟩;have fin:=λh' I' (hF:Ff (F0 tok c.zpre) ors o.e.pns)=>good_ct (h':=h') (prog:=prog) (w:=w) (A:=A) (gens:=gens) (d:=d) (os:=os) (R:=R) (C:=⟨kt,⟨prog,pF w.params true⟩,⟨prog,pF w.params false⟩,c.frs,tt,D,U,c.zpre,gr⟩) hi hi2 q (hfs tok sup nss (by rw [<-e9];exact hF)) hkl (hzs tok sup nss) (hgf tok sup nss (by rw [<-e9];exact hF)) (hgs tok sup nss (by rw [<-e9];exact hF)) (λp hp hm=>(S0.z p hp).2 (by rw [zU];exact jz _ hm)) (λa ha=>by obtain ⟨p,hp,rfl⟩:=ky.mp ha;exact kY (S0.here p (jz _ hp))) I' K;cases hf:o.fin with
    |ret r=>rw [hf] at fin;exact ⟨e8,fin⟩
    |goto c'=>rw [hf] at fin;exact ⟨e8,fin⟩
    |bad x=>
     have:=hnb (asf tok sup nss) (nsf tok sup nss);rw [<-e1,hf] at this;cases this)
   I (hors _ _ _ _ tok rfl rfl hD hU) rfl rfl (λp hp=>by show p∈zs [_];unfold zs;simpa using hp)
  exact code_of_den (V:=⟨prog,w,h,0,kt,.nil,A,R,d,tok,os⟩) (κ:= .base) H rfl I snd
theorem ct_of_run {kt:KT} {prog:Program} {w:World} {D U tt:Nat} {c:Ct} {n nsup nnss:Nat} {idx:List Nat} {tr cs:List Nat} {ors:List (Cx->Orc)}
  (lim:∀h:Heap,(∀b o,b<216->kt.get b=some o->h.get? b=some o)->h.NoLimit)
  (asf:Nat->List Nat->List Ns->List Nat) (nsf:Nat->List Nat->List Ns->Ns) (psf:Nat->List Ns->List Ns)
  (hi:idx.Nodup) (hi2:∀j∈idx,c.pre.length<=j) (hk:idx.length=c.k) (hnb:∀as ns,(c.fo as ns).ok=true)
  (hadd:(Mine.addAll (c.pre.map (·.2)) (c.pre.map (·.1)) .nil 0 []).isSome=true)
  (hors:∀(V:XV) (hb:Heap) (ad0:List Nat) (gens:Array GenState) (tok:Nat),V.prog=prog->V.w=w->V.A₀.depth<=D->V.A₀.units<=U->OrsOk V ⟨kt,⟨prog,pF w.params true⟩,⟨prog,pF w.params false⟩,c.frs,tt,D,U,c.zpre,λ_=>[]⟩ hb ad0 c.zpre gens (F0 tok c.zpre) ors)
  (hfs:∀tok sup nss,Ff (F0 tok c.zpre) ors (psf tok nss)->c.fact (asf tok sup nss) (nsf tok sup nss))
  (hzs:∀tok sup nss,∀p∈(nsf tok sup nss).z,p∈zs (psf tok nss))
  (eq:∀h0,HdOk c.hd h0->∀tok,AllB nsup λsup=>AllL nnss λnss=>sigL (runCt ⟨kt,⟨prog,pF w.params true⟩,⟨prog,pF w.params false⟩,c.frs,tt,D,U,c.zpre,λ_=>[]⟩ c h0 n tr cs ors tok sup nss) c.pre.length idx
    =sigR (runCt ⟨kt,⟨prog,pF w.params true⟩,⟨prog,pF w.params false⟩,c.frs,tt,D,U,c.zpre,λ_=>[]⟩ c h0 n tr cs ors tok sup nss) c (asf tok sup nss) (nsf tok sup nss) (psf tok nss)):
  c.Ok kt prog w D U:=λA hh hfr hD hU h gens d tok os R S0 K=>
 ct_of_runG lim asf nsf psf (λ_=>[]) [] (λ_ _=>[]) (λ_=>rfl) (λ_ _ _ _=>rfl) (λ_ _ _ _ _ h=>nomatch h) hi hi2 hk hnb hadd hors hfs hzs eq A hh hfr hD hU h gens d tok os R (by rw [jx];exact S0) λh' as ns hk S1=>K h' as ns hk S1.one
end
end
section
noncomputable def zipPre:List Nat->List (Nat×Obj)->List (Nat×Nat×Obj)
 |i::ix,p::ps=>(i,p.1,p.2)::zipPre ix ps
 |_,_=>[]
noncomputable def zipPost:List Nat->List Obj->List (Nat×Obj)
 |i::ix,o::os=>(i,o)::zipPost ix os
 |_,_=>[]
def Ct.orc (c:Ct) (ix:List Nat):Orc:=⟨c.code,c.hd,c.frs,zipPre ix c.pre,c.k,c.fo,λas ns=>zipPost ix (c.post as ns),c.news,c.fact⟩
theorem zipPre_at {ix:List Nat} {ps:List (Nat×Obj)} {k i:Nat} {p:Nat×Obj} (h1:ix[k]?=some i) (h2:ps[k]?=some p):(i,p.1,p.2)∈zipPre ix ps:=by
 induction ix generalizing ps k with
 |nil=>exact (nn h1).elim
 |cons j ix ih=>
  cases ps with
  |nil=>exact (nn h2).elim
  |cons q ps=>
   cases k with
   |zero=>
    obtain rfl:j=i:=kU h1;obtain rfl:q=p:=kU h2;exact zy ..
   |succ k=>exact zv _ (ih (show ix[k]?=_ from h1) (show ps[k]?=_ from h2))
theorem put_other {ix:List Nat} {os:List Obj} {T:BT} {j:Nat} (h:j∉ix):(putAll (zipPost ix os) T).get j=T.get j:=by
 induction ix generalizing os T with
 |nil=>rfl
 |cons i ix ih=>
  cases os with
  |nil=>rfl
  |cons o os=>exact (ih (T:=T.set i λ_=>o) λhm=>h (zv _ hm)).trans (by rw [BT.get_set,vk λhe=>h (by rw [he];exact zy ..)])
theorem put_at {ix:List Nat} {os:List Obj} {T:BT} {k j:Nat} {o':Obj} (hn:ix.Nodup) (h:ix[k]?=some j) (hg:(putAll (zipPost ix os) T).get j=some o') (hl:os.length=ix.length):os[k]?=some o':=by
 induction ix generalizing os T k with
 |nil=>exact (nn h).elim
 |cons i ix ih=>
  rw [vX] at hn;cases os with
  |nil=>cases hl
  |cons o os=>
   cases k with
   |zero=>
    obtain rfl:i=j:=kU h;have hg:(putAll (zipPost ix os) (T.set i λ_=>o)).get i=some o':=hg;rw [put_other hn.1,BT.get_set,if_pos rfl] at hg;cases ht:T.get i with
    |none=>rw [ht] at hg;exact (nn hg).elim
    |some x=>rw [ht] at hg;exact hg
   |succ k=>exact ih (os:=os) hn.2 (show ix[k]?=some j from h) (show (putAll (zipPost ix os) (T.set i λ_=>o)).get j=some o' from hg) (Nat.succ.inj (show os.length+1=ix.length+1 from hl))
theorem mem_at {l:List Nat} {j:Nat} (h:j∈l):∃k:Nat,l[k]?=some j:=by
 obtain ⟨k,hk,e⟩:=qj.mp h;exact ⟨k,by rw [zQ hk,e]⟩
theorem at_lt {α:Type} {l:List α} {k:Nat} {x:α} (h:l[k]?=some x):k<l.length:=(List.getElem?_eq_some_iff.mp h).1
theorem at_of {α:Type} {l:List α} {k:Nat} (h:k<l.length):∃x,l[k]?=some x:=⟨_,zQ h⟩
structure Ow (T:BT) (ad:List Nat) (pm:List (Nat×Obj)) (ix:List Nat):Prop where
 n:ix.Nodup
 l:pm.length=ix.length
 e:∀(k i:Nat) (p:Nat×Obj),ix[k]?=some i->pm[k]?=some p->ad.getD i 0=p.1/\T.get i=some p.2
structure Gw (hb h:Heap) (ad0 ad:List Nat) (Z G:List (Nat×Obj)):Prop where
 g:∀p∈G,h.get? p.1=some p.2/\p.1∉ad/\216<=p.1/\(p.1∈ad0\/hb.objs.size<=p.1)/\∀q∈Z,q.1≠p.1
 nd:(G.map (·.1)).Nodup
theorem zsa (l:List Ns) (ns:Ns):zs (l++[ns])=zs l++ns.z:=by unfold zs;simp
section
variable {C:Cf} {hb h h':Heap} {ad0 ad:List Nat} {T:BT} {m:Nat} {Z0 Zc:List (Nat×Obj)} {Y Y':List Ns} {pm G:List (Nat×Obj)} {ix:List Nat} (I:Inv C hb ad0 h T m ad Z0 Y) (W:Ow T ad pm ix)
include I W
theorem Ow.at {k:Nat} {p:Nat×Obj} (hp:pm[k]?=some p):∃i,ix[k]?=some i/\i<ad.length/\ad.getD i 0=p.1/\T.get i=some p.2:=by
 obtain ⟨i,hi⟩:=at_of (l:=ix) (W.l▸at_lt hp);have x:=W.e k i p hi hp;exact ⟨i,hi,by rw [I.len];exact (I.own i _ x.2).1,x⟩
theorem Ow.pin {p:Nat×Obj} (hp:p∈pm):p.1∈ad/\h.get? p.1=some p.2:=by
 obtain ⟨k,hk⟩:=getElem?_of_mem hp;obtain ⟨i,hi,hlt,x1,x2⟩:=W.at I hk;rw [<-x1];exact ⟨getD_mem hlt,(I.own i _ x2).2⟩
theorem Ow.inn {b:Nat} (hm:b∈pm.map (·.1)):b∈ad:=by
 obtain ⟨p,hp,rfl⟩:=ky.mp hm;exact (W.pin I hp).1
omit I in
theorem Ow.inj {a b i:Nat} (ha:ix[a]?=some i) (hb:ix[b]?=some i):a=b:=by
 have ha':=at_lt ha;exact (getElem?_inj ha' W.n).mp (ha.trans hb.symm)
theorem Ow.nd:(pm.map (·.1)).Nodup:=by
 rw [nodup_iff_pairwise_ne,pairwise_iff_getElem];intro a b ha hb' hab he;rw [zJ] at ha hb';rw [getElem_map,getElem_map] at he;obtain ⟨i,hi,hlt,x1,-⟩:=W.at I (zQ ha);obtain ⟨j,hj,hlt',y1,-⟩:=W.at I (zQ hb');obtain rfl:i=j:=getD_inj I.nd hlt hlt' (by rw [x1,y1,he]);exact absurd (W.inj hi hj) (Nat.ne_of_lt hab)
variable (g:Gw hb h ad0 ad (zs Y) G) (hz:∀p∈Zc,p∈zs Y)
include g hz
omit g hz in
theorem Ow.nin {b:Nat} (hm:b∈(pm++G).map (·.1)):b∈ad\/∃p∈G,p.1=b:=by
 rw [zU] at hm;exact (jq.mp hm).imp (W.inn I) ky.mp
theorem Ow.st0:St0 C.kt h Zc (pm++G):=by
 refine ⟨I.old,zZ I.big I.grow,λp hp=>?_,?_,λp hp=>?_,λp hp=>⟨(I.frz p (hz p hp)).1,λhm=>?_⟩⟩
 ·exact (jq.mp hp).elim (λhp=>(W.pin I hp).2) λhp=>(g.g p hp).1
 ·rw [zU]
  refine kX.mpr ⟨W.nd I,g.nd,λa ha b hb e=>?_⟩;obtain ⟨p,hp,rfl⟩:=ky.mp hb;exact (g.g p hp).2.1 (e▸W.inn I ha)
 ·exact (jq.mp hp).elim (λhp=>(I.lt _ (W.pin I hp).1).1) λhp=>(g.g p hp).2.2.1
 ·rcases W.nin I hm with hm|⟨q,hq,e⟩
  ·exact (I.frz p (hz p hp)).2.1 hm
  ·exact (g.g q hq).2.2.2.2 p (hz p hp) e.symm
theorem Ow.inv {po po2:List Obj} {as:List Nat} {news:List Obj} {Z':List (Nat×Obj)} (S:St1 h h' Zc (pm++G) (po++po2) as news Z') (hl:po.length=ix.length) (hY:zs Y'=zs Y++Z')
  (hg:∀p∈C.gr Y',h'.get? p.1=some p.2/\p.1∉ad/\216<=p.1/\(p.1∈ad0\/hb.objs.size<=p.1)/\∀q∈zs Y',q.1≠p.1) (hn:((C.gr Y').map (·.1)).Nodup):Inv C hb ad0 h' (putAll (zipPost ix po) T) m ad Z0 Y':=by
 refine ⟨I.len,λj o e=>?_,I.nd,λa ha=>⟨(I.lt a ha).1,Nat.lt_of_lt_of_le (I.lt a ha).2 S.grow⟩,λb o hb' e=>S.keep b o (I.old b o hb' e) λhm=>?_,λb o e hn=>S.keep b o (I.keep b o e hn) λhm=>?_,zZ I.grow S.grow,I.new,I.big,λp hp=>?_,hg,hn⟩
 ·by_cases hj:j∈ix
  ·obtain ⟨k,hk⟩:=mem_at hj
   have hp:=put_at W.n hk e hl;obtain ⟨p,hpk⟩:=at_of (l:=pm) (by rw [W.l];exact at_lt hk);obtain ⟨i,hi,hlt,x1,x2⟩:=W.at I hpk;obtain rfl:j=i:=kU (hk.symm.trans hi);refine ⟨by rw [<-I.len];exact hlt,?_⟩;rw [x1];exact S.here k p o (by rw [vv (at_lt hpk)];exact hpk) (by rw [vv (at_lt hp)];exact hp)
  ·rw [put_other hj] at e
   obtain ⟨x1,x2⟩:=I.own j o e;have hjl:j<ad.length:=by rw [I.len];exact x1
   refine ⟨x1,S.keep _ _ x2 λhm=>?_⟩;rw [zU] at hm;rcases jq.mp hm with hm|hm
   ·obtain ⟨p,hp,he⟩:=ky.mp hm
    obtain ⟨k,hk⟩:=getElem?_of_mem hp;obtain ⟨i,hi,hlt,y1,-⟩:=W.at I hk;obtain rfl:i=j:=getD_inj I.nd hlt hjl (by rw [y1,he]);exact hj (jy hi)
   ·obtain ⟨p,hp,he⟩:=ky.mp hm
    exact (g.g p hp).2.1 (he▸getD_mem hjl)
 ·rcases W.nin I hm with hm|⟨p,hp,rfl⟩
  ·exact absurd (I.lt b hm).1 (Nat.not_le.mpr hb')
  ·exact absurd (g.g p hp).2.2.1 (Nat.not_le.mpr hb')
 ·have h3:b∈ad0\/hb.objs.size<=b:=by
   rcases W.nin I hm with hm|⟨p,hp,rfl⟩
   ·exact I.new b hm
   ·exact (g.g p hp).2.2.2.1
  exact h3.elim hn λh3=>absurd (kY e) (vQ.mpr h3)
 ·rw [hY] at hp
  rcases jq.mp hp with hp|hp
  ·obtain ⟨x1,x2⟩:=I.frz p hp
   refine ⟨S.keep _ _ x1 λhm=>?_,x2⟩;rcases W.nin I hm with hm|⟨q,hq,e⟩
   ·exact x2.1 hm
   ·exact (g.g q hq).2.2.2.2 p hp e.symm
  ·obtain ⟨y1,-,-,y4⟩:=S.z p hp
   rcases y4 with y4|y4
   ·exact ⟨y1,λhm=>absurd (I.lt _ hm).2 (vQ.mpr y4),.inl (zZ I.grow y4)⟩
   ·exact ⟨y1,(I.frz p (hz p y4)).2⟩
end
theorem orc_of_ct {kt:KT} {V:XV} {C:Cf} {hb:Heap} {ad0:List Nat} {Z0:List (Nat×Obj)} {gens:Array GenState} {D U:Nat} (cf:Cx->Ct) (ix:List Nat) (x:Cx) (hkt:C.kt=kt) (hix:ix.Nodup)
  (hlen:(cf x).pre.length=ix.length) (hD:V.A₀.depth+60<=D) (hU:V.A₀.units+300<=U)
  (hzp:∀p∈(cf x).zpre,p∈zs x.pns) (hgr:∀ns,C.gr (x.pns++[ns])=C.gr x.pns) (ok:(∀a∈x.ad,216<=a)->(cf x).Ok kt V.prog V.w D U):OrcOk V C hb ad0 Z0 gens (λx=>(cf x).orc ix) x:=by
 intro A hdA huA h m tok R hh hfr I ep K;subst hkt;have ok:=ok λa ha=>(I.lt a ha).1;have W:Ow x.T x.ad (cf x).pre ix:=⟨hix,hlen,λk i p h1 h2=>ep _ (zipPre_at h1 h2)⟩
 have g:Gw hb h ad0 x.ad (zs x.pns) []:=⟨(λp hp=>nomatch hp),nodup_nil⟩
 have S0:=W.st0 I g hzp;rw [jx] at S0;refine ok A (λv hv=>hh v hv) (λl hl=>hfr l hl) (zZ (by exact hdA) hD) (zZ (by exact huA) hU) h gens V.d tok V.os R S0 λh' as ns hk S1 hfa=>?_;refine K h' as ns hk (λa ha=>zZ (zZ I.big I.grow) (S1.fresh a ha)) (λr _ hadd=>?_) hfa;have fr:∀p∈zs (x.pns++[ns]),(p∈zs x.pns\/h.objs.size<=p.1)/\p.1∉as:=λp hp=>by
  rw [zsa] at hp;rcases jq.mp hp with hp|hp
  ·exact ⟨.inl hp,λhm=>absurd (kY (I.frz p hp).1) (vQ.mpr (S1.fresh _ hm))⟩
  ·obtain ⟨-,-,y3,y4⟩:=S1.z p hp
   exact ⟨y4.elim .inr λy4=> .inl (hzp p y4),y3⟩
 have S2:=S1;rw [<-jx (cf x).pre,<-jx ((cf x).post as ns)] at S2;have I1:Inv C hb ad0 h' (putAll (zipPost ix ((cf x).post as ns)) x.T) m x.ad Z0 (x.pns++[ns]):=W.inv I g hzp S2 (by rw [S1.plen,hlen]) (zsa ..) (λp hp=>by
  rw [hgr] at hp;obtain ⟨x1,x2,x3,x4,x5⟩:=I.grp p hp;refine ⟨S1.keep _ _ x1 λhm=>x2 (W.inn I hm),x2,x3,x4,λq hq e=>?_⟩;rcases (fr q hq).1 with hq|hq
  ·exact x5 q hq e
  ·exact absurd (kY x1) (vQ.mpr (e▸hq))) (by rw [hgr];exact I.gnd)
 exact I1.addAll hadd (λi a o ha ho=>S1.new i a o ha ho) S1.nd (λa ha hm=>absurd (I.lt a hm).2 (vQ.mpr (S1.fresh a ha))) (λa ha=>zZ (zZ I.big I.grow) (S1.fresh a ha)) (λa ha=> .inr (zZ I.grow (S1.fresh a ha))) (λp hp=>(fr p hp).2) λp hp hm=>by
  rw [hgr] at hp;exact absurd (kY (I.grp p hp).1) (vQ.mpr (S1.fresh _ hm))
end
section
structure Held (kt:KT) (hb:Heap) (ad0:List Nat) (Z0:List (Nat×Obj)) (h:Heap) (L Z:List (Nat×Obj)):Prop where
 st:St0 kt h Z L
 keep:∀b o,hb.get? b=some o->b∉ad0->h.get? b=some o
 grow:hb.objs.size<=h.objs.size
 new:∀p∈L,p.1∈ad0\/hb.objs.size<=p.1
 zn:∀p∈Z,hb.objs.size<=p.1\/p∈Z0
noncomputable def pick (ix:List Nat) (L:List (Nat×Obj)):List (Nat×Obj):=ix.filterMap λi=>L[i]?
noncomputable def upd1 (i:Nat) (o:Obj):List (Nat×Obj)->List (Nat×Obj)
 |[]=>[]
 |p::L=>match i with
  |0=>(p.1,o)::L
  |i+1=>p::upd1 i o L
def upd:List Nat->List Obj->List (Nat×Obj)->List (Nat×Obj)
 |i::ix,o::os,L=>upd ix os (upd1 i o L)
 |_,_,L=>L
theorem upd1_map (i:Nat) (o:Obj) (L:List (Nat×Obj)):(upd1 i o L).map (·.1)=L.map (·.1):=by
 induction L generalizing i with
 |nil=>cases i<;>rfl
 |cons p L ih=>
  cases i with
  |zero=>rfl
  |succ i=>exact jk (p.1::·) (ih i)
theorem upd_map (ix:List Nat) (os:List Obj) (L:List (Nat×Obj)):(upd ix os L).map (·.1)=L.map (·.1):=by
 induction ix generalizing os L with
 |nil=>rfl
 |cons i ix ih=>
  cases os with
  |nil=>rfl
  |cons o os=>exact (ih os (upd1 i o L)).trans (upd1_map i o L)
theorem upd1_at {i j:Nat} (o:Obj) {L:List (Nat×Obj)} {p:Nat×Obj} (h:L[j]?=some p):(upd1 i o L)[j]?=some (if j=i then (p.1,o) else p):=by
 induction L generalizing i j with
 |nil=>exact (nn h).elim
 |cons q L ih=>
  cases i with
  |zero=>
   cases j with
   |zero=>
    obtain rfl:q=p:=kU h;rw [if_pos rfl];rfl
   |succ j=>rw [vk (Nat.succ_ne_zero j)];exact h
  |succ i=>
   cases j with
   |zero=>rw [vk (Nat.succ_ne_zero i).symm];exact h
   |succ j=>exact (ih (show L[j]?=some p from h)).trans (by simp)
theorem upd_other {ix:List Nat} {os:List Obj} {L:List (Nat×Obj)} {j:Nat} {p:Nat×Obj} (hn:j∉ix) (h:L[j]?=some p):(upd ix os L)[j]?=some p:=by
 induction ix generalizing os L with
 |nil=>exact h
 |cons i ix ih=>
  cases os with
  |nil=>exact h
  |cons o os=>exact ih (os:=os) (L:=upd1 i o L) (λhm=>hn (zv _ hm)) (by rw [upd1_at o h,vk λe=>hn (by rw [e];exact zy ..)])
theorem upd_here {ix:List Nat} {os:List Obj} {L:List (Nat×Obj)} {k j:Nat} {p:Nat×Obj} {o:Obj} (hn:ix.Nodup) (h1:ix[k]?=some j) (h2:os[k]?=some o) (h3:L[j]?=some p):(upd ix os L)[j]?=some (p.1,o):=by
 induction ix generalizing os L k with
 |nil=>exact (nn h1).elim
 |cons i ix ih=>
  rw [vX] at hn;cases os with
  |nil=>exact (nn h2).elim
  |cons o' os=>
   cases k with
   |zero=>
    obtain rfl:i=j:=kU h1;obtain rfl:o'=o:=kU h2;exact upd_other (ix:=ix) (os:=os) (L:=upd1 i o' L) hn.1 (by rw [upd1_at o' h3,if_pos rfl])
   |succ k=>
    have h1:ix[k]?=some j:=h1;exact ih (os:=os) (L:=upd1 i o' L) hn.2 h1 h2 (by rw [upd1_at o' h3,vk λe=>hn.1 (by rw [<-e];exact jy h1)])
theorem pick_len {ix:List Nat} {L:List (Nat×Obj)} (h:∀i∈ix,i<L.length):(pick ix L).length=ix.length:=by
 unfold pick;induction ix with
 |nil=>rfl
 |cons i ix ih=>
  rw [filterMap_cons,zQ (h i (zy ..))];simp [ih λj hj=>h j (zv _ hj)]
theorem pick_at:∀{ix:List Nat} {L:List (Nat×Obj)} {k i:Nat},(∀i∈ix,i<L.length)->ix[k]?=some i->(pick ix L)[k]?=L[i]?
 |[],L,k,i,_,e=>by simp at e
 |j::ix,L,k,i,h,e=>by
  have hj:=zQ (h j (zy ..));unfold pick;rw [filterMap_cons,hj];cases k with
  |zero=>simp at e;subst e;rw [hj];rfl
  |succ k=>
   have:=pick_at (k:=k) (λj hj=>h j (zv _ hj)) (by simpa using e);unfold pick at this;simpa using this
section
variable {kt:KT} {hb h:Heap} {ad0:List Nat} {Z0 Z L:List (Nat×Obj)}
theorem Held.start (S:St0 kt h Z L):Held kt h (L.map (·.1)) Z h L Z:=⟨S,λ_ _ e _=>e,jv _,λp hp=> .inl (zW hp),λp hp=> .inr hp⟩
theorem map_fst_at {L:List (Nat×Obj)} {i:Nat} {p:Nat×Obj} (h:L[i]?=some p):(L.map (·.1))[i]?=some p.1:=by rw [vU,h];rfl
theorem nodup_at {l:List Nat} (hn:l.Nodup) {i j a:Nat} (hi:l[i]?=some a) (hj:l[j]?=some a):i=j:=by
 have h1:=at_lt hi;have h2:=at_lt hj;rw [zQ h1] at hi;rw [zQ h2] at hj;have e:l[i]=l[j]:=by rw [kU hi,kU hj]
 have hp:=pairwise_iff_getElem.mp hn;rcases Nat.lt_trichotomy i j with q|q|q
 ·exact absurd e (hp i j h1 h2 q)
 ·exact q
 ·exact absurd e.symm (hp j i h2 h1 q)
theorem St0.pick (S:St0 kt h Z L) {Zc:List (Nat×Obj)} (hzc:∀p∈Zc,p∈Z) {ix:List Nat} (hn:ix.Nodup) (hl:∀i∈ix,i<L.length):St0 kt h Zc (pick ix L):=by
 have mem:∀p∈Mine.pick ix L,p∈L:=λp hp=>by
  obtain ⟨i,-,hi⟩:=mem_filterMap.mp hp;exact jy hi
 refine ⟨S.old,S.big,λp hp=>S.here p (mem p hp),?_,λp hp=>S.ge p (mem p hp),λp hp=>⟨(S.z p (hzc p hp)).1,λhm=>?_⟩⟩;rotate_left
 ·obtain ⟨q,hq,e⟩:=ky.mp hm
  exact (S.z p (hzc p hp)).2 (ky.mpr ⟨q,mem q hq,e⟩)
 rw [nodup_iff_pairwise_ne,pairwise_iff_getElem];intro a b ha hb' hab he;rw [zJ,pick_len hl] at ha hb';have h1:=zQ ha;have h2:=zQ hb';have q1:=pick_at hl h1;have q2:=pick_at hl h2;obtain ⟨p1,hp1⟩:=at_of (hl _ (getElem_mem ha));obtain ⟨p2,hp2⟩:=at_of (hl _ (getElem_mem hb'));rw [hp1] at q1;rw [hp2] at q2;have e1:=map_fst_at q1;have e2:=map_fst_at q2;rw [zQ (by rw [zJ,pick_len hl];exact ha)] at e1;rw [zQ (by rw [zJ,pick_len hl];exact hb')] at e2;have:p1.1=p2.1:=by rw [<-kU e1,<-kU e2];exact he
 have e:=nodup_at S.nd (map_fst_at hp1) (by rw [map_fst_at hp2,this]);exact pairwise_iff_getElem.mp hn a b ha hb' hab e
theorem Held.pick (H:Held kt hb ad0 Z0 h L Z) (ix:List Nat) (hn:ix.Nodup) (hl:∀i∈ix,i<L.length):Held kt hb ad0 Z0 h (pick ix L) Z:=
 ⟨H.st.pick (λ_ x=>x) hn hl,H.keep,H.grow,λp hp=>by
  obtain ⟨i,-,hi⟩:=mem_filterMap.mp hp;exact H.new p (jy hi),H.zn⟩
theorem Held.after (H:Held kt hb ad0 Z0 h L Z) {h':Heap} {ix:List Nat} {post:List Obj} {as:List Nat} {news:List Obj} {Zc Z1:List (Nat×Obj)} (hzc:∀p∈Zc,p∈Z) (hn:ix.Nodup) (hl:∀i∈ix,i<L.length) (S1:St1 h h' Zc (Mine.pick ix L) post as news Z1):
  Held kt hb ad0 Z0 h' (upd ix post L++as.zip news) (Z++Z1):=by
 have plen:post.length=ix.length:=by rw [S1.plen,pick_len hl]
 have pa:∀(k i:Nat) (p:Nat×Obj),ix[k]?=some i->L[i]?=some p->(Mine.pick ix L)[k]?=some p:=λk i p h1 h2=>by rw [pick_at hl h1,h2]
 have pin:∀b,b∈(Mine.pick ix L).map (·.1)->∃i p,i∈ix/\L[i]?=some p/\p.1=b:=λb hb'=>by
  obtain ⟨p,hp,e⟩:=ky.mp hb';obtain ⟨i,hi,hq⟩:=mem_filterMap.mp hp;exact ⟨i,p,hi,hq,e⟩
 have ulen:(upd ix post L).length=L.length:=by
  have:=jk length (upd_map ix post L);simpa using this
 have uh:∀p∈upd ix post L,h'.get? p.1=some p.2/\p.1∈L.map (·.1):=λp hp=>by
  obtain ⟨j,hj,e⟩:=qj.mp hp;have hj':j<L.length:=by rw [<-ulen];exact hj
  obtain ⟨q,hq⟩:=at_of hj';have hpj:(upd ix post L)[j]?=some p:=by rw [zQ hj,e]
  by_cases hm:j∈ix
  ·obtain ⟨k,hk⟩:=mem_at hm
   obtain ⟨o,ho⟩:=at_of (l:=post) (by rw [plen];exact at_lt hk);have:=upd_here hn hk ho hq;rw [hpj] at this;cases this;exact ⟨S1.here k q o (pa k j q hk hq) ho,ky.mpr ⟨q,jy hq,rfl⟩⟩
  ·have:=upd_other (os:=post) hm hq
   rw [hpj] at this;cases this;refine ⟨S1.keep _ _ (H.st.here _ (jy hq)) λhin=>?_,zW (jy hq)⟩;obtain ⟨i,r,hi,hr,er⟩:=pin _ hin;have:=nodup_at H.st.nd (map_fst_at hr) (by rw [map_fst_at hq,er]);exact hm (this▸hi)
 have zh:∀p∈as.zip news,h'.get? p.1=some p.2/\p.1∈as:=λp hp=>by
  obtain ⟨j,hj,e⟩:=qj.mp hp;rw [getElem_zip] at e;rw [length_zip] at hj;subst e;exact ⟨S1.new j _ _ (zQ (by lia)) (zQ (by lia)),getElem_mem ..⟩
 have lsz:∀b,b∈L.map (·.1)->b<h.objs.size/\216<=b:=λb hb'=>by
  obtain ⟨p,hp,e⟩:=ky.mp hb';rw [<-e];exact ⟨kY (H.st.here p hp),H.st.ge p hp⟩
 have zold:∀p∈Z,p.1<h.objs.size/\p.1∉L.map (·.1):=λp hp=>⟨kY (H.st.z p hp).1,(H.st.z p hp).2⟩
 have znin:∀b,b∉L.map (·.1)->b∉as->b∉(upd ix post L++as.zip news).map (·.1):=λb h1 h2 hm=>by
  rw [zU,upd_map] at hm;rcases jq.mp hm with h3|h3
  ·exact h1 h3
  ·obtain ⟨q,hq,e⟩:=ky.mp h3
   exact h2 (e▸(zh q hq).2)
 refine ⟨⟨λb o hb' e=>?_,zZ H.st.big S1.grow,λp hp=>?_,?_,λp hp=>?_,λp hp=>?_⟩,λb o e hnb=>?_,zZ H.grow S1.grow,λp hp=>?_,λp hp=>?_⟩
 ·refine S1.keep b o (H.st.old b o hb' e) λhin=>?_
  obtain ⟨i,r,_,hr,er⟩:=pin _ hin;have:=H.st.ge r (jy hr);lia
 ·rcases jq.mp hp with h1|h1
  ·exact (uh p h1).1
  ·exact (zh p h1).1
 ·rw [zU,upd_map]
  refine kX.mpr ⟨H.st.nd,?_,λa ha b hb' e=>?_⟩
  ·have:(as.zip news).map (·.1)=as:=by rw [map_fst_zip];rw [S1.nlen];exact jv _
   rw [this];exact S1.nd
  ·obtain ⟨p,hp,ep⟩:=ky.mp hb'
   have h1:=S1.fresh _ (zh p hp).2;have h2:=(lsz a ha).1;rw [ep,<-e] at h1;lia
 ·rcases jq.mp hp with h1|h1
  ·exact (lsz _ (uh p h1).2).2
  ·exact zZ H.st.big (S1.fresh _ (zh p h1).2)
 ·have old:p∈Z->h'.get? p.1=some p.2/\p.1∉(upd ix post L++as.zip news).map (·.1):=λhp=>by
   obtain ⟨z1,z2⟩:=zold p hp;refine ⟨S1.keep _ _ (H.st.z p hp).1 λhin=>?_,znin _ z2 λhm=>?_⟩
   ·obtain ⟨i,r,_,hr,er⟩:=pin _ hin
    exact z2 (er▸zW (jy hr))
   ·exact absurd z1 (vQ.mpr (S1.fresh _ hm))
  rcases jq.mp hp with hp|hp
  ·exact old hp
  ·obtain ⟨y1,y2,y3,y4⟩:=S1.z p hp
   rcases y4 with y4|y4
   ·exact ⟨y1,znin _ (λhm=>absurd (lsz _ hm).1 (vQ.mpr y4)) y3⟩
   ·exact old (hzc p y4)
 ·refine S1.keep b o (H.keep b o e hnb) λhin=>?_
  obtain ⟨i,r,_,hr,er⟩:=pin _ hin;rcases H.new r (jy hr) with h1|h1
  ·exact hnb (er▸h1)
  ·rw [er] at h1;exact absurd (kY e) (vQ.mpr h1)
 ·rcases jq.mp hp with h1|h1
  ·obtain ⟨q,hq,e⟩:=ky.mp (uh p h1).2
   rw [<-e];exact H.new q hq
  ·exact .inr (zZ H.grow (S1.fresh _ (zh p h1).2))
 ·rcases jq.mp hp with hp|hp
  ·exact H.zn p hp
  ·rcases (S1.z p hp).2.2.2 with y4|y4
   ·exact .inl (zZ H.grow y4)
   ·exact H.zn p (hzc p y4)
theorem Ct.use {c:Ct} {prog:Program} {w:World} {D U:Nat} (ok:c.Ok kt prog w D U) {A:Around} (hA:HdOk c.hd A.handled) (hF:∀l,c.frs=some l->A.frames=some l) (hD:A.depth<=D) (hU:A.units<=U) (H:Held kt hb ad0 Z0 h L Z) (ix:List Nat) (hn:ix.Nodup) (hl:∀i∈ix,i<L.length) (hpre:c.pre=Mine.pick ix L) (hzc:∀p∈c.zpre,p∈Z)
  {gens:Array GenState} {d:Drawn} {tok:Nat} {os:OsState} {R:Result->Shared->Prop}
  (K:∀h' as ns,as.length=c.k->(∀a∈as,hb.objs.size<=a)->Held kt hb ad0 Z0 h' (upd ix (c.post as ns) L++as.zip (c.news as ns)) (Z++ns.z)->c.fact as ns->FinAt prog w A R (c.fo as ns) ⟨h',gens,d,ns.n.headD 0,os⟩):
  codeAny (model prog w) A c.code R ⟨h,gens,d,tok,os⟩:=
 ok A hA hF hD hU h gens d tok os R (by rw [hpre];exact H.st.pick hzc hn hl) λh' as ns hk S1 hf=>K h' as ns hk (λa ha=>zZ H.grow (S1.fresh a ha)) (H.after hzc hn hl (hpre▸S1)) hf
theorem Held.fin {pre:List (Nat×Obj)} {post:List Obj} {as:List Nat} {news:List Obj} {h':Heap} {Z1:List (Nat×Obj)} (H:Held kt h (pre.map (·.1)) Z0 h' ((pre.map (·.1)).zip post++as.zip news) Z) (hp:post.length=pre.length) (hnl:news.length=as.length) (hz1:∀p∈Z1,p∈Z):St1 h h' Z0 pre post as news Z1:=by
 have nd:=H.st.nd;have e1:((pre.map (·.1)).zip post).map (·.1)=pre.map (·.1):=by rw [map_fst_zip];rw [zJ,hp];exact jv _
 have e2:(as.zip news).map (·.1)=as:=by rw [map_fst_zip];rw [hnl];exact jv _
 rw [zU,e1,e2] at nd;have nd':=kX.mp nd;refine ⟨hp,hnl,λi p o h1 h2=>?_,λi a o h1 h2=>?_,nd'.2.1,λa ha=>?_,λb o e hb'=>H.keep b o e hb',H.grow,λp hp=>?_⟩
 ·refine H.st.here (p.1,o) (jj _ (jy (i:=i) ?_))
  rw [vW];exact ⟨by rw [vU,h1];rfl,h2⟩
 ·refine H.st.here (a,o) (jz _ (jy (i:=i) ?_))
  rw [vW];exact ⟨h1,h2⟩
 ·obtain ⟨i,hi,e⟩:=qj.mp ha
  have hz:(a,news[i]'(by rw [hnl];exact hi))∈as.zip news:=jy (i:=i) (by
   rw [vW];exact ⟨by rw [zQ hi,e],zQ _⟩)
  rcases H.new _ (jz _ hz) with h1|h1
  ·exact absurd rfl (nd'.2.2 a h1 a ha)
  ·exact h1
 ·obtain ⟨x1,x2⟩:=H.st.z p (hz1 p hp)
  rw [zU,e1,e2] at x2;exact ⟨x1,λhm=>x2 (jj _ hm),λhm=>x2 (jz _ hm),H.zn p (hz1 p hp)⟩
theorem Ct.fin {c:Ct} {prog:Program} {w:World} {A:Around} {gens:Array GenState} {d:Drawn} {os:OsState} {R:Result->Shared->Prop}
  (K:∀h' as ns,as.length=c.k->St1 h h' c.zpre c.pre (c.post as ns) as (c.news as ns) ns.z->c.fact as ns->FinAt prog w A R (c.fo as ns) ⟨h',gens,d,ns.n.headD 0,os⟩)
  {h':Heap} (as:List Nat) (ns:Ns) (H:Held kt h (c.pre.map (·.1)) c.zpre h' ((c.pre.map (·.1)).zip (c.post as ns)++as.zip (c.news as ns)) Z) (hk:as.length=c.k) (lp:(c.post as ns).length=c.pre.length) (ln:(c.news as ns).length=as.length)
  (hz:∀p∈ns.z,p∈Z) (hf:c.fact as ns):FinAt prog w A R (c.fo as ns) ⟨h',gens,d,ns.n.headD 0,os⟩:=K h' as ns hk (H.fin lp ln hz) hf
end
end
section
namespace Hd
noncomputable def T (l:List Nat):Str:=⟨⟨l⟩⟩
noncomputable def dg:Nat->Nat->List Nat->List Nat
 |0,_,l=>l
 |f+1,n,l=>cond (Nat.beq n 0) l (dg f (n/256) (n%256::l))
noncomputable def S (n:Nat):Str:=T (dg 120 n [])
noncomputable abbrev hdR:RowW:=OpenRow.toRowW PySem.Challenge.rw_op0175_01.row
noncomputable abbrev hdP:Program:=hdR.prog
noncomputable def fB:Stmt->List Stmt
 | .FunctionDef _ _ b _ _ _ _ _ _ _=>b
 | .ClassDef _ _ _ b _ _ _ _ _ _ _=>b
 |_=>[]
noncomputable def fA:Stmt->Arguments
 | .FunctionDef _ a _ _ _ _ _ _ _ _=>a
 |_=>⟨[],[],none,[],[],none,[]⟩
noncomputable def fS:Stmt->Scope
 | .FunctionDef _ _ _ _ _ _ s _ _ _=>s
 |_=>hdP.main.scope
noncomputable def nth:List Stmt->Nat->Stmt
 |[],_=> .Pass ⟨0,0,0,0⟩
 |s::_,0=>s
 |_::l,n+1=>nth l n
def t0:=T [6,189,10,95,95,109,111,100,117,108,101,95,95,6,186,17,95,102,114,111,122,101,110,95,105,109,112,111,114,116,108,105,98,6,190,15,95,95,102,105,114,115,116,108,105,110,101,110,111,95,95,4,187,0,971,6,191,7,95,95,100,111,99,95,95,9,52,95,102,114,111,122,101,110,95,105,109,112,111,114,116,108,105,98,46,66,117,105,108,116,105,110,73,109,112,111,114,116,101,114,46,95,95,100,111,99,95,95,58,115,116,114,35,111,112,97,113,117,101,6,192,7,95,79,82,73,71,73,78,6,188,8,98,117,105,108,116,45,105,110,6,193,9,102,105,110,100,95,115,112,101,99,9,50,95,102,114,111,122,101,110,95,105,109,112,111,114,116,108,105,98,46,66,117,105,108,116,105,110,73,109,112,111,114,116,101,114,46,102,105,110,100,95,115,112,101,99,35,111,112,97,113,117,101,6,194,13,99,114,101,97,116,101,95,109,111,100,117,108,101,9,54,95,102,114,111,122,101,110,95,105,109,112,111,114,116,108,105,98,46,66,117,105,108,116,105,110,73,109,112,111,114,116,101,114,46,99,114,101,97,116,101,95,109,111,100,117,108,101,35,111,112,97,113,117,101,6,195,11,101,120,101,99,95,109,111,100,117,108,101,9,52,95,102,114,111,122,101,110,95,105,109,112,111,114,116,108,105,98,46,66,117,105,108,116,105,110,73,109,112,111,114,116,101,114,46,101,120,101,99,95,109,111,100,117,108,101,35,111,112,97,113,117,101,6,196,8,103,101,116,95,99,111,100,101,9,49,95,102,114,111,122,101,110,95,105,109,112,111,114,116,108,105,98,46,66,117,105,108,116,105,110,73,109,112,111,114,116,101,114,46,103,101,116,95,99,111,100,101,35,111,112,97,113,117,101,6,197,10,103,101,116,95,115,111,117,114,99,101,9,51,95,102,114,111,122,101,110,95,105,109,112,111,114,116,108,105,98,46,66,117,105,108,116,105,110,73,109,112,111,114,116,101,114,46,103,101,116,95,115,111,117,114,99,101,35,111,112,97,113,117,101,6,198,10,105,115,95,112,97,99,107,97,103,101,9,51,95,102,114,111,122,101,110,95,105,109,112,111,114,116,108,105,98,46,66,117,105,108,116,105,110,73,109,112,111,114,116,101,114,46,105,115,95,112,97,99,107,97,103,101,35,111,112,97,113,117,101,6,199,11,108,111,97,100,95,109,111,100,117,108,101,9,52,95,102,114,111,122,101,110,95,105,109,112,111,114,116,108,105,98,46,66,117,105,108,116,105,110,73,109,112,111,114,116,101,114,46,108,111,97,100,95,109,111,100,117,108,101,35,111,112,97,113,117,101,6,200,21,95,95,115,116,97,116,105,99,95,97,116,116,114,105,98,117,116,101,115,95,95,4,0,0,15,6,202,8,95,95,100,105,99,116,95,95,4,0,0,16,6,204,11,95,95,119,101,97,107,114,101,102,95,95,4,0,0,17]
def t1:=T [6,227,10,95,95,109,111,100,117,108,101,95,95,6,217,17,95,102,114,111,122,101,110,95,105,109,112,111,114,116,108,105,98,6,228,15,95,95,102,105,114,115,116,108,105,110,101,110,111,95,95,4,218,0,562,6,229,7,95,95,100,111,99,95,95,9,47,95,102,114,111,122,101,110,95,105,109,112,111,114,116,108,105,98,46,77,111,100,117,108,101,83,112,101,99,46,95,95,100,111,99,95,95,58,115,116,114,35,111,112,97,113,117,101,6,230,8,95,95,105,110,105,116,95,95,9,44,95,102,114,111,122,101,110,95,105,109,112,111,114,116,108,105,98,46,77,111,100,117,108,101,83,112,101,99,46,95,95,105,110,105,116,95,95,35,111,112,97,113,117,101,6,231,8,95,95,114,101,112,114,95,95,9,44,95,102,114,111,122,101,110,95,105,109,112,111,114,116,108,105,98,46,77,111,100,117,108,101,83,112,101,99,46,95,95,114,101,112,114,95,95,35,111,112,97,113,117,101,6,232,6,95,95,101,113,95,95,9,42,95,102,114,111,122,101,110,95,105,109,112,111,114,116,108,105,98,46,77,111,100,117,108,101,83,112,101,99,46,95,95,101,113,95,95,35,111,112,97,113,117,101,6,233,6,99,97,99,104,101,100,9,42,95,102,114,111,122,101,110,95,105,109,112,111,114,116,108,105,98,46,77,111,100,117,108,101,83,112,101,99,46,99,97,99,104,101,100,35,111,112,97,113,117,101,6,234,6,112,97,114,101,110,116,9,42,95,102,114,111,122,101,110,95,105,109,112,111,114,116,108,105,98,46,77,111,100,117,108,101,83,112,101,99,46,112,97,114,101,110,116,35,111,112,97,113,117,101,6,235,12,104,97,115,95,108,111,99,97,116,105,111,110,9,48,95,102,114,111,122,101,110,95,105,109,112,111,114,116,108,105,98,46,77,111,100,117,108,101,83,112,101,99,46,104,97,115,95,108,111,99,97,116,105,111,110,35,111,112,97,113,117,101,6,236,21,95,95,115,116,97,116,105,99,95,97,116,116,114,105,98,117,116,101,115,95,95,4,0,0,23,6,238,8,95,95,100,105,99,116,95,95,4,0,0,24,6,240,11,95,95,119,101,97,107,114,101,102,95,95,4,0,0,25,6,241,8,95,95,104,97,115,104,95,95,0]
def t2:=T [6,247,8,95,95,110,97,109,101,95,95,6,246,4,95,115,114,101,6,248,7,95,95,100,111,99,95,95,0,6,250,11,95,95,112,97,99,107,97,103,101,95,95,6,249,0,6,251,10,95,95,108,111,97,100,101,114,95,95,4,0,0,14,6,252,8,95,95,115,112,101,99,95,95,4,0,0,26,6,253,7,99,111,109,112,105,108,101,9,12,95,115,114,101,46,99,111,109,112,105,108,101,6,254,8,116,101,109,112,108,97,116,101,9,13,95,115,114,101,46,116,101,109,112,108,97,116,101,6,255,11,103,101,116,99,111,100,101,115,105,122,101,9,16,95,115,114,101,46,103,101,116,99,111,100,101,115,105,122,101,6,256,13,97,115,99,105,105,95,105,115,99,97,115,101,100,9,18,95,115,114,101,46,97,115,99,105,105,95,105,115,99,97,115,101,100,6,257,15,117,110,105,99,111,100,101,95,105,115,99,97,115,101,100,9,20,95,115,114,101,46,117,110,105,99,111,100,101,95,105,115,99,97,115,101,100,6,258,13,97,115,99,105,105,95,116,111,108,111,119,101,114,9,18,95,115,114,101,46,97,115,99,105,105,95,116,111,108,111,119,101,114,6,259,15,117,110,105,99,111,100,101,95,116,111,108,111,119,101,114,9,20,95,115,114,101,46,117,110,105,99,111,100,101,95,116,111,108,111,119,101,114,6,261,5,77,65,71,73,67,4,260,0,20230612,6,263,8,67,79,68,69,83,73,90,69,4,262,0,4,6,265,9,77,65,88,82,69,80,69,65,84,4,264,0,4294967295,6,267,9,77,65,88,71,82,79,85,80,83,4,266,0,1073741823,6,269,9,99,111,112,121,114,105,103,104,116,6,268,53,32,83,82,69,32,50,46,50,46,50,32,67,111,112,121,114,105,103,104,116,32,40,99,41,32,49,57,57,55,45,50,48,48,50,32,98,121,32,83,101,99,114,101,116,32,76,97,98,115,32,65,66,32]
def t3:=S 0x2f636c61696d2f6375742e7079
def t4:=S 0x5f5f7374617469635f617474726962757465735f5f
def t5:=S 0x5f5f66697273746c696e656e6f5f5f
def t6:=S 0x6370793331332e67726170686c6962
def t7:=S 0x5f5f6d6f64756c655f5f
def t8:=S 0x5f5f7765616b7265665f5f
def t9:=S 0x736f727465645f6c6973745f646966666572656e6365
def t10:=S 0x6f66667365745f66726f6d5f747a5f737472696e67
def t11:=S 0x5f5f646f635f5f
def t12:=S 0x546f706f6c6f676963616c536f72746572
def t13:=S 0x7375626d6f64756c655f7365617263685f6c6f636174696f6e73
def t14:=S 0x636c6173732e5f66726f7a656e5f696d706f72746c69622e4275696c74696e496d706f72746572
def t15:=S 0x5f756e696e697469616c697a65645f7375626d6f64756c6573
def t16:=S 0x5f5f696e69745f5f
def t17:=S 0x636c6173732e5f66726f7a656e5f696d706f72746c69622e4d6f64756c6553706563
def t18:=S 0x5f5f646963745f5f
def t19:=S 0x5f5f7061636b6167655f5f
def t20:=S 0x74687265655f7761795f636d70
def t21:=S 0x5f5f6c6f616465725f5f
def t22:=S 0x776174636865642e6c6962726172792d646565702e5f737265
def t23:=S 0x7379732e6d6f64756c65732e626f6f6b65642d65706f6368
def t24:=S 0x6e7072656465636573736f7273
def t25:=S 0x5f6765745f6e6f6465696e666f
def t26:=S 0x2053524520322e322e3220436f707972696768742028632920313939372d3230303220627920536563726574204c61627320414220
def t27:=S 0x4379636c654572726f72
def t28:=S 0x546f706f6c6f676963616c536f727465722e5f6765745f6e6f6465696e666f
def t29:=S 0x5f6c61775f6f7264657273
def t30:=S 0x776174636865642e6c6962726172792d6f626a65637473
def t31:=S 0x546f706f6c6f676963616c536f727465722e7374617469635f6f72646572
def t32:=S 0x696d706f72742e6c617465722d6c6169642e5f737265
def t33:=S 0x7374617469635f6f72646572
def t34:=S 0x546f706f6c6f676963616c536f727465722e5f66696e645f6379636c65
def t35:=S 0x5f4e6f6465496e666f
def t36:=S 0x5f6c61775f6b696e6773
def t37:=S 0x546f706f6c6f676963616c536f727465722e6765745f7265616479
def t38:=S 0x5f7365745f66696c6561747472
def t39:=S 0x546f706f6c6f676963616c536f727465722e69735f616374697665
def t40:=S 0x5f6c61775f636c6f636b
def t41:=S 0x5f5f6e616d655f5f
def t42:=S 0x5f5f737065635f5f
def t43:=S 0x5f66696e645f6379636c65
def t44:=S 0x546f706f6c6f676963616c536f727465722e5f5f696e69745f5f
def t45:=S 0x546f706f6c6f676963616c536f727465722e5f5f626f6f6c5f5f
def t46:=S 0x546f706f6c6f676963616c536f727465722e70726570617265
def t47:=S 0x5f6c61775f7369676e
def t48:=S 0x6c6f616465725f7374617465
def t49:=S 0x737563636573736f7273
def t50:=S 0x696d706f72742e6c6f616465642e5f737265
def t51:=S 0x6c61775f6f70303137355f3031
def t52:=S 0x5f5f7175616c6e616d655f5f
def t53:=S 0x5f66726f7a656e5f696d706f72746c6962
def t54:=S 0x6e6f6465
def t55:=S 0x6765745f7265616479
def t56:=S 0x546f706f6c6f676963616c536f727465722e646f6e65
def t57:=S 0x5f737265
def t58:=S 0x69735f616374697665
def t59:=S 0x5f5f6d61696e5f5f
def t60:=S 0x546f706f6c6f676963616c536f727465722e616464
def t61:=S 0x756e69636f64655f746f6c6f776572
def t62:=S 0x4275696c74696e496d706f72746572
def t63:=S 0x756e69636f64655f69736361736564
def t64:=S 0x776174636865642e6c696272617279
def t65:=S 0x5f5f616e6e6f746174696f6e735f5f
def t66:=S 0x636f70797269676874
def t67:=S 0x776174636865642e696d706f7274
def t68:=S 0x5f5f626f6f6c5f5f
def t69:=S 0x5f696e697469616c697a696e67
def t70:=S 0x70726570617265
def t71:=S 0x61736369695f746f6c6f776572
def t72:=S 0x6372656174655f6d6f64756c65
def t73:=S 0x5f4e6f6465496e666f2e5f5f696e69745f5f
def t74:=S 0x61736369695f69736361736564
def t75:=S 0x50656e64696e674465707265636174696f6e5761726e696e67
def t76:=S 0x73656c66
def t77:=S 0x6861735f6c6f636174696f6e
def t78:=S 0x5f5f6275696c74696e735f5f
def t79:=S 0x676574636f646573697a65
def t80:=S 0x636f6d70696c65
def t81:=S 0x507974686f6e46696e616c697a6174696f6e4572726f72
def t82:=S 0x657865635f6d6f64756c65
def t83:=S 0x6c6f61645f6d6f64756c65
def t84:=S 0x436f6e6e656374696f6e526566757365644572726f72
def t85:=S 0x436f6e6e656374696f6e41626f727465644572726f72
def t86:=S 0x5f77616c6c
def t87:=S 0x6275696c74696e73
def t88:=S 0x5f636163686564
def t89:=S 0x5f496e636f6d706c657465496e7075744572726f72
def t90:=S 0x6765745f736f75726365
def t91:=S 0x556e69636f64655472616e736c6174654572726f72
def t92:=S 0x6f726967696e
def t93:=S 0x4d6f64756c6553706563
def t94:=S 0x436f6e6e656374696f6e52657365744572726f72
def t95:=S 0x69735f7061636b616765
def t96:=S 0x6c6f61646572
def t97:=S 0x6370793331332e756e6974746573742e7574696c
def t98:=S 0x4e6f74496d706c656d656e7465644572726f72
def t99:=S 0x4d6f64756c654e6f74466f756e644572726f72
def t100:=S 0x5f5f6361636865645f5f
def t101:=S 0x66696e645f73706563
def t102:=S 0x466c6f6174696e67506f696e744572726f72
def t103:=S 0x50726f636573734c6f6f6b75704572726f72
def t104:=S 0x5f5f736c6f74735f5f
def t105:=S 0x42617365457863657074696f6e47726f7570
def t106:=S 0x53746f704173796e63497465726174696f6e
def t107:=S 0x4465707265636174696f6e5761726e696e67
def t108:=S 0x4e6f74414469726563746f72794572726f72
def t109:=S 0x556e69636f64654465636f64654572726f72
def t110:=S 0x556e69636f6465456e636f64654572726f72
def t111:=S 0x5a65726f4469766973696f6e4572726f72
def t112:=S 0x74656d706c617465
def t113:=S 0x4b6579626f617264496e74657272757074
def t114:=S 0x4368696c6450726f636573734572726f72
def t115:=S 0x46696c654e6f74466f756e644572726f72
def t116:=S 0x4973414469726563746f72794572726f72
def t117:=S 0x3c6d6f64756c653e
def t118:=S 0x6275696c742d696e
def t119:=S 0x6765745f636f6465
def t120:=S 0x646f6e65
def t121:=S 0x556e626f756e644c6f63616c4572726f72
def t122:=T [4,0,0,11,4,0,0,11,4,0,0,3,4,0,0,11,8,4,100,105,99,116,2]
def t123:=S 0x496e7465727275707465644572726f72
def t124:=S 0x456e7669726f6e6d656e744572726f72
def t125:=S 0x496e64656e746174696f6e4572726f72
def t126:=S 0x5f5f66696c655f5f
def t127:=S 0x4d4158524550454154
def t128:=S 0x4d415847524f555053
def t129:=S 0x5f5f726570725f5f
def t130:=S 0x5f5f686173685f5f
def t131:=S 0x5065726d697373696f6e4572726f72
def t132:=S 0x41726974686d657469634572726f72
def t133:=S 0x436f6e6e656374696f6e4572726f72
def t134:=S 0x46696c654578697374734572726f72
def t135:=S 0x42726f6b656e506970654572726f72
def t136:=S 0x456e636f64696e675761726e696e67
def t137:=S 0x5265736f757263655761726e696e67
def t138:=S 0x426c6f636b696e67494f4572726f72
def t139:=S 0x4e6f74496d706c656d656e746564
def t140:=S 0x417373657274696f6e4572726f72
def t141:=S 0x6c6177
def t142:=S 0x434f444553495a45
def t143:=S 0x5f5f6275696c645f636c6173735f5f
def t144:=S 0x4174747269627574654572726f72
def t145:=S 0x5265666572656e63654572726f72
def t146:=S 0x52756e74696d655761726e696e67
def t147:=S 0x526563757273696f6e4572726f72
def t148:=S 0x457863657074696f6e47726f7570
def t149:=S 0x556e69636f64655761726e696e67
def t150:=S 0x6e616d65
def t151:=S 0x4f766572666c6f774572726f72
def t152:=S 0x47656e657261746f7245786974
def t153:=S 0x53746f70497465726174696f6e
def t154:=S 0x4675747572655761726e696e67
def t155:=S 0x496d706f72745761726e696e67
def t156:=S 0x706172656e74
def t157:=S 0x42617365457863657074696f6e
def t158:=S 0x53796e7461785761726e696e67
def t159:=S 0x5f4f524947494e
def t160:=S 0x7072656465636573736f7273
def t161:=S 0x616464
def t162:=S 0x7374617469636d6574686f64
def t163:=S 0x52756e74696d654572726f72
def t164:=S 0x54696d656f75744572726f72
def t165:=S 0x636163686564
def t166:=S 0x42797465735761726e696e67
def t167:=S 0x556e69636f64654572726f72
def t168:=S 0x5f5f65715f5f
def t169:=S 0x636c6173736d6574686f64
def t170:=S 0x4275666665724572726f72
def t171:=S 0x496d706f72744572726f72
def t172:=S 0x4c6f6f6b75704572726f72
def t173:=S 0x4d656d6f72794572726f72
def t174:=S 0x53797374656d4572726f72
def t175:=S 0x53796e7461784572726f72
def t176:=S 0x557365725761726e696e67
def t177:=S 0x6d656d6f727976696577
def t178:=S 0x627265616b706f696e74
def t179:=S 0x6973696e7374616e6365
def t180:=S 0x53797374656d45786974
def t181:=S 0x496e6465784572726f72
def t182:=S 0x6973737562636c617373
def t183:=S 0x56616c75654572726f72
def t184:=S 0x5f5f696d706f72745f5f
def t185:=S 0x66726f7a656e736574
def t186:=S 0x656e756d6572617465
def t187:=S 0x54494d455a4f4e455f5245
def t188:=S 0x4d41474943
def t189:=S 0x457863657074696f6e
def t190:=S 0x547970654572726f72
def t191:=S 0x627974656172726179
def t192:=S 0x4e616d654572726f72
def t193:=S 0x70726f7065727479
def t194:=S 0x7265766572736564
def t195:=S 0x5f5f64656275675f5f
def t196:=S 0x5f4e4f44455f444f4e45
def t197:=S 0x6e6f6465696e666f
def t198:=S 0x456c6c6970736973
def t199:=S 0x4b65794572726f72
def t200:=S 0x63616c6c61626c65
def t201:=S 0x454f464572726f72
def t202:=S 0x5461624572726f72
def t203:=S 0x5554435f5a4f4e4553
def t204:=S 0x5f4e4f44455f4f5554
def t205:=S 0x64656c61747472
def t206:=S 0x67657461747472
def t207:=S 0x73657461747472
def t208:=S 0x636f6d706c6578
def t209:=S 0x63726564697473
def t210:=S 0x6c6963656e7365
def t211:=S 0x676c6f62616c73
def t212:=S 0x68617361747472
def t213:=S 0x5761726e696e67
def t214:=S 0x4f534572726f72
def t215:=S 0x494f4572726f72
def t216:=S 0x6469766d6f64
def t217:=S 0x736f72746564
def t218:=S 0x66696c746572
def t219:=S 0x726573756c74
def t220:=S 0x666f726d6174
def t221:=S 0x6c6f63616c73
def t222:=S 0x6f626a656374
def t223:=S 0x696e707574
def t224:=S 0x7072696e74
def t225:=S 0x726f756e64
def t226:=S 0x7375706572
def t227:=S 0x7475706c65
def t228:=S 0x6169746572
def t229:=S 0x616e657874
def t230:=S 0x6279746573
def t231:=S 0x666c6f6174
def t232:=S 0x72616e6765
def t233:=S 0x736c696365
def t234:=S 0x6173636969
def t235:=S 0x46616c7365
def t236:=S 0x6e3269
def t237:=S 0x69746572
def t238:=S 0x6e657874
def t239:=S 0x72657072
def t240:=S 0x6c697374
def t241:=S 0x74797065
def t242:=S 0x6f70656e
def t243:=S 0x71756974
def t244:=S 0x65786974
def t245:=S 0x68656c70
def t246:=S 0x6576616c
def t247:=S 0x65786563
def t248:=S 0x68617368
def t249:=S 0x76617273
def t250:=S 0x4e6f6e65
def t251:=S 0x54727565
def t252:=S 0x626f6f6c
def t253:=S 0x64696374
def t254:=S 0x646972
def t255:=S 0x686578
def t256:=S 0x6c656e
def t257:=S 0x6d696e
def t258:=S 0x6f7264
def t259:=S 0x706f77
def t260:=S 0x73756d
def t261:=S 0x696e74
def t262:=S 0x736574
def t263:=S 0x737472
def t264:=S 0x7a6970
def t265:=S 0x616c6c
def t266:=S 0x616e79
def t267:=S 0x62696e
def t268:=S 0x636872
def t269:=S 0x6d6178
def t270:=S 0x6f6374
def t271:=S 0x6d6170
def t272:=S 0x616273
def t273:=S 0x474d54
def t274:=S 0x555443
def t275:=S 0x6964
noncomputable def y0:=Value.type SZ.s14018661285674007319x4
noncomputable def y1:=Value.type SZ.s2742458400755230247x6
noncomputable def y2:=Value.type SZ.s2766695959194262286x5
noncomputable def y3:=Value.type SZ.s17162191345867700912x4
noncomputable def y4:=Value.type SZ.s10852414792293593619x7
noncomputable def y5:=Value.type SZ.s6070975301684473832x10
noncomputable def y6:=Value.type SZ.s6658869562736209489x6
noncomputable def y7:=Value.type SZ.s5856160107412720595x4
noncomputable def y8:=Value.type SZ.s7174869446012820540x8
noncomputable def y9:=Value.type SZ.s5699418376593618685x17
noncomputable def y10:=Value.type SZ.s14755015743595814543x17
def q1:=nth hdP.main.body 1
def q11:=nth hdP.main.body 11
def q13:=nth hdP.main.body 13
def q14:=nth hdP.main.body 14
def q16:=nth hdP.main.body 16
def q17:=nth hdP.main.body 17
def q18:=nth hdP.main.body 18
def q19:=nth hdP.main.body 19
def q20:=nth hdP.main.body 20
def q5:=nth hdP.main.body 5
def q9:=nth hdP.main.body 9
def q11x0:=nth (fB q11) 0
def q11x1:=nth (fB q11) 1
def q11x2:=nth (fB q11) 2
def q11x3:=nth (fB q11) 3
def q11x4:=nth (fB q11) 4
def q11x5:=nth (fB q11) 5
def q11x6:=nth (fB q11) 6
def q11x7:=nth (fB q11) 7
def q11x8:=nth (fB q11) 8
def q11x9:=nth (fB q11) 9
def q9x1:=nth (fB q9) 1
noncomputable def K (P:Params) (t:Str) (n:Nat) (v:Value):DictEntry:=⟨PyData.keyHash P t,.str t n,v⟩
noncomputable def sq (c:Value) (l:List Value) (n:Nat):Obj:=⟨c,none,.seq ⟨l⟩ n,⟨[]⟩⟩
noncomputable def fl (c:Value) (l:List Value):Obj:=⟨c,none,.fields ⟨l⟩,⟨[]⟩⟩
noncomputable def dc (c:Value) (l:List DictEntry) (n:Nat):Obj:=⟨c,none,.dict ⟨l⟩ n,⟨[]⟩⟩
noncomputable def f0 (a b:Str) (q:Stmt):Obj:=⟨.none,none,.func ⟨a,b,fA q,.stmts (fB q),fS q,0,[],.none,.none,.none,.none,none,.none,.none,0⟩,⟨[]⟩⟩
noncomputable def f3 (a b:Str) (q:Stmt) (t:Str) (n r:Nat):Obj:=⟨y8,none,.func ⟨a,b,fA q,.stmts (fB q),fS q,3,[],.none,.none,.none,.str t n,none,.ref r,.none,0⟩,⟨[]⟩⟩
noncomputable def N (o:Obj) (l r:KT):KT:= .node (some o) l r
noncomputable def F (o:Obj):KT:= .node (some o) .nil .nil
variable (P:Params)
def o0:=dc y0 [K P t41 1 (.str t87 160),K P t11 2 (.builtin "builtins.__doc__:str#opaque"),K P t19 3 (.builtin "builtins.__package__:str#opaque"),K P t21 4 (.builtin "builtins.__loader__:shared#opaque"),K P t42 5 (.builtin SZ.s11665532747177232413x24),K P t143 6 (.builtin SZ.s15183661809925369436x15),K P t184 7 (.builtin SZ.s13915890719876406383x10),K P t272 8 (.builtin SZ.s13459172003223722735x3),K P t265 9 (.builtin SZ.s10557405761357834076x3),K P t266 10 (.builtin SZ.s4233737765568776869x3),K P t234 11 (.builtin SZ.s2508922471967985374x5),K P t267 12 (.builtin SZ.s15574269061696679450x3),K P t178 13 (.builtin SZ.s6016482663378992977x10),K P t200 14 (.builtin SZ.s5596568736180474577x8),K P t268 15 (.builtin SZ.s2839554839881490554x3),K P t80 16 (.builtin SZ.s725004073602090463x7),K P t205 17 (.builtin SZ.s9436932552931045734x7),K P t254 18 (.builtin SZ.s2754603736356183583x3),K P t216 19 (.builtin SZ.s15185746759980889043x6),K P t246 20 (.builtin SZ.s8192189862530294059x4),K P t247 21 (.builtin SZ.s7038307821325472102x4),K P t220 22 (.builtin SZ.s5662562618415449548x6),K P t206 23 (.builtin SZ.s15281542589158584767x7),K P t211 24 (.builtin SZ.s17651547275483570877x7),K P t212 25 (.builtin SZ.s4036449017235975746x7),K P t248 26 (.builtin SZ.s8879979712987360175x4),K P t255 27 (.builtin SZ.s1801250619170735830x3),K P t275 28 (.builtin SZ.s17659931425627118568x2),K P t223 29 (.builtin SZ.s6063217899685152688x5),K P t179 30 (.builtin SZ.s8008927332132565319x10),K P t182 31 (.builtin SZ.s3544116645089599534x10),K P t237 32 (.builtin SZ.s13761710972054866084x4),K P t228 33 (.builtin SZ.s12896375587409280029x5),K P t256 34 (.builtin SZ.s13014049009108672802x3),K P t221 35 (.builtin SZ.s13935586738268321596x6),K P t269 36 (.builtin SZ.s8200498257699607233x3),K P t257 37 (.builtin SZ.s14114244577727609259x3),K P t238 38 (.builtin SZ.s1499430450269397089x4),K P t229 39 (.builtin SZ.s8755793994789770505x5),K P t270 40 (.builtin SZ.s15725212667919936108x3),K P t258 41 (.builtin SZ.s15791221867095933363x3),K P t259 42 (.builtin SZ.s81309575031448614x3),K P t224 43 (.builtin SZ.s8069831620301644142x5),K P t239 44 (.builtin SZ.s10061844253413749634x4),K P t225 45 (.builtin SZ.s9496514870978017513x5),K P t207 46 (.builtin SZ.s8899691144933366716x7),K P t217 47 (.builtin SZ.s15201008993051130160x6),K P t260 48 (.builtin SZ.s741896355592496720x3),K P t249 49 (.builtin SZ.s17925004256654032244x4),K P t250 50 .none,K P t198 51 .ellipsis,K P t139 52 .notImplemented,K P t235 53 (.bool false),K P t251 54 (.bool true),K P t252 55 (.type SZ.s11695548795398191787x4),K P t177 56 (.type SZ.s4156966113859768872x10),K P t191 57 (.type SZ.s9501651726347032510x9),K P t230 58 (.type SZ.s15722918466584999320x5),K P t169 59 (.type SZ.s591115383303110208x11),K P t208 60 (.type SZ.s15721156781594690315x7),K P t253 61 y0,K P t186 62 (.type SZ.s14340494229221121180x9),K P t218 63 (.type SZ.s13429844117177748173x6),K P t231 64 (.type SZ.s16463266125957815391x5),K P t185 65 (.type SZ.s4922535414793169389x9),K P t193 66 (.type SZ.s8101838861749082086x8),K P t261 67 (.type SZ.s7066276694103001551x3),K P t240 68 (.type SZ.s9222952809800978799x4),K P t271 69 (.type SZ.s462964344163437139x3),K P t222 70 y1,K P t232 71 (.type SZ.s1438033511350832697x5),K P t194 72 (.type SZ.s14365286008749172514x8),K P t262 73 (.type SZ.s3642769012341782148x3),K P t233 74 (.type SZ.s4674234679698826739x5),K P t162 75 (.type SZ.s16656946322747308186x12),K P t263 76 (.type SZ.s10796804682411823810x3),K P t226 77 (.type SZ.s4290257624100764138x5),K P t227 78 y2,K P t241 79 y3,K P t264 80 (.type SZ.s14339709457334898076x3),K P t195 81 (.bool true),K P t157 82 (.type SZ.s4278001404047624695x13),K P t105 83 (.type SZ.s6585700554429387442x18),K P t189 84 (.type SZ.s5946037652744460706x9),K P t152 85 (.type SZ.s7410770068591931388x13),K P t113 86 (.type SZ.s11817881795495490833x17),K P t180 87 (.type SZ.s15679963881808890155x10),K P t132 88 (.type SZ.s3871700062485845797x15),K P t140 89 (.type SZ.s7689518266570723881x14),K P t144 90 (.type SZ.s9001593270443806431x14),K P t170 91 (.type SZ.s6882542574934516792x11),K P t201 92 (.type SZ.s14403400214490484960x8),K P t171 93 (.type SZ.s14457978657717015782x11),K P t172 94 (.type SZ.s1753610191782819921x11),K P t173 95 (.type SZ.s14119380538032626715x11),K P t192 96 (.type SZ.s11437920000406562045x9),K P t214 97 y4,K P t145 98 (.type SZ.s14816307405966870543x14),K P t163 99 (.type SZ.s8682627914449686677x12),K P t106 100 (.type SZ.s4428170145600203450x18),K P t153 101 (.type SZ.s5991306692159431302x13),K P t175 102 (.type SZ.s16067994140765818257x11),K P t174 103 (.type SZ.s2327743974964600596x11),K P t190 104 (.type SZ.s2804747833354056582x9),K P t183 105 y5,K P t213 106 (.type SZ.s14270485950484850486x7),K P t102 107 (.type SZ.s12041534306414923332x18),K P t151 108 (.type SZ.s2531307568338490285x13),K P t111 109 (.type SZ.s631175304937289666x17),K P t166 110 (.type SZ.s5144983644357021410x12),K P t107 111 (.type SZ.s18039099521571816885x18),K P t136 112 (.type SZ.s6011586214260557989x15),K P t154 113 (.type SZ.s5430567037509283100x13),K P t155 114 (.type SZ.s8117915138073963741x13),K P t75 115 (.type SZ.s3423317712779056401x25),K P t137 116 (.type SZ.s2007317383269046180x15),K P t146 117 (.type SZ.s17481586968713580700x14),K P t158 118 (.type SZ.s2450899226349176912x13),K P t149 119 (.type SZ.s16626165730633575011x14),K P t176 120 (.type SZ.s14288496050688921416x11),K P t138 121 (.type SZ.s5735081916595925998x15),K P t114 122 (.type SZ.s3865607918536308442x17),K P t133 123 (.type SZ.s13337502604062700212x15),K P t134 124 (.type SZ.s13114017843053701147x15),K P t115 125 (.type SZ.s17467278006356818441x17),K P t123 126 (.type SZ.s17722149559621369488x16),K P t116 127 (.type SZ.s7855274175708717672x17),K P t108 128 (.type SZ.s13351283678309829046x18),K P t131 129 (.type SZ.s6668348653404991179x15),K P t103 130 (.type SZ.s12913350958174193794x18),K P t164 131 (.type SZ.s16115879512475548326x12),K P t125 132 (.type SZ.s15920661018069861047x16),K P t89 133 (.type SZ.s10779130036587390575x21),K P t181 134 (.type SZ.s7801419657504700863x10),K P t199 135 (.type SZ.s1688129525768580628x8),K P t99 136 (.type SZ.s1031832959479892071x19),K P t98 137 (.type SZ.s8991790508128307865x19),K P t81 138 (.type SZ.s14539662485746970245x23),K P t147 139 (.type SZ.s11643622729373238714x14),K P t121 140 (.type SZ.s3386828779285465597x17),K P t167 141 (.type SZ.s13042696260734638735x12),K P t135 142 (.type SZ.s18239426817015966623x15),K P t85 143 (.type SZ.s1270395311379034370x22),K P t84 144 (.type SZ.s10696252587037064777x22),K P t94 145 (.type SZ.s7852717498200857586x20),K P t202 146 (.type SZ.s6377248116197321094x8),K P t109 147 (.type SZ.s3834378056692298002x18),K P t110 148 (.type SZ.s17586630440231065808x18),K P t91 149 (.type SZ.s15234114252648025395x21),K P t148 150 (.type SZ.s8496462677383758984x14),K P t124 151 y4,K P t215 152 y4,K P t242 153 (.builtin SZ.s16789243406116112673x4),K P t243 154 (.builtin SZ.s14400166428656793546x20),K P t244 155 (.builtin SZ.s5857708277339239366x20),K P t66 156 (.builtin "builtins.copyright#opaque"),K P t209 157 (.builtin "builtins.credits#opaque"),K P t210 158 (.builtin "builtins.license#opaque"),K P t245 159 (.builtin SZ.s7804999707787243718x20)] 159
def o1:=dc y0 [K P t87 162 (.ref 4),K P t59 163 (.ref 5),K P t57 244 (.ref 12)] 3
def o2:=dc .none [K P t50 183 (.bool true),K P t14 185 (.ref 14),K P t67 206 (.ref 18),K P t17 216 (.ref 22),K P t23 245 (.int 3 0),K P t32 270 (.bool true),K P t64 272 (.ref 27),K P t30 0 (.str (S 0x0c) 0),K P t22 273 (.str t122 0)] 9
def o3:=dc y0 [K P t41 165 (.str t51 592),K P t11 166 .none,K P t19 167 .none,K P t21 168 (.builtin SZ.s7097527257260152453x26),K P t42 169 .none,K P t65 170 (.ref 6),K P t78 171 (.ref 4),K P t126 173 (.str t3 172),K P t100 174 .none,K P t57 275 (.ref 12),K P t86 288 (.ref 38),K P t203 299 (.ref 39),K P t187 376 (.ref 44),K P t10 385 (.ref 51),K P t204 390 (.int (-1) 389),K P t196 393 (.int (-2) 392),K P t35 430 (.ref 70),K P t27 448 (.ref 85),K P t12 567 (.ref 167),K P t9 583 (.ref 178),K P t20 591 (.ref 185),K P t40 606 (.ref 192),K P t47 614 (.ref 199),K P t29 620 (.ref 204),K P t36 626 (.ref 209),K P t141 632 (.ref 214)] 26
def o4:Obj:=⟨y6,(some 0),.plain,⟨[]⟩⟩
def o5:Obj:=⟨y6,(some 3),.plain,⟨[]⟩⟩
def o6:=dc y0 [] 0
def o7:=sq y2 [] 0
def o8:=fl .none []
def o9:=fl y7 [(.str t117 176),(.str t117 177),(.str t3 178),(.int 1 0),(.int 0 0),(.int 0 0),(.int 0 0),(.int 0 0),(.ref 7),(.bool false),(.int 175 0),(.ref 8),.none,.none,.none,.none,(.int 179 0),(.int 1 0),(.str t3 180)]
def o10:Obj:=⟨(.type SZ.s658472552662922059x5),none,.plain,⟨[(some (.ref 9)),(some (.ref 3)),(some (.ref 3)),none,(some (.str t59 164)),none,(some (.ref 0))]⟩⟩
def o11:=dc y0 [K P t41 247 (.str t57 246),K P t11 248 .none,K P t19 250 (.str (T []) 249),K P t21 251 (.builtin "off-the-table:_sre.__loader__:shared#opaque"),K P t42 252 (.builtin "off-the-table:_sre.__spec__:shared#opaque"),K P t80 253 (.builtin SZ.s492968859115322481x12),K P t112 254 (.builtin "off-the-table:_sre.template:shared#opaque"),K P t79 255 (.builtin "off-the-table:_sre.getcodesize:shared#opaque"),K P t74 256 (.builtin "off-the-table:_sre.ascii_iscased:shared#opaque"),K P t63 257 (.builtin "off-the-table:_sre.unicode_iscased:shared#opaque"),K P t71 258 (.builtin "off-the-table:_sre.ascii_tolower:shared#opaque"),K P t61 259 (.builtin "off-the-table:_sre.unicode_tolower:shared#opaque"),K P t188 261 (.int 20230612 260),K P t142 263 (.int 4 262),K P t127 265 (.int 4294967295 264),K P t128 267 (.int 1073741823 266),K P t66 269 (.str t26 268)] 17
def o12:Obj:=⟨y6,(some 11),.plain,⟨[]⟩⟩
def o13:=dc y0 [K P t7 189 (.str t53 186),K P t5 190 (.int 971 187),K P t11 191 (.builtin "_frozen_importlib.BuiltinImporter.__doc__:str#opaque"),K P t159 192 (.str t118 188),K P t101 193 (.builtin "_frozen_importlib.BuiltinImporter.find_spec#opaque"),K P t72 194 (.builtin "_frozen_importlib.BuiltinImporter.create_module#opaque"),K P t82 195 (.builtin "_frozen_importlib.BuiltinImporter.exec_module#opaque"),K P t119 196 (.builtin "_frozen_importlib.BuiltinImporter.get_code#opaque"),K P t90 197 (.builtin "_frozen_importlib.BuiltinImporter.get_source#opaque"),K P t95 198 (.builtin "_frozen_importlib.BuiltinImporter.is_package#opaque"),K P t83 199 (.builtin "_frozen_importlib.BuiltinImporter.load_module#opaque"),K P t4 200 (.ref 15),K P t18 202 (.ref 16),K P t8 204 (.ref 17)] 14
def o14:Obj:=⟨y3,none,(.cls ⟨t62,[y1],[(.ref 14),y1],13,t62,true,[],[],false,none,false⟩),⟨[]⟩⟩
def o34:=sq y2 [(.str (S 0x6b) 285)] 0
def o36:=f0 t86 t86 q1
def o37:=fl y7 [(.str t86 282),(.str t86 283),(.str t3 284),(.int 2 0),(.int 1 0),(.int 0 0),(.int 0 0),(.int 3 0),(.ref 32),(.bool true),(.int 276 0),(.ref 33),.none,(.ref 34),(.ref 35),(.ref 36),(.int 286 0),(.int 2 0),(.str t3 287)]
def o38:=f3 t86 t86 q1 t59 164 37
def o39:=dc y0 [K P t273 291 .none,K P t274 292 .none,⟨(PyData.keyHash P (S 0x5554)),(.str (S 0x5554) 293),.none⟩,⟨(PyData.keyHash P (S 0x5a)),(.str (S 0x5a) 294),.none⟩] 4
def o43:=sq y2 [(.int 14 0),(.int 4 0),(.int 0 0),(.int 1 0),(.int 6 0),(.int 6 0),(.int 0 0),(.int 23 0),(.int 14 0),(.int 0 0),(.int 1 0),(.int 17 0),(.int 0 0),(.int 13 0),(.int 6 0),(.int 16 0),(.int 45 0),(.int 16 0),(.int 43 0),(.int 0 0),(.int 17 0),(.int 1 0),(.int 18 0),(.int 17 0),(.int 2 0),(.int 13 0),(.int 4 0),(.int 8 0),(.int 0 0),(.int 0 0),(.int 24 0),(.int 9 0),(.int 0 0),(.int 1 0),(.int 13 0),(.int 4 0),(.int 8 0),(.int 0 0),(.int 0 0),(.int 1 0),(.int 17 0),(.int 3 0),(.int 24 0),(.int 6 0),(.int 0 0),(.int 1 0),(.int 16 0),(.int 58 0),(.int 1 0),(.int 23 0),(.int 17 0),(.int 0 0),(.int 1 0),(.int 17 0),(.int 4 0),(.int 13 0),(.int 4 0),(.int 8 0),(.int 0 0),(.int 0 0),(.int 13 0),(.int 4 0),(.int 8 0),(.int 0 0),(.int 0 0),(.int 17 0),(.int 5 0),(.int 18 0),(.int 6 0),(.int 5 0),(.int 1 0)] 0
def o44:=fl (.type SZ.s12171344214640291687x10) [(.str (S 0x5e285b2d2b5d293f285c645c643f293a3f285c645c64293f24) 301),(.int 256 375),(.int 3 0),.none,.none,(.ref 43),(.int 0 0)]
def o47:=sq y2 [(.str (S 0x747a) 380),(.str (S 0x6f6666736574) 381),(.str (S 0x6d) 382)] 0
def o49:=f0 t10 t10 q5
def o50:=fl y7 [(.str t10 377),(.str t10 378),(.str t3 379),(.int 8 0),(.int 1 0),(.int 0 0),(.int 0 0),(.int 3 0),(.ref 45),(.bool true),(.int 276 0),(.ref 46),.none,(.ref 47),(.ref 48),(.ref 49),(.int 383 0),(.int 8 0),(.str t3 384)]
def o51:Obj:=⟨y8,none,(.func ⟨t10,t10,(fA q5),(.stmts (fB q5)),(fS q5),3,[],.none,.none,.none,(.str (S 0x6370793331332e687474702e636f6f6b69656a6172) 289),none,(.ref 50),.none,0⟩),⟨[]⟩⟩
def o59:=sq y2 [(.str t54 406),(.str t24 407),(.str t49 408)] 0
def o62:=sq y2 [(.str t76 413),(.str t54 414)] 0
def o64:=f0 t16 t73 q9x1
def o65:=fl y7 [(.str t16 410),(.str t73 411),(.str t3 412),(.int 27 0),(.int 2 0),(.int 0 0),(.int 0 0),(.int 3 0),(.ref 60),(.bool true),(.int 276 0),(.ref 61),.none,(.ref 62),(.ref 63),(.ref 64),(.int 415 0),(.int 27 0),(.str t3 416)]
def o66:=f3 t16 t73 q9x1 t6 386 65
def o67:=sq y2 [(.str t54 418),(.str t24 419),(.str t49 420)] 0
def o69:=dc y0 [K P t7 401 (.str t6 386),K P t5 405 (.int 24 404),K P t104 409 (.ref 59),K P t16 417 (.ref 66),K P t4 421 (.ref 67),K P t54 423 (.ref 71),K P t24 425 (.ref 72),K P t49 427 (.ref 73),K P t11 428 .none] 5
def o70:Obj:=⟨y3,none,(.cls ⟨t35,[y1],[(.ref 70),y1],69,t35,false,[t54,t24,t49],[],false,none,false⟩),⟨[none,none,(some (.str t35 394)),(some (.str t35 402)),(some (.builtin SZ.s11443829558043349243x14)),(some (.bool false))]⟩⟩
def o71:=fl y9 [(.str t54 422),(.ref 70),(.builtin SZ.s6779124196712981104x10),(.builtin SZ.s2924395122027826103x14),(.int 2 0)]
def o72:=fl y9 [(.str t24 424),(.ref 70),(.builtin SZ.s6779124196712981104x10),(.builtin SZ.s2924395122027826103x14),(.int 1 0)]
def o73:=fl y9 [(.str t49 426),(.ref 70),(.builtin SZ.s6779124196712981104x10),(.builtin SZ.s2924395122027826103x14),(.int 0 0)]
def o76:=sq y2 [y5] 0
def o84:=dc y0 [K P t7 438 (.str t6 386),K P t5 442 (.int 31 441),K P t4 443 (.ref 83),K P t8 445 (.ref 86),K P t11 446 .none] 3
def o85:Obj:=⟨y3,none,(.cls ⟨t27,[y5],[(.ref 85),y5,(.type SZ.s5946037652744460706x9),(.type SZ.s4278001404047624695x13),y1],84,t27,true,[],[],false,none,false⟩),⟨[(some (.ref 76)),none,(some (.str t27 431)),(some (.str t27 439)),(some (.builtin SZ.s4209523147560561109x18)),(some (.bool true))]⟩⟩
def o86:=fl y10 [(.str t8 444),(.ref 85),(.builtin SZ.s10220274742760427390x26),.none]
def o96:=sq y2 [.none] 0
def o99:=sq y2 [(.str t76 464),(.str (S 0x6772617068) 465),(.str t54 466),(.str t160 467)] 0
def o101:=f0 t16 t44 q11x0
def o102:=fl y7 [(.str t16 461),(.str t44 462),(.str t3 463),(.int 35 0),(.int 2 0),(.int 0 0),(.int 0 0),(.int 3 0),(.ref 97),(.bool true),(.int 276 0),(.ref 98),.none,(.ref 99),(.ref 100),(.ref 101),(.int 468 0),(.int 35 0),(.str t3 469)]
def o103:Obj:=⟨y8,none,(.func ⟨t16,t44,(fA q11x0),(.stmts (fB q11x0)),(fS q11x0),3,[],(.ref 96),.none,.none,(.str t6 386),none,(.ref 102),.none,0⟩),⟨[]⟩⟩
def o106:=sq y2 [(.str t76 474),(.str t54 475),(.str t219 476)] 0
def o108:=f0 t25 t28 q11x1
def o109:=fl y7 [(.str t25 471),(.str t28 472),(.str t3 473),(.int 44 0),(.int 2 0),(.int 0 0),(.int 0 0),(.int 3 0),(.ref 104),(.bool true),(.int 276 0),(.ref 105),.none,(.ref 106),(.ref 107),(.ref 108),(.int 477 0),(.int 44 0),(.str t3 478)]
def o110:=f3 t25 t28 q11x1 t6 386 109
def o113:=sq y2 [(.str t76 483),(.str t54 484),(.str t160 485),(.str t197 486),(.str (S 0x70726564) 487),(.str (S 0x707265645f696e666f) 488)] 0
def o115:=f0 t161 t60 q11x2
def o116:=fl y7 [(.str t161 480),(.str t60 481),(.str t3 482),(.int 49 0),(.int 2 0),(.int 0 0),(.int 0 0),(.int 7 0),(.ref 111),(.bool true),(.int 276 0),(.ref 112),.none,(.ref 113),(.ref 114),(.ref 115),(.int 489 0),(.int 49 0),(.str t3 490)]
def o117:=f3 t161 t60 q11x2 t6 386 116
def o120:=f0 t70 t46 q11x3
def o121:=fl y7 [(.str t70 492),(.str t46 493),(.str t3 494),(.int 58 0),(.int 1 0),(.int 0 0),(.int 0 0),(.int 3 0),(.ref 118),(.bool true),(.int 276 0),(.ref 119),.none,.none,.none,(.ref 120),(.int 495 0),(.int 58 0),(.str t3 496)]
def o122:=f3 t70 t46 q11x3 t6 386 121
def o125:=sq y2 [(.str t76 501),(.str t219 502),(.str t236 503),(.str t54 504)] 0
def o127:=f0 t55 t37 q11x4
def o128:=fl y7 [(.str t55 498),(.str t37 499),(.str t3 500),(.int 66 0),(.int 1 0),(.int 0 0),(.int 0 0),(.int 3 0),(.ref 123),(.bool true),(.int 276 0),(.ref 124),.none,(.ref 125),(.ref 126),(.ref 127),(.int 505 0),(.int 66 0),(.str t3 506)]
def o129:=f3 t55 t37 q11x4 t6 386 128
def o132:=sq y2 [(.str t76 511)] 0
def o134:=f0 t58 t39 q11x5
def o135:=fl y7 [(.str t58 508),(.str t39 509),(.str t3 510),(.int 77 0),(.int 1 0),(.int 0 0),(.int 0 0),(.int 3 0),(.ref 130),(.bool true),(.int 276 0),(.ref 131),.none,(.ref 132),(.ref 133),(.ref 134),(.int 512 0),(.int 77 0),(.str t3 513)]
def o136:=f3 t58 t39 q11x5 t6 386 135
def o139:=sq y2 [(.str t76 518)] 0
def o141:=f0 t68 t45 q11x6
def o142:=fl y7 [(.str t68 515),(.str t45 516),(.str t3 517),(.int 82 0),(.int 1 0),(.int 0 0),(.int 0 0),(.int 3 0),(.ref 137),(.bool true),(.int 276 0),(.ref 138),.none,(.ref 139),(.ref 140),(.ref 141),(.int 519 0),(.int 82 0),(.str t3 520)]
def o143:=f3 t68 t45 q11x6 t6 386 142
def o146:=sq y2 [(.str t76 525),(.str (S 0x6e6f646573) 526),(.str t236 527),(.str t54 528),(.str t197 529),(.str (S 0x73746174) 530),(.str (S 0x737563636573736f72) 531),(.str (S 0x737563636573736f725f696e666f) 532)] 0
def o148:=f0 t120 t56 q11x7
def o149:=fl y7 [(.str t120 522),(.str t56 523),(.str t3 524),(.int 85 0),(.int 1 0),(.int 0 0),(.int 0 0),(.int 7 0),(.ref 144),(.bool true),(.int 276 0),(.ref 145),.none,(.ref 146),(.ref 147),(.ref 148),(.int 533 0),(.int 85 0),(.str t3 534)]
def o150:=f3 t120 t56 q11x7 t6 386 149
def o153:=sq y2 [(.str t76 539),(.str t236 540),(.str (S 0x737461636b) 541),(.str (S 0x6974737461636b) 542),(.str (S 0x7365656e) 543),(.str (S 0x6e6f646532737461636b69) 544),(.str t54 545)] 0
def o155:=f0 t43 t34 q11x8
def o156:=fl y7 [(.str t43 536),(.str t34 537),(.str t3 538),(.int 108 0),(.int 1 0),(.int 0 0),(.int 0 0),(.int 3 0),(.ref 151),(.bool true),(.int 276 0),(.ref 152),.none,(.ref 153),(.ref 154),(.ref 155),(.int 546 0),(.int 108 0),(.str t3 547)]
def o157:=f3 t43 t34 q11x8 t6 386 156
def o160:=sq y2 [(.str t76 552)] 0
def o162:=f0 t33 t31 q11x9
def o163:=fl y7 [(.str t33 549),(.str t31 550),(.str t3 551),(.int 137 0),(.int 1 0),(.int 0 0),(.int 0 0),(.int 3 0),(.ref 158),(.bool true),(.int 276 0),(.ref 159),.none,(.ref 160),(.ref 161),(.ref 162),(.int 553 0),(.int 137 0),(.str t3 554)]
def o164:=f3 t33 t31 q11x9 t6 386 163
def o165:=sq y2 [(.str (S 0x5f6e66696e6973686564) 556),(.str (S 0x5f6e6f646532696e666f) 557),(.str (S 0x5f6e7061737365646f7574) 558),(.str (S 0x5f72656164795f6e6f646573) 559)] 0
def o166:=dc y0 [K P t7 456 (.str t6 386),K P t5 460 (.int 33 459),K P t16 470 (.ref 103),K P t25 479 (.ref 110),K P t161 491 (.ref 117),K P t70 497 (.ref 122),K P t55 507 (.ref 129),K P t58 514 (.ref 136),K P t68 521 (.ref 143),K P t120 535 (.ref 150),K P t43 548 (.ref 157),K P t33 555 (.ref 164),K P t4 560 (.ref 165),K P t18 562 (.ref 168),K P t8 564 (.ref 169),K P t11 565 .none] 4
def o167:Obj:=⟨y3,none,(.cls ⟨t12,[y1],[(.ref 167),y1],166,t12,true,[],[],false,none,false⟩),⟨[none,none,(some (.str t12 449)),(some (.str t12 457)),(some (.builtin SZ.s11443829558043349243x14)),(some (.bool true))]⟩⟩
def o168:=fl y10 [(.str t18 561),(.ref 167),(.builtin SZ.s6511155373996960695x17),(.builtin SZ.s12411053484034534018x21)]
def o169:=fl y10 [(.str t8 563),(.ref 167),(.builtin SZ.s10220274742760427390x26),.none]
def o174:=sq y2 [(.str (S 0x6578706563746564) 573),(.str (S 0x61637475616c) 574),(.str (S 0x69) 575),(.str (S 0x6a) 576),(.str (S 0x6d697373696e67) 577),(.str (S 0x756e6578706563746564) 578),(.str (S 0x65) 579),(.str (S 0x61) 580)] 0
def o176:=f0 t9 t9 q13
def o177:=fl y7 [(.str t9 570),(.str t9 571),(.str t3 572),(.int 140 0),(.int 2 0),(.int 0 0),(.int 0 0),(.int 3 0),(.ref 172),(.bool true),(.int 276 0),(.ref 173),.none,(.ref 174),(.ref 175),(.ref 176),(.int 581 0),(.int 140 0),(.str t3 582)]
def o178:=f3 t9 t9 q13 t97 568 177
def o181:=sq y2 [(.str (S 0x78) 587),(.str (S 0x79) 588)] 0
def o183:=f0 t20 t20 q14
def o184:=fl y7 [(.str t20 584),(.str t20 585),(.str t3 586),(.int 172 0),(.int 2 0),(.int 0 0),(.int 0 0),(.int 3 0),(.ref 179),(.bool true),(.int 276 0),(.ref 180),.none,(.ref 181),(.ref 182),(.ref 183),(.int 589 0),(.int 172 0),(.str t3 590)]
def o185:=f3 t20 t20 q14 t97 568 184
def o188:=sq y2 [(.str (S 0x6e) 597),(.str (S 0x666f726d) 598),(.str (S 0x7369676e) 599),(.str (S 0x686f7572) 600),(.str (S 0x6d696e757465) 601),(.str (S 0x74657874) 602),(.str (S 0x7365636f6e6473) 603)] 0
def o190:=f0 t40 t40 q16
def o191:=fl y7 [(.str t40 594),(.str t40 595),(.str t3 596),(.int 175 0),(.int 1 0),(.int 0 0),(.int 0 0),(.int 3 0),(.ref 186),(.bool true),(.int 276 0),(.ref 187),.none,(.ref 188),(.ref 189),(.ref 190),(.int 604 0),(.int 175 0),(.str t3 605)]
def o192:=f3 t40 t40 q16 t51 592 191
def o195:=sq y2 [(.str (S 0x6f6e65) 610),(.str (S 0x74776f) 611)] 0
def o197:=f0 t47 t47 q17
def o198:=fl y7 [(.str t47 607),(.str t47 608),(.str t3 609),(.int 189 0),(.int 2 0),(.int 0 0),(.int 0 0),(.int 3 0),(.ref 193),(.bool true),(.int 276 0),(.ref 194),.none,(.ref 195),(.ref 196),(.ref 197),(.int 612 0),(.int 189 0),(.str t3 613)]
def o199:=f3 t47 t47 q17 t51 592 198
def o202:=f0 t29 t29 q18
def o203:=fl y7 [(.str t29 615),(.str t29 616),(.str t3 617),(.int 193 0),(.int 1 0),(.int 0 0),(.int 0 0),(.int 3 0),(.ref 200),(.bool true),(.int 276 0),(.ref 201),.none,.none,.none,(.ref 202),(.int 618 0),(.int 193 0),(.str t3 619)]
def o204:=f3 t29 t29 q18 t51 592 203
def o207:=f0 t36 t36 q19
def o208:=fl y7 [(.str t36 621),(.str t36 622),(.str t3 623),(.int 198 0),(.int 1 0),(.int 0 0),(.int 0 0),(.int 3 0),(.ref 205),(.bool true),(.int 276 0),(.ref 206),.none,.none,.none,(.ref 207),(.int 624 0),(.int 198 0),(.str t3 625)]
def o209:=f3 t36 t36 q19 t51 592 208
def o212:=f0 t141 t141 q20
def o213:=fl y7 [(.str t141 627),(.str t141 628),(.str t3 629),(.int 211 0),(.int 1 0),(.int 0 0),(.int 0 0),(.int 3 0),(.ref 210),(.bool true),(.int 276 0),(.ref 211),.none,.none,.none,(.ref 212),(.int 630 0),(.int 211 0),(.str t3 631)]
def o214:=f3 t141 t141 q20 t51 592 213
def o16:=fl y10 [(.str t18 201),(.ref 14),(.builtin "function.__dict__"),(.builtin "function.__dict__#set")]
def o17:=fl y10 [(.str t8 203),(.ref 14),(.builtin "ExceptionGroup.__weakref__"),.none]
def o18:=sq .none [(.int 13 0),(.str t0 0),(.bool true),(.bool true),(.str (T []) 205),(.int 21 0),(.str t1 0),(.bool true),(.bool true),(.str (T []) 242)] 1
def o19:=sq (.type "list") [] 0
def o20:=dc y0 [K P t150 208 (.str t57 207),K P t96 209 (.ref 14),K P t92 210 (.str t118 184),K P t48 211 .none,K P t13 212 .none,K P t15 213 (.ref 19),K P t38 214 (.bool false),K P t88 215 .none,K P t69 243 (.bool false)] 9
def o21:=dc y0 [K P t7 227 (.str t53 217),K P t5 228 (.int 562 218),K P t11 229 (.builtin "_frozen_importlib.ModuleSpec.__doc__:str#opaque"),K P t16 230 (.builtin "_frozen_importlib.ModuleSpec.__init__#opaque"),K P t129 231 (.builtin "_frozen_importlib.ModuleSpec.__repr__#opaque"),K P t168 232 (.builtin "_frozen_importlib.ModuleSpec.__eq__#opaque"),K P t165 233 (.builtin "_frozen_importlib.ModuleSpec.cached#opaque"),K P t156 234 (.builtin "_frozen_importlib.ModuleSpec.parent#opaque"),K P t77 235 (.builtin "_frozen_importlib.ModuleSpec.has_location#opaque"),K P t4 236 (.ref 23),K P t18 238 (.ref 24),K P t8 240 (.ref 25),K P t130 241 .none] 13
def o22:Obj:=⟨y3,none,(.cls ⟨t93,[y1],[(.ref 22),y1],21,t93,true,[],[],false,none,false⟩),⟨[]⟩⟩
def o23:=sq y2 [(.str t88 219),(.str t38 220),(.str t15 221),(.str t96 222),(.str t48 223),(.str t150 224),(.str t92 225),(.str t13 226)] 0
def o24:=fl y10 [(.str t18 237),(.ref 22),(.builtin "function.__dict__"),(.builtin "function.__dict__#set")]
def o25:=fl y10 [(.str t8 239),(.ref 22),(.builtin "ExceptionGroup.__weakref__"),.none]
def o26:Obj:=⟨(.ref 22),(some 20),.plain,⟨[]⟩⟩
def o27:=sq .none [(.int 11 0),(.str t2 0),(.bool true),(.bool false),(.str t57 271)] 0
def o29:=fl .none [(.int 2 0),(.int 0 0),(.ref 37),(.int 8 0),(.int 0 0),(.ref 50),(.int 24 0),(.int 0 0),(.ref 57),(.int 31 0),(.int 0 0),(.ref 81),(.int 33 0),(.int 0 0),(.ref 94),(.int 140 0),(.int 0 0),(.ref 177),(.int 172 0),(.int 0 0),(.ref 184),(.int 175 0),(.int 0 0),(.ref 191),(.int 189 0),(.int 0 0),(.ref 198),(.int 193 0),(.int 0 0),(.ref 203),(.int 198 0),(.int 0 0),(.ref 208),(.int 211 0),(.int 0 0),(.ref 213)]
def o30:=fl y7 [(.str t117 277),(.str t117 278),(.str t3 279),(.int 1 0),(.int 0 0),(.int 0 0),(.int 0 0),(.int 0 0),(.ref 28),(.bool false),(.int 276 0),(.ref 29),.none,.none,.none,.none,(.int 280 0),(.int 1 0),(.str t3 281)]
def o31:Obj:=⟨(.type "frame"),none,.plain,⟨[(some (.ref 30)),(some (.ref 3)),(some (.ref 3)),none,(some (.str t59 164)),none,(some (.ref 0))]⟩⟩
def o40:=sq (.type "list") [(.int 14 303),(.int 4 304),(.int 0 305),(.int 1 306),(.int 6 307),(.int 6 308),(.int 0 309),(.int 23 310),(.int 14 311),(.int 0 312),(.int 1 313),(.int 17 314),(.int 0 315),(.int 13 316),(.int 6 317),(.int 16 318),(.int 45 319),(.int 16 320),(.int 43 321),(.int 0 322),(.int 17 323),(.int 1 324),(.int 18 325),(.int 17 326),(.int 2 327),(.int 13 328),(.int 4 329),(.int 8 330),(.int 0 331),(.int 0 332),(.int 24 333),(.int 9 334),(.int 0 335),(.int 1 336),(.int 13 337),(.int 4 338),(.int 8 339),(.int 0 340),(.int 0 341),(.int 1 342),(.int 17 343),(.int 3 344),(.int 24 345),(.int 6 346),(.int 0 347),(.int 1 348),(.int 16 349),(.int 58 350),(.int 1 351),(.int 23 352),(.int 17 353),(.int 0 354),(.int 1 355),(.int 17 356),(.int 4 357),(.int 13 358),(.int 4 359),(.int 8 360),(.int 0 361),(.int 0 362),(.int 13 363),(.int 4 364),(.int 8 365),(.int 0 366),(.int 0 367),(.int 17 368),(.int 5 369),(.int 18 370),(.int 6 371),(.int 5 372),(.int 1 373)] 0
def o42:=sq y2 [.none,.none,.none,.none] 0
def o53:=fl (.type "builtin_function_or_method") [(.builtin "type.__prepare__"),y3]
def o54:=dc y0 [K P t7 401 (.str t6 386),K P t52 403 (.str t35 402),K P t5 405 (.int 24 404),K P t104 409 (.ref 59),K P t16 417 (.ref 66),K P t4 421 (.ref 67)] 6
def o56:=fl .none [(.int 27 0),(.int 4 0),(.ref 65)]
def o57:=fl y7 [(.str t35 396),(.str t35 397),(.str t3 398),(.int 24 0),(.int 0 0),(.int 0 0),(.int 0 0),(.int 0 0),(.ref 55),(.bool false),(.int 276 0),(.ref 56),.none,.none,.none,.none,(.int 399 0),(.int 24 0),(.str t3 400)]
def o58:Obj:=⟨(.type "frame"),none,.plain,⟨[(some (.ref 57)),(some (.ref 3)),(some (.ref 54)),none,(some (.str t6 386)),none,(some (.ref 0))]⟩⟩
def o68:=sq (.type "list") [(.str t54 406),(.str t24 407),(.str t49 408)] 1
def o74:=fl (.type "super") [(.ref 70),(.ref 70),(.ref 70)]
def o75:=fl (.type "builtin_function_or_method") [(.builtin "object.__init_subclass__"),(.ref 70)]
def o78:=dc y0 [K P t7 438 (.str t6 386),K P t52 440 (.str t27 439),K P t5 442 (.int 31 441),K P t4 443 (.ref 83)] 4
def o81:=fl y7 [(.str t27 433),(.str t27 434),(.str t3 435),(.int 31 0),(.int 0 0),(.int 0 0),(.int 0 0),(.int 0 0),(.ref 79),(.bool false),(.int 276 0),(.ref 80),.none,.none,.none,.none,(.int 436 0),(.int 31 0),(.str t3 437)]
def o82:Obj:=⟨(.type "frame"),none,.plain,⟨[(some (.ref 81)),(some (.ref 3)),(some (.ref 78)),none,(some (.str t6 386)),none,(some (.ref 0))]⟩⟩
def o87:=fl (.type "super") [(.ref 85),(.ref 85),(.ref 85)]
def o88:=fl (.type "builtin_function_or_method") [(.builtin "object.__init_subclass__"),(.ref 85)]
def o91:=dc y0 [K P t7 456 (.str t6 386),K P t52 458 (.str t12 457),K P t5 460 (.int 33 459),K P t16 470 (.ref 103),K P t25 479 (.ref 110),K P t161 491 (.ref 117),K P t70 497 (.ref 122),K P t55 507 (.ref 129),K P t58 514 (.ref 136),K P t68 521 (.ref 143),K P t120 535 (.ref 150),K P t43 548 (.ref 157),K P t33 555 (.ref 164),K P t4 560 (.ref 165)] 14
def o93:=fl .none [(.int 35 0),(.int 4 0),(.ref 102),(.int 44 0),(.int 4 0),(.ref 109),(.int 49 0),(.int 4 0),(.ref 116),(.int 58 0),(.int 4 0),(.ref 121),(.int 66 0),(.int 4 0),(.ref 128),(.int 77 0),(.int 4 0),(.ref 135),(.int 82 0),(.int 4 0),(.ref 142),(.int 85 0),(.int 4 0),(.ref 149),(.int 108 0),(.int 4 0),(.ref 156),(.int 137 0),(.int 4 0),(.ref 163)]
def o94:=fl y7 [(.str t12 451),(.str t12 452),(.str t3 453),(.int 33 0),(.int 0 0),(.int 0 0),(.int 0 0),(.int 0 0),(.ref 92),(.bool false),(.int 276 0),(.ref 93),.none,.none,.none,.none,(.int 454 0),(.int 33 0),(.str t3 455)]
def o95:Obj:=⟨(.type "frame"),none,.plain,⟨[(some (.ref 94)),(some (.ref 3)),(some (.ref 91)),none,(some (.str t6 386)),none,(some (.ref 0))]⟩⟩
def o170:=fl (.type "super") [(.ref 167),(.ref 167),(.ref 167)]
def o171:=fl (.type "builtin_function_or_method") [(.builtin "object.__init_subclass__"),(.ref 167)]
def i3:=dc y0 [K P t41 165 (.str t59 164),K P t11 166 .none,K P t19 167 .none,K P t21 168 (.builtin "__main__.__loader__#opaque"),K P t42 169 .none,K P t65 170 (.ref 6),K P t78 171 (.ref 4),K P t126 173 (.str t3 172),K P t100 174 .none,K P t57 275 (.ref 12)] 10
def i11:=dc y0 [K P t41 247 (.str t57 246),K P t11 248 .none,K P t19 250 (.str (T []) 249),K P t21 251 (.builtin "off-the-table:_sre.__loader__:shared#opaque"),K P t42 252 (.builtin "off-the-table:_sre.__spec__:shared#opaque"),K P t80 253 (.builtin "_sre.compile"),K P t112 254 (.builtin "off-the-table:_sre.template:shared#opaque"),K P t79 255 (.builtin "off-the-table:_sre.getcodesize:shared#opaque"),K P t74 256 (.builtin "off-the-table:_sre.ascii_iscased:shared#opaque"),K P t63 257 (.builtin "off-the-table:_sre.unicode_iscased:shared#opaque"),K P t71 258 (.builtin "off-the-table:_sre.ascii_tolower:shared#opaque"),K P t61 259 (.builtin "off-the-table:_sre.unicode_tolower:shared#opaque"),K P t188 261 (.int 20230612 260),K P t142 263 (.int 4 262),K P t127 265 (.int 4294967295 264),K P t128 267 (.int 1073741823 266),K P t66 269 (.str t26 268)] 17
noncomputable def hdK:Frag:=[(0,o0 P),(1,o1 P),(2,o2 P),(3,o3 P),(4,o4),(5,o5),(6,o6),(7,o7),(8,o8),(9,o9),(10,o10),(11,o11 P),(12,o12),(13,o13 P),(14,o14),(15,o7),(32,o7),(33,o8),(34,o34),(35,o7),(36,o36),(37,o37),(38,o38),(39,o39 P),(43,o43),(44,o44),(45,o7),(46,o8),(47,o47),(48,o7),(49,o49),(50,o50),(51,o51),(59,o59),(60,o7),(61,o8),(62,o62),(63,o7),(64,o64),(65,o65),(66,o66),(67,o67),(69,o69 P),(70,o70),(71,o71),(72,o72),(73,o73),(76,o76),(83,o7),(84,o84 P),(85,o85),(86,o86),(96,o96),(97,o7),(98,o8),(99,o99),(100,o7),(101,o101),(102,o102),(103,o103),(104,o7),(105,o8),(106,o106),(107,o7),(108,o108),(109,o109),(110,o110),(111,o7),(112,o8),(113,o113),(114,o7),(115,o115),(116,o116),(117,o117),(118,o7),(119,o8),(120,o120),(121,o121),(122,o122),(123,o7),(124,o8),(125,o125),(126,o7),(127,o127),(128,o128),(129,o129),(130,o7),(131,o8),(132,o132),(133,o7),(134,o134),(135,o135),(136,o136),(137,o7),(138,o8),(139,o139),(140,o7),(141,o141),(142,o142),(143,o143),(144,o7),(145,o8),(146,o146),(147,o7),(148,o148),(149,o149),(150,o150),(151,o7),(152,o8),(153,o153),(154,o7),(155,o155),(156,o156),(157,o157),(158,o7),(159,o8),(160,o160),(161,o7),(162,o162),(163,o163),(164,o164),(165,o165),(166,o166 P),(167,o167),(168,o168),(169,o169),(172,o7),(173,o8),(174,o174),(175,o7),(176,o176),(177,o177),(178,o178),(179,o7),(180,o8),(181,o181),(182,o7),(183,o183),(184,o184),(185,o185),(186,o7),(187,o8),(188,o188),(189,o7),(190,o190),(191,o191),(192,o192),(193,o7),(194,o8),(195,o195),(196,o7),(197,o197),(198,o198),(199,o199),(200,o7),(201,o8),(202,o202),(203,o203),(204,o204),(205,o7),(206,o8),(207,o207),(208,o208),(209,o209),(210,o7),(211,o8),(212,o212),(213,o213),(214,o214)]
noncomputable def hdAs:List Nat:=[0,1,2,3,4,5,6,7,8,9,10,11,12,13,14,15,32,33,34,35,36,37,38,39,43,44,45,46,47,48,49,50,51,59,60,61,62,63,64,65,66,67,69,70,71,72,73,76,83,84,85,86,96,97,98,99,100,101,102,103,104,105,106,107,108,109,110,111,112,113,114,115,116,117,118,119,120,121,122,123,124,125,126,127,128,129,130,131,132,133,134,135,136,137,138,139,140,141,142,143,144,145,146,147,148,149,150,151,152,153,154,155,156,157,158,159,160,161,162,163,164,165,166,167,168,169,172,173,174,175,176,177,178,179,180,181,182,183,184,185,186,187,188,189,190,191,192,193,194,195,196,197,198,199,200,201,202,203,204,205,206,207,208,209,210,211,212,213,214]
noncomputable def hdT:KT:=(N (o0 P) (N (o1 P) (N (o3 P) (N o7 (N o7 (.node none (N o7 (F o127) (F o191)) (.node none (F o8) .nil)) (N o47 (.node none (F o143) (F o207)) (N o7 (F o7) .nil))) (.node none (N (o39 P) (N o71 (F o135) (F o199)) (N o103 (F o167) .nil)) (.node none (.node none (F o7) .nil) (N o8 (F o183) .nil)))) (N (o11 P) (.node none (N o7 (N o67 (F o8) (F o195)) (N o99 (F o163) .nil)) (N o51 (N o7 (F o7) (F o8)) (N o115 (F o7) .nil))) (.node none (N o43 (.node none (F o139) (F o203)) (F o7)) (N o59 (.node none (F o155) .nil) (N o7 (F o8) .nil))))) (N o5 (N o9 (.node none (N o8 (N o65 (F o129) (F o7)) (N o7 (F o7) .nil)) (N o49 (.node none (F o8) (F o209)) (N o113 (F o177) .nil))) (.node none (.node none (N o73 (F o7) (F o8)) (N o8 (F o169) .nil)) (.node none (.node none (F o153) .nil) (N o121 (F o185) .nil)))) (N (o13 P) (.node none (N o37 (N (o69 P) (F o7) (F o197)) (N o101 (F o165) .nil)) (.node none (N o85 (F o149) (F o213)) (N o117 (F o181) .nil))) (.node none (N o7 (.node none (F o141) (F o7)) (N o109 (F o8) .nil)) (N o8 (.node none (F o157) .nil) (N o125 (F o7) .nil)))))) (N (o2 P) (N o4 (N o8 (.node none (N o7 (N o64 (F o128) (F o192)) (N o96 (F o160) .nil)) (N o7 (.node none (F o7) (F o208)) (N o8 (F o176) .nil))) (.node none (.node none (N o72 (F o136) (F o7)) (N o7 (F o168) .nil)) (.node none (.node none (F o8) .nil) (N o120 (F o184) .nil)))) (N o12 (.node none (N o36 (.node none (F o132) (F o7)) (N o7 (F o164) .nil)) (.node none (N (o84 P) (F o148) (F o212)) (N o116 (F o8) .nil))) (.node none (N o44 (N o76 (F o7) (F o204)) (N o108 (F o7) .nil)) (N o7 (.node none (F o156) .nil) (N o8 (F o188) .nil))))) (N o6 (N o10 (.node none (N o34 (N o66 (F o7) (F o8)) (N o8 (F o162) .nil)) (N o50 (.node none (F o146) (F o7)) (N o7 (F o178) .nil))) (.node none (.node none (.node none (F o8) (F o202)) (F o106)) (.node none (.node none (F o7) .nil) (N o122 (F o7) .nil)))) (N o14 (.node none (N o38 (N o70 (F o134) (F o198)) (N o102 (F (o166 P)) .nil)) (.node none (N o86 (F o150) (F o214)) (N o7 (F o7) .nil))) (.node none (N o8 (.node none (F o142) (F o8)) (N o110 (F o174) .nil)) (N o62 (.node none (F o7) .nil) (N o7 (F o190) .nil)))))))
noncomputable def hd0:Heap:=⟨⟨[boot_o_0 P,o1 P,o2 P,i3 P,boot_o_4 P,boot_o_5 P,boot_o_6 P,boot_o_7 P,boot_o_8 P,boot_o_9 P,boot_o_10 P,i11 P,o12,o13 P,o14,o7,o16,o17,o18,o19,o20 P,o21 P,o22,o23,o24,o25,o26,o27]⟩,⟨[],[],[],0,[],[],false,⟨[]⟩,[],0,false,false,false,0,[2000,10,10],false,0,true,[],[],0,false⟩⟩
noncomputable def hd1:Heap:=⟨⟨[o0 P,o1 P,o2 P,o3 P,o4,o5,o6,o7,o8,o9,o10,o11 P,o12,o13 P,o14,o7,o16,o17,o18,o19,o20 P,o21 P,o22,o23,o24,o25,o26,o27,o7,o29,o30,o31,o7,o8,o34,o7,o36,o37,o38,o39 P,o40,o6,o42,o43,o44,o7,o8,o47,o7,o49,o50,o51,o7,o53,o54 P,o7,o56,o57,o58,o59,o7,o8,o62,o7,o64,o65,o66,o67,o68,o69 P,o70,o71,o72,o73,o74,o75,o76,o53,o78 P,o7,o8,o81,o82,o7,o84 P,o85,o86,o87,o88,o7,o53,o91 P,o7,o93,o94,o95,o96,o7,o8,o99,o7,o101,o102,o103,o7,o8,o106,o7,o108,o109,o110,o7,o8,o113,o7,o115,o116,o117,o7,o8,o120,o121,o122,o7,o8,o125,o7,o127,o128,o129,o7,o8,o132,o7,o134,o135,o136,o7,o8,o139,o7,o141,o142,o143,o7,o8,o146,o7,o148,o149,o150,o7,o8,o153,o7,o155,o156,o157,o7,o8,o160,o7,o162,o163,o164,o165,o166 P,o167,o168,o169,o170,o171,o7,o8,o174,o7,o176,o177,o178,o7,o8,o181,o7,o183,o184,o185,o7,o8,o188,o7,o190,o191,o192,o7,o8,o195,o7,o197,o198,o199,o7,o8,o202,o203,o204,o7,o8,o207,o208,o209,o7,o8,o212,o213,o214]⟩,⟨[],[],[],0,[],[],false,⟨[]⟩,[],0,false,false,false,0,[2000,10,10],false,0,true,[],[],0,false⟩⟩
end Hd
end
def ktOf:Params->KT:=Mine.Hd.hdT
noncomputable def prg:Program:=PySem.Challenge.rw_op0175_01.row.prog
abbrev Oc:=(Cx->Ct)×List Nat
structure Rs where
 ct:Ct
 tt:Nat:=0
 ors:List Oc:=[]
def cfOf (P:Params) (frs:Option (List Env)) (tt D U:Nat) (zr:List (Nat×Obj)):Cf:=⟨ktOf P,⟨prg,pF P true⟩,⟨prg,pF P false⟩,frs,tt,D,U,zr,λ_=>[]⟩
def orsOf:List Oc->List (Cx->Orc)
 |[]=>[]
 |p::l=>(λx=>(p.1 x).orc p.2)::orsOf l
def nsAt (l:List Ns) (i:Nat):Ns:=l.getD i Ns.nil
def tk (l:List Ns) (i:Nat):Nat:=(nsAt l i).n.headD 0
def runOf (s:Rs) (P:Params) (D U n:Nat) (tr cs:List Nat) (h0:Option Value) (tok:Nat) (sup:List Nat) (nss:List Ns):Out:=
 runCt (cfOf P s.ct.frs s.tt D U s.ct.zpre) s.ct h0 n tr cs (orsOf s.ors) tok sup nss
def EqH:Option (Option Value)->(Option Value->Prop)->Prop
 |none,P=>∀h0,P h0
 |some v,P=>P v
def EqOf (s:Rs) (P:Params) (D U n nsup nnss:Nat) (idx tr cs:List Nat) (asf:Nat->List Nat->List Ns->List Nat) (nsf:Nat->List Nat->List Ns->Ns) (psf:Nat->List Ns->List Ns):Prop:=
 EqH s.ct.hd λh0=>∀tok,AllB nsup λsup=>AllL nnss λnss=>sigL (runOf s P D U n tr cs h0 tok sup nss) s.ct.pre.length idx=sigR (runOf s P D U n tr cs h0 tok sup nss) s.ct (asf tok sup nss) (nsf tok sup nss) (psf tok nss)
def LimOk (kt:KT):Prop:=∀h:Heap,(∀b o,b<216->kt.get b=some o->h.get? b=some o)->h.NoLimit
def OraOk (w:World) (D U:Nat) (F:List Ns->Prop) (p:Oc):Prop:=
 p.2.Nodup/\∀x:Cx,F x.pns->((p.1 x).pre.length=p.2.length/\(∀q∈(p.1 x).zpre,q∈zs x.pns)/\((∀a∈x.ad,216<=a)->(p.1 x).Ok (ktOf w.params) prg w (D+60) (U+300)))
def AllO (w:World) (D U:Nat):(List Ns->Prop)->List Oc->Prop
 |_,[]=>True
 |F,p::l=>OraOk w D U F p/\AllO w D U (Fn F λx=>(p.1 x).orc p.2) l
theorem orsOf_ok {w:World} {D U:Nat} {C:Cf} {V:XV} {hb:Heap} {ad0:List Nat} {Z0:List (Nat×Obj)} {gens:Array GenState} (hC:C.kt=ktOf w.params) (hg:C.gr=λ_=>[]) (hp:V.prog=prg) (hw:V.w=w) (hD:V.A₀.depth<=D) (hU:V.A₀.units<=U):
  ∀l F,AllO w D U F l->OrsOk V C hb ad0 Z0 gens F (orsOf l)
 |[],_,_=>trivial
 |p::l,F,⟨⟨h1,h2⟩,h4⟩=>by
  refine ⟨λx hx=>?_,orsOf_ok hC hg hp hw hD hU l _ h4⟩;obtain ⟨h3,h6,h5⟩:=h2 x hx;refine orc_of_ct (kt:=ktOf w.params) (D:=D+60) (U:=U+300) p.1 p.2 x hC h1 h3 (by lia) (by lia) h6 (λ_=>by rw [hg]) λha=>?_;rw [hp,hw];exact h5 ha
theorem ok_of_eq {s:Rs} {w:World} {D U n nsup nnss:Nat} {idx tr cs:List Nat} {asf:Nat->List Nat->List Ns->List Nat} {nsf:Nat->List Nat->List Ns->Ns} {psf:Nat->List Ns->List Ns}
  (lim:LimOk (ktOf w.params)) (e:EqOf s w.params D U n nsup nnss idx tr cs asf nsf psf) (hors:∀tok,AllO w D U (F0 tok s.ct.zpre) s.ors)
  (hi:idx.Nodup) (hi2:∀j∈idx,s.ct.pre.length<=j) (hk:idx.length=s.ct.k) (hnb:∀as ns,(s.ct.fo as ns).ok=true)
  (hadd:(addAll (s.ct.pre.map (·.2)) (s.ct.pre.map (·.1)) .nil 0 []).isSome=true)
  (hfs:∀tok sup nss,Ff (F0 tok s.ct.zpre) (orsOf s.ors) (psf tok nss)->s.ct.fact (asf tok sup nss) (nsf tok sup nss)) (hzs:∀tok sup nss,∀p∈(nsf tok sup nss).z,p∈zs (psf tok nss)):s.ct.Ok (ktOf w.params) prg w D U:=
 ct_of_run (tt:=s.tt) lim asf nsf psf hi hi2 hk hnb hadd (λ_ _ _ _ tok hp hw hD hU=>orsOf_ok rfl rfl hp hw hD hU s.ors _ (hors tok)) hfs hzs (λh0 hh=>by
  unfold EqOf EqH at e;cases hd:s.ct.hd with
  |none=>rw [hd] at e;exact e h0
  |some v=>rw [hd] at e;rw [hh v hd];exact e)
theorem F0_z {tok:Nat} {Z:List (Nat×Obj)} {l:List Ns} (h:F0 tok Z l):∀q∈Z,q∈zs l:=λq hq=>by
 rw [show l=_ from h];unfold zs;simpa using hq
theorem F0_len {tok:Nat} {Z:List (Nat×Obj)} {l:List Ns} (h:F0 tok Z l):l.length=1:=by rw [show l=_ from h];rfl
theorem Fn_len {F:List Ns->Prop} {f:Cx->Orc} {n:Nat} (h0:∀l,F l->l.length=n) (l:List Ns) (h:Fn F f l):l.length=n+1:=by
 obtain ⟨x,as,ns,e,h1,-,-⟩:=h;rw [e,jZ,h0 _ h1];rfl
theorem Fn_at {F:List Ns->Prop} {f:Cx->Orc} {n:Nat} (h0:∀l,F l->l.length=n) {l:List Ns} (h:Fn F f l):∃x as,F x.pns/\l=x.pns++[nsAt l n]/\as.length=(f x).k/\(f x).fact as (nsAt l n):=by
 obtain ⟨x,as,ns,e,h1,h2,h3⟩:=h;have hl:=h0 _ h1;have:nsAt l n=ns:=by unfold nsAt;rw [e,zY,<-hl];simp
 rw [this];exact ⟨x,as,h1,e,h2,h3⟩
theorem nsAt_z {l:List Ns} {i:Nat} (h:i<l.length):∀q∈(nsAt l i).z,q∈zs l:=λq hq=>by
 unfold zs;refine mem_flatMap.mpr ⟨nsAt l i,?_,hq⟩;unfold nsAt;rw [zY,zQ h];exact getElem_mem h
theorem nsAt_append {l l':List Ns} {i:Nat} (h:i<l.length):nsAt (l++l') i=nsAt l i:=by
 unfold nsAt;rw [zY,zY,vv h]
theorem pick_sub {ix:List Nat} {Z:List (Nat×Obj)}:∀q∈Mine.pick ix Z,q∈Z:=λq hq=>by
 obtain ⟨i,-,hi⟩:=mem_filterMap.mp hq;exact jy hi
noncomputable def ctVal (c:Code) (v:Value):Ct:={code:=c,pre:=[],k:=0,fo:=λ_ _=> .ret (.ok (.ret v)),post:=λ_ _=>[],news:=λ_ _=>[],fact:=λ_ _=>True}
noncomputable def trD (k n:Nat):List Nat:=Nat.rec (motive:=λ_=>Nat->List Nat) (λ_=>[]) (λ_ ih n=>(cond (Nat.ble 48 (Nat.mod n 64)) (Nat.add (Nat.mod n 64) 953) (Nat.mod n 64))::ih (Nat.div n 64)) k n
def FsAt (l:List Ns):Nat->List Oc->Prop
 |_,[]=>True
 |n,p::ps=>(∃x as,as.length=(p.1 x).k/\(p.1 x).fact as (nsAt l n))/\FsAt l (n+1) ps
def FOf:(List Ns->Prop)->List Oc->List Ns->Prop
 |F,[]=>F
 |F,p::ps=>FOf (Fn F λx=>(p.1 x).orc p.2) ps
theorem facts_of {l:List Ns}:∀(ps:List Oc) (F:List Ns->Prop) (n:Nat),(∀l,F l->l.length=n)->FOf F ps l->(∃l0 l1,F l0/\l=l0++l1)/\FsAt l n ps
 |[],F,n,_,h=>⟨⟨l,[],h,by simp⟩,trivial⟩
 |p::ps,F,n,hn,h=>by
  obtain ⟨⟨l0,l1,h0,e⟩,h2⟩:=facts_of ps _ (n+1) (Fn_len hn) h;obtain ⟨x,as,h3,e2,h4,h5⟩:=Fn_at hn h0;have hl:=hn _ h3;refine ⟨⟨x.pns,nsAt l0 n::l1,h3,by rw [e];exact (jk (·++l1) e2).trans (by rw [jV];rfl)⟩,⟨x,as,h4,?_⟩,h2⟩;rw [e,nsAt_append (by rw [Fn_len hn _ h0];lia)];exact h5
theorem facts_at {tok:Nat} {Z:List (Nat×Obj)} {l:List Ns} (ps:List Oc) (h:FOf (F0 tok Z) ps l):FsAt l 1 ps:=(facts_of ps _ 1 (λ_ h=>F0_len h) h).2
theorem zs_at {tok:Nat} {Z:List (Nat×Obj)} {l:List Ns} (ps:List Oc) (h:FOf (F0 tok Z) ps l):∀q∈Z,q∈zs l:=λq hq=>by
 obtain ⟨⟨l0,l1,h0,e⟩,-⟩:=facts_of ps _ 1 (λ_ h=>F0_len h) h;have:=F0_z h0 q hq;rw [e];unfold zs at this⊢;rw [flatMap_append];exact jj _ this
theorem zno {Z:List (Nat×Obj)}:∀q∈([]:List (Nat×Obj)),q∈Z:=λ_ h=>nomatch h
noncomputable def ndB:List Nat->Bool
 |[]=>true
 |a::l=>(!l.elem a)&&ndB l
theorem ndB_nodup:∀{l:List Nat},ndB l=true->l.Nodup
 |[],_=>nodup_nil
 |a::l,h=>by
  unfold ndB at h;rw [kj] at h;refine vX.mpr ⟨λhm=>?_,ndB_nodup h.2⟩;have:=h.1;simp [hm] at this
def dfo:Oc:=(λ_=>ctVal (.builtin "" ⟨[],[]⟩) .none,[])
theorem FOf_snoc:∀(ps:List Oc) (F:List Ns->Prop) (p:Oc),FOf F (ps++[p])=Fn (FOf F ps) (λx=>(p.1 x).orc p.2)
 |[],_,_=>rfl
 |_::ps,F,p=>FOf_snoc ps _ p
theorem fact_one {tok:Nat} {Z:List (Nat×Obj)} {l:List Ns} (ps:List Oc) (h:FOf (F0 tok Z) ps l) (k:Nat) (hk:(ps[k]?).isSome=true):∃x as,as.length=((ps.getD k dfo).1 x).k/\((ps.getD k dfo).1 x).fact as (nsAt l (k+1)):=by
 have:∀(ps:List Oc) (n k:Nat),FsAt l n ps->(ps[k]?).isSome=true->∃x as,as.length=((ps.getD k dfo).1 x).k/\((ps.getD k dfo).1 x).fact as (nsAt l (n+k)):=by
  intro ps;induction ps with
  |nil=>intro n k _ h;cases k<;>cases h
  |cons p ps ih=>
   intro n k hf h;obtain ⟨hf1,hf2⟩:=hf;cases k with
   |zero=>exact hf1
   |succ k=>
    have:=ih (n+1) k hf2 h;rw [show n+(k+1)=n+1+k from by lia];exact this
 have:=this ps 1 k (facts_at ps h) hk;rw [Nat.add_comm] at this;exact this
def OraI (w:World) (D U tok:Nat) (Z:List (Nat×Obj)) (ps:List Oc) (i:Nat):Prop:=
 ndB (ps.getD i dfo).2=true/\∀x:Cx,FOf (F0 tok Z) (ps.take i) x.pns->(((ps.getD i dfo).1 x).pre.length=(ps.getD i dfo).2.length/\(∀q∈((ps.getD i dfo).1 x).zpre,q∈zs x.pns)/\((∀a∈x.ad,216<=a)->((ps.getD i dfo).1 x).Ok (ktOf w.params) prg w (D+60) (U+300)))
def AllI (w:World) (D U tok:Nat) (Z:List (Nat×Obj)) (ps:List Oc):Nat->Nat->Prop
 |_,0=>True
 |i,n+1=>OraI w D U tok Z ps i/\AllI w D U tok Z ps (i+1) n
theorem allO_of {w:World} {D U tok:Nat} {Z:List (Nat×Obj)} {ps:List Oc}:∀(n i:Nat),i+n=ps.length->AllI w D U tok Z ps i n->AllO w D U (FOf (F0 tok Z) (ps.take i)) (ps.drop i)
 |0,i,h,_=>by rw [drop_of_length_le (by lia)];trivial
 |n+1,i,h,H=>by
  have hi:i<ps.length:=by lia
  rw [drop_eq_getElem_cons hi];have e:ps.getD i dfo=ps[i]:=by rw [zY,zQ hi];rfl
  obtain ⟨h1,h2⟩:=H.1;rw [e] at h1 h2;have H2:=allO_of n (i+1) (by lia) H.2;rw [take_add_one,zQ hi,Option.toList_some,FOf_snoc] at H2;exact ⟨⟨ndB_nodup h1,h2⟩,H2⟩
theorem FOf_of {l:List Ns}:∀{ps:List Oc} {F:List Ns->Prop},Ff F (orsOf ps) l->FOf F ps l
 |[],_,h=>h
 |_::ps,_,h=>FOf_of (ps:=ps) h
theorem ok_of {s:Rs} {w:World} {D U n nsup nnss:Nat} {idx tr cs:List Nat} {asf:Nat->List Nat->List Ns->List Nat} {nsf:Nat->List Nat->List Ns->Ns} {psf:Nat->List Ns->List Ns}
  (lim:LimOk (ktOf w.params)) (e:EqOf s w.params D U n nsup nnss idx tr cs asf nsf psf) (hors:∀tok,AllI w D U tok s.ct.zpre s.ors 0 s.ors.length)
  (hi:ndB idx=true) (hi2:idx.all (λj=>Nat.ble s.ct.pre.length j)=true) (hk:idx.length=s.ct.k) (hnb:∀as ns,(s.ct.fo as ns).ok=true)
  (hadd:(addAll (s.ct.pre.map (·.2)) (s.ct.pre.map (·.1)) .nil 0 []).isSome=true)
  (hfs:∀tok sup nss,FOf (F0 tok s.ct.zpre) s.ors (psf tok nss)->s.ct.fact (asf tok sup nss) (nsf tok sup nss)) (hzs:∀tok sup nss,∀p∈(nsf tok sup nss).z,p∈zs (psf tok nss)):s.ct.Ok (ktOf w.params) prg w D U:=
 ok_of_eq lim e (λtok=>allO_of s.ors.length 0 (Nat.zero_add _) (hors tok)) (ndB_nodup hi) (λj hj=>zx (vy.mp hi2 j hj)) hk hnb hadd (λtok sup nss h=>hfs tok sup nss (FOf_of h)) hzs
def Ct.orcG (c:Ct) (pm:List (Nat×Obj)) (ix:List Nat):Orc:=⟨c.code,c.hd,c.frs,zipPre ix pm,0,λ_ ns=>c.fo [] ns,λ_ ns=>zipPost ix ((c.post [] ns).take ix.length),λ_ _=>[],λ_ ns=>∃as,as.length=c.k/\c.fact as ns⟩
theorem orc_of_ctG {kt:KT} {V:XV} {C:Cf} {hb:Heap} {ad0:List Nat} {Z0:List (Nat×Obj)} {gens:Array GenState} {D U:Nat} (cf:Cx->Ct) (pf:Cx->List (Nat×Obj)) (ix:List Nat) (x:Cx) (hkt:C.kt=kt) (hix:ix.Nodup)
  (hpre:(cf x).pre=pf x++C.gr x.pns) (hlen:(pf x).length=ix.length) (hD:V.A₀.depth+60<=D) (hU:V.A₀.units+300<=U)
  (hzp:∀p∈(cf x).zpre,p∈zs x.pns) (hpo:∀as ns,(cf x).post as ns=(cf x).post [] ns) (hfo:∀as ns,(cf x).fo as ns=(cf x).fo [] ns)
  (hgr:∀as ns,as.length=(cf x).k->(cf x).fact as ns->C.gr (x.pns++[ns])=((C.gr x.pns).map (·.1)).zip (((cf x).post [] ns).drop ix.length)++as.zip ((cf x).news as ns))
  (ok:(∀a∈x.ad,216<=a)->(cf x).Ok kt V.prog V.w D U):OrcOk V C hb ad0 Z0 gens (λx=>(cf x).orcG (pf x) ix) x:=by
 intro A hdA huA h m tok R hh hfr I ep K;subst hkt;have ok:=ok λa ha=>(I.lt a ha).1;have W:Ow x.T x.ad (pf x) ix:=⟨hix,hlen,λk i p h1 h2=>ep _ (zipPre_at h1 h2)⟩
 have g:Gw hb h ad0 x.ad (zs x.pns) (C.gr x.pns):=⟨I.grp,I.gnd⟩
 refine ok A (λv hv=>hh v hv) (λl hl=>hfr l hl) (zZ (by exact hdA) hD) (zZ (by exact huA) hU) h gens V.d tok V.os R (by rw [hpre];exact W.st0 I g hzp) λh' as ns hk S1 hfa=>?_;have gr:=hgr as ns hk hfa;rw [hpre,hpo] at S1;rw [hfo];have pl:=S1.plen;rw [jZ,hlen] at pl;have tl:(((cf x).post [] ns).take ix.length).length=ix.length:=by rw [length_take,pl];exact Nat.min_eq_left (Nat.le_add_right ..)
 have z1:(((C.gr x.pns).map (·.1)).zip (((cf x).post [] ns).drop ix.length)).map (·.1)=(C.gr x.pns).map (·.1):=map_fst_zip (by rw [zJ,length_drop,pl,Nat.add_sub_cancel_left];exact jv _);have z2:(as.zip ((cf x).news as ns)).map (·.1)=as:=map_fst_zip (Nat.le_of_eq S1.nlen.symm);have S2:=S1;rw [<-take_append_drop ix.length ((cf x).post [] ns)] at S2;refine K h' [] ns rfl (λa ha=>nomatch ha) (λr _ hadd=>?_) ⟨as,hk,hfa⟩;obtain rfl:(putAll (zipPost ix (((cf x).post [] ns).take ix.length)) x.T,m,x.ad)=r:=kU hadd;refine W.inv I g hzp S2 tl (zsa ..) (λp hp=>?_) ?_
 ·rw [gr] at hp
  rcases jq.mp hp with hp|hp
  ·obtain ⟨i,hi⟩:=getElem?_of_mem hp
   rw [vW,getElem?_drop,vU] at hi;obtain ⟨q,hq,e⟩:=Option.map_eq_some_iff.mp hi.1;obtain ⟨x1,x2,x3,x4,x5⟩:=I.grp q (jy hq);rw [<-e];refine ⟨S1.here (ix.length+i) q p.2 (by rw [<-hlen,vV (Nat.le_add_right ..),Nat.add_sub_cancel_left];exact hq) hi.2,x2,x3,x4,λy hy=>?_⟩;rw [zsa] at hy;rcases jq.mp hy with hy|hy
   ·exact x5 y hy
   ·exact λe=>(S1.z y hy).2.1 (by rw [e,zU];exact jz _ (zW (jy hq)))
  ·have ha:p.1∈as:=z2▸zW hp
   have hf:=S1.fresh _ ha;obtain ⟨i,hi⟩:=getElem?_of_mem hp;rw [vW] at hi;refine ⟨S1.new i _ _ hi.1 hi.2,λhm=>absurd (I.lt _ hm).2 (vQ.mpr hf),zZ (zZ I.big I.grow) hf,.inr (zZ I.grow hf),λq hq e=>?_⟩;rw [zsa] at hq;rcases jq.mp hq with hq|hq
   ·exact absurd (kY (I.frz q hq).1) (vQ.mpr (e▸hf))
   ·exact (S1.z q hq).2.2.1 (e▸ha)
 ·rw [gr,zU,z1,z2]
  refine kX.mpr ⟨I.gnd,S1.nd,λa ha b hb e=>?_⟩;obtain ⟨p,hp,rfl⟩:=ky.mp ha;exact absurd (kY (I.grp p hp).1) (vQ.mpr (e▸S1.fresh b hb))
def cfOfG (P:Params) (frs:Option (List Env)) (tt D U:Nat) (zr:List (Nat×Obj)) (gr:List Ns->List (Nat×Obj)):Cf:=⟨ktOf P,⟨prg,pF P true⟩,⟨prg,pF P false⟩,frs,tt,D,U,zr,gr⟩
noncomputable def Ct.view (c:Ct) (pm:List (Nat×Obj)):Ct:={code:=c.code,hd:=c.hd,frs:=c.frs,zpre:=c.zpre,pre:=pm,k:=0,fo:=λ_ ns=>c.fo [] ns,post:=λ_ ns=>(c.post [] ns).take pm.length,news:=λ_ _=>[],fact:=λ_ ns=>∃as,as.length=c.k/\c.fact as ns}
noncomputable def gdec (G0:List (Nat×Obj)) (ns:Ns):List (Nat×Obj):=(G0.map (·.1)++ns.n.drop 1).zip ns.o
def gr1 (j:Nat) (G0:List (Nat×Obj)) (l:List Ns):List (Nat×Obj):=match Nat.ble l.length (j+1) with
 |true=>G0
 |false=>gdec G0 (nsAt l (j+1))
theorem FOf_len {tok:Nat} {Z:List (Nat×Obj)}:∀{ps:List Oc} {F:List Ns->Prop} {n:Nat} {l:List Ns},(∀l,F l->l.length=n)->FOf F ps l->l.length=n+ps.length
 |[],_,_,_,h0,h=>h0 _ h
 |p::ps,F,n,l,h0,h=>by
  have:=FOf_len (tok:=tok) (Z:=Z) (ps:=ps) (Fn_len h0) h;rw [jY];lia
theorem gr1_n {j:Nat} {G0:List (Nat×Obj)} {l:List Ns} (h:l.length≠j+1) (ns:Ns):gr1 j G0 (l++[ns])=gr1 j G0 l:=by
 unfold gr1;rw [jZ];show (match Nat.ble (l.length+1) (j+1) with|true=>_|false=>_)=_;by_cases q:l.length<=j+1
 ·have e1:Nat.ble l.length (j+1)=true:=Nat.ble_eq.mpr q
  have e2:Nat.ble (l.length+1) (j+1)=true:=Nat.ble_eq.mpr (by lia);rw [e1,e2]
 ·have e1:Nat.ble l.length (j+1)=false:=by
   cases e:Nat.ble l.length (j+1) with
   |false=>rfl
   |true=>exact absurd (Nat.ble_eq.mp e) q
  have e2:Nat.ble (l.length+1) (j+1)=false:=by
   cases e:Nat.ble (l.length+1) (j+1) with
   |false=>rfl
   |true=>have:=Nat.ble_eq.mp e;lia
  rw [e1,e2];show gdec G0 _=gdec G0 _;rw [nsAt_append (by lia)]
theorem gr1_at {j:Nat} {G0:List (Nat×Obj)} {l:List Ns} (h:l.length=j+1):gr1 j G0 l=G0:=by
 unfold gr1;have e1:Nat.ble l.length (j+1)=true:=Nat.ble_eq.mpr (by lia);rw [e1]
theorem gr1_g {j:Nat} {G0:List (Nat×Obj)} {l:List Ns} (h:l.length=j+1) (ns:Ns):gr1 j G0 (l++[ns])=gdec G0 ns:=by
 unfold gr1;rw [jZ];have e2:Nat.ble (l.length+[ns].length) (j+1)=false:=by
  cases e:Nat.ble (l.length+[ns].length) (j+1) with
  |false=>rfl
  |true=>have:=Nat.ble_eq.mp e;rw [length_singleton] at this;lia
 rw [e2];show gdec G0 (nsAt _ _)=_;rw [<-h];unfold nsAt;rw [zY];simp
theorem gr1_end {j:Nat} {G0:List (Nat×Obj)} {l:List Ns} (h:j+1<l.length):gr1 j G0 l=gdec G0 (nsAt l (j+1)):=by
 unfold gr1;have e2:Nat.ble l.length (j+1)=false:=by
  cases e:Nat.ble l.length (j+1) with
  |false=>rfl
  |true=>have:=Nat.ble_eq.mp e;lia
 rw [e2]
def runOfG (s:Rs) (P:Params) (D U n:Nat) (tr cs:List Nat) (gr:List Ns->List (Nat×Obj)) (h0:Option Value) (tok:Nat) (sup:List Nat) (nss:List Ns):Out:=
 runCt (cfOfG P s.ct.frs s.tt D U s.ct.zpre gr) s.ct h0 n tr cs (orsOf s.ors) tok sup nss
def EqOfG (s:Rs) (P:Params) (D U n nsup nnss:Nat) (idx tr cs:List Nat) (gr:List Ns->List (Nat×Obj)) (asf:Nat->List Nat->List Ns->List Nat) (nsf:Nat->List Nat->List Ns->Ns) (psf:Nat->List Ns->List Ns):Prop:=
 EqH s.ct.hd λh0=>∀tok,AllB nsup λsup=>AllL nnss λnss=>sigL (runOfG s P D U n tr cs gr h0 tok sup nss) s.ct.pre.length idx=sigR (runOfG s P D U n tr cs gr h0 tok sup nss) s.ct (asf tok sup nss) (nsf tok sup nss) (psf tok nss)
def OrgI (w:World) (D U tok:Nat) (Z:List (Nat×Obj)) (gr:List Ns->List (Nat×Obj)) (ps:List Oc) (i:Nat):Prop:=
 ∀(V:XV) (C:Cf) (hb:Heap) (ad0:List Nat) (Z0:List (Nat×Obj)) (gens:Array GenState),C.kt=ktOf w.params->C.gr=gr->V.prog=prg->V.w=w->V.A₀.depth<=D->V.A₀.units<=U->∀x:Cx,FOf (F0 tok Z) (ps.take i) x.pns->
  OrcOk V C hb ad0 Z0 gens (λx=>((ps.getD i dfo).1 x).orc (ps.getD i dfo).2) x
def AllG (w:World) (D U tok:Nat) (Z:List (Nat×Obj)) (gr:List Ns->List (Nat×Obj)) (ps:List Oc):Nat->Nat->Prop
 |_,0=>True
 |i,n+1=>OrgI w D U tok Z gr ps i/\AllG w D U tok Z gr ps (i+1) n
theorem og_n {w:World} {D U tok:Nat} {Z:List (Nat×Obj)} {j:Nat} {G0:List (Nat×Obj)} {ps:List Oc} {i:Nat} (hij:(Nat.ble i ps.length&& !Nat.beq i j)=true) (h:OraI w D U tok Z ps i):OrgI w D U tok Z (gr1 j G0) ps i:=by
 intro V C hb ad0 Z0 gens hC hg hp hw hD hU x hx;obtain ⟨h1,h2⟩:=h;obtain ⟨h3,h6,h5⟩:=h2 x hx;have hl:=FOf_len (tok:=tok) (Z:=Z) (λ_ h=>F0_len h) hx;rw [kj] at hij;have h7:=Nat.ble_eq.mp hij.1;have h8:i≠j:=λe=>by
  have:=hij.2;rw [e] at this;simp at this
 rw [length_take] at hl;refine orc_of_ct (kt:=ktOf w.params) (D:=D+60) (U:=U+300) (ps.getD i dfo).1 (ps.getD i dfo).2 x hC (ndB_nodup h1) h3 (by lia) (by lia) h6 (λns=>by rw [hg];exact gr1_n (by lia) ns) λha=>?_;rw [hp,hw];exact h5 ha
theorem og_g {w:World} {D U tok:Nat} {Z:List (Nat×Obj)} {j:Nat} {G0:List (Nat×Obj)} {ps:List Oc} (cF:Cx->Ct) (pf:Cx->List (Nat×Obj)) (hj:Nat.ble j ps.length=true) (hv:(ps.getD j dfo).1=λx=>(cF x).view (pf x)) (hn:ndB (ps.getD j dfo).2=true)
  (hpo:∀x as ns,(cF x).post as ns=(cF x).post [] ns) (hfo:∀x as ns,(cF x).fo as ns=(cF x).fo [] ns)
  (h:∀x:Cx,FOf (F0 tok Z) (ps.take j) x.pns->(cF x).pre=pf x++G0/\(pf x).length=(ps.getD j dfo).2.length/\(∀q∈(cF x).zpre,q∈zs x.pns)/\(∀as ns,as.length=(cF x).k->(cF x).fact as ns->as=ns.n.drop 1/\(∃ex,ns.o=(((cF x).post [] ns).drop (pf x).length++(cF x).news as ns)++ex)/\(((cF x).post [] ns).drop (pf x).length).length=G0.length/\((cF x).news as ns).length=as.length)/\((∀a∈x.ad,216<=a)->(cF x).Ok (ktOf w.params) prg w (D+60) (U+300))):OrgI w D U tok Z (gr1 j G0) ps j:=by
 intro V C hb ad0 Z0 gens hC hg hp hw hD hU x hx;obtain ⟨h1,h2,h3,h4,h5⟩:=h x hx;have hl:=FOf_len (tok:=tok) (Z:=Z) (λ_ h=>F0_len h) hx;have h7:=Nat.ble_eq.mp hj;rw [length_take] at hl;have hl:x.pns.length=j+1:=by lia
 have key:=orc_of_ctG (kt:=ktOf w.params) (V:=V) (C:=C) (hb:=hb) (ad0:=ad0) (Z0:=Z0) (gens:=gens) (D:=D+60) (U:=U+300) cF pf (ps.getD j dfo).2 x hC (ndB_nodup hn) (by rw [h1,hg,gr1_at hl]) h2 (by lia) (by lia) h3 (hpo x) (hfo x) (λas ns hk hf=>by
  obtain ⟨e1,⟨ex,e2⟩,e3,e4⟩:=h4 as ns hk hf;rw [hg,gr1_g hl,gr1_at hl,<-h2];unfold gdec;rw [e2,<-e1,<-jx (G0.map (·.1)++as),zip_append (by rw [jZ,jZ,zJ,e3,e4]),zip_nil_left,jx,zip_append (by rw [zJ,e3])]) (λha=>by rw [hp,hw];exact h5 ha)
 unfold OrcOk at key⊢;have e:((ps.getD j dfo).1 x).orc (ps.getD j dfo).2=(cF x).orcG (pf x) (ps.getD j dfo).2:=by
  rw [hv];unfold Ct.orc Ct.orcG Ct.view;dsimp only
  rw [h2]
 dsimp only at key⊢
 rw [e];exact key
theorem orsG_ok {w:World} {D U tok:Nat} {Z:List (Nat×Obj)} {gr:List Ns->List (Nat×Obj)} {ps:List Oc} {C:Cf} {V:XV} {hb:Heap} {ad0:List Nat} {Z0:List (Nat×Obj)} {gens:Array GenState} (hC:C.kt=ktOf w.params) (hg:C.gr=gr) (hp:V.prog=prg) (hw:V.w=w) (hD:V.A₀.depth<=D) (hU:V.A₀.units<=U):
  ∀(n i:Nat),i+n=ps.length->AllG w D U tok Z gr ps i n->OrsOk V C hb ad0 Z0 gens (FOf (F0 tok Z) (ps.take i)) (orsOf (ps.drop i))
 |0,i,h,_=>by rw [drop_of_length_le (by lia)];trivial
 |n+1,i,h,H=>by
  have hi:i<ps.length:=by lia
  rw [drop_eq_getElem_cons hi];have e:ps.getD i dfo=ps[i]:=by rw [zY,zQ hi];rfl
  have h1:=H.1;unfold OrgI at h1;rw [e] at h1;have H2:=orsG_ok (hb:=hb) (ad0:=ad0) (Z0:=Z0) (gens:=gens) hC hg hp hw hD hU n (i+1) (by lia) H.2;rw [take_add_one,zQ hi,Option.toList_some,FOf_snoc] at H2;exact ⟨λx hx=>h1 V C hb ad0 Z0 gens hC hg hp hw hD hU x hx,H2⟩
theorem okG_of {s:Rs} {w:World} {D U n nsup nnss:Nat} {idx tr cs:List Nat} {asf:Nat->List Nat->List Ns->List Nat} {nsf:Nat->List Nat->List Ns->Ns} {psf:Nat->List Ns->List Ns} {j:Nat} {G0:List (Nat×Obj)}
  (lim:LimOk (ktOf w.params)) (e:EqOfG s w.params D U n nsup nnss idx tr cs (gr1 j G0) asf nsf psf) (hors:∀tok,AllG w D U tok s.ct.zpre (gr1 j G0) s.ors 0 s.ors.length)
  (hgf:∀tok sup nss,FOf (F0 tok s.ct.zpre) s.ors (psf tok nss)->gdec G0 (nsAt (psf tok nss) (j+1))=gdec G0 (nsf tok sup nss)/\G0.length<=(nsf tok sup nss).o.length/\j+1<(psf tok nss).length)
  (hi:ndB idx=true) (hi2:idx.all (λj=>Nat.ble s.ct.pre.length j)=true) (hk:idx.length=s.ct.k) (hnb:∀as ns,(s.ct.fo as ns).ok=true)
  (hadd:(addAll (s.ct.pre.map (·.2)) (s.ct.pre.map (·.1)) .nil 0 []).isSome=true)
  (hfs:∀tok sup nss,FOf (F0 tok s.ct.zpre) s.ors (psf tok nss)->s.ct.fact (asf tok sup nss) (nsf tok sup nss)) (hzs:∀tok sup nss,∀p∈(nsf tok sup nss).z,p∈zs (psf tok nss)):s.ct.OkG (ktOf w.params) prg w D U G0 (λ_ ns=>gdec G0 ns):=
 ct_of_runG (tt:=s.tt) lim asf nsf psf (gr1 j G0) G0 (λ_ ns=>gdec G0 ns) (λ_=>by unfold gr1;have:Nat.ble 1 (j+1)=true:=Nat.ble_eq.mpr (by lia);rw [length_singleton,this])
  (λtok sup nss h=>by obtain ⟨a,b,c⟩:=hgf tok sup nss (FOf_of h);rw [gr1_end c];exact a)
  (λtok sup nss h a ha=>by
   obtain ⟨-,b,-⟩:=hgf tok sup nss (FOf_of h);unfold gdec;obtain ⟨i,hi,e⟩:=qj.mp ha;rw [zJ] at hi;refine ky.mpr ⟨(a,(nsf tok sup nss).o[i]),jy (i:=i) ?_,rfl⟩;rw [vW];refine ⟨?_,zQ _⟩;rw [vv (by rw [zJ];exact hi),zQ (by rw [zJ];exact hi),e])
  (ndB_nodup hi) (λj hj=>zx (vy.mp hi2 j hj)) hk hnb hadd
  (λV hb ad0 gens tok hp hw hD hU=>orsG_ok (tok:=tok) (Z:=s.ct.zpre) rfl rfl hp hw hD hU s.ors.length 0 (Nat.zero_add _) (hors tok)) (λtok sup nss h=>hfs tok sup nss (FOf_of h)) hzs (λh0 hh=>by
  unfold EqOfG EqH at e;cases hd:s.ct.hd with
  |none=>rw [hd] at e;exact e h0
  |some v=>rw [hd] at e;rw [hh v hd];exact e)
theorem Ct.OkG.full {c d:Ct} {kt:KT} {w:World} {D U:Nat} {G0:List (Nat×Obj)} (H:c.OkG kt prg w D U G0 (λ_ ns=>gdec G0 ns)) (h1:d.code=c.code) (h2:d.hd=c.hd) (h3:d.frs=c.frs) (h4:d.zpre=c.zpre) (h5:d.pre=c.pre++G0)
  (h6:∀as ns,as.length=c.k->(c.post as ns).length=c.pre.length->c.fact as ns->G0.length+(ns.n.drop 1).length<=ns.o.length/\(as++ns.n.drop 1).length=d.k/\d.post (as++ns.n.drop 1) ns=c.post as ns++ns.o.take G0.length/\d.news (as++ns.n.drop 1) ns=c.news as ns++(ns.o.drop G0.length).take (ns.n.drop 1).length/\d.fo (as++ns.n.drop 1) ns=c.fo as ns/\d.fact (as++ns.n.drop 1) ns):d.Ok kt prg w D U:=by
 intro A hA hF hD hU h gens dr tok os R S0 K;rw [h1];refine H A (h2▸hA) (h3▸hF) hD hU h gens dr tok os R (by rw [<-h4,<-h5];exact S0) λh' as ns hk S1 hf=>?_;obtain ⟨g1,g3,g4,g5,g6,g7⟩:=h6 as ns hk S1.plen hf;have lk:(ns.n.drop 1).length<=(ns.o.drop G0.length).length:=by have:=length_drop (i:=G0.length) (l:=ns.o);lia
 have:=S1.full (po:=ns.o.take G0.length) (gas:=ns.n.drop 1) (gno:=(ns.o.drop G0.length).take (ns.n.drop 1).length) (by
  show (G0.map (·.1)++ns.n.drop 1).zip ns.o=_;conv=>lhs;rw [<-take_append_drop G0.length ns.o]
  rw [zip_append (by rw [zJ,length_take];lia)];conv=>lhs;rw [<-take_append_drop (ns.n.drop 1).length (ns.o.drop G0.length),<-jx (ns.n.drop 1)]
  rw [zip_append (by rw [jx,length_take];lia),zip_nil_left,jx,jx]) (by rw [length_take];lia) (by rw [length_take];lia)
 rw [<-g6];refine K h' (as++ns.n.drop 1) ns g3 ?_ g7;rw [h4,h5,g4,g5];exact this
theorem facts_of2 {l:List Ns}:∀(ps:List Oc) (F:List Ns->Prop) (n:Nat),(∀l,F l->l.length=n)->FOf F ps l->∀(k:Nat),(ps[k]?).isSome=true->∃x as,x.pns=l.take (n+k)/\as.length=((ps.getD k dfo).1 x).k/\((ps.getD k dfo).1 x).fact as (nsAt l (n+k))
 |[],_,_,_,_,k,hk=>by cases k<;>cases hk
 |p::ps,F,n,hn,h,0,hk=>by
  obtain ⟨⟨l0,l1,h0,e⟩,-⟩:=facts_of ps _ (n+1) (Fn_len hn) h;obtain ⟨x,as,h3,e2,h4,h5⟩:=Fn_at hn h0;have hl:=hn _ h3;refine ⟨x,as,?_,h4,?_⟩
  ·rw [e]
   have:l0++l1=x.pns++([nsAt l0 n]++l1):=(jk (·++l1) e2).trans (jV ..);rw [this,Nat.add_zero,<-hl,qz]
  ·rw [e,Nat.add_zero,nsAt_append (by rw [Fn_len hn _ h0];lia)]
   exact h5
 |p::ps,F,n,hn,h,k+1,hk=>by
  have:=facts_of2 ps _ (n+1) (Fn_len hn) h k hk;rw [show n+(k+1)=n+1+k from by lia];exact this
theorem fact_two {tok:Nat} {Z:List (Nat×Obj)} {l:List Ns} (ps:List Oc) (h:FOf (F0 tok Z) ps l) (k:Nat) (hk:(ps[k]?).isSome=true):∃x as,x.pns=l.take (k+1)/\as.length=((ps.getD k dfo).1 x).k/\((ps.getD k dfo).1 x).fact as (nsAt l (k+1)):=by
 have:=facts_of2 ps _ 1 (λ_ h=>F0_len h) h k hk;rw [Nat.add_comm] at this;exact this
section
noncomputable def strK (l:List DictEntry):Bool:=l.all λe=>match e.key with| .str _ _=>true|_=>false
theorem strK_ok {l:List DictEntry} (h:strK l=true):StrKeys ⟨l⟩:=λe he=>by
 have:=vy.mp h e (by simpa using he);split at this
 ·exact ⟨_,_,‹_›⟩
 ·cases this
theorem lim_at {kt:KT} {o:Obj} {l:List DictEntry} {n:Nat} (h:kt.get cStatics=some o) (hd:o.data= .dict ⟨l⟩ n) (hk:strK l=true) (hn:nsFind ⟨l⟩ "sys.recursionlimit"=none):LimOk kt:=λhp hh=>
 ⟨nsFind ⟨l⟩,⟨o,⟨l⟩,n,hh _ _ (by decide) h,hd,strK_ok hk,λ_=>rfl⟩,hn⟩
theorem limA (P:Params):LimOk (ktOf P):=lim_at (o:=Mine.Hd.o2 P) (by kernel_rfl) rfl (by kernel_rfl) (by kernel_rfl)
theorem Ct.Ok.m {c:Ct} {kt:KT} {prog:Program} {w:World} {D U D' U':Nat} (h:c.Ok kt prog w D U) (e:(Nat.ble D' D&&Nat.ble U' U)=true:=by rfl):c.Ok kt prog w D' U':=by
 rw [kj] at e;exact h.mono (zx e.1) (zx e.2)
noncomputable abbrev Ns.g (s:Ns) (i:Nat):Nat:=s.n.getD i 0
noncomputable abbrev Ns.t (s:Ns):Nat:=s.n.headD 0
noncomputable abbrev Ns.w (s:Ns) (i:Nat):Value:=s.v.getD i .none
noncomputable abbrev Ns.p (s:Ns) (i:Nat):Obj:=s.o.getD i default
abbrev Cx.s (X:Cx) (i:Nat):Ns:=nsAt X.pns i
abbrev Cx.t (X:Cx) (i:Nat):Nat:=tk X.pns i
noncomputable abbrev Cx.a (X:Cx) (i:Nat):Nat:=X.ad.getD i 0
noncomputable abbrev Cx.b (X:Cx) (i:Nat):Nat:=X.ad.getD i 0-216
structure Sp where
 c:Code
 hd:Option (Option Value):=some none
 fr:Option (List Env):=none
 z:List (Nat×Obj):=[]
 i:List (Nat×Obj)
 r:List Nat->Ns->Fo
 u:List Nat->Ns->List (Nat×Obj):=λ_ _=>[]
 v:Option (List Nat->Ns->List Obj):=none
 a:List Nat->Ns->List Obj:=λ_ _=>[]
 f:List Nat->Ns->Prop:=λ_ _=>True
 ors:List Oc:=[]
 tt:Nat:=0
 n:Nat:=4000
 s:Nat:=0
 m:Nat:=0
 x:List Nat:=[]
 tr:List Nat:=[]
 cs:List Nat:=[]
 as:List Nat:=[]
 ns:Nat->(Nat->Nat)->(Nat->Ns)->Ns
 pi:List Nat:=[]
noncomputable def updL (l:List Obj) (u:List (Nat×Obj)):List Obj:=u.foldl (λl p=>l.set p.1 p.2) l
def Sp.ct (r:Sp):Ct:={code:=r.c,hd:=r.hd,frs:=r.fr,zpre:=r.z,pre:=r.i,k:=r.x.length,fo:=r.r,post:=match r.v with|none=>λas ns=>updL (r.i.map (·.2)) (r.u as ns)|some f=>f,news:=r.a,fact:=r.f}
noncomputable def gS (l:List Nat) (i:Nat):Nat:=l.getD i 0
def gN (l:List Ns) (i:Nat):Ns:=l.getD i Ns.nil
def Sp.ps (r:Sp) (tok:Nat) (nss:List Ns):List Ns:=⟨[tok],[],[],r.z⟩::(match r.pi with|[]=>List.range r.m|l=>l).map (gN nss)
abbrev CurN:Nat->Type:=Nat.rec Sig λ_ c=>Ns->c
abbrev Cur (m:Nat):Nat->Type:=Nat.rec (CurN m) λ_ c=>Nat->c
noncomputable def curN (m:Nat):(List Ns->Sig)->CurN m:=Nat.rec (motive:=λm=>(List Ns->Sig)->CurN m) (λf=>f []) (λ_ c f ns=>c λl=>f (ns::l)) m
noncomputable def curN' (m:Nat):(List Ns->Sig)->CurN m:=Nat.rec (motive:=λm=>(List Ns->Sig)->CurN m) (λf=>f []) (λ_ c f ns=>c λl=>f (ns::l)) m
def curB (m n:Nat):(List Nat->List Ns->Sig)->Cur m n:=Nat.rec (motive:=λn=>(List Nat->List Ns->Sig)->Cur m n) (λf=>curN m (f [])) (λ_ c f b=>c λl=>f ((b+216)::l)) n
def curB' (m n:Nat):(List Nat->List Ns->Sig)->Cur m n:=Nat.rec (motive:=λn=>(List Nat->List Ns->Sig)->Cur m n) (λf=>curN' m (f [])) (λ_ c f b=>c λl=>f ((b+216)::l)) n
theorem curN_use:∀{m:Nat} {f g:List Ns->Sig},curN m f=curN' m g->AllL m λl=>f l=g l
 |0,_,_,h=>h
 |m+1,_,_,h=>λns=>curN_use (m:=m) (congrFun h ns)
theorem curB_use {m:Nat}:∀{n:Nat} {f g:List Nat->List Ns->Sig},curB m n f=curB' m n g->AllB n λs=>AllL m λl=>f s l=g s l
 |0,_,_,h=>curN_use h
 |n+1,_,_,h=>λb=>curB_use (n:=n) (congrFun h b)
noncomputable def Sp.hv (r:Sp) (h0:Option Value):Option Value:=match r.hd with|none=>h0|some v=>v
def Sp.run (r:Sp) (P:Params) (D U:Nat) (h0:Option Value) (tok:Nat) (sup:List Nat) (nss:List Ns):Out:=runOf ⟨r.ct,r.tt,r.ors⟩ P D U r.n r.tr r.cs (r.hv h0) tok sup nss
def Sp.T (r:Sp):Type:=Option Value->Nat->Cur r.m r.s
def Sp.L (r:Sp) (P:Params) (D U:Nat):r.T:=λh0 tok=>curB r.m r.s λsup nss=>sigL (r.run P D U h0 tok sup nss) r.i.length r.x
def Sp.R (r:Sp) (P:Params) (D U:Nat):r.T:=λh0 tok=>curB' r.m r.s λsup nss=>sigR (r.run P D U h0 tok sup nss) r.ct (r.as.map (gS sup)) (r.ns tok (gS sup) (gN nss)) (r.ps tok nss)
abbrev Sp.E (r:Sp) (P:Params) (D U:Nat):Prop:=r.L P D U=r.R P D U
theorem Sp.E.eq {r:Sp} {P:Params} {D U:Nat} (h:r.E P D U):EqOf ⟨r.ct,r.tt,r.ors⟩ P D U r.n r.s r.m r.x r.tr r.cs (λ_ sup _=>r.as.map (gS sup)) (λtok sup nss=>r.ns tok (gS sup) (gN nss)) r.ps:=by
 have key:∀h0 tok,AllB r.s λsup=>AllL r.m λnss=>_:=λh0 tok=>curB_use (congrFun (congrFun h h0) tok);unfold EqOf;show EqH r.hd _;unfold Sp.run Sp.hv at key;cases e:r.hd with
 |none=>rw [e] at key;exact key
 |some v=>rw [e] at key;exact key none
def Sp.chk (r:Sp) (k:Nat) (X:Cx) (as:List Nat) (ns:Ns) (tok:Nat) (sup:List Nat) (nss:List Ns):Bool:=
 ndB r.x&&r.x.all (λj=>Nat.ble r.i.length j)&&(r.r as ns).ok&&(addAll (r.i.map (·.2)) (r.i.map (·.1)) .nil 0 []).isSome&&(r.ns tok (gS sup) (gN nss)).z.isEmpty&&Nat.beq r.ors.length k&&r.ors.all λp=>ndB p.2&&Nat.beq (p.1 X).pre.length p.2.length
noncomputable def tr6:Cx->List Nat->Ns->Nat->List Nat->List Ns->Bool:=λ_ _ _ _ _ _=>true
def OK (s:Params->Sp) (w:World) (D U:Nat):Prop:=(s w.params).ct.Ok (ktOf w.params) prg w D U
def Sp.H (r:Sp) (i tok:Nat) (X:Cx):Prop:=FOf (F0 tok r.z) (r.ors.take i) X.pns
def Sp.q (r:Sp) (i:Nat) (X:Cx):Ct:=(r.ors.getD i dfo).1 X
def Sp.zq (r:Sp) (i:Nat):Cx->List (Nat×Obj):=λX=>(r.q i X).zpre
def Sp.pk (r:Sp) (ix:List Nat):Cx->List (Nat×Obj):=λ_=>pick ix r.z
def AllQ (w:World) (D U:Nat) (r:Sp):Nat->Nat->Prop
 |_,0=>True
 |i,n+1=>(∀tok X,r.H i tok X->(∀q∈(r.q i X).zpre,q∈zs X.pns)/\(r.q i X).Ok (ktOf w.params) prg w (D+60) (U+300))/\AllQ w D U r (i+1) n
section
variable {w:World} {D U:Nat} {r:Sp} {i n:Nat}
theorem qI (h:∀{tok} (X:Cx),r.H i tok X->(r.q i X).Ok (ktOf w.params) prg w (D+60) (U+300)) (t:AllQ w D U r (i+1) n) (hz:r.zq i=λ_=>[]:=by exact rfl):AllQ w D U r i (n+1):=
 ⟨λtok X hF=>⟨λq hq=>(by have e:(r.q i X).zpre=[]:=congrFun hz X;rw [e] at hq;cases hq),h X hF⟩,t⟩
theorem qN (h:∀(X:Cx),(r.q i X).Ok (ktOf w.params) prg w (D+60) (U+300)) (t:AllQ w D U r (i+1) n) (hz:r.zq i=λ_=>[]:=by exact rfl):AllQ w D U r i (n+1):=qI (λX _=>h X) t hz
theorem qZ (ix:List Nat) (h:∀{tok} (X:Cx),r.H i tok X->(r.q i X).Ok (ktOf w.params) prg w (D+60) (U+300)) (t:AllQ w D U r (i+1) n) (hz:r.zq i=r.pk ix:=by exact rfl):AllQ w D U r i (n+1):=
 ⟨λtok X hF=>⟨λq hq=>zs_at _ hF q (pick_sub (ix:=ix) q (by have e:(r.q i X).zpre=_:=congrFun hz X;rw [e] at hq;exact hq)),h X hF⟩,t⟩
theorem qY (ix:List Nat) (h:∀(X:Cx),(r.q i X).Ok (ktOf w.params) prg w (D+60) (U+300)) (t:AllQ w D U r (i+1) n) (hz:r.zq i=r.pk ix:=by exact rfl):AllQ w D U r i (n+1):=qZ ix (λX _=>h X) t hz
theorem qC (hz:∀{tok} (X:Cx),r.H i tok X->∀q∈(r.q i X).zpre,q∈zs X.pns) (h:∀{tok} (X:Cx),r.H i tok X->(r.q i X).Ok (ktOf w.params) prg w (D+60) (U+300)) (t:AllQ w D U r (i+1) n):AllQ w D U r i (n+1):=
 ⟨λtok X hF=>⟨hz X hF,h X hF⟩,t⟩
theorem allI_of {tok:Nat} (hn:r.ors.all (λp=>ndB p.2)=true) (hl:∀X:Cx,r.ors.all (λp=>Nat.beq (p.1 X).pre.length p.2.length)=true):∀(n i:Nat),i+n=r.ors.length->AllQ w D U r i n->AllI w D U tok r.z r.ors i n
 |0,_,_,_=>trivial
 |n+1,i,e,H=>by
  have hi:i<r.ors.length:=by lia
  have hm:r.ors.getD i dfo∈r.ors:=by
   rw [zY,zQ hi];exact getElem_mem hi
  exact ⟨⟨vy.mp hn _ hm,λX hF=>⟨Nat.eq_of_beq_eq_true (vy.mp (hl X) _ hm),(H.1 tok X hF).1,λ_=>(H.1 tok X hF).2⟩⟩,allI_of hn hl n (i+1) (by lia) H.2⟩
end
def Sp.HF (r:Sp) (tok:Nat) (nss:List Ns):Prop:=FOf (F0 tok r.z) r.ors (r.ps tok nss)
section
variable {s:Params->Sp} {w:World} {D U:Nat} (k:Nat) (h:AllQ w D U (s w.params) 0 k)
 (hf:∀{tok sup nss},(s w.params).HF tok nss->(s w.params).f ((s w.params).as.map (gS sup)) ((s w.params).ns tok (gS sup) (gN nss)):=by exact λ_=>trivial)
include h hf
theorem okR (e:(s w.params).E w.params D U) (c:(s w.params).chk k=tr6:=by exact rfl):OK s w D U:=by
 unfold OK;revert e c h hf;generalize s w.params=r;intro h hf e c;have c':∀X as ns tok sup nss,r.chk k X as ns tok sup nss=true:=λX as ns tok sup nss=>by rw [c];rfl
 simp only [Sp.chk,kj] at c';have X0:Cx:=⟨.nil,[],[],[],none⟩
 obtain ⟨⟨⟨⟨⟨⟨c1,c2⟩,-⟩,c5⟩,-⟩,c7⟩,c8⟩:=c' X0 [] Ns.nil 0 [] [];have c7:=Nat.eq_of_beq_eq_true c7;have hn:r.ors.all (λp=>ndB p.2)=true:=vy.mpr λp hp=>(kj _ _▸vy.mp c8 p hp).1;have hl:∀X:Cx,r.ors.all (λp=>Nat.beq (p.1 X).pre.length p.2.length)=true:=λX=>vy.mpr λp hp=>(kj _ _▸vy.mp (c' X [] Ns.nil 0 [] []).2 p hp).2;exact ok_of (s:=⟨r.ct,r.tt,r.ors⟩) (limA _) e.eq (λtok=>allI_of hn hl _ 0 (Nat.zero_add _) (by show AllQ w D U r 0 r.ors.length;rw [c7];exact h)) c1 c2 rfl (λas ns=>(c' X0 as ns 0 [] []).1.1.1.1.2) c5 (λ_ _ _=>hf) λtok sup nss p hp=>by
  have:=(c' X0 [] Ns.nil tok sup nss).1.1.2;rw [isEmpty_iff.mp this] at hp;cases hp
theorem okF (e:(s w.params).E w.params D U:=by kernel_rfl) (c:(s w.params).chk k=tr6:=by exact rfl):OK s w D U:=okR k h hf e c
end
section
variable {tok:Nat} {Z:List (Nat×Obj)} {l:List Ns} {ps:List Oc} {Q:Prop}
theorem fq (h:FOf (F0 tok Z) ps l) (k:Nat) (H:∀{x as},((ps.getD k dfo).1 x).fact as (nsAt l (k+1))->Q) (hk:(ps[k]?).isSome=true:=by rfl):Q:=by
 obtain ⟨x,as,-,f⟩:=fact_one ps h k hk;exact H f
theorem fq2 (h:FOf (F0 tok Z) ps l) (k:Nat) (H:∀{x as},x.pns=l.take (k+1)->as.length=((ps.getD k dfo).1 x).k->((ps.getD k dfo).1 x).fact as (nsAt l (k+1))->Q) (hk:(ps[k]?).isSome=true:=by rfl):Q:=by
 obtain ⟨x,as,e,g,f⟩:=fact_two ps h k hk;exact H e g f
end
end
noncomputable def lo (xs:List Value) (n:Nat):Obj:={cls:= .type "list",data:= .seq ⟨xs⟩ n}
noncomputable def tu (xs:List Value):Obj:={cls:= .type "tuple",data:= .seq ⟨xs⟩}
noncomputable def li (l:Nat) (i:Int):Obj:={cls:= .type "list_iterator",data:= .fields ⟨[.ref l,.int i 0]⟩}
def fdOf (P:Params) (a:Nat):FuncData:=match (ktOf P).get a with
 |some o=>match o.data with
  | .func fd=>fd
  |_=>default
 |none=>default
def bodyOf (P:Params) (a:Nat):List Stmt:=match (fdOf P a).body with
 | .stmts b=>b
 |_=>[]
def stOf (P:Params) (a i:Nat):Stmt:=(bodyOf P a).getD i (.Pass default)
noncomputable def subOf (i:Nat):Stmt->Stmt
 | .For _ _ b _ _=>b.getD i (.Pass default)
 | .While _ b _ _=>b.getD i (.Pass default)
 |s=>s
noncomputable def valOf:Stmt->PySem.Expr
 | .Assign _ v _=>v
 | .Return (some v) _=>v
 | .Expr v _=>v
 |_=>default
noncomputable def stl (l:List Nat):Str:=⟨⟨l⟩⟩
def envOf (P:Params) (a fr:Nat) (q:List Nat):Env:={scope:=(fdOf P a).scope,locals:=fr,globals:=(fdOf P a).globals,cells:=[],qual:=stl q,func:=some a,code:=(fdOf P a).code,frame:=some fr,builtins:=(fdOf P a).builtins}
noncomputable def forC (s:Stmt) (it:Value) (env:Env):Code:=match s with
 | .For t _ b o _=> .forLoop t it b o env
 |_=> .block [] env
noncomputable def whileC (s:Stmt) (env:Env):Code:=match s with
 | .While t b o _=> .whileLoop t b o env
 |_=> .block [] env
noncomputable def sh (P:Params) (s:Str):Int:=if s.cps.isEmpty=true then 0 else reduceHash (P.strHash s.cps)
def en (P:Params) (q:List Nat) (t:Nat) (v:Value):DictEntry:=⟨sh P (stl q),.str (stl q) t,v⟩
noncomputable def dob (es:List DictEntry) (n:Nat):Obj:={cls:= .type "dict",data:= .dict ⟨es⟩ n}
noncomputable def fob (es:List DictEntry) (n:Nat) (sl:Array (Option Value)):Obj:={cls:= .type "frame",data:= .dict ⟨es⟩ n,slots:=sl}
noncomputable def scOf:PySem.Expr->Scope
 | .ListComp _ _ s _=>{s with names:=s.names.map λp=>match p.2 with| .free=>(p.1,.cell)|_=>p}
 |_=>default
def cenv (P:Params) (a:Nat) (e:PySem.Expr) (cl fr:Nat) (cells:List (Str×Addr)) (q:List Nat):Env:={scope:=scOf e,locals:=cl,globals:=(fdOf P a).globals,cells:=cells,qual:=stl q,func:=none,code:=(fdOf P a).code,frame:=some fr,builtins:=(fdOf P a).builtins}
def oen (P:Params) (q:List Nat):Option (Nat×Value)->List DictEntry
 |none=>[]
 |some p=>[en P q p.1 p.2]
noncomputable def sub (k i:Nat):Stmt->Stmt
 | .For _ _ b o _=>(match k with|0=>b|_=>o).getD i (.Pass default)
 | .While _ b o _=>(match k with|0=>b|_=>o).getD i (.Pass default)
 | .If _ b o _=>(match k with|0=>b|_=>o).getD i (.Pass default)
 | .Try b _ o f _=>(match k with|0=>b|1=>o|_=>f).getD i (.Pass default)
 |s=>s
section
section
variable {kt:KT} {hb h:Heap} {ad0:List Nat} {Z0 Z L:List (Nat×Obj)}
theorem Held.push (H:Held kt hb ad0 Z0 h L Z) {o:Obj} (hf:o.isFreed=false):Held kt hb ad0 Z0 (h.push o) (L++[(h.objs.size,o)]) Z:=by
 have lsz:∀p∈L,p.1<h.objs.size:=λp hp=>kY (H.st.here p hp);refine ⟨⟨λb o' hb' e=>vJ _ (H.st.old b o' hb' e),by rw [Heap.size_push];exact Nat.le_succ_of_le H.st.big,λp hp=>?_,?_,λp hp=>?_,λp hp=>?_⟩,λb o' e hn=>vJ _ (H.keep b o' e hn),by rw [Heap.size_push];exact Nat.le_succ_of_le H.grow,λp hp=>?_,H.zn⟩
 ·rcases jq.mp hp with h1|h1
  ·exact vJ _ (H.st.here p h1)
  ·rw [jJ.mp h1];exact Heap.get?_push_size _ hf
 ·rw [zU]
  refine kX.mpr ⟨H.st.nd,by simp,λa ha b hb' e=>?_⟩;obtain ⟨p,hp,ep⟩:=ky.mp ha;have h1:p.1<h.objs.size:=lsz p hp;have ep:p.1=a:=ep;have hb':b=h.objs.size:=by simpa using hb'
  rw [ep,e,hb'] at h1;exact Nat.lt_irrefl _ h1
 ·rcases jq.mp hp with h1|h1
  ·exact H.st.ge p h1
  ·rw [jJ.mp h1];exact H.st.big
 ·obtain ⟨z1,z2⟩:=H.st.z p hp
  refine ⟨vJ _ z1,λhm=>?_⟩;rw [zU] at hm;rcases jq.mp hm with h1|h1
  ·exact z2 h1
  ·have h2:=kY z1
   have h1:p.1=h.objs.size:=by simpa using h1
   rw [h1] at h2;exact Nat.lt_irrefl _ h2
 ·rcases jq.mp hp with h1|h1
  ·exact H.new p h1
  ·rw [jJ.mp h1];exact .inr H.grow
theorem Held.upd (H:Held kt hb ad0 Z0 h L Z) (i:Nat) {a:Nat} {o:Obj} {f:Obj->Obj} (hi:L[i]?=some (a,o)) (hf:(f o).isFreed=false):Held kt hb ad0 Z0 (h.update a f) (upd1 i (f o) L) Z:=by
 have hs:Heap.SameBut a h (h.update a f):=Heap.SameBut.update ..;have hm:(a,o)∈L:=jy hi;have hne:∀b,b∉L.map (·.1)->b≠a:=λb hb' e=>hb' (e▸zW hm);refine ⟨⟨λb o' hb' e=>(hs.2 b λq=>?_).trans (H.st.old b o' hb' e),by rw [hs.1];exact H.st.big,λp hp=>?_,by rw [upd1_map];exact H.st.nd,λp hp=>?_,λp hp=>?_⟩,λb o' e hn=>(hs.2 b λq=>?_).trans (H.keep b o' e hn),by rw [hs.1];exact H.grow,λp hp=>?_,H.zn⟩
 ·have h1:216<=a:=H.st.ge _ hm
  rw [q] at hb';exact absurd hb' (vQ.mpr h1)
 ·obtain ⟨j,hj,e⟩:=qj.mp hp
  have hlen:(upd1 i (f o) L).length=L.length:=by have:=jk length (upd1_map i (f o) L);simpa using this
  obtain ⟨q,hq⟩:=at_of (l:=L) (k:=j) (by rw [<-hlen];exact hj);have h1:=upd1_at (i:=i) (f o) hq;rw [zQ hj,e] at h1;cases h1;by_cases hij:j=i
  ·subst hij
   rw [hi] at hq;cases hq;rw [if_pos rfl];first|exact Heap.get?_update_self f (H.st.here _ hm) hf|exact Heap.get?_update_self _ (H.st.here _ hm) hf
  ·rw [vk hij]
   refine (hs.2 _ λq'=>hij ?_).trans (H.st.here q (jy hq));exact nodup_at H.st.nd (map_fst_at hq) (by rw [map_fst_at hi,q'])
 ·have h1:p.1∈(upd1 i (f o) L).map (·.1):=zW hp
  rw [upd1_map] at h1;obtain ⟨q,hq,e⟩:=ky.mp h1;rw [<-e];exact H.st.ge q hq
 ·obtain ⟨z1,z2⟩:=H.st.z p hp
  exact ⟨(hs.2 _ (hne _ z2)).trans z1,by rw [upd1_map];exact z2⟩
 ·rcases H.new _ hm with h1|h1
  ·exact hn (q▸h1)
  ·have:=kY e;rw [q] at this;exact absurd this (vQ.mpr h1)
 ·have h1:p.1∈(upd1 i (f o) L).map (·.1):=zW hp
  rw [upd1_map] at h1;obtain ⟨q,hq,e⟩:=ky.mp h1;rw [<-e];exact H.new q hq
end
theorem drop_at {α:Type} {l:List α} {k:Nat} {x:α} (h:l[k]?=some x):l.drop k=x::l.drop (k+1):=by
 have hk:=at_lt h;rw [zQ hk] at h;rw [drop_eq_getElem_cons hk,kU h]
theorem drop_none {α:Type} {l:List α} {k:Nat} (h:l[k]?=none):l.drop k=[]:=by
 rw [jU] at h;exact drop_eq_nil_iff.mpr h
theorem Ct.of_builtin {kt:KT} {w:World} {D U:Nat} {c:Ct} {id:String} {args:Args} {b:Builtin} (hc:c.code= .builtin id args) (en:entryFor table id=some b)
  (H:∀A:Around,HdOk c.hd A.handled->∀(h:Heap) (gens:Array GenState) (d:Drawn) (tok:Nat) (os:OsState) (R:Result->Shared->Prop),Held kt h (c.pre.map (·.1)) c.zpre h c.pre c.zpre->
   (∀h' as ns Z,as.length=c.k->(c.post as ns).length=c.pre.length->(c.news as ns).length=as.length->Held kt h (c.pre.map (·.1)) c.zpre h' ((c.pre.map (·.1)).zip (c.post as ns)++as.zip (c.news as ns)) Z->(∀p∈ns.z,p∈Z)->c.fact as ns->FinAt prg w A R (c.fo as ns) ⟨h',gens,d,ns.t,os⟩)->
   wpAny (model prg w) (A.under (.builtin id args)) (b args) (λfin s'=>match fin with
     | .done f=>R (.ok f) s'
     | .again c'=>c'.quiet=true/\codeAny (model prg w) A c' R s') (λe s'=>R (.error e) s') ⟨h,gens,d,tok,os⟩):c.Ok kt prg w D U:=by
 intro A hA hF hD hU h gens d tok os R S0 K;rw [hc];exact codeAny_builtin en (H A hA h gens d tok os R (Held.start S0) λh' as ns Z hk l1 l2 H' hz hfa=>K h' as ns hk (H'.fin l1 l2 hz) hfa)
theorem Ct.of_meets {kt:KT} {w:World} {D U:Nat} {c:Ct} {id:String} {args:Args} {b:Builtin} {S:PySem.Spec} (M:Meets (b args) S) (hc:c.code= .builtin id args) (en:entryFor table id=some b) (pl:plainId id=true)
  (H:∀A:Around,HdOk c.hd A.handled->∀(h:Heap) (gens:Array GenState) (d:Drawn) (tok:Nat) (os:OsState) (R:Result->Shared->Prop),Held kt h (c.pre.map (·.1)) c.zpre h c.pre c.zpre->
   (∀h' as ns Z,as.length=c.k->(c.post as ns).length=c.pre.length->(c.news as ns).length=as.length->Held kt h (c.pre.map (·.1)) c.zpre h' ((c.pre.map (·.1)).zip (c.post as ns)++as.zip (c.news as ns)) Z->(∀p∈ns.z,p∈Z)->c.fact as ns->FinAt prg w A R (c.fo as ns) ⟨h',gens,d,ns.t,os⟩)->
   S A R ⟨h,gens,d,tok,os⟩):c.Ok kt prg w D U:=
 Ct.of_builtin hc en λA hA h gens d tok os R H0 K=>by
  rw [vZ pl];exact M prg w A R _ (H A hA h gens d tok os R H0 K)
theorem lo_push (xs:List Value) (n:Nat) (v:Value):Obj.mapSeq (·.push v) (lo xs n)=lo (xs++[v]) (n+1):=by
 unfold lo Obj.mapSeq;simp
theorem zip_map_snd:∀(L:List (Nat×Obj)),(L.map (·.1)).zip (L.map (·.2))=L
 |[]=>rfl
 |p::L=>by simp [zip_map_snd L]
noncomputable def zsel (f:Bool) (p:Nat×Obj):List (Nat×Obj):=match f with|true=>[p]|false=>[]
noncomputable def psel (f:Bool) (p:Nat×Obj):List (Nat×Obj):=match f with|true=>[]|false=>[p]
theorem sel_here {kt:KT} {h hb:Heap} {ad0:List Nat} {Z0 Z L:List (Nat×Obj)} (H:Held kt hb ad0 Z0 h L Z) {f:Bool} {p:Nat×Obj} (hz:∀q∈zsel f p,q∈Z) (hp:∀q∈psel f p,q∈L):h.get? p.1=some p.2:=by
 cases f with
 |true=>exact (H.st.z p (hz p (mem_singleton_self _))).1
 |false=>exact H.st.here p (hp p (mem_singleton_self _))
def ctRd (c:Code) (f:Bool) (p:Nat×Obj) (v:Nat->Value) (d:Nat):Ct:={code:=c,zpre:=zsel f p,pre:=psel f p,k:=0,fo:=λ_ ns=> .ret (.ok (.ret (v (ns.g 1)))),post:=λ_ _=>(psel f p).map (·.2),news:=λ_ _=>[],fact:=λ_ ns=>ns.t=ns.g 1+d}
theorem Ct.rd_any {kt:KT} {w:World} {D U:Nat} {id:String} {args:Args} {b:Builtin} {f:Bool} {p:Nat×Obj} {v:Nat->Value} {d:Nat} (en:entryFor table id=some b)
  (H:∀(A:Around) (h:Heap) (gens:Array GenState) (dr:Drawn) (tok:Nat) (os:OsState) (R:Result->Shared->Prop),h.get? p.1=some p.2->R (.ok (.ret (v tok))) ⟨h,gens,dr,tok+d,os⟩->
   wpAny (model prg w) (A.under (.builtin id args)) (b args) (λfin s'=>match fin with
     | .done f=>R (.ok f) s'
     | .again c'=>c'.quiet=true/\codeAny (model prg w) A c' R s') (λe s'=>R (.error e) s') ⟨h,gens,dr,tok,os⟩):(ctRd (.builtin id args) f p v d).Ok kt prg w D U:=by
 refine Ct.of_builtin rfl en λA hA h gens dr tok os R H0 K=>H A h gens dr tok os R (sel_here H0 (λq hq=>hq) (λq hq=>hq)) ?_;refine K h [] ⟨[tok+d,tok],[],[],[]⟩ (zsel f p) rfl (by simp [ctRd]) rfl ?_ (λp hp=>by cases hp) rfl;show Held kt h _ _ h (((psel f p).map (·.1)).zip ((psel f p).map (·.2))++[]) _;rw [zip_map_snd,jx];exact H0
theorem Ct.rd_meets {kt:KT} {w:World} {D U:Nat} {id:String} {args:Args} {b:Builtin} {S:PySem.Spec} {f:Bool} {p:Nat×Obj} {v:Nat->Value} {d:Nat} (M:Meets (b args) S) (en:entryFor table id=some b) (pl:plainId id=true)
  (H:∀(A:Around) (h:Heap) (gens:Array GenState) (dr:Drawn) (tok:Nat) (os:OsState) (R:Result->Shared->Prop),h.get? p.1=some p.2->R (.ok (.ret (v tok))) ⟨h,gens,dr,tok+d,os⟩->S A R ⟨h,gens,dr,tok,os⟩):(ctRd (.builtin id args) f p v d).Ok kt prg w D U:=
 Ct.rd_any en λA h gens dr tok os R hp hR=>by
  rw [vZ pl];exact M prg w A R _ (H A h gens dr tok os R hp hR)
def ctAppend (l:Nat) (xs:List Value) (n:Nat) (v:Value):Ct:={code:= .builtin "list.append" ⟨[.ref l,v],[]⟩,pre:=[(l,lo xs n)],k:=0,fo:=λ_ _=> .ret (.ok (.ret .none)),post:=λ_ _=>[lo (xs++[v]) (n+1)],news:=λ_ _=>[],fact:=λ_ _=>True}
theorem append_ok (kt:KT) (w:World) (D U l:Nat) (xs:List Value) (n:Nat) (v:Value) (hsz:xs.length<=1000):(ctAppend l xs n v).Ok kt prg w D U:=by
 have hs:sizeLine=16777216:=by decide
 have hx:(Array.mk xs).size<=sizeLine:=by show xs.length<=sizeLine;lia
 refine Ct.of_meets (AutoListH.list_append_list_val_0 l ⟨xs⟩ n v hx) rfl F.entry_list_append (by decide+kernel) λA hA h gens d tok os R H0 K=>?_;refine ⟨H0.st.here _ (zy ..),?_⟩;refine K _ [] ⟨[tok],[],[],[]⟩ [] rfl rfl rfl ?_ (λp hp=>by cases hp) trivial;have:=H0.upd 0 (f:=Obj.mapSeq (·.push v)) rfl rfl;rw [lo_push] at this;exact this
end
noncomputable def isV (x:Int):Value->Bool
 | .int m _=>m==x
 |_=>false
theorem eqAt_int {xs:List Value} {ns:List Int} (hI:IntsAre xs ns) (x:Int) (t:Nat) (A:Around) (s:Shared):∀y,y∈(Array.mk xs)->SeqAt.EqAt A s y (.int x t) (isV x y):=λy hy=>by
 obtain ⟨m,u,rfl⟩:=hI.all y (by simpa using hy);exact (MeetsSeq.EqGives.int m x u t).at A s
theorem any_ints {xs:List Value} {ns:List Int} (hI:IntsAre xs ns) (x:Int):xs.any (isV x)=ns.contains x:=by
 induction hI with
 |nil=>rfl
 |cons n t _ ih=>rw [any_cons,ih,contains_cons];simp only [isV];rw [show (n==x)=(x==n) from Bool.beq_comm]
theorem count_ints {xs:List Value} {ns:List Int} (hI:IntsAre xs ns) (x:Int):xs.countP (isV x)=ns.count x:=by
 induction hI with
 |nil=>rfl
 |cons n t _ ih=>rw [countP_cons,ih,count_cons];rfl
def cContains (f:Bool) (l:Nat) (xs:List Value) (n:Nat) (x:Int) (t:Nat) (r:Bool):Ct:=ctRd (.builtin "list.__contains__" ⟨[.ref l,.int x t],[]⟩) f (l,lo xs n) (λ_=> .bool r) 0
theorem contains_ok (kt:KT) (w:World) (D U:Nat) (f:Bool) (l:Nat) (n:Nat) (x:Int) (t:Nat) {xs:List Value} {ns:List Int} {r:Bool} (hI:IntsAre xs ns) (hr:ns.contains x=r):(cContains f l xs n x t r).Ok kt prg w D U:=
 Ct.rd_meets (SeqAt.list_containsAt l ⟨xs⟩ n none #[] (.int x t) (isV x)) entry_list_contains (by decide+kernel) λA h gens dr tok os R hp hR=>
  ⟨hp,eqAt_int hI x t _ _,by rw [show (Array.mk xs).any (isV x)=r from by rw [<-hr,<-any_ints hI];simp];exact hR⟩
def cCount (f:Bool) (l:Nat) (xs:List Value) (n:Nat) (x:Int) (t:Nat) (r:Int):Ct:=ctRd (.builtin "list.count" ⟨[.ref l,.int x t],[]⟩) f (l,lo xs n) (λt=> .int r t) 1
theorem count_ok (kt:KT) (w:World) (D U:Nat) (f:Bool) (l:Nat) (n:Nat) (x:Int) (t:Nat) {xs:List Value} {ns:List Int} {r:Int} (hI:IntsAre xs ns) (hr:((ns.count x:Nat):Int)=r):(cCount f l xs n x t r).Ok kt prg w D U:=
 Ct.rd_meets (SeqAt.list_countAt l ⟨xs⟩ n none #[] (.int x t) (isV x)) F.entry_list_count (by decide+kernel) λA h gens dr tok os R hp hR=>
  ⟨hp,eqAt_int hI x t _ _,by rw [show (((Array.mk xs).toList.countP (isV x):Nat):Int)=r from by rw [<-hr,<-count_ints hI]];exact hR⟩
def cItem (f:Bool) (l:Nat) (xs:List Value) (n:Nat) (k:Int) (t:Nat) (v:Value):Ct:=ctRd (.builtin "list.__getitem__" ⟨[.ref l,.int k t],[]⟩) f (l,lo xs n) (λ_=>v) 0
theorem item_ok (kt:KT) (w:World) (D U:Nat) (f:Bool) (l:Nat) (xs:List Value) (n:Nat) (k:Int) (t:Nat) {v:Value} (h0:0<=k) (h1:k<2^63) (hv:xs[k.toNat]?=some v):(cItem f l xs n k t v).Ok kt prg w D U:=
 Ct.rd_any entry_list_getitem λA h gens dr tok os R ho hQ=>by
  show wpAny _ _ (Builtin.List.listSubscript? (.int k t)>>=_) _ _ _;refine zk (wpAny_listSubscript_int (fitsIndex_of h0 h1) ?_);obtain ⟨j,rfl⟩:=Int.eq_ofNat_of_zero_le h0;show wpAny _ _ ((seqItemAt l j>>=λr=>pure (r.map (j,·)))>>=_) _ _ _;refine zk (zk (wpAny_seqItemAt ho rfl (zX ?_)));have hv':(Array.mk xs)[j]?=some v:=by simpa using hv
  rw [hv'];exact zX hQ
theorem last_ok (kt:KT) (w:World) (D U:Nat) (f:Bool) (l:Nat) (xs:List Value) (n:Nat) (t:Nat) {v:Value} (hv:xs[xs.length-1]?=some v):(cItem f l xs n (-1) t v).Ok kt prg w D U:=
 Ct.rd_any entry_list_getitem λA h gens dr tok os R ho hQ=>by
  have hlen:=at_lt hv;show wpAny _ _ (Builtin.List.listSubscript? (.int (-1) t)>>=_) _ _ _;refine zk (wpAny_listSubscript_int (fitsIndex_neg (by decide) (by decide)) ?_);have hidx:=seqIndex_neg (k:= -1) (n:=(Array.mk xs).size) (by decide) (by show-((xs.length:Nat):Int)<=-1;lia);show wpAny _ _ ((Builtin.List.listItems (.ref l)>>=λxs=>pure ((seqIndex? (Int.negSucc 0) xs.size).bind λi=>xs[i]?.map (i,·)))>>=_) _ _ _;refine zk (zk ?_);show wpAny _ _ (seqItems? (.ref l)>>=_) _ _ _;refine zk (wpAny_seqItems ho rfl (zX (zX ?_)));have hidx':seqIndex? (Int.negSucc 0) (Array.mk xs).size=some (-1+((Array.mk xs).size:Int)).toNat:=hidx;have hv':(Array.mk xs)[(-1+((Array.mk xs).size:Int)).toNat]?=some v:=by
   have:(-1+((Array.mk xs).size:Int)).toNat=xs.length-1:=by show (-1+((xs.length:Nat):Int)).toNat=_;lia
   rw [this];simpa using hv
  rw [hidx'];simp only [Option.bind_some,hv',Option.map_some];exact zX hQ
theorem lt_all {ix:List Nat} {n:Nat} (h:ix.all (λi=>Nat.blt i n)=true):∀i∈ix,i<n:=λi hi=>by
 have:=vy.mp h i hi;exact zx this
noncomputable def liE (i:Int):Obj:={cls:= .type "list_iterator",data:= .fields ⟨[.none,.int i 0]⟩}
noncomputable def exo (cls:String) (tp:Value) (x:Value):Obj:={cls:= .type cls,data:= .fields ⟨[tp,.none,.none,.none,.bool false,x]⟩}
def cNext (f:Bool) (it l:Nat) (xs:List Value) (n:Nat) (i:Int) (v:Value):Ct:={code:= .builtin "list_iterator.__next__" ⟨[.ref it],[]⟩,zpre:=zsel f (l,lo xs n),pre:=(it,li l i)::psel f (l,lo xs n),k:=0,fo:=λ_ _=> .ret (.ok (.ret v)),post:=λ_ _=>li l (i+1)::(psel f (l,lo xs n)).map (·.2),news:=λ_ _=>[],fact:=λ_ _=>True}
theorem next_ok (kt:KT) (w:World) (D U:Nat) (f:Bool) (it l:Nat) (xs:List Value) (n:Nat) (i:Int) {v:Value} (hv:xs[i.toNat]?=some v):(cNext f it l xs n i v).Ok kt prg w D U:=
 Ct.of_builtin rfl entry_listiter_next λA hA h gens d tok os R H0 K=>by
  have ho:=H0.st.here _ (zy ..);have hl:=sel_here H0 (f:=f) (p:=(l,lo xs n)) (λq hq=>hq) (λq hq=>zv _ hq);show wpAny _ _ (field (.ref it) 0>>=_) _ _ _;refine zk (qk ho rfl (x:= .ref l) rfl ?_);show wpAny _ _ (if (Value.ref l==Value.none)=true then _ else _) _ _ _;rw [vk (show¬((Value.ref l==Value.none)=true) from kZ)];show wpAny _ _ (field (.ref it) 1>>=_) _ _ _;refine zk (qk ho rfl (x:= .int i 0) rfl ?_);show wpAny _ _ (seqItems? (.ref l)>>=_) _ _ _;refine zk (wpAny_seqItems hl rfl ?_);have hv':(Array.mk xs)[i.toNat]?=some v:=by simpa using hv
  show wpAny _ _ (match (Array.mk xs)[i.toNat]? with|some x=>_|none=>_) _ _ _;rw [hv'];refine zk (wpAny_setField ho rfl (by simp) (zX ?_));have H1:=H0.upd 0 (f:=Obj.mapFields (·.setIfInBounds 1 (.int (i+1) 0))) rfl rfl;refine K _ [] ⟨[tok],[],[],[]⟩ (zsel f (l,lo xs n)) rfl (by cases f<;>rfl) rfl ?_ (λp hp=>by cases hp) trivial;cases f<;>exact H1
def cNextE (f:Bool) (it l:Nat) (xs:List Value) (n:Nat) (i:Int):Ct:={code:= .builtin "list_iterator.__next__" ⟨[.ref it],[]⟩,hd:=some none,zpre:=zsel f (l,lo xs n),pre:=(it,li l i)::psel f (l,lo xs n),k:=1,fo:=λas _=> .ret (.error (.ref (as.getD 0 0))),post:=λ_ _=>liE i::(psel f (l,lo xs n)).map (·.2),news:=λ_ ns=>[exo "StopIteration" (ns.w 0) .none],fact:=λ_ _=>True}
theorem nextE_ok (kt:KT) (w:World) (D U:Nat) (f:Bool) (it l:Nat) (xs:List Value) (n:Nat) (i:Int) (hv:xs[i.toNat]?=none):(cNextE f it l xs n i).Ok kt prg w D U:=
 Ct.of_builtin rfl entry_listiter_next λA hA h gens d tok os R H0 K=>by
  have ho:=H0.st.here _ (zy ..);have hl:=sel_here H0 (f:=f) (p:=(l,lo xs n)) (λq hq=>hq) (λq hq=>zv _ hq);have hh:A.handled=none:=hA _ rfl;show wpAny _ _ (field (.ref it) 0>>=_) _ _ _;refine zk (qk ho rfl (x:= .ref l) rfl ?_);show wpAny _ _ (if (Value.ref l==Value.none)=true then _ else _) _ _ _;rw [vk (show¬((Value.ref l==Value.none)=true) from kZ)];show wpAny _ _ (field (.ref it) 1>>=_) _ _ _;refine zk (qk ho rfl (x:= .int i 0) rfl ?_);show wpAny _ _ (seqItems? (.ref l)>>=_) _ _ _;refine zk (wpAny_seqItems hl rfl ?_);have hv':(Array.mk xs)[i.toNat]?=none:=by simpa using hv
  show wpAny _ _ (match (Array.mk xs)[i.toNat]? with|some x=>_|none=>_) _ _ _;rw [hv'];refine zk (wpAny_rule (zk (wpAny_setField ho rfl (by simp) ?_)));show wpAny _ _ (newExc (.type "StopIteration") []>>=_) _ _ _;refine zk ?_;simp only [newExc,newTuple];refine zk (vx ?_ (by size_fits));refine zk (m:=firstArgMember _ _) (wpAny_of_eq (a:=Value.none) (by first|rfl|(simp only [firstArgMember];rfl)) ?_);refine vx ?_ (by size_fits);simp only [raiseNew];refine zk (wpAny_handled ?_);have hh':(A.under (.builtin "list_iterator.__next__" ⟨[.ref it],[]⟩)).handled=none:=hh;rw [hh'];refine zk (zX (wpAny_throw ?_));have H1:=H0.upd 0 (f:=Obj.mapFields (·.setIfInBounds 0 .none)) rfl rfl;generalize (h.update it (Obj.mapFields (·.setIfInBounds 0 .none)))=h1 at H1⊢;have H2:=H1.push (o:={cls:= .type "tuple",data:= .seq #[]}) rfl;have H3:=H2.push (o:=exo "StopIteration" (.ref h1.objs.size) .none) rfl;refine K _ [(h1.push {cls:= .type "tuple",data:= .seq #[]}).objs.size] ⟨[tok],[],[.ref h1.objs.size],[]⟩ (zsel f (l,lo xs n)) rfl (by cases f<;>rfl) rfl ?_ (λp hp=>by cases hp) trivial;cases f with
  |true=>exact H3.pick [0,2] (by decide) (lt_all (n:=3) rfl)
  |false=>exact H3.pick [0,1,3] (by decide) (lt_all (n:=4) rfl)
def cAdd (f:Bool) (l b:Nat) (xs ys:List Value) (n m:Nat):Ct:={code:= .builtin "list.__add__" ⟨[.ref l,.ref b],[]⟩,zpre:=zsel f (l,lo xs n),pre:=(b,lo ys m)::psel f (l,lo xs n),k:=1,fo:=λas _=> .ret (.ok (.ret (.ref (as.getD 0 0)))),post:=λ_ _=>lo ys m::(psel f (l,lo xs n)).map (·.2),news:=λ_ _=>[lo (xs++ys) 0],fact:=λ_ _=>True}
theorem add_ok (kt:KT) (w:World) (D U:Nat) (f:Bool) (l b:Nat) (xs ys:List Value) (n m:Nat) (hsz:xs.length+ys.length<=1000):(cAdd f l b xs ys n m).Ok kt prg w D U:=by
 have hs:sizeLine=16777216:=by decide
 have hx:(Array.mk xs).size+(Array.mk ys).size<=sizeLine:=by show xs.length+ys.length<=sizeLine;lia
 refine Ct.of_meets (AutoSeq1.list___add___list_list_0 l ⟨xs⟩ n b ⟨ys⟩ m hx) rfl F.entry_list_add (by decide+kernel) λA hA h gens d tok os R H0 K=>?_;refine ⟨sel_here H0 (f:=f) (p:=(l,lo xs n)) (λq hq=>hq) (λq hq=>zv _ hq),H0.st.here _ (zy ..),?_⟩;refine K _ [h.objs.size] ⟨[tok],[],[],[]⟩ (zsel f (l,lo xs n)) rfl (by cases f<;>rfl) rfl ?_ (λp hp=>by cases hp) trivial;have e:(Array.mk xs)++(Array.mk ys)=Array.mk (xs++ys):=by simp
 have:=H0.push (o:={cls:= .type "list",data:= .seq (Array.mk xs++Array.mk ys)}) rfl;rw [e] at this;show Held kt h _ _ (h.push {cls:= .type "list",data:= .seq (Array.mk xs++Array.mk ys)}) _ _;rw [e];cases f<;>exact this
section
section
variable {α:Type} {prog:Program} {w:World} {A:Around} {E:Value->Shared->Prop} {s:Shared}
theorem raise_words {cls msg:String} {Q:α->Shared->Prop} (hp:PlainExc cls) (hh:A.handled=none)
  (h:E (.ref (s.heap.objs.size+1)) {s with heap:=(s.heap.push {cls:= .type "tuple",data:= .seq #[.str msg s.toks]}).push (exo cls (.ref s.heap.objs.size) .none),toks:=s.toks+1}):
  wpAny (model prog w) A (raiseErrorWords cls msg:Sem α) Q E s:=by
 unfold raiseErrorWords;refine zk (wpAny_mkText (zk ?_));unfold newExc newTuple;refine zk (vx ?_);refine zk (m:=firstArgMember _ _) (wpAny_of_eq (a:=Value.none) (by simp only [firstArgMember,hp.first];rfl) ?_);rw [hp.own];refine vx ?_;unfold raiseNew;refine zk (wpAny_handled ?_);rw [hh];refine zk (zX (wpAny_throw ?_));have e:(s.heap.push {cls:= .type "tuple",data:= .seq #[.str msg s.toks]}).objs.size=s.heap.objs.size+1:=Heap.size_push _ _;rw [<-e] at h;exact h
theorem entry_unchain:entryFor table "proto.unchain"=some Builtin.«proto.unchain»:=entryFor_of_tree (by kernel_rfl)
theorem raise_words2 {cls msg:String} {Q:α->Shared->Prop} (hp:PlainExc cls) {b:Addr} {ob:Obj} {vs:Array Value} (hh:A.handled=some (.ref b)) (hb:s.heap.get? b=some ob) (hd:ob.data= .fields vs) (hv:(vs[2]?:Option Value)=some .none)
  (h:E (.ref (s.heap.objs.size+1)) {s with heap:=((s.heap.push {cls:= .type "tuple",data:= .seq #[.str msg s.toks]}).push (exo cls (.ref s.heap.objs.size) .none)).update (s.heap.objs.size+1) (Obj.mapFields (·.setIfInBounds 2 (.ref b))),toks:=s.toks+1}):
  wpAny (model prog w) A (raiseErrorWords cls msg:Sem α) Q E s:=by
 unfold raiseErrorWords;refine zk (wpAny_mkText (zk ?_));unfold newExc newTuple;refine zk (vx ?_);refine zk (m:=firstArgMember _ _) (wpAny_of_eq (a:=Value.none) (by simp only [firstArgMember,hp.first];rfl) ?_);rw [hp.own];refine vx ?_;unfold raiseNew;refine zk (wpAny_handled ?_);rw [hh];have e:(s.heap.push {cls:= .type "tuple",data:= .seq #[.str msg s.toks]}).objs.size=s.heap.objs.size+1:=Heap.size_push _ _;have hlt:b<s.heap.objs.size:=kY hb;have hne:(Value.ref b !=Value.ref ((s.heap.push {cls:= .type "tuple",data:= .seq #[.str msg s.toks]}).objs.size))=true:=by
  rw [e];simp only [bne_iff_ne,ne_eq,Value.ref.injEq];exact Nat.ne_of_lt (Nat.lt_succ_of_lt hlt)
 dsimp only
 rw [if_pos hne];have hb2:((s.heap.push {cls:= .type "tuple",data:= .seq #[.str msg s.toks]}).push (exo cls (.ref s.heap.objs.size) .none)).get? b=some ob:=vJ _ (vJ _ hb);have hsz:2<vs.size:=by
  rcases Nat.lt_or_ge 2 vs.size with h2|h2
  ·exact h2
  ·rw [Array.getElem?_eq_none h2] at hv;cases hv
 refine zk (wpAny_holding (wpAny_runValue (codeAny_builtin entry_unchain ?_)));unfold Builtin.«proto.unchain»;refine zk (qk hb2 hd hv ?_);rw [if_pos (by rfl)];refine zX ?_;refine zk ?_;unfold updateField;have hself:((s.heap.push {cls:= .type "tuple",data:= .seq #[.str msg s.toks]}).push (exo cls (.ref s.heap.objs.size) .none)).get? (s.heap.push {cls:= .type "tuple",data:= .seq #[.str msg s.toks]}).objs.size=some (exo cls (.ref s.heap.objs.size) .none):=Heap.get?_push_size _ rfl;refine zk (wpAny_load hself ?_);show wpAny _ _ (if 2<_ then _ else _) _ _ _;rw [if_pos (by simp)];refine wpAny_update hself ?_;refine wpAny_throw ?_;rw [e];exact h
end
theorem plain_index:PlainExc "IndexError":=plainExc_IndexError
def cItemE (f:Bool) (l:Nat) (xs:List Value) (n:Nat) (k:Int) (t:Nat):Ct:={code:= .builtin "list.__getitem__" ⟨[.ref l,.int k t],[]⟩,hd:=some none,zpre:=zsel f (l,lo xs n),pre:=psel f (l,lo xs n),k:=1,fo:=λas _=> .ret (.error (.ref (as.getD 0 0))),post:=λ_ _=>(psel f (l,lo xs n)).map (·.2),news:=λ_ ns=>[exo "IndexError" (ns.w 0) .none],fact:=λ_ _=>True}
theorem itemE_ok (kt:KT) (w:World) (D U:Nat) (f:Bool) (l:Nat) (xs:List Value) (n:Nat) (k:Int) (t:Nat) (h0:0<=k) (h1:k<2^63) (hv:xs[k.toNat]?=none):(cItemE f l xs n k t).Ok kt prg w D U:=
 Ct.of_builtin rfl entry_list_getitem λA hA h gens d tok os R H0 K=>by
  have hl:=sel_here H0 (f:=f) (p:=(l,lo xs n)) (λq hq=>hq) (λq hq=>hq);have hh:A.handled=none:=hA _ rfl;show wpAny _ _ (Builtin.List.listSubscript? (.int k t)>>=_) _ _ _;refine zk (wpAny_listSubscript_int (fitsIndex_of h0 h1) ?_);obtain ⟨j,rfl⟩:=Int.eq_ofNat_of_zero_le h0;show wpAny _ _ ((seqItemAt l j>>=λr=>pure (r.map (j,·)))>>=_) _ _ _;refine zk (zk (wpAny_seqItemAt hl rfl (zX ?_)));have hv':(Array.mk xs)[j]?=none:=by simpa using hv
  rw [hv'];refine zk (wpAny_rule (zk (raise_words plain_index hh ?_)));have H2:=H0.push (o:={cls:= .type "tuple",data:= .seq #[.str "list index out of range" tok]}) rfl;have H3:=H2.push (o:=exo "IndexError" (.ref h.objs.size) .none) rfl;have e:(h.push {cls:= .type "tuple",data:= .seq #[.str "list index out of range" tok]}).objs.size=h.objs.size+1:=Heap.size_push _ _;rw [e] at H3;refine K _ [h.objs.size+1] ⟨[tok+1],[],[.ref h.objs.size],[]⟩ (zsel f (l,lo xs n)) rfl (by cases f<;>rfl) rfl ?_ (λp hp=>by cases hp) trivial;cases f with
  |true=>exact H3.pick [1] (by decide) (lt_all (n:=2) rfl)
  |false=>exact H3.pick [0,2] (by decide) (lt_all (n:=3) rfl)
noncomputable def exq (cls:String) (vs:List Value):Obj:={cls:= .type cls,data:= .fields ⟨vs⟩}
def cItemE2 (f:Bool) (b l:Nat) (xs vs:List Value) (n:Nat) (k:Int) (t:Nat):Ct:={code:= .builtin "list.__getitem__" ⟨[.ref l,.int k t],[]⟩,hd:=some (some (.ref b)),zpre:=zsel f (l,lo xs n),pre:=(b,exq "IndexError" vs)::psel f (l,lo xs n),k:=1,fo:=λas _=> .ret (.error (.ref (as.getD 0 0))),post:=λ_ _=>exq "IndexError" vs::(psel f (l,lo xs n)).map (·.2),news:=λ_ ns=>[exq "IndexError" [ns.w 0,.none,.ref b,.none,.bool false,.none]],fact:=λ_ _=>True}
theorem itemE2_ok (kt:KT) (w:World) (D U:Nat) (f:Bool) (b l:Nat) (xs vs:List Value) (n:Nat) (k:Int) (t:Nat) (h0:0<=k) (h1:k<2^63) (hv:xs[k.toNat]?=none) (hc:vs[2]?=some .none):(cItemE2 f b l xs vs n k t).Ok kt prg w D U:=
 Ct.of_builtin rfl entry_list_getitem λA hA h gens d tok os R H0 K=>by
  have hl:=sel_here H0 (f:=f) (p:=(l,lo xs n)) (λq hq=>hq) (λq hq=>zv _ hq);have hb:=H0.st.here _ (zy ..);have hh:A.handled=some (.ref b):=hA _ rfl;show wpAny _ _ (Builtin.List.listSubscript? (.int k t)>>=_) _ _ _;refine zk (wpAny_listSubscript_int (fitsIndex_of h0 h1) ?_);obtain ⟨j,rfl⟩:=Int.eq_ofNat_of_zero_le h0;show wpAny _ _ ((seqItemAt l j>>=λr=>pure (r.map (j,·)))>>=_) _ _ _;refine zk (zk (wpAny_seqItemAt hl rfl (zX ?_)));have hv':(Array.mk xs)[j]?=none:=by simpa using hv
  rw [hv'];refine zk (wpAny_rule (zk (raise_words2 plain_index hh hb rfl (by simpa using hc) ?_)));have H2:=H0.push (o:={cls:= .type "tuple",data:= .seq #[.str "list index out of range" tok]}) rfl;have H3:=H2.push (o:=exo "IndexError" (.ref h.objs.size) .none) rfl;have e:(h.push {cls:= .type "tuple",data:= .seq #[.str "list index out of range" tok]}).objs.size=h.objs.size+1:=Heap.size_push _ _;rw [e] at H3;refine K _ [h.objs.size+1] ⟨[tok+1],[],[.ref h.objs.size],[]⟩ (zsel f (l,lo xs n)) rfl (by cases f<;>rfl) rfl ?_ (λp hp=>by cases hp) trivial;cases f with
  |true=>exact (H3.upd 2 (f:=Obj.mapFields (·.setIfInBounds 2 (.ref b))) rfl rfl).pick [0,2] (by decide) (lt_all (n:=3) rfl)
  |false=>exact (H3.upd 3 (f:=Obj.mapFields (·.setIfInBounds 2 (.ref b))) rfl rfl).pick [0,1,3] (by decide) (lt_all (n:=4) rfl)
end
noncomputable def slO (a b:Value):Obj:={cls:= .type "slice",data:= .fields ⟨[a,b,.none]⟩}
def cSlice (f:Bool) (l sl:Nat) (xs:List Value) (n:Nat) (va vb:Value) (ys:List Value):Ct:={code:= .builtin "list.__getitem__" ⟨[.ref l,.ref sl],[]⟩,hd:=none,zpre:=zsel f (l,lo xs n),pre:=(sl,slO va vb)::psel f (l,lo xs n),k:=1,fo:=λas _=> .ret (.ok (.ret (.ref (as.getD 0 0)))),post:=λ_ _=>slO va vb::(psel f (l,lo xs n)).map (·.2),news:=λ_ _=>[lo ys 0],fact:=λ_ _=>True}
theorem slice_ok (kt:KT) (w:World) (D U:Nat) (f:Bool) (l sl:Nat) (xs:List Value) (n:Nat) (va vb:Value) (ys:List Value) {lo' hi':Option Int} (pa:IsPart va lo') (pb:IsPart vb hi') (hz:xs.length<=1000) (hy:slicePick ⟨xs⟩ lo' hi' none=⟨ys⟩):(cSlice f l sl xs n va vb ys).Ok kt prg w D U:=
 Ct.of_builtin rfl entry_list_getitem λA hA h gens d tok os R H0 K=>by
  have ho:=sel_here H0 (f:=f) (p:=(l,lo xs n)) (λq hq=>hq) (λq hq=>zv _ hq);have hos:h.get? sl=some (slO va vb):=H0.st.here _ (zy ..);have hTs:(⟨h,gens,d,tok,os⟩:Shared).TypeIs (.ref sl) "slice":=⟨_,hos,rfl⟩
  have hs:sizeLine=16777216:=by decide
  have hx:(Array.mk xs).size<=sizeLine:=by show xs.length<=sizeLine;lia
  show wpAny _ _ (Builtin.List.listSubscript? (.ref sl)>>=_) _ _ _;refine zk ?_;unfold Builtin.List.listSubscript?;refine zk (wpAny_specialOf hTs slice_no_index ?_);simp only [Option.isNone_none,if_true];refine zX ?_;show wpAny _ _ (typeOf (.ref sl)>>=_) _ _ _;refine zk (wpAny_typeOf hTs ?_);rw [vk (by decide)];rw [listSliceParts_eq];refine zk (zk (qk hos rfl (x:= .none) rfl (zk (wpAny_listPart .none ?_))));rw [vk (by exact kZ)];refine zk (qk hos rfl (x:=va) rfl (zk (wpAny_listPart pa ?_)));refine zk (qk hos rfl (x:=vb) rfl (zk (wpAny_listPart pb (zX ?_))));refine zk (m:=Builtin.List.listItems (.ref l)) ?_;unfold Builtin.List.listItems;refine zk (wpAny_seqItems ho rfl (zX ?_));refine zk (wpAny_of_eq (sliceIndices_raw lo' hi' none (Array.mk xs).size (by simp)) ?_);refine zk (vx (zX ?_) (zZ (slicePick_size_le ⟨xs⟩ lo' hi' none) hx));have H1:=H0.push (o:=lo ys 0) rfl;have e:({cls:= .type "list",data:= .seq (slicePick ⟨xs⟩ lo' hi' none)}:Obj)=lo ys 0:=by rw [hy];rfl
  have K':=K (h.push (lo ys 0)) [h.objs.size] ⟨[tok],[],[],[]⟩ (zsel f (l,lo xs n)) rfl (by cases f<;>rfl) rfl (by cases f<;>exact H1) (λp hp=>by cases hp) trivial;rw [<-e] at K';exact K'
theorem from_ok (kt:KT) (w:World) (D U:Nat) (f:Bool) (l sl:Nat) (xs:List Value) (n k t:Nat) (hz:xs.length<=1000):(cSlice f l sl xs n (.int k t) .none (xs.drop k)).Ok kt prg w D U:=
 slice_ok kt w D U f l sl xs n _ _ _ (.int k t) .none hz (slicePick_from' ⟨xs⟩ k)
theorem upto_ok (kt:KT) (w:World) (D U:Nat) (f:Bool) (l sl:Nat) (xs:List Value) (n k t:Nat) (hz:xs.length<=1000):(cSlice f l sl xs n .none (.int k t) (xs.take k)).Ok kt prg w D U:=
 slice_ok kt w D U f l sl xs n _ _ _ .none (.int k t) hz (slicePick_upto' ⟨xs⟩ k)
theorem lo_ext (xs ys:List Value) (n:Nat):∃n',Obj.mapSeq (·++Array.mk ys) (lo xs n)=lo (xs++ys) n':=by
 unfold lo Obj.mapSeq;refine ⟨if ((Array.mk xs)++(Array.mk ys)).size==(Array.mk xs).size then n else n+1,?_⟩;simp
def cExtend (l b:Nat) (xs ys:List Value) (n m:Nat):Ct:={code:= .builtin "list.extend" ⟨[.ref l,.ref b],[]⟩,hd:=none,pre:=[(l,lo xs n),(b,lo ys m)],k:=0,fo:=λ_ _=> .ret (.ok (.ret .none)),post:=λ_ ns=>[lo (xs++ys) (ns.g 1),lo ys m],news:=λ_ _=>[],fact:=λ_ _=>True}
theorem extend_ok (kt:KT) (w:World) (D U l b:Nat) (xs ys:List Value) (n m:Nat) (hz:xs.length+ys.length<=1000):(cExtend l b xs ys n m).Ok kt prg w D U:=by
 have hs:sizeLine=16777216:=by decide
 have h1:(Array.mk xs).size+(Array.mk ys).size<=1000:=hz;have h0:¬(!(Array.mk xs).isEmpty&&Builtin.List.listTooLong ((Array.mk xs).size+(Array.mk ys).size))=true:=by
  unfold Builtin.List.listTooLong;have:¬((Array.mk xs).size+(Array.mk ys).size>sizeLine):=by lia
  simp only [decide_eq_false this,Bool.and_false];exact kZ
 obtain ⟨n',e⟩:=lo_ext xs ys n;refine Ct.of_meets (AutoSeq1.list_extend_list_list_0 l ⟨xs⟩ n b ⟨ys⟩ m h0 (by lia) (by lia)) rfl F.entry_list_extend (by decide+kernel) λA hA h gens d tok os R H0 K=>?_;refine ⟨H0.st.here _ (zy ..),H0.st.here _ (zv _ (zy ..)),?_⟩;refine K _ [] ⟨[tok,n'],[],[],[]⟩ [] rfl rfl rfl ?_ (λp hp=>by cases hp) trivial;have:=H0.upd 0 (f:=Obj.mapSeq (·++Array.mk ys)) rfl (by show (Obj.mapSeq (·++Array.mk ys) (lo xs n)).isFreed=false;rw [e];rfl);rw [show Obj.mapSeq (·++Array.mk ys) (lo xs n)=lo (xs++ys) n' from e] at this;exact this
theorem Held.extend {kt:KT} {hb h h':Heap} {ad0:List Nat} {Z0 Z L:List (Nat×Obj)} (H:Held kt hb ad0 Z0 h L Z) {a:Nat} {o:Obj} (hk:∀b o,h.get? b=some o->h'.get? b=some o) (ha:h'.get? a=some o) (hf:h.objs.size<=a) (hs:h.objs.size<=h'.objs.size):Held kt hb ad0 Z0 h' (L++[(a,o)]) Z:=by
 have lsz:∀p∈L,p.1<h.objs.size:=λp hp=>kY (H.st.here p hp);refine ⟨⟨λb o' hb' e=>hk _ _ (H.st.old b o' hb' e),zZ H.st.big hs,λp hp=>?_,?_,λp hp=>?_,λp hp=>?_⟩,λb o' e hn=>hk _ _ (H.keep b o' e hn),zZ H.grow hs,λp hp=>?_,H.zn⟩
 ·rcases jq.mp hp with h1|h1
  ·exact hk _ _ (H.st.here p h1)
  ·rw [jJ.mp h1];exact ha
 ·rw [zU]
  refine kX.mpr ⟨H.st.nd,by simp,λc hc b hb' e=>?_⟩;obtain ⟨p,hp,ep⟩:=ky.mp hc;have h1:p.1<h.objs.size:=lsz p hp;have ep:p.1=c:=ep;have hb':b=a:=by simpa using hb'
  rw [ep,e,hb'] at h1;exact absurd h1 (vQ.mpr hf)
 ·rcases jq.mp hp with h1|h1
  ·exact H.st.ge p h1
  ·rw [jJ.mp h1];exact zZ H.st.big hf
 ·obtain ⟨z1,z2⟩:=H.st.z p hp
  refine ⟨hk _ _ z1,λhm=>?_⟩;rw [zU] at hm;rcases jq.mp hm with h1|h1
  ·exact z2 h1
  ·have h2:=kY z1
   have h1:p.1=a:=by simpa using h1
   rw [h1] at h2;exact absurd h2 (vQ.mpr hf)
 ·rcases jq.mp hp with h1|h1
  ·exact H.new p h1
  ·rw [jJ.mp h1];exact .inr (zZ H.grow hf)
noncomputable def ins1 (a:Int):List Int->List Int
 |[]=>[a]
 |b::l=>match decide (a<=b) with|true=>a::b::l|false=>b::ins1 a l
def isort:List Int->List Int
 |[]=>[]
 |a::l=>ins1 a (isort l)
theorem ins1_perm (a:Int):∀l,(ins1 a l).Perm (a::l)
 |[]=> .refl _
 |b::l=>by
  unfold ins1;cases decide (a<=b) with
  |true=>exact .refl _
  |false=>exact ((ins1_perm a l).cons b).trans (.swap a b l)
theorem isort_perm:∀l,(isort l).Perm l
 |[]=> .refl _
 |a::l=>(ins1_perm a _).trans ((isort_perm l).cons a)
theorem ins1_sorted (a:Int):∀l:List Int,l.Pairwise (·<=·)->(ins1 a l).Pairwise (·<=·)
 |[],_=>by unfold ins1;exact pairwise_singleton _ _
 |b::l,h=>by
  unfold ins1;rw [pairwise_cons] at h;cases hd:decide (a<=b) with
  |true=>
   have hab:=of_decide_eq_true hd;refine pairwise_cons.mpr ⟨λc hc=>?_,pairwise_cons.mpr h⟩;rcases vz.mp hc with rfl|hc
   ·exact hab
   ·exact Int.le_trans hab (h.1 c hc)
  |false=>
   have hab:=of_decide_eq_false hd;refine pairwise_cons.mpr ⟨λc hc=>?_,ins1_sorted a l h.2⟩;rcases vz.mp ((ins1_perm a l).mem_iff.mp hc) with rfl|hc
   ·lia
   ·exact h.1 c hc
theorem isort_sorted:∀l:List Int,(isort l).Pairwise (·<=·)
 |[]=> .nil
 |a::l=>ins1_sorted a _ (isort_sorted l)
theorem sorted_is {l s:List Int} (hp:s.Perm l) (hs:s.Pairwise (·<=·)):s=isort l:=
 Perm.eq_of_pairwise (λa b _ _=>Int.le_antisymm) hs (isort_sorted l) (hp.trans (isort_perm l).symm)
def cSorted (f:Bool) (l:Nat) (xs:List Value) (n:Nat) (out:List Int):Ct:={code:= .builtin "sorted" ⟨[.ref l],[]⟩,hd:=none,zpre:=zsel f (l,lo xs n),pre:=psel f (l,lo xs n),k:=1,fo:=λas _=> .ret (.ok (.ret (.ref (as.getD 0 0)))),post:=λ_ _=>(psel f (l,lo xs n)).map (·.2),news:=λ_ ns=>[lo ns.v (ns.g 1)],fact:=λ_ ns=>IntsAre ns.v out}
theorem sorted_ok (kt:KT) (w:World) (D U:Nat) (f:Bool) (l:Nat) (n:Nat) {xs:List Value} {xI:List Int} (hI:IntsAre xs xI) (hz:xs.length<64):(cSorted f l xs n (isort xI)).Ok kt prg w D U:=
 Ct.of_builtin rfl entry_sorted λA hA h gens d tok os R H0 K=>by
  have ho:=sel_here H0 (f:=f) (p:=(l,lo xs n)) (λq hq=>hq) (λq hq=>hq);have hl:h.IsList l xs.toArray:=⟨_,ho,rfl,n,rfl⟩
  have hs0:sizeLine=16777216:=by decide
  unfold Builtin.«sorted»;refine zk (m:=checkCount "sorted" 1 1 _) (zX ?_);refine zk (collect_list (s:=⟨h,gens,d,tok,os⟩) hl ?_ (by lia));refine zk (wpAny_newList ?_);have hsz:((h.push (seqObj "list" #[] 0)).update h.objs.size (Obj.mapSeq (·++xs.toArray))).objs.size=h.objs.size+1:=by
   rw [Heap.size_update,Heap.size_push]
  have hoL:(((h.push (seqObj "list" #[] 0)).update h.objs.size (Obj.mapSeq (·++xs.toArray))).push (seqObj "list" xs.toArray 0)).get? (h.objs.size+1)=some (seqObj "list" xs.toArray 0):=by
   rw [<-hsz];exact Heap.get?_push_size _ rfl
  show wpAny _ _ _ _ _ {heap:=((h.push (seqObj "list" #[] 0)).update h.objs.size (Obj.mapSeq (·++xs.toArray))).push (seqObj "list" xs.toArray 0),gens:=gens,drawn:=d,toks:=tok,os:=os};rw [hsz];refine zk (wpAny_holding (wpAny_call_entry slot_list_sort ⟨_,hoL,rfl⟩ entry_list_sort (list_sort_tree hoL hI hz λout ns' a1 a2 a3=>⟨_,rfl,?_⟩) (args_list_sort _)));refine zX ?_;obtain ⟨e,he⟩:=sortedAll_at h xs out;have hgrow:h.objs.size<=(sortedAll h xs out).objs.size:=Nat.le_of_lt (Nat.lt_of_succ_lt (kY he));have H1:=H0.extend (h':=sortedAll h xs out) (λb o hb=>sortedAll_old hb) he (Nat.le_succ _) hgrow;refine K (sortedAll h xs out) [h.objs.size+1] ⟨[tok,e],[],out.toList,[]⟩ (zsel f (l,lo xs n)) rfl (by cases f<;>rfl) rfl ?_ (λp hp=>by cases hp) (by show IntsAre out.toList _;rw [<-sorted_is a2 a3];exact a1);cases f<;>exact H1
def cAdd2 (f g:Bool) (l b:Nat) (xs ys:List Value) (n m:Nat):Ct:={code:= .builtin "list.__add__" ⟨[.ref l,.ref b],[]⟩,zpre:=zsel f (l,lo xs n)++zsel g (b,lo ys m),pre:=psel f (l,lo xs n)++psel g (b,lo ys m),k:=1,fo:=λas _=> .ret (.ok (.ret (.ref (as.getD 0 0)))),post:=λ_ _=>(psel f (l,lo xs n)).map (·.2)++(psel g (b,lo ys m)).map (·.2),news:=λ_ _=>[lo (xs++ys) 0],fact:=λ_ _=>True}
theorem add2_ok (kt:KT) (w:World) (D U:Nat) (f g:Bool) (l b:Nat) (xs ys:List Value) (n m:Nat) (hsz:xs.length+ys.length<=1000):(cAdd2 f g l b xs ys n m).Ok kt prg w D U:=by
 have hs:sizeLine=16777216:=by decide
 have hx:(Array.mk xs).size+(Array.mk ys).size<=sizeLine:=by show xs.length+ys.length<=sizeLine;lia
 refine Ct.of_meets (AutoSeq1.list___add___list_list_0 l ⟨xs⟩ n b ⟨ys⟩ m hx) rfl F.entry_list_add (by decide+kernel) λA hA h gens d tok os R H0 K=>?_;refine ⟨sel_here H0 (f:=f) (p:=(l,lo xs n)) (λq hq=>jj _ hq) (λq hq=>jj _ hq),sel_here H0 (f:=g) (p:=(b,lo ys m)) (λq hq=>jz _ hq) (λq hq=>jz _ hq),?_⟩;refine K _ [h.objs.size] ⟨[tok],[],[],[]⟩ (zsel f (l,lo xs n)++zsel g (b,lo ys m)) rfl (by cases f<;>cases g<;>rfl) rfl ?_ (λp hp=>by cases hp) trivial;have e:(Array.mk xs)++(Array.mk ys)=Array.mk (xs++ys):=by simp
 have:=H0.push (o:={cls:= .type "list",data:= .seq (Array.mk xs++Array.mk ys)}) rfl;rw [e] at this;show Held kt h _ _ (h.push {cls:= .type "list",data:= .seq (Array.mk xs++Array.mk ys)}) _ _;rw [e];cases f<;>cases g<;>exact this
noncomputable def eqJ (xI yI:List Int) (j:Nat):Bool:=xI.getD j 0==yI.getD j 0
theorem all_ints {xI yI:List Int} (hl:xI.length=yI.length):(List.range xI.length).all (eqJ xI yI)=decide (xI=yI):=by
 rw [Bool.eq_iff_iff,vy,decide_eq_true_iff];constructor
 ·intro h
  apply ext_getElem hl;intro j h1 h2;have:=h j (mem_range.mpr h1);unfold eqJ at this;rw [zY,zY,zQ h1,zQ h2] at this;simpa using this
 ·rintro rfl j _
  unfold eqJ;exact beq_self_eq_true _
theorem eqAt_j {xs ys:List Value} {xI yI:List Int} (hI:IntsAre xs xI) (hJ:IntsAre ys yI) (A:Around) (s:Shared):∀j (h1:j<(Array.mk xs).size) (h2:j<(Array.mk ys).size),SeqAt.EqAt A s (Array.mk xs)[j] (Array.mk ys)[j] (eqJ xI yI j):=λj h1 h2=>by
 have h1':j<xs.length:=h1;have h2':j<ys.length:=h2;obtain ⟨a,t,ea,ha⟩:=hI.at j xs[j] (zQ h1');obtain ⟨b,u,eb,hb⟩:=hJ.at j ys[j] (zQ h2');have e1:(Array.mk xs)[j]= .int a t:=ea;have e2:(Array.mk ys)[j]= .int b u:=eb;rw [e1,e2];have e3:eqJ xI yI j=(a==b):=by
  unfold eqJ;rw [zY,zY,ha,hb];rfl
 rw [e3];exact (MeetsSeq.EqGives.int a b t u).at A s
def ctRd2 (c:Code) (f g:Bool) (p q:Nat×Obj) (v:Value):Ct:={code:=c,zpre:=zsel f p++zsel g q,pre:=psel f p++psel g q,k:=0,fo:=λ_ _=> .ret (.ok (.ret v)),post:=λ_ _=>(psel f p++psel g q).map (·.2),news:=λ_ _=>[],fact:=λ_ _=>True}
theorem Ct.rd2_meets {kt:KT} {w:World} {D U:Nat} {id:String} {args:Args} {b:Builtin} {S:PySem.Spec} {f g:Bool} {p q:Nat×Obj} {v:Value} (M:Meets (b args) S) (en:entryFor table id=some b) (pl:plainId id=true) (hUU:U<=9000)
  (H:∀(A:Around) (h:Heap) (gens:Array GenState) (dr:Drawn) (tok:Nat) (os:OsState) (R:Result->Shared->Prop),A.units<=9000->h.get? p.1=some p.2->h.get? q.1=some q.2->R (.ok (.ret v)) ⟨h,gens,dr,tok,os⟩->S A R ⟨h,gens,dr,tok,os⟩):(ctRd2 (.builtin id args) f g p q v).Ok kt prg w D U:=by
 intro A hA hF hD hU h gens d tok os R S0 K;have H0:=Held.start S0;refine codeAny_builtin en ?_;rw [vZ pl];refine M prg w A R _ (H A h gens d tok os R (by lia) (sel_here H0 (f:=f) (λx hx=>jj _ hx) (λx hx=>jj _ hx)) (sel_here H0 (f:=g) (λx hx=>jz _ hx) (λx hx=>jz _ hx)) ?_);have H1:Held kt h (((psel f p++psel g q)).map (·.1)) (zsel f p++zsel g q) h ((((psel f p++psel g q)).map (·.1)).zip (((psel f p++psel g q)).map (·.2))++[]) (zsel f p++zsel g q):=by
  rw [zip_map_snd,jx];exact H0
 exact Ct.fin (c:=ctRd2 (.builtin id args) f g p q v) K [] ⟨[tok],[],[],[]⟩ H1 rfl (by simp [ctRd2]) rfl (λp hp=>by cases hp) trivial
def cLEq (f g:Bool) (l b:Nat) (xs ys:List Value) (n m:Nat) (r:Bool):Ct:=ctRd2 (.builtin "list.__eq__" ⟨[.ref l,.ref b],[]⟩) f g (l,lo xs n) (b,lo ys m) (.bool r)
def cLNe (f g:Bool) (l b:Nat) (xs ys:List Value) (n m:Nat) (r:Bool):Ct:=ctRd2 (.builtin "list.__ne__" ⟨[.ref l,.ref b],[]⟩) f g (l,lo xs n) (b,lo ys m) (.bool r)
theorem leq_ok (kt:KT) (w:World) (D U:Nat) (hUU:U<=9000) (f g:Bool) (l b n m:Nat) {xs ys:List Value} {xI yI:List Int} (hI:IntsAre xs xI) (hJ:IntsAre ys yI) {r:Bool} (hr:decide (xI=yI)=r):(cLEq f g l b xs ys n m r).Ok kt prg w D U:=by
 by_cases hl:xI.length=yI.length
 ·refine Ct.rd2_meets (SeqAt.list_eqAt l b ⟨xs⟩ ⟨ys⟩ n m none none #[] #[] (by show xs.length=ys.length;rw [hI.length,hJ.length,hl]) (eqJ xI yI)) F.entry_list_eq (by decide+kernel) hUU λA h gens d tok os R hu h1 h2 hR=>⟨h1,h2,eqAt_j hI hJ _ _,?_⟩
  rw [show (Array.mk xs).size=xI.length from hI.length,all_ints hl,hr];exact hR
 ·have:r=false:=by rw [<-hr];exact decide_eq_false λe=>hl (by rw [e])
  subst this;exact Ct.rd2_meets (SeqAt.list_eq_lengthsAt l b ⟨xs⟩ ⟨ys⟩ n m none none #[] #[] (by show (xs.length !=ys.length)=true;rw [hI.length,hJ.length];simpa using hl)) F.entry_list_eq (by decide+kernel) hUU λA h gens d tok os R hu h1 h2 hR=>⟨h1,h2,hR⟩
theorem lne_ok (kt:KT) (w:World) (D U:Nat) (hUU:U<=9000) (f g:Bool) (l b n m:Nat) {xs ys:List Value} {xI yI:List Int} (hI:IntsAre xs xI) (hJ:IntsAre ys yI) {r:Bool} (hr:(!decide (xI=yI))=r):(cLNe f g l b xs ys n m r).Ok kt prg w D U:=by
 by_cases hl:xI.length=yI.length
 ·refine Ct.rd2_meets (SeqAt.list_neAt l b ⟨xs⟩ ⟨ys⟩ n m none none #[] #[] (by show xs.length=ys.length;rw [hI.length,hJ.length,hl]) (eqJ xI yI)) F.entry_list_ne (by decide+kernel) hUU λA h gens d tok os R hu h1 h2 hR=>⟨h1,h2,eqAt_j hI hJ _ _,?_⟩
  rw [show (Array.mk xs).size=xI.length from hI.length,all_ints hl,hr];exact hR
 ·have:r=true:=by rw [<-hr,decide_eq_false λe=>hl (by rw [e])];rfl
  subst this;exact Ct.rd2_meets (SeqAt.list_ne_lengthsAt l b ⟨xs⟩ ⟨ys⟩ n m none none #[] #[] (by show (xs.length !=ys.length)=true;rw [hI.length,hJ.length];simpa using hl)) F.entry_list_ne (by decide+kernel) hUU λA h gens d tok os R hu h1 h2 hR=>⟨h1,h2,hR⟩
theorem eqAt_lists {A:Around} {s:Shared} {l b n m:Nat} {xs ys:List Value} {xI:List Int} (hl:s.heap.get? l=some (lo xs n)) (hb:s.heap.get? b=some (lo ys m)) (hI:IntsAre xs xI) (hJ:IntsAre ys xI) (hu:A.units<cLine):SeqAt.EqAt A s (.ref l) (.ref b) true:=by
 by_cases e:l=b
 ·rw [e];exact SeqAt.EqAt.same _
 ·have:=SeqAt.RcAt.lists (A:=A) (s:=s) (l:=l) (b:=b) (items:=⟨xs⟩) (items2:=⟨ys⟩) (e:=eqJ xI xI) ⟨_,hl,rfl,n,rfl⟩ ⟨_,hb,rfl,m,rfl⟩ (by show xs.length=ys.length;rw [hI.length,hJ.length]) hu (eqAt_j hI hJ _ _)
  rw [show (Array.mk xs).size=xI.length from hI.length,all_ints rfl,decide_eq_true rfl] at this;exact SeqAt.EqAt.of_refs e this
def IsL (o:Obj) (xI:List Int):Prop:=∃xs n,o=lo xs n/\IntsAre xs xI
theorem IsL.of {xs:List Value} {n:Nat} {xI:List Int} (h:IntsAre xs xI):IsL (lo xs n) xI:=⟨xs,n,rfl,h⟩
def cTNe (t u a b c d:Nat) (oa ob oc od:Obj):Ct:={code:= .builtin "tuple.__ne__" ⟨[.ref t,.ref u],[]⟩,pre:=[(t,tu [.ref a,.ref b]),(u,tu [.ref c,.ref d]),(a,oa),(b,ob),(c,oc),(d,od)],k:=0,fo:=λ_ _=> .ret (.ok (.ret (.bool false))),post:=λ_ _=>[tu [.ref a,.ref b],tu [.ref c,.ref d],oa,ob,oc,od],news:=λ_ _=>[],fact:=λ_ _=>True}
theorem tne_ok (kt:KT) (w:World) (D U:Nat) (hUU:U<=9000) (t u a b c d:Nat) {oa ob oc od:Obj} {xI yI:List Int} (h1:IsL oa xI) (h2:IsL ob yI) (h3:IsL oc xI) (h4:IsL od yI):(cTNe t u a b c d oa ob oc od).Ok kt prg w D U:=by
 obtain ⟨as,na,rfl,h1⟩:=h1;obtain ⟨bs,nb,rfl,h2⟩:=h2;obtain ⟨cs,nc,rfl,h3⟩:=h3;obtain ⟨ds,nd,rfl,h4⟩:=h4;intro A hA hF hD hU h gens dr tok os R S0 K;have H0:=Held.start S0;refine codeAny_builtin F.entry_tuple_ne ?_;rw [vZ (by decide+kernel)];have g:=λi p (hi:(cTNe t u a b c d (lo as na) (lo bs nb) (lo cs nc) (lo ds nd)).pre[i]?=some p)=>H0.st.here p (jy hi);have hcl:cLine=9900:=by decide
 refine SeqAt.tuple_neAt t u ⟨[.ref a,.ref b]⟩ ⟨[.ref c,.ref d]⟩ 0 0 none none #[] #[] (λ_=>true) prg w A R _ ⟨g 0 _ rfl,g 1 _ rfl,λj j1 j2=>?_,?_⟩
 ·have hj:j<2:=j1
  rcases j with _|_|j
  ·exact eqAt_lists (g 2 _ rfl) (g 4 _ rfl) h1 h3 (by show A.units+1<cLine;lia)
  ·exact eqAt_lists (g 3 _ rfl) (g 5 _ rfl) h2 h4 (by show A.units+1<cLine;lia)
  ·lia
 ·exact Ct.fin (c:=cTNe t u a b c d (lo as na) (lo bs nb) (lo cs nc) (lo ds nd)) K [] ⟨[tok],[],[],[]⟩ H0 rfl rfl rfl (λp hp=>by cases hp) trivial
noncomputable def b2n (b:Bool):Int:=if b=true then 1 else 0
def iop (id:String) (x y:Int) (t u:Nat) (r:Bool):Ct:=ctVal (.call (.builtin id) ⟨[.int x t,.int y u],[]⟩) (.bool r)
noncomputable def r_eq (P:Params) (x y:Int) (t u:Nat):Sp:={c:= .call (.builtin "int.__eq__") ⟨[.int x t,.int y u],[]⟩,hd:=none,i:=[],r:=λas ns=> .ret (.ok (.ret (.bool (x==y)))),ns:=λtok _ _=>⟨[(tok)],[],[],[]⟩}
theorem r_eq_ok (w:World) (x y:Int) (t u:Nat):OK (r_eq · x y t u) w 900 9000:=
 okF 0 (trivial)
theorem iop_eq (w:World) {x y:Int} (t u:Nat) {r:Bool} (h:(x==y)=r):(iop "int.__eq__" x y t u r).Ok (ktOf w.params) prg w 900 9000:=by subst h;exact r_eq_ok w x y t u
noncomputable def r_ne (P:Params) (x y:Int) (t u:Nat):Sp:={c:= .call (.builtin "int.__ne__") ⟨[.int x t,.int y u],[]⟩,hd:=none,i:=[],r:=λas ns=> .ret (.ok (.ret (.bool (x !=y)))),ns:=λtok _ _=>⟨[(tok)],[],[],[]⟩}
theorem r_ne_ok (w:World) (x y:Int) (t u:Nat):OK (r_ne · x y t u) w 900 9000:=
 okF 0 (trivial)
theorem iop_ne (w:World) {x y:Int} (t u:Nat) {r:Bool} (h:(x !=y)=r):(iop "int.__ne__" x y t u r).Ok (ktOf w.params) prg w 900 9000:=by subst h;exact r_ne_ok w x y t u
noncomputable def r_lt (P:Params) (x y:Int) (t u:Nat):Sp:={c:= .call (.builtin "int.__lt__") ⟨[.int x t,.int y u],[]⟩,hd:=none,i:=[],r:=λas ns=> .ret (.ok (.ret (.bool (decide (x<y))))),ns:=λtok _ _=>⟨[(tok)],[],[],[]⟩}
theorem r_lt_ok (w:World) (x y:Int) (t u:Nat):OK (r_lt · x y t u) w 900 9000:=
 okF 0 (trivial)
theorem iop_lt (w:World) {x y:Int} (t u:Nat) {r:Bool} (h:(decide (x<y))=r):(iop "int.__lt__" x y t u r).Ok (ktOf w.params) prg w 900 9000:=by subst h;exact r_lt_ok w x y t u
noncomputable def r_gt (P:Params) (x y:Int) (t u:Nat):Sp:={c:= .call (.builtin "int.__gt__") ⟨[.int x t,.int y u],[]⟩,hd:=none,i:=[],r:=λas ns=> .ret (.ok (.ret (.bool (decide (x>y))))),ns:=λtok _ _=>⟨[(tok)],[],[],[]⟩}
theorem r_gt_ok (w:World) (x y:Int) (t u:Nat):OK (r_gt · x y t u) w 900 9000:=
 okF 0 (trivial)
theorem iop_gt (w:World) {x y:Int} (t u:Nat) {r:Bool} (h:(decide (x>y))=r):(iop "int.__gt__" x y t u r).Ok (ktOf w.params) prg w 900 9000:=by subst h;exact r_gt_ok w x y t u
noncomputable def r_ge (P:Params) (x y:Int) (t u:Nat):Sp:={c:= .call (.builtin "int.__ge__") ⟨[.int x t,.int y u],[]⟩,hd:=none,i:=[],r:=λas ns=> .ret (.ok (.ret (.bool (decide (x≥y))))),ns:=λtok _ _=>⟨[(tok)],[],[],[]⟩}
theorem r_ge_ok (w:World) (x y:Int) (t u:Nat):OK (r_ge · x y t u) w 900 9000:=
 okF 0 (trivial)
theorem iop_ge (w:World) {x y:Int} (t u:Nat) {r:Bool} (h:(decide (x≥y))=r):(iop "int.__ge__" x y t u r).Ok (ktOf w.params) prg w 900 9000:=by subst h;exact r_ge_ok w x y t u
def twc (P:Params) (x y:Int) (t u:Nat):Sp:={c:= .call (.ref 185) ⟨[.int x t,.int y u],[]⟩,i:=[],r:=λas ns=> .ret (.ok (.ret (.int (b2n (decide (x>y))-b2n (decide (x<y))) (ns.g 1)))),s:=1,tr:=[0,1,1,1,1,1,1,1,1],ns:=λtok _ _=>⟨[(tok+1+1+1),tok+2],[],[],[]⟩}
theorem twc_ok (w:World) (x y:Int) (t u:Nat):OK (twc · x y t u) w 840 8700:=
 okF 0 (trivial)
def sgn0 (P:Params) (x y:Int) (t u:Nat):Sp:={c:= .call (.ref 199) ⟨[.int x t,.int y u],[]⟩,i:=[],r:=λas ns=> .ret (.ok (.ret (.int 0 (ns.g 1)))),ors:=[(λX=>iop "int.__eq__" x y t u true,[])],s:=1,m:=1,tr:=[0,1,1,1,1,1,1],cs:=[1],ns:=λ_ _ N=>⟨[((N 0).t+1),(N 0).t],[],[],[]⟩}
theorem sgn0_ok (w:World) (x y:Int) (t u:Nat) (h:(x==y)=true):OK (sgn0 · x y t u) w 840 8700:=
 okF 1 (qC (λX hF=>λq hq=>nomatch hq) (λ_ _=>iop_eq w t u h)<|trivial)
def sgnN (P:Params) (x y:Int) (t u:Nat):Sp:={c:= .call (.ref 199) ⟨[.int x t,.int y u],[]⟩,i:=[],r:=λas ns=> .ret (.ok (.ret (.int (-1) (ns.g 1)))),ors:=[(λX=>iop "int.__eq__" x y t u false,[]),(λX=>iop "int.__gt__" y x u t true,[]),(λX=>iop "int.__eq__" y x u t false,[])],s:=6,m:=3,tr:=[0,1,1,1,1,1,1,0,0,1,1,2,2,2,3,4,3,3,3,3,2,3,3,4,4,4,4,3,3,3,3,2,3,3,4,4,4,4,3,3,3,3,2,3,3,6,4,4,4,1],cs:=[1,10,3],ns:=λ_ _ N=>⟨[((N 2).t+1+1),(N 2).t+1],[],[],[]⟩}
theorem sgnN_ok (w:World) (x y:Int) (t u:Nat) (h:(x==y)=false) (h2:decide (y>x)=true) (h3:(y==x)=false):OK (sgnN · x y t u) w 840 8700:=
 okF 3 (qC (λX hF=>λq hq=>nomatch hq) (λ_ _=>iop_eq w t u h)<|qC (λX hF=>λq hq=>nomatch hq) (λ_ _=>iop_gt w u t h2)<|qC (λX hF=>λq hq=>nomatch hq) (λ_ _=>iop_eq w u t h3)<|trivial)
def sgnP (P:Params) (x y:Int) (t u:Nat):Sp:={c:= .call (.ref 199) ⟨[.int x t,.int y u],[]⟩,i:=[],r:=λas ns=> .ret (.ok (.ret (.int 1 (ns.g 1)))),ors:=[(λX=>iop "int.__eq__" x y t u false,[]),(λX=>iop "int.__gt__" y x u t false,[]),(λX=>iop "int.__eq__" x x t t true,[])],s:=6,m:=3,tr:=[0,1,1,1,1,1,1,0,0,1,1,2,2,2,3,4,3,3,3,3,2,3,3,4,4,4,4,3,3,3,3,2,3,3,4,3,3,3,3,2,3,3,6,4,4,4,1],cs:=[1,10,3],ns:=λ_ _ N=>⟨[((N 2).t+1),(N 2).t],[],[],[]⟩}
theorem sgnP_ok (w:World) (x y:Int) (t u:Nat) (h:(x==y)=false) (h2:decide (y>x)=false):OK (sgnP · x y t u) w 840 8700:=
 okF 3 (qC (λX hF=>λq hq=>nomatch hq) (λ_ _=>iop_eq w t u h)<|qC (λX hF=>λq hq=>nomatch hq) (λ_ _=>iop_gt w u t h2)<|qC (λX hF=>λq hq=>nomatch hq) (λ_ _=>iop_eq w t t (by simp))<|trivial)
noncomputable def iE (p:Int×Nat×Value):DictEntry:={hash:=hashInt p.1,key:= .int p.1 p.2.1,val:=p.2.2}
def idO (es:List (Int×Nat×Value)) (n:Nat):Obj:=dob (es.map iE) n
noncomputable def iLook (es:List (Int×Nat×Value)) (k:Int):Option Value:=(es.find? λp=>p.1==k).map (·.2.2)
theorem iE_keys (w:World) (es:List (Int×Nat×Value)):KeysOf (intKind prg w) ⟨es.map iE⟩:=λe he=>by
 have he:e∈es.map iE:=by simpa using he
 obtain ⟨p,-,rfl⟩:=ky.mp he;exact ⟨p.1,intKind_is prg w p.1 p.2.1,rfl⟩
theorem iE_find (w:World) (k:Int):∀es:List (Int×Nat×Value),(es.map iE).find? (λe=>(intKind prg w).is k e.key)=(es.find? λp=>p.1==k).map iE
 |[]=>rfl
 |p::l=>by
  have hp:(intKind prg w).is k (iE p).key=(p.1==k):=by
   show Value.isInt k (.int p.1 p.2.1)=_;simp [Value.isInt]
  rw [kQ,find?_cons,find?_cons,hp,iE_find w k l];cases p.1==k<;>rfl
theorem idO_map (w:World) {h:Heap} {a:Nat} {es:List (Int×Nat×Value)} {n:Nat} (ho:h.get? a=some (idO es n)):h.MapOf (intKind prg w) a (iLook es):=
 ⟨idO es n,⟨es.map iE⟩,n,ho,⟨rfl,rfl,rfl⟩,rfl,iE_keys w es,λk=>by
  unfold findBy;rw [find?_toArray,iE_find w k es];unfold iLook;cases es.find? (λp=>p.1==k)<;>rfl⟩
def cDGet (f:Bool) (d:Nat) (es:List (Int×Nat×Value)) (n:Nat) (k:Int) (t:Nat) (v:Value):Ct:=ctRd (.builtin "dict.get" ⟨[.ref d,.int k t],[]⟩) f (d,idO es n) (λ_=>v) 1
theorem dget_ok (kt:KT) (w:World) (D U:Nat) (f:Bool) (d:Nat) (es:List (Int×Nat×Value)) (n:Nat) (k:Int) (t:Nat) {v:Value} (hd:(d==sysModules)=false) (hv:(iLook es k).getD .none=v):(cDGet f d es n k t v).Ok kt prg w D U:=
 Ct.rd_any F.entry_dict_get λA h gens dr tok os R hp hR=>by
  rw [vZ (by decide+kernel)];exact meets_dict_get (intKind prg w) d (intKind_is prg w k t) hd A R _ ⟨_,idO_map w hp,by rw [hv];exact hR⟩
def cDItem (f:Bool) (d:Nat) (es:List (Int×Nat×Value)) (n:Nat) (k:Int) (t:Nat) (v:Value):Ct:=ctRd (.builtin "dict.__getitem__" ⟨[.ref d,.int k t],[]⟩) f (d,idO es n) (λ_=>v) 1
theorem ditem_ok (kt:KT) (w:World) (D U:Nat) (f:Bool) (d:Nat) (es:List (Int×Nat×Value)) (n:Nat) (k:Int) (t:Nat) {v:Value} (hv:iLook es k=some v):(cDItem f d es n k t v).Ok kt prg w D U:=
 Ct.rd_any F.entry_dict_getitem λA h gens dr tok os R hp hR=>by
  rw [vZ (by decide+kernel)];exact meets_dict_getitem (intKind prg w) d (intKind_is prg w k t) A R _ ⟨_,v,idO_map w hp,hv,hR⟩
def cDHas (f:Bool) (d:Nat) (es:List (Int×Nat×Value)) (n:Nat) (k:Int) (t:Nat) (r:Bool):Ct:=ctRd (.builtin "dict.__contains__" ⟨[.ref d,.int k t],[]⟩) f (d,idO es n) (λ_=> .bool r) 1
theorem dhas_ok (kt:KT) (w:World) (D U:Nat) (f:Bool) (d:Nat) (es:List (Int×Nat×Value)) (n:Nat) (k:Int) (t:Nat) {r:Bool} (hd:(d==sysModules)=false) (hr:(iLook es k).isSome=r):(cDHas f d es n k t r).Ok kt prg w D U:=
 Ct.rd_any F.entry_dict_contains λA h gens dr tok os R hp hR=>by
  rw [vZ (by decide+kernel)];exact meets_dict_contains (intKind prg w) d (intKind_is prg w k t) hd A R _ ⟨_,idO_map w hp,by rw [hr];exact hR⟩
section
theorem lenS {α:Type} {l:List α} {n:Nat} (h:l.length=n+1):∃a t,l=a::t/\t.length=n:=by
 cases l with
 |nil=>cases h
 |cons a t=>exact ⟨a,t,rfl,Nat.succ.inj h⟩
theorem ln2 {α:Type} {l:List α} (h:l.length=2):∃a b,l=[a,b]:=by
 obtain ⟨a,l1,rfl,h1⟩:=lenS h;obtain ⟨b,l2,rfl,h2⟩:=lenS h1;exact ⟨a,b,by rw [zV.mp h2]⟩
theorem ln3 {α:Type} {l:List α} (h:l.length=3):∃a b c,l=[a,b,c]:=by
 obtain ⟨a,l1,rfl,h1⟩:=lenS h;obtain ⟨b,c,rfl⟩:=ln2 h1;exact ⟨a,b,c,rfl⟩
theorem ln5 {α:Type} {l:List α} (h:l.length=5):∃a b c d e,l=[a,b,c,d,e]:=by
 obtain ⟨a,l1,rfl,h1⟩:=lenS h;obtain ⟨b,l2,rfl,h2⟩:=lenS h1;obtain ⟨c,d,e,rfl⟩:=ln3 h2;exact ⟨a,b,c,d,e,rfl⟩
section
variable {kt:KT} {hb h h':Heap} {ad0:List Nat} {Z0 Z L R P:List (Nat×Obj)}
theorem Held.perm {L':List (Nat×Obj)} (H:Held kt hb ad0 Z0 h L Z) (p:L.Perm L'):Held kt hb ad0 Z0 h L' Z:=
 ⟨⟨H.st.old,H.st.big,λq hq=>H.st.here q (p.mem_iff.mpr hq),(p.map (·.1)).nodup_iff.mp H.st.nd,λq hq=>H.st.ge q (p.mem_iff.mpr hq),λq hq=>⟨(H.st.z q hq).1,λhm=>(H.st.z q hq).2 ((p.map (·.1)).mem_iff.mpr hm)⟩⟩,H.keep,H.grow,λq hq=>H.new q (p.mem_iff.mpr hq),H.zn⟩
theorem Held.afterP (H:Held kt hb ad0 Z0 h (P++R) Z) {post:List Obj} {as:List Nat} {news:List Obj} {Zc Z1:List (Nat×Obj)} (S1:St1 h h' Zc P post as news Z1):Held kt hb ad0 Z0 h' ((P.map (·.1)).zip post++(as.zip news++R)) Z:=by
 have nd0:=H.st.nd;rw [zU] at nd0;have nd1:=kX.mp nd0;have e1:((P.map (·.1)).zip post).map (·.1)=P.map (·.1):=by rw [map_fst_zip];rw [zJ,S1.plen];exact jv _
 have e2:(as.zip news).map (·.1)=as:=by rw [map_fst_zip];rw [S1.nlen];exact jv _
 have lP:∀b∈P.map (·.1),216<=b/\b<h.objs.size/\(b∈ad0\/hb.objs.size<=b):=λb hb'=>by
  obtain ⟨p,hp,rfl⟩:=ky.mp hb';have:=jj R hp;exact ⟨H.st.ge p this,kY (H.st.here p this),H.new p this⟩
 have lR:∀p∈R,216<=p.1/\p.1<h.objs.size/\(p.1∈ad0\/hb.objs.size<=p.1)/\p.1∉P.map (·.1)/\h.get? p.1=some p.2:=λp hp=>by
  have:=jz P hp;exact ⟨H.st.ge p this,kY (H.st.here p this),H.new p this,λhm=>nd1.2.2 _ hm _ (zW hp) rfl,H.st.here p this⟩
 have where_:∀p∈(P.map (·.1)).zip post++(as.zip news++R),(p∈(P.map (·.1)).zip post)\/(p∈as.zip news)\/p∈R:=λp hp=>by
  rcases jq.mp hp with hp|hp
  ·exact .inl hp
  ·rcases jq.mp hp with hp|hp
   ·exact .inr (.inl hp)
   ·exact .inr (.inr hp)
 have m1:∀p∈(P.map (·.1)).zip post,p.1∈P.map (·.1):=λp hp=>by rw [<-e1];exact zW hp
 have m2:∀p∈as.zip news,p.1∈as:=λp hp=>by
  have:=zW (f:=(·.1)) hp;rw [e2] at this;exact this
 have hbg:=H.grow;have hbig:=H.st.big;refine ⟨⟨λb o hb' e=>S1.keep b o (H.st.old b o hb' e) λhm=>?_,zZ H.st.big S1.grow,λp hp=>?_,?_,λp hp=>?_,λp hp=>?_⟩,λb o e hn=>S1.keep b o (H.keep b o e hn) λhm=>?_,zZ H.grow S1.grow,λp hp=>?_,H.zn⟩
 ·have:=(lP b hm).1;lia
 ·rcases where_ p hp with hp|hp|hp
  ·obtain ⟨i,hi⟩:=getElem?_of_mem hp
   rw [vW,vU] at hi;obtain ⟨i1,i2⟩:=hi;cases hg:P[i]? with
   |none=>rw [hg] at i1;cases i1
   |some g=>
    rw [hg] at i1;have i1:g.1=p.1:=kU i1;rw [<-i1];exact S1.here i g _ hg i2
  ·obtain ⟨i,hi⟩:=getElem?_of_mem hp
   rw [vW] at hi;exact S1.new i _ _ hi.1 hi.2
  ·exact S1.keep _ _ (lR p hp).2.2.2.2 (lR p hp).2.2.2.1
 ·rw [zU,zU,e1,e2]
  refine kX.mpr ⟨nd1.1,kX.mpr ⟨S1.nd,nd1.2.1,λa ha b hb' e=>?_⟩,λa ha b hb' e=>?_⟩
  ·obtain ⟨p,hp,rfl⟩:=ky.mp hb'
   have:=S1.fresh a ha;have:=(lR p hp).2.1;lia
  ·rcases jq.mp hb' with hb'|hb'
   ·have:=S1.fresh b hb'
    have:=(lP a ha).2.1;lia
   ·exact nd1.2.2 a ha b hb' e
 ·rcases where_ p hp with hp|hp|hp
  ·exact (lP _ (m1 p hp)).1
  ·have:=S1.fresh _ (m2 p hp);lia
  ·exact (lR p hp).1
 ·obtain ⟨z1,z2⟩:=H.st.z p hp
  rw [zU] at z2;refine ⟨S1.keep _ _ z1 λhm=>z2 (jj _ hm),λhm=>?_⟩;rw [zU,zU,e1,e2] at hm;rcases jq.mp hm with hm|hm
  ·exact z2 (jj _ hm)
  ·rcases jq.mp hm with hm|hm
   ·exact absurd (kY z1) (vQ.mpr (S1.fresh _ hm))
   ·exact z2 (jz _ hm)
 ·rcases (lP b hm).2.2 with h3|h3
  ·exact hn h3
  ·exact absurd (kY e) (vQ.mpr h3)
 ·rcases where_ p hp with hp|hp|hp
  ·exact (lP _ (m1 p hp)).2.2
  ·have:=S1.fresh _ (m2 p hp)
   exact .inr (by lia)
  ·exact (lR p hp).2.2.1
theorem Ct.useP {c:Ct} {prog:Program} {w:World} {D U:Nat} (ok:c.Ok kt prog w D U) {A:Around} (hA:HdOk c.hd A.handled) (hF:∀l,c.frs=some l->A.frames=some l) (hD:A.depth<=D) (hU:A.units<=U) (H:Held kt hb ad0 Z0 h (c.pre++R) Z) (hzc:∀p∈c.zpre,p∈Z\/p∈R)
  {gens:Array GenState} {d:Drawn} {tok:Nat} {os:OsState} {Q:Result->Shared->Prop}
  (K:∀h' as ns,as.length=c.k->(∀a∈as,hb.objs.size<=a)->(c.post as ns).length=c.pre.length->(c.news as ns).length=as.length->Held kt hb ad0 Z0 h' ((c.pre.map (·.1)).zip (c.post as ns)++(as.zip (c.news as ns)++R)) Z->c.fact as ns->FinAt prog w A Q (c.fo as ns) ⟨h',gens,d,ns.n.headD 0,os⟩):
  codeAny (model prog w) A c.code Q ⟨h,gens,d,tok,os⟩:=by
 have nd0:=H.st.nd;rw [zU] at nd0;have nd1:=kX.mp nd0;refine ok A hA hF hD hU h gens d tok os Q ⟨H.st.old,H.st.big,λp hp=>H.st.here p (jj _ hp),nd1.1,λp hp=>H.st.ge p (jj _ hp),λp hp=>?_⟩ λh' as ns hk S1 hf=>K h' as ns hk (λa ha=>zZ H.grow (S1.fresh a ha)) S1.plen S1.nlen (H.afterP S1) hf;rcases hzc p hp with hz|hz
 ·exact ⟨(H.st.z p hz).1,λhm=>(H.st.z p hz).2 (by rw [zU];exact jj _ hm)⟩
 ·exact ⟨H.st.here p (jz _ hz),λhm=>nd1.2.2 _ hm _ (zW hz) rfl⟩
end
noncomputable def Ct.own (c:Ct) (q:Nat×Obj) (z:List (Nat×Obj)):Ct:={c with zpre:=z,pre:=q::c.pre,post:=λas ns=>q.2::c.post as ns}
theorem Ct.Ok.own {c:Ct} {kt:KT} {prog:Program} {w:World} {D U:Nat} {q:Nat×Obj} {z:List (Nat×Obj)} (ok:c.Ok kt prog w D U) (hz:∀p∈c.zpre,p=q\/p∈z) (hn:∀as ns,c.fact as ns->ns.z=[]):(c.own q z).Ok kt prog w D U:=by
 intro A hA hF hD hU h gens d tok os R S0 K;have nd:(q.1::c.pre.map (·.1)).Nodup:=S0.nd;rw [vX] at nd;refine ok A hA hF hD hU h gens d tok os R ⟨S0.old,S0.big,λp hp=>S0.here p (zv _ hp),nd.2,λp hp=>S0.ge p (zv _ hp),λp hp=>?_⟩ λh' as ns hk S1 hf=>K h' as ns hk ?_ hf
 ·rcases hz p hp with rfl|hp
  ·exact ⟨S0.here p (zy ..),nd.1⟩
  ·obtain ⟨x1,x2⟩:=S0.z p hp
   exact ⟨x1,λhm=>x2 (zv _ hm)⟩
 ·refine ⟨by show (_::_).length=(_::_).length;rw [jY,jY,S1.plen],S1.nlen,λi p o h1 h2=>?_,S1.new,S1.nd,S1.fresh,λb o e hb=>S1.keep b o e λhm=>hb (zv _ hm),S1.grow,λp hp=>by rw [hn as ns hf] at hp;cases hp⟩
  cases i with
  |zero=>
   have h1:q=p:=kU h1;have h2:q.2=o:=kU h2;subst h1 h2;exact S1.keep _ _ (S0.here q (zy ..)) nd.1
  |succ i=>exact S1.here i p o h1 h2
theorem Ct.Ok.re {c d:Ct} {kt:KT} {prog:Program} {w:World} {D U:Nat} (ok:c.Ok kt prog w D U) (f:List Nat->Ns->Ns) (h1:d.code=c.code) (h2:d.hd=c.hd) (h3:d.frs=c.frs) (h4:d.zpre=c.zpre) (h5:d.pre=c.pre) (h6:d.k=c.k)
  (h:∀as ns,as.length=c.k->c.fact as ns->d.post as (f as ns)=c.post as ns/\d.news as (f as ns)=c.news as ns/\d.fo as (f as ns)=c.fo as ns/\d.fact as (f as ns)/\(f as ns).z=[]/\(f as ns).n.headD 0=ns.n.headD 0):d.Ok kt prog w D U:=by
 intro A hA hF hD hU hp gens dr tok os R S0 K;rw [h1];refine ok A (h2▸hA) (h3▸hF) hD hU hp gens dr tok os R (by rw [<-h4,<-h5];exact S0) λh' as ns hk S1 hf=>?_;obtain ⟨g1,g2,g3,g4,g5,g6⟩:=h as ns hk hf;have:=K h' as (f as ns) (by rw [h6];exact hk) (by
  rw [h4,h5,g1,g2,g5];exact ⟨S1.plen,S1.nlen,S1.here,S1.new,S1.nd,S1.fresh,S1.keep,S1.grow,λp hp=>nomatch hp⟩) g4
 rw [g3,g6] at this;exact this
end
section
open Sre
noncomputable def code0:Array Nat:=⟨[14,4,0,1,6,6,0,23,14,0,1,17,0,13,6,16,45,16,43,0,17,1,18,17,2,13,4,8,0,0,24,9,0,1,13,4,8,0,0,1,17,3,24,6,0,1,16,58,1,23,17,0,1,17,4,13,4,8,0,0,13,4,8,0,0,17,5,18,6,5,1]⟩
noncomputable def cl (c:Nat):Nat:=if 48<=c/\c<=57 then 48 else c
noncomputable def okOp:Op->Bool
 | .FAILURE| .SUCCESS| .ANY| .ANY_ALL| .ASSERT| .ASSERT_NOT| .AT| .CATEGORY| .CHARSET| .IN| .INFO| .LITERAL| .MARK| .MAX_UNTIL| .REPEAT| .REPEAT_ONE=>true
 |_=>false
theorem code0_all {p:Nat->Bool} (h:code0.toList.all p=true) (h0:p 0=true) (j:Nat):p (code0.getD j 0)=true:=by
 by_cases hj:j<code0.size
 ·rw [Array.getD_eq_getD_getElem?,Array.getElem?_eq_getElem hj]
  exact vy.mp h _ (by simp)
 ·rw [Array.getD_eq_getD_getElem?,Array.getElem?_eq_none (by omega)]
  exact h0
theorem code0_op {j:Nat} {op:Op} (h:ops[code0.getD j 0]?=some op):okOp op=true:=by
 have:=code0_all (p:=λw=>match ops[w]? with|some op=>okOp op|none=>true) (by decide+kernel) (by decide+kernel) j;rw [h] at this;exact this
theorem op_in {Q:Prop} {o:Option Op} (h:∀op,o=some op->okOp op=true) (h0:o=none->Q) (hFAILURE:o=some .FAILURE->Q) (hSUCCESS:o=some .SUCCESS->Q) (hANY:o=some .ANY->Q) (hANY_ALL:o=some .ANY_ALL->Q) (hASSERT:o=some .ASSERT->Q) (hASSERT_NOT:o=some .ASSERT_NOT->Q) (hAT:o=some .AT->Q) (hCATEGORY:o=some .CATEGORY->Q) (hCHARSET:o=some .CHARSET->Q) (hIN:o=some .IN->Q) (hINFO:o=some .INFO->Q) (hLITERAL:o=some .LITERAL->Q) (hMARK:o=some .MARK->Q) (hMAX_UNTIL:o=some .MAX_UNTIL->Q) (hREPEAT:o=some .REPEAT->Q) (hREPEAT_ONE:o=some .REPEAT_ONE->Q):Q:=by
 rcases Option.eq_none_or_eq_some o with e|⟨op,e⟩
 ·exact h0 e
 have hk:=h op e;cases op<;>first|(exact (kZ hk).elim)|skip
 ·exact hFAILURE e
 ·exact hSUCCESS e
 ·exact hANY e
 ·exact hANY_ALL e
 ·exact hASSERT e
 ·exact hASSERT_NOT e
 ·exact hAT e
 ·exact hCATEGORY e
 ·exact hCHARSET e
 ·exact hIN e
 ·exact hINFO e
 ·exact hLITERAL e
 ·exact hMARK e
 ·exact hMAX_UNTIL e
 ·exact hREPEAT e
 ·exact hREPEAT_ONE e
theorem code0_lt (j:Nat):code0.getD j 0<48\/code0.getD j 0=58:=by
 have:=code0_all (p:=λw=>decide (w<48\/w=58)) (by decide+kernel) (by decide+kernel) j;exact of_decide_eq_true this
theorem cl_beq {v:Nat} (c:Nat) (h:v<48\/v=58):(cl c==v)=(c==v):=by
 unfold cl;split
 ·rw [kv.mpr (by omega),kv.mpr (by omega)]
 ·rfl
theorem cl_cases (c:Nat):cl c=c\/(cl c=48/\∃d,d<10/\c=48+d):=by
 unfold cl;split
 ·exact .inr ⟨rfl,c-48,by omega,by omega⟩
 ·exact .inl rfl
theorem cat_dig:∀d,d<10->Sre.isDigit (48+d)=Sre.isDigit 48/\Sre.isSpace (48+d)=Sre.isSpace 48/\Sre.isWord (48+d)=Sre.isWord 48/\Unicode.isDecimal (48+d)=Unicode.isDecimal 48/\Unicode.isSpace (48+d)=Unicode.isSpace 48/\isWordUni (48+d)=isWordUni 48/\Unicode.isLineBreak (48+d)=Unicode.isLineBreak 48:=by decide+kernel
theorem cat_cl (k c:Nat):category k (cl c)=category k c:=by
 rcases cl_cases c with h|⟨h,d,hd,rfl⟩
 ·rw [h]
 ·obtain ⟨h1,h2,h3,h4,h5,h6,h7⟩:=cat_dig d hd
  have h8:(48+d==10)=((48:Nat)==10):=by rw [kv.mpr (by omega)];rfl
  rw [h];unfold category;rw [h1,h2,h3,h4,h5,h6,h7,h8]
theorem bit_cl (j:Nat) {b:Nat} (hb:16<=b):(code0.getD j 0).testBit b=false:=
 Nat.testBit_lt_two_pow (Nat.lt_of_lt_of_le (by have:=code0_lt j;omega:code0.getD j 0<2^16) (Nat.pow_le_pow_right (by decide) hb))
theorem set_cl (c:Nat):∀(fuel i:Nat) (yes:Bool) (seen:Sre.Seen),inSet code0 (cl c) fuel i yes seen=inSet code0 c fuel i yes seen
 |0,_,_,_=>rfl
 |fuel+1,i,yes,seen=>by
  have ih:=set_cl c fuel;conv=>lhs;whnf
  conv=>rhs;whnf
  refine op_in (o:=ops[code0.getD (i+0) 0]?) (λop ho=>code0_op ho) (λe=>?_) (λe=>?_) (λe=>?_) (λe=>?_) (λe=>?_) (λe=>?_) (λe=>?_) (λe=>?_) (λe=>?_) (λe=>?_) (λe=>?_) (λe=>?_) (λe=>?_) (λe=>?_) (λe=>?_) (λe=>?_) (λe=>?_);all_goals rw [e]
  all_goals first|rfl|skip
  all_goals dsimp only
  ·rw [cat_cl];simp only [ih]
  ·rcases cl_cases c with h|⟨h,d,hd,rfl⟩
   ·rw [h]
   ·rw [h,show (48+d)/32=1 by lia,bit_cl _ (b:=(48+d)%32) (by lia),bit_cl _ (b:=48%32) (by decide),Bool.and_false,Bool.and_false,<-ih,h]
  ·rw [cl_beq c (code0_lt _)];simp only [ih]
theorem acc_cl (i c:Nat) (seen:Sre.Seen):accepts code0 i (cl c) seen=accepts code0 i c seen:=by
 delta accepts;refine op_in (o:=ops[code0.getD i 0]?) (λop ho=>code0_op (j:=i) ho) (λe=>?_) (λe=>?_) (λe=>?_) (λe=>?_) (λe=>?_) (λe=>?_) (λe=>?_) (λe=>?_) (λe=>?_) (λe=>?_) (λe=>?_) (λe=>?_) (λe=>?_) (λe=>?_) (λe=>?_) (λe=>?_) (λe=>?_);all_goals rw [e]
 all_goals first|rfl|skip
 ·dsimp only;rw [show (cl c !=10)=(c !=10) from jk not (cl_beq c (.inl (by decide)))]
 ·exact set_cl c _ _ _ _
 ·dsimp only;rw [cl_beq c (code0_lt _)]
theorem get_cl (t:Array Nat) (p:Nat):(t.map cl).getD p 0=cl (t.getD p 0):=by
 rw [Array.getD_eq_getD_getElem?,Array.getD_eq_getD_getElem?,Array.getElem?_map];cases t[p]?<;>rfl
theorem run_cl (t:Array Nat) (i:Nat):∀(n p f:Nat) (seen:Sre.Seen),Sre.run code0 (t.map cl) i n p f seen=Sre.run code0 t i n p f seen
 |0,_,_,_=>rfl
 |n+1,p,f,seen=>by
  unfold Sre.run;rw [get_cl,acc_cl];simp only [run_cl t i n]
def trM (m:M):M:={m with text:=m.text.map cl}
theorem at_cl (m:M) (k:Nat):(trM m).isAt k=m.isAt k:=by
 have e:∀v p,v<48\/v=58->((trM m).text.getD p 0==v)=(m.text.getD p 0==v):=λv p h=>by
  show ((m.text.map cl).getD p 0==v)=_;rw [get_cl,cl_beq _ h]
 have w1:∀p,Sre.isWord ((trM m).text.getD p 0)=Sre.isWord (m.text.getD p 0):=λp=>by
  show Sre.isWord ((m.text.map cl).getD p 0)=_;rw [get_cl];rcases cl_cases (m.text.getD p 0) with h|⟨h,d,hd,h2⟩
  ·rw [h]
  ·rw [h,h2,(cat_dig d hd).2.2.1]
 have w2:∀p,isWordUni ((trM m).text.getD p 0)=isWordUni (m.text.getD p 0):=λp=>by
  show isWordUni ((m.text.map cl).getD p 0)=_;rw [get_cl];rcases cl_cases (m.text.getD p 0) with h|⟨h,d,hd,h2⟩
  ·rw [h]
  ·rw [h,h2,(cat_dig d hd).2.2.2.2.2.1]
 unfold M.isAt;dsimp only
 rw [e 10 _ (.inl (by decide)),e 10 _ (.inl (by decide)),w1,w1,w2,w2];rfl
def Tr (a b:M):Prop:=trM a=b/\a.code=code0
theorem tr_if {p:Prop} [Decidable p] {a b a' b':M} (h1:Tr a a') (h2:Tr b b'):Tr (if p then a else b) (if p then a' else b'):=by
 split
 ·exact h1
 ·exact h2
theorem tr_att {m:M} (hc:m.code=code0) (f:Sre.Frame) (a b:Nat) (o:Bool):Tr (m.attempt f a b o) ((trM m).attempt f a b o):=tr_if ⟨rfl,hc⟩ ⟨rfl,hc⟩
theorem tr_run {m:M} (hc:m.code=code0) (w:Wait) (c:Int) (k:Sre.Kept):Tr (m.afterRun w c k) ((trM m).afterRun w c k):=tr_att hc ..
theorem tr_loop {m:M} (hc:m.code=code0) (w:Wait) (i:Nat) (c:Int) (f:Option Nat->Bool):Tr (m.afterLoop w i c f) ((trM m).afterLoop w i c f):=tr_att (by exact hc) ..
theorem tr_round {m:M} (hc:m.code=code0) (w:Wait) (i:Nat) (c:Int) (g:Bool) (k:Sre.Kept):Tr (m.round w i c g k) ((trM m).round w i c g k):=tr_att (by exact hc) ..
theorem tr_alt {m:M} (hc:m.code=code0) (a:Nat) (k:Sre.Kept):Tr (m.alternative a k) ((trM m).alternative a k):=tr_if ⟨rfl,hc⟩ (tr_att hc ..)
theorem tr_until {m:M} (hc:m.code=code0) (g:Bool):Tr (m.until_ g) ((trM m).until_ g):=by
 unfold M.until_;show Tr (match m.inner with|none=>_|some i=>_) (match m.inner with|none=>_|some i=>_);cases m.inner with
 |none=>exact ⟨rfl,hc⟩
 |some i=>exact tr_if (tr_round hc ..) (tr_if (tr_loop hc ..) (tr_if (tr_round hc ..) (tr_loop hc ..)))
theorem tr_from {m:M} (hc:m.code=code0) (s:Nat) (f:Bool):Tr (m.attemptFrom s f) ((trM m).attemptFrom s f):=by
 have h1:m.hasFirstSet=false:=by unfold M.hasFirstSet;rw [hc];decide+kernel
 have h2:(trM m).hasFirstSet=false:=h1;unfold M.attemptFrom;rw [h1,h2];exact tr_att (by exact hc) ..
theorem tr_one (m':M) (h:m'.code=code0):Tr (if m'.pos≥m'.lim then m'.say false else match accepts m'.code m'.pc (m'.text.getD m'.pos 0) m'.seen with| .error why=>m'.stick why| .ok (false,seen)=>{m' with seen}.say false| .ok (true,seen)=>{m' with seen,pc:=m'.pc+itemWidth m'.code m'.pc,pos:=m'.pos+1}) (if m'.pos≥m'.lim then (trM m').say false else match accepts (trM m').code m'.pc ((trM m').text.getD m'.pos 0) m'.seen with| .error why=>(trM m').stick why| .ok (false,seen)=>{trM m' with seen}.say false| .ok (true,seen)=>{trM m' with seen,pc:=m'.pc+itemWidth m'.code m'.pc,pos:=m'.pos+1}):=by
 refine tr_if ⟨rfl,h⟩ ?_;show Tr _ (match accepts m'.code m'.pc ((m'.text.map cl).getD m'.pos 0) m'.seen with| .error why=>_| .ok (false,seen)=>_| .ok (true,seen)=>_);have e:accepts m'.code m'.pc ((m'.text.map cl).getD m'.pos 0) m'.seen=accepts m'.code m'.pc (m'.text.getD m'.pos 0) m'.seen:=by rw [get_cl,h,acc_cl]
 rw [e];cases accepts m'.code m'.pc (m'.text.getD m'.pos 0) m'.seen with
 |error e=>exact ⟨rfl,h⟩
 |ok p=>obtain ⟨b,s⟩:=p;cases b<;>exact ⟨rfl,h⟩
theorem tr_exec {m:M} (hc:m.code=code0):Tr m.exec (trM m).exec:=by
 delta M.exec;have hw:ops[(trM m).word 0]?=ops[m.word 0]?:=rfl;rw [hw];refine op_in (o:=ops[m.word 0]?) (λop ho=>code0_op (j:=m.pc+0) (by rw [<-hc];exact ho)) (λe=>?_) (λe=>?_) (λe=>?_) (λe=>?_) (λe=>?_) (λe=>?_) (λe=>?_) (λe=>?_) (λe=>?_) (λe=>?_) (λe=>?_) (λe=>?_) (λe=>?_) (λe=>?_) (λe=>?_) (λe=>?_) (λe=>?_);all_goals rw [e]
 all_goals dsimp only
 all_goals first|exact tr_one {m with seen:=m.seen.add (m.word 0)} hc|exact ⟨rfl,hc⟩|skip
 ·exact tr_if ⟨rfl,hc⟩ ⟨rfl,hc⟩
 ·exact tr_if ⟨rfl,hc⟩ (tr_att (by exact hc) ..)
 ·exact tr_if ⟨rfl,hc⟩ (tr_att (by exact hc) ..)
 ·have e:=at_cl {m with seen:=m.seen.add (m.word 0)} (m.word 1)
  show Tr (match M.isAt {m with seen:=m.seen.add (m.word 0)} (m.word 1) with| .error why=>_| .ok yes=>_) (match M.isAt (trM {m with seen:=m.seen.add (m.word 0)}) (m.word 1) with| .error why=>_| .ok yes=>_);rw [e];cases M.isAt {m with seen:=m.seen.add (m.word 0)} (m.word 1) with
  |error e=>exact ⟨rfl,hc⟩
  |ok b=>cases b<;>exact ⟨rfl,hc⟩
 ·exact tr_until (by exact hc) _
 ·exact tr_att (by exact hc) ..
 ·refine tr_if ⟨rfl,hc⟩ ?_
  have e:∀n p s,Sre.run m.code (m.text.map cl) (m.pc+4) n p 0 s=Sre.run m.code m.text (m.pc+4) n p 0 s:=λn p s=>by rw [hc];exact run_cl _ _ _ _ _ _
  show Tr (match Sre.run m.code m.text (m.pc+4) (min (m.word 3) ((m.lim:Int)-m.pos).toNat) m.pos 0 ((m.seen.add (m.word 0)).add (m.word 4)) with| .error why=>_| .ok (n,seen)=>_) (match Sre.run m.code (m.text.map cl) (m.pc+4) (min (m.word 3) ((m.lim:Int)-m.pos).toNat) m.pos 0 ((m.seen.add (m.word 0)).add (m.word 4)) with| .error why=>_| .ok (n,seen)=>_);rw [e];generalize Sre.run m.code m.text (m.pc+4) (min (m.word 3) ((m.lim:Int)-m.pos).toNat) m.pos 0 ((m.seen.add (m.word 0)).add (m.word 4))=r;cases r with
  |error e=>exact ⟨rfl,hc⟩
  |ok p=>exact tr_if ⟨rfl,hc⟩ (tr_run (by exact hc) ..)
theorem tr_poss {m:M} (hc:m.code=code0) (i:Nat) (c:Int) (b:Option Nat):Tr (m.possessive i c b) ((trM m).possessive i c b):=
 tr_if (tr_att hc ..) (tr_if (tr_att hc ..) ⟨rfl,hc⟩)
theorem tr_resume {m:M} (hc:m.code=code0) (f:Sre.Frame) (y:Bool):Tr (m.resume f y) ((trM m).resume f y):=by
 delta M.resume;cases f.wait;all_goals dsimp only
 ·exact tr_if ⟨rfl,hc⟩ (tr_if (tr_from (by exact hc) ..) ⟨rfl,hc⟩)
 ·exact tr_if ⟨rfl,hc⟩ (tr_alt (by exact hc) ..)
 ·exact tr_if ⟨rfl,hc⟩ (tr_if ⟨rfl,hc⟩ (tr_run (by exact hc) ..))
 ·refine tr_if ⟨rfl,hc⟩ (tr_if ⟨rfl,hc⟩ (tr_if ⟨rfl,hc⟩ ?_))
  have e:accepts m.code (m.pc+4) ((m.text.map cl).getD f.pos 0) m.seen=accepts m.code (m.pc+4) (m.text.getD f.pos 0) m.seen:=by rw [get_cl,hc,acc_cl]
  show Tr _ (match accepts m.code (m.pc+4) ((m.text.map cl).getD f.pos 0) m.seen with| .error why=>_| .ok (false,seen)=>_| .ok (true,seen)=>_);rw [e];cases accepts m.code (m.pc+4) (m.text.getD f.pos 0) m.seen with
  |error e=>exact ⟨rfl,hc⟩
  |ok p=>
   obtain ⟨b,s⟩:=p;cases b
   ·exact ⟨rfl,hc⟩
   ·exact tr_run (by exact hc) ..
 ·exact ⟨rfl,hc⟩
 ·exact tr_if ⟨rfl,hc⟩ ⟨rfl,hc⟩
 ·exact tr_if ⟨rfl,hc⟩ (tr_loop (by exact hc) ..)
 ·exact ⟨rfl,hc⟩
 ·exact tr_if ⟨rfl,hc⟩ ⟨rfl,hc⟩
 ·exact tr_if ⟨rfl,hc⟩ (tr_if ⟨rfl,hc⟩ (tr_round (by exact hc) ..))
 ·exact tr_if ⟨rfl,hc⟩ ⟨rfl,hc⟩
 ·exact tr_if (tr_poss (by exact hc) ..) ⟨rfl,hc⟩
 ·exact tr_if (tr_poss (by exact hc) ..) (tr_poss (by exact hc) ..)
 ·exact tr_if ⟨rfl,hc⟩ ⟨rfl,hc⟩
 ·exact tr_if ⟨rfl,hc⟩ ⟨rfl,hc⟩
 ·exact tr_if ⟨rfl,hc⟩ ⟨rfl,hc⟩
theorem tr_step {m:M} (hc:m.code=code0):Tr m.step (trM m).step:=by
 delta M.step;refine tr_if ⟨rfl,hc⟩ ?_;obtain ⟨code,text,lim,start,ls,wt,ma,pc,pos,hn,om,mk,lm,li,lo,inn,frames,wg,answer,seen,oc⟩:=m;cases answer with
 |none=>exact tr_if (tr_exec hc) ⟨rfl,hc⟩
 |some y=>
  cases frames with
  |nil=>exact ⟨rfl,hc⟩
  |cons f r=>exact tr_resume (by exact hc) ..
theorem tr_for:∀(n:Nat) {m:M},m.code=code0->Tr (m.runFor n) ((trM m).runFor n)
 |0,m,hc=>⟨rfl,hc⟩
 |n+1,m,hc=>by
  unfold M.runFor;refine tr_if ⟨rfl,hc⟩ ?_;obtain ⟨h1,h2⟩:=tr_step hc;rw [<-h1];exact tr_for n h2
end
section
open Sre
theorem tr_search (t:Array Nat) (g p l:Nat) (b:Bool):Tr (forSearch code0 t g p l b) (forSearch code0 (t.map cl) g p l b):=tr_if ⟨rfl,rfl⟩ (tr_from rfl ..)
theorem for_done {m:M} (h:m.outcome.isSome=true):∀n,m.runFor n=m
 |0=>rfl
 |n+1=>by unfold M.runFor;rw [if_pos h]
theorem for_add:∀(a:Nat) {b:Nat} {m:M},m.runFor (a+b)=(m.runFor a).runFor b
 |0,b,m=>by rw [Nat.zero_add];rfl
 |a+1,b,m=>by
  rw [show a+1+b=(a+b)+1 by lia];by_cases h:m.outcome.isSome=true
  ·rw [for_done h,for_done h,for_done h]
  ·have e:∀n,m.runFor (n+1)=m.step.runFor n:=λn=>by
    conv=>lhs;unfold M.runFor
    rw [vk h]
   rw [e,e,for_add a]
section
variable {Mo:Model} {A:Around} {E:Value->Shared->Prop} {s:Shared}
theorem wp_drive {Q:M->Shared->Prop}:∀(n t:Nat) (m:M),n<=t->0<n->(m.runFor (4*n)).outcome.isSome=true->Q (m.runFor (4*n)) s->wpAny Mo A (Builtin.Re.reDrive t m) Q E s
 |0,_,_,_,h,_,_=>absurd h (Nat.lt_irrefl _)
 |n+1,0,_,h,_,_,_=>absurd h (Nat.not_succ_le_zero _)
 |n+1,t+1,m,h,_,ho,hq=>by
  have e:m.runFor (4*(n+1))=(m.runFor 4).runFor (4*n):=by rw [show 4*(n+1)=4+4*n by lia,for_add]
  rw [e] at ho hq;unfold Builtin.Re.reDrive;show wpAny Mo A (if (m.runFor 4).outcome.isSome=true then _ else _) Q E s;by_cases hm:(m.runFor 4).outcome.isSome=true
  ·rw [if_pos hm]
   rw [for_done hm] at hq;exact zX hq
  ·rw [vk hm]
   refine zk (wpAny_rule ?_);cases n with
   |zero=>exact absurd ho hm
   |succ n=>exact wp_drive (n+1) t (m.runFor 4) (by lia) (Nat.succ_pos _) ho hq
end
noncomputable def spansOf (m:M):List Value:=(List.range 3).flatMap λg=>
 match if ((2*g+1:Nat):Int)<=m.lastmark then (m.marks.getD (2*g) none,m.marks.getD (2*g+1) none) else (none,none) with
 |(some b,some e)=>[rawInt b,rawInt e]
 |_=>[rawInt (-1),rawInt (-1)]
noncomputable def wrongSpan (m:M):Bool:=(List.range 3).any (λg=>match m.marks.getD (2*g) none,m.marks.getD (2*g+1) none with|some b,some e=>((2*g+1:Nat):Int)<=m.lastmark&&e<b|_,_=>false)
noncomputable def isMat (m:M):Bool:=match m.outcome with|some .matched=>true|_=>false
def mres (cs:List Nat):M:=(forSearch code0 ⟨cs⟩ 3 0 cs.length false).runFor (4*40)
def mOk (cs:List Nat) (sp:List Value) (li:Int):Bool:=let m:=mres cs;isMat m&& !wrongSpan m&&(rawInt m.start::rawInt m.handed::spansOf m)==sp&&m.lastindex==li
noncomputable def cSearch (ts:List Nat) (t:Nat) (sp:List Value) (li:Int):Ct:={code:= .builtin "re.Pattern.search" ⟨[.ref 44,.str ⟨⟨ts⟩⟩ t],[]⟩,pre:=[],k:=2,fo:=λas _=> .ret (.ok (.ret (.ref (as.getD 1 0)))),post:=λ_ _=>[],news:=λas _=>[{cls:= .type "tuple",data:= .seq ⟨sp⟩},{cls:= .type "re.Match",data:= .fields ⟨[.str ⟨⟨ts⟩⟩ t,.ref 44,rawInt 0,rawInt ts.length,rawInt li,.ref (as.getD 0 0)]⟩}],fact:=λ_ _=>True}
theorem wp_rules {Mo:Model} {A:Around} {E:Value->Shared->Prop} {s:Shared} {Q:PUnit->Shared->Prop} (c:Nat->Bool) (f:Nat->String) (hq:Q () s):∀l:List Nat,wpAny Mo A (forIn l PUnit.unit λi _=>if c i=true then do rule (f i);pure (ForInStep.yield PUnit.unit) else pure (ForInStep.yield PUnit.unit)) Q E s
 |[]=>zX hq
 |i::l=>by
  rw [forIn_cons];refine zk ?_;split
  ·exact zk (wpAny_rule (zX (wp_rules c f hq l)))
  ·exact zX (wp_rules c f hq l)
theorem entry_search:entryFor table "re.Pattern.search"=some Builtin.«re.Pattern.search»:=entryFor_of_tree (by kernel_rfl!)
theorem search_ok (w:World) (D U:Nat) (ts:List Nat) (t:Nat) (sp:List Value) (li:Int) (cs:List Nat) (hc:ts.map cl=cs) (hm:mOk cs sp li=true) (hl:ts.length<=100) (hsp:sp.length<=sizeLine):(cSearch ts t sp li).Ok (ktOf w.params) prg w D U:=by
 refine Ct.of_builtin rfl entry_search λA hA h gens dr tok os R H0 K=>?_;have h44:h.get? 44=some {cls:= .type "re.Pattern",data:= .fields ⟨[.str (stl [94,40,91,45,43,93,41,63,40,92,100,92,100,63,41,58,63,40,92,100,92,100,41,63,36]) 301,.int 256 375,.int 3 0,.none,.none,.ref 43,.int 0 0]⟩}:=H0.st.old 44 _ (by decide) (by kernel_rfl!);have h43:h.get? 43=some {cls:= .type "tuple",data:= .seq ⟨code0.toList.map λn=> .int (Int.ofNat n) 0⟩}:=H0.st.old 43 _ (by decide) (by kernel_rfl!);unfold Builtin.«re.Pattern.search»;refine zk ?_;unfold Builtin.Re.reTarget;refine zk (m:=Builtin.Re.reNamed _ _ _ _ _ _) (wpAny_of_eq (a:=[some (Value.str ⟨⟨ts⟩⟩ t),none,none]) rfl ?_);refine zk (zX ?_);refine zk (zX ?_);refine zk (wpAny_fieldsOf h44 rfl ?_);refine zk (wpAny_of_eq (a:=(⟨ts⟩,0)) rfl ?_);show wpAny _ _ (Builtin.Re.reNoCollectionInside _ 0>>=_) _ _ _;refine zk (wpAny_of_eq (a:=()) rfl ?_);show wpAny _ _ (Builtin.Re.reRawItems (.ref 43)>>=_) _ _ _;refine zk ?_;unfold Builtin.Re.reRawItems;refine zk (wpAny_seqItems h43 rfl (zX ?_));refine zX ?_;have e1:Array.map (λx:Int=>x.toNat) (Array.map Builtin.Re.reRawOf (⟨code0.toList.map λn=> .int (Int.ofNat n) 0⟩:Array Value))=code0:=by
  rw [map_toArray,map_toArray,kW,kW];exact jk Array.mk (map_id _)
 have e2:min ((2^63-1:Int)).toNat (⟨ts⟩:Array Nat).size=ts.length:=by
  show min ((2^63-1:Int)).toNat ts.length=_;lia
 have e3:min ((0:Int)).toNat (⟨ts⟩:Array Nat).size=0:=Nat.zero_min _;show wpAny _ _ (Builtin.Re.reAnswer ⟨.ref 44,.str ⟨⟨ts⟩⟩ t,Array.map (λx:Int=>x.toNat) (Array.map Builtin.Re.reRawOf (⟨code0.toList.map λn=> .int (Int.ofNat n) 0⟩:Array Value)),⟨ts⟩,0,3,min ((0:Int)).toNat (⟨ts⟩:Array Nat).size,min ((2^63-1:Int)).toNat (⟨ts⟩:Array Nat).size⟩ (forSearch (Array.map (λx:Int=>x.toNat) (Array.map Builtin.Re.reRawOf (⟨code0.toList.map λn=> .int (Int.ofNat n) 0⟩:Array Value))) ⟨ts⟩ 3 (min ((0:Int)).toNat (⟨ts⟩:Array Nat).size) (min ((2^63-1:Int)).toNat (⟨ts⟩:Array Nat).size) false)) _ _ _;rw [e1,e2,e3];have T0:=tr_search ⟨ts⟩ 3 0 ts.length false;have T:=tr_for (4*40) T0.2;obtain ⟨m1,hm1⟩:∃m1,m1=(forSearch code0 ⟨ts⟩ 3 0 ts.length false).runFor (4*40):=⟨_,rfl⟩
 have hT:trM m1=mres cs:=by
  rw [hm1,T.1,T0.1,<-hc];unfold mres;rw [map_toArray,zJ]
 unfold mOk at hm;rw [<-hT] at hm;simp only [kj] at hm;obtain ⟨⟨⟨g1,g2⟩,g3⟩,g4⟩:=hm;have g1:isMat m1=true:=g1;have g2:(!wrongSpan m1)=true:=g2;have g3:(rawInt m1.start::rawInt m1.handed::spansOf m1)=sp:=by simpa using (show ((rawInt m1.start::rawInt m1.handed::spansOf m1)==sp)=true from g3)
 have g4:m1.lastindex=li:=by simpa using (show (m1.lastindex==li)=true from g4)
 have ho:m1.outcome=some .matched:=by
  unfold isMat at g1;cases q:m1.outcome with
  |none=>rw [q] at g1;cases g1
  |some o=>rw [q] at g1;cases o<;>first|rfl|cases g1
 unfold Builtin.Re.reAnswer;refine zk ?_;unfold Builtin.Re.reRunToEnd;refine zk (wp_drive 40 _ _ (by decide) (by decide) (by rw [<-hm1,ho];rfl) ?_);rw [<-hm1];refine zk (wp_rules _ _ ?_ _);rw [ho];refine zX ?_;refine zk ?_;unfold Builtin.Re.reNewMatch;show wpAny _ _ (if wrongSpan m1=true then _ else _) _ _ _;rw [vk (by intro hw;rw [hw] at g2;cases g2)];show wpAny _ _ (newTuple (rawInt m1.start::rawInt m1.handed::spansOf m1)>>=_) _ _ _;rw [g3,g4];refine zk (wpAny_newTuple ?_ hsp);refine vx ?_ (by size_fits);refine zX ?_;have H1:=(H0.push (o:={cls:= .type "tuple",data:= .seq ⟨sp⟩}) rfl).push (o:={cls:= .type "re.Match",data:= .fields ⟨[.str ⟨⟨ts⟩⟩ t,.ref 44,rawInt 0,rawInt ts.length,rawInt li,.ref h.objs.size]⟩}) rfl;rw [Heap.size_push] at H1;show R (.ok (.ret (.ref (h.push {cls:= .type "tuple",data:= .seq sp.toArray}).objs.size))) ⟨(h.push {cls:= .type "tuple",data:= .seq sp.toArray}).push {cls:= .type "re.Match",data:= .fields ⟨[.str ⟨⟨ts⟩⟩ t,.ref 44,rawInt 0,rawInt ts.length,rawInt li,.ref h.objs.size]⟩},gens,dr,tok,os⟩;rw [Heap.size_push];exact K _ [h.objs.size,h.objs.size+1] ⟨[tok],[],[],[]⟩ [] rfl rfl rfl H1 (λp hp=>nomatch hp) trivial
end
section
open PySem PySem.W PySem.W.X PySem.Spec PySem.Calls PyProof.Rows NumText
noncomputable def cInt (ds:List Nat) (t:Nat):Ct:={code:= .builtin "int.__new__" ⟨[.type "int",.str ⟨⟨ds⟩⟩ t],[]⟩,pre:=[],k:=0,fo:=λ_ ns=> .ret (.ok (.ret (.int (digitsVal ds:Nat) (ns.g 1)))),post:=λ_ _=>[],news:=λ_ _=>[],fact:=λ_ ns=>ns.t=ns.g 1+1}
theorem int_ok (kt:KT) (w:World) (D U:Nat) (ds:List Nat) (t:Nat) (h:AllDigits ds) (h0:ds≠[]) (hl:ds.length<=600):(cInt ds t).Ok kt prg w D U:=by
 have hn:PySem.intText? ⟨⟨ds⟩⟩=some ((digitsVal ds:Nat):Int):=intText_digits (x:=⟨⟨ds⟩⟩) h h0 (by show ds.length<=4300;lia);refine Ct.of_meets (KIN.gives_text (x:=⟨⟨ds⟩⟩) (u:=t) (by show ds.length<=640;lia) hn).meets rfl F.entry_int_new (by decide+kernel) λA hA h gens d tok os R H0 K=>?_;exact K h [] ⟨[tok+1,tok],[],[],[]⟩ [] rfl rfl rfl H0 (λp hp=>nomatch hp) rfl
noncomputable def zoneN:List (List Nat):=[[71,77,84],[85,84,67],[85,84],[90]]
def cZ (ts:List Nat) (t:Nat):Ct:={code:= .builtin "dict.__contains__" ⟨[.ref 39,.str ⟨⟨ts⟩⟩ t],[]⟩,pre:=[],k:=0,fo:=λ_ _=> .ret (.ok (.ret (.bool (zoneN.elem ts)))),post:=λ_ _=>[],news:=λ_ _=>[],fact:=λ_ _=>True}
theorem z_ok (w:World) (D U:Nat) (ts:List Nat) (t:Nat):(cZ ts t).Ok (ktOf w.params) prg w D U:=by
 refine Ct.of_builtin rfl F.entry_dict_contains λA hA h gens d tok os R H0 K=>?_;have h39:h.get? 39=some (dob (zoneN.zipIdx.map λp=>⟨PyData.keyHash w.params ⟨⟨p.1⟩⟩,.str ⟨⟨p.1⟩⟩ (291+p.2),.none⟩) 4):=H0.st.old 39 _ (by decide) (by kernel_rfl!);have hm:h.MapOf (strKind prg w) 39 (λk=>if zoneN.elem k.cps.toList then some .none else none):=by
  refine ⟨_,⟨zoneN.zipIdx.map λp=>⟨PyData.keyHash w.params ⟨⟨p.1⟩⟩,.str ⟨⟨p.1⟩⟩ (291+p.2),.none⟩⟩,4,h39,⟨rfl,rfl,rfl⟩,rfl,λe he=>?_,λk=>?_⟩
  ·have he:e∈zoneN.zipIdx.map λp=>(⟨PyData.keyHash w.params ⟨⟨p.1⟩⟩,.str ⟨⟨p.1⟩⟩ (291+p.2),.none⟩:DictEntry):=by simpa using he
   obtain ⟨p,-,rfl⟩:=ky.mp he;exact ⟨⟨⟨p.1⟩⟩,strKind_is prg w _ _,rfl⟩
  ·have key:∀l:List (List Nat×Nat),((l.map λp=>(⟨PyData.keyHash w.params ⟨⟨p.1⟩⟩,.str ⟨⟨p.1⟩⟩ (291+p.2),.none⟩:DictEntry)).find? λe=>(PySem.strKind prg w).is k e.key).map (·.val)=if (l.map (·.1)).elem k.cps.toList=true then some Value.none else none:=by
    intro l;induction l with
    |nil=>rfl
    |cons p l ih=>
     rw [kQ,kQ,find?_cons,List.elem_cons];have e:(PySem.strKind prg w).is k (Value.str ⟨⟨p.1⟩⟩ (291+p.2))=(k.cps.toList==p.1):=by
      show ((⟨⟨p.1⟩⟩:Str)==k)=_;obtain ⟨⟨c⟩⟩:=k;show ((⟨⟨p.1⟩⟩:Str)==⟨⟨c⟩⟩)=(c==p.1);by_cases q:c=p.1
      ·subst q;simp
      ·rw [kv.mpr q,kv.mpr λq'=>q (by injection q' with q';injection q' with q';exact q'.symm)]
     rw [e];cases k.cps.toList==p.1
     ·exact ih
     ·rfl
   have:=key zoneN.zipIdx;unfold findBy;rw [find?_toArray,this];rfl
 rw [vZ (by decide+kernel)];refine meets_dict_contains (strKind prg w) 39 (strKind_is prg w ⟨⟨ts⟩⟩ t) (by decide) A R _ ⟨_,hm,?_⟩;have e:(if zoneN.elem ts=true then some Value.none else none).isSome=zoneN.elem ts:=by cases zoneN.elem ts<;>rfl
 show R (.ok (.ret (.bool (if zoneN.elem ts=true then some Value.none else none).isSome))) _;rw [e];exact K h [] ⟨[tok+1],[],[],[]⟩ [] rfl rfl rfl H0 (λp hp=>nomatch hp) trivial
end
noncomputable def iox (id:String) (x y:Int) (t u:Nat) (r:Int):Ct:={code:= .call (.builtin id) ⟨[.int x t,.int y u],[]⟩,pre:=[],k:=0,fo:=λ_ ns=> .ret (.ok (.ret (.int r (ns.g 1)))),post:=λ_ _=>[],news:=λ_ _=>[],fact:=λ_ _=>True}
noncomputable def cRep (x:Int) (t:Nat) (ds:List Nat):Ct:={code:= .builtin "int.__repr__" ⟨[.int x t],[]⟩,pre:=[],k:=0,fo:=λ_ ns=> .ret (.ok (.ret (.str ⟨⟨ds⟩⟩ (ns.g 1)))),post:=λ_ _=>[],news:=λ_ _=>[],fact:=λ_ _=>True}
abbrev Sg:=Option Bool
noncomputable def Sg.n:Sg->Int|none=>0|some false=>1|some true=>2
noncomputable def Sg.t:Sg->List Nat|none=>[]|some false=>[43]|some true=>[45]
noncomputable def Sg.p (s:Sg) (a b c:Nat):Nat:=match s with|none=>a|some false=>b|some true=>c
noncomputable def tI (l:List Int) (t:Nat):List Value:=l.zipIdx.map λp=> .int p.1 (t+p.2)
def cTIn (l:Nat) (xs:List Value) (x:Int) (t:Nat) (r:Bool):Ct:=ctRd (.builtin "tuple.__contains__" ⟨[.ref l,.int x t],[]⟩) false (l,tu xs) (λ_=> .bool r) 0
noncomputable def Sg.v:Sg->Int->Int|some true,x=> -x|_,x=>x
theorem cRep_ok (kt:KT) (w:World) (D U:Nat) (x:Int) (t:Nat) (ds:List Nat) (hx:x.natAbs.log2<1920) (h:Str.ofString (toString x)=⟨⟨ds⟩⟩) (hl:ds.length<=100):(cRep x t ds).Ok kt prg w D U:=by
 have g:Gives (Builtin.«int.__repr__» ⟨[.int x t],[]⟩) (.str ⟨⟨ds⟩⟩):=h▸gives_int_repr x t hx;refine Ct.of_meets g.meets rfl F.entry_int_repr (by decide+kernel) λA hA hp gens d tok os R H0 K=>?_;refine ⟨zZ (show ds.length<=100 from hl) (by decide),?_⟩;exact K hp [] ⟨[tok+1,tok],[],[],[]⟩ [] rfl rfl rfl H0 (λp hp=>nomatch hp) trivial
theorem tI_ints (l:List Int) (t:Nat):∀k,IntsAre ((l.zipIdx k).map λp=>Value.int p.1 (t+p.2)) l:=by
 induction l with
 |nil=>exact λ_=> .nil
 |cons x l ih=>intro k;exact .cons _ _ (ih (k+1))
theorem tIn_ok (kt:KT) (w:World) (D U:Nat) (l:Nat) (ns:List Int) (b:Nat) (x:Int) (t:Nat) {r:Bool} (hr:ns.contains x=r):(cTIn l (tI ns b) x t r).Ok kt prg w D U:=
 Ct.rd_meets (SeqAt.tuple_containsAt l ⟨tI ns b⟩ 0 none #[] (.int x t) (isV x)) entry_tuple_contains (by decide+kernel) λA h gens dr tok os R hp hR=>
  ⟨hp,eqAt_int (tI_ints ns b 0) x t _ _,by rw [show (Array.mk (tI ns b)).any (isV x)=r from by rw [<-hr,<-any_ints (tI_ints ns b 0)];simp [tI]];exact hR⟩
noncomputable def r_mod (P:Params) (x:Int) (y:Nat) (t u:Nat):Sp:={c:= .call (.builtin "int.__mod__") ⟨[.int x t,.int ((y+1:Nat):Int) u],[]⟩,hd:=none,i:=[],r:=λas ns=> .ret (.ok (.ret (.int (x.fmod ((y+1:Nat):Int)) (ns.g 1)))),ns:=λtok _ _=>⟨[(tok+1),tok],[],[],[]⟩}
theorem r_mod_ok (w:World) (x:Int) (y:Nat) (t u:Nat):OK (r_mod · x y t u) w 900 9000:=
 okF 0 (trivial)
theorem iox_mod (w:World) (y:Nat) {x:Int} (t u:Nat) {r:Int} (h:x.fmod ((y+1:Nat):Int)=r):(iox "int.__mod__" x ((y+1:Nat):Int) t u r).Ok (ktOf w.params) prg w 900 9000:=by subst h;exact r_mod_ok w x y t u
noncomputable def r_fd7 (P:Params) (x:Int) (t u:Nat):Sp:={c:= .call (.builtin "int.__floordiv__") ⟨[.int x t,.int 7 u],[]⟩,hd:=none,i:=[],r:=λas ns=> .ret (.ok (.ret (.int (x.fdiv 7) (ns.g 1)))),ns:=λtok _ _=>⟨[(tok+1),tok],[],[],[]⟩}
theorem r_fd7_ok (w:World) (x:Int) (t u:Nat):OK (r_fd7 · x t u) w 900 9000:=
 okF 0 (trivial)
theorem iox_fd7 (w:World) {x:Int} (t u:Nat) {r:Int} (h:x.fdiv 7=r):(iox "int.__floordiv__" x 7 t u r).Ok (ktOf w.params) prg w 900 9000:=by subst h;exact r_fd7_ok w x t u
noncomputable def r_fd21 (P:Params) (x:Int) (t u:Nat):Sp:={c:= .call (.builtin "int.__floordiv__") ⟨[.int x t,.int 21 u],[]⟩,hd:=none,i:=[],r:=λas ns=> .ret (.ok (.ret (.int (x.fdiv 21) (ns.g 1)))),ns:=λtok _ _=>⟨[(tok+1),tok],[],[],[]⟩}
theorem r_fd21_ok (w:World) (x:Int) (t u:Nat):OK (r_fd21 · x t u) w 900 9000:=
 okF 0 (trivial)
theorem iox_fd21 (w:World) {x:Int} (t u:Nat) {r:Int} (h:x.fdiv 21=r):(iox "int.__floordiv__" x 21 t u r).Ok (ktOf w.params) prg w 900 9000:=by subst h;exact r_fd21_ok w x t u
noncomputable def r_fd504 (P:Params) (x:Int) (t u:Nat):Sp:={c:= .call (.builtin "int.__floordiv__") ⟨[.int x t,.int 504 u],[]⟩,hd:=none,i:=[],r:=λas ns=> .ret (.ok (.ret (.int (x.fdiv 504) (ns.g 1)))),ns:=λtok _ _=>⟨[(tok+1),tok],[],[],[]⟩}
theorem r_fd504_ok (w:World) (x:Int) (t u:Nat):OK (r_fd504 · x t u) w 900 9000:=
 okF 0 (trivial)
theorem iox_fd504 (w:World) {x:Int} (t u:Nat) {r:Int} (h:x.fdiv 504=r):(iox "int.__floordiv__" x 504 t u r).Ok (ktOf w.params) prg w 900 9000:=by subst h;exact r_fd504_ok w x t u
def ck1 (P:Params) (n q q2 h m:Int) (a c d e:Nat) (s:Sg) (dd:Bool) (t:Nat):Sp:={c:= .call (.ref 192) ⟨[.int n t],[]⟩,i:=[],r:=λas ns=> .ret (.ok (.ret (.ref (as.getD 0 0)))),a:=λas ns=>[tu [.str ⟨⟨s.t++(cond dd [a,c] [a])⟩⟩ (ns.g 1),.int (s.v (60*(60*h+0))) (ns.g 2)]],ors:=[(λX=>iox "int.__mod__" n 7 t (X.t 0+1) 1,[]),(λX=>iox "int.__floordiv__" n 7 t (X.t 1+5) q,[]),(λX=>iox "int.__mod__" q 3 ((X.s 2).g 1) (X.t 2+0) s.n,[]),(λX=>iox "int.__floordiv__" n 21 t (X.t 3+1) q2,[]),(λX=>iox "int.__mod__" q2 24 ((X.s 4).g 1) (X.t 4+0) h,[]),(λX=>cRep h ((X.s 5).g 1) (cond dd [a,c] [a]),[])],s:=7,m:=6,x:=[6],tr:=trD 53 0x10410410410461861811451450410410001041040410430c30c1041041042082082041041041040,cs:=[1,2,0,3,0,23],as:=[6],ns:=λ_ _ N=>⟨[(N 5).t+s.n.toNat+15,s.p ((N 5).g 1) ((N 5).t+14) ((N 5).t+14),s.p ((N 5).t+12) ((N 5).t+12) ((N 5).t+16)],[],[],[]⟩}
theorem ck1_ok (w:World) (n q q2 h m:Int) (a c d e:Nat) (s:Sg) (dd:Bool) (t:Nat) (h7:n.fmod 7=1) (hq:n.fdiv 7=q) (hs:q.fmod 3=s.n) (hq2:n.fdiv 21=q2) (hh:q2.fmod 24=h) (hl1:h.natAbs.log2<1920) (hta:Str.ofString (toString h)=⟨⟨(cond dd [a,c] [a])⟩⟩):OK (ck1 · n q q2 h m a c d e s dd t) w 780 8400:=
 okF 6 (qN (λ_=>(iox_mod w 6 _ _ h7).m)<|qN (λ_=>(iox_fd7 w _ _ hq).m)<|qN (λ_=>(iox_mod w 2 _ _ hs).m)<|qN (λ_=>(iox_fd21 w _ _ hq2).m)<|qN (λ_=>(iox_mod w 23 _ _ hh).m)<|qN (λ_=>cRep_ok _ w _ _ _ _ _ hl1 hta (by cases dd<;>exact zx rfl))<|trivial) (e:=by rcases s with _|_|_<;>cases dd<;>kernel_rfl)
def ck2 (P:Params) (n q q2 h m:Int) (a c d e:Nat) (s:Sg) (t:Nat):Sp:={c:= .call (.ref 192) ⟨[.int n t],[]⟩,i:=[],r:=λas ns=> .ret (.ok (.ret (.ref (as.getD 0 0)))),a:=λas ns=>[tu [.str ⟨⟨s.t++[a,c]++[58]++[d,e]⟩⟩ (ns.g 1),.int (s.v (60*(60*h+m))) (ns.g 2)]],ors:=[(λX=>iox "int.__mod__" n 7 t (X.t 0+1) 2,[]),(λX=>iox "int.__floordiv__" n 7 t (X.t 1+5) q,[]),(λX=>iox "int.__mod__" q 3 ((X.s 2).g 1) (X.t 2+0) s.n,[]),(λX=>iox "int.__floordiv__" n 21 t (X.t 3+1) q2,[]),(λX=>iox "int.__mod__" q2 24 ((X.s 4).g 1) (X.t 4+0) h,[]),(λX=>cTIn (X.a 2) (tI [2,3,4,5] (X.t 5+1)) 2 ((X.s 1).g 1) true,[2]),(λX=>iox "int.__floordiv__" n 504 t (X.t 6+0) m,[]),(λX=>cTIn (X.a 3) (tI [2,3] (X.t 7+1)) 2 ((X.s 1).g 1) true,[3]),(λX=>cRep (h+100) (X.t 8+1) [49,a,c],[]),(λX=>cTIn (X.a 5) (tI [2,4,6] (X.t 9+3)) 2 ((X.s 1).g 1) true,[5]),(λX=>cTIn (X.a 6) (tI [2,3,4,5] (X.t 10+3)) 2 ((X.s 1).g 1) true,[6]),(λX=>cRep (m+100) (X.t 11+1) [49,d,e],[])],s:=9,m:=12,x:=[8],tr:=trD 67 0x10410410410410482082010000471c70410411861810411451450400041040410410c30c1041041042082082041041041040,cs:=[1,2,0,3,0,1,0,1,9,5,3,9],as:=[8],ns:=λ_ _ N=>⟨[(N 11).t+s.n.toNat+11,s.p ((N 11).t+2) ((N 11).t+10) ((N 11).t+10),s.p ((N 11).t+8) ((N 11).t+8) ((N 11).t+12)],[],[],[]⟩}
theorem ck2_ok (w:World) (n q q2 h m:Int) (a c d e:Nat) (s:Sg) (t:Nat) (h7:n.fmod 7=2) (hq:n.fdiv 7=q) (hs:q.fmod 3=s.n) (hq2:n.fdiv 21=q2) (hh:q2.fmod 24=h) (hm:n.fdiv 504=m) (hl1:(h+100).natAbs.log2<1920) (hta:Str.ofString (toString (h+100))=⟨⟨[49,a,c]⟩⟩) (hl2:(m+100).natAbs.log2<1920) (hd:Str.ofString (toString (m+100))=⟨⟨[49,d,e]⟩⟩):OK (ck2 · n q q2 h m a c d e s t) w 780 8400:=
 okF 12 (qN (λ_=>(iox_mod w 6 _ _ h7).m)<|qN (λ_=>(iox_fd7 w _ _ hq).m)<|qN (λ_=>(iox_mod w 2 _ _ hs).m)<|qN (λ_=>(iox_fd21 w _ _ hq2).m)<|qN (λ_=>(iox_mod w 23 _ _ hh).m)<|qN (λ_=>tIn_ok _ w _ _ _ _ _ _ _ rfl)<|qN (λ_=>(iox_fd504 w _ _ hm).m)<|qN (λ_=>tIn_ok _ w _ _ _ _ _ _ _ rfl)<|qN (λ_=>cRep_ok _ w _ _ _ _ _ hl1 hta (zx rfl))<|qN (λ_=>tIn_ok _ w _ _ _ _ _ _ _ rfl)<|qN (λ_=>tIn_ok _ w _ _ _ _ _ _ _ rfl)<|qN (λ_=>cRep_ok _ w _ _ _ _ _ hl2 hd (zx rfl))<|trivial) (e:=by rcases s with _|_|_<;>kernel_rfl)
def ck3 (P:Params) (n q q2 h m:Int) (a c d e:Nat) (s:Sg) (t:Nat):Sp:={c:= .call (.ref 192) ⟨[.int n t],[]⟩,i:=[],r:=λas ns=> .ret (.ok (.ret (.ref (as.getD 0 0)))),a:=λas ns=>[tu [.str ⟨⟨s.t++[a,c]++[d,e]⟩⟩ (ns.g 1),.int (s.v (60*(60*h+m))) (ns.g 2)]],ors:=[(λX=>iox "int.__mod__" n 7 t (X.t 0+1) 3,[]),(λX=>iox "int.__floordiv__" n 7 t (X.t 1+5) q,[]),(λX=>iox "int.__mod__" q 3 ((X.s 2).g 1) (X.t 2+0) s.n,[]),(λX=>iox "int.__floordiv__" n 21 t (X.t 3+1) q2,[]),(λX=>iox "int.__mod__" q2 24 ((X.s 4).g 1) (X.t 4+0) h,[]),(λX=>cTIn (X.a 2) (tI [2,3,4,5] (X.t 5+1)) 3 ((X.s 1).g 1) true,[2]),(λX=>iox "int.__floordiv__" n 504 t (X.t 6+0) m,[]),(λX=>cTIn (X.a 3) (tI [2,3] (X.t 7+1)) 3 ((X.s 1).g 1) true,[3]),(λX=>cRep (h+100) (X.t 8+1) [49,a,c],[]),(λX=>cTIn (X.a 6) (tI [2,3,4,5] (X.t 9+6)) 3 ((X.s 1).g 1) true,[6]),(λX=>cRep (m+100) (X.t 10+1) [49,d,e],[])],s:=9,m:=11,x:=[8],tr:=trD 65 0x10410410410410482082010000471c70461861810411451450400041040410410c30c1041041042082082041041041040,cs:=[1,2,0,3,0,1,0,1,9,13,9],as:=[8],ns:=λ_ _ N=>⟨[(N 10).t+s.n.toNat+11,s.p ((N 10).t+2) ((N 10).t+10) ((N 10).t+10),s.p ((N 10).t+8) ((N 10).t+8) ((N 10).t+12)],[],[],[]⟩}
theorem ck3_ok (w:World) (n q q2 h m:Int) (a c d e:Nat) (s:Sg) (t:Nat) (h7:n.fmod 7=3) (hq:n.fdiv 7=q) (hs:q.fmod 3=s.n) (hq2:n.fdiv 21=q2) (hh:q2.fmod 24=h) (hm:n.fdiv 504=m) (hl1:(h+100).natAbs.log2<1920) (hta:Str.ofString (toString (h+100))=⟨⟨[49,a,c]⟩⟩) (hl2:(m+100).natAbs.log2<1920) (hd:Str.ofString (toString (m+100))=⟨⟨[49,d,e]⟩⟩):OK (ck3 · n q q2 h m a c d e s t) w 780 8400:=
 okF 11 (qN (λ_=>(iox_mod w 6 _ _ h7).m)<|qN (λ_=>(iox_fd7 w _ _ hq).m)<|qN (λ_=>(iox_mod w 2 _ _ hs).m)<|qN (λ_=>(iox_fd21 w _ _ hq2).m)<|qN (λ_=>(iox_mod w 23 _ _ hh).m)<|qN (λ_=>tIn_ok _ w _ _ _ _ _ _ _ rfl)<|qN (λ_=>(iox_fd504 w _ _ hm).m)<|qN (λ_=>tIn_ok _ w _ _ _ _ _ _ _ rfl)<|qN (λ_=>cRep_ok _ w _ _ _ _ _ hl1 hta (zx rfl))<|qN (λ_=>tIn_ok _ w _ _ _ _ _ _ _ rfl)<|qN (λ_=>cRep_ok _ w _ _ _ _ _ hl2 hd (zx rfl))<|trivial) (e:=by rcases s with _|_|_<;>kernel_rfl)
def ck4 (P:Params) (n q q2 h m:Int) (a c d e:Nat) (s:Sg) (dd:Bool) (t:Nat):Sp:={c:= .call (.ref 192) ⟨[.int n t],[]⟩,i:=[],r:=λas ns=> .ret (.ok (.ret (.ref (as.getD 0 0)))),a:=λas ns=>[tu [.str ⟨⟨s.t++(cond dd [a,c] [a])++[58]++[d,e]⟩⟩ (ns.g 1),.int (s.v (60*(60*h+m))) (ns.g 2)]],ors:=[(λX=>iox "int.__mod__" n 7 t (X.t 0+1) 4,[]),(λX=>iox "int.__floordiv__" n 7 t (X.t 1+5) q,[]),(λX=>iox "int.__mod__" q 3 ((X.s 2).g 1) (X.t 2+0) s.n,[]),(λX=>iox "int.__floordiv__" n 21 t (X.t 3+1) q2,[]),(λX=>iox "int.__mod__" q2 24 ((X.s 4).g 1) (X.t 4+0) h,[]),(λX=>cTIn (X.a 2) (tI [2,3,4,5] (X.t 5+1)) 4 ((X.s 1).g 1) true,[2]),(λX=>iox "int.__floordiv__" n 504 t (X.t 6+0) m,[]),(λX=>cRep h ((X.s 5).g 1) (cond dd [a,c] [a]),[]),(λX=>cTIn (X.a 4) (tI [2,4,6] (X.t 8+1)) 4 ((X.s 1).g 1) true,[4]),(λX=>cTIn (X.a 5) (tI [2,3,4,5] (X.t 9+3)) 4 ((X.s 1).g 1) true,[5]),(λX=>cRep (m+100) (X.t 10+1) [49,d,e],[])],s:=8,m:=11,x:=[7],tr:=trD 64 0x410410410410411c71c70400011861810410451450410410001041040410410c30c1041041042082082041041041040,cs:=[1,2,0,3,0,1,0,13,3,3,9],as:=[7],ns:=λ_ _ N=>⟨[(N 10).t+s.n.toNat+11,s.p ((N 10).t+2) ((N 10).t+10) ((N 10).t+10),s.p ((N 10).t+8) ((N 10).t+8) ((N 10).t+12)],[],[],[]⟩}
theorem ck4_ok (w:World) (n q q2 h m:Int) (a c d e:Nat) (s:Sg) (dd:Bool) (t:Nat) (h7:n.fmod 7=4) (hq:n.fdiv 7=q) (hs:q.fmod 3=s.n) (hq2:n.fdiv 21=q2) (hh:q2.fmod 24=h) (hm:n.fdiv 504=m) (hl1:h.natAbs.log2<1920) (hta:Str.ofString (toString h)=⟨⟨(cond dd [a,c] [a])⟩⟩) (hl2:(m+100).natAbs.log2<1920) (hd:Str.ofString (toString (m+100))=⟨⟨[49,d,e]⟩⟩):OK (ck4 · n q q2 h m a c d e s dd t) w 780 8400:=
 okF 11 (qN (λ_=>(iox_mod w 6 _ _ h7).m)<|qN (λ_=>(iox_fd7 w _ _ hq).m)<|qN (λ_=>(iox_mod w 2 _ _ hs).m)<|qN (λ_=>(iox_fd21 w _ _ hq2).m)<|qN (λ_=>(iox_mod w 23 _ _ hh).m)<|qN (λ_=>tIn_ok _ w _ _ _ _ _ _ _ rfl)<|qN (λ_=>(iox_fd504 w _ _ hm).m)<|qN (λ_=>cRep_ok _ w _ _ _ _ _ hl1 hta (by cases dd<;>exact zx rfl))<|qN (λ_=>tIn_ok _ w _ _ _ _ _ _ _ rfl)<|qN (λ_=>tIn_ok _ w _ _ _ _ _ _ _ rfl)<|qN (λ_=>cRep_ok _ w _ _ _ _ _ hl2 hd (zx rfl))<|trivial) (e:=by rcases s with _|_|_<;>cases dd<;>kernel_rfl)
def ck5 (P:Params) (n q q2 h m:Int) (a c d e:Nat) (s:Sg) (dd:Bool) (t:Nat):Sp:={c:= .call (.ref 192) ⟨[.int n t],[]⟩,i:=[],r:=λas ns=> .ret (.ok (.ret (.ref (as.getD 0 0)))),a:=λas ns=>[tu [.str ⟨⟨s.t++(cond dd [a,c] [a])++[d,e]⟩⟩ (ns.g 1),.int (s.v (60*(60*h+m))) (ns.g 2)]],ors:=[(λX=>iox "int.__mod__" n 7 t (X.t 0+1) 5,[]),(λX=>iox "int.__floordiv__" n 7 t (X.t 1+5) q,[]),(λX=>iox "int.__mod__" q 3 ((X.s 2).g 1) (X.t 2+0) s.n,[]),(λX=>iox "int.__floordiv__" n 21 t (X.t 3+1) q2,[]),(λX=>iox "int.__mod__" q2 24 ((X.s 4).g 1) (X.t 4+0) h,[]),(λX=>cTIn (X.a 2) (tI [2,3,4,5] (X.t 5+1)) 5 ((X.s 1).g 1) true,[2]),(λX=>iox "int.__floordiv__" n 504 t (X.t 6+0) m,[]),(λX=>cRep h ((X.s 5).g 1) (cond dd [a,c] [a]),[]),(λX=>cTIn (X.a 5) (tI [2,3,4,5] (X.t 8+4)) 5 ((X.s 1).g 1) true,[5]),(λX=>cRep (m+100) (X.t 9+1) [49,d,e],[])],s:=8,m:=10,x:=[7],tr:=trD 62 0x410410410410411c71c70400011861811451450410410001041040410410c30c1041041042082082041041041040,cs:=[1,2,0,3,0,1,0,13,11,9],as:=[7],ns:=λ_ _ N=>⟨[(N 9).t+s.n.toNat+11,s.p ((N 9).t+2) ((N 9).t+10) ((N 9).t+10),s.p ((N 9).t+8) ((N 9).t+8) ((N 9).t+12)],[],[],[]⟩}
theorem ck5_ok (w:World) (n q q2 h m:Int) (a c d e:Nat) (s:Sg) (dd:Bool) (t:Nat) (h7:n.fmod 7=5) (hq:n.fdiv 7=q) (hs:q.fmod 3=s.n) (hq2:n.fdiv 21=q2) (hh:q2.fmod 24=h) (hm:n.fdiv 504=m) (hl1:h.natAbs.log2<1920) (hta:Str.ofString (toString h)=⟨⟨(cond dd [a,c] [a])⟩⟩) (hl2:(m+100).natAbs.log2<1920) (hd:Str.ofString (toString (m+100))=⟨⟨[49,d,e]⟩⟩):OK (ck5 · n q q2 h m a c d e s dd t) w 780 8400:=
 okF 10 (qN (λ_=>(iox_mod w 6 _ _ h7).m)<|qN (λ_=>(iox_fd7 w _ _ hq).m)<|qN (λ_=>(iox_mod w 2 _ _ hs).m)<|qN (λ_=>(iox_fd21 w _ _ hq2).m)<|qN (λ_=>(iox_mod w 23 _ _ hh).m)<|qN (λ_=>tIn_ok _ w _ _ _ _ _ _ _ rfl)<|qN (λ_=>(iox_fd504 w _ _ hm).m)<|qN (λ_=>cRep_ok _ w _ _ _ _ _ hl1 hta (by cases dd<;>exact zx rfl))<|qN (λ_=>tIn_ok _ w _ _ _ _ _ _ _ rfl)<|qN (λ_=>cRep_ok _ w _ _ _ _ _ hl2 hd (zx rfl))<|trivial) (e:=by rcases s with _|_|_<;>cases dd<;>kernel_rfl)
def ck6 (P:Params) (n q q2 h m:Int) (a c d e:Nat) (s:Sg) (dd:Bool) (t:Nat):Sp:={c:= .call (.ref 192) ⟨[.int n t],[]⟩,i:=[],r:=λas ns=> .ret (.ok (.ret (.ref (as.getD 0 0)))),a:=λas ns=>[tu [.str ⟨⟨s.t++(cond dd [a,c] [a])++[58]⟩⟩ (ns.g 1),.int (s.v (60*(60*h+0))) (ns.g 2)]],ors:=[(λX=>iox "int.__mod__" n 7 t (X.t 0+1) 6,[]),(λX=>iox "int.__floordiv__" n 7 t (X.t 1+5) q,[]),(λX=>iox "int.__mod__" q 3 ((X.s 2).g 1) (X.t 2+0) s.n,[]),(λX=>iox "int.__floordiv__" n 21 t (X.t 3+1) q2,[]),(λX=>iox "int.__mod__" q2 24 ((X.s 4).g 1) (X.t 4+0) h,[]),(λX=>cRep h ((X.s 5).g 1) (cond dd [a,c] [a]),[]),(λX=>cTIn (X.a 4) (tI [2,4,6] (X.t 6+1)) 6 ((X.s 1).g 1) true,[4])],s:=7,m:=7,x:=[6],tr:=trD 55 0x10410410410461861810410451450410410001041040410430c30c1041041042082082041041041040,cs:=[1,2,0,3,0,23,3],as:=[6],ns:=λ_ _ N=>⟨[(N 6).t+s.n.toNat+14,s.p ((N 6).t+1) ((N 6).t+13) ((N 6).t+13),s.p ((N 6).t+11) ((N 6).t+11) ((N 6).t+15)],[],[],[]⟩}
theorem ck6_ok (w:World) (n q q2 h m:Int) (a c d e:Nat) (s:Sg) (dd:Bool) (t:Nat) (h7:n.fmod 7=6) (hq:n.fdiv 7=q) (hs:q.fmod 3=s.n) (hq2:n.fdiv 21=q2) (hh:q2.fmod 24=h) (hl1:h.natAbs.log2<1920) (hta:Str.ofString (toString h)=⟨⟨(cond dd [a,c] [a])⟩⟩):OK (ck6 · n q q2 h m a c d e s dd t) w 780 8400:=
 okF 7 (qN (λ_=>(iox_mod w 6 _ _ h7).m)<|qN (λ_=>(iox_fd7 w _ _ hq).m)<|qN (λ_=>(iox_mod w 2 _ _ hs).m)<|qN (λ_=>(iox_fd21 w _ _ hq2).m)<|qN (λ_=>(iox_mod w 23 _ _ hh).m)<|qN (λ_=>cRep_ok _ w _ _ _ _ _ hl1 hta (by cases dd<;>exact zx rfl))<|qN (λ_=>tIn_ok _ w _ _ _ _ _ _ _ rfl)<|trivial) (e:=by rcases s with _|_|_<;>cases dd<;>kernel_rfl)
noncomputable def zj (j k:Bool):Nat:=cond j (cond k 3 2) (cond k 1 0)
noncomputable def zt (j k:Bool):List Nat:=cond j (cond k [90] [85,84]) (cond k [85,84,67] [71,77,84])
def ck0 (P:Params) (n q:Int) (j k:Bool) (t:Nat):Sp:={c:= .call (.ref 192) ⟨[.int n t],[]⟩,i:=[],r:=λas ns=> .ret (.ok (.ret (.ref (as.getD 0 0)))),a:=λas ns=>[tu [.str ⟨⟨zt j k⟩⟩ (ns.g 1),.int 0 (ns.g 2)]],ors:=[(λX=>iox "int.__mod__" n 7 t (X.t 0+1) 0,[]),(λX=>iox "int.__floordiv__" n 7 t (X.t 1+6) q,[]),(λX=>iox "int.__mod__" q 4 ((X.s 2).g 1) (X.t 2+0) (zj j k:Int),[])],s:=3,m:=3,x:=[2],tr:=trD 13 0x2082082041041041040,cs:=[1,2,0],as:=[2],ns:=λ_ _ N=>⟨[((N 2).t+1),(N 0).t+zj j k+2,(N 2).t],[],[],[]⟩}
theorem ck0_ok (w:World) (n q:Int) (j k:Bool) (t:Nat) (h7:n.fmod 7=0) (hq:n.fdiv 7=q) (hs:q.fmod 4=(zj j k:Int)):OK (ck0 · n q j k t) w 780 8400:=
 okF 3 (qN (λ_=>(iox_mod w 6 _ _ h7).m)<|qN (λ_=>(iox_fd7 w _ _ hq).m)<|qN (λ_=>(iox_mod w 3 _ _ hs).m)<|trivial) (e:=by cases j<;>cases k<;>kernel_rfl)
noncomputable def d2 (x:Nat):List Nat:=[48+x/10,48+x%10]
noncomputable def dA (h:Nat):Nat:=cond (Nat.ble 10 h) (48+h/10) (48+h)
def hT (h:Nat):List Nat:=cond (Nat.ble 10 h) [dA h,48+h%10] [dA h]
noncomputable def sg (k:Nat):Sg:=match k with|0=>none|1=>some false|_=>some true
def clkT (n:Nat):List Nat:=match n%7 with
 |0=>zt (Nat.ble 2 (n/7%4)) (Nat.beq (n/7%4%2) 1)
 |1=>(sg (n/7%3)).t++hT (n/21%24)
 |2=>(sg (n/7%3)).t++d2 (n/21%24)++[58]++d2 (n/504)
 |3=>(sg (n/7%3)).t++d2 (n/21%24)++d2 (n/504)
 |4=>(sg (n/7%3)).t++hT (n/21%24)++[58]++d2 (n/504)
 |5=>(sg (n/7%3)).t++hT (n/21%24)++d2 (n/504)
 |_=>(sg (n/7%3)).t++hT (n/21%24)++[58]
def clkS (n:Nat):Int:=match n%7 with
 |0=>0
 |1|6=>(sg (n/7%3)).v (60*(60*((n/21%24:Nat):Int)+0))
 |_=>(sg (n/7%3)).v (60*(60*((n/21%24:Nat):Int)+((n/504:Nat):Int)))
def cTx (n:Int) (t:Nat) (T:List Nat) (S:Int):Ct:={code:= .call (.ref 192) ⟨[.int n t],[]⟩,hd:=some none,pre:=[],k:=1,fo:=λas _=> .ret (.ok (.ret (.ref (as.getD 0 0)))),post:=λ_ _=>[],news:=λ_ ns=>[tu [.str ⟨⟨T⟩⟩ (ns.g 1),.int S (ns.g 2)]],fact:=λ_ _=>True}
theorem fm_nat (a b:Nat):(a:Int).fmod (b:Int)=((a%b:Nat):Int):=by cases a<;>simp [Int.fmod]
theorem fd_nat (a b:Nat):(a:Int).fdiv (b:Int)=((a/b:Nat):Int):=by cases a<;>simp [Int.fdiv]
theorem str_h:∀h,h<24->(Str.ofString (toString ((h:Nat):Int))).cps.toList=hT h:=by decide+kernel
theorem str_2:∀h,h<60->(Str.ofString (toString (((h:Nat):Int)+100))).cps.toList=49::d2 h:=by decide+kernel
theorem of_cps {x:Str} {l:List Nat} (h:x.cps.toList=l):x=⟨⟨l⟩⟩:=by subst h;rfl
theorem sg_n:∀k,k<3->((k:Nat):Int)=(sg k).n:=by decide
theorem log_le {x:Int} {n:Nat} (h:x=(n:Int)) (hn:n<1000):x.natAbs.log2<1920:=by
 subst h;exact Nat.lt_of_le_of_lt (Nat.log2_le_self _) (by show n<1920;lia)
theorem clk_ok (w:World) (n t:Nat) (hn:n<30240):(cTx n t (clkT n) (clkS n)).Ok (ktOf w.params) prg w 780 8400:=by
 have h1:n/21%24<24:=Nat.mod_lt _ (by decide);have h2:n/504<60:=by lia
 have h3:n/7%3<3:=Nat.mod_lt _ (by decide);have q7:(n:Int).fdiv 7=((n/7:Nat):Int):=fd_nat n 7;have q21:(n:Int).fdiv 21=((n/21:Nat):Int):=fd_nat n 21;have q504:(n:Int).fdiv 504=((n/504:Nat):Int):=fd_nat n 504;have hs:((n/7:Nat):Int).fmod 3=(sg (n/7%3)).n:=(fm_nat _ 3).trans (sg_n _ h3);have hh:((n/21:Nat):Int).fmod 24=((n/21%24:Nat):Int):=fm_nat _ 24;have l1:((n/21%24:Nat):Int).natAbs.log2<1920:=log_le (n:=n/21%24) rfl (by lia);have l2:(((n/21%24:Nat):Int)+100).natAbs.log2<1920:=log_le (n:=n/21%24+100) rfl (by lia);have l3:(((n/504:Nat):Int)+100).natAbs.log2<1920:=log_le (n:=n/504+100) rfl (by lia);have s1:=of_cps (str_h _ h1);have s2:=of_cps (str_2 _ (Nat.lt_of_lt_of_le h1 (by decide)));have s3:=of_cps (str_2 _ h2);have f7:∀f:Nat,n%7=f->(n:Int).fmod 7=(f:Int):=λf h=>(fm_nat n 7).trans (by rw [h]);obtain h|h|h|h|h|h|h:n%7=0\/n%7=1\/n%7=2\/n%7=3\/n%7=4\/n%7=5\/n%7=6:=by lia
 all_goals (unfold clkT clkS;rw [h])
 ·have h4:n/7%4<4:=Nat.mod_lt _ (by decide)
  have z:∀k,k<4->((k:Nat):Int)=(zj (Nat.ble 2 k) (Nat.beq (k%2) 1):Int):=by decide
  exact ck0_ok w n _ _ _ t (f7 0 h) q7 ((fm_nat _ 4).trans (z _ h4))
 ·exact ck1_ok w n _ _ _ 0 (dA (n/21%24)) (48+n/21%24%10) 0 0 _ (Nat.ble 10 (n/21%24)) t (f7 1 h) q7 hs q21 hh l1 s1
 ·exact ck2_ok w n _ _ _ _ _ _ _ _ _ t (f7 2 h) q7 hs q21 hh q504 l2 s2 l3 s3
 ·exact ck3_ok w n _ _ _ _ _ _ _ _ _ t (f7 3 h) q7 hs q21 hh q504 l2 s2 l3 s3
 ·exact ck4_ok w n _ _ _ _ (dA (n/21%24)) (48+n/21%24%10) _ _ _ (Nat.ble 10 (n/21%24)) t (f7 4 h) q7 hs q21 hh q504 l1 s1 l3 s3
 ·exact ck5_ok w n _ _ _ _ (dA (n/21%24)) (48+n/21%24%10) _ _ _ (Nat.ble 10 (n/21%24)) t (f7 5 h) q7 hs q21 hh q504 l1 s1 l3 s3
 ·exact ck6_ok w n _ _ _ 0 (dA (n/21%24)) (48+n/21%24%10) 0 0 _ (Nat.ble 10 (n/21%24)) t (f7 6 h) q7 hs q21 hh l1 s1
noncomputable def cZr (ts:List Nat) (t:Nat) (r:Bool):Ct:={code:= .builtin "dict.__contains__" ⟨[.ref 39,.str ⟨⟨ts⟩⟩ t],[]⟩,pre:=[],k:=0,fo:=λ_ _=> .ret (.ok (.ret (.bool r))),post:=λ_ _=>[],news:=λ_ _=>[],fact:=λ_ _=>True}
noncomputable def rI (a b:Int):List Value:=[rawInt a,rawInt b]
noncomputable def Sg.l:Sg->Int|none=>0|_=>1
def spS (s:Sg):List Value:=match s with|none=>rI (-1) (-1)|_=>rI 0 1
noncomputable def hL (dd:Bool):Int:=cond dd 2 1
theorem zr_ok (w:World) (D U:Nat) (ts:List Nat) (t:Nat) {r:Bool} (h:zoneN.elem ts=r):(cZr ts t r).Ok (ktOf w.params) prg w D U:=by subst h;exact z_ok w D U ts t
def ogA (P:Params) (a c d e:Nat) (s:Sg) (dd:Bool) (t:Nat):Sp:={c:= .call (.ref 51) ⟨[.str ⟨⟨s.t++(cond dd [a,c] [a])⟩⟩ t],[]⟩,i:=[],r:=λas ns=> .ret (.ok (.ret (.int (s.v (3600*(NumText.digitsVal (cond dd [a,c] [a]):Nat))) (ns.g 1)))),ors:=[(λX=>cZr (s.t++(cond dd [a,c] [a])) t false,[]),(λX=>cSearch (s.t++(cond dd [a,c] [a])) t (rI 0 (s.l+hL dd)++spS s++rI s.l (s.l+hL dd)++rI (-1) (-1)) 2,[]),(λX=>cInt (cond dd [a,c] [a]) (X.t 2+3),[])],s:=3,m:=3,tr:=match s,dd with|none,true=>(trD 51 0x10830c30c30c10830c30c30c10410830c30c30c10000c3041040040000000000000041041040)|none,false=>(trD 51 0x10830c30c30c10830c30c30c10410830c30c30c10000c3041040040000000000000041041040)|(some false),true=>(trD 51 0x10830c30c30c10830c30c30c10410830c30c30c10000c3041040040000000000000041041040)|(some false),false=>(trD 51 0x10830c30c30c10830c30c30c10410830c30c30c10000c3041040040000000000000041041040)|(some true),true=>(trD 54 0x410410830c30c30c10830c30c30c10410830c30c30c10000c3041040040000000000000041041040)|(some true),false=>(trD 54 0x410410830c30c30c10830c30c30c10410830c30c30c10000c3041040040000000000000041041040),cs:=[2,1,5],ns:=λ_ _ N=>⟨[s.p ((N 2).t+5) ((N 2).t+6) ((N 2).t+8),s.p ((N 2).t+0) ((N 2).t+0) ((N 2).t+6)],[],[],[]⟩}
theorem ogA_ok (w:World) (a c d e:Nat) (s:Sg) (dd:Bool) (t:Nat) (hz:zoneN.elem (s.t++(cond dd [a,c] [a]))=false) (ht:(s.t++(cond dd [a,c] [a])).map cl=s.t++(cond dd [48,48] [48])) (hta:NumText.AllDigits (cond dd [a,c] [a])):OK (ogA · a c d e s dd t) w 780 8400:=
 okF 3 (qN (λ_=>zr_ok w _ _ _ t hz)<|qN (λ_=>search_ok w _ _ _ t _ _ (s.t++(cond dd [48,48] [48])) ht (by rcases s with _|_|_<;>cases dd<;>decide+kernel) (by rcases s with _|_|_<;>cases dd<;>exact zx rfl) (by rcases s with _|_|_<;>cases dd<;>decide+kernel))<|qN (λ_=>int_ok _ w _ _ _ _ hta (by cases dd<;>simp) (by cases dd<;>exact zx rfl))<|trivial) (e:=by rcases s with _|_|_<;>cases dd<;>kernel_rfl)
def ogB (P:Params) (a c d e:Nat) (s:Sg) (dd:Bool) (t:Nat):Sp:={c:= .call (.ref 51) ⟨[.str ⟨⟨s.t++(cond dd [a,c] [a])++[58]++[d,e]⟩⟩ t],[]⟩,i:=[],r:=λas ns=> .ret (.ok (.ret (.int (s.v (3600*(NumText.digitsVal (cond dd [a,c] [a]):Nat)+60*(NumText.digitsVal [d,e]:Nat))) (ns.g 1)))),ors:=[(λX=>cZr (s.t++(cond dd [a,c] [a])++[58]++[d,e]) t false,[]),(λX=>cSearch (s.t++(cond dd [a,c] [a])++[58]++[d,e]) t (rI 0 (s.l+hL dd+1+2)++spS s++rI s.l (s.l+hL dd)++rI (s.l+hL dd+1) (s.l+hL dd+1+2)) 3,[]),(λX=>cInt (cond dd [a,c] [a]) (X.t 2+3),[]),(λX=>cInt [d,e] (X.t 3+8),[])],s:=3,m:=4,tr:=match s,dd with|none,true=>(trD 64 0x420c30c30c30410420c30c30c30400010830c30c30c10410830c30c30c10000c3041040040000000000000041041040)|none,false=>(trD 64 0x420c30c30c30410420c30c30c30400010830c30c30c10410830c30c30c10000c3041040040000000000000041041040)|(some false),true=>(trD 64 0x420c30c30c30410420c30c30c30400010830c30c30c10410830c30c30c10000c3041040040000000000000041041040)|(some false),false=>(trD 64 0x420c30c30c30410420c30c30c30400010830c30c30c10410830c30c30c10000c3041040040000000000000041041040)|(some true),true=>(trD 67 0x10410420c30c30c30410420c30c30c30400010830c30c30c10410830c30c30c10000c3041040040000000000000041041040)|(some true),false=>(trD 67 0x10410420c30c30c30410420c30c30c30400010830c30c30c10410830c30c30c10000c3041040040000000000000041041040),cs:=[2,1,5,14],ns:=λ_ _ N=>⟨[s.p ((N 3).t+5) ((N 3).t+6) ((N 3).t+8),s.p ((N 3).t+1) ((N 3).t+1) ((N 3).t+6)],[],[],[]⟩}
theorem ogB_ok (w:World) (a c d e:Nat) (s:Sg) (dd:Bool) (t:Nat) (hz:zoneN.elem (s.t++(cond dd [a,c] [a])++[58]++[d,e])=false) (ht:(s.t++(cond dd [a,c] [a])++[58]++[d,e]).map cl=s.t++(cond dd [48,48] [48])++[58]++[48,48]) (hta:NumText.AllDigits (cond dd [a,c] [a])) (hd:NumText.AllDigits [d,e]):OK (ogB · a c d e s dd t) w 780 8400:=
 okF 4 (qN (λ_=>zr_ok w _ _ _ t hz)<|qN (λ_=>search_ok w _ _ _ t _ _ (s.t++(cond dd [48,48] [48])++[58]++[48,48]) ht (by rcases s with _|_|_<;>cases dd<;>decide+kernel) (by rcases s with _|_|_<;>cases dd<;>exact zx rfl) (by rcases s with _|_|_<;>cases dd<;>decide+kernel))<|qN (λ_=>int_ok _ w _ _ _ _ hta (by cases dd<;>simp) (by cases dd<;>exact zx rfl))<|qN (λ_=>int_ok _ w _ _ _ _ hd (by simp) (zx rfl))<|trivial) (e:=by rcases s with _|_|_<;>cases dd<;>kernel_rfl)
def ogC (P:Params) (a c d e:Nat) (s:Sg) (dd:Bool) (t:Nat):Sp:={c:= .call (.ref 51) ⟨[.str ⟨⟨s.t++(cond dd [a,c] [a])++[d,e]⟩⟩ t],[]⟩,i:=[],r:=λas ns=> .ret (.ok (.ret (.int (s.v (3600*(NumText.digitsVal (cond dd [a,c] [a]):Nat)+60*(NumText.digitsVal [d,e]:Nat))) (ns.g 1)))),ors:=[(λX=>cZr (s.t++(cond dd [a,c] [a])++[d,e]) t false,[]),(λX=>cSearch (s.t++(cond dd [a,c] [a])++[d,e]) t (rI 0 (s.l+hL dd+2)++spS s++rI s.l (s.l+hL dd)++rI (s.l+hL dd) (s.l+hL dd+2)) 3,[]),(λX=>cInt (cond dd [a,c] [a]) (X.t 2+3),[]),(λX=>cInt [d,e] (X.t 3+8),[])],s:=3,m:=4,tr:=match s,dd with|none,true=>(trD 64 0x420c30c30c30410420c30c30c30400010830c30c30c10410830c30c30c10000c3041040040000000000000041041040)|none,false=>(trD 64 0x420c30c30c30410420c30c30c30400010830c30c30c10410830c30c30c10000c3041040040000000000000041041040)|(some false),true=>(trD 64 0x420c30c30c30410420c30c30c30400010830c30c30c10410830c30c30c10000c3041040040000000000000041041040)|(some false),false=>(trD 64 0x420c30c30c30410420c30c30c30400010830c30c30c10410830c30c30c10000c3041040040000000000000041041040)|(some true),true=>(trD 67 0x10410420c30c30c30410420c30c30c30400010830c30c30c10410830c30c30c10000c3041040040000000000000041041040)|(some true),false=>(trD 67 0x10410420c30c30c30410420c30c30c30400010830c30c30c10410830c30c30c10000c3041040040000000000000041041040),cs:=[2,1,5,14],ns:=λ_ _ N=>⟨[s.p ((N 3).t+5) ((N 3).t+6) ((N 3).t+8),s.p ((N 3).t+1) ((N 3).t+1) ((N 3).t+6)],[],[],[]⟩}
theorem ogC_ok (w:World) (a c d e:Nat) (s:Sg) (dd:Bool) (t:Nat) (hz:zoneN.elem (s.t++(cond dd [a,c] [a])++[d,e])=false) (ht:(s.t++(cond dd [a,c] [a])++[d,e]).map cl=s.t++(cond dd [48,48] [48])++[48,48]) (hta:NumText.AllDigits (cond dd [a,c] [a])) (hd:NumText.AllDigits [d,e]):OK (ogC · a c d e s dd t) w 780 8400:=
 okF 4 (qN (λ_=>zr_ok w _ _ _ t hz)<|qN (λ_=>search_ok w _ _ _ t _ _ (s.t++(cond dd [48,48] [48])++[48,48]) ht (by rcases s with _|_|_<;>cases dd<;>decide+kernel) (by rcases s with _|_|_<;>cases dd<;>exact zx rfl) (by rcases s with _|_|_<;>cases dd<;>decide+kernel))<|qN (λ_=>int_ok _ w _ _ _ _ hta (by cases dd<;>simp) (by cases dd<;>exact zx rfl))<|qN (λ_=>int_ok _ w _ _ _ _ hd (by simp) (zx rfl))<|trivial) (e:=by rcases s with _|_|_<;>cases dd<;>kernel_rfl)
def ogD (P:Params) (a c d e:Nat) (s:Sg) (dd:Bool) (t:Nat):Sp:={c:= .call (.ref 51) ⟨[.str ⟨⟨s.t++(cond dd [a,c] [a])++[58]⟩⟩ t],[]⟩,i:=[],r:=λas ns=> .ret (.ok (.ret (.int (s.v (3600*(NumText.digitsVal (cond dd [a,c] [a]):Nat))) (ns.g 1)))),ors:=[(λX=>cZr (s.t++(cond dd [a,c] [a])++[58]) t false,[]),(λX=>cSearch (s.t++(cond dd [a,c] [a])++[58]) t (rI 0 (s.l+hL dd+1)++spS s++rI s.l (s.l+hL dd)++rI (-1) (-1)) 2,[]),(λX=>cInt (cond dd [a,c] [a]) (X.t 2+3),[])],s:=3,m:=3,tr:=match s,dd with|none,true=>(trD 51 0x10830c30c30c10830c30c30c10410830c30c30c10000c3041040040000000000000041041040)|none,false=>(trD 51 0x10830c30c30c10830c30c30c10410830c30c30c10000c3041040040000000000000041041040)|(some false),true=>(trD 51 0x10830c30c30c10830c30c30c10410830c30c30c10000c3041040040000000000000041041040)|(some false),false=>(trD 51 0x10830c30c30c10830c30c30c10410830c30c30c10000c3041040040000000000000041041040)|(some true),true=>(trD 54 0x410410830c30c30c10830c30c30c10410830c30c30c10000c3041040040000000000000041041040)|(some true),false=>(trD 54 0x410410830c30c30c10830c30c30c10410830c30c30c10000c3041040040000000000000041041040),cs:=[2,1,5],ns:=λ_ _ N=>⟨[s.p ((N 2).t+5) ((N 2).t+6) ((N 2).t+8),s.p ((N 2).t+0) ((N 2).t+0) ((N 2).t+6)],[],[],[]⟩}
theorem ogD_ok (w:World) (a c d e:Nat) (s:Sg) (dd:Bool) (t:Nat) (hz:zoneN.elem (s.t++(cond dd [a,c] [a])++[58])=false) (ht:(s.t++(cond dd [a,c] [a])++[58]).map cl=s.t++(cond dd [48,48] [48])++[58]) (hta:NumText.AllDigits (cond dd [a,c] [a])):OK (ogD · a c d e s dd t) w 780 8400:=
 okF 3 (qN (λ_=>zr_ok w _ _ _ t hz)<|qN (λ_=>search_ok w _ _ _ t _ _ (s.t++(cond dd [48,48] [48])++[58]) ht (by rcases s with _|_|_<;>cases dd<;>decide+kernel) (by rcases s with _|_|_<;>cases dd<;>exact zx rfl) (by rcases s with _|_|_<;>cases dd<;>decide+kernel))<|qN (λ_=>int_ok _ w _ _ _ _ hta (by cases dd<;>simp) (by cases dd<;>exact zx rfl))<|trivial) (e:=by rcases s with _|_|_<;>cases dd<;>kernel_rfl)
def ofZ (P:Params) (j k:Bool) (t:Nat):Sp:={c:= .call (.ref 51) ⟨[.str ⟨⟨zt j k⟩⟩ t],[]⟩,i:=[],r:=λas ns=> .ret (.ok (.ret (.int 0 (ns.g 1)))),ors:=[(λX=>cZr (zt j k) t true,[])],s:=1,m:=1,tr:=trD 13 0x1041000000041041040,cs:=[2],ns:=λ_ _ N=>⟨[((N 0).t+1+1),(N 0).t],[],[],[]⟩}
theorem ofZ_ok (w:World) (j k:Bool) (t:Nat):OK (ofZ · j k t) w 780 8400:=
 okF 1 (qN (λ_=>zr_ok w _ _ _ t (by cases j<;>cases k<;>rfl))<|trivial) (e:=by cases j<;>cases k<;>kernel_rfl)
noncomputable def cOffs (T:List Nat) (t:Nat) (S:Int):Ct:={code:= .call (.ref 51) ⟨[.str ⟨⟨T⟩⟩ t],[]⟩,hd:=some none,pre:=[],k:=0,fo:=λ_ ns=> .ret (.ok (.ret (.int S (ns.g 1)))),post:=λ_ _=>[],news:=λ_ _=>[],fact:=λ_ _=>True}
theorem dv_h:∀h,h<24->(NumText.digitsVal (hT h)=h/\(hT h).all (λc=>Nat.ble 48 c&&Nat.ble c 57)=true):=by decide+kernel
theorem dv_2:∀h,h<60->(NumText.digitsVal (d2 h)=h/\(d2 h).all (λc=>Nat.ble 48 c&&Nat.ble c 57)=true):=by decide+kernel
theorem all_d {l:List Nat} (h:l.all (λc=>Nat.ble 48 c&&Nat.ble c 57)=true):NumText.AllDigits l:=λc hc=>by
 have:=vy.mp h c hc;rw [kj] at this;exact ⟨zx this.1,zx this.2⟩
theorem nz {x:Nat} (l:List Nat) (h:x<60):zoneN.elem (x::l)=false:=by
 have e:∀y:Nat,60<=y->(x==y)=false:=λy hy=>kv.mpr (by lia);have k:∀(y:Nat) (m:List Nat),60<=y->((x::l)==(y::m))=false:=λy m hy=>by
  show (x==y&&l==m)=false;rw [e y hy];rfl
 unfold zoneN;simp only [List.elem_cons,elem_nil];rw [k 71 _ (by decide),k 85 _ (by decide),k 85 _ (by decide),k 90 _ (by decide)]
theorem nz_s (s:Sg) {l:List Nat} {x:Nat} {m:List Nat} (e:l=x::m) (h:x<60):zoneN.elem (s.t++l)=false:=by
 subst e;rcases s with _|_|_
 ·exact nz _ h
 ·exact nz _ (by decide)
 ·exact nz _ (by decide)
theorem cl_dig {x:Nat} (h:48<=x/\x<=57):cl x=48:=by unfold cl;rw [if_pos h]
theorem cl_sg (s:Sg):s.t.map cl=s.t:=by rcases s with _|_|_<;>rfl
theorem hT_head (h:Nat) (hh:h<24):∃m,hT h=dA h::m/\dA h<60:=by
 obtain ⟨m,e⟩:∃m,hT h=dA h::m:=by
  unfold hT;cases Nat.ble 10 h
  ·exact ⟨[],rfl⟩
  ·exact ⟨[48+h%10],rfl⟩
 have:=all_d (dv_h h hh).2 (dA h) (by rw [e];exact zy ..);exact ⟨m,e,by lia⟩
theorem cl_all {l:List Nat} (h:NumText.AllDigits l):l.map cl=replicate l.length 48:=by
 induction l with
 |nil=>rfl
 |cons x l ih=>rw [kQ,cl_dig (h x (by simp)),ih (λc hc=>h c (by simp [hc]))];rfl
theorem of_ok' (w:World) (n t:Nat) (hn:n<30240):(cOffs (clkT n) t (clkS n)).Ok (ktOf w.params) prg w 780 8400:=by
 have h1:n/21%24<24:=Nat.mod_lt _ (by decide);have h2:n/504<60:=by lia
 have a1:=all_d (dv_h _ h1).2;have a2:=all_d (dv_2 _ (Nat.lt_of_lt_of_le h1 (by decide:24<=60))).2;have a3:=all_d (dv_2 _ h2).2;obtain ⟨m1,e1,l1⟩:=hT_head _ h1;have v1:=(dv_h _ h1).1;have v2:=(dv_2 _ (Nat.lt_of_lt_of_le h1 (by decide:24<=60))).1;have v3:=(dv_2 _ h2).1;have l2:48+n/21%24/10<60:=by lia
 have c1:(hT (n/21%24)).map cl=cond (Nat.ble 10 (n/21%24)) [48,48] [48]:=by
  rw [cl_all a1];unfold hT;cases Nat.ble 10 (n/21%24)<;>rfl
 have c2:(d2 (n/21%24)).map cl=[48,48]:=cl_all a2;have c3:(d2 (n/504)).map cl=[48,48]:=cl_all a3;obtain h|h|h|h|h|h|h:n%7=0\/n%7=1\/n%7=2\/n%7=3\/n%7=4\/n%7=5\/n%7=6:=by lia
 all_goals (unfold clkT clkS;rw [h])
 ·exact ofZ_ok w _ _ t
 ·have E:(3600*((NumText.digitsVal (hT (n/21%24)):Nat):Int))=60*(60*((n/21%24:Nat):Int)+0):=by rw [v1];lia
  have:=ogA_ok w (dA (n/21%24)) (48+n/21%24%10) 0 0 (sg (n/7%3)) (Nat.ble 10 (n/21%24)) t (nz_s _ e1 l1) (by rw [zU,cl_sg];exact jk _ c1) a1;show (cOffs _ _ ((sg (n/7%3)).v (60*(60*((n/21%24:Nat):Int)+0)))).Ok _ _ _ _ _;rw [<-E];exact this
 ·have E:(3600*((NumText.digitsVal (d2 (n/21%24)):Nat):Int)+60*((NumText.digitsVal (d2 (n/504)):Nat):Int))=60*(60*((n/21%24:Nat):Int)+((n/504:Nat):Int)):=by rw [v2,v3];lia
  have:=ogB_ok w _ _ _ _ (sg (n/7%3)) true t (by rw [jV,jV];exact nz_s _ rfl l2) (by rw [zU,zU,zU,cl_sg];exact congr (jk _ (congr (jk _ (jk _ c2)) rfl)) c3) a2 a3;show (cOffs _ _ ((sg (n/7%3)).v (60*(60*((n/21%24:Nat):Int)+((n/504:Nat):Int))))).Ok _ _ _ _ _;rw [<-E];exact this
 ·have E:(3600*((NumText.digitsVal (d2 (n/21%24)):Nat):Int)+60*((NumText.digitsVal (d2 (n/504)):Nat):Int))=60*(60*((n/21%24:Nat):Int)+((n/504:Nat):Int)):=by rw [v2,v3];lia
  have:=ogC_ok w _ _ _ _ (sg (n/7%3)) true t (by rw [jV];exact nz_s _ rfl l2) (by rw [zU,zU,cl_sg];exact congr (jk _ (jk _ c2)) c3) a2 a3;show (cOffs _ _ ((sg (n/7%3)).v (60*(60*((n/21%24:Nat):Int)+((n/504:Nat):Int))))).Ok _ _ _ _ _;rw [<-E];exact this
 ·have E:(3600*((NumText.digitsVal (hT (n/21%24)):Nat):Int)+60*((NumText.digitsVal (d2 (n/504)):Nat):Int))=60*(60*((n/21%24:Nat):Int)+((n/504:Nat):Int)):=by rw [v1,v3];lia
  have:=ogB_ok w (dA (n/21%24)) (48+n/21%24%10) _ _ (sg (n/7%3)) (Nat.ble 10 (n/21%24)) t (by rw [jV,jV];exact nz_s _ (jk (·++_) e1) l1) (by rw [zU,zU,zU,cl_sg];exact congr (jk _ (congr (jk _ (jk _ c1)) rfl)) c3) a1 a3;show (cOffs _ _ ((sg (n/7%3)).v (60*(60*((n/21%24:Nat):Int)+((n/504:Nat):Int))))).Ok _ _ _ _ _;rw [<-E];exact this
 ·have E:(3600*((NumText.digitsVal (hT (n/21%24)):Nat):Int)+60*((NumText.digitsVal (d2 (n/504)):Nat):Int))=60*(60*((n/21%24:Nat):Int)+((n/504:Nat):Int)):=by rw [v1,v3];lia
  have:=ogC_ok w (dA (n/21%24)) (48+n/21%24%10) _ _ (sg (n/7%3)) (Nat.ble 10 (n/21%24)) t (by rw [jV];exact nz_s _ (jk (·++_) e1) l1) (by rw [zU,zU,cl_sg];exact congr (jk _ (jk _ c1)) c3) a1 a3;show (cOffs _ _ ((sg (n/7%3)).v (60*(60*((n/21%24:Nat):Int)+((n/504:Nat):Int))))).Ok _ _ _ _ _;rw [<-E];exact this
 ·have E:(3600*((NumText.digitsVal (hT (n/21%24)):Nat):Int))=60*(60*((n/21%24:Nat):Int)+0):=by rw [v1];lia
  have:=ogD_ok w (dA (n/21%24)) (48+n/21%24%10) 0 0 (sg (n/7%3)) (Nat.ble 10 (n/21%24)) t (by rw [jV];exact nz_s _ (jk (·++_) e1) l1) (by rw [zU,zU,cl_sg];exact congr (jk _ (jk _ c1)) rfl) a1;show (cOffs _ _ ((sg (n/7%3)).v (60*(60*((n/21%24:Nat):Int)+0)))).Ok _ _ _ _ _;rw [<-E];exact this
theorem idO_push (es:List (Int×Nat×Value)) (n:Nat) (p:Int×Nat×Value):Obj.mapDictKeys (·.push (iE p)) (idO es n)=idO (es++[p]) (n+1):=by
 unfold idO dob Obj.mapDictKeys;simp
theorem iE_findIdx (w:World) (k:Int) (es:List (Int×Nat×Value)) (hn:iLook es k=none):(Array.mk (es.map iE)).findIdx? (λe=>(intKind prg w).is k e.key)=none:=by
 rw [Array.findIdx?_eq_none_iff];intro e he;have he:e∈es.map iE:=by simpa using he
 have h1:(es.map iE).find? (λe=>(intKind prg w).is k e.key)=none:=by
  rw [iE_find w k es];unfold iLook at hn;simpa using hn
 exact Bool.eq_false_iff.mpr (find?_eq_none.mp h1 e he)
def cDSetN (d:Nat) (es:List (Int×Nat×Value)) (n:Nat) (k:Int) (t:Nat) (v:Value):Ct:={code:= .builtin "dict.__setitem__" ⟨[.ref d,.int k t,v],[]⟩,pre:=[(d,idO es n)],k:=0,fo:=λ_ _=> .ret (.ok (.ret .none)),post:=λ_ _=>[idO (es++[(k,t,v)]) (n+1)],news:=λ_ _=>[],fact:=λ_ _=>True}
theorem dsetN_ok (kt:KT) (w:World) (D U:Nat) (d:Nat) (es:List (Int×Nat×Value)) (n:Nat) (k:Int) (t:Nat) (v:Value) (hn:iLook es k=none) (hz:es.length<=1000):(cDSetN d es n k t v).Ok kt prg w D U:=by
 have hs:sizeLine=16777216:=by decide
 refine Ct.of_builtin rfl F.entry_dict_setitem λA hA h gens dr tok os R H0 K=>?_;have ho:h.get? d=some (idO es n):=H0.st.here _ (zy ..);show wpAny _ _ (Builtin.Dict.notOrdered "__setitem__" ⟨[.ref d,.int k t,v],[]⟩>>=_) _ _ _;refine zk (wpAny_notOrdered_dict (idO_map w ho).typeIs ?_);show wpAny _ _ (dictSet d (.int k t) v>>=_) _ _ _;refine zk ?_;unfold dictSet;try with_reducible refine wpAny_holding ?_
 refine zk ((intKind prg w).pyHash (intKind_is prg w k t) ?_);unfold dictSetHashed;try with_reducible refine wpAny_holding ?_
 refine zk (wpAny_dictFind_of (knd:=intKind prg w) (k:=k) (intKind_is prg w k t) ho rfl (iE_keys w es) ?_);rw [iE_findIdx w k es hn];refine zk (wpAny_rule (wpAny_updateDictKeys (hz:=by show (Array.mk (es.map iE)).size<=sizeLine;simp;lia) ho rfl ?_));refine zX ?_;refine K _ [] ⟨[tok+1],[],[],[]⟩ [] rfl rfl rfl ?_ (λp hp=>by cases hp) trivial;have:=H0.upd 0 (f:=Obj.mapDictKeys (·.push (iE (k,t,v)))) rfl rfl;rw [idO_push] at this;exact this
theorem Held.but {kt:KT} {hb h h':Heap} {ad0:List Nat} {Z0 Z L:List (Nat×Obj)} (H:Held kt hb ad0 Z0 h L Z) (i:Nat) {a:Nat} {o o2:Obj} (hi:L[i]?=some (a,o)) (hs:Heap.SameBut a h h') (h2:h'.get? a=some o2):Held kt hb ad0 Z0 h' (upd1 i o2 L) Z:=by
 have hm:(a,o)∈L:=jy hi;have hne:∀b,b∉L.map (·.1)->b≠a:=λb hb' e=>hb' (e▸zW hm);refine ⟨⟨λb o' hb' e=>(hs.2 b λq=>?_).trans (H.st.old b o' hb' e),by rw [hs.1];exact H.st.big,λp hp=>?_,by rw [upd1_map];exact H.st.nd,λp hp=>?_,λp hp=>?_⟩,λb o' e hn=>(hs.2 b λq=>?_).trans (H.keep b o' e hn),by rw [hs.1];exact H.grow,λp hp=>?_,H.zn⟩
 ·have h1:216<=a:=H.st.ge _ hm
  rw [q] at hb';exact absurd hb' (vQ.mpr h1)
 ·obtain ⟨j,hj,e⟩:=qj.mp hp
  have hlen:(upd1 i o2 L).length=L.length:=by have:=jk length (upd1_map i o2 L);simpa using this
  obtain ⟨q,hq⟩:=at_of (l:=L) (k:=j) (by rw [<-hlen];exact hj);have h1:=upd1_at (i:=i) o2 hq;rw [zQ hj,e] at h1;cases h1;by_cases hij:j=i
  ·subst hij
   rw [hi] at hq;cases hq;rw [if_pos rfl];exact h2
  ·rw [vk hij]
   refine (hs.2 _ λq'=>hij ?_).trans (H.st.here q (jy hq));exact nodup_at H.st.nd (map_fst_at hq) (by rw [map_fst_at hi,q'])
 ·have h1:p.1∈(upd1 i o2 L).map (·.1):=zW hp
  rw [upd1_map] at h1;obtain ⟨q,hq,e⟩:=ky.mp h1;rw [<-e];exact H.st.ge q hq
 ·obtain ⟨z1,z2⟩:=H.st.z p hp
  exact ⟨(hs.2 _ (hne _ z2)).trans z1,by rw [upd1_map];exact z2⟩
 ·rcases H.new _ hm with h1|h1
  ·exact hn (q▸h1)
  ·have:=kY e;rw [q] at this;exact absurd this (vQ.mpr h1)
 ·have h1:p.1∈(upd1 i o2 L).map (·.1):=zW hp
  rw [upd1_map] at h1;obtain ⟨q,hq,e⟩:=ky.mp h1;rw [<-e];exact H.new q hq
def IsSet (w:World) (o:Obj) (S:Int->Bool) (n:Nat):Prop:=∃es ep t,o.ExactSet/\o.data= .set es ep t/\ElemsOf (intKind prg w) es.toList/\(∀k,S k=true↔∃e∈es.toList,(intKind prg w).is k e.2=true)/\es.size<scanBound/\t.fits es.size=true/\es.size=n
theorem IsSet.at {w:World} {h:Heap} {a:Nat} {o:Obj} {S:Int->Bool} {n:Nat} (H:IsSet w o S n) (ho:h.get? a=some o):h.SetOf (intKind prg w) a S n:=by
 obtain ⟨es,ep,t,h1,h2,h3⟩:=H;exact ⟨o,es,ep,t,ho,h1,h2,h3⟩
theorem IsSet.of {w:World} {h:Heap} {a:Nat} {S:Int->Bool} {n:Nat} (H:h.SetOf (intKind prg w) a S n):∃o,h.get? a=some o/\IsSet w o S n:=by
 obtain ⟨o,es,ep,t,ho,h1,h2,h3⟩:=H;exact ⟨o,ho,es,ep,t,h1,h2,h3⟩
def cSHas (d:Nat) (o:Obj) (k:Int) (t:Nat) (r:Bool):Ct:=ctRd (.builtin "set.__contains__" ⟨[.ref d,.int k t],[]⟩) false (d,o) (λ_=> .bool r) 1
theorem shas_ok (kt:KT) (w:World) (D U:Nat) (d:Nat) (o:Obj) (S:Int->Bool) (n:Nat) (k:Int) (t:Nat) {r:Bool} (H:IsSet w o S n) (hr:S k=r):(cSHas d o k t r).Ok kt prg w D U:=
 Ct.rd_any entry_set_contains λA h gens dr tok os R hp hR=>by
  have hS:=H.at hp;unfold Builtin.«frozenset.__contains__» Builtin.Frozenset.oneOther;simp only [isEmpty_nil,bind_assoc];unfold Builtin.Frozenset.addrOf Builtin.Frozenset.withSetAsKey setContains;refine zk (zX ?_);try dsimp only
  refine zk (zX ?_);try dsimp only
  refine zk (wpAny_tryCatch ?_);refine wpAny_holding ?_;refine zk ((intKind prg w).pyHash (intKind_is prg w k t) ?_);refine zk (wpAny_setFind_of (knd:=intKind prg w) (k:=k) (intKind_is prg w k t) rfl hS λr' hr'=>?_);refine zX ?_;show wpAny _ _ (ret (Value.bool r'.isSome)) _ _ _;rw [hr',hr];exact zX hR
noncomputable def cSAdd (w:World) (d:Nat) (o:Obj) (S:Int->Bool) (n:Nat) (k:Int) (t:Nat):Ct:={code:= .builtin "set.add" ⟨[.ref d,.int k t],[]⟩,pre:=[(d,o)],k:=0,fo:=λ_ _=> .ret (.ok (.ret .none)),post:=λ_ ns=>[ns.p 0],news:=λ_ _=>[],fact:=λ_ ns=>IsSet w (ns.p 0) (λk'=>S k'||decide (k'=k)) (if S k then n else n+1)}
theorem sadd_ok (kt:KT) (w:World) (D U:Nat) (d:Nat) (o:Obj) (S:Int->Bool) (n:Nat) (k:Int) (t:Nat) (H:IsSet w o S n) (hn:n+1<scanBound):(cSAdd w d o S n k t).Ok kt prg w D U:=by
 refine Ct.of_builtin rfl F.entry_set_add λA hA h gens dr tok os R H0 K=>?_;have hS:=H.at (H0.st.here _ (zy ..):h.get? d=some o);unfold Builtin.«set.add» Builtin.Frozenset.oneOther;simp only [isEmpty_nil,bind_assoc];unfold Builtin.Frozenset.addrOf setAdd;refine zk (zX ?_);try dsimp only
 refine zk (zX ?_);try dsimp only
 refine zk ?_;refine wpAny_holding ?_;refine zk ((intKind prg w).pyHash (intKind_is prg w k t) ?_);refine wpAny_setAddHashed_of (knd:=intKind prg w) (k:=k) (intKind_is prg w k t) rfl hS hn λh' hsb hS'=>?_;show wpAny _ _ (ret Value.none) _ _ _;obtain ⟨o2,ho2,h2⟩:=IsSet.of hS';refine zX ?_;exact K h' [] ⟨[tok+1],[o2],[],[]⟩ [] rfl rfl rfl (H0.but 0 rfl hsb ho2) (λp hp=>by cases hp) h2
theorem iE_at (w:World) (k:Int) (es:List (Int×Nat×Value)) {i:Nat} (hi:(es.findIdx? λp=>p.1==k)=some i):(Array.mk (es.map iE)).findIdx? (λe=>(intKind prg w).is k e.key)=some i:=by
 rw [findIdx?_toArray,findIdx?_map,<-hi];congr 1
theorem erase_toList {α:Type} (l:List α) (i:Nat):((Array.mk l).eraseIdxIfInBounds i)=Array.mk (l.eraseIdx i):=by
 rw [Array.eraseIdxIfInBounds];split
 ·simp
 ·rename_i h
  have h:l.length<=i:=by simpa using h
  rw [eraseIdx_of_length_le h]
theorem map_eraseIdx' {α β:Type} (f:α->β):∀(l:List α) (i:Nat),(l.map f).eraseIdx i=(l.eraseIdx i).map f
 |[],_=>rfl
 |_::_,0=>rfl
 |a::l,i+1=>by
  show f a::(l.map f).eraseIdx i=f a::(l.eraseIdx i).map f;rw [map_eraseIdx' f l i]
theorem idO_erase (es:List (Int×Nat×Value)) (n i:Nat):Obj.mapDictKeys (·.eraseIdxIfInBounds i) (idO es n)=idO (es.eraseIdx i) (n+1):=by
 show ({cls:= .type "dict",data:= .dict ((Array.mk (es.map iE)).eraseIdxIfInBounds i) (n+1)}:Obj)=_;rw [erase_toList,map_eraseIdx'];rfl
def cDDel (d:Nat) (es:List (Int×Nat×Value)) (n:Nat) (k:Int) (t:Nat) (i:Nat):Ct:={code:= .builtin "dict.__delitem__" ⟨[.ref d,.int k t],[]⟩,pre:=[(d,idO es n)],k:=0,fo:=λ_ _=> .ret (.ok (.ret .none)),post:=λ_ _=>[idO (es.eraseIdx i) (n+1)],news:=λ_ _=>[],fact:=λ_ _=>True}
theorem ddel_ok (kt:KT) (w:World) (D U:Nat) (d:Nat) (es:List (Int×Nat×Value)) (n:Nat) (k:Int) (t:Nat) (i:Nat) (hi:(es.findIdx? λp=>p.1==k)=some i) (hz:es.length<=1000):(cDDel d es n k t i).Ok kt prg w D U:=by
 have hs:sizeLine=16777216:=by decide
 refine Ct.of_builtin rfl F.entry_dict_delitem λA hA h gens dr tok os R H0 K=>?_;have ho:h.get? d=some (idO es n):=H0.st.here _ (zy ..);unfold Builtin.«dict.__delitem__»;refine zk ?_;unfold Builtin.Dict.dictSlotArgs;refine zk (wpAny_notOrdered_dict (idO_map w ho).typeIs ?_);show wpAny _ _ (pure (Value.ref d,Value.int k t)) _ _ _;refine zX ?_;show wpAny _ _ (Builtin.Dict.takeOut d (.int k t)>>=_) _ _ _;refine zk ?_;unfold Builtin.Dict.takeOut;try with_reducible refine wpAny_holding ?_
 refine zk ((intKind prg w).pyHash (intKind_is prg w k t) ?_);refine zk (wpAny_dictFind_of (knd:=intKind prg w) (k:=k) (intKind_is prg w k t) ho rfl (iE_keys w es) ?_);rw [iE_at w k es hi];have hlt:i<es.length:=by
  obtain ⟨h1,-⟩:=findIdx?_eq_some_iff_findIdx_eq.mp hi;exact h1
 refine zk (wpAny_dictEntries ho rfl ?_);have he:(Array.mk (es.map iE))[i]?=some (iE es[i]):=by simp [hlt]
 rw [he];refine zk (wpAny_updateDictKeys (hz:=by show (Array.mk (es.map iE)).size<=sizeLine;simp;lia) (hf:=by show ((Array.mk (es.map iE)).eraseIdxIfInBounds i).size<=(Array.mk (es.map iE)).size+1;rw [erase_toList];show ((es.map iE).eraseIdx i).length<=(es.map iE).length+1;rw [length_eraseIdx];split<;>lia) ho rfl ?_);refine zX ?_;refine zk (wpAny_letGo (zX ?_));refine K _ [] ⟨[tok+1],[],[],[]⟩ [] rfl rfl rfl ?_ (λp hp=>by cases hp) trivial;have:=H0.upd 0 (f:=Obj.mapDictKeys (·.eraseIdxIfInBounds i)) rfl rfl;rw [idO_erase] at this;exact this
noncomputable def tiO (l:Nat) (i:Int):Obj:={cls:= .type "tuple_iterator",data:= .fields ⟨[.ref l,.int i 0]⟩}
noncomputable def tiE (i:Int):Obj:={cls:= .type "tuple_iterator",data:= .fields ⟨[.none,.int i 0]⟩}
def cNextT (it l:Nat) (xs:List Value) (i:Int) (v:Value):Ct:={code:= .builtin "tuple_iterator.__next__" ⟨[.ref it],[]⟩,zpre:=[(l,tu xs)],pre:=[(it,tiO l i)],k:=0,fo:=λ_ _=> .ret (.ok (.ret v)),post:=λ_ _=>[tiO l (i+1)],news:=λ_ _=>[],fact:=λ_ _=>True}
theorem nextT_ok (kt:KT) (w:World) (D U:Nat) (it l:Nat) (xs:List Value) (i:Int) {v:Value} (hv:xs[i.toNat]?=some v):(cNextT it l xs i v).Ok kt prg w D U:=
 Ct.of_builtin rfl entry_tupleiter_next λA hA h gens d tok os R H0 K=>by
  have ho:=H0.st.here _ (zy ..);have hl:=(H0.st.z (l,tu xs) (zy ..)).1;show wpAny _ _ (field (.ref it) 0>>=_) _ _ _;refine zk (qk ho rfl (x:= .ref l) rfl ?_);show wpAny _ _ (if (Value.ref l==Value.none)=true then _ else _) _ _ _;rw [vk (show¬((Value.ref l==Value.none)=true) from kZ)];show wpAny _ _ (field (.ref it) 1>>=_) _ _ _;refine zk (qk ho rfl (x:= .int i 0) rfl ?_);show wpAny _ _ (seqItems? (.ref l)>>=_) _ _ _;refine zk (wpAny_seqItems hl rfl ?_);have hv':(Array.mk xs)[i.toNat]?=some v:=by simpa using hv
  show wpAny _ _ (match (Array.mk xs)[i.toNat]? with|some x=>_|none=>_) _ _ _;rw [hv'];refine zk (wpAny_setField ho rfl (by simp) (zX ?_));have H1:=H0.upd 0 (f:=Obj.mapFields (·.setIfInBounds 1 (.int (i+1) 0))) rfl rfl;refine K _ [] ⟨[tok],[],[],[]⟩ [(l,tu xs)] rfl rfl rfl ?_ (λp hp=>by cases hp) trivial;exact H1
def cNextTE (it l:Nat) (xs:List Value) (i:Int):Ct:={code:= .builtin "tuple_iterator.__next__" ⟨[.ref it],[]⟩,hd:=some none,zpre:=[(l,tu xs)],pre:=[(it,tiO l i)],k:=1,fo:=λas _=> .ret (.error (.ref (as.getD 0 0))),post:=λ_ _=>[tiE i],news:=λ_ ns=>[exo "StopIteration" (ns.w 0) .none],fact:=λ_ _=>True}
theorem nextTE_ok (kt:KT) (w:World) (D U:Nat) (it l:Nat) (xs:List Value) (i:Int) (hv:xs[i.toNat]?=none):(cNextTE it l xs i).Ok kt prg w D U:=
 Ct.of_builtin rfl entry_tupleiter_next λA hA h gens d tok os R H0 K=>by
  have ho:=H0.st.here _ (zy ..);have hl:=(H0.st.z (l,tu xs) (zy ..)).1;have hh:A.handled=none:=hA _ rfl;show wpAny _ _ (field (.ref it) 0>>=_) _ _ _;refine zk (qk ho rfl (x:= .ref l) rfl ?_);show wpAny _ _ (if (Value.ref l==Value.none)=true then _ else _) _ _ _;rw [vk (show¬((Value.ref l==Value.none)=true) from kZ)];show wpAny _ _ (field (.ref it) 1>>=_) _ _ _;refine zk (qk ho rfl (x:= .int i 0) rfl ?_);show wpAny _ _ (seqItems? (.ref l)>>=_) _ _ _;refine zk (wpAny_seqItems hl rfl ?_);have hv':(Array.mk xs)[i.toNat]?=none:=by simpa using hv
  show wpAny _ _ (match (Array.mk xs)[i.toNat]? with|some x=>_|none=>_) _ _ _;rw [hv'];refine zk (wpAny_rule (zk (wpAny_setField ho rfl (by simp) ?_)));show wpAny _ _ (newExc (.type "StopIteration") []>>=_) _ _ _;refine zk ?_;simp only [newExc,newTuple];refine zk (vx ?_ (by size_fits));refine zk (m:=firstArgMember _ _) (wpAny_of_eq (a:=Value.none) (by first|rfl|(simp only [firstArgMember];rfl)) ?_);refine vx ?_ (by size_fits);simp only [raiseNew];refine zk (wpAny_handled ?_);have hh':(A.under (.builtin "tuple_iterator.__next__" ⟨[.ref it],[]⟩)).handled=none:=hh;rw [hh'];refine zk (zX (wpAny_throw ?_));have H1:=H0.upd 0 (f:=Obj.mapFields (·.setIfInBounds 0 .none)) rfl rfl;generalize (h.update it (Obj.mapFields (·.setIfInBounds 0 .none)))=h1 at H1⊢;have H2:=H1.push (o:={cls:= .type "tuple",data:= .seq #[]}) rfl;have H3:=H2.push (o:=exo "StopIteration" (.ref h1.objs.size) .none) rfl;refine K _ [(h1.push {cls:= .type "tuple",data:= .seq #[]}).objs.size] ⟨[tok],[],[.ref h1.objs.size],[]⟩ [(l,tu xs)] rfl rfl rfl ?_ (λp hp=>by cases hp) trivial;exact H3.pick [0,2] (by decide) (lt_all (n:=3) rfl)
section
def sD (P:Params) (t1 t2 t3 t4 d:Nat) (rv:Value) (po:Int) (tp:Nat) (nf:Int) (tn:Nat) (n:Nat):Obj:=dob [en P [95,110,111,100,101,50,105,110,102,111] t1 (.ref d),en P [95,114,101,97,100,121,95,110,111,100,101,115] t2 rv,en P [95,110,112,97,115,115,101,100,111,117,116] t3 (.int po tp),en P [95,110,102,105,110,105,115,104,101,100] t4 (.int nf tn)] n
noncomputable def sO (sd:Nat):Obj:={cls:= .ref 167,dict:=some sd}
noncomputable def nO (nd s:Nat) (k:Int) (t:Nat) (np:Int) (tn:Nat):Obj:={cls:= .ref 70,dict:=some nd,slots:=⟨[some (.int k t),some (.int np tn),some (.ref s)]⟩}
def aEnv (P:Params) (fr:Nat):Env:=envOf P 117 fr [84,111,112,111,108,111,103,105,99,97,108,83,111,114,116,101,114,46,97,100,100,46,60,108,111,99,97,108,115,62,46]
def aF (P:Params) (f0 f1 f2 f3:Nat) (S:Nat) (k:Int) (t tp a:Nat) (pl:Option ((Nat×Value)×(Nat×Value))) (n:Nat) (sl:Array (Option Value)):Obj:=fob (en P [115,101,108,102] f0 (.ref S)::en P [110,111,100,101] f1 (.int k t)::en P [112,114,101,100,101,99,101,115,115,111,114,115] f2 (.ref tp)::en P [110,111,100,101,105,110,102,111] f3 (.ref a)::(match pl with|none=>[]|some x=>[en P [112,114,101,100] x.1.1 x.1.2,en P [112,114,101,100,95,105,110,102,111] x.2.1 x.2.2])) n sl
structure Nd where
 a:Nat
 nd:Nat
 s:Nat
 k:Int
 tk:Nat
 np:Int
 tn:Nat
 xs:List Value
 sn:Nat
def Nd.i (x:Nd):Nat×Obj:=(x.a+216,nO (x.nd+216) (x.s+216) x.k x.tk x.np x.tn)
def Nd.l (x:Nd):Nat×Obj:=(x.s+216,lo x.xs x.sn)
noncomputable def Nd.e (x:Nd):Int×Nat×Value:=(x.k,x.tk,.ref (x.a+216))
def Nd.p3 (x:Nd):List (Nat×Obj):=[(x.nd+216,dob [] 0),x.i,x.l]
structure Sr where
 S:Nat
 SD:Nat
 D:Nat
 t1:Nat
 t2:Nat
 t3:Nat
 t4:Nat
 po:Int
 nf:Int
 tpo:Nat
 tnf:Nat
 nn:Nat
def Sr.Z (G:Sr) (P:Params):List (Nat×Obj):=[(G.S+216,sO (G.SD+216)),(G.SD+216,sD P G.t1 G.t2 G.t3 G.t4 (G.D+216) .none G.po G.tpo G.nf G.tnf G.nn)]
structure Ac extends Sr where
 tp:Nat
 qs:List Value
 fr:Nat
 it:Nat
 a0:Nat
 f0:Nat
 f1:Nat
 f2:Nat
 f3:Nat
 k:Int
 t:Nat
def Ac.z (G:Ac) (P:Params):List (Nat×Obj):=[(G.S+216,sO (G.SD+216)),(G.SD+216,sD P G.t1 G.t2 G.t3 G.t4 (G.D+216) .none G.po G.tpo G.nf G.tnf G.nn),(G.tp+216,tu G.qs)]
def Ac.F (G:Ac) (P:Params) (pl:Option ((Nat×Value)×(Nat×Value))) (n:Nat) (sl:Array (Option Value)):Obj:=aF P G.f0 G.f1 G.f2 G.f3 (G.S+216) G.k G.t (G.tp+216) (G.a0+216) pl n sl
def Ac.C (G:Ac) (P:Params):Code:=forC (stOf P 117 3) (.ref (G.it+216)) (aEnv P (G.fr+216))
def Ac.p (G:Ac) (P:Params) (pl:Option ((Nat×Value)×(Nat×Value))) (n:Nat) (sl:Array (Option Value)) (i:Int):List (Nat×Obj):=[(G.fr+216,G.F P pl n sl),(G.it+216,tiO (G.tp+216) i)]
noncomputable def Ac.v (G:Ac):Value:= .int G.k G.t
noncomputable def aPl (c:Bool) (p0:Nat) (v0:Value) (p1:Nat) (v1:Value):Option ((Nat×Value)×(Nat×Value)):=match c with|true=>some ((p0,v0),(p1,v1))|false=>none
noncomputable def aN (c:Bool) (n:Nat):Nat:=match c with|true=>n|false=>n+2
noncomputable def aT (c:Bool) (p t:Nat):Nat:=match c with|true=>p|false=>t
theorem sysm (D:Nat):(D+216==sysModules)=false:=beq_false_of_ne (by unfold sysModules;lia)
section
variable (P:Params) (w:World) (G:Ac) (es:List (Int×Nat×Value)) (n fn:Nat) (sl:Array (Option Value)) (i y:Int) (ty:Nat) (c:Bool) (p0 p1:Nat) (v0 v1:Value) (x:Nd)
def apF:Sp:={c:=G.C P,z:=(G.D+216,idO es n)::x.i::G.z P,i:=G.p P (aPl c p0 v0 p1 v1) fn sl i++[x.l],r:=λ_ _=> .goto (G.C P),u:=λ_ ns=>[(0,G.F P (some ((ns.g 1,.int y ty),(ns.g 2,.ref (x.a+216)))) (aN c fn) sl),(1,tiO (G.tp+216) (i+1)),(2,lo (x.xs++[G.v]) (x.sn+1))],ors:=[(λX=>cNextT (G.it+216) (G.tp+216) G.qs i (.int y ty),[1]),(λX=>cDGet true (G.D+216) es n y ty (.ref (x.a+216)),[]),(λX=>ctAppend (x.s+216) x.xs x.sn G.v,[2])],s:=1,m:=3,tr:=trD 83 0x30430c30f1031000000031000000000000000031000031041044104c04c30c30cc0cb2000032000032104104100001cf2000000c80000c80000c81041082,cs:=[1,4,5,0],ns:=λ_ _ N=>⟨[(N 2).t,aT c p0 (N 0).t,aT c p1 ((N 1).t+1)],[],[],[]⟩}
theorem apF_ok (hv:G.qs[i.toNat]?=some (.int y ty)) (hl:iLook es y=some (.ref (x.a+216))) (hz:x.xs.length<=1000):OK (apF · G es n fn sl i y ty c p0 p1 v0 v1 x) w 840 8700:=
 okF 3 (qY [4] (λ_=>nextT_ok _ w _ _ _ _ _ _ hv)<|qY [0] (λ_=>dget_ok _ w _ _ true _ _ _ _ _ (sysm G.D) (by rw [hl];rfl))<|qN (λ_=>append_ok _ w _ _ _ _ _ _ hz)<|trivial) (e:=by cases c<;>kernel_rfl)
def apN:Sp:={c:=G.C P,z:=G.z P,i:=G.p P (aPl c p0 v0 p1 v1) fn sl i++[(G.D+216,idO es n)],r:=λ_ _=> .goto (G.C P),u:=λas ns=>[(0,G.F P (some ((ns.g 1,.int y ty),(ns.g 2,.ref (as.getD 1 0)))) (aN c fn) sl),(1,tiO (G.tp+216) (i+1)),(2,idO (es++[(y,ty,.ref (as.getD 1 0))]) (n+1))],a:=λas ns=>[dob [] 0,nO (as.getD 0 0) (as.getD 2 0) y ty 0 (ns.g 3),lo [G.v] 1],ors:=[(λX=>cNextT (G.it+216) (G.tp+216) G.qs i (.int y ty),[1]),(λX=>cDGet false (G.D+216) es n y ty .none,[2]),(λX=>cDSetN (G.D+216) es n y ty (.ref (X.a 5)),[2]),(λX=>ctAppend (X.a 7) [] 0 G.v,[7])],s:=5,m:=4,x:=[4,5,7],tr:=trD 226 0x2012082081801800000001800000000000000001800001810411041030c3131030c00000c00000c041801800000001800000000000060060060000061c60060000000060000000000001801801800001871801800000001800000000000060060060000061c71c71c70000000060060000000000000000000000000000000000000000001001040c40c30c3c40c30000030000030104104100001c70000000c00000c00000c01041082,cs:=[1,4,24,5,0],as:=[1,2,4],ns:=λ_ _ N=>⟨[(N 3).t,aT c p0 (N 0).t,aT c p1 ((N 2).t+1),(N 1).t+4],[],[],[]⟩}
theorem apN_ok (hv:G.qs[i.toNat]?=some (.int y ty)) (hl:iLook es y=none) (hn:es.length<=1000):OK (apN · G es n fn sl i y ty c p0 p1 v0 v1) w 840 8700:=
 okF 4 (qY [2] (λ_=>nextT_ok _ w _ _ _ _ _ _ hv)<|qN (λ_=>dget_ok _ w _ _ false _ _ _ _ _ (sysm G.D) (by rw [hl];rfl))<|qN (λ_=>dsetN_ok _ w _ _ _ _ _ _ _ _ hl hn)<|qN (λ_=>append_ok _ w _ _ _ _ _ _ (by decide))<|trivial) (e:=by cases c<;>kernel_rfl)
def apE:Sp:={c:=G.C P,z:=G.z P,i:=G.p P (aPl c p0 v0 p1 v1) fn sl i,r:=λ_ _=> .ret (.ok .next),u:=λ_ _=>[(1,tiE i)],ors:=[(λX=>cNextTE (G.it+216) (G.tp+216) G.qs i,[1])],s:=1,m:=1,tr:=[2,2,3],cs:=[1],ns:=λ_ _ N=>⟨[(N 0).t],[],[],[]⟩}
theorem apE_ok (hv:G.qs[i.toNat]?=none):OK (apE · G fn sl i c p0 p1 v0 v1) w 840 8700:=
 okF 1 (qY [2] (λ_=>nextTE_ok _ w _ _ _ _ _ _ hv)<|trivial) (e:=by cases c<;>kernel_rfl)
end
end
noncomputable def vI (p:Int×Nat):Value:= .int p.1 p.2
noncomputable def hasN (N:List Nd) (y:Int):Bool:=N.any λx=>x.k==y
noncomputable def fresh (N:List Nd) (ys:List (Int×Nat)):List (Int×Nat):=ys.filter λp=> !hasN N p.1
noncomputable def Nd.put (v:Value) (ys:List (Int×Nat)) (x:Nd):Nd:=if ys.any (λp=>p.1==x.k) then {x with xs:=x.xs++[v],sn:=x.sn+1} else x
noncomputable def newE:List (Int×Nat)->List Nat->List (Int×Nat×Value)
 |p::r,_::a::_::as=>(p.1,p.2,.ref a)::newE r as
 |_,_=>[]
def LookN (es:List (Int×Nat×Value)) (N:List Nd) (Y:List (Int×Nat)):Prop:=∀p∈Y,iLook es p.1=(N.find? λx=>x.k==p.1).map λx=> .ref (x.a+216)
theorem Nd.put_l (v:Value) (ys:List (Int×Nat)) (x:Nd):(x.put v ys).l.1=x.l.1:=by unfold Nd.put;split<;>rfl
theorem Nd.put_k (v:Value) (ys:List (Int×Nat)) (x:Nd):(x.put v ys).k=x.k:=by unfold Nd.put;split<;>rfl
theorem zip_fs {α β:Type}:∀l:List (α×β),(l.map (·.1)).zip (l.map (·.2))=l
 |[]=>rfl
 |p::l=>by rw [kQ,kQ,zip_cons_cons,zip_fs l]
theorem putL_fst (v:Value) (ys:List (Int×Nat)) (N:List Nd):((N.map (Nd.put v ys)).map Nd.l).map (·.1)=(N.map Nd.l).map (·.1):=by
 rw [kW,kW,kW];exact jX λx _=>Nd.put_l v ys x
theorem p3_len:∀M:List Nd,(M.flatMap Nd.p3).length=M.length*3
 |[]=>rfl
 |x::M=>by rw [flatMap_cons,jZ,p3_len M,jY];show 3+_=_;lia
theorem newE_p3:∀M:List Nd,newE (M.map λx=>(x.k,x.tk)) ((M.flatMap Nd.p3).map (·.1))=M.map Nd.e
 |[]=>rfl
 |x::M=>by
  rw [kQ,flatMap_cons,zU];show _::newE (M.map λx=>(x.k,x.tk)) ((M.flatMap Nd.p3).map (·.1))=_;rw [newE_p3 M];rfl
theorem hasN_find {N:List Nd} {y:Int}:hasN N y=(N.find? λx=>x.k==y).isSome:=by
 unfold hasN;rw [Bool.eq_iff_iff,any_eq_true,find?_isSome]
theorem iLook_snoc (es:List (Int×Nat×Value)) (p:Int×Nat×Value) (y:Int):iLook (es++[p]) y=(iLook es y).or (if p.1==y then some p.2.2 else none):=by
 unfold iLook;rw [find?_append];cases es.find? (λp=>p.1==y) with
 |some z=>rfl
 |none=>
  rw [find?_singleton];by_cases h:(p.1==y)=true
  ·rw [if_pos h,if_pos h];rfl
  ·rw [vk h,vk h];rfl
theorem LookN.snoc {es:List (Int×Nat×Value)} {N:List Nd} {Y:List (Int×Nat)} (h:LookN es N Y) (x:Nd):LookN (es++[x.e]) (N++[x]) Y:=λp hp=>by
 obtain ⟨y,ty⟩:=p;rw [iLook_snoc,h _ hp,find?_append];cases N.find? (λx=>x.k==y) with
 |some z=>rfl
 |none=>
  rw [find?_singleton];show (if (x.k==y)=true then _ else _)=_;by_cases h:(x.k==y)=true
  ·rw [if_pos h,if_pos h];rfl
  ·rw [vk h,vk h];rfl
def cAL (P:Params) (G:Ac) (sl:Array (Option Value)) (i:Nat) (ys:List (Int×Nat)) (N:List Nd) (es:List (Int×Nat×Value)) (n:Nat) (fn:Nat) (c:Bool) (p0 p1:Nat) (v0 v1:Value):Ct:=
 {code:=G.C P,hd:=some none,zpre:=G.z P++N.map Nd.i,
  pre:=[(G.fr+216,G.F P (aPl c p0 v0 p1 v1) fn sl),(G.it+216,tiO (G.tp+216) i),(G.D+216,idO es n)]++N.map Nd.l,k:=(fresh N ys).length*3,fo:=λ_ _=> .ret (.ok .next),
  post:=λ_ ns=>[ns.o.getD (N.length+(fresh N ys).length*3) default,tiE ((i+ys.length:Nat):Int),idO (es++newE (fresh N ys) (ns.n.drop 1)) (n+(fresh N ys).length)]++ns.o.take N.length,
  news:=λ_ ns=>(ns.o.drop N.length).take ((fresh N ys).length*3),
  fact:=λas ns=>ns.z=[]/\as=ns.n.drop 1/\∃(M:List Nd) (f':Obj),ns.o=((N.map (Nd.put (.int G.k G.t) ys)).map Nd.l).map (·.2)++((M.flatMap Nd.p3).map (·.2)++[f'])/\as=(M.flatMap Nd.p3).map (·.1)/\M.map (λx=>(x.k,x.tk))=fresh N ys/\∀x∈M,x.np=0/\x.xs=[.int G.k G.t]/\x.sn=1}
def alE (G:Ac) (i:Nat) (ys:List (Int×Nat)) (N:List Nd) (es:List (Int×Nat×Value)) (n:Nat) (M:List Nd) (f':Obj):List (Nat×Obj):=
 [(G.fr+216,f'),(G.it+216,tiE ((i+ys.length:Nat):Int)),(G.D+216,idO (es++M.map Nd.e) (n+M.length))]++(N.map (Nd.put (.int G.k G.t) ys)).map Nd.l++M.flatMap Nd.p3
theorem cAL_eq {P:Params} {G:Ac} {sl:Array (Option Value)} {i:Nat} {ys:List (Int×Nat)} {N:List Nd} {es:List (Int×Nat×Value)} {n:Nat} {fn:Nat} {c:Bool} {p0 p1:Nat} {v0 v1:Value} {M:List Nd} {f':Obj} (hM:M.map (λx=>(x.k,x.tk))=fresh N ys) {as:List Nat} {ns:Ns} (h1:as=ns.n.drop 1) (h2:ns.o=((N.map (Nd.put (.int G.k G.t) ys)).map Nd.l).map (·.2)++((M.flatMap Nd.p3).map (·.2)++[f'])) (h3:as=(M.flatMap Nd.p3).map (·.1)):
  ((cAL P G sl i ys N es n fn c p0 p1 v0 v1).pre.map (·.1)).zip ((cAL P G sl i ys N es n fn c p0 p1 v0 v1).post as ns)++as.zip ((cAL P G sl i ys N es n fn c p0 p1 v0 v1).news as ns)=alE G i ys N es n M f':=by
 have lM:M.length=(fresh N ys).length:=by rw [<-hM,zJ]
 have l1:(((N.map (Nd.put (.int G.k G.t) ys)).map Nd.l).map (·.2)).length=N.length:=by rw [zJ,zJ,zJ]
 have l2:((M.flatMap Nd.p3).map (·.2)).length=(fresh N ys).length*3:=by rw [zJ,p3_len,lM]
 have o1:ns.o.take N.length=((N.map (Nd.put (.int G.k G.t) ys)).map Nd.l).map (·.2):=by rw [h2,<-l1,qz]
 have o2:(ns.o.drop N.length).take ((fresh N ys).length*3)=(M.flatMap Nd.p3).map (·.2):=by rw [h2,<-l1,drop_left,<-l2,qz]
 have o3:ns.o.getD (N.length+(fresh N ys).length*3) default=f':=by
  rw [h2,<-jV,zY,vV (by rw [jZ,l1,l2];exact jv _),jZ,l1,l2,Nat.sub_self];rfl
 have e3:newE (fresh N ys) (ns.n.drop 1)=M.map Nd.e:=by rw [<-hM,<-h1,h3];exact newE_p3 M
 show ((G.fr+216)::(G.it+216)::(G.D+216)::(N.map Nd.l).map (·.1)).zip (ns.o.getD (N.length+(fresh N ys).length*3) default::tiE ((i+ys.length:Nat):Int)::idO (es++newE (fresh N ys) (ns.n.drop 1)) (n+(fresh N ys).length)::ns.o.take N.length)++as.zip ((ns.o.drop N.length).take ((fresh N ys).length*3))=_;rw [o1,o2,o3,e3,h3,zip_cons_cons,zip_cons_cons,zip_cons_cons,zip_fs,<-putL_fst (.int G.k G.t) ys N,zip_fs,<-lM];rfl
theorem cAL_fin {P:Params} {G:Ac} {sl:Array (Option Value)} {i:Nat} {ys:List (Int×Nat)} {N:List Nd} {es:List (Int×Nat×Value)} {n:Nat} {fn:Nat} {c:Bool} {p0 p1:Nat} {v0 v1:Value} {w:World} {A:Around} {gens:Array GenState} {d:Drawn} {os:OsState} {R:Result->Shared->Prop} {h h':Heap} {Z:List (Nat×Obj)} {kt:KT} {tok:Nat} {C:Ct} (hC:C=cAL P G sl i ys N es n fn c p0 p1 v0 v1)
  (K:∀h' as ns,as.length=C.k->St1 h h' C.zpre C.pre (C.post as ns) as (C.news as ns) ns.z->C.fact as ns->FinAt prg w A R (C.fo as ns) ⟨h',gens,d,ns.t,os⟩)
  (M:List Nd) (f':Obj) (hM:M.map (λx=>(x.k,x.tk))=fresh N ys) (hx:∀x∈M,x.np=0/\x.xs=[.int G.k G.t]/\x.sn=1)
  (H:Held kt h (C.pre.map (·.1)) C.zpre h' (alE G i ys N es n M f') Z):FinAt prg w A R (.ret (.ok .next)) ⟨h',gens,d,tok,os⟩:=by
 subst hC;have lM:M.length=(fresh N ys).length:=by rw [<-hM,zJ]
 have l1:(((N.map (Nd.put (.int G.k G.t) ys)).map Nd.l).map (·.2)).length=N.length:=by rw [zJ,zJ,zJ]
 have l2:((M.flatMap Nd.p3).map (·.2)).length=(fresh N ys).length*3:=by rw [zJ,p3_len,lM]
 refine K h' ((M.flatMap Nd.p3).map (·.1)) ⟨tok::(M.flatMap Nd.p3).map (·.1),((N.map (Nd.put (.int G.k G.t) ys)).map Nd.l).map (·.2)++((M.flatMap Nd.p3).map (·.2)++[f']),[],[]⟩ (by show _=(fresh N ys).length*3;rw [zJ,p3_len,lM]) ?_ ⟨rfl,rfl,M,f',rfl,rfl,hM,hx⟩;refine Held.fin (kt:=kt) (Z:=Z) ?_ ?_ ?_ (λp hp=>nomatch hp)
 ·exact (jk (λL=>Held kt h ((cAL P G sl i ys N es n fn c p0 p1 v0 v1).pre.map (·.1)) (cAL P G sl i ys N es n fn c p0 p1 v0 v1).zpre h' L Z) (cAL_eq (P:=P) (G:=G) (sl:=sl) (fn:=fn) (c:=c) (p0:=p0) (p1:=p1) (v0:=v0) (v1:=v1) (ns:=⟨tok::(M.flatMap Nd.p3).map (·.1),((N.map (Nd.put (.int G.k G.t) ys)).map Nd.l).map (·.2)++((M.flatMap Nd.p3).map (·.2)++[f']),[],[]⟩) hM rfl rfl rfl)).mpr H
 ·show (_::_::_::take N.length (_++_)).length=(_::_::_::N.map Nd.l).length
  rw [jY,jY,jY,jY,jY,jY,<-l1,qz,l1,zJ]
 ·show (take ((fresh N ys).length*3) (drop N.length (_++_))).length=_
  rw [<-l1,drop_left,<-l2,qz,zJ,zJ]
theorem Ct.useN {kt:KT} {hb h:Heap} {ad0:List Nat} {Z0 Z L:List (Nat×Obj)} {c:Ct} {prog:Program} {w:World} {D U:Nat} (ok:c.Ok kt prog w D U) {A:Around} (hA:HdOk c.hd A.handled) (hF:∀l,c.frs=some l->A.frames=some l) (hD:A.depth<=D) (hU:A.units<=U) (H:Held kt hb ad0 Z0 h L Z) (ix:List Nat) (hn:ix.Nodup) (hl:∀i∈ix,i<L.length) (hpre:c.pre=Mine.pick ix L) (hzc:∀p∈c.zpre,p∈Z)
  {gens:Array GenState} {d:Drawn} {tok:Nat} {os:OsState} {R:Result->Shared->Prop}
  (K:∀h' as ns,as.length=c.k->(∀a∈as,hb.objs.size<=a)->(c.news as ns).length=as.length->Held kt hb ad0 Z0 h' (upd ix (c.post as ns) L++as.zip (c.news as ns)) (Z++ns.z)->c.fact as ns->FinAt prog w A R (c.fo as ns) ⟨h',gens,d,ns.n.headD 0,os⟩):
  codeAny (model prog w) A c.code R ⟨h,gens,d,tok,os⟩:=
 ok A hA hF hD hU h gens d tok os R (by rw [hpre];exact H.st.pick hzc hn hl) λh' as ns hk S1 hf=>K h' as ns hk (λa ha=>zZ H.grow (S1.fresh a ha)) S1.nlen (H.after hzc hn hl (hpre▸S1)) hf
theorem zip_fs':∀l:List (Nat×Obj),(l.map (·.1)).zip (l.map (·.2))=l
 |[]=>rfl
 |p::l=>jk (p::·) (zip_fs' l)
structure Ct.Goes (kt:KT) (w:World) (D U:Nat) (e:Ct) (L:List (Nat×Obj)) (C:Code) (d:Ct) (f:Ns->Ns):Prop where
 ok:d.Ok kt prg w D U
 code:C=d.code
 hd:d.hd=e.hd
 frs:d.frs=e.frs
 pre:d.pre=L
 z:d.zpre=e.zpre
 k:d.k=e.k
 out:∀as ns,as.length=d.k->d.fact as ns->e.post as (f ns)=d.post as ns/\e.news as (f ns)=d.news as ns/\e.fo as (f ns)=d.fo as ns/\e.fact as (f ns)/\(f ns).z=[]/\(f ns).n.headD 0=ns.n.headD 0
theorem Ct.Ok.seq {kt:KT} {w:World} {D U:Nat} {c e:Ct} (okc:c.Ok kt prg w D U) (ix:List Nat) (hn:ix.Nodup) (hl:∀i∈ix,i<e.pre.length) (hc:e.code=c.code) (hh:c.hd=e.hd) (hf:c.frs=e.frs) (hp:c.pre=Mine.pick ix e.pre) (hz:∀p∈c.zpre,p∈e.zpre) (hk:c.k=0)
  (H:∀ns,c.fact [] ns->∃C d f,c.fo [] ns= .goto C/\Ct.Goes kt w D U e (upd ix (c.post [] ns) e.pre) C d f):e.Ok kt prg w D U:=by
 intro A hA hF hD hU h gens dr tok os R S0 K;rw [hc];refine Ct.use okc (hh▸hA) (hf▸hF) hD hU (Held.start S0) ix hn hl hp hz λh' as ns hk' hfr H1 hfa=>?_;obtain rfl:as=[]:=zV.mp (hk'.trans hk);obtain ⟨C,d,f,g0,G⟩:=H ns hfa;rw [g0];show codeAny (model prg w) A C R ⟨h',gens,dr,ns.n.headD 0,os⟩;rw [G.code];rw [zip_nil_left,jx,<-G.pre] at H1;refine Ct.useP (R:=[]) G.ok (G.hd▸hA) (G.frs▸hF) hD hU (by rw [jx];exact H1) (λp hp=> .inl (jj _ (G.z▸hp))) λh2 as ns2 hk2 hfr2 hpl hnl H2 hfa2=>?_;obtain ⟨o1,o2,o3,o4,o5,o6⟩:=G.out as ns2 hk2 hfa2;have ea:d.pre.map (·.1)=e.pre.map (·.1):=by rw [G.pre,upd_map]
 rw [<-o3,<-o6];refine Ct.fin (kt:=kt) (Z:=e.zpre++ns.z) (c:=e) K as (f ns2) ?_ (hk2.trans G.k) ?_ ?_ (λp hp=>by rw [o5] at hp;cases hp) o4
 ·rw [ea,jx] at H2
  rw [o1,o2];exact H2
 ·rw [o1,hpl];have:=jk length ea;rwa [zJ,zJ] at this
 ·rw [o2];exact hnl
theorem Ct.Ok.pad {kt:KT} {w:World} {D U:Nat} {c e:Ct} (okc:c.Ok kt prg w D U) (ix:List Nat) (hn:ix.Nodup) (hl:∀i∈ix,i<e.pre.length) (hc:e.code=c.code) (hh:c.hd=e.hd) (hf:c.frs=e.frs) (hp:c.pre=Mine.pick ix e.pre) (hz:∀p∈c.zpre,p∈e.zpre) (hk:c.k=e.k)
  (H:∀as ns,as.length=c.k->c.fact as ns->∃n2:Ns,e.post as n2=(upd ix (c.post as ns) e.pre).map (·.2)/\e.news as n2=c.news as ns/\e.fo as n2=c.fo as ns/\e.fact as n2/\n2.z=[]/\n2.n.headD 0=ns.n.headD 0):e.Ok kt prg w D U:=by
 intro A hA hF hD hU h gens dr tok os R S0 K;rw [hc];refine Ct.useN okc (hh▸hA) (hf▸hF) hD hU (Held.start S0) ix hn hl hp hz λh' as ns hk' hfr hnl H1 hfa=>?_;obtain ⟨n2,o1,o2,o3,o4,o5,o6⟩:=H as ns hk' hfa;rw [<-o3,<-o6];refine Ct.fin (kt:=kt) (Z:=e.zpre++ns.z) (c:=e) K as n2 ?_ (hk'.trans hk) ?_ (by rw [o2];exact hnl) (λp hp=>by rw [o5] at hp;cases hp) o4
 ·have q:=zip_fs' (upd ix (c.post as ns) e.pre)
  rw [upd_map] at q;rw [o1,o2,q];exact H1
 ·rw [o1,zJ];have:=jk length (upd_map ix (c.post as ns) e.pre);rwa [zJ,zJ] at this
section
section
variable {kt:KT} {hb h:Heap} {ad0:List Nat} {Z0 Z L L':List (Nat×Obj)}
theorem Held.sub (H:Held kt hb ad0 Z0 h L Z) (s:L'.Sublist L):Held kt hb ad0 Z0 h L' Z:=
 ⟨⟨H.st.old,H.st.big,λq hq=>H.st.here q (s.subset hq),Nodup.sublist (s.map _) H.st.nd,λq hq=>H.st.ge q (s.subset hq),λq hq=>⟨(H.st.z q hq).1,λhm=>(H.st.z q hq).2 ((s.map _).subset hm)⟩⟩,H.keep,H.grow,λq hq=>H.new q (s.subset hq),H.zn⟩
theorem Held.fzs {N:List (Nat×Obj)} (H:Held kt hb ad0 Z0 h (L++N) Z) (hf:∀p∈N,hb.objs.size<=p.1):Held kt hb ad0 Z0 h L (Z++N):=by
 have H':=H.sub (sublist_append_left L N);refine ⟨⟨H'.st.old,H'.st.big,H'.st.here,H'.st.nd,H'.st.ge,λq hq=>?_⟩,H'.keep,H'.grow,H'.new,λq hq=>?_⟩
 ·rcases jq.mp hq with hq|hq
  ·exact H'.st.z q hq
  ·have nd:=H.st.nd
   rw [zU] at nd;exact ⟨H.st.here q (jz _ hq),λhm=>(kX.mp nd).2.2 _ hm _ (zW hq) rfl⟩
 ·rcases jq.mp hq with hq|hq
  ·exact H'.zn q hq
  ·exact .inl (hf q hq)
theorem Held.afterZ {h':Heap} {zp pre:List (Nat×Obj)} {post:List Obj} {as:List Nat} {news:List Obj} {Z':List (Nat×Obj)} (H:Held kt hb ad0 Z0 h pre Z) (S:St1 h h' zp pre post as news Z') (hz:∀p∈zp,p∈Z):Held kt hb ad0 Z0 h' ((pre.map (·.1)).zip post++as.zip news) (Z++Z'):=by
 have B:=Held.afterP (R:=[]) (by rw [jx];exact H) S;rw [jx] at B;refine ⟨⟨B.st.old,B.st.big,B.st.here,B.st.nd,B.st.ge,λq hq=>?_⟩,B.keep,B.grow,B.new,λq hq=>?_⟩
 ·rcases jq.mp hq with hq|hq
  ·exact B.st.z q hq
  ·obtain ⟨x1,x2,x3,-⟩:=S.z q hq
   refine ⟨x1,λhm=>?_⟩;rw [zU] at hm;rcases jq.mp hm with hm|hm
   ·obtain ⟨y,hy,e⟩:=ky.mp hm
    exact x2 (e▸(of_mem_zip hy).1)
   ·obtain ⟨y,hy,e⟩:=ky.mp hm
    exact x3 (e▸(of_mem_zip hy).1)
 ·rcases jq.mp hq with hq|hq
  ·exact B.zn q hq
  ·rcases (S.z q hq).2.2.2 with x|x
   ·exact .inl (zZ H.grow x)
   ·exact H.zn q (hz q x)
end
structure Ct.GoesZ (kt:KT) (w:World) (D U:Nat) (e:Ct) (L Y:List (Nat×Obj)) (C:Code) (d:Ct) (f:Ns->Ns):Prop where
 ok:d.Ok kt prg w D U
 code:C=d.code
 hd:d.hd=e.hd
 frs:d.frs=e.frs
 pre:d.pre=L
 z:∀p∈d.zpre,p∈e.zpre\/p∈Y
 k:d.k=e.k
 out:∀as ns,as.length=d.k->d.fact as ns->e.post as (f ns)=d.post as ns/\e.news as (f ns)=d.news as ns/\e.fo as (f ns)=d.fo as ns/\e.fact as (f ns)/\(∀p∈(f ns).z,p∈ns.z\/p∈Y)/\(f ns).n.headD 0=ns.n.headD 0
theorem zip_fresh {as:List Nat} {l:List Obj} {n:Nat} (h:∀a∈as,n<=a):∀p∈as.zip l,n<=p.1:=λp hp=>h _ (of_mem_zip hp).1
section
variable {kt:KT} {w:World} {D U:Nat} {c e:Ct} (okc:c.Ok kt prg w D U) (ix:List Nat) (hn:ix.Nodup) (hl:∀i∈ix,i<e.pre.length) (hc:e.code=c.code) (hh:c.hd=e.hd) (hf:c.frs=e.frs) (hp:c.pre=Mine.pick ix e.pre) (hz:∀p∈c.zpre,p∈e.zpre)
include okc hn hl hc hh hf hp hz
theorem Ct.Ok.seqZ (H:∀as ns,as.length=c.k->(∀a∈as,216<=a)->c.fact as ns->∃C d f,c.fo as ns= .goto C/\Ct.GoesZ kt w D U e (upd ix (c.post as ns) e.pre) (as.zip (c.news as ns)++ns.z) C d f):e.Ok kt prg w D U:=by
 intro A hA hF hD hU h gens dr tok os R S0 K;rw [hc];refine Ct.useN okc (hh▸hA) (hf▸hF) hD hU (Held.start S0) ix hn hl hp hz λh' as ns hk' hfr hnl H1 hfa=>?_;obtain ⟨C,d,f,g0,G⟩:=H as ns hk' (λa ha=>zZ S0.big (hfr a ha)) hfa;rw [g0];show codeAny (model prg w) A C R ⟨h',gens,dr,ns.n.headD 0,os⟩;rw [G.code];have H2:=H1.fzs (zip_fresh hfr);rw [<-G.pre] at H2;have zz:∀p,p∈e.zpre\/p∈as.zip (c.news as ns)++ns.z->p∈e.zpre++ns.z++as.zip (c.news as ns):=λp h=>by
  rcases h with h|h
  ·exact jj _ (jj _ h)
  ·rcases jq.mp h with h|h
   ·exact jz _ h
   ·exact jj _ (jz _ h)
 refine G.ok A (G.hd▸hA) (G.frs▸hF) hD hU h' gens dr _ os R ⟨H2.st.old,H2.st.big,H2.st.here,H2.st.nd,H2.st.ge,λp hp=>H2.st.z p (zz p (G.z p hp))⟩ λh2 as2 ns2 hk2 S1 hf2=>?_;obtain ⟨o1,o2,o3,o4,o5,o6⟩:=G.out as2 ns2 hk2 hf2;have ea:d.pre.map (·.1)=e.pre.map (·.1):=by rw [G.pre,upd_map]
 have H3:=H2.afterZ S1 λp hp=>zz p (G.z p hp);rw [<-o3,<-o6];refine Ct.fin (kt:=kt) (c:=e) K as2 (f ns2) (Z:=e.zpre++ns.z++as.zip (c.news as ns)++ns2.z) ?_ (hk2.trans G.k) ?_ ?_ (λp hp=>?_) o4
 ·rw [ea] at H3
  rw [o1,o2];exact H3
 ·rw [o1,S1.plen];have:=jk length ea;rwa [zJ,zJ] at this
 ·rw [o2];exact S1.nlen
 ·rcases o5 p hp with h|h
  ·exact jz _ h
  ·exact jj _ (zz p (.inr h))
theorem Ct.Ok.padZ (he:e.k=0) (H:∀as ns,as.length=c.k->(∀a∈as,216<=a)->c.fact as ns->∃n2:Ns,e.post [] n2=(upd ix (c.post as ns) e.pre).map (·.2)/\e.news [] n2=[]/\e.fo [] n2=c.fo as ns/\e.fact [] n2/\(∀p∈n2.z,p∈as.zip (c.news as ns)\/p∈ns.z)/\n2.n.headD 0=ns.n.headD 0):e.Ok kt prg w D U:=by
 intro A hA hF hD hU h gens dr tok os R S0 K;rw [hc];refine Ct.useN okc (hh▸hA) (hf▸hF) hD hU (Held.start S0) ix hn hl hp hz λh' as ns hk' hfr hnl H1 hfa=>?_;obtain ⟨n2,o1,o2,o3,o4,o5,o6⟩:=H as ns hk' (λa ha=>zZ S0.big (hfr a ha)) hfa;have H2:=H1.fzs (zip_fresh hfr);rw [<-o3,<-o6];refine Ct.fin (kt:=kt) (c:=e) K [] n2 (Z:=e.zpre++ns.z++as.zip (c.news as ns)) ?_ he.symm ?_ (by rw [o2];rfl) (λp hp=>?_) o4
 ·have q:=zip_fs' (upd ix (c.post as ns) e.pre)
  rw [upd_map] at q;rw [o1,o2,q,zip_nil_left,jx];exact H2
 ·rw [o1,zJ];have:=jk length (upd_map ix (c.post as ns) e.pre);rwa [zJ,zJ] at this
 ·rcases o5 p hp with h|h
  ·exact jz _ h
  ·exact jj _ (jz _ h)
end
def Sp.chkZ (r:Sp) (k:Nat) (X:Cx) (as:List Nat) (ns:Ns):Bool:=
 ndB r.x&&r.x.all (λj=>Nat.ble r.i.length j)&&(r.r as ns).ok&&(addAll (r.i.map (·.2)) (r.i.map (·.1)) .nil 0 []).isSome&&Nat.beq r.ors.length k&&r.ors.all λp=>ndB p.2&&Nat.beq (p.1 X).pre.length p.2.length
noncomputable def tr3:Cx->List Nat->Ns->Bool:=λ_ _ _=>true
theorem hz_of {r:Sp} (j:Nat) {tok:Nat} {nss:List Ns} (hj:Nat.blt j r.m=true:=by exact rfl) (hp:r.pi=[]:=by exact rfl):∀p∈(gN nss j).z,p∈zs (r.ps tok nss):=λp h=>by
 unfold zs Sp.ps;rw [hp];exact mem_flatMap.mpr ⟨_,zv _ (zW (mem_range.mpr (zx hj))),h⟩
theorem okZ {s:Params->Sp} {w:World} {D U:Nat} (k:Nat) (h:AllQ w D U (s w.params) 0 k) (hf:∀{tok sup nss},(s w.params).HF tok nss->(s w.params).f ((s w.params).as.map (gS sup)) ((s w.params).ns tok (gS sup) (gN nss)))
  (hz:∀{tok sup nss},∀p∈((s w.params).ns tok (gS sup) (gN nss)).z,p∈zs ((s w.params).ps tok nss)) (e:(s w.params).E w.params D U) (c:(s w.params).chkZ k=tr3:=by exact rfl):OK s w D U:=by
 unfold OK;revert e c h hf hz;generalize s w.params=r;intro h hf hz e c;have c':∀X as ns,r.chkZ k X as ns=true:=λX as ns=>by rw [c];rfl
 simp only [Sp.chkZ,kj] at c';have X0:Cx:=⟨.nil,[],[],[],none⟩
 obtain ⟨⟨⟨⟨⟨c1,c2⟩,-⟩,c5⟩,c7⟩,c8⟩:=c' X0 [] Ns.nil;have c7:=Nat.eq_of_beq_eq_true c7;have hn:r.ors.all (λp=>ndB p.2)=true:=vy.mpr λp hp=>(kj _ _▸vy.mp c8 p hp).1;have hl:∀X:Cx,r.ors.all (λp=>Nat.beq (p.1 X).pre.length p.2.length)=true:=λX=>vy.mpr λp hp=>(kj _ _▸vy.mp (c' X [] Ns.nil).2 p hp).2;exact ok_of (s:=⟨r.ct,r.tt,r.ors⟩) (limA _) e.eq (λtok=>allI_of hn hl _ 0 (Nat.zero_add _) (by show AllQ w D U r 0 r.ors.length;rw [c7];exact h)) c1 c2 rfl (λas ns=>(c' X0 as ns).1.1.1.2) c5 (λ_ _ _=>hf) λtok sup nss p hp=>hz p hp
end
section
section
variable {kt:KT} {hb h:Heap} {ad0:List Nat} {Z0 Z L L':List (Nat×Obj)}
theorem Held.fz {p:Nat×Obj} (H:Held kt hb ad0 Z0 h (p::L) Z) (hf:hb.objs.size<=p.1):Held kt hb ad0 Z0 h L (p::Z):=by
 have H':=H.sub (sublist_cons_self p L);have nd:(p.1::L.map (·.1)).Nodup:=H.st.nd;rw [vX] at nd;refine ⟨⟨H'.st.old,H'.st.big,H'.st.here,H'.st.nd,H'.st.ge,λq hq=>?_⟩,H'.keep,H'.grow,H'.new,λq hq=>?_⟩
 ·rcases vz.mp hq with rfl|hq
  ·exact ⟨H.st.here q (zy ..),nd.1⟩
  ·exact H'.st.z q hq
 ·rcases vz.mp hq with rfl|hq
  ·exact .inl hf
  ·exact H'.zn q hq
end
theorem ge1 {l:List Nat} (h:l.length=1) (g:∀a∈l,216<=a):∃a,l=[a+216]:=by
 obtain ⟨a,t,rfl,h'⟩:=lenS h;exact ⟨a-216,by rw [Nat.sub_add_cancel (g a (zy ..)),zV.mp h']⟩
theorem geS {l:List Nat} {n:Nat} (h:l.length=n+1) (g:∀a∈l,216<=a):∃a t,l=(a+216)::t/\t.length=n/\∀a∈t,216<=a:=by
 obtain ⟨a,t,rfl,h'⟩:=lenS h;exact ⟨a-216,t,by rw [Nat.sub_add_cancel (g a (zy ..))],h',λb hb=>g b (zv _ hb)⟩
theorem ge2 {l:List Nat} (h:l.length=2) (g:∀a∈l,216<=a):∃a b,l=[a+216,b+216]:=by
 obtain ⟨a,t,rfl,h,g⟩:=geS h g;obtain ⟨b,rfl⟩:=ge1 h g;exact ⟨a,b,rfl⟩
theorem ge3 {l:List Nat} (h:l.length=3) (g:∀a∈l,216<=a):∃a b c,l=[a+216,b+216,c+216]:=by
 obtain ⟨a,t,rfl,h,g⟩:=geS h g;obtain ⟨b,c,rfl⟩:=ge2 h g;exact ⟨a,b,c,rfl⟩
structure Ct.End (d:Ct) (as:List Nat) (ns:Ns):Prop where
 k:as.length=d.k
 pl:(d.post as ns).length=d.pre.length
 nl:(d.news as ns).length=as.length
 ge:∀a∈as,216<=a
 f:d.fact as ns
noncomputable def Ct.out (d:Ct) (as:List Nat) (ns:Ns) (R:List (Nat×Obj)):List (Nat×Obj):=(d.pre.map (·.1)).zip (d.post as ns)++(as.zip (d.news as ns)++R)
def Ct.Fr (e:Ct) (w:World) (D U:Nat) (L Z:List (Nat×Obj)) (fo:Fo) (tok:Nat):Prop:=
 ∀(A:Around) (h h':Heap) (gens:Array GenState) (dr:Drawn) (os:OsState) (R:Result->Shared->Prop),HdOk e.hd A.handled->(∀l,e.frs=some l->A.frames=some l)->A.depth<=D->A.units<=U->Held (ktOf w.params) h (e.pre.map (·.1)) e.zpre h' L Z->
  (∀h' as ns,as.length=e.k->St1 h h' e.zpre e.pre (e.post as ns) as (e.news as ns) ns.z->e.fact as ns->FinAt prg w A R (e.fo as ns) ⟨h',gens,dr,ns.n.headD 0,os⟩)->FinAt prg w A R fo ⟨h',gens,dr,tok,os⟩
section
variable {e d:Ct} {w:World} {D U:Nat} {L Z R:List (Nat×Obj)}
theorem Ct.Fr.ok (H:∀tok,e.Fr w D U e.pre e.zpre (.goto e.code) tok):e.Ok (ktOf w.params) prg w D U:=λA hA hF hD hU h gens dr tok os R S0 K=>H tok A h h gens dr os R hA hF hD hU (Held.start S0) K
theorem Ct.Fr.perm {L':List (Nat×Obj)} {fo:Fo} {tok:Nat} (H:e.Fr w D U L' Z fo tok) (p:L.Perm L'):e.Fr w D U L Z fo tok:=λA h h' gens dr os R hA hF hD hU S K=>H A h h' gens dr os R hA hF hD hU (S.perm p) K
theorem Ct.Fr.sub {L':List (Nat×Obj)} {fo:Fo} {tok:Nat} (H:e.Fr w D U L' Z fo tok) (p:L'.Sublist L):e.Fr w D U L Z fo tok:=λA h h' gens dr os R hA hF hD hU S K=>H A h h' gens dr os R hA hF hD hU (S.sub p) K
theorem Ct.Fr.fz {p:Nat×Obj} {fo:Fo} {tok:Nat} (hs:∀a∈e.pre.map (·.1),a∈L.map (·.1)) (H:e.Fr w D U L (p::Z) fo tok):e.Fr w D U (p::L) Z fo tok:=λA h h' gens dr os R hA hF hD hU S K=>H A h h' gens dr os R hA hF hD hU (S.fz (by
 have nd:(p.1::L.map (·.1)).Nodup:=S.st.nd;rcases S.new p (zy ..) with x|x
 ·exact absurd (hs _ x) (vX.mp nd).1
 ·exact x)) K
theorem Ct.Fr.fin (as:List Nat) (ns:Ns) (hL:L.Perm (e.out as ns [])) (hk:as.length=e.k) (hp:(e.post as ns).length=e.pre.length) (hn:(e.news as ns).length=as.length) (hf:e.fact as ns) (hz:∀p∈ns.z,p∈Z):e.Fr w D U L Z (e.fo as ns) (ns.n.headD 0):=λA h h' gens dr os R hA hF hD hU S K=>
 Ct.fin (kt:=ktOf w.params) (Z:=Z) K as ns (by have S:=S.perm hL;unfold Ct.out at S;rw [jx] at S;exact S) hk hp hn hz hf
theorem Ct.Fr.go {tok D' U':Nat} (ok:d.Ok (ktOf w.params) prg w D' U') (hh:∀v,d.hd=some v->e.hd=some v) (hf:∀l,d.frs=some l->e.frs=some l) (hD:D<=D') (hU:U<=U') (hL:L.Perm (d.pre++R)) (hz:∀p∈d.zpre,p∈Z\/p∈R)
  (K:∀as ns,d.End as ns->e.Fr w D U (d.out as ns R) Z (d.fo as ns) (ns.n.headD 0)):e.Fr w D U L Z (.goto d.code) tok:=λA h h' gens dr os Q hA hF hD' hU' S K'=>
 Ct.useP ok (λv q=>hA v (hh v q)) (λl q=>hF l (hf l q)) (zZ hD' hD) (zZ hU' hU) (S.perm hL) hz λh2 as ns hk hg hpl hnl H2 hfa=>
  K as ns ⟨hk,hpl,hnl,λa ha=>by
   rw [<-map_fst_zip (Nat.le_of_eq hnl.symm)] at ha;obtain ⟨p,hp,rfl⟩:=ky.mp ha;exact H2.st.ge p (jz _ (jj _ hp)),hfa⟩ A h h2 gens dr os Q hA hF hD' hU' H2 K'
end
end
section
theorem Nd.put_none (v:Value) {ys:List (Int×Nat)} {x:Nd} (h:∀p∈ys,p.1≠x.k):x.put v ys=x:=by
 unfold Nd.put;rw [vk];intro hm;obtain ⟨p,hp,e⟩:=any_eq_true.mp hm;exact h p hp (by simpa using e)
theorem Nd.put_skip (v:Value) {p:Int×Nat} {ys:List (Int×Nat)} {x:Nd} (h:p.1≠x.k):x.put v (p::ys)=x.put v ys:=by
 unfold Nd.put;have:(p.1==x.k)=false:=by simpa using h
 rw [any_cons,this,Bool.false_or]
theorem hasN_map (f:Nd->Nd) (hk:∀x,(f x).k=x.k) (N:List Nd) (y:Int):hasN (N.map f) y=hasN N y:=by
 unfold hasN;rw [any_map];congr 1
 funext x
 simp [hk]
abbrev Al:=World×Ac×(Array (Option Value))
noncomputable def Al.w (x:Al):World:=x.1
noncomputable def Al.G (x:Al):Ac:=x.2.1
noncomputable def Al.sl (x:Al):Array (Option Value):=x.2.2
abbrev Av:=Nat×(List Nd)×(List (Int×Nat×Value))×Nat×Nat×Bool×Nat×Nat×Value×Value
noncomputable def Av.i (x:Av):Nat:=x.1
noncomputable def Av.N (x:Av):List Nd:=x.2.1
noncomputable def Av.es (x:Av):List (Int×Nat×Value):=x.2.2.1
noncomputable def Av.n (x:Av):Nat:=x.2.2.2.1
noncomputable def Av.fn (x:Av):Nat:=x.2.2.2.2.1
noncomputable def Av.c (x:Av):Bool:=x.2.2.2.2.2.1
noncomputable def Av.p0 (x:Av):Nat:=x.2.2.2.2.2.2.1
noncomputable def Av.p1 (x:Av):Nat:=x.2.2.2.2.2.2.2.1
noncomputable def Av.v0 (x:Av):Value:=x.2.2.2.2.2.2.2.2.1
noncomputable def Av.v1 (x:Av):Value:=x.2.2.2.2.2.2.2.2.2
def Al.e (X:Al) (v:Av) (ys:List (Int×Nat)):Ct:=cAL X.w.params X.G X.sl v.i ys v.N v.es v.n v.fn v.c v.p0 v.p1 v.v0 v.v1
def Al.E (X:Al) (v:Av) (ys:List (Int×Nat)) (M:List Nd) (f':Obj):List (Nat×Obj):=alE X.G v.i ys v.N v.es v.n M f'
structure Al.New (X:Al) (v:Av) (ys:List (Int×Nat)) (M:List Nd):Prop where
 m:M.map (λx=>(x.k,x.tk))=fresh v.N ys
 x:∀x∈M,x.np=0/\x.xs=[.int X.G.k X.G.t]/\x.sn=1
structure Al.H (X:Al) (v:Av) (ys:List (Int×Nat)):Prop where
 q:X.G.qs.drop v.i=ys.map vI
 y:(ys.map (·.1)).Nodup
 l:LookN v.es v.N ys
 n:(v.N.map (·.k)).Nodup
 z:v.es.length+ys.length<=900
 x:∀x∈v.N,x.xs.length+ys.length<=900
theorem put_put (v:Value) {y:Int} {ty:Nat} {ys:List (Int×Nat)} (h:y∉ys.map (·.1)) (x:Nd):(x.put v [(y,ty)]).put v ys=x.put v ((y,ty)::ys):=by
 have hn:∀p∈ys,p.1≠y:=λp hp e=>h (e▸zW hp);by_cases e:y=x.k
 ·have e1:x.put v [(y,ty)]={x with xs:=x.xs++[v],sn:=x.sn+1}:=if_pos (by simp [e])
  have e2:x.put v ((y,ty)::ys)={x with xs:=x.xs++[v],sn:=x.sn+1}:=if_pos (by simp [e]);rw [e1,e2];exact Nd.put_none v λp hp q=>hn p hp (q.trans e.symm)
 ·rw [Nd.put_skip v (p:=(y,ty)) e,Nd.put_skip v (p:=(y,ty)) e,Nd.put_none (ys:=[]) v λp hp=>nomatch hp]
theorem put_a (v:Value) (ys:List (Int×Nat)) (x:Nd):(x.put v ys).a=x.a/\(x.put v ys).i=x.i/\(x.put v ys).xs.length<=x.xs.length+1:=by
 unfold Nd.put;split
 ·exact ⟨rfl,rfl,by simp⟩
 ·exact ⟨rfl,rfl,Nat.le_succ _⟩
theorem put_fst (v:Value) (q ys:List (Int×Nat)) (N:List Nd):fresh (N.map (Nd.put v q)) ys=fresh N ys:=filter_congr λp _=>by rw [hasN_map _ (Nd.put_k v q)]
theorem put_pm (v:Value) {N:List Nd} (hN:(N.map (·.k)).Nodup) {x:Nd} (hx:x∈N) (ty:Nat):∃R,(N.map Nd.l).Perm (x.l::R)/\((N.map (Nd.put v [(x.k,ty)])).map Nd.l).Perm ((x.s+216,lo (x.xs++[v]) (x.sn+1))::R):=by
 obtain ⟨N1,N2,rfl⟩:=append_of_mem hx;rw [zU,kQ,kX,vX] at hN;have d:∀z:Nd,x.k≠z.k->z.put v [(x.k,ty)]=z:=λz h=>Nd.put_none v λp hp=>by rw [jJ.mp hp];exact h
 have d1:N1.map (Nd.put v [(x.k,ty)])=N1:= .trans (jX λz hz=>d z λe=>hN.2.2 _ (zW (f:=λz:Nd=>z.k) hz) _ (zy ..) e.symm) (map_id' N1);have d2:N2.map (Nd.put v [(x.k,ty)])=N2:= .trans (jX λz hz=>d z λe=>hN.2.1.1 (e▸zW hz)) (map_id' N2);have d3:(x.put v [(x.k,ty)]).l=(x.s+216,lo (x.xs++[v]) (x.sn+1)):=by unfold Nd.put;rw [if_pos (by simp)];rfl
 refine ⟨N1.map Nd.l++N2.map Nd.l,?_,?_⟩
 ·rw [zU,kQ];exact perm_middle
 ·rw [zU,kQ,d1,d2,zU,kQ,d3];exact perm_middle
section
variable {X:Al} {v:Av} {ys:List (Int×Nat)} {M:List Nd} {f':Obj} {L Z R:List (Nat×Obj)} {tok:Nat}
theorem Al.fin (m:X.New v ys M) (hL:L.Perm (X.E v ys M f')):(X.e v ys).Fr X.w 840 8700 L Z (.ret (.ok .next)) tok:=λA h h' gens dr os R hA hF hD hU S K=>
 cAL_fin (kt:=ktOf X.w.params) (Z:=Z) (C:=X.e v ys) rfl K M f' m.m m.x (S.perm hL)
theorem Al.out {as:List Nat} {ns:Ns} (E:(X.e v ys).End as ns):∃M f',X.New v ys M/\(X.e v ys).out as ns R=X.E v ys M f'++R:=by
 obtain ⟨-,g1,M,f',g2,g3,g4,g5⟩:=E.f;refine ⟨M,f',⟨g4,g5⟩,?_⟩;unfold Ct.out;rw [<-jV];exact jk (·++R) (cAL_eq g4 g1 g2 g3)
theorem Al.nil (h:X.H v []):(X.e v []).Fr X.w 840 8700 (X.e v []).pre (X.e v []).zpre (.goto (X.e v []).code) tok:=by
 have eN:v.N.map (Nd.put (.int X.G.k X.G.t) [])=v.N:=(jX λx _=>Nd.put_none (ys:=[]) _ (λp hp=>by cases hp)).trans (map_id' _);refine Ct.Fr.go (d:=(apE X.w.params X.G v.fn X.sl v.i v.c v.p0 v.p1 v.v0 v.v1).ct) (R:=(X.G.D+216,idO v.es v.n)::v.N.map Nd.l) (apE_ok X.w X.G v.fn X.sl v.i v.c v.p0 v.p1 v.v0 v.v1 (jU.mpr (drop_eq_nil_iff.mp h.q))) (λ_ e=>e) (λ_ e=>nomatch e) (jv _) (jv _) (.refl _) (λp hp=> .inl (jj _ hp)) λas ns E=>?_;obtain rfl:as=[]:=zV.mp E.k;refine Al.fin (M:=[]) (f':=X.G.F X.w.params (aPl v.c v.p0 v.v0 v.p1 v.v1) v.fn X.sl) ⟨rfl,λx hx=>nomatch hx⟩ (.of_eq ?_);unfold Al.E alE;rw [eN,map_nil,jx,flatMap_nil,jx];rfl
def Av.nx (v:Av) (N:List Nd) (es:List (Int×Nat×Value)) (n a b:Nat) (y:Value) (r:Nat):Av:=⟨v.i+1,N,es,n,aN v.c v.fn,true,a,b,y,.ref r⟩
theorem Al.rest {w:Av} {p:Int×Nat} (ok:(X.e w ys).Ok (ktOf X.w.params) prg X.w 840 8700) (hL:L.Perm ((X.e w ys).pre++R)) (hz:∀q∈w.N.map Nd.i,q∈(X.e v (p::ys)).zpre\/q∈R)
  (K:∀M f',X.New w ys M->∃M',X.New v (p::ys) M'/\(X.E w ys M f'++R).Perm (X.E v (p::ys) M' f')):(X.e v (p::ys)).Fr X.w 840 8700 L (X.e v (p::ys)).zpre (.goto (X.G.C X.w.params)) tok:=by
 refine Ct.Fr.go (d:=X.e w ys) (R:=R) ok (λ_ e=>e) (λ_ e=>nomatch e) (jv _) (jv _) hL (λq hq=>(jq.mp hq).elim (λhq=> .inl (jj _ hq)) (hz q)) λas ns E=>?_;obtain ⟨M,f',m,e⟩:=Al.out (R:=R) E;obtain ⟨M',m',q⟩:=K M f' m;rw [e];exact Al.fin m' q
structure Al.Hd (X:Al) (v:Av) (y:Int) (ty:Nat) (ys:List (Int×Nat)):Prop where
 a:X.G.qs[((v.i:Nat):Int).toNat]?=some (.int y ty)
 q:X.G.qs.drop (v.i+1)=ys.map vI
theorem Al.H.hd {y:Int} {ty:Nat} (h:X.H v ((y,ty)::ys)):X.Hd v y ty ys:=by
 refine ⟨?_,by rw [<-drop_drop,h.q];rfl⟩;have:=jk (λl=>l[0]?) h.q;rw [getElem?_drop] at this;exact this
def Al.dx (X:Al) (v:Av) (x:Nd) (ty:Nat):Ct:=(apF X.w.params X.G v.es v.n v.fn X.sl v.i x.k ty v.c v.p0 v.p1 v.v0 v.v1 x).ct
theorem Al.old {y:Int} {ty:Nat} (h:X.H v ((y,ty)::ys)) {x:Nd} (hf:v.N.find? (λx=>x.k==y)=some x) (ih:∀w,X.H w ys->(X.e w ys).Ok (ktOf X.w.params) prg X.w 840 8700):(X.e v ((y,ty)::ys)).Fr X.w 840 8700 (X.e v ((y,ty)::ys)).pre (X.e v ((y,ty)::ys)).zpre (.goto (X.e v ((y,ty)::ys)).code) tok:=by
 have hx:=mem_of_find?_eq_some hf;obtain rfl:x.k=y:=by simpa using find?_some hf
 have hy:=vX.mp h.y;have hl:iLook v.es x.k=some (.ref (x.a+216)):=by rw [h.l _ (zy ..),hf];rfl
 obtain ⟨R,r1,r2⟩:=put_pm (.int X.G.k X.G.t) h.n hx ty;have ei:(v.N.map (Nd.put (.int X.G.k X.G.t) [(x.k,ty)])).map Nd.i=v.N.map Nd.i:=by
  rw [kW];exact jX λz _=>(put_a ..).2.1
 refine Ct.Fr.go (d:=X.dx v x ty) (R:=(X.G.D+216,idO v.es v.n)::R) (apF_ok X.w X.G v.es v.n v.fn X.sl v.i x.k ty v.c v.p0 v.p1 v.v0 v.v1 x h.hd.a hl (by have:=h.x x hx;lia)) (λ_ e=>e) (λ_ e=>nomatch e) (jv _) (jv _) (.cons _ (.cons _ ((r1.cons _).trans (.swap ..)))) ?_ λas ns E=>?_
 ·exact forall_mem_cons.mpr ⟨.inr (zy ..),forall_mem_cons.mpr ⟨.inl (jz _ (zW hx)),λp hp=> .inl (jj _ hp)⟩⟩
 ·obtain rfl:as=[]:=zV.mp E.k
  refine Al.rest (R:=[]) (ih (v.nx (v.N.map (Nd.put (.int X.G.k X.G.t) [(x.k,ty)])) v.es v.n (ns.g 1) (ns.g 2) (.int x.k ty) (x.a+216)) ⟨h.hd.q,hy.2,λp hp=>?_,?_,zZ (Nat.le_succ _) h.z,λz hz=>?_⟩) ?_ (λq hq=> .inl (by rw [show (v.nx _ v.es v.n _ _ _ _).N.map Nd.i=_ from ei] at hq;exact jz _ hq)) λM f' m=>⟨M,⟨?_,m.x⟩,?_⟩
  ·refine .trans (h.l p (zv _ hp)) ?_
   show _=((v.N.map _).find? _).map _;rw [find?_map,Option.map_map,show ((λz:Nd=>z.k==p.1)∘Nd.put (.int X.G.k X.G.t) [(x.k,ty)])=λz=>z.k==p.1 from funext λz=>by show ((Nd.put _ _ z).k==_)=_;rw [Nd.put_k]];refine jk (Option.map · _) (funext λz=>?_);show Value.ref (z.a+216)= .ref ((Nd.put _ _ z).a+216);rw [(put_a ..).1]
  ·show ((v.N.map _).map _).Nodup
   rw [kW,show ((λz:Nd=>z.k)∘Nd.put (.int X.G.k X.G.t) [(x.k,ty)])=λz=>z.k from funext λz=>Nd.put_k ..];exact h.n
  ·obtain ⟨z',hz',rfl⟩:=ky.mp hz
   have:=h.x z' hz';rw [jY] at this;exact zZ (Nat.add_le_add_right (put_a ..).2.2 _) (by lia)
  ·rw [jx]
   refine .cons _ (.cons _ ?_);exact (Perm.swap ..).trans (r2.symm.cons _)
  ·refine m.m.trans ?_
   show fresh (v.N.map _) ys=_;rw [put_fst];unfold fresh;rw [filter_cons_of_neg];show¬((!hasN v.N x.k)=true);rw [hasN_find,hf];simp
  ·refine .of_eq (.trans (jx _) ?_)
   unfold Al.E alE;rw [show (v.nx _ v.es v.n _ _ _ _).N.map (Nd.put (.int X.G.k X.G.t) ys)=v.N.map (Nd.put (.int X.G.k X.G.t) ((x.k,ty)::ys)) by show (v.N.map _).map _=_;rw [kW];exact jX λz _=>put_put _ hy.1 z,show (v.nx _ v.es v.n _ _ _ _).i+ys.length=v.i+((x.k,ty)::ys).length by show v.i+1+_=v.i+(_+1);lia];rfl
theorem pm3 {α:Type} {a b c:α} {l:List α}:Perm ([a,b,c]++l) (l++[c]++[a,b]):=by
 rw [jV];exact vY.trans (.append_left _ ((Perm.cons _ (Perm.swap ..)).trans (Perm.swap ..)))
theorem alE_new {G:Ac} {i n:Nat} {y:Int} {ty:Nat} {ys:List (Int×Nat)} {N M:List Nd} {es:List (Int×Nat×Value)} {f':Obj} {x:Nd} (hn:∀z∈N,y≠z.k) (hy:∀q∈ys,q.1≠x.k):(alE G (i+1) ys (N++[x]) (es++[x.e]) (n+1) M f'++[(x.nd+216,dob [] 0),x.i]).Perm (alE G i ((y,ty)::ys) N es n (x::M) f'):=by
 have e1:(N++[x]).map (Nd.put (.int G.k G.t) ys)=N.map (Nd.put (.int G.k G.t) ((y,ty)::ys))++[x]:=by
  rw [zU,map_singleton,Nd.put_none (x:=x) _ hy];exact jk (·++_) (jX λz hz=>(Nd.put_skip _ (hn z hz)).symm)
 have e2:i+1+ys.length=i+((y,ty)::ys).length:=by rw [jY];lia
 have e3:n+1+M.length=n+(x::M).length:=by rw [jY];lia
 unfold alE;rw [e1,e2,e3,jV es,zU,flatMap_cons,jV,jV,jV,jV];exact Perm.append_left _ (.append_left _ (vY (l₁:=x.l::M.flatMap Nd.p3) (l₂:=[_,_])))
theorem Al.new2 {y:Int} {ty:Nat} (h:X.H v ((y,ty)::ys)) (hf:v.N.find? (λx=>x.k==y)=none) (ih:∀w,X.H w ys->(X.e w ys).Ok (ktOf X.w.params) prg X.w 840 8700) {x:Nd} {f1 f2:Nat} (hk:x.k=y) (ht:x.tk=ty) (hx:x.np=0/\x.xs=[.int X.G.k X.G.t]/\x.sn=1):
  (X.e v ((y,ty)::ys)).Fr X.w 840 8700 ([(X.G.fr+216,X.G.F X.w.params (some ((f1,.int y ty),(f2,.ref (x.a+216)))) (aN v.c v.fn) X.sl),(X.G.it+216,tiO (X.G.tp+216) ((v.i:Int)+1)),(X.G.D+216,idO (v.es++[x.e]) (v.n+1))]++(x.p3++v.N.map Nd.l)) (X.e v ((y,ty)::ys)).zpre (.goto (X.G.C X.w.params)) tok:=by
 have hy:=vX.mp h.y;have hz:v.es.length+(ys.length+1)<=900:=h.z;have hn:∀z∈v.N,y≠z.k:=λz hz e=>find?_eq_none.mp hf z hz (by simp [e]);have hny:∀q∈ys,q.1≠y:=λq hq e=>hy.1 (by show y∈_;rw [<-e];exact zW hq);refine Al.rest (R:=[(x.nd+216,dob [] 0),x.i]) (ih (v.nx (v.N++[x]) (v.es++[x.e]) (v.n+1) f1 f2 (.int y ty) (x.a+216)) ⟨h.hd.q,hy.2,LookN.snoc (λq hq=>h.l q (zv _ hq)) x,?_,?_,λz hz=>?_⟩) ?_ (λq hq=>?_) λM f' m=>⟨x::M,⟨?_,forall_mem_cons.mpr ⟨hx,m.x⟩⟩,alE_new hn (hk▸hny)⟩
 ·show ((v.N++[x]).map _).Nodup
  rw [zU,kX];refine ⟨h.n,by simp,λa ha b hb e=>?_⟩;obtain ⟨z,hz,rfl⟩:=ky.mp ha;rw [map_singleton,jJ] at hb;exact hn z hz (hk.symm.trans (hb.symm.trans e.symm))
 ·show (v.es++[_]).length+_<=900
  rw [jZ,length_singleton];lia
 ·rcases jq.mp hz with hz|hz
  ·exact zZ (Nat.add_le_add_left (Nat.le_succ _) _) (h.x z hz)
  ·rw [jJ.mp hz,hx.2.1];show 1+_<=900;lia
 ·show Perm ([_,_,_]++([_,_,_]++_)) (([_,_,_]++(v.N++[x]).map Nd.l)++_)
  rw [jV,zU];exact .append_left _ pm3
 ·rcases jq.mp (zU (f:=Nd.i) (l₁:=v.N) (l₂:=[x])▸hq) with hq|hq
  ·exact .inl (jz _ hq)
  ·exact .inr (by rw [jJ.mp hq];simp)
 ·have f1:fresh (v.N++[x]) ys=fresh v.N ys:=filter_congr λq hq=>by
   unfold hasN;rw [any_append,any_cons,any_nil,Bool.or_false,hk,kv.mpr (hny q hq).symm,Bool.or_false]
  have f2:fresh v.N ((y,ty)::ys)=(y,ty)::fresh v.N ys:=filter_cons_of_pos (by show (!hasN v.N y)=true;rw [hasN_find,hf];rfl);rw [kQ,m.m,f2,hk,ht];exact jk _ f1
def Al.dn (X:Al) (v:Av) (y:Int) (ty:Nat):Ct:=(apN X.w.params X.G v.es v.n v.fn X.sl v.i y ty v.c v.p0 v.p1 v.v0 v.v1).ct
theorem Al.new {y:Int} {ty:Nat} (h:X.H v ((y,ty)::ys)) (hf:v.N.find? (λx=>x.k==y)=none) (ih:∀w,X.H w ys->(X.e w ys).Ok (ktOf X.w.params) prg X.w 840 8700):(X.e v ((y,ty)::ys)).Fr X.w 840 8700 (X.e v ((y,ty)::ys)).pre (X.e v ((y,ty)::ys)).zpre (.goto (X.e v ((y,ty)::ys)).code) tok:=by
 refine Ct.Fr.go (d:=X.dn v y ty) (R:=v.N.map Nd.l) (apN_ok X.w X.G v.es v.n v.fn X.sl v.i y ty v.c v.p0 v.p1 v.v0 v.v1 h.hd.a (by rw [h.l _ (zy ..),hf];rfl) (zZ (Nat.le_add_right ..) (zZ h.z (by decide)))) (λ_ e=>e) (λ_ e=>nomatch e) (jv _) (jv _) (.refl _) (λp hp=> .inl (jj _ hp)) λas ns E=>?_;obtain ⟨d,a,s,rfl⟩:=ge3 E.k E.ge;exact Al.new2 h hf ih (x:=⟨a,d,s,y,ty,0,ns.g 3,[.int X.G.k X.G.t],1⟩) (f1:=ns.g 1) (f2:=ns.g 2) rfl rfl ⟨rfl,rfl,rfl⟩
end
theorem aLoop_ok (w:World) (G:Ac) (sl:Array (Option Value)) (ys:List (Int×Nat)) (i:Nat) (N:List Nd) (es:List (Int×Nat×Value)) (n:Nat) (fn:Nat) (c:Bool) (p0 p1:Nat) (v0 v1:Value) (hq:G.qs.drop i=ys.map vI) (hy:(ys.map (·.1)).Nodup) (hl:LookN es N ys) (hN:(N.map (·.k)).Nodup) (hz:es.length+ys.length<=900) (hx:∀x∈N,x.xs.length+ys.length<=900):
  (cAL w.params G sl i ys N es n fn c p0 p1 v0 v1).Ok (ktOf w.params) prg w 840 8700:=by
 have go:∀ys v,Al.H ⟨w,G,sl⟩ v ys->(Al.e ⟨w,G,sl⟩ v ys).Ok (ktOf w.params) prg w 840 8700:=λys=>by
  induction ys with
  |nil=>exact λv h=>Ct.Fr.ok λtok=>Al.nil h
  |cons p ys ih=>
   intro v h;refine Ct.Fr.ok λtok=>?_;cases hf:v.N.find? (λx=>x.k==p.1) with
   |none=>exact Al.new h hf ih
   |some x=>exact Al.old h hf ih
 exact go ys ⟨i,N,es,n,fn,c,p0,p1,v0,v1⟩ ⟨hq,hy,hl,hN,hz,hx⟩
end
def aLC (P:Params) (G:Sr) (N:List Nd) (k:Int) (t:Nat) (ys:List (Int×Nat)) (es':List (Int×Nat×Value)) (n' a0 tp fr it f0 f1 f2 f3:Nat) (sl:Array (Option Value)):Ct:=(cAL P ⟨G,tp,ys.map vI,fr,it,a0,f0,f1,f2,f3,k,t⟩ sl 0 ys N es' n' 4 false 0 0 .none .none).own (tp+216,tu (ys.map vI)) (G.Z P++N.map Nd.i)
abbrev Y5:=(Option (Option (Option Bool)))×Int×Nat×Int×Nat×Int×Nat×Int×Nat
noncomputable def Y5.m (x:Y5):Option (Option (Option Bool)):=x.1
noncomputable def Y5.y1 (x:Y5):Int:=x.2.1
noncomputable def Y5.u1 (x:Y5):Nat:=x.2.2.1
noncomputable def Y5.y2 (x:Y5):Int:=x.2.2.2.1
noncomputable def Y5.u2 (x:Y5):Nat:=x.2.2.2.2.1
noncomputable def Y5.y3 (x:Y5):Int:=x.2.2.2.2.2.1
noncomputable def Y5.u3 (x:Y5):Nat:=x.2.2.2.2.2.2.1
noncomputable def Y5.y4 (x:Y5):Int:=x.2.2.2.2.2.2.2.1
noncomputable def Y5.u4 (x:Y5):Nat:=x.2.2.2.2.2.2.2.2
def Y5.l (Y:Y5):List (Int×Nat):=match Y.m with
 |none=>[]
 |some none=>[(Y.y1,Y.u1)]
 |some (some none)=>[(Y.y1,Y.u1),(Y.y2,Y.u2)]
 |some (some (some false))=>[(Y.y1,Y.u1),(Y.y2,Y.u2),(Y.y3,Y.u3)]
 |some (some (some true))=>[(Y.y1,Y.u1),(Y.y2,Y.u2),(Y.y3,Y.u3),(Y.y4,Y.u4)]
noncomputable def tokOf:Value->Nat
 | .int _ t=>t
 |_=>0
def aFact (N:List Nd) (k:Int) (t:Nat) (ys:List (Int×Nat)) (ns:Ns):Prop:=∃(M:List Nd) (f':Obj),ns.o=((N.map (Nd.put (.int k t) ys)).map Nd.l).map (·.2)++((M.flatMap Nd.p3).map (·.2)++[f'])/\ns.n.drop 1=(M.flatMap Nd.p3).map (·.1)/\M.map (λx=>(x.k,x.tk))=fresh N ys/\∀x∈M,x.np=0/\x.xs=[.int k t]/\x.sn=1
theorem own_z {a b c p:Nat×Obj} {l:List (Nat×Obj)} (h:p∈[a,b,c]++l):p=c\/p∈a::b::l:=by
 rcases jq.mp h with h|h
 ·rcases vz.mp h with rfl|h
  ·exact .inr (zy ..)
  ·rcases vz.mp h with rfl|h
   ·exact .inr (zv _ (zy ..))
   ·exact .inl (jJ.mp h)
 ·exact .inr (zv _ (zv _ h))
theorem aL_h4 {k:Int} {t:Nat} {ys:List (Int×Nat)} {N:List Nd} {as:List Nat} {ns:Ns}
  (hf:ns.z=[]/\as=ns.n.drop 1/\∃(M:List Nd) (f':Obj),ns.o=((N.map (Nd.put (.int k t) ys)).map Nd.l).map (·.2)++((M.flatMap Nd.p3).map (·.2)++[f'])/\as=(M.flatMap Nd.p3).map (·.1)/\M.map (λx=>(x.k,x.tk))=fresh N ys/\∀x∈M,x.np=0/\x.xs=[.int k t]/\x.sn=1):as=ns.n.drop 1/\(∃ex,ns.o=(ns.o.take N.length++(ns.o.drop N.length).take ((fresh N ys).length*3))++ex)/\(ns.o.take N.length).length=(N.map Nd.l).length/\((ns.o.drop N.length).take ((fresh N ys).length*3)).length=as.length:=by
 obtain ⟨-,g1,M,f',g2,g3,g4,g5⟩:=hf;have lM:M.length=(fresh N ys).length:=by rw [<-g4,zJ]
 have l1:(((N.map (Nd.put (.int k t) ys)).map Nd.l).map (·.2)).length=N.length:=by rw [zJ,zJ,zJ]
 have l2:((M.flatMap Nd.p3).map (·.2)).length=(fresh N ys).length*3:=by rw [zJ,p3_len,lM]
 have o1:ns.o.take N.length=((N.map (Nd.put (.int k t) ys)).map Nd.l).map (·.2):=by rw [g2,<-l1,qz]
 have o2:(ns.o.drop N.length).take ((fresh N ys).length*3)=(M.flatMap Nd.p3).map (·.2):=by rw [g2,<-l1,drop_left,<-l2,qz]
 refine ⟨g1,⟨[f'],?_⟩,?_,?_⟩
 ·rw [o1,o2,jV];exact g2
 ·rw [o1,l1,zJ]
 ·rw [o2,g3,zJ,zJ]
theorem aFact_of {k:Int} {t:Nat} {ys:List (Int×Nat)} {N:List Nd} {as:List Nat} {ns:Ns}
  (hf:ns.z=[]/\as=ns.n.drop 1/\∃(M:List Nd) (f':Obj),ns.o=((N.map (Nd.put (.int k t) ys)).map Nd.l).map (·.2)++((M.flatMap Nd.p3).map (·.2)++[f'])/\as=(M.flatMap Nd.p3).map (·.1)/\M.map (λx=>(x.k,x.tk))=fresh N ys/\∀x∈M,x.np=0/\x.xs=[.int k t]/\x.sn=1):aFact N k t ys ns:=by
 obtain ⟨-,g1,M,f',g2,g3,g4,g5⟩:=hf;exact ⟨M,f',g2,g1▸g3,g4,g5⟩
theorem aFact.len {N:List Nd} {k:Int} {t:Nat} {ys:List (Int×Nat)} {ns:Ns} (h:aFact N k t ys ns):(N.map Nd.l).length+(ns.n.drop 1).length<=ns.o.length:=by
 obtain ⟨M,f',g2,g3,g4,g5⟩:=h;rw [g2,g3];simp only [jZ,zJ,length_singleton];lia
def addF (P:Params) (G:Sr) (es:List (Int×Nat×Value)) (n:Nat) (N:List Nd) (k:Int) (t:Nat) (Y:Y5) (x:Nd):Rs:={ct:={code:= .call (.ref 117) ⟨.ref (G.S+216):: .int k t::Y.l.map vI,[]⟩,hd:=some none,frs:=none,zpre:=G.Z P++N.map Nd.i,pre:=[(G.D+216,idO es n),(x.a+216,nO (x.nd+216) (x.s+216) k x.tk x.np x.tn)],k:=0,fo:=λas ns=> .ret (.ok (.ret .none)),post:=λas ns=>[idO (es++newE (fresh N Y.l) (ns.n.drop 1)) (n+(fresh N Y.l).length),nO (x.nd+216) (x.s+216) k x.tk (x.np+(Y.l.length:Nat)) (tokOf (ns.w 0))],news:=λas ns=>[],fact:=λas ns=>aFact N k t Y.l ns},tt:=0,ors:=[(λX=>cDGet false (G.D+216) es n k t (.ref (x.a+216)),[0]),(λX=>(aLC P G N k t Y.l es n x.a (X.b 2) (X.b 3) (X.b 5) (X.t 0) (X.t 0+1) (X.t 0+2) (X.t 1+1) ⟨[]⟩).view ((aLC P G N k t Y.l es n x.a (X.b 2) (X.b 3) (X.b 5) (X.t 0) (X.t 0+1) (X.t 0+2) (X.t 1+1) ⟨[]⟩).pre.take 4),[2,3,5,0])]}
theorem addF_e (P:Params) (G:Sr) (es:List (Int×Nat×Value)) (n:Nat) (N:List Nd) (k:Int) (t:Nat) (Y:Y5) (x:Nd):EqOfG (addF P G es n N k t Y x) P 780 8400 520 4 2 [] ((trD 130 0x1830c31020020000000020000000000000800800800000830c3100002002000000002000000000000000002000002104105145045041041c40c30000030000030145145140004c70000000c00000c00000c04c40c30000030000030104104104100)) [6,17] (gr1 1 (N.map Nd.l)) (λtok sup nss=>[]) (λtok sup nss=>⟨(((nss.getD 1 Ns.nil).t))::(nss.getD 1 Ns.nil).n.drop 1,(nss.getD 1 Ns.nil).o,[.int 0 ((nss.getD 0 Ns.nil).t+5)],[]⟩) (λtok nss=>[⟨[tok],[],[],G.Z P++N.map Nd.i⟩,(nss.getD 0 Ns.nil),(nss.getD 1 Ns.nil)]):=by rcases Y with ⟨_|_|_|_|_⟩<;>(intro tok b0 b1 b2 b3 ns0 ns1;show _=_;kernel_rfl)
theorem addF_ok (w:World) (G:Sr) (es:List (Int×Nat×Value)) (n:Nat) (N:List Nd) (k:Int) (t:Nat) (Y:Y5) (x:Nd) (hyn:(Y.l.map (·.1)).Nodup) (hN:(N.map (·.k)).Nodup) (hx:∀x∈N,x.xs.length+Y.l.length<=900)(hl:iLook es k=some (.ref (x.a+216))) (hL:LookN es N Y.l) (hz:es.length+Y.l.length<=900):(addF w.params G es n N k t Y x).ct.OkG (ktOf w.params) prg w 780 8400 (N.map Nd.l) (λ_ ns=>gdec (N.map Nd.l) ns):=by
 have eqn_:=addF_e w.params G es n N k t Y x;exact okG_of (limA _) eqn_ (λtok=>⟨og_n rfl ⟨rfl,λX hF=>⟨rfl,zno,λha=>dget_ok _ w _ _ false _ _ _ _ _ (sysm G.D) (by rw [hl];rfl)⟩⟩,⟨og_g (λX=>(aLC w.params G N k t Y.l es n x.a (X.b 2) (X.b 3) (X.b 5) (X.t 0) (X.t 0+1) (X.t 0+2) (X.t 1+1) ⟨[]⟩)) (λX=>((aLC w.params G N k t Y.l es n x.a (X.b 2) (X.b 3) (X.b 5) (X.t 0) (X.t 0+1) (X.t 0+2) (X.t 1+1) ⟨[]⟩)).pre.take 4) rfl rfl rfl (λ_ _ _=>rfl) (λ_ _ _=>rfl) (λX hF=>⟨rfl,rfl,(λzq hzq=>(λ_ h=>zs_at ((addF w.params G es n N k t Y x).ors.take 1) h) _ hF zq hzq),λas ns hk hf=>aL_h4 (k:=k) (t:=t) (N:=N) (ys:=Y.l) hf,λha=>((aLoop_ok w _ _ Y.l 0 N _ _ _ _ _ _ _ _ rfl hyn hL hN hz hx).own (λzp hzp=>own_z hzp) (λ_ _ h=>h.1)).m⟩),trivial⟩⟩) (λtok sup nss h=>by
  obtain ⟨x1,a1,e1,f1⟩:=fact_one (l:=[⟨[tok],[],[],G.Z w.params++N.map Nd.i⟩,(nss.getD 0 Ns.nil),(nss.getD 1 Ns.nil)]) (addF w.params G es n N k t Y x).ors h 1 rfl;obtain ⟨as_,-,hfa⟩:=f1;exact ⟨rfl,zZ (Nat.le_add_right ..) (aFact_of (k:=k) (t:=t) (ys:=Y.l) (N:=N) hfa).len,(by decide:2<3)⟩) rfl rfl rfl (λ_ _=>rfl) rfl (λtok sup nss h=>by
  obtain ⟨x1,a1,e1,f1⟩:=fact_one (l:=[⟨[tok],[],[],G.Z w.params++N.map Nd.i⟩,(nss.getD 0 Ns.nil),(nss.getD 1 Ns.nil)]) (addF w.params G es n N k t Y x).ors h 1 rfl;obtain ⟨as_,-,hfa⟩:=f1;exact (show aFact N k t Y.l (nss.getD 1 Ns.nil) from aFact_of (ns:=nss.getD 1 Ns.nil) hfa)) (λ_ _ _=>zno)
theorem LookN.more {es:List (Int×Nat×Value)} {N:List Nd} {Y:List (Int×Nat)} (h:LookN es N Y) {k:Int} (t:Nat) (v:Value) (hk:∀p∈Y,p.1≠k):LookN (es++[(k,t,v)]) N Y:=λp hp=>by
 rw [iLook_snoc,h p hp,vk]
 ·cases N.find? (λx=>x.k==p.1)<;>rfl
 ·intro e
  exact hk p hp (by have:k=p.1:=(by simpa using e);exact this.symm)
def addN (P:Params) (G:Sr) (es:List (Int×Nat×Value)) (n:Nat) (N:List Nd) (k:Int) (t:Nat) (Y:Y5):Rs:={ct:={code:= .call (.ref 117) ⟨.ref (G.S+216):: .int k t::Y.l.map vI,[]⟩,hd:=some none,frs:=none,zpre:=G.Z P++N.map Nd.i,pre:=[(G.D+216,idO es n)],k:=3,fo:=λas ns=> .ret (.ok (.ret .none)),post:=λas ns=>[idO (es++[(k,t,.ref (as.getD 1 0))]++newE (fresh N Y.l) (ns.n.drop 1)) (n+1+(fresh N Y.l).length)],news:=λas ns=>[dob [] 0,nO (as.getD 0 0) (as.getD 2 0) k t (0+(Y.l.length:Nat)) (tokOf (ns.w 0)),lo [] 0],fact:=λas ns=>aFact N k t Y.l ns},tt:=0,ors:=[(λX=>cDGet false (G.D+216) es n k t .none,[0]),(λX=>cDSetN (G.D+216) es n k t (.ref (X.a 5)),[0]),(λX=>(aLC P G N k t Y.l (es++[(k,t,.ref (X.a 5))]) (n+1) (X.b 5) (X.b 1) (X.b 2) (X.b 8) (X.t 0) (X.t 0+1) (X.t 0+2) (X.t 2+1) ⟨[]⟩).view ((aLC P G N k t Y.l (es++[(k,t,.ref (X.a 5))]) (n+1) (X.b 5) (X.b 1) (X.b 2) (X.b 8) (X.t 0) (X.t 0+1) (X.t 0+2) (X.t 2+1) ⟨[]⟩).pre.take 4),[1,2,8,0])]}
theorem addN_e (P:Params) (G:Sr) (es:List (Int×Nat×Value)) (n:Nat) (N:List Nd) (k:Int) (t:Nat) (Y:Y5):EqOfG (addN P G es n N k t Y) P 780 8400 970 8 3 [4,5,7] ((trD 273 0x90820831801800000001800000000000060060060000060820830001801800000001800000000000000001800001830c3104101041131030c00000c00000c041801800000001800000000000060060060000061c60060000000060000000000001801801800001871801800000001800000000000060060060000061c71c71c7000000006006000000000000000000000000000000000000000000100104044041041c40c30000030000030104104100003c70000000c00000c00000c03c40c300000300000300c30c30c30c0)) [6,24,17] (gr1 2 (N.map Nd.l)) (λtok sup nss=>[(sup.getD 3 0),(sup.getD 4 0),(sup.getD 6 0)]) (λtok sup nss=>⟨(((nss.getD 2 Ns.nil).t))::(nss.getD 2 Ns.nil).n.drop 1,(nss.getD 2 Ns.nil).o,[.int 0 ((nss.getD 1 Ns.nil).t+5)],[]⟩) (λtok nss=>[⟨[tok],[],[],G.Z P++N.map Nd.i⟩,(nss.getD 0 Ns.nil),(nss.getD 1 Ns.nil),(nss.getD 2 Ns.nil)]):=by rcases Y with ⟨_|_|_|_|_⟩<;>(intro tok b0 b1 b2 b3 b4 b5 b6 b7 ns0 ns1 ns2;show _=_;kernel_rfl)
theorem addN_ok (w:World) (G:Sr) (es:List (Int×Nat×Value)) (n:Nat) (N:List Nd) (k:Int) (t:Nat) (Y:Y5) (hyn:(Y.l.map (·.1)).Nodup) (hky:∀p∈Y.l,p.1≠k) (hN:(N.map (·.k)).Nodup) (hx:∀x∈N,x.xs.length+Y.l.length<=900)(hl:iLook es k=none) (hL:LookN es N Y.l) (hz:es.length+Y.l.length<=890):(addN w.params G es n N k t Y).ct.OkG (ktOf w.params) prg w 780 8400 (N.map Nd.l) (λ_ ns=>gdec (N.map Nd.l) ns):=by
 have eqn_:=addN_e w.params G es n N k t Y;exact okG_of (limA _) eqn_ (λtok=>⟨og_n rfl ⟨rfl,λX hF=>⟨rfl,zno,λha=>dget_ok _ w _ _ false _ _ _ _ _ (sysm G.D) (by rw [hl];rfl)⟩⟩,⟨og_n rfl ⟨rfl,λX hF=>⟨rfl,zno,λha=>dsetN_ok _ w _ _ _ _ _ _ _ _ hl (by lia)⟩⟩,⟨og_g (λX=>(aLC w.params G N k t Y.l (es++[(k,t,.ref (X.a 5))]) (n+1) (X.b 5) (X.b 1) (X.b 2) (X.b 8) (X.t 0) (X.t 0+1) (X.t 0+2) (X.t 2+1) ⟨[]⟩)) (λX=>((aLC w.params G N k t Y.l (es++[(k,t,.ref (X.a 5))]) (n+1) (X.b 5) (X.b 1) (X.b 2) (X.b 8) (X.t 0) (X.t 0+1) (X.t 0+2) (X.t 2+1) ⟨[]⟩)).pre.take 4) rfl rfl rfl (λ_ _ _=>rfl) (λ_ _ _=>rfl) (λX hF=>⟨rfl,rfl,(λzq hzq=>(λ_ h=>zs_at ((addN w.params G es n N k t Y).ors.take 2) h) _ hF zq hzq),λas ns hk hf=>aL_h4 (k:=k) (t:=t) (N:=N) (ys:=Y.l) hf,λha=>((aLoop_ok w _ _ Y.l 0 N _ _ _ _ _ _ _ _ rfl hyn (hL.more _ _ hky) hN (by rw [jZ,length_singleton];lia) hx).own (λzp hzp=>own_z hzp) (λ_ _ h=>h.1)).m⟩),trivial⟩⟩⟩) (λtok sup nss h=>by
  obtain ⟨x2,a2,e2,f2⟩:=fact_one (l:=[⟨[tok],[],[],G.Z w.params++N.map Nd.i⟩,(nss.getD 0 Ns.nil),(nss.getD 1 Ns.nil),(nss.getD 2 Ns.nil)]) (addN w.params G es n N k t Y).ors h 2 rfl;obtain ⟨as_,-,hfa⟩:=f2;exact ⟨rfl,zZ (Nat.le_add_right ..) (aFact_of (k:=k) (t:=t) (ys:=Y.l) (N:=N) hfa).len,(by decide:3<4)⟩) rfl rfl rfl (λ_ _=>rfl) rfl (λtok sup nss h=>by
  obtain ⟨x2,a2,e2,f2⟩:=fact_one (l:=[⟨[tok],[],[],G.Z w.params++N.map Nd.i⟩,(nss.getD 0 Ns.nil),(nss.getD 1 Ns.nil),(nss.getD 2 Ns.nil)]) (addN w.params G es n N k t Y).ors h 2 rfl;obtain ⟨as_,-,hfa⟩:=f2;exact (show aFact N k t Y.l (nss.getD 2 Ns.nil) from aFact_of (ns:=nss.getD 2 Ns.nil) hfa)) (λ_ _ _=>zno)
theorem y5_of {ys:List (Int×Nat)} (h:ys.length<=4):∃Y:Y5,ys=Y.l:=by
 rcases ys with _|⟨p,_|⟨q,_|⟨r,_|⟨s,_|⟨t,l⟩⟩⟩⟩⟩
 ·exact ⟨⟨none,0,0,0,0,0,0,0,0⟩,rfl⟩
 ·exact ⟨⟨some none,p.1,p.2,0,0,0,0,0,0⟩,rfl⟩
 ·exact ⟨⟨some (some none),p.1,p.2,q.1,q.2,0,0,0,0⟩,rfl⟩
 ·exact ⟨⟨some (some (some false)),p.1,p.2,q.1,q.2,r.1,r.2,0,0⟩,rfl⟩
 ·exact ⟨⟨some (some (some true)),p.1,p.2,q.1,q.2,r.1,r.2,s.1,s.2⟩,rfl⟩
 ·exact absurd h (by simp)
theorem look_e (N:List Nd) (y:Int):iLook (N.map Nd.e) y=(N.find? λx=>x.k==y).map λx=> .ref (x.a+216):=by
 unfold iLook;rw [find?_map,Option.map_map];rfl
theorem aFact.k3 {N:List Nd} {k:Int} {t:Nat} {ys:List (Int×Nat)} {ns:Ns} (h:aFact N k t ys ns):(ns.n.drop 1).length=(fresh N ys).length*3:=by
 obtain ⟨M,f',g2,g3,g4,g5⟩:=h;rw [g3,zJ,p3_len,<-g4,zJ]
def dF (P:Params) (G:Sr) (es:List (Int×Nat×Value)) (n:Nat) (N:List Nd) (k:Int) (t:Nat) (ys:List (Int×Nat)) (x:Nd):Ct:=
 {code:= .call (.ref 117) ⟨.ref (G.S+216):: .int k t::ys.map vI,[]⟩,hd:=some none,zpre:=G.Z P++N.map Nd.i,pre:=[(G.D+216,idO es n),(x.a+216,nO (x.nd+216) (x.s+216) k x.tk x.np x.tn)]++N.map Nd.l,k:=(fresh N ys).length*3,fo:=λ_ _=> .ret (.ok (.ret .none)),
  post:=λ_ ns=>[idO (es++newE (fresh N ys) (ns.n.drop 1)) (n+(fresh N ys).length),nO (x.nd+216) (x.s+216) k x.tk (x.np+(ys.length:Nat)) (tokOf (ns.w 0))]++ns.o.take (N.map Nd.l).length,
  news:=λ_ ns=>(ns.o.drop (N.map Nd.l).length).take (ns.n.drop 1).length,fact:=λas ns=>as=ns.n.drop 1/\aFact N k t ys ns}
theorem dF_ok (w:World) (G:Sr) (es:List (Int×Nat×Value)) (n:Nat) (N:List Nd) (k:Int) (t:Nat) (ys:List (Int×Nat)) (x:Nd) (h4:ys.length<=4) (hyn:(ys.map (·.1)).Nodup) (hN:(N.map (·.k)).Nodup) (hx:∀x∈N,x.xs.length+ys.length<=900)
  (hl:iLook es k=some (.ref (x.a+216))) (hL:LookN es N ys) (hz:es.length+ys.length<=900):(dF w.params G es n N k t ys x).Ok (ktOf w.params) prg w 780 8400:=by
 obtain ⟨Y,rfl⟩:=y5_of h4;refine (addF_ok w G es n N k t Y x hyn hN hx hl hL hz).full rfl rfl rfl rfl rfl λas ns hk hp hf=>?_;have has:as=[]:=zV.mp hk;subst has;have hf':aFact N k t Y.l ns:=hf;exact ⟨hf'.len,hf'.k3,rfl,rfl,rfl,rfl,hf'⟩
def dN (P:Params) (G:Sr) (es:List (Int×Nat×Value)) (n:Nat) (N:List Nd) (k:Int) (t:Nat) (ys:List (Int×Nat)):Ct:=
 {code:= .call (.ref 117) ⟨.ref (G.S+216):: .int k t::ys.map vI,[]⟩,hd:=some none,zpre:=G.Z P++N.map Nd.i,pre:=[(G.D+216,idO es n)]++N.map Nd.l,k:=3+(fresh N ys).length*3,fo:=λ_ _=> .ret (.ok (.ret .none)),
  post:=λas ns=>[idO (es++[(k,t,.ref (as.getD 1 0))]++newE (fresh N ys) (ns.n.drop 1)) (n+1+(fresh N ys).length)]++ns.o.take (N.map Nd.l).length,
  news:=λas ns=>[dob [] 0,nO (as.getD 0 0) (as.getD 2 0) k t (0+(ys.length:Nat)) (tokOf (ns.w 0)),lo [] 0]++(ns.o.drop (N.map Nd.l).length).take (ns.n.drop 1).length,fact:=λas ns=>(∃b0 b1 b2,as=[b0,b1,b2]++ns.n.drop 1)/\aFact N k t ys ns}
theorem dN_ok (w:World) (G:Sr) (es:List (Int×Nat×Value)) (n:Nat) (N:List Nd) (k:Int) (t:Nat) (ys:List (Int×Nat)) (h4:ys.length<=4) (hyn:(ys.map (·.1)).Nodup) (hky:∀p∈ys,p.1≠k) (hN:(N.map (·.k)).Nodup) (hx:∀x∈N,x.xs.length+ys.length<=900)
  (hl:iLook es k=none) (hL:LookN es N ys) (hz:es.length+ys.length<=890):(dN w.params G es n N k t ys).Ok (ktOf w.params) prg w 780 8400:=by
 obtain ⟨Y,rfl⟩:=y5_of h4;refine (addN_ok w G es n N k t Y hyn hky hN hx hl hL hz).full rfl rfl rfl rfl rfl λas ns hk hp hf=>?_;obtain ⟨b0,b1,b2,rfl⟩:=ln3 hk;have hf':aFact N k t Y.l ns:=hf;exact ⟨hf'.len,by show ([b0,b1,b2]++ns.n.drop 1).length=3+_;rw [jZ,hf'.k3];rfl,rfl,rfl,rfl,⟨b0,b1,b2,rfl⟩,hf'⟩
section
noncomputable def addU (k:Int) (t:Nat) (ys:List (Int×Nat)) (tok:Nat) (x:Nd):Nd:=if x.k==k then {x with np:=x.np+(ys.length:Nat),tn:=tok} else x.put (.int k t) ys
def newOk (k:Int) (t:Nat) (ys:List (Int×Nat)) (M:List Nd):Prop:=∀x∈M,(x.k=k->x.np=(ys.length:Nat)/\x.xs=[]/\x.sn=0)/\(x.k≠k->x.np=0/\x.xs=[.int k t]/\x.sn=1)
def acE (G:Sr) (N:List Nd) (k:Int) (t:Nat) (ys:List (Int×Nat)) (tok:Nat) (M:List Nd):List (Nat×Obj):=
 (G.D+216,idO (N.map Nd.e++M.map Nd.e) (N.length+M.length))::((N.map (addU k t ys tok)).map Nd.i++(N.map (addU k t ys tok)).map Nd.l)++M.flatMap Nd.p3
def cGAdd (P:Params) (G:Sr) (N:List Nd) (k:Int) (t:Nat) (ys:List (Int×Nat)):Ct:=
 {code:= .call (.ref 117) ⟨.ref (G.S+216):: .int k t::ys.map vI,[]⟩,hd:=some none,zpre:=G.Z P,pre:=(G.D+216,idO (N.map Nd.e) N.length)::(N.map Nd.i++N.map Nd.l),k:=(fresh N ((k,t)::ys)).length*3,fo:=λ_ _=> .ret (.ok (.ret .none)),
  post:=λ_ ns=>idO (N.map Nd.e++newE (fresh N ((k,t)::ys)) (ns.n.drop 1)) (N.length+(fresh N ((k,t)::ys)).length)::ns.o.take (N.length+N.length),
  news:=λ_ ns=>(ns.o.drop (N.length+N.length)).take ((fresh N ((k,t)::ys)).length*3),
  fact:=λas ns=>ns.z=[]/\as=ns.n.drop 1/\∃(M:List Nd) (tok:Nat),ns.o=((N.map (addU k t ys tok)).map Nd.i++(N.map (addU k t ys tok)).map Nd.l).map (·.2)++(M.flatMap Nd.p3).map (·.2)/\as=(M.flatMap Nd.p3).map (·.1)/\M.map (λx=>(x.k,x.tk))=fresh N ((k,t)::ys)/\newOk k t ys M}
theorem addU_a (k:Int) (t:Nat) (ys:List (Int×Nat)) (tok:Nat) (x:Nd):(addU k t ys tok x).i.1=x.i.1/\(addU k t ys tok x).l.1=x.l.1/\(addU k t ys tok x).k=x.k/\(addU k t ys tok x).a=x.a:=by
 unfold addU;split
 ·exact ⟨rfl,rfl,rfl,rfl⟩
 ·refine ⟨?_,Nd.put_l _ _ x,Nd.put_k _ _ x,?_⟩<;>(unfold Nd.put;split<;>rfl)
theorem put_i (v:Value) (ys:List (Int×Nat)) (x:Nd):(x.put v ys).i=x.i:=by unfold Nd.put;split<;>rfl
abbrev G9:=World×Sr×Int×Nat×List (Int×Nat)
def G9.k (X:G9):Int:=X.2.2.1
def G9.t (X:G9):Nat:=X.2.2.2.1
def G9.ys (X:G9):List (Int×Nat):=X.2.2.2.2
def G9.e (X:G9) (N:List Nd):Ct:=cGAdd X.1.params X.2.1 N X.k X.t X.ys
def G9.p (X:G9) (N:List Nd):List Nd:=N.map (Nd.put (.int X.k X.t) X.ys)
structure G9.H (X:G9) (N:List Nd):Prop where
 y:X.ys.length<=4
 d:(X.ys.map (·.1)).Nodup
 k:∀p∈X.ys,p.1≠X.k
 n:(N.map (·.k)).Nodup
 x:∀x∈N,x.xs.length+X.ys.length<=900
 z:(N.map Nd.e).length<=800
structure aFact.Got (N:List Nd) (k:Int) (t:Nat) (ys:List (Int×Nat)) (ns:Ns) (M:List Nd):Prop where
 m:M.map (λx=>(x.k,x.tk))=fresh N ys
 x:∀x∈M,x.np=0/\x.xs=[.int k t]/\x.sn=1
 e:newE (fresh N ys) (ns.n.drop 1)=M.map Nd.e
 n:(fresh N ys).length=M.length
 l:((N.map Nd.l).map (·.1)).zip (ns.o.take (N.map Nd.l).length)=(N.map (Nd.put (.int k t) ys)).map Nd.l
 p:(ns.n.drop 1).zip ((ns.o.drop (N.map Nd.l).length).take (ns.n.drop 1).length)=M.flatMap Nd.p3
theorem aFact.got {N:List Nd} {k:Int} {t:Nat} {ys:List (Int×Nat)} {ns:Ns} (h:aFact N k t ys ns):∃M,aFact.Got N k t ys ns M:=by
 obtain ⟨M,f',g2,g3,g4,g5⟩:=h;have l:(N.map Nd.l).length=(((N.map (Nd.put (.int k t) ys)).map Nd.l).map (·.2)).length:=by simp
 refine ⟨M,g4,g5,by rw [<-g4,g3];exact newE_p3 M,by rw [<-g4,zJ],?_,?_⟩
 ·rw [g2,l,qz,<-putL_fst (.int k t) ys N,zip_fs]
 ·rw [g3,g2,l,drop_left,zJ,<-zJ (f:=(·.2)) (as:=M.flatMap Nd.p3),qz,zip_fs]
section
variable {X:G9} {N N' M:List Nd} {x:Nd} {L Z:List (Nat×Obj)} {tok tok0:Nat} {ns:Ns}
theorem G9.fin (hM:M.map (λx=>(x.k,x.tk))=fresh N ((X.k,X.t)::X.ys)) (hx:newOk X.k X.t X.ys M) (hL:L.Perm (acE X.2.1 N X.k X.t X.ys tok M)):(X.e N).Fr X.1 780 8400 L Z (.ret (.ok (.ret .none))) tok0:=by
 have lQ:((M.flatMap Nd.p3).map (·.2)).length=(fresh N ((X.k,X.t)::X.ys)).length*3:=by rw [zJ,p3_len,<-hM,zJ]
 have eQ:newE (fresh N ((X.k,X.t)::X.ys)) ((M.flatMap Nd.p3).map (·.1))=M.map Nd.e:=by rw [<-hM];exact newE_p3 M
 have lM:(fresh N ((X.k,X.t)::X.ys)).length=M.length:=by rw [<-hM,zJ]
 unfold acE at hL;have eU:((N.map (addU X.k X.t X.ys tok)).map Nd.i++(N.map (addU X.k X.t X.ys tok)).map Nd.l).map (·.1)=(N.map Nd.i++N.map Nd.l).map (·.1):=by
  rw [zU,zU,kW,kW,kW,kW,kW,kW];exact congr (jk _ (jX λx _=>(addU_a ..).1)) (jX λx _=>(addU_a ..).2.1)
 have lU:(((N.map (addU X.k X.t X.ys tok)).map Nd.i++(N.map (addU X.k X.t X.ys tok)).map Nd.l).map (·.2)).length=N.length+N.length:=by simp
 have f:(X.e N).fact ((M.flatMap Nd.p3).map (·.1)) ⟨tok0::(M.flatMap Nd.p3).map (·.1),((N.map (addU X.k X.t X.ys tok)).map Nd.i++(N.map (addU X.k X.t X.ys tok)).map Nd.l).map (·.2)++(M.flatMap Nd.p3).map (·.2),[],[]⟩:=⟨rfl,rfl,M,tok,rfl,rfl,hM,hx⟩
 generalize (N.map (addU X.k X.t X.ys tok)).map Nd.i++(N.map (addU X.k X.t X.ys tok)).map Nd.l=U at eU lU hL f;generalize M.flatMap Nd.p3=Q at hL f lQ eQ;have o1:(U.map (·.2)++Q.map (·.2)).take (N.length+N.length)=U.map (·.2):=by rw [<-lU,qz]
 have o2:((U.map (·.2)++Q.map (·.2)).drop (N.length+N.length)).take ((fresh N ((X.k,X.t)::X.ys)).length*3)=Q.map (·.2):=by rw [<-lU,drop_left,<-lQ,take_length]
 refine Ct.Fr.fin (e:=X.e N) (Q.map (·.1)) ⟨tok0::Q.map (·.1),U.map (·.2)++Q.map (·.2),[],[]⟩ (hL.trans (.of_eq ?_)) (by rw [zJ,<-zJ (f:=(·.2))];exact lQ) ?_ ?_ f (λp hp=>nomatch hp)
 ·show _=(_::(N.map Nd.i++N.map Nd.l).map (·.1)).zip (idO (_++newE _ (Q.map (·.1))) (_+length _)::take (N.length+N.length) _)++((Q.map (·.1)).zip (take ((fresh N ((X.k,X.t)::X.ys)).length*3) _)++[])
  rw [o1,o2,eQ,lM,<-eU,zip_cons_cons,zip_fs,zip_fs,jx]
 ·show (_::take (N.length+N.length) _).length=(_::(N.map Nd.i++N.map Nd.l)).length
  rw [o1,jY,jY,lU];simp
 ·show (take ((fresh N ((X.k,X.t)::X.ys)).length*3) _).length=_
  rw [o2,zJ,zJ]
theorem G9.newk (h:X.H N) (g:aFact.Got N' X.k X.t X.ys ns M):newOk X.k X.t X.ys M:=λz hz=>by
 have hm:(z.k,z.tk)∈fresh N' X.ys:=g.m▸zW (f:=λx:Nd=>(x.k,x.tk)) hz;exact ⟨λe=>absurd e (h.k _ (mem_filter.mp hm).1),λ_=>g.x z hz⟩
theorem addU_ne (h:∀z∈N',z.k≠X.k):N'.map (addU X.k X.t X.ys tok)=X.p N':=jX λz hz=>vk (by simpa using h z hz)
theorem p_i:(X.p N').map Nd.i=N'.map Nd.i:=by
 unfold G9.p;rw [kW];exact jX λz _=>put_i _ _ z
theorem G9.old (h:X.H N) (hf:N.find? (λx=>x.k==X.k)=some x):(X.e N).Fr X.1 780 8400 (X.e N).pre (X.e N).zpre (.goto (X.e N).code) tok0:=by
 obtain ⟨hxk,N1,N2,e,-⟩:=find?_eq_some_iff_append.mp hf;have hxk:x.k=X.k:=eq_of_beq hxk;have p:N.Perm (x::(N1++N2)):=e▸perm_middle;have fnd:∀y,y≠X.k->(N1++N2).find? (λz=>z.k==y)=N.find? (λz=>z.k==y):=λy hy=>by
  rw [e,find?_append,find?_append,find?_cons,kv.mpr (hxk▸hy.symm)]
 generalize N1++N2=N' at p fnd;have nd:=vX.mp ((p.map (·.k)).nodup_iff.mp h.n);have hne:∀z∈N',z.k≠X.k:=λz hz e=>nd.1 (show x.k∈_ from hxk.trans e.symm▸zW hz);have fe:fresh N' X.ys=fresh N ((X.k,X.t)::X.ys):=by
  unfold fresh;rw [filter_cons_of_neg (by show¬((!hasN N X.k)=true);rw [hasN_find,hf];exact kZ)];exact filter_congr λq hq=>by rw [hasN_find,hasN_find,fnd _ (h.k q hq)]
 refine Ct.Fr.go (d:=dF X.1.params X.2.1 (N.map Nd.e) N.length N' X.k X.t X.ys x) (R:=N'.map Nd.i++[x.l]) (dF_ok X.1 X.2.1 (N.map Nd.e) N.length N' X.k X.t X.ys x h.y h.d nd.2 (λz hz=>h.x z (p.mem_iff.mpr (zv _ hz))) (by rw [look_e,hf];rfl) (λq hq=>by rw [look_e,fnd _ (h.k q hq)]) (by have:=h.y;have:=h.z;lia)) (λ_ e=>e) (λ_ e=>nomatch e) (jv _) (jv _) ?_ (λq hq=>(jq.mp hq).imp id (jj _)) λas ns E=>?_
 ·rw [show (dF X.1.params X.2.1 (N.map Nd.e) N.length N' X.k X.t X.ys x).pre=(X.2.1.D+216,idO (N.map Nd.e) N.length)::x.i::N'.map Nd.l by show [_,(_,nO _ _ X.k _ _ _)]++_=_;rw [<-hxk];rfl]
  refine .cons _ (((p.map Nd.i).append (p.map Nd.l)).trans (.cons _ ?_));show Perm (N'.map Nd.i++x.l::N'.map Nd.l) (N'.map Nd.l++(N'.map Nd.i++[x.l]));rw [append_cons (N'.map Nd.i) x.l (N'.map Nd.l)];exact vY
 ·obtain ⟨rfl,h2⟩:=E.f
  obtain ⟨M,g⟩:=h2.got;refine G9.fin (M:=M) (tok:=tokOf (ns.w 0)) (g.m.trans fe) (G9.newk h g) ?_;show Perm ((_,idO (_++newE (fresh N' X.ys) _) (_+(fresh N' X.ys).length))::(_,nO _ _ X.k _ _ _)::((N'.map Nd.l).map (·.1)).zip (ns.o.take _)++((ns.n.drop 1).zip ((ns.o.drop (N'.map Nd.l).length).take (ns.n.drop 1).length)++_)) _;rw [g.e,g.n,g.l,g.p,show nO (x.nd+216) (x.s+216) X.k x.tk (x.np+(X.ys.length:Nat)) (tokOf (ns.w 0))=nO (x.nd+216) (x.s+216) x.k x.tk (x.np+(X.ys.length:Nat)) (tokOf (ns.w 0)) by rw [hxk]];refine .cons _ (.trans ?_ (Perm.append_right _ (((p.map (addU X.k X.t X.ys (tokOf (ns.w 0)))).map Nd.i).append ((p.map (addU X.k X.t X.ys (tokOf (ns.w 0)))).map Nd.l)).symm));rw [kQ,addU_ne hne,kQ,kQ,p_i,show addU X.k X.t X.ys (tokOf (ns.w 0)) x={x with np:=x.np+(X.ys.length:Nat),tn:=tokOf (ns.w 0)} from if_pos (beq_iff_eq.mpr hxk)];refine .cons _ ?_;show Perm ((X.p N').map Nd.l++(M.flatMap Nd.p3++(N'.map Nd.i++[x.l]))) ((N'.map Nd.i++x.l::(X.p N').map Nd.l)++M.flatMap Nd.p3);generalize N'.map Nd.i=I;generalize (X.p N').map Nd.l=L;rw [append_cons I x.l L,jV (I++[x.l]),<-jV];exact vY
theorem G9.new (h:X.H N) (hf:N.find? (λx=>x.k==X.k)=none):(X.e N).Fr X.1 780 8400 (X.e N).pre (X.e N).zpre (.goto (X.e N).code) tok0:=by
 have hne:∀z∈N,z.k≠X.k:=λz hz e=>find?_eq_none.mp hf z hz (beq_iff_eq.mpr e);have fe:fresh N ((X.k,X.t)::X.ys)=(X.k,X.t)::fresh N X.ys:=filter_cons_of_pos (by show (!hasN N X.k)=true;rw [hasN_find,hf];rfl);refine Ct.Fr.go (d:=dN X.1.params X.2.1 (N.map Nd.e) N.length N X.k X.t X.ys) (R:=N.map Nd.i) (dN_ok X.1 X.2.1 (N.map Nd.e) N.length N X.k X.t X.ys h.y h.d h.k h.n h.x (by rw [look_e,hf];rfl) (λp hp=>look_e N p.1) (by have:=h.y;have:=h.z;lia)) (λ_ e=>e) (λ_ e=>nomatch e) (jv _) (jv _) (.cons _ vY) (λq hq=>jq.mp hq) λas ns E=>?_;obtain ⟨⟨b0,b1,b2,g1⟩,h2⟩:=E.f;obtain ⟨M,g⟩:=h2.got;obtain ⟨d,a,s,e⟩:=ge3 (l:=[b0,b1,b2]) rfl λb hb=>E.ge b (g1▸jj _ hb);rw [e] at g1;subst g1;obtain ⟨x,hx,hk,hp⟩:∃x:Nd,x=⟨a,d,s,X.k,X.t,(X.ys.length:Nat),tokOf (ns.w 0),[],0⟩/\(x.k,x.tk)=(X.k,X.t)/\x.p3=[(d+216,dob [] 0),(a+216,nO (d+216) (s+216) X.k X.t (X.ys.length:Nat) (tokOf (ns.w 0))),(s+216,lo [] 0)]:=⟨_,rfl,rfl,rfl⟩
 refine G9.fin (M:=x::M) (tok:=0) (by rw [kQ,g.m,fe,hk]) (forall_mem_cons.mpr ⟨?_,G9.newk h g⟩) ?_
 ·subst hx
  exact ⟨λ_=>⟨rfl,rfl,rfl⟩,λe=>absurd rfl e⟩
 ·unfold acE
  rw [addU_ne hne,p_i,kQ,flatMap_cons,jY,hp,show x.e=(X.k,X.t,.ref (a+216)) by subst hx;rfl];show Perm ((_,idO (N.map Nd.e++[(X.k,X.t,.ref (a+216))]++newE (fresh N X.ys) (ns.n.drop 1)) (N.length+1+(fresh N X.ys).length))::((N.map Nd.l).map (·.1)).zip (ns.o.take _)++((_,_)::(_,nO (d+216) (s+216) X.k X.t (0+(X.ys.length:Nat)) (tokOf (ns.w 0)))::(_,_)::(ns.n.drop 1).zip ((ns.o.drop (N.map Nd.l).length).take (ns.n.drop 1).length)++N.map Nd.i)) _;rw [g.e,g.n,g.l,g.p,Int.zero_add,jV (N.map Nd.e),show N.length+1+M.length=N.length+(M.length+1) by lia];refine Perm.cons _ ?_;show Perm ((X.p N).map Nd.l++(([_,_,_]++M.flatMap Nd.p3)++N.map Nd.i)) ((N.map Nd.i++(X.p N).map Nd.l)++([_,_,_]++M.flatMap Nd.p3));rw [<-jV,jV (N.map Nd.i)];exact vY
end
theorem cGAdd_ok (w:World) (G:Sr) (N:List Nd) (k:Int) (t:Nat) (ys:List (Int×Nat)) (h4:ys.length<=4) (hyn:(ys.map (·.1)).Nodup) (hky:∀p∈ys,p.1≠k) (hN:(N.map (·.k)).Nodup) (hx:∀x∈N,x.xs.length<=800) (hz:N.length<=800):
  (cGAdd w.params G N k t ys).Ok (ktOf w.params) prg w 780 8400:=by
 have h:G9.H ⟨w,G,k,t,ys⟩ N:=⟨h4,hyn,hky,hN,λx q=>by have:=hx x q;exact zZ (Nat.add_le_add this h4) (by decide),by rw [zJ];exact hz⟩
 refine Ct.Fr.ok (e:=G9.e ⟨w,G,k,t,ys⟩ N) λtok=>?_;cases hf:N.find? (λx=>x.k==k) with
 |some x=>exact G9.old h hf
 |none=>exact G9.new h hf
end
noncomputable def VO (d:Nat) (i:Nat) (z ep:Nat):Obj:={cls:= .type "dict_valueiterator",data:= .fields ⟨[.ref d,.int i 0,.int z 0,.int ep 0]⟩}
noncomputable def VE (i:Nat) (z ep:Nat):Obj:={cls:= .type "dict_valueiterator",data:= .fields ⟨[.none,.int i 0,.int z 0,.int ep 0]⟩}
def cNxV (f:Bool) (it d:Nat) (es:List (Int×Nat×Value)) (n i:Nat) (v:Value):Ct:={code:= .builtin "dict_valueiterator.__next__" ⟨[.ref it],[]⟩,zpre:=zsel f (d,idO es n),pre:=(it,VO d i es.length n)::psel f (d,idO es n),k:=0,fo:=λ_ _=> .ret (.ok (.ret v)),post:=λ_ _=>VO d (i+1) es.length n::(psel f (d,idO es n)).map (·.2),news:=λ_ _=>[],fact:=λ_ _=>True}
theorem nxV_ok (kt:KT) (w:World) (D U:Nat) (f:Bool) (it d:Nat) (es:List (Int×Nat×Value)) (n i:Nat) {p:Int×Nat×Value} (hv:es[i]?=some p):(cNxV f it d es n i (p.2.2)).Ok kt prg w D U:=
 Ct.of_builtin rfl F.entry_dict_valueiterator_next λA hA h gens dr tok os R H0 K=>by
  have ho:=H0.st.here _ (zy ..);have hl:=sel_here H0 (f:=f) (p:=(d,idO es n)) (λq hq=>hq) (λq hq=>zv _ hq);have hT:∀s:Shared,s.heap.get? it=some (VO d i es.length n)->s.TypeIs (.ref it) "dict_valueiterator":=λs e=>⟨_,e,rfl⟩
  refine zk (zX ?_);refine zk ?_;refine zk ?_;refine zk (wpAny_typeNameOfWhole_valiter (hT _ ho) (zX ?_));refine zk (wpAny_fieldsOf ho rfl ?_);have hown:Builtin.Dict_items.ownsTuple "dict_valueiterator"=false:=by decide
  rw [hown];show wpAny _ _ (if (Value.ref d==Value.none)=true then _ else _) _ _ _;rw [vk (show¬((Value.ref d==Value.none)=true) from kZ)];refine zk (zX ?_);refine zk (wpAny_dictEntries hl rfl ?_);have hsz:(Array.mk (es.map iE)).size=es.length:=by simp
  rw [vk (by rw [hsz];simp)];refine zk (zX ?_);refine zk (wpAny_dictEpoch hl rfl ?_);rw [vk (by simp)];refine zX ?_;have he:(Array.mk (es.map iE))[i]?=some (iE p):=by simp [hv]
  dsimp only
  rw [vk (show¬((i:Int)<0) from by lia),Int.toNat_natCast,he];refine zk ?_;refine zk (wpAny_typeNameOfWhole_valiter (hT _ ho) (zX ?_));refine zk (wpAny_isOneOf_valiter (hT _ ho) ?_);show wpAny _ _ (setField (.ref it) 1 (rawInt ((i:Int)+1))>>=_) _ _ _;refine zk (wpAny_setField ho rfl (by simp) ?_);have H1:=H0.upd 0 (f:=Obj.mapFields (·.setIfInBounds 1 (rawInt ((i:Int)+1)))) rfl rfl;have ho1:(h.update it (Obj.mapFields (·.setIfInBounds 1 (rawInt ((i:Int)+1))))).get? it=some (VO d (i+1) es.length n):=by
   have:=H1.st.here (it,Obj.mapFields (·.setIfInBounds 1 (rawInt ((i:Int)+1))) (VO d i es.length n)) (zy ..);exact this
  refine zk (wpAny_holding ?_);have hT1:Shared.TypeIs ⟨h.update it (Obj.mapFields (·.setIfInBounds 1 (rawInt ((i:Int)+1)))),gens,dr,tok,os⟩ (.ref it) "dict_valueiterator":=⟨_,ho1,rfl⟩
  refine zk (wpAny_isOneOf_valiter hT1 ?_);refine zk (wpAny_isOneOf_valiter hT1 ?_);show wpAny _ _ (pure (p.2.2)) _ _ _;refine zX (zX ?_);refine K _ [] ⟨[tok],[],[],[]⟩ (zsel f (d,idO es n)) rfl (by cases f<;>rfl) rfl ?_ (λp hp=>by cases hp) trivial;cases f<;>exact H1
def cNxVE (f:Bool) (it d:Nat) (es:List (Int×Nat×Value)) (n i:Nat):Ct:={code:= .builtin "dict_valueiterator.__next__" ⟨[.ref it],[]⟩,hd:=some none,zpre:=zsel f (d,idO es n),pre:=(it,VO d i es.length n)::psel f (d,idO es n),k:=1,fo:=λas _=> .ret (.error (.ref (as.getD 0 0))),post:=λ_ _=>VE i es.length n::(psel f (d,idO es n)).map (·.2),news:=λ_ ns=>[exo "StopIteration" (ns.w 0) .none],fact:=λ_ _=>True}
theorem nxVE_ok (kt:KT) (w:World) (D U:Nat) (f:Bool) (it d:Nat) (es:List (Int×Nat×Value)) (n i:Nat) (hv:es[i]?=none):(cNxVE f it d es n i).Ok kt prg w D U:=
 Ct.of_builtin rfl F.entry_dict_valueiterator_next λA hA h gens dr tok os R H0 K=>by
  have ho:=H0.st.here _ (zy ..);have hl:=sel_here H0 (f:=f) (p:=(d,idO es n)) (λq hq=>hq) (λq hq=>zv _ hq);have hT:∀s:Shared,s.heap.get? it=some (VO d i es.length n)->s.TypeIs (.ref it) "dict_valueiterator":=λs e=>⟨_,e,rfl⟩
  have hh:A.handled=none:=hA _ rfl;refine zk (zX ?_);refine zk ?_;refine zk ?_;refine zk (wpAny_typeNameOfWhole_valiter (hT _ ho) (zX ?_));refine zk (wpAny_fieldsOf ho rfl ?_);have hown:Builtin.Dict_items.ownsTuple "dict_valueiterator"=false:=by decide
  rw [hown];show wpAny _ _ (if (Value.ref d==Value.none)=true then _ else _) _ _ _;rw [vk (show¬((Value.ref d==Value.none)=true) from kZ)];refine zk (zX ?_);refine zk (wpAny_dictEntries hl rfl ?_);have hsz:(Array.mk (es.map iE)).size=es.length:=by simp
  rw [vk (by rw [hsz];simp)];refine zk (zX ?_);refine zk (wpAny_dictEpoch hl rfl ?_);rw [vk (by simp)];refine zX ?_;have he:(Array.mk (es.map iE))[i]?=none:=by simp [hv]
  dsimp only
  rw [vk (show¬((i:Int)<0) from by lia),Int.toNat_natCast,he];refine zk ?_;refine zk (wpAny_typeNameOfWhole_valiter (hT _ ho) (zX ?_));simp only [hown,Bool.false_eq_true,if_false];refine zk (wpAny_setField ho rfl (by simp) ?_);refine zk ?_;simp only [newExc,newTuple];refine zk (vx ?_ (by size_fits));refine zk (m:=firstArgMember _ _) (wpAny_of_eq (a:=Value.none) (by first|rfl|(simp only [firstArgMember];rfl)) ?_);refine vx ?_ (by size_fits);simp only [raiseNew];refine zk (wpAny_handled ?_);have hh':(A.under (.builtin "dict_valueiterator.__next__" ⟨[.ref it],[]⟩)).handled=none:=hh;rw [hh'];refine zk (zX (wpAny_throw ?_));have H1:=H0.upd 0 (f:=Obj.mapFields (·.setIfInBounds 0 .none)) rfl rfl;generalize (h.update it (Obj.mapFields (·.setIfInBounds 0 .none)))=h1 at H1⊢;have H2:=H1.push (o:={cls:= .type "tuple",data:= .seq #[]}) rfl;have H3:=H2.push (o:=exo "StopIteration" (.ref h1.objs.size) .none) rfl;refine K _ [(h1.push {cls:= .type "tuple",data:= .seq #[]}).objs.size] ⟨[tok],[],[.ref h1.objs.size],[]⟩ (zsel f (d,idO es n)) rfl (by cases f<;>rfl) rfl ?_ (λp hp=>by cases hp) trivial;cases f with
  |true=>exact H3.pick [0,2] (by decide) (lt_all (n:=3) rfl)
  |false=>exact H3.pick [0,1,3] (by decide) (lt_all (n:=4) rfl)
noncomputable def KO (d:Nat) (i:Nat) (z ep:Nat):Obj:={cls:= .type "dict_keyiterator",data:= .fields ⟨[.ref d,.int i 0,.int z 0,.int ep 0]⟩}
noncomputable def KE (i:Nat) (z ep:Nat):Obj:={cls:= .type "dict_keyiterator",data:= .fields ⟨[.none,.int i 0,.int z 0,.int ep 0]⟩}
def cNxK (f:Bool) (it d:Nat) (es:List (Int×Nat×Value)) (n i:Nat) (v:Value):Ct:={code:= .builtin "dict_keyiterator.__next__" ⟨[.ref it],[]⟩,zpre:=zsel f (d,idO es n),pre:=(it,KO d i es.length n)::psel f (d,idO es n),k:=0,fo:=λ_ _=> .ret (.ok (.ret v)),post:=λ_ _=>KO d (i+1) es.length n::(psel f (d,idO es n)).map (·.2),news:=λ_ _=>[],fact:=λ_ _=>True}
theorem nxK_ok (kt:KT) (w:World) (D U:Nat) (f:Bool) (it d:Nat) (es:List (Int×Nat×Value)) (n i:Nat) {p:Int×Nat×Value} (hv:es[i]?=some p):(cNxK f it d es n i (Value.int p.1 p.2.1)).Ok kt prg w D U:=
 Ct.of_builtin rfl F.entry_dict_keyiterator_next λA hA h gens dr tok os R H0 K=>by
  have ho:=H0.st.here _ (zy ..);have hl:=sel_here H0 (f:=f) (p:=(d,idO es n)) (λq hq=>hq) (λq hq=>zv _ hq);have hT:∀s:Shared,s.heap.get? it=some (KO d i es.length n)->s.TypeIs (.ref it) "dict_keyiterator":=λs e=>⟨_,e,rfl⟩
  refine zk (zX ?_);refine zk ?_;refine zk ?_;refine zk (wpAny_typeNameOfWhole_keyiter (hT _ ho) (zX ?_));refine zk (wpAny_fieldsOf ho rfl ?_);have hown:Builtin.Dict_items.ownsTuple "dict_keyiterator"=false:=by decide
  rw [hown];show wpAny _ _ (if (Value.ref d==Value.none)=true then _ else _) _ _ _;rw [vk (show¬((Value.ref d==Value.none)=true) from kZ)];refine zk (zX ?_);refine zk (wpAny_dictEntries hl rfl ?_);have hsz:(Array.mk (es.map iE)).size=es.length:=by simp
  rw [vk (by rw [hsz];simp)];refine zk (zX ?_);refine zk (wpAny_dictEpoch hl rfl ?_);rw [vk (by simp)];refine zX ?_;have he:(Array.mk (es.map iE))[i]?=some (iE p):=by simp [hv]
  dsimp only
  rw [vk (show¬((i:Int)<0) from by lia),Int.toNat_natCast,he];refine zk ?_;refine zk (wpAny_typeNameOfWhole_keyiter (hT _ ho) (zX ?_));refine zk (wpAny_isOneOf_keyiter (hT _ ho) ?_);show wpAny _ _ (setField (.ref it) 1 (rawInt ((i:Int)+1))>>=_) _ _ _;refine zk (wpAny_setField ho rfl (by simp) ?_);have H1:=H0.upd 0 (f:=Obj.mapFields (·.setIfInBounds 1 (rawInt ((i:Int)+1)))) rfl rfl;have ho1:(h.update it (Obj.mapFields (·.setIfInBounds 1 (rawInt ((i:Int)+1))))).get? it=some (KO d (i+1) es.length n):=by
   have:=H1.st.here (it,Obj.mapFields (·.setIfInBounds 1 (rawInt ((i:Int)+1))) (KO d i es.length n)) (zy ..);exact this
  refine zk (wpAny_holding ?_);have hT1:Shared.TypeIs ⟨h.update it (Obj.mapFields (·.setIfInBounds 1 (rawInt ((i:Int)+1)))),gens,dr,tok,os⟩ (.ref it) "dict_keyiterator":=⟨_,ho1,rfl⟩
  refine zk (wpAny_isOneOf_keyiter hT1 ?_);show wpAny _ _ (pure (Value.int p.1 p.2.1)) _ _ _;refine zX (zX ?_);refine K _ [] ⟨[tok],[],[],[]⟩ (zsel f (d,idO es n)) rfl (by cases f<;>rfl) rfl ?_ (λp hp=>by cases hp) trivial;cases f<;>exact H1
def cNxKE (f:Bool) (it d:Nat) (es:List (Int×Nat×Value)) (n i:Nat):Ct:={code:= .builtin "dict_keyiterator.__next__" ⟨[.ref it],[]⟩,hd:=some none,zpre:=zsel f (d,idO es n),pre:=(it,KO d i es.length n)::psel f (d,idO es n),k:=1,fo:=λas _=> .ret (.error (.ref (as.getD 0 0))),post:=λ_ _=>KE i es.length n::(psel f (d,idO es n)).map (·.2),news:=λ_ ns=>[exo "StopIteration" (ns.w 0) .none],fact:=λ_ _=>True}
theorem nxKE_ok (kt:KT) (w:World) (D U:Nat) (f:Bool) (it d:Nat) (es:List (Int×Nat×Value)) (n i:Nat) (hv:es[i]?=none):(cNxKE f it d es n i).Ok kt prg w D U:=
 Ct.of_builtin rfl F.entry_dict_keyiterator_next λA hA h gens dr tok os R H0 K=>by
  have ho:=H0.st.here _ (zy ..);have hl:=sel_here H0 (f:=f) (p:=(d,idO es n)) (λq hq=>hq) (λq hq=>zv _ hq);have hT:∀s:Shared,s.heap.get? it=some (KO d i es.length n)->s.TypeIs (.ref it) "dict_keyiterator":=λs e=>⟨_,e,rfl⟩
  have hh:A.handled=none:=hA _ rfl;refine zk (zX ?_);refine zk ?_;refine zk ?_;refine zk (wpAny_typeNameOfWhole_keyiter (hT _ ho) (zX ?_));refine zk (wpAny_fieldsOf ho rfl ?_);have hown:Builtin.Dict_items.ownsTuple "dict_keyiterator"=false:=by decide
  rw [hown];show wpAny _ _ (if (Value.ref d==Value.none)=true then _ else _) _ _ _;rw [vk (show¬((Value.ref d==Value.none)=true) from kZ)];refine zk (zX ?_);refine zk (wpAny_dictEntries hl rfl ?_);have hsz:(Array.mk (es.map iE)).size=es.length:=by simp
  rw [vk (by rw [hsz];simp)];refine zk (zX ?_);refine zk (wpAny_dictEpoch hl rfl ?_);rw [vk (by simp)];refine zX ?_;have he:(Array.mk (es.map iE))[i]?=none:=by simp [hv]
  dsimp only
  rw [vk (show¬((i:Int)<0) from by lia),Int.toNat_natCast,he];refine zk ?_;refine zk (wpAny_typeNameOfWhole_keyiter (hT _ ho) (zX ?_));simp only [hown,Bool.false_eq_true,if_false];refine zk (wpAny_setField ho rfl (by simp) ?_);refine zk ?_;simp only [newExc,newTuple];refine zk (vx ?_ (by size_fits));refine zk (m:=firstArgMember _ _) (wpAny_of_eq (a:=Value.none) (by first|rfl|(simp only [firstArgMember];rfl)) ?_);refine vx ?_ (by size_fits);simp only [raiseNew];refine zk (wpAny_handled ?_);have hh':(A.under (.builtin "dict_keyiterator.__next__" ⟨[.ref it],[]⟩)).handled=none:=hh;rw [hh'];refine zk (zX (wpAny_throw ?_));have H1:=H0.upd 0 (f:=Obj.mapFields (·.setIfInBounds 0 .none)) rfl rfl;generalize (h.update it (Obj.mapFields (·.setIfInBounds 0 .none)))=h1 at H1⊢;have H2:=H1.push (o:={cls:= .type "tuple",data:= .seq #[]}) rfl;have H3:=H2.push (o:=exo "StopIteration" (.ref h1.objs.size) .none) rfl;refine K _ [(h1.push {cls:= .type "tuple",data:= .seq #[]}).objs.size] ⟨[tok],[],[.ref h1.objs.size],[]⟩ (zsel f (d,idO es n)) rfl (by cases f<;>rfl) rfl ?_ (λp hp=>by cases hp) trivial;cases f with
  |true=>exact H3.pick [0,2] (by decide) (lt_all (n:=3) rfl)
  |false=>exact H3.pick [0,1,3] (by decide) (lt_all (n:=4) rfl)
section
def pE (P:Params):PySem.Expr:=valOf (stOf P 122 1)
def pV (P:Params) (cl fr:Nat):Env:=cenv P 122 (pE P) cl fr [] [84,111,112,111,108,111,103,105,99,97,108,83,111,114,116,101,114,46,112,114,101,112,97,114,101,46,60,108,111,99,97,108,115,62,46]
def pD (P:Params) (c:Bool) (t:Nat) (v:Value) (n:Nat):Obj:=dob (match c with|true=>[en P [105] t v]|false=>[]) n
noncomputable def pN (c:Bool) (n:Nat):Nat:=match c with|true=>n|false=>n+1
section
variable (P:Params) (w:World) (it acc cl fr D:Nat) (es:List (Int×Nat×Value)) (n:Nat) (j:Nat) (x:Nd) (ac:List Value) (n1 n2:Nat) (c:Bool) (t0:Nat) (v0:Value)
def pvI:Sp:={c:= .compLoop (pE P) 0 (.ref (it+216)) (.ref (acc+216)) (pV P (cl+216) (fr+216)),z:=[(D+216,idO es n),x.i],i:=[(it+216,VO (D+216) j es.length n),(acc+216,lo ac n1),(cl+216,pD P c t0 v0 n2)],r:=λas ns=> .goto (.compLoop (pE P) 0 (.ref (it+216)) (.ref (acc+216)) (pV P (cl+216) (fr+216))),u:=λas ns=>[(0,VO (D+216) (j+1) es.length n),(1,lo (ac++[.int x.k x.tk]) (n1+1)),(2,pD P true (ns.g 1) (.ref (x.a+216)) (ns.g 2))],ors:=[(λX=>cNxV true (it+216) (D+216) es n j (.ref (x.a+216)),[0]),(λX=>iop "int.__eq__" x.np 0 x.tn (X.t 1+2) true,[]),(λX=>ctAppend (acc+216) ac n1 (.int x.k x.tk),[1])],m:=3,tr:=trD 57 0x2c40c40000000c40000000000000000c40000c43c40c40000000c40000000000000000c40000c430c3041,cs:=[1,4,5,0],ns:=λ_ _ N=>⟨[((N 2).t),aT c t0 ((N 0).t),pN c n2],[],[],[]⟩}
theorem pvI_ok (hv:es[j]?=some x.e) (hnp:x.np=0) (hz:ac.length<=1000):OK (pvI · it acc cl fr D es n j x ac n1 n2 c t0 v0) w 840 8700:=
 okF 3 (qY [0] (λ_=>nxV_ok _ w _ _ true _ _ _ _ _ hv)<|qN (λ_=>(iop_eq w x.tn _ (by simp [hnp])).m)<|qN (λ_=>append_ok _ w _ _ _ _ _ _ hz)<|trivial) (e:=by cases c<;>kernel_rfl)
def pvO:Sp:={c:= .compLoop (pE P) 0 (.ref (it+216)) (.ref (acc+216)) (pV P (cl+216) (fr+216)),z:=[(D+216,idO es n),x.i],i:=[(it+216,VO (D+216) j es.length n),(acc+216,lo ac n1),(cl+216,pD P c t0 v0 n2)],r:=λas ns=> .goto (.compLoop (pE P) 0 (.ref (it+216)) (.ref (acc+216)) (pV P (cl+216) (fr+216))),u:=λas ns=>[(0,VO (D+216) (j+1) es.length n),(2,pD P true (ns.g 1) (.ref (x.a+216)) (ns.g 2))],ors:=[(λX=>cNxV true (it+216) (D+216) es n j (.ref (x.a+216)),[0]),(λX=>iop "int.__eq__" x.np 0 x.tn (X.t 1+2) false,[])],m:=2,tr:=trD 30 0xc40c40000000c40000000000000000c40000c430c3041,cs:=[1,4,0],ns:=λ_ _ N=>⟨[((N 1).t),aT c t0 ((N 0).t),pN c n2],[],[],[]⟩}
theorem pvO_ok (hv:es[j]?=some x.e) (hnp:x.np≠0):OK (pvO · it acc cl fr D es n j x ac n1 n2 c t0 v0) w 840 8700:=
 okF 2 (qY [0] (λ_=>nxV_ok _ w _ _ true _ _ _ _ _ hv)<|qN (λ_=>(iop_eq w x.tn _ (by simp [hnp])).m)<|trivial) (e:=by cases c<;>kernel_rfl)
end
section
variable (P:Params) (w:World) (it acc cl fr D:Nat) (es:List (Int×Nat×Value)) (n:Nat) (j:Nat) (ac:List Value) (n1 n2:Nat) (c:Bool) (t0:Nat) (v0:Value)
def pvE:Sp:={c:= .compLoop (pE P) 0 (.ref (it+216)) (.ref (acc+216)) (pV P (cl+216) (fr+216)),z:=[(D+216,idO es n)],i:=[(it+216,VO (D+216) j es.length n),(acc+216,lo ac n1),(cl+216,pD P c t0 v0 n2)],r:=λas ns=> .ret (.ok .next),u:=λas ns=>[(0,VE j es.length n)],ors:=[(λX=>cNxVE true (it+216) (D+216) es n j,[0])],s:=1,m:=1,tr:=[1,1,4],cs:=[1],ns:=λ_ _ N=>⟨[((N 0).t)],[],[],[]⟩}
theorem pvE_ok (hv:es[j]?=none):OK (pvE · it acc cl fr D es n j ac n1 n2 c t0 v0) w 840 8700:=
 okF 1 (qY [0] (λ_=>nxVE_ok _ w _ _ true _ _ _ _ _ hv)<|trivial) (e:=by cases c<;>kernel_rfl)
end
end
noncomputable def rdy (N:List Nd):List Value:=(N.filter λx=>x.np==0).map λx=> .int x.k x.tk
def cPC (P:Params) (it acc cl fr D:Nat) (N:List Nd) (n z:Nat) (rest:List Nd) (j:Nat) (ac:List Value) (n1 n2:Nat) (c:Bool) (t0:Nat) (v0:Value):Ct:=
 {code:= .compLoop (pE P) 0 (.ref (it+216)) (.ref (acc+216)) (pV P (cl+216) (fr+216)),hd:=some none,zpre:=(D+216,idO (N.map Nd.e) n)::N.map Nd.i,
  pre:=[(it+216,VO (D+216) j z n),(acc+216,lo ac n1),(cl+216,pD P c t0 v0 n2)],k:=0,fo:=λ_ _=> .ret (.ok .next),
  post:=λ_ ns=>[VE (j+rest.length) z n,lo (ac++rdy rest) (n1+(rdy rest).length),pD P (c|| !rest.isEmpty) (ns.g 1) (ns.w 0) (ns.g 2)],news:=λ_ _=>[],
  fact:=λ_ _=>True}
theorem pc_ok (w:World) (it acc cl fr D:Nat) (N:List Nd) (n z:Nat) (hzl:z=(N.map Nd.e).length):∀(rest:List Nd) (j:Nat) (ac:List Value) (n1 n2:Nat) (c:Bool) (t0:Nat) (v0:Value),N.drop j=rest->ac.length+rest.length<=1000->
  (cPC w.params it acc cl fr D N n z rest j ac n1 n2 c t0 v0).Ok (ktOf w.params) prg w 840 8700:=by
 subst hzl;intro rest;induction rest with
 |nil=>
  intro j ac n1 n2 c t0 v0 hj hz A hA hF hD hU h gens dr tok os R S0 K;have hv:(N.map Nd.e)[j]?=none:=by
   have:=drop_eq_nil_iff.mp hj;rw [jU,zJ];exact this
  refine Ct.useP (R:=[]) (pvE_ok w it acc cl fr D (N.map Nd.e) n j ac n1 n2 c t0 v0 hv) hA (λl e=>nomatch e) hD hU (by rw [jx];exact Held.start S0) (λp hp=> .inl (by rw [jJ.mp hp];exact zy ..)) λh' as ns hk hfr hp hn H hfa=>?_;have has:as=[]:=zV.mp hk;subst has;refine Ct.fin (kt:=ktOf w.params) K [] ⟨[ns.t,t0,n2],[],[v0],[]⟩ (Z:=(D+216,idO (N.map Nd.e) n)::N.map Nd.i) ?_ rfl rfl rfl (λp hp=>nomatch hp) trivial;have e:ac++rdy []=ac:=by unfold rdy;simp
  show Held _ _ _ _ _ [(it+216,VE (j+0) (N.map Nd.e).length n),(acc+216,lo (ac++rdy []) (n1+0)),(cl+216,pD w.params (c||false) t0 v0 n2)] _;rw [e,Bool.or_false];exact H
 |cons x rest ih=>
  intro j ac n1 n2 c t0 v0 hj hz A hA hF hD hU h gens dr tok os R S0 K;have hNj:N[j]?=some x:=by
   have:=jk (λl=>l[0]?) hj;rw [getElem?_drop] at this;exact this
  have hv:(N.map Nd.e)[j]?=some x.e:=by rw [vU,hNj];rfl
  have hj':N.drop (j+1)=rest:=by rw [<-drop_drop,hj];rfl
  rw [jY] at hz;have hzs:∀p∈[(D+216,idO (N.map Nd.e) n),x.i],p∈(D+216,idO (N.map Nd.e) n)::N.map Nd.i:=λp hp=>by
   rcases vz.mp hp with rfl|hp
   ·exact zy ..
   ·rw [jJ.mp hp]
    exact zv _ (zW (jy hNj))
  have step:∀(b:Bool) (ac':List Value) (n1':Nat),ac'++rdy rest=ac++rdy (x::rest)->n1'+(rdy rest).length=n1+(rdy (x::rest)).length->ac'.length<=ac.length+1->∀(h':Heap) (tk' t' n2':Nat),Held (ktOf w.params) h ((cPC w.params it acc cl fr D N n (N.map Nd.e).length (x::rest) j ac n1 n2 c t0 v0).pre.map (·.1)) (cPC w.params it acc cl fr D N n (N.map Nd.e).length (x::rest) j ac n1 n2 c t0 v0).zpre h' [(it+216,VO (D+216) (j+1) (N.map Nd.e).length n),(acc+216,lo ac' n1'),(cl+216,pD w.params true t' (.ref (x.a+216)) n2')] ((D+216,idO (N.map Nd.e) n)::N.map Nd.i)->codeAny (model prg w) A (.compLoop (pE w.params) 0 (.ref (it+216)) (.ref (acc+216)) (pV w.params (cl+216) (fr+216))) R ⟨h',gens,dr,tk',os⟩:=by
   intro b ac' n1' e1 e2 e3 h' tk' t' n2' H;refine Ct.useP (R:=[]) (ih (j+1) ac' n1' n2' true t' (.ref (x.a+216)) hj' (by lia)) hA (λl e=>nomatch e) hD hU (by rw [jx];exact H) (λp hp=> .inl hp) λh2 as ns hk hfr hp hn H2 hfa=>?_;have has:as=[]:=zV.mp hk;subst has;refine Ct.fin (kt:=ktOf w.params) K [] ⟨ns.n,[],ns.v,[]⟩ (Z:=(D+216,idO (N.map Nd.e) n)::N.map Nd.i) ?_ rfl rfl rfl (λp hp=>nomatch hp) trivial;show Held _ _ _ _ _ [(it+216,VE (j+(x::rest).length) (N.map Nd.e).length n),(acc+216,lo (ac++rdy (x::rest)) (n1+(rdy (x::rest)).length)),(cl+216,pD w.params (c||true) (ns.g 1) (ns.w 0) (ns.g 2))] _;rw [<-e1,<-e2,Bool.or_true,jY,show j+(rest.length+1)=j+1+rest.length by lia];exact H2
  by_cases hnp:x.np=0
  ·have er:rdy (x::rest)= .int x.k x.tk::rdy rest:=by unfold rdy;rw [filter_cons_of_pos (by simp [hnp])];rfl
   refine Ct.useP (R:=[]) (pvI_ok w it acc cl fr D (N.map Nd.e) n j x ac n1 n2 c t0 v0 hv hnp (by lia)) hA (λl e=>nomatch e) hD hU (by rw [jx];exact Held.start S0) (λp hp=> .inl (hzs p hp)) λh' as ns hk hfr hp hn H hfa=>?_;have has:as=[]:=zV.mp hk;subst has;exact step true (ac++[Value.int x.k x.tk]) (n1+1) (by rw [er];simp) (by rw [er,jY];lia) (by simp) h' _ (ns.g 1) (ns.g 2) H
  ·have er:rdy (x::rest)=rdy rest:=by unfold rdy;rw [filter_cons_of_neg (by simpa using hnp)]
   refine Ct.useP (R:=[]) (pvO_ok w it acc cl fr D (N.map Nd.e) n j x ac n1 n2 c t0 v0 hv hnp) hA (λl e=>nomatch e) hD hU (by rw [jx];exact Held.start S0) (λp hp=> .inl (hzs p hp)) λh' as ns hk hfr hp hn H hfa=>?_;have has:as=[]:=zV.mp hk;subst has;exact step true ac n1 (by rw [er]) (by rw [er]) (by lia) h' _ (ns.g 1) (ns.g 2) H
section
abbrev Lw:=Nat×Nat×Nat×Nat×Nat×Nat×Nat×Nat×(Nat->Nat)
noncomputable def Lw.fr (x:Lw):Nat:=x.1
noncomputable def Lw.s (x:Lw):Nat:=x.2.1
noncomputable def Lw.fx (x:Lw):Nat:=x.2.2.1
noncomputable def Lw.nu (x:Lw):Nat:=x.2.2.2.1
noncomputable def Lw.os (x:Lw):Nat:=x.2.2.2.2.1
noncomputable def Lw.bc (x:Lw):Nat:=x.2.2.2.2.2.1
noncomputable def Lw.pc (x:Lw):Nat:=x.2.2.2.2.2.2.1
noncomputable def Lw.kc (x:Lw):Nat:=x.2.2.2.2.2.2.2.1
noncomputable def Lw.k (x:Lw):Nat->Nat:=x.2.2.2.2.2.2.2.2
def Lw.lc (c:Lw):List (Str×Addr):=[(stl [107,105,110,103,115],c.kc+216),(stl [112],c.pc+216),(stl [98,101,97,116,115],c.bc+216)]
def Lw.V (c:Lw) (P:Params):Env:={envOf P 214 (c.fr+216) [108,97,119,46,60,108,111,99,97,108,115,62,46] with cells:=c.lc}
def Lw.b4 (c:Lw) (P:Params):List DictEntry:=[en P [115,99,114,105,112,116] (c.k 0) (.ref c.s),en P [102,105,120,101,100] (c.k 1) (.ref (c.fx+216)),en P [110,117,109,98,101,114,115] (c.k 2) (.ref (c.nu+216)),en P [111,102,102,115,101,116,115] (c.k 3) (.ref (c.os+216))]
def Lw.e4 (P:Params) (b:Bool) (t:Nat->Nat) (v:Nat->Value):List DictEntry:=match b with|true=>[en P [110] (t 0) (v 0),en P [116,101,120,116] (t 1) (v 1),en P [115,101,99,111,110,100,115] (t 2) (v 2),en P [111,102,102,115,101,116] (t 3) (v 3)]|false=>[]
noncomputable def aM (c:Bool) (n:Nat):Nat:=match c with|true=>n|false=>n+4
def lkC (P:Params) (c:Lw) (it:Nat):Code:=forC (stOf P 214 3) (.ref (it+216)) (c.V P)
section
variable (P:Params) (w:World) (c:Lw) (it l:Nat) (ls:List Value) (ln:Nat) (i:Int) (x tx:Nat) (os:List Value) (on fn:Nat) (sl:Array (Option Value)) (cc:Bool) (t:Nat->Nat) (v:Nat->Value)
def lkt:Sp:={c:=lkC P c it,z:=[(l+216,lo ls ln)],i:=[(c.fr+216,fob (c.b4 P++Lw.e4 P cc t v) fn sl),(it+216,li (l+216) i),(c.os+216,lo os on)],r:=λas ns=> .goto (lkC P c it),u:=λas ns=>[(0,fob (c.b4 P++Lw.e4 P true (λi=>ns.g (i+1)) (λi=>ns.w i)) (ns.g 5) sl),(1,li (l+216) (i+1)),(2,lo (os++[ns.w 3]) (on+1))],f:=λas ns=>∃u,ns.w 3= .int (clkS x) u,ors:=[(λX=>cNext true (it+216) (l+216) ls ln i (.int x tx),[1]),(λX=>cTx x tx (clkT x) (clkS x),[]),(λX=>cOffs (clkT x) ((X.s 2).g 1) (clkS x),[]),(λX=>iop "int.__ne__" (clkS x) (clkS x) ((X.s 3).g 1) ((X.s 2).g 2) false,[]),(λX=>ctAppend (c.os+216) os on (.int (clkS x) ((X.s 3).g 1)),[2])],s:=4,m:=5,tr:=trD 57 0x30430c30c10410000400010400400410411c5144145145145105145145144145145144104100040041082,cs:=[1,0,8,2,1,0],ns:=λ_ _ N=>⟨[((N 4).t),aT cc (t 0) ((N 0).t),aT cc (t 1) ((N 1).t),aT cc (t 2) ((N 1).t+1),aT cc (t 3) ((N 2).t),aM cc fn],[],[.int x tx,.str ⟨⟨clkT x⟩⟩ ((N 1).g 1),.int (clkS x) ((N 1).g 2),.int (clkS x) ((N 2).g 1)],[]⟩}
theorem lkt_ok (hv:ls[i.toNat]?=some (.int x tx)) (hx:x<30240) (hz:os.length<=1000):OK (lkt · c it l ls ln i x tx os on fn sl cc t v) w 720 8100:=
 okF 5 (qY [0] (λ_=>next_ok _ w _ _ true _ _ _ _ _ hv)<|qN (λ_=>(clk_ok w x tx hx).m)<|qN (λ_=>(of_ok' w x _ hx).m)<|qN (λ_=>(iop_ne w _ _ (by simp)).m)<|qN (λ_=>append_ok _ w _ _ _ _ _ _ hz)<|trivial) (λ_=>⟨_,rfl⟩) (e:=by cases cc<;>kernel_rfl)
end
section
variable (P:Params) (w:World) (c:Lw) (it l:Nat) (ls:List Value) (ln:Nat) (i:Int)
def lke:Sp:={c:=lkC P c it,z:=[(l+216,lo ls ln)],i:=[(it+216,li (l+216) i)],r:=λas ns=> .ret (.ok .next),u:=λas ns=>[(0,liE i)],ors:=[(λX=>cNextE true (it+216) (l+216) ls ln i,[0])],s:=1,m:=1,tr:=[1,1,2],cs:=[1],ns:=λ_ _ N=>⟨[((N 0).t)],[],[],[]⟩}
theorem lke_ok (hv:ls[i.toNat]?=none):OK (lke · c it l ls ln i) w 720 8100:=
 okF 1 (qY [0] (λ_=>nextE_ok _ w _ _ true _ _ _ _ _ hv)<|trivial)
end
end
noncomputable def vN (p:Nat×Nat):Value:= .int (p.1:Int) p.2
def cLK (P:Params) (c:Lw) (it l:Nat) (ls:List Value) (ln i:Nat) (rest:List (Nat×Nat)) (os:List Value) (on fn:Nat) (sl:Array (Option Value)) (cc:Bool) (t:Nat->Nat) (v:Nat->Value):Ct:=
 {code:=lkC P c it,hd:=some none,zpre:=[(l+216,lo ls ln)],pre:=[(c.fr+216,fob (c.b4 P++Lw.e4 P cc t v) fn sl),(it+216,li (l+216) i),(c.os+216,lo os on)],k:=0,fo:=λ_ _=> .ret (.ok .next),
  post:=λ_ ns=>[fob (c.b4 P++Lw.e4 P (cc|| !rest.isEmpty) (λi=>ns.g (i+1)) (λi=>ns.w i)) (ns.g 5) sl,liE ((i+rest.length:Nat):Int),lo (os++ns.v.drop 4) (on+rest.length)],news:=λ_ _=>[],
  fact:=λ_ ns=>ns.z=[]/\IntsAre (ns.v.drop 4) (rest.map λp=>clkS p.1)}
theorem lk_ok (w:World) (c:Lw) (it l:Nat) (ls:List Value) (ln:Nat) (sl:Array (Option Value)):∀(rest:List (Nat×Nat)) (i:Nat) (os:List Value) (on fn:Nat) (cc:Bool) (t:Nat->Nat) (v:Nat->Value),
  ls.drop i=rest.map vN->(∀p∈rest,p.1<30240)->os.length+rest.length<=1000->(cLK w.params c it l ls ln i rest os on fn sl cc t v).Ok (ktOf w.params) prg w 720 8100:=by
 intro rest;induction rest with
 |nil=>
  intro i os on fn cc t v hi hx hz A hA hF hD hU h gens dr tok os' R S0 K;have hv:ls[(i:Int).toNat]?=none:=by
   have:=drop_eq_nil_iff.mp hi;rw [jU];exact this
  refine Ct.use (lke_ok w c it l ls ln i hv) hA (λl e=>nomatch e) hD hU (Held.start S0) [1] (by decide) (lt_all (n:=3) rfl) rfl (λp hp=>hp) λh' as ns hk hfr H hfa=>?_;have has:as=[]:=zV.mp hk;subst has;refine Ct.fin (kt:=ktOf w.params) K [] ⟨[ns.t,t 0,t 1,t 2,t 3,fn],[],[v 0,v 1,v 2,v 3],[]⟩ (Z:=[(l+216,lo ls ln)]++ns.z) ?_ rfl rfl rfl (λp hp=>nomatch hp) ⟨rfl,.nil⟩;show Held _ _ _ _ _ [(c.fr+216,fob (c.b4 w.params++Lw.e4 w.params (cc||false) _ _) fn sl),(it+216,liE ((i+0:Nat):Int)),(c.os+216,lo (os++[]) (on+0))] _;rw [Bool.or_false,jx];cases cc<;>exact H
 |cons x rest ih=>
  intro i os on fn cc t v hi hx hz A hA hF hD hU h gens dr tok os' R S0 K;obtain ⟨x,tx⟩:=x;have hv:ls[(i:Int).toNat]?=some (.int (x:Int) tx):=by
   have:=jk (λl=>l[0]?) hi;rw [getElem?_drop] at this;exact this
  have hi':ls.drop (i+1)=rest.map vN:=by rw [<-drop_drop,hi];rfl
  rw [jY] at hz;refine Ct.useP (R:=[]) (lkt_ok w c it l ls ln i x tx os on fn sl cc t v hv (hx _ (zy ..)) (by lia)) hA (λl e=>nomatch e) hD hU (by rw [jx];exact Held.start S0) (λp hp=> .inl hp) λh' as ns hk hfr hp hn H hfa=>?_;have has:as=[]:=zV.mp hk;subst has;obtain ⟨u,hu⟩:=hfa;refine Ct.useP (R:=[]) (ih (i+1) (os++[ns.w 3]) (on+1) (ns.g 5) true (λi=>ns.g (i+1)) (λi=>ns.w i) hi' (λp hp=>hx p (zv _ hp)) (by simp;lia)) hA (λl e=>nomatch e) hD hU (by rw [jx];exact H) (λp hp=> .inl hp) λh2 as ms hk hfr hp hn H2 hfb=>?_;have has:as=[]:=zV.mp hk;subst has;obtain ⟨g1,g2⟩:=hfb;refine Ct.fin (kt:=ktOf w.params) K [] ⟨[ms.t,ms.g 1,ms.g 2,ms.g 3,ms.g 4,ms.g 5],[],[ms.w 0,ms.w 1,ms.w 2,ms.w 3,ns.w 3]++ms.v.drop 4,[]⟩ (Z:=[(l+216,lo ls ln)]) ?_ rfl rfl rfl (λp hp=>nomatch hp) ⟨rfl,?_⟩
  ·show Held _ _ _ _ _ [(c.fr+216,fob (c.b4 w.params++Lw.e4 w.params (cc||true) _ _) (ms.g 5) sl),(it+216,liE ((i+(rest.length+1):Nat):Int)),(c.os+216,lo (os++(ns.w 3::ms.v.drop 4)) (on+(rest.length+1)))] _
   rw [Bool.or_true,show i+(rest.length+1)=i+1+rest.length by lia,show on+(rest.length+1)=on+1+rest.length by lia,show os++(ns.w 3::ms.v.drop 4)=(os++[ns.w 3])++ms.v.drop 4 by simp];exact H2
  ·show IntsAre (ns.w 3::ms.v.drop 4) _
   rw [hu];exact .cons _ _ g2
section
def nmE (P:Params):PySem.Expr:=valOf (stOf P 214 1)
def nmV (P:Params) (cl fr:Nat):Env:=cenv P 214 (nmE P) cl fr [] [108,97,119,46,60,108,111,99,97,108,115,62,46]
def nmD (P:Params) (c:Bool) (t:Nat) (v:Value) (n:Nat):Obj:=dob (match c with|true=>[en P [120] t v]|false=>[]) n
section
variable (P:Params) (w:World) (it l acc cl fr:Nat) (ls ac:List Value) (ln n1 n2:Nat) (i x:Int) (tx r:Nat) (cc:Bool) (t0:Nat) (v0:Value)
def nmt:Sp:={c:= .compLoop (nmE P) 0 (.ref (it+216)) (.ref (acc+216)) (nmV P (cl+216) (fr+216)),z:=[(l+216,lo ls ln)],i:=[(it+216,li (l+216) i),(acc+216,lo ac n1),(cl+216,nmD P cc t0 v0 n2)],r:=λas ns=> .goto (.compLoop (nmE P) 0 (.ref (it+216)) (.ref (acc+216)) (nmV P (cl+216) (fr+216))),u:=λas ns=>[(0,li (l+216) (i+1)),(1,lo (ac++[ns.w 0]) (n1+1)),(2,nmD P true (ns.g 1) (.int x tx) (ns.g 2))],f:=λas ns=>∃u,ns.w 0= .int (r:Int) u,ors:=[(λX=>cNext true (it+216) (l+216) ls ln i (.int x tx),[0]),(λX=>iox "int.__mod__" x 30240 tx (X.t 1+1) (r:Int),[]),(λX=>ctAppend (acc+216) ac n1 (.int (r:Int) ((X.s 2).g 1)),[1])],m:=3,tr:=[1,1,3,3,3,2],cs:=[1,0,1,0],ns:=λ_ _ N=>⟨[((N 2).t),aT cc t0 ((N 0).t),pN cc n2],[],[.int (r:Int) ((N 1).g 1)],[]⟩}
theorem nmt_ok (hv:ls[i.toNat]?=some (.int x tx)) (hr:x.fmod 30240=(r:Int)) (hz:ac.length<=1000):OK (nmt · it l acc cl fr ls ac ln n1 n2 i x tx r cc t0 v0) w 840 8700:=
 okF 3 (qY [0] (λ_=>next_ok _ w _ _ true _ _ _ _ _ hv)<|qN (λ_=>(iox_mod w 30239 _ _ hr).m)<|qN (λ_=>append_ok _ w _ _ _ _ _ _ hz)<|trivial) (λ_=>⟨_,rfl⟩) (e:=by cases cc<;>kernel_rfl)
end
def nme (P:Params) (it l acc cl fr:Nat) (ls ac:List Value) (ln n1 n2:Nat) (i:Int):Sp:={c:= .compLoop (nmE P) 0 (.ref (it+216)) (.ref (acc+216)) (nmV P (cl+216) (fr+216)),z:=[(l+216,lo ls ln)],i:=[(it+216,li (l+216) i)],r:=λas ns=> .ret (.ok .next),u:=λas ns=>[(0,liE i)],ors:=[(λX=>cNextE true (it+216) (l+216) ls ln i,[0])],s:=1,m:=1,tr:=[1,1,2],cs:=[1],ns:=λ_ _ N=>⟨[((N 0).t)],[],[],[]⟩}
theorem nme_ok (w:World) (it l acc cl fr:Nat) (ls ac:List Value) (ln n1 n2:Nat) (i:Int) (hv:ls[i.toNat]?=none):OK (nme · it l acc cl fr ls ac ln n1 n2 i) w 840 8700:=
 okF 1 (qY [0] (λ_=>nextE_ok _ w _ _ true _ _ _ _ _ hv)<|trivial)
end
def cNM (P:Params) (it l acc cl fr:Nat) (ls ac:List Value) (ln n1 n2 i:Nat) (rest:List (Int×Nat)) (cc:Bool) (t0:Nat) (v0:Value):Ct:=
 {code:= .compLoop (nmE P) 0 (.ref (it+216)) (.ref (acc+216)) (nmV P (cl+216) (fr+216)),hd:=some none,zpre:=[(l+216,lo ls ln)],pre:=[(it+216,li (l+216) i),(acc+216,lo ac n1),(cl+216,nmD P cc t0 v0 n2)],k:=0,fo:=λ_ _=> .ret (.ok .next),
  post:=λ_ ns=>[liE ((i+rest.length:Nat):Int),lo (ac++ns.v.drop 1) (n1+rest.length),nmD P (cc|| !rest.isEmpty) (ns.g 1) (ns.w 0) (ns.g 2)],news:=λ_ _=>[],
  fact:=λ_ ns=>ns.z=[]/\∃r:List (Nat×Nat),ns.v.drop 1=r.map vN/\r.map (·.1)=rest.map λp=>(p.1.fmod 30240).toNat}
theorem nm_ok (w:World) (it l acc cl fr:Nat) (ls:List Value) (ln:Nat):∀(rest:List (Int×Nat)) (i:Nat) (ac:List Value) (n1 n2:Nat) (cc:Bool) (t0:Nat) (v0:Value),
  ls.drop i=rest.map vI->ac.length+rest.length<=1000->(cNM w.params it l acc cl fr ls ac ln n1 n2 i rest cc t0 v0).Ok (ktOf w.params) prg w 840 8700:=by
 intro rest;induction rest with
 |nil=>
  intro i ac n1 n2 cc t0 v0 hi hz A hA hF hD hU h gens dr tok os' R S0 K;have hv:ls[(i:Int).toNat]?=none:=by
   have:=drop_eq_nil_iff.mp hi;rw [jU];exact this
  refine Ct.use (nme_ok w it l acc cl fr ls [] ln 0 0 i hv) hA (λl e=>nomatch e) hD hU (Held.start S0) [0] (by decide) (lt_all (n:=3) rfl) rfl (λp hp=>hp) λh' as ns hk hfr H hfa=>?_;have has:as=[]:=zV.mp hk;subst has;refine Ct.fin (kt:=ktOf w.params) K [] ⟨[ns.t,t0,n2],[],[v0],[]⟩ (Z:=[(l+216,lo ls ln)]++ns.z) ?_ rfl rfl rfl (λp hp=>nomatch hp) ⟨rfl,[],rfl,rfl⟩;show Held _ _ _ _ _ [(it+216,liE ((i+0:Nat):Int)),(acc+216,lo (ac++[]) (n1+0)),(cl+216,nmD w.params (cc||false) t0 v0 n2)] _;rw [jx,Bool.or_false];exact H
 |cons x rest ih=>
  intro i ac n1 n2 cc t0 v0 hi hz A hA hF hD hU h gens dr tok os' R S0 K;obtain ⟨x,tx⟩:=x;have hv:ls[(i:Int).toNat]?=some (.int x tx):=by
   have:=jk (λl=>l[0]?) hi;rw [getElem?_drop] at this;exact this
  have hi':ls.drop (i+1)=rest.map vI:=by rw [<-drop_drop,hi];rfl
  rw [jY] at hz;have hr:x.fmod 30240=((x.fmod 30240).toNat:Int):=by rw [Int.fmod_eq_emod_of_nonneg _ (by decide)];lia
  refine Ct.useP (R:=[]) (nmt_ok w it l acc cl fr ls ac ln n1 n2 i x tx (x.fmod 30240).toNat cc t0 v0 hv hr (by lia)) hA (λl e=>nomatch e) hD hU (by rw [jx];exact Held.start S0) (λp hp=> .inl hp) λh' as ns hk hfr hp hn H hfa=>?_;have has:as=[]:=zV.mp hk;subst has;obtain ⟨u,hu⟩:=hfa;refine Ct.useP (R:=[]) (ih (i+1) (ac++[ns.w 0]) (n1+1) (ns.g 2) true (ns.g 1) (.int x tx) hi' (by simp;lia)) hA (λl e=>nomatch e) hD hU (by rw [jx];exact H) (λp hp=> .inl hp) λh2 as ms hk hfr hp hn H2 hfb=>?_;have has:as=[]:=zV.mp hk;subst has;obtain ⟨g1,r,g2,g3⟩:=hfb;refine Ct.fin (kt:=ktOf w.params) K [] ⟨[ms.t,ms.g 1,ms.g 2],[],ms.w 0::ns.w 0::ms.v.drop 1,[]⟩ (Z:=[(l+216,lo ls ln)]) ?_ rfl rfl rfl (λp hp=>nomatch hp) ⟨rfl,((x.fmod 30240).toNat,u)::r,?_,?_⟩
  ·show Held _ _ _ _ _ [(it+216,liE ((i+(rest.length+1):Nat):Int)),(acc+216,lo (ac++(ns.w 0::ms.v.drop 1)) (n1+(rest.length+1))),(cl+216,nmD w.params (cc||true) (ms.g 1) (ms.w 0) (ms.g 2))] _
   rw [show i+(rest.length+1)=i+1+rest.length by lia,show n1+(rest.length+1)=n1+1+rest.length by lia,show ac++(ns.w 0::ms.v.drop 1)=(ac++[ns.w 0])++ms.v.drop 1 by simp,Bool.or_true];exact H2
  ·show ns.w 0::ms.v.drop 1=_
   rw [hu,g2];rfl
  ·rw [kQ,kQ,g3]
section
def oE (P:Params):PySem.Expr:=valOf (subOf 0 (stOf P 204 1))
def oV (P:Params) (cl fr bc:Nat):Env:=cenv P 204 (oE P) cl fr [(stl [98,101,97,116,115],bc)] [95,108,97,119,95,111,114,100,101,114,115,46,60,108,111,99,97,108,115,62,46]
def oD (P:Params) (tr:Nat) (vr:Value) (q:Option (Nat×Value)) (n:Nat):Obj:=dob (en P [114,111,119] tr vr::oen P [113] q) n
noncomputable def oT (r:Option (Nat×Value)) (x:Nat):Nat:=match r with|none=>x|some p=>p.1
noncomputable def oN (r:Option (Nat×Value)) (n:Nat):Nat:=match r with|none=>n+1|some _=>n
abbrev Oi:=Nat×Nat×Nat×Nat×Nat×Nat×Nat×Nat×Nat×Nat×(List Value)×(List Value)
noncomputable def Oi.it (x:Oi):Nat:=x.1
noncomputable def Oi.s (x:Oi):Nat:=x.2.1
noncomputable def Oi.r (x:Oi):Nat:=x.2.2.1
noncomputable def Oi.acc (x:Oi):Nat:=x.2.2.2.1
noncomputable def Oi.cl (x:Oi):Nat:=x.2.2.2.2.1
noncomputable def Oi.fr (x:Oi):Nat:=x.2.2.2.2.2.1
noncomputable def Oi.bc (x:Oi):Nat:=x.2.2.2.2.2.2.1
noncomputable def Oi.n1 (x:Oi):Nat:=x.2.2.2.2.2.2.2.1
noncomputable def Oi.n2 (x:Oi):Nat:=x.2.2.2.2.2.2.2.2.1
noncomputable def Oi.tr (x:Oi):Nat:=x.2.2.2.2.2.2.2.2.2.1
noncomputable def Oi.ss (x:Oi):List Value:=x.2.2.2.2.2.2.2.2.2.2.1
noncomputable def Oi.rs (x:Oi):List Value:=x.2.2.2.2.2.2.2.2.2.2.2
def Oi.C (x:Oi) (P:Params):Code:= .compLoop (oE P) 1 (.ref (x.it+216)) (.ref (x.acc+216)) (oV P (x.cl+216) (x.fr+216) (x.bc+216))
def Oi.D (x:Oi) (P:Params) (q:Option (Nat×Value)) (n:Nat):Obj:=oD P x.tr (.ref (x.r+216)) q n
def Oi.p (x:Oi) (P:Params) (ac:List Value) (n3 n4:Nat) (i:Int) (q:Option (Nat×Value)):List (Nat×Obj):=[(x.it+216,li (x.s+216) i),(x.acc+216,lo ac n3),(x.cl+216,x.D P q n4)]
def Oi.z (x:Oi):List (Nat×Obj):=[(x.s+216,lo x.ss x.n1),(x.r+216,lo x.rs x.n2)]
section
variable (P:Params) (w:World) (x:Oi) (ac:List Value) (n3 n4:Nat) (i q:Int) (tq:Nat) (d:Option (Nat×Value))
def oin:Sp:={c:=x.C P,z:=x.z,i:=x.p P ac n3 n4 i d,r:=λ_ _=> .goto (x.C P),u:=λ_ ns=>[(0,li (x.s+216) (i+1)),(2,x.D P (some (ns.g 1,.int q tq)) (ns.g 2))],ors:=[(λX=>cNext true (x.it+216) (x.s+216) x.ss x.n1 i (.int q tq),[0]),(λX=>cContains true (x.r+216) x.rs x.n2 q tq true,[])],m:=2,tr:=[1,1,3,3,3,3,1002,1002,1002],cs:=[1,1,0],ns:=λ_ _ N=>⟨[(N 1).t,oT d (N 0).t,oN d n4],[],[],[]⟩}
def ono:Sp:={c:=x.C P,z:=x.z,i:=x.p P ac n3 n4 i d,r:=λ_ _=> .goto (x.C P),u:=λas ns=>[(0,li (x.s+216) (i+1)),(1,lo (ac++[.ref (as.getD 0 0)]) (n3+1)),(2,x.D P (some (ns.g 1,.int q tq)) (ns.g 2))],a:=λ_ _=>[lo (x.rs++[.int q tq]) 0],ors:=[(λX=>cNext true (x.it+216) (x.s+216) x.ss x.n1 i (.int q tq),[0]),(λX=>cContains true (x.r+216) x.rs x.n2 q tq false,[]),(λX=>cAdd true (x.r+216) (X.a 3) x.rs [.int q tq] x.n2 0,[3]),(λX=>ctAppend (x.acc+216) ac n3 (.ref (X.a 4)),[1])],s:=2,m:=4,x:=[4],tr:=[1,1,3,3,3,3,1002,1002,1002,3,3,1002,4,1002,1002,2],cs:=[1,1,1,1,0],as:=[1],ns:=λ_ _ N=>⟨[(N 3).t,oT d (N 0).t,oN d n4],[],[],[]⟩}
def oend:Sp:={c:=x.C P,z:=x.z,i:=x.p P ac n3 n4 i d,r:=λ_ _=> .ret (.ok .next),u:=λ_ _=>[(0,liE i)],ors:=[(λX=>cNextE true (x.it+216) (x.s+216) x.ss x.n1 i,[0])],s:=1,m:=1,tr:=[1,1,4],cs:=[1],ns:=λ_ _ N=>⟨[(N 0).t],[],[],[]⟩}
theorem oin_ok {rI:List Int} (hv:x.ss[i.toNat]?=some (.int q tq)) (hI:IntsAre x.rs rI) (hr:rI.contains q=true):OK (oin · x ac n3 n4 i q tq d) w 840 8700:=
 okF 2 (qY [0] (λ_=>next_ok _ w _ _ true _ _ _ _ _ hv)<|qY [1] (λ_=>contains_ok _ w _ _ true _ _ _ _ hI hr)<|trivial) (e:=by cases d<;>kernel_rfl)
theorem ono_ok {rI:List Int} (hv:x.ss[i.toNat]?=some (.int q tq)) (hI:IntsAre x.rs rI) (hr:rI.contains q=false) (hz:x.rs.length+1<=1000) (hz2:ac.length<=1000):OK (ono · x ac n3 n4 i q tq d) w 840 8700:=
 okF 4 (qY [0] (λ_=>next_ok _ w _ _ true _ _ _ _ _ hv)<|qY [1] (λ_=>contains_ok _ w _ _ true _ _ _ _ hI hr)<|qY [1] (λ_=>add_ok _ w _ _ true _ _ _ _ _ _ hz)<|qN (λ_=>append_ok _ w _ _ _ _ _ _ hz2)<|trivial) (e:=by cases d<;>kernel_rfl)
theorem oend_ok (hv:x.ss[i.toNat]?=none):OK (oend · x ac n3 n4 i d) w 840 8700:=
 okF 1 (qY [0] (λ_=>nextE_ok _ w _ _ true _ _ _ _ _ hv)<|trivial) (e:=by cases d<;>kernel_rfl)
end
end
inductive RowsAre:List (Nat×Obj)->List (List Int)->Prop
 |nil:RowsAre [] []
 |cons {p:Nat×Obj} {z:List (Nat×Obj)} {row:List Int} {rows:List (List Int)} (xs:List Value) (n:Nat):216<=p.1->p.2=lo xs n->IntsAre xs row->RowsAre z rows->RowsAre (p::z) (row::rows)
noncomputable def refsOf (z:List (Nat×Obj)):List Value:=z.map λp=> .ref p.1
def cInner (P:Params) (x:Oi) (ac:List Value) (n3 n4:Nat) (i:Int) (q:Option (Nat×Value)) (out:List (List Int)) (qs:Bool):Ct:=
 {code:=x.C P,hd:=some none,zpre:=x.z,pre:=x.p P ac n3 n4 i q,k:=0,fo:=λ_ _=> .ret (.ok .next),post:=λ_ ns=>[ns.p 0,lo (ac++refsOf ns.z) (ns.g 1),ns.p 1],news:=λ_ _=>[],fact:=λ_ ns=>RowsAre ns.z out/\∃q' n',ns.p 1=x.D P q' n'/\(qs=true->q'.isSome=true)}
noncomputable def nextRows (rI sI:List Int):List (List Int):=(sI.filter λq=> !rI.contains q).map λq=>rI++[q]
theorem nextRows_cons (rI sI:List Int) (q:Int):nextRows rI (q::sI)=cond (rI.contains q) (nextRows rI sI) ((rI++[q])::nextRows rI sI):=by
 unfold nextRows;rw [filter_cons];cases rI.contains q<;>rfl
theorem len1 {as:List Nat} (h:as.length=1):∃a,as=[a]:=by
 match as,h with
 |[a],_=>exact ⟨a,rfl⟩
theorem inner_ok (w:World) (x:Oi) {rI sI:List Int} (hS:IntsAre x.ss sI) (hR:IntsAre x.rs rI) (hz:x.rs.length+1<=1000):∀(m j:Nat) (ac:List Value) (n3 n4:Nat) (d:Option (Nat×Value)) (qs:Bool),x.ss.length-j=m->ac.length+m<=1000->(qs=true->sI.drop j≠[]\/d.isSome=true)->(cInner w.params x ac n3 n4 j d (nextRows rI (sI.drop j)) qs).Ok (ktOf w.params) prg w 840 8700
 |0,j,ac,n3,n4,d,qs,hm,hac,hq=>by
  have hj:=Nat.le_of_sub_eq_zero hm;have hd:=drop_none (jU.mpr (hS.length▸hj));rw [hd] at hq⊢;exact Ct.Ok.pad (oend_ok w x ac n3 n4 j d (jU.mpr hj)) [0,1,2] (by decide) (lt_all (n:=3) rfl) rfl rfl rfl rfl (λ_ h=>h) rfl λas ns _ _=>⟨⟨[ns.t,n3],[liE j,x.D w.params d n4],[],[]⟩,jk (λl=>[liE j,lo l n3,x.D w.params d n4]) (jx _),rfl,rfl,⟨.nil,d,n4,rfl,λe=>(hq e).elim (absurd rfl) id⟩,rfl,rfl⟩
 |m+1,j,ac,n3,n4,d,qs,hm,hac,hq=>by
  obtain ⟨v,hv⟩:=at_of (l:=x.ss) (k:=j) (by lia);obtain ⟨q,tq,rfl,hq'⟩:=hS.at j v hv;rw [drop_at hq',nextRows_cons];cases hr:rI.contains q with
  |true=>
   exact Ct.Ok.seqZ (oin_ok w x ac n3 n4 j q tq d hv hR hr) [0,1,2] (by decide) (lt_all (n:=3) rfl) rfl rfl rfl rfl (λ_ h=>h) λas ns hk _ _=>by
    obtain rfl:=zV.mp hk;exact ⟨_,_,id,rfl,inner_ok w x hS hR hz m (j+1) ac n3 (ns.g 2) (some (ns.g 1,.int q tq)) qs (by lia) (by lia) λ_=> .inr rfl,rfl,rfl,rfl,rfl,λ_ h=> .inl h,rfl,λas n2 _ h=>⟨rfl,rfl,rfl,h,λ_ h=> .inl h,rfl⟩⟩
  |false=>
   exact Ct.Ok.seqZ (ono_ok w x ac n3 n4 j q tq d hv hR hr hz (by lia)) [0,1,2] (by decide) (lt_all (n:=3) rfl) rfl rfl rfl rfl (λ_ h=>h) λas ns hk hg _=>by
    obtain ⟨a,rfl⟩:=len1 hk;exact ⟨_,_,λn2=>{n2 with z:=(a,lo (x.rs++[.int q tq]) 0)::n2.z},rfl,inner_ok w x hS hR hz m (j+1) (ac++[.ref a]) (n3+1) (ns.g 2) (some (ns.g 1,.int q tq)) qs (by lia) (by rw [jZ];simp;lia) λ_=> .inr rfl,rfl,rfl,rfl,rfl,λ_ h=> .inl h,rfl,λas n2 _ h=>⟨by exact jk (λl=>[n2.p 0,lo l (n2.g 1),n2.p 1]) (jV ac [.ref a] (refsOf n2.z)).symm,rfl,rfl,⟨.cons _ _ (hg a (zy ..)) rfl (hR.append (.cons q tq .nil)) h.1,h.2⟩,λp hp=>(vz.mp hp).elim (λe=> .inr (e▸zy ..)) .inl,rfl⟩⟩
section
def oDD (P:Params) (ro qo:Option (Nat×Value)) (n:Nat):Obj:=dob (oen P [114,111,119] ro++oen P [113] qo) n
noncomputable def cellO (v:Value):Obj:={cls:= .type "cell",data:= .cell (some v)}
abbrev Od:=Option ((Nat×Value)×Option (Nat×Value))
def oDX (P:Params) (d:Od) (n:Nat):Obj:=match d with
 |none=>oDD P none none n
 |some (r,q)=>oDD P (some r) q n
theorem RowsAre.length {z:List (Nat×Obj)} {rows:List (List Int)} (h:RowsAre z rows):z.length=rows.length:=by
 induction h with
 |nil=>rfl
 |cons _ _ _ _ _ _ ih=>rw [jY,jY,ih]
theorem RowsAre.at {z:List (Nat×Obj)} {rows:List (List Int)} (h:RowsAre z rows):∀{j:Nat} {p:Nat×Obj},z[j]?=some p->∃xs n row,216<=p.1/\p.2=lo xs n/\IntsAre xs row/\rows[j]?=some row:=by
 induction h with
 |nil=>intro j p h;cases h
 |cons xs n h1 h2 h3 _ ih=>
  intro j p hp;cases j with
  |zero=>cases hp;exact ⟨xs,n,_,h1,h2,h3,rfl⟩
  |succ j=>exact ih hp
theorem RowsAre.append {z z':List (Nat×Obj)} {rows rows':List (List Int)} (h:RowsAre z rows) (h':RowsAre z' rows'):RowsAre (z++z') (rows++rows'):=by
 induction h with
 |nil=>exact h'
 |cons xs n h1 h2 h3 _ ih=>exact .cons xs n h1 h2 h3 ih
theorem RowsAre.find:∀{z:List (Nat×Obj)} {rows:List (List Int)},RowsAre z rows->∀{j:Nat} {row:List Int},rows[j]?=some row->∃p,z[j]?=some p:=λh j row hr=>at_of (by rw [h.length];exact at_lt hr)
theorem refsOf_at {z:List (Nat×Obj)} {j:Nat} {p:Nat×Obj} (h:z[j]?=some p):(refsOf z)[j]?=some (.ref p.1):=by unfold refsOf;rw [vU,h];rfl
theorem refsOf_append (z z':List (Nat×Obj)):refsOf (z++z')=refsOf z++refsOf z':=by unfold refsOf;rw [zU]
def outRow (B:List (List Int)) (row:List Int):List (List Int):=nextRows row (B.getD ((row.getD (row.length-1) 0).toNat) [])
def outRows (B rows:List (List Int)):List (List Int):=rows.flatMap (outRow B)
abbrev Ox:=Nat×Nat×Nat×Nat×Nat×Nat×Nat×Nat×Nat×(List (Nat×Obj))×(List (Nat×Obj))
noncomputable def Ox.it (x:Ox):Nat:=x.1
noncomputable def Ox.rl (x:Ox):Nat:=x.2.1
noncomputable def Ox.bt (x:Ox):Nat:=x.2.2.1
noncomputable def Ox.acc (x:Ox):Nat:=x.2.2.2.1
noncomputable def Ox.cl (x:Ox):Nat:=x.2.2.2.2.1
noncomputable def Ox.fr (x:Ox):Nat:=x.2.2.2.2.2.1
noncomputable def Ox.bc (x:Ox):Nat:=x.2.2.2.2.2.2.1
noncomputable def Ox.nr (x:Ox):Nat:=x.2.2.2.2.2.2.2.1
noncomputable def Ox.nb (x:Ox):Nat:=x.2.2.2.2.2.2.2.2.1
noncomputable def Ox.zr (x:Ox):List (Nat×Obj):=x.2.2.2.2.2.2.2.2.2.1
noncomputable def Ox.bz (x:Ox):List (Nat×Obj):=x.2.2.2.2.2.2.2.2.2.2
namespace Ox
def C (x:Ox) (P:Params):Code:= .compLoop (oE P) 0 (.ref (x.it+216)) (.ref (x.acc+216)) (oV P (x.cl+216) (x.fr+216) (x.bc+216))
noncomputable def p (x:Ox) (P:Params) (ac:List Value) (n3 n4:Nat) (i:Int) (d:Od):List (Nat×Obj):=[(x.it+216,li (x.rl+216) i),(x.acc+216,lo ac n3),(x.cl+216,oDX P d n4),(x.rl+216,lo (refsOf x.zr) x.nr),(x.bc+216,cellO (.ref (x.bt+216)))]
noncomputable def b (x:Ox):Nat×Obj:=(x.bt+216,lo (refsOf x.bz) x.nb)
section
variable (P:Params) (w:World) (x:Ox) (ac rs ss:List Value) (r s n1 n2 n3 n4:Nat) (i m:Int) (tm:Nat) (rI sI:List Int) (d:Od) (qs:Bool)
noncomputable def tu:Sp:={c:=x.C P,z:=[x.b,(r+216,lo rs n2),(s+216,lo ss n1)],i:=x.p P ac n3 n4 i d,r:=λ_ _=> .goto (x.C P),u:=λ_ ns=>[(0,li (x.rl+216) (i+1)),(1,lo (ac++refsOf ns.z) (ns.g 1)),(2,ns.p 0)],f:=λ_ ns=>RowsAre ns.z (nextRows rI sI)/\∃t' q' n',ns.p 0=oD P t' (.ref (r+216)) q' n'/\(qs=true->q'.isSome=true),ors:=[(λX=>cNext false (x.it+216) (x.rl+216) (refsOf x.zr) x.nr i (.ref (r+216)),[0,3]),(λX=>cItem true (r+216) rs n2 (-1) (X.t 1+2) (.int m tm),[]),(λX=>cItem true (x.bt+216) (refsOf x.bz) x.nb m tm (.ref (s+216)),[]),(λX=>cInner P ⟨X.b 5,s,r,x.acc,x.cl,x.fr,x.bc,n1,n2,oT (d.map (·.1)) (X.t 1),ss,rs⟩ ac n3 (oN (d.map (·.1)) n4) 0 (d.bind (·.2)) (nextRows rI sI) qs,[5,1,2])],s:=1,m:=4,tr:=[1,1,3,3,5,3,1002,1002,1002,1002,1001,1001,1001,1001,1003,1003,1003,6,6],cs:=[1,3,1,3,0],ns:=λ_ _ N=>⟨[(N 3).t,(N 3).g 1],[(N 3).p 1],[],(N 3).z⟩}
def te:Sp:={c:=x.C P,z:=[x.b],i:=x.p P ac n3 n4 i d,r:=λ_ _=> .ret (.ok .next),u:=λ_ _=>[(0,liE i)],ors:=[(λX=>cNextE false (x.it+216) (x.rl+216) (refsOf x.zr) x.nr i,[0,3])],s:=1,m:=1,tr:=[1,1,6],cs:=[1],ns:=λ_ _ N=>⟨[(N 0).t],[],[],[]⟩}
theorem te_ok (hv:(refsOf x.zr)[i.toNat]?=none):OK (te · x ac n3 n4 i d) w 840 8700:=
 okF 1 (qN (λ_=>nextE_ok _ w _ _ false _ _ _ _ _ hv)<|trivial) (e:=by rcases d with _|⟨_,_|_⟩<;>kernel_rfl)
theorem tu_ok (hv:(refsOf x.zr)[i.toNat]?=some (.ref (r+216))) (hl:rs[rs.length-1]?=some (.int m tm)) (hm0:0<=m) (hm1:m<2^63) (hm:(refsOf x.bz)[m.toNat]?=some (.ref (s+216))) (hS:IntsAre ss sI) (hR:IntsAre rs rI) (hz:rs.length+1<=1000) (hac:ac.length+ss.length<=1000) (hqs:qs=true->sI≠[]\/(d.bind (·.2)).isSome=true):OK (tu · x ac rs ss r s n1 n2 n3 n4 i m tm rI sI d qs) w 780 8400:=
 okZ 4 (qN (λ_=>next_ok _ w _ _ false _ _ _ _ _ hv)<|qY [1] (λ_=>last_ok _ w _ _ true _ _ _ _ hl)<|qY [0] (λ_=>item_ok _ w _ _ true _ _ _ _ _ hm0 hm1 hm)<|qY [2,1] (λ_=>inner_ok w _ (by exact hS) (by exact hR) (by exact hz) ss.length 0 ac n3 _ _ qs rfl (by exact hac) (by exact hqs))<|trivial) (λh=>fq h 3 λf=>⟨f.1,_,f.2⟩) (hz_of 3) (by rcases d with _|⟨_,_|_⟩<;>kernel_rfl)
end
end Ox
end
noncomputable def fullD:Od->Bool
 |some (_,some _)=>true
 |_=>false
theorem fullD_of:∀{d:Od},fullD d=true->∃r q,d=some (r,some q)
 |some (r,some q),_=>⟨r,q,rfl⟩
 |some (_,none),h=>nomatch h
 |none,h=>nomatch h
noncomputable def nextOf (B:List (List Int)) (row:List Int):List Int:=B.getD ((row.getD (row.length-1) 0).toNat) []
theorem fullD_eq (d:Od):fullD d=(d.bind (·.2)).isSome:=by rcases d with _|⟨_,_|_⟩<;>rfl
def cOuter (P:Params) (x:Ox) (ac:List Value) (n3 n4:Nat) (i:Int) (d:Od) (out:List (List Int)) (qf:Bool):Ct:=
 {code:=x.C P,hd:=some none,zpre:=x.b::(x.bz++x.zr),pre:=x.p P ac n3 n4 i d,k:=0,fo:=λ_ _=> .ret (.ok .next),post:=λ_ ns=>[ns.p 0,lo (ac++refsOf ns.z) (ns.g 1),ns.p 1,lo (refsOf x.zr) x.nr,cellO (.ref (x.bt+216))],news:=λ_ _=>[],fact:=λ_ ns=>RowsAre ns.z out/\∃d' n',ns.p 1=oDX P d' n'/\(qf=true->fullD d'=true)}
theorem outer_ok (w:World) (x:Ox) {B rows:List (List Int)} (hB:RowsAre x.bz B) (hR:RowsAre x.zr rows) (hlen:∀row∈rows,row.length<=10) (hb5:∀s∈B,s.length<=5) (hne:∀row∈rows,∃m:Nat,row[row.length-1]?=some (m:Int)/\m<B.length) (hbl:B.length<=5):∀(k j:Nat) (ac:List Value) (n3 n4:Nat) (d:Od) (qf:Bool),rows.length-j=k->ac.length+5*k<=900->(qf=true->fullD d=true\/∃row∈rows.drop j,nextOf B row≠[])->(cOuter w.params x ac n3 n4 j d (outRows B (rows.drop j)) qf).Ok (ktOf w.params) prg w 780 8400
 |0,j,ac,n3,n4,d,qf,hm,hac,hq=>by
  have hj:=Nat.le_of_sub_eq_zero hm;have hv:(refsOf x.zr)[((j:Nat):Int).toNat]?=none:=jU.mpr (by unfold refsOf;rw [zJ,hR.length];exact hj);rw [drop_none (jU.mpr hj)] at hq⊢;exact Ct.Ok.pad (x.te_ok w ac n3 n4 j d hv).m [0,1,2,3,4] (by decide) (lt_all (n:=5) rfl) rfl rfl rfl rfl (λp h=>jJ.mp h▸zy ..) rfl λas ns _ _=>⟨⟨[ns.t,n3],[liE j,oDX w.params d n4],[],[]⟩,jk (λl=>[liE j,lo l n3,oDX w.params d n4,lo (refsOf x.zr) x.nr,cellO (.ref (x.bt+216))]) (jx _),rfl,rfl,⟨.nil,d,n4,rfl,λe=>(hq e).elim id λ⟨_,h,_⟩=>by cases h⟩,rfl,rfl⟩
 |k+1,j,ac,n3,n4,d,qf,hm,hac,hq=>by
  obtain ⟨row,hrow⟩:=at_of (l:=rows) (k:=j) (by lia);obtain ⟨p,hp⟩:=hR.find hrow;obtain ⟨rs,n2,row',hge,ho,hI,hrow'⟩:=hR.at hp;rw [hrow] at hrow';cases hrow';have hmem:=jy hrow;obtain ⟨m,hlast,hmB⟩:=hne row hmem;obtain ⟨sI,hs⟩:=at_of hmB;obtain ⟨q,hq'⟩:=hB.find hs;obtain ⟨ss,n1,sI',hge2,ho2,hI2,hs'⟩:=hB.at hq';rw [hs] at hs';cases hs';obtain ⟨r,hr⟩:∃r,p.1=r+216:=⟨p.1-216,by lia⟩
  obtain ⟨s,hsq⟩:∃s,q.1=s+216:=⟨q.1-216,by lia⟩
  have hpm:(r+216,lo rs n2)∈x.zr:=by rw [<-hr,<-ho];exact jy hp
  have hqm:(s+216,lo ss n1)∈x.bz:=by rw [<-hsq,<-ho2];exact jy hq'
  have hv:=refsOf_at hp;rw [hr] at hv;have hb:=refsOf_at hq';rw [hsq] at hb;have hrl:=hI.length;obtain ⟨tm,htm⟩:=hI.get (row.length-1) m hlast;rw [<-hrl] at htm;have hss:=hI2.length;have hs5:=hb5 sI (jy hs);have hr10:=hlen row hmem;have hno:nextOf B row=sI:=by
   unfold nextOf;rw [show row.getD (row.length-1) 0=(m:Int) by rw [zY,hlast];rfl,Int.toNat_natCast,zY,hs];rfl
  have ho':outRows B (row::rows.drop (j+1))=nextRows row sI++outRows B (rows.drop (j+1)):=by
   unfold outRows;rw [flatMap_cons,show outRow B row=nextRows row sI from hno▸rfl]
  rw [drop_at hrow] at hq;rw [drop_at hrow,ho'];refine Ct.Ok.seqZ (x.tu_ok w ac rs ss r s n1 n2 n3 n4 j m tm row sI d (!sI.isEmpty||fullD d) hv htm (kJ _) (by lia) hb hI2 hI (by lia) (by lia) (λe=>((Bool.or_eq_true _ _).mp e).imp (λh=>by simpa using h) λh=>fullD_eq d▸h)) [0,1,2,3,4] (by decide) (lt_all (n:=5) rfl) rfl rfl rfl rfl (λy hy=>?_) λas ns hk _ hf=>?_
  ·rcases vz.mp hy with rfl|hy
   ·exact zy ..
   ·rcases vz.mp hy with rfl|hy
    ·exact zv _ (jz _ hpm)
    ·rw [jJ.mp hy];exact zv _ (jj _ hqm)
  ·obtain rfl:=zV.mp hk
   obtain ⟨f1,t',q',n',f2,f3⟩:=hf;have e1:oD w.params t' (.ref (r+216)) q' n'=oDX w.params (some ((t',.ref (r+216)),q')) n':=by cases q'<;>rfl
   have e2:(!sI.isEmpty||fullD d)=true->fullD (some ((t',Value.ref (r+216)),q'))=true:=λe=>by
    rw [fullD_eq];exact f3 e
   have hq2:qf=true->fullD (some ((t',Value.ref (r+216)),q'))=true\/∃row∈rows.drop (j+1),nextOf B row≠[]:=λe=>by
    rcases hq e with h|⟨row₁,h1,h2⟩
    ·exact .inl (e2 (by rw [h,Bool.or_true]))
    ·rcases vz.mp h1 with rfl|h1
     ·rw [hno] at h2
      exact .inl (e2 (by cases sI with|nil=>exact absurd rfl h2|cons=>rfl))
     ·exact .inr ⟨row₁,h1,h2⟩
   have hnl:ns.z.length<=5:=by
    rw [f1.length];unfold nextRows;rw [zJ];exact zZ (length_filter_le ..) hs5
   exact ⟨_,_,λn2=>{n2 with z:=ns.z++n2.z},rfl,outer_ok w x hB hR hlen hb5 hne hbl k (j+1) (ac++refsOf ns.z) (ns.g 1) n' (some ((t',.ref (r+216)),q')) qf (by lia) (by rw [jZ];simp [refsOf];lia) hq2,rfl,rfl,rfl,by show _=[_,_,(_,ns.p 0),_,_];rw [f2,e1];rfl,λ_ h=> .inl h,rfl,λas n2 _ h=>⟨by exact jk (λl=>[n2.p 0,lo l (n2.g 1),n2.p 1,lo (refsOf x.zr) x.nr,cellO (.ref (x.bt+216))]) ((jk (ac++·) (refsOf_append ..)).trans (jV ..).symm),rfl,rfl,⟨f1.append h.1,h.2⟩,λp hp=>(jq.mp hp).elim .inr .inl,rfl⟩⟩
section
noncomputable def ri (v left:Int):Obj:={cls:= .type "range_iterator",data:= .fields ⟨[.int v 0,.int left 0,.int 1 0]⟩}
def oE0 (P:Params):PySem.Expr:=valOf (stOf P 204 0)
def oV0 (P:Params) (cl fr:Nat):Env:=cenv P 204 (oE0 P) cl fr [] [95,108,97,119,95,111,114,100,101,114,115,46,60,108,111,99,97,108,115,62,46]
section
variable (P:Params) (w:World) (it acc cl fr:Nat)
def oini:Sp:={c:= .compLoop (oE0 P) 0 (.ref (it+216)) (.ref (acc+216)) (oV0 P (cl+216) (fr+216)),i:=[(it+216,ri 0 5),(acc+216,lo [] 0),(cl+216,dob [] 0)],r:=λas ns=> .ret (.ok .next),u:=λas ns=>[(0,ri 5 0),(1,lo [.ref (as.getD 0 0),.ref (as.getD 1 0),.ref (as.getD 2 0),.ref (as.getD 3 0),.ref (as.getD 4 0)] 5),(2,dob [en P [112] (ns.g 6) (.int 4 (ns.g 5))] 1)],a:=λas ns=>[lo [.int 0 (ns.g 1)] 0,lo [.int 1 (ns.g 2)] 0,lo [.int 2 (ns.g 3)] 0,lo [.int 3 (ns.g 4)] 0,lo [.int 4 (ns.g 5)] 0],s:=7,x:=[3,4,5,6,7],tr:=[1,1,1,1,1,1,1,1,1,3,3,3,2,2,2,2,1,1,1,1,1,1,1,1,1,3,3,3,2,2,2,2,1,1,1,1,1,1,1,1,1,3,3,3,2,2,2,2,1,1,1,1,1,1,1,1,1,3,3,3,2,2,2,2,1,1,1,1,1,1,1,1,1,3,3,3,2,2,2,2,1,1,1,1,1,10],as:=[0,1,2,3,4],ns:=λtok _ _=>⟨[(tok+1+1+1+1+1+1+1+1+1+1),tok,tok+2,tok+4,tok+6,tok+8,tok+1],[],[],[]⟩}
theorem oini_ok:OK (oini · it acc cl fr) w 840 8700:=
 okF 0 (trivial)
end
noncomputable def rows0:List (List Int):=[[0],[1],[2],[3],[4]]
def cInit (P:Params) (it acc cl fr:Nat):Ct:={code:= .compLoop (oE0 P) 0 (.ref (it+216)) (.ref (acc+216)) (oV0 P (cl+216) (fr+216)),hd:=some none,pre:=[(it+216,ri 0 5),(acc+216,lo [] 0),(cl+216,dob [] 0)],k:=0,fo:=λ_ _=> .ret (.ok .next),post:=λ_ ns=>[ri 5 0,lo (refsOf ns.z) 5,dob [en P [112] (ns.g 1) (.int 4 (ns.g 2))] 1],news:=λ_ _=>[],fact:=λ_ ns=>RowsAre ns.z rows0}
theorem cInit_ok (w:World) (it acc cl fr:Nat):(cInit w.params it acc cl fr).Ok (ktOf w.params) prg w 840 8700:=
 Ct.Ok.padZ (oini_ok w it acc cl fr) [0,1,2] (by decide) (lt_all (n:=3) rfl) rfl rfl rfl rfl (λ_ x=>x) rfl λas ns hk hg _=>by
  obtain ⟨a0,a1,a2,a3,a4,rfl⟩:=ln5 hk;exact ⟨⟨[ns.t,ns.g 6,ns.g 5],[],[],[(a0,lo [.int 0 (ns.g 1)] 0),(a1,lo [.int 1 (ns.g 2)] 0),(a2,lo [.int 2 (ns.g 3)] 0),(a3,lo [.int 3 (ns.g 4)] 0),(a4,lo [.int 4 (ns.g 5)] 0)]⟩,rfl,rfl,rfl,.cons _ _ (hg _ (by simp)) rfl (.cons _ _ .nil) (.cons _ _ (hg _ (by simp)) rfl (.cons _ _ .nil) (.cons _ _ (hg _ (by simp)) rfl (.cons _ _ .nil) (.cons _ _ (hg _ (by simp)) rfl (.cons _ _ .nil) (.cons _ _ (hg _ (by simp)) rfl (.cons _ _ .nil) .nil)))),λp hp=> .inl hp,rfl⟩
def chkRows (B rows:List (List Int)):Bool:=Nat.ble rows.length 100&&rows.all (λrow=>Nat.ble row.length 10&&match row[row.length-1]? with|some (.ofNat m)=>Nat.blt m B.length|_=>false)&&rows.any (λrow=> !(nextOf B row).isEmpty)
def cOuterF (P:Params) (x:Ox) (out:List (List Int)):Ct:=
 {code:=x.C P,hd:=some none,zpre:=x.b::(x.bz++x.zr),pre:=x.p P [] 0 0 0 none,k:=0,fo:=λ_ _=> .ret (.ok .next),post:=λ_ ns=>[ns.p 0,lo (refsOf ns.z) (ns.g 1),oDD P (some (ns.g 2,ns.w 0)) (some (ns.g 3,ns.w 1)) (ns.g 4),lo (refsOf x.zr) x.nr,cellO (.ref (x.bt+216))],news:=λ_ _=>[],fact:=λ_ ns=>RowsAre ns.z out}
theorem outerF_ok (w:World) (x:Ox) {B rows:List (List Int)} (hB:RowsAre x.bz B) (hR:RowsAre x.zr rows) (hb5:∀s∈B,s.length<=5) (hbl:B.length<=5) (hc:chkRows B rows=true):(cOuterF w.params x (outRows B rows)).Ok (ktOf w.params) prg w 780 8400:=by
 unfold chkRows at hc;rw [kj,kj] at hc;obtain ⟨⟨c1,c2⟩,c3⟩:=hc;have c1:=zx c1;have c2:=λrow hr=>(kj _ _).mp (vy.mp c2 row hr);obtain ⟨row0,hr0,hn0⟩:=any_eq_true.mp c3;have ok:=outer_ok w x hB hR (λrow hr=>zx (c2 row hr).1) hb5 (λrow hr=>by
   have h2:=(c2 row hr).2;split at h2
   ·rename_i m hm
    exact ⟨m,hm,zx h2⟩
   ·cases h2) hbl rows.length 0 [] 0 0 none true rfl (by simp;lia) (λ_=> .inr ⟨row0,hr0,by simpa using hn0⟩)
 refine Ct.Ok.padZ ok [0,1,2,3,4] (by decide) (lt_all (n:=5) rfl) rfl rfl rfl rfl (λ_ h=>h) rfl λas ns hk _ hf=>?_;obtain rfl:=zV.mp hk;obtain ⟨f1,d',n',f2,f3⟩:=hf;obtain ⟨r,q,rfl⟩:=fullD_of (f3 rfl);exact ⟨⟨[ns.t,ns.g 1,r.1,q.1,n'],[ns.p 0],[r.2,q.2],ns.z⟩,jk (λo=>[ns.p 0,lo (refsOf ns.z) (ns.g 1),o,lo (refsOf x.zr) x.nr,cellO (.ref (x.bt+216))]) f2.symm,rfl,rfl,f1,λ_ h=> .inr h,rfl⟩
end
section
def itRows (B:List (List Int)) (k:Nat):List (List Int):=match k with|0=>rows0|k+1=>outRows B (itRows B k)
section
variable (P:Params) (w:World) (bt nb:Nat) (bz:List (Nat×Obj)) (B:List (List Int))
def foO (i a c d k:Nat):Oc:=(λX=>cOuterF P ⟨X.b i,X.b a,bt,X.b c,X.b d,X.b 0,X.b 1,(match k with|0=>5|k=>(X.s (k+1)).g 1),nb,(X.s (k+1)).z,bz⟩ (outRows B (itRows B k)),[i,c,d,a,1])
def ford:Sp:={c:= .call (.ref 204) ⟨[.ref (bt+216)],[]⟩,z:=(bt+216,lo (refsOf bz) nb)::bz,i:=[],r:=λas _=> .ret (.ok (.ret (.ref (as.getD 0 0)))),a:=λ_ ns=>[lo (refsOf ns.z) (ns.g 1)],f:=λ_ ns=>RowsAre ns.z (itRows B 4),ors:=[(λX=>cInit P (X.b 3) (X.b 4) (X.b 5) (X.b 0),[3,4,5]),foO P bt nb bz B 8 4 9 10 0,foO P bt nb bz B 11 9 12 13 1,foO P bt nb bz B 14 12 15 16 2,foO P bt nb bz B 17 15 18 19 3],s:=22,m:=5,x:=[18],tr:=[0,2,2,0,0,3,3,3,3,3,3,3,3,3,3,4,4,1,1,6,6,6,0,0,7,7,7,7,7,7,7,7,7,7,8,8,8,8,8,8,8,8,8,8,1,1,1,5,5,5,9,9,1,1,11,11,11,11,11,11,8,8,8,8,8,8,8,8,8,1,1,1,10,10,10,12,12,1,1,14,14,14,14,14,14,8,8,8,8,8,8,8,8,8,1,1,1,13,13,13,15,15,1,1,17,17,17,17,17,17,8,8,8,8,8,8,8,8,8,1,1,1,16,16,16,18,18,1,1,20,20,20,20,20,20,8,8,8,8,8,22,1],cs:=[10,14,6,6,6],as:=[18],ns:=λ_ _ N=>⟨[(N 4).t+1,(N 4).g 1],[],[],(N 4).z⟩}
theorem foO_ok {k:Nat} {r:Sp} {i a c d tok:Nat} {X:Cx} (hB:RowsAre bz B) (hb5:∀s∈B,s.length<=5) (hbl:B.length<=5) (hc:chkRows B (itRows B k)=true) (hF:r.H (k+1) tok X) (f:RowsAre (X.s (k+1)).z (itRows B k)) (hl:(r.ors.take (k+1)).length=k+1) (hz:r.z=(bt+216,lo (refsOf bz) nb)::bz):(∀q∈((foO w.params bt nb bz B i a c d k).1 X).zpre,q∈zs X.pns)/\((foO w.params bt nb bz B i a c d k).1 X).Ok (ktOf w.params) prg w 780 8400:=
 ⟨λq hq=>(jq.mp (show q∈((bt+216,lo (refsOf bz) nb)::bz)++(X.s (k+1)).z from hq)).elim (λh=>zs_at _ hF q (hz▸h)) (nsAt_z (i:=k+1) (l:=X.pns) (by have e:X.pns.length=1+(r.ors.take (k+1)).length:=FOf_len (tok:=tok) (Z:=r.z) (λ_ h=>F0_len h) hF;lia) q),outerF_ok w _ hB f hb5 hbl hc⟩
theorem ford_ok (hB:RowsAre bz B) (hb5:∀s∈B,s.length<=5) (hbl:B.length<=5) (hc:∀k,k<4->chkRows B (itRows B k)=true):OK (ford · bt nb bz B) w 720 8100:=
 okZ 5 (qN (λ_=>(cInit_ok w _ _ _ _).m) ⟨λtok X hF=>foO_ok w bt nb bz B (k:=0) hB hb5 hbl (hc 0 (by decide)) hF (fq hF 0 λf=>f) rfl rfl,⟨λtok X hF=>foO_ok w bt nb bz B (k:=1) hB hb5 hbl (hc 1 (by decide)) hF (fq hF 1 λf=>f) rfl rfl,⟨λtok X hF=>foO_ok w bt nb bz B (k:=2) hB hb5 hbl (hc 2 (by decide)) hF (fq hF 2 λf=>f) rfl rfl,⟨λtok X hF=>foO_ok w bt nb bz B (k:=3) hB hb5 hbl (hc 3 (by decide)) hF (fq hF 3 λf=>f) rfl rfl,trivial⟩⟩⟩⟩) (λh=>fq h 4 λf=>f) (hz_of 4) (by kernel_rfl)
end
end
section
noncomputable def kup (ks:Nat->Nat) (a b:Nat):Nat->Nat:=λk=>match k with|6=>a|7=>b|k=>ks k
def sfA (P:Params) (ks:Nat->Nat) (x y:Nat) (vi vj vm vu:Value) (n:Nat) (sl:Array (Option Value)) (r:List DictEntry):Obj:=fob ([en P [101,120,112,101,99,116,101,100] (ks 0) (.ref x),en P [97,99,116,117,97,108] (ks 1) (.ref y),en P [105] (ks 2) vi,en P [106] (ks 3) vj,en P [109,105,115,115,105,110,103] (ks 4) vm,en P [117,110,101,120,112,101,99,116,101,100] (ks 5) vu]++r) n sl
def sfO (P:Params) (ks:Nat->Nat) (x y:Nat) (vi vj vm vu ve va:Value) (n:Nat) (sl:Array (Option Value)):Obj:=sfA P ks x y vi vj vm vu n sl [en P [101] (ks 6) ve,en P [97] (ks 7) va]
def sEnv (P:Params) (fr:Nat):Env:=envOf P 178 fr [115,111,114,116,101,100,95,108,105,115,116,95,100,105,102,102,101,114,101,110,99,101,46,60,108,111,99,97,108,115,62,46]
def kEnv (P:Params) (fr:Nat) (cells:List (Str×Addr)):Env:={envOf P 209 fr [95,108,97,119,95,107,105,110,103,115,46,60,108,111,99,97,108,115,62,46] with cells:=cells}
def lEnv (P:Params) (fr:Nat) (cells:List (Str×Addr)):Env:={envOf P 214 fr [108,97,119,46,60,108,111,99,97,108,115,62,46] with cells:=cells}
def sTry (P:Params):Stmt:=sub 0 0 (stOf P 178 3)
def sIf (P:Params):Stmt:=sub 0 2 (sTry P)
def sW (P:Params) (d q:Bool):Stmt:=cond d (cond q (sub 2 1 (sub 1 1 (sub 1 0 (sIf P)))) (sub 0 2 (sub 1 0 (sIf P)))) (cond q (sub 0 0 (sub 1 1 (sub 1 0 (sIf P)))) (sub 0 2 (sIf P)))
structure Sl where
 x:Nat
 y:Nat
 m:Nat
 u:Nat
 fr:Nat
 kf:Nat
 lf:Nat
 kc:List (Str×Addr)
 lc:List (Str×Addr)
 kE:List DictEntry
 lE:List DictEntry
 kn:Nat
 ln:Nat
 n1:Nat
 n2:Nat
 xs:List Value
 ys:List Value
 xI:List Int
 yI:List Int
abbrev SA:=Array (Option Value)
def Sl.E (s:Sl) (P:Params):List Env:=[sEnv P (s.fr+216),kEnv P (s.kf+216) s.kc,lEnv P (s.lf+216) s.lc]
def Sl.K (s:Sl) (l:SA):Obj:=fob s.kE s.kn l
def Sl.L (s:Sl) (l:SA):Obj:=fob s.lE s.ln l
structure Sw extends Sl where
 d:Bool
 q:Bool
 ks:Nat->Nat
 n:Nat
 o:Int
 to:Nat
 e:Int
 te:Nat
 a:Int
 ta:Nat
 sl:SA
 ksl:SA
 lsl:SA
def Sw.C (s:Sw) (P:Params):Code:=whileC (sW P s.d s.q) (sEnv P (s.fr+216))
def Sw.F (s:Sw) (P:Params) (k:Int) (t:Nat) (l:SA):Obj:=sfO P s.ks (s.x+216) (s.y+216) (cond s.d (.int s.o s.to) (.int k t)) (cond s.d (.int k t) (.int s.o s.to)) (.ref (s.m+216)) (.ref (s.u+216)) (cond s.d (.int s.a s.ta) (.int s.e s.te)) (cond s.d (.int s.e s.te) (.int s.a s.ta)) s.n l
noncomputable def Sw.l (s:Sw):Nat:=cond s.d s.y s.x
noncomputable def Sw.ls (s:Sw):List Value:=cond s.d s.ys s.xs
noncomputable def Sw.I (s:Sw):List Int:=cond s.d s.yI s.xI
def Sw.p (s:Sw) (P:Params) (k:Int) (t:Nat):List (Nat×Obj):=[(s.fr+216,s.F P k t s.sl),(s.l+216,lo s.ls (cond s.d s.n2 s.n1))]
def Sw.pr (s:Sw) (P:Params) (k:Int) (t:Nat):List (Nat×Obj):=s.p P k t++[(s.kf+216,s.K s.ksl),(s.lf+216,s.L s.lsl)]
def Sw.it (s:Sw) (k:Int) (t:Nat) (v:Int) (tv:Nat) (r:Bool):List Oc:=[(λX=>cItem false (s.l+216) s.ls (cond s.d s.n2 s.n1) k t (.int v tv),[1]),(λX=>iop "int.__eq__" v s.e tv s.te r,[])]
def ixE (c:Value) (f:Nat) (as:List Nat) (ns:Ns):List Obj:=[exq "IndexError" [ns.w 0,.ref (as.getD 1 0),c,.none,.bool false,.none],tbO .none f (ns.v.drop 1)]
section
variable (P:Params) (w:World) (s:Sw) (k:Int) (t:Nat) (v:Int) (tv:Nat) (b:Nat) (vs:List Value)
def swt:Sp:={c:=s.C P,hd:=none,i:=s.p P k t,r:=λ_ _=> .goto (s.C P),u:=λ_ ns=>[(0,s.F P (k+1) (ns.g 1) s.sl)],ors:=s.it k t v tv true,tt:=12,m:=2,tr:=[1,1,2,2,2,2,1,1,1,1],cs:=[1,0,2],ns:=λ_ _ N=>⟨[((N 1).t+1+1+1),(N 1).t+1],[],[],[]⟩}
def sws:Sp:={c:=s.C P,hd:=none,i:=s.p P k t,r:=λ_ _=> .ret (.ok .next),ors:=s.it k t v tv false,tt:=12,m:=2,tr:=[1,1,2,2,2,2,1],cs:=[1,0],ns:=λ_ _ N=>⟨[(N 1).t],[],[],[]⟩}
def swr:Sp:={c:=s.C P,fr:=some (s.E P),i:=s.pr P k t,r:=λas _=> .ret (.error (.ref (as.getD 0 0))),u:=λ_ ns=>[(0,s.F P k t (ns.p 0).slots),(2,s.K (ns.p 1).slots),(3,s.L (ns.p 2).slots)],a:=ixE .none (s.fr+216),ors:=[(λX=>cItemE false (s.l+216) s.ls (cond s.d s.n2 s.n1) k t,[1])],tt:=12,s:=2,m:=2,x:=[4,5],tr:=[1,1,2,2,2,2,5,3,0,2,3],cs:=[1],as:=[0,1],ns:=λ_ _ N=>⟨[(N 0).t],(N 1).o,((N 0).w 0::(N 1).v),[]⟩,pi:=[0]}
def swx:Sp:={c:=s.C P,hd:=some (some (.ref (b+216))),fr:=some (s.E P),i:=s.pr P k t++[(b+216,exq "IndexError" vs)],r:=λas _=> .ret (.error (.ref (as.getD 0 0))),u:=λ_ ns=>[(0,s.F P k t (ns.p 0).slots),(2,s.K (ns.p 1).slots),(3,s.L (ns.p 2).slots)],a:=ixE (.ref (b+216)) (s.fr+216),ors:=[(λX=>cItemE2 false (b+216) (s.l+216) s.ls vs (cond s.d s.n2 s.n1) k t,[4,1])],tt:=12,s:=2,m:=2,x:=[5,6],tr:=[1,1,2,2,2,2,6,3,0,2,3],cs:=[1],as:=[0,1],ns:=λ_ _ N=>⟨[(N 0).t],(N 1).o,((N 0).w 0::(N 1).v),[]⟩,pi:=[0]}
variable (h0:0<=k) (h1:k<2^63)
include h0 h1
theorem swt_ok (hv:s.ls[k.toNat]?=some (.int v tv)) (he:(v==s.e)=true):OK (swt · s k t v tv) w 840 8700:=
 okF 2 (qN (λ_=>item_ok _ w _ _ false _ _ _ _ _ h0 h1 hv)<|qN (λ_=>(iop_eq w tv _ he).m)<|trivial) (e:=by rcases s with ⟨_,d,q⟩;cases d<;>cases q<;>kernel_rfl)
theorem sws_ok (hv:s.ls[k.toNat]?=some (.int v tv)) (he:(v==s.e)=false):OK (sws · s k t v tv) w 840 8700:=
 okF 2 (qN (λ_=>item_ok _ w _ _ false _ _ _ _ _ h0 h1 hv)<|qN (λ_=>(iop_eq w tv _ he).m)<|trivial) (e:=by rcases s with ⟨_,d,q⟩;cases d<;>cases q<;>kernel_rfl)
theorem swr_ok (hv:s.ls[k.toNat]?=none):OK (swr · s k t) w 840 8700:=
 okF 1 (qN (λ_=>itemE_ok _ w _ _ false _ _ _ _ _ h0 h1 hv)<|trivial) (e:=by rcases s with ⟨_,d,q⟩;cases d<;>cases q<;>kernel_rfl)
theorem swx_ok (hd:s.d=true) (hq:s.q=true) (hv:s.ls[k.toNat]?=none) (hc:vs[2]?=some .none):OK (swx · s k t b vs) w 840 8700:=
 okF 1 (qN (λ_=>itemE2_ok _ w _ _ false _ _ _ _ _ _ _ h0 h1 hv hc)<|trivial) (e:=by rcases s with ⟨_,d,q⟩;cases hd;cases hq;kernel_rfl)
end
end
section
noncomputable def skipTo (L:List Int) (c:Int) (k:Nat):Nat:=k+((L.drop k).takeWhile (·==c)).length
theorem skipTo_eq {L:List Int} {c:Int} {k:Nat} {v:Int} (h:L[k]?=some v) (hc:(v==c)=true):skipTo L c k=skipTo L c (k+1):=by
 unfold skipTo;rw [drop_at h,takeWhile_cons,hc];simp;lia
theorem skipTo_ne {L:List Int} {c:Int} {k:Nat} {v:Int} (h:L[k]?=some v) (hc:(v==c)=false):skipTo L c k=k:=by
 unfold skipTo;rw [drop_at h,takeWhile_cons,hc];simp
theorem skipTo_none {L:List Int} {c:Int} {k:Nat} (h:L[k]?=none):skipTo L c k=k:=by
 unfold skipTo;rw [drop_none h];simp
theorem skipTo_ge {L:List Int} {c:Int} {k:Nat}:k<=skipTo L c k:=Nat.le_add_right _ _
noncomputable def nz0 (ns:Ns):Ns:=⟨ns.n,ns.o,ns.v,[]⟩
theorem Ct.Ok.at {c:Ct} {kt:KT} {prog:Program} {w:World} {D U:Nat} (ok:c.Ok kt prog w D U) (h:c.hd=none:=by exact rfl) (f:c.frs=none:=by exact rfl) {hd:Option (Option Value)} {fr:Option (List Env)}:({c with hd:=hd,frs:=fr}:Ct).Ok kt prog w D U:=λA _ _=>ok A (by rw [h];exact λ_ h=>nomatch h) (by rw [f];exact λ_ h=>nomatch h)
def cN (P:Params) (s:Sw) (k:Int) (t:Nat) (p:Int):Ct:={code:=s.C P,hd:=none,pre:=s.p P k t,k:=0,fo:=λ_ _=> .ret (.ok .next),post:=λ_ ns=>[s.F P p (ns.g 1) s.sl,lo s.ls (cond s.d s.n2 s.n1)],news:=λ_ _=>[],fact:=λ_ _=>True}
def cR (P:Params) (s:Sw) (k:Int) (t:Nat) (p:Int) (xx:Option (Nat×List Value)):Ct:={code:=s.C P,hd:=some (xx.map λx=> .ref (x.1+216)),frs:=some (s.E P),pre:=s.pr P k t++xx.toList.map (λx=>(x.1+216,exq "IndexError" x.2)),k:=2,fo:=λas _=> .ret (.error (.ref (as.getD 0 0))),post:=λ_ ns=>[s.F P p (ns.g 1) (ns.p 0).slots,lo s.ls (cond s.d s.n2 s.n1),s.K (ns.p 1).slots,s.L (ns.p 2).slots]++xx.toList.map (λx=>exq "IndexError" x.2),news:=λas ns=>ixE (match xx with|none=> .none|some x=> .ref (x.1+216)) (s.fr+216) as ns,fact:=λ_ _=>True}
section
variable (w:World) (s:Sw) (hI:IntsAre s.ls s.I) (hz:s.ls.length<=1000)
include hI hz
theorem swt_at {k t:Nat} (h:k<s.I.length) {Q:Prop} (H:∀v tv,s.I[k]?=some v->s.ls[((k:Nat):Int).toNat]?=some (.int v tv)->Q):Q:=by
 obtain ⟨v,hv⟩:=at_of h;obtain ⟨tv,htv⟩:=hI.get k v hv;exact H v tv hv (by simpa using htv)
theorem cN_ok:∀(m k t:Nat),s.I.length-k=m->skipTo s.I s.e k<s.I.length->(cN w.params s k t (skipTo s.I s.e k)).Ok (ktOf w.params) prg w 840 8700
 |0,k,t,hm,hs=>absurd (Nat.lt_of_le_of_lt skipTo_ge hs) (vQ.mpr (Nat.le_of_sub_eq_zero hm))
 |m+1,k,t,hm,hs=>by
  have hk:k<s.I.length:=Nat.lt_of_le_of_lt skipTo_ge hs;refine swt_at s hI hz (t:=0) hk λv tv hv hx=>?_;have hl:=hI.length;have h63:((k:Nat):Int)<2^63:=by lia
  cases he:(v==s.e) with
  |true=>
   rw [skipTo_eq hv he] at hs⊢;exact Ct.Ok.seq (swt_ok w s k t v tv (kJ _) h63 hx he) [0,1] (by decide) (lt_all (n:=2) rfl) rfl rfl rfl rfl (λ_ x=>x) rfl λns _=>⟨_,_,nz0,rfl,cN_ok m (k+1) (ns.g 1) (by lia) hs,rfl,rfl,rfl,rfl,rfl,rfl,λas ns h _=>⟨rfl,rfl,rfl,trivial,rfl,rfl⟩⟩
  |false=>
   rw [skipTo_ne hv he];exact Ct.Ok.pad (sws_ok w s k t v tv (kJ _) h63 hx he) [0,1] (by decide) (lt_all (n:=2) rfl) rfl rfl rfl rfl (λ_ x=>x) rfl λas ns h _=>⟨⟨[ns.t,t],[],[],[]⟩,rfl,rfl,rfl,trivial,rfl,rfl⟩
theorem cR_ok {xx:Option (Nat×List Value)} (hx:∀x,xx=some x->s.d=true/\s.q=true/\x.2[2]?=some .none):∀(m k t:Nat),s.I.length-k=m->k<=1000->skipTo s.I s.e k≥s.I.length->(cR w.params s k t (skipTo s.I s.e k) xx).Ok (ktOf w.params) prg w 840 8700
 |0,k,t,hm,hk,hs=>by
  have hl:=hI.length;have h63:((k:Nat):Int)<2^63:=by lia
  have hv:s.ls[((k:Nat):Int).toNat]?=none:=by simp;lia
  rw [skipTo_none (by rw [jU];lia)];cases xx with
  |none=>exact Ct.Ok.pad (swr_ok w s k t (kJ _) h63 hv) [0,1,2,3] (by decide) (lt_all (n:=4) rfl) rfl rfl rfl rfl (λ_ x=>x) rfl λas ns h _=>⟨⟨[ns.t,t],ns.o,ns.v,[]⟩,rfl,rfl,rfl,trivial,rfl,rfl⟩
  |some x=>
   obtain ⟨x1,x2,x3⟩:=hx x rfl;exact Ct.Ok.pad (swx_ok w s k t x.1 x.2 (kJ _) h63 x1 x2 hv x3) [0,1,2,3,4] (by decide) (lt_all (n:=5) rfl) rfl rfl rfl rfl (λ_ x=>x) rfl λas ns h _=>⟨⟨[ns.t,t],ns.o,ns.v,[]⟩,rfl,rfl,rfl,trivial,rfl,rfl⟩
 |m+1,k,t,hm,hk,hs=>by
  have hk:k<s.I.length:=by lia
  refine swt_at s hI hz (t:=0) hk λv tv hv hx1=>?_;have hl:=hI.length;have h63:((k:Nat):Int)<2^63:=by lia
  cases he:(v==s.e) with
  |true=>
   rw [skipTo_eq hv he] at hs⊢;exact Ct.Ok.seq (swt_ok w s k t v tv (kJ _) h63 hx1 he).at [0,1] (by decide) (by cases xx<;>exact lt_all rfl) rfl rfl rfl rfl (λ_ x=>x) rfl λns _=>⟨_,_,nz0,rfl,cR_ok hx m (k+1) (ns.g 1) (by lia) (by lia) hs,rfl,rfl,rfl,rfl,rfl,rfl,λas ns h _=>⟨rfl,rfl,rfl,trivial,rfl,rfl⟩⟩
  |false=>
   rw [skipTo_ne hv he] at hs;lia
end
end
section
structure So extends Sl where
 c:Bool
 ks:Nat->Nat
 n:Nat
 nm:Nat
 nu:Nat
 i:Nat
 j:Nat
 ti:Nat
 tj:Nat
 ms:List Value
 us:List Value
 eo:Value
 ao:Value
 sl:SA
 ksl:SA
 lsl:SA
 e:Int
 te:Nat
 a:Int
 ta:Nat
namespace So
section
variable (s:So) (P:Params)
def kk (a b:Nat):Nat->Nat:=kup s.ks (cond s.c (s.ks 6) a) (cond s.c (s.ks 7) b)
noncomputable def nn:Nat:=cond s.c s.n (s.n+2)
def i':Nat:=skipTo s.xI s.e (s.i+1)
def j':Nat:=skipTo s.yI s.a (s.j+1)
noncomputable def w (d q:Bool) (t1 t2:Nat) (o:Int) (to:Nat) (l kl ll:SA):Sw:=⟨s.toSl,d,q,s.kk t1 t2,s.nn,o,to,cond d s.a s.e,cond d s.ta s.te,cond d s.e s.a,cond d s.te s.ta,l,kl,ll⟩
def C:Code:=whileC (stOf P 178 3) (sEnv P (s.fr+216))
noncomputable def F:Obj:=sfA P s.ks (s.x+216) (s.y+216) (.int s.i s.ti) (.int s.j s.tj) (.ref (s.m+216)) (.ref (s.u+216)) s.n s.sl (cond s.c [en P [101] (s.ks 6) s.eo,en P [97] (s.ks 7) s.ao] [])
def Fe (ns:Ns):Obj:=sfO P (kup s.ks (ns.g 1) (ns.g 2)) (s.x+216) (s.y+216) (ns.w 0) (ns.w 1) (.ref (s.m+216)) (.ref (s.u+216)) (ns.w 2) (ns.w 3) (ns.g 3) (ns.p 0).slots
noncomputable def p:List (Nat×Obj):=[(s.fr+216,s.F P),(s.x+216,lo s.xs s.n1),(s.y+216,lo s.ys s.n2),(s.m+216,lo s.ms s.nm),(s.u+216,lo s.us s.nu),(s.kf+216,s.K s.ksl),(s.lf+216,s.L s.lsl)]
def nx (ns:Ns) (i j:Nat):So:={s with c:=true,ks:=kup s.ks (ns.g 3) (ns.g 4),n:=ns.g 5,i:=i,j:=j,ti:=ns.g 1,tj:=ns.g 2,eo:= .int s.e s.te,ao:= .int s.a s.ta}
def o3 (lt:Bool):List Oc:=[(λX=>cItem false (s.x+216) s.xs s.n1 s.i s.ti (.int s.e s.te),[1]),(λX=>cItem false (s.y+216) s.ys s.n2 s.j s.tj (.int s.a s.ta),[2]),(λX=>iop "int.__lt__" s.e s.a s.te s.ta lt,[])]
def o4 (gt:Bool):List Oc:=s.o3 false++[(λX=>iop "int.__gt__" s.e s.a s.te s.ta gt,[])]
def tl (b i:Nat) (f:Cx->Nat) (j:Nat) (g:Cx->Nat) (ms us:List Value) (nm nu:Nat):List Oc:=[(λX=>cSlice false (s.x+216) (X.a b) s.xs s.n1 (.int (i:Nat) (f X)) .none (s.xs.drop i),[b,1]),(λX=>cExtend (s.m+216) (X.a (b+1)) ms (s.xs.drop i) nm 0,[3,b+1]),(λX=>cSlice false (s.y+216) (X.a (b+2)) s.ys s.n2 (.int (j:Nat) (g X)) .none (s.ys.drop j),[b+2,2]),(λX=>cExtend (s.u+216) (X.a (b+3)) us (s.ys.drop j) nu 0,[4,b+3])]
noncomputable def ou (t ti tj:Nat) (N:Nat->Ns):Ns:=⟨[t,ti,tj,cond s.c (s.ks 6) (N 0).t,cond s.c (s.ks 7) (N 1).t,s.nn],[],[],[]⟩
noncomputable def oe (N:Nat->Ns) (k:Nat) (o:List Obj) (i ti j tj:Nat):Ns:=⟨[(N (k+2)).t,cond s.c (s.ks 6) (N 0).t,cond s.c (s.ks 7) (N 1).t,s.nn,(N k).g 1,(N (k+2)).g 1],o,[.int (i:Nat) ti,.int (j:Nat) tj,.int s.e s.te,.int s.a s.ta],[]⟩
def ue (ms us:List Value) (ns:Ns):List (Nat×Obj):=[(0,s.Fe P ns),(3,lo ms (ns.g 4)),(4,lo us (ns.g 5)),(5,s.K (ns.p 1).slots),(6,s.L (ns.p 2).slots)]
noncomputable def m':List Value:=s.ms++[.int s.e s.te]
noncomputable def u':List Value:=s.us++[.int s.a s.ta]
def ap (d:Bool):Oc:=cond d (λX=>ctAppend (s.u+216) s.us s.nu (.int s.a s.ta),[4]) (λX=>ctAppend (s.m+216) s.ms s.nm (.int s.e s.te),[3])
def lt:Sp:={c:=s.C P,fr:=some (s.E P),i:=s.p P,r:=λ_ _=> .goto (s.C P),u:=λ_ ns=>[(0,(s.nx ns s.i' s.j).F P),(3,lo s.m' (s.nm+1))],ors:=s.o3 true++[s.ap false,(λX=>cN P (s.w false false (X.t 1) (X.t 2) s.j s.tj s.sl s.ksl s.lsl) (s.i+1:Nat) (X.t 4+1) s.i',[0,1])],tt:=12,m:=5,tr:=[1,1,2,2,2,2,1,1,1,1,3,3,3,3,1,1,1,1,1,4,4,4,4,1,4,1,1,1],cs:=[1,1,0,1,2,0],ns:=λ_ _ N=>s.ou (N 4).t ((N 4).g 1) s.tj N}
def gt:Sp:={c:=s.C P,fr:=some (s.E P),i:=s.p P,r:=λ_ _=> .goto (s.C P),u:=λ_ ns=>[(0,(s.nx ns s.i s.j').F P),(4,lo s.u' (s.nu+1))],ors:=s.o4 true++[s.ap true,(λX=>cN P (s.w true false (X.t 1) (X.t 2) s.i s.ti s.sl s.ksl s.lsl) (s.j+1:Nat) (X.t 5+1) s.j',[0,2])],tt:=12,m:=6,tr:=[1,1,2,2,2,2,1,1,1,1,3,3,3,3,1,1,1,1,1,1,1,5,5,5,5,1,5,1,1,1],cs:=[1,1,0,0,1,2,0],ns:=λ_ _ N=>s.ou (N 5).t s.ti ((N 5).g 1) N}
def eqn:Cx->Ct:=λX=>cN P (s.w false true (X.t 1) (X.t 2) s.j s.tj s.sl s.ksl s.lsl) (s.i+1:Nat) (X.t 4+1) s.i'
def eqr:Cx->Ct:=λX=>cR P (s.w false true (X.t 1) (X.t 2) s.j s.tj s.sl s.ksl s.lsl) (s.i+1:Nat) (X.t 4+1) s.i' none
def eq:Sp:={c:=s.C P,fr:=some (s.E P),i:=s.p P,r:=λ_ _=> .goto (s.C P),u:=λ_ ns=>[(0,(s.nx ns s.i' s.j').F P)],ors:=s.o4 false++[(s.eqn P,[0,1]),(λX=>cN P (s.w true true (X.t 1) (X.t 2) s.i' ((X.s 5).g 1) s.sl s.ksl s.lsl) (s.j+1:Nat) (X.t 5+1) s.j',[0,2])],tt:=12,m:=6,tr:=[1,1,2,2,2,2,1,1,1,1,3,3,3,3,1,1,1,1,1,1,1,1,1,1,1,1],cs:=[1,1,0,0,2,3,0],ns:=λ_ _ N=>s.ou (N 5).t ((N 4).g 1) ((N 5).g 1) N}
def ltr:Sp:={c:=s.C P,fr:=some (s.E P),i:=s.p P,r:=λ_ _=> .ret (.ok .next),u:=λ_=>s.ue P (s.m'++s.xs.drop s.i') (s.us++s.ys.drop s.j),ors:=s.o3 true++[s.ap false,(λX=>cR P (s.w false false (X.t 1) (X.t 2) s.j s.tj s.sl s.ksl s.lsl) (s.i+1:Nat) (X.t 4+1) s.i' none,[0,1,5,6])]++s.tl 9 s.i' (λX=>(X.s 5).g 1) s.j (λ_=>s.tj) s.m' s.us (s.nm+1) s.nu,tt:=40,s:=6,m:=9,tr:=[1,1,2,2,2,2,1,1,1,1,3,3,3,3,1,1,1,1,1,4,4,4,4,1,4,1,1,1,8,8,9,9,8,9,8,9,9,0,0,8,8,9,9,1,4,4,4,4,1,1,2,2,2,2,4,1,5,5,5,5,1,1,3,3,3,3,5],cs:=[1,1,0,1,2,3,1,1,1],ns:=λ_ _ N=>s.oe N 6 (N 4).o s.i' ((N 4).g 1) s.j s.tj}
def gtr:Sp:={c:=s.C P,fr:=some (s.E P),i:=s.p P,r:=λ_ _=> .ret (.ok .next),u:=λ_=>s.ue P (s.ms++s.xs.drop s.i) (s.u'++s.ys.drop s.j'),ors:=s.o4 true++[s.ap true,(λX=>cR P (s.w true false (X.t 1) (X.t 2) s.i s.ti s.sl s.ksl s.lsl) (s.j+1:Nat) (X.t 5+1) s.j' none,[0,2,5,6])]++s.tl 9 s.i (λ_=>s.ti) s.j' (λX=>(X.s 6).g 1) s.ms s.u' s.nm (s.nu+1),tt:=40,s:=6,m:=10,tr:=[1,1,2,2,2,2,1,1,1,1,3,3,3,3,1,1,1,1,1,1,1,5,5,5,5,1,5,1,1,1,8,8,9,9,8,9,8,9,9,0,0,8,8,9,9,1,4,4,4,4,1,1,2,2,2,2,4,1,5,5,5,5,1,1,3,3,3,3,5],cs:=[1,1,0,0,1,2,3,1,1,1],ns:=λ_ _ N=>s.oe N 7 (N 5).o s.i s.ti s.j' ((N 5).g 1)}
def eo4 (b:Nat):List Oc:=s.tl b s.i' (λX=>(X.s 5).g 1) s.j' (λX=>(X.s 6).g 1) s.ms s.us s.nm s.nu
def ueq:List Nat->Ns->List (Nat×Obj):=λ_=>s.ue P (s.ms++s.xs.drop s.i') (s.us++s.ys.drop s.j')
def eqnr:Sp:={c:=s.C P,fr:=some (s.E P),i:=s.p P,r:=λ_ _=> .ret (.ok .next),u:=s.ueq P,ors:=s.o4 false++[(s.eqn P,[0,1]),(λX=>cR P (s.w true true (X.t 1) (X.t 2) s.i' ((X.s 5).g 1) s.sl s.ksl s.lsl) (s.j+1:Nat) (X.t 5+1) s.j' none,[0,2,5,6])]++s.eo4 9,tt:=40,s:=6,m:=10,tr:=[1,1,2,2,2,2,1,1,1,1,3,3,3,3,1,1,1,1,1,1,1,1,1,1,1,1,8,8,9,9,8,9,8,8,9,9,8,9,8,9,9,0,0,8,8,9,9,1,4,4,4,4,1,1,2,2,2,2,4,1,5,5,5,5,1,1,3,3,3,3,5],cs:=[1,1,0,0,2,3,3,1,1,1],ns:=λ_ _ N=>s.oe N 7 (N 5).o s.i' ((N 4).g 1) s.j' ((N 5).g 1)}
def eqrn:Sp:={c:=s.C P,fr:=some (s.E P),i:=s.p P,r:=λ_ _=> .ret (.ok .next),u:=s.ueq P,ors:=s.o4 false++[(s.eqr P,[0,1,5,6]),(λX=>cN P (s.w true true (X.t 1) (X.t 2) s.i' ((X.s 5).g 1) ((X.s 5).p 0).slots s.ksl s.lsl) (s.j+1:Nat) (X.t 5+1) s.j',[0,2])]++s.eo4 9,tt:=40,s:=6,m:=10,tr:=[1,1,2,2,2,2,1,1,1,1,3,3,3,3,1,1,1,1,1,1,1,1,1,8,8,9,9,8,9,8,9,8,9,9,1,1,1,8,8,9,9,8,9,8,9,9,0,0,8,8,9,9,1,4,4,4,4,1,1,2,2,2,2,4,1,5,5,5,5,1,1,3,3,3,3,5],cs:=[1,1,0,0,2,3,3,1,1,1],ns:=λ_ _ N=>s.oe N 7 (N 4).o s.i' ((N 4).g 1) s.j' ((N 5).g 1)}
def eqrr:Sp:={c:=s.C P,fr:=some (s.E P),i:=s.p P,r:=λ_ _=> .ret (.ok .next),u:=s.ueq P,ors:=s.o4 false++[(s.eqr P,[0,1,5,6]),(λX=>cR P (s.w true true (X.t 1) (X.t 2) s.i' ((X.s 5).g 1) ((X.s 5).p 0).slots ((X.s 5).p 1).slots ((X.s 5).p 2).slots) (s.j+1:Nat) (X.t 5+1) s.j' (some (X.b 7,[(X.s 5).w 0,.ref (X.a 8),.none,.none,.bool false,.none])),[0,2,5,6,7])]++s.eo4 11,tt:=40,s:=8,m:=10,tr:=[1,1,2,2,2,2,1,1,1,1,3,3,3,3,1,1,1,1,1,1,1,1,1,8,8,9,9,8,9,8,9,8,9,9,1,1,1,10,10,11,11,10,11,10,10,11,11,10,11,10,11,11,0,0,10,10,11,11,1,4,4,4,4,1,1,2,2,2,2,4,1,5,5,5,5,1,1,3,3,3,3,5],cs:=[1,1,0,0,2,3,3,1,1,1],ns:=λ_ _ N=>s.oe N 7 (N 5).o s.i' ((N 4).g 1) s.j' ((N 5).g 1)}
end
structure Ok (s:So):Prop where
 x:s.xs[((s.i:Nat):Int).toNat]?=some (.int s.e s.te)
 y:s.ys[((s.j:Nat):Int).toNat]?=some (.int s.a s.ta)
 i:s.i<999
 j:s.j<999
 I:IntsAre s.xs s.xI
 J:IntsAre s.ys s.yI
 X:s.xs.length<=1000
 Y:s.ys.length<=1000
 m:s.ms.length+s.xs.length<=900
 u:s.us.length+s.ys.length<=900
section
variable {w:World} {s:So} (o:s.Ok) {r:Sp} {n k:Nat} {X:Cx}
include o
theorem o3_ok {b:Bool} (h:decide (s.e<s.a)=b) (l:List Oc) (t:AllQ w 780 8400 r 3 n) (hr:r.ors=s.o3 b++l:=by exact rfl):AllQ w 780 8400 r 0 (n+3):=by
 have hi:=o.i;have hj:=o.j;have q0:∀X,r.q 0 X=cItem false (s.x+216) s.xs s.n1 s.i s.ti (.int s.e s.te):=λX=>by unfold Sp.q;rw [hr];rfl
 have q1:∀X,r.q 1 X=cItem false (s.y+216) s.ys s.n2 s.j s.tj (.int s.a s.ta):=λX=>by unfold Sp.q;rw [hr];rfl
 have q2:∀X,r.q 2 X=iop "int.__lt__" s.e s.a s.te s.ta b:=λX=>by unfold Sp.q;rw [hr];rfl
 exact ⟨λ_ X _=>by rw [q0];exact ⟨λq h=>(nomatch h),item_ok _ w _ _ false _ _ _ _ _ (kJ _) (by lia) o.x⟩,⟨λ_ X _=>by rw [q1];exact ⟨λq h=>(nomatch h),item_ok _ w _ _ false _ _ _ _ _ (kJ _) (by lia) o.y⟩,⟨λ_ X _=>by rw [q2];exact ⟨λq h=>(nomatch h),(iop_lt w _ _ h).m⟩,t⟩⟩⟩
theorem o4_ok {b:Bool} (h1:decide (s.e<s.a)=false) (h:decide (s.e>s.a)=b) (l:List Oc) (t:AllQ w 780 8400 r 4 n) (hr:r.ors=s.o4 b++l:=by exact rfl):AllQ w 780 8400 r 0 (n+1+3):=by
 have q3:∀X,r.q 3 X=iop "int.__gt__" s.e s.a s.te s.ta b:=λX=>by unfold Sp.q;rw [hr];rfl
 exact o3_ok o h1 _ ⟨λ_ X _=>by rw [q3];exact ⟨λq h=>(nomatch h),(iop_gt w _ _ h).m⟩,t⟩ hr
theorem tl_ok {b i:Nat} {f:Cx->Nat} {j:Nat} {g:Cx->Nat} {ms us:List Value} {nm nu:Nat} (hm:ms.length<=s.ms.length+1:=by exact Nat.le_succ _) (hu:us.length<=s.us.length+1:=by exact Nat.le_succ _) (hr:r.ors.drop k=s.tl b i f j g ms us nm nu:=by exact rfl):AllQ w 780 8400 r k 4:=by
 have q:∀l X,r.q (k+l) X=((s.tl b i f j g ms us nm nu).getD l dfo).1 X:=λl X=>by
  unfold Sp.q;rw [<-hr,zY,zY,getElem?_drop]
 have hX:=o.X;have hY:=o.Y;have h1:=o.m;have h2:=o.u;have d1:(s.xs.drop i).length<=s.xs.length:=by rw [length_drop];exact Nat.sub_le ..
 have d2:(s.ys.drop j).length<=s.ys.length:=by rw [length_drop];exact Nat.sub_le ..
 refine ⟨λ_ X _=>?_,⟨λ_ X _=>?_,⟨λ_ X _=>?_,⟨λ_ X _=>?_,trivial⟩⟩⟩⟩
 ·rw [show r.q k X=_ from q 0 X];exact ⟨λq h=>(nomatch h),from_ok _ w _ _ false _ _ _ _ _ _ hX⟩
 ·rw [q 1 X];exact ⟨λq h=>(nomatch h),extend_ok _ w _ _ _ _ _ _ _ _ (by lia)⟩
 ·rw [show r.q (k+1+1) X=_ from q 2 X];exact ⟨λq h=>(nomatch h),from_ok _ w _ _ false _ _ _ _ _ _ hY⟩
 ·rw [show r.q (k+1+1+1) X=_ from q 3 X];exact ⟨λq h=>(nomatch h),extend_ok _ w _ _ _ _ _ _ _ _ (by lia)⟩
theorem Ok.ap (b:Bool):((s.ap b).1 X).Ok (ktOf w.params) prg w 840 8700:=by
 have h1:=o.m;have h2:=o.u;cases b
 ·exact append_ok _ w _ _ _ _ _ _ (by lia)
 ·exact append_ok _ w _ _ _ _ _ _ (by lia)
section
variable {q:Bool} {a b c d t:Nat} {e:Int} {l kl ll:SA}
theorem Ok.nx (h:s.i'<s.xI.length):(cN w.params (s.w false q a b e c l kl ll) (s.i+1:Nat) t s.i').Ok (ktOf w.params) prg w 840 8700:=cN_ok w (s.w false q a b e c l kl ll) o.I o.X _ _ _ rfl h
theorem Ok.ny (h:s.j'<s.yI.length):(cN w.params (s.w true q a b e c l kl ll) (s.j+1:Nat) t s.j').Ok (ktOf w.params) prg w 840 8700:=cN_ok w (s.w true q a b e c l kl ll) o.J o.Y _ _ _ rfl h
theorem Ok.rx (h:s.xI.length<=s.i'):(cR w.params (s.w false q a b e c l kl ll) (s.i+1:Nat) t s.i' none).Ok (ktOf w.params) prg w 840 8700:=cR_ok w (s.w false q a b e c l kl ll) o.I o.X (λx h=>by cases h) _ _ _ rfl (by have:=o.i;lia) h
theorem Ok.ry (h:s.yI.length<=s.j'):(cR w.params (s.w true q a b e c l kl ll) (s.j+1:Nat) t s.j' none).Ok (ktOf w.params) prg w 840 8700:=cR_ok w (s.w true q a b e c l kl ll) o.J o.Y (λx h=>by cases h) _ _ _ rfl (by have:=o.j;lia) h
theorem Ok.rz {v v':Value} (h:s.yI.length<=s.j'):(cR w.params (s.w true true a b e c l kl ll) (s.j+1:Nat) t s.j' (some (d,[v,v',.none,.none,.bool false,.none]))).Ok (ktOf w.params) prg w 840 8700:=cR_ok w (s.w true true a b e c l kl ll) o.J o.Y (λx h=>by cases h;exact ⟨rfl,rfl,rfl⟩) _ _ _ rfl (by have:=o.j;lia) h
end
variable (w)
theorem lt_ok (hl:decide (s.e<s.a)=true) (h:s.i'<s.xI.length):OK (s.lt ·) w 780 8400:=
 okF 5 (o3_ok o hl _<|qN (λ_=>o.ap false)<|qN (λ_=>o.nx h) trivial) (e:=by rcases s with ⟨_,c⟩;cases c<;>kernel_rfl)
theorem gt_ok (hl:decide (s.e<s.a)=false) (hg:decide (s.e>s.a)=true) (h:s.j'<s.yI.length):OK (s.gt ·) w 780 8400:=
 okF 6 (o4_ok o hl hg _<|qN (λ_=>o.ap true)<|qN (λ_=>o.ny h) trivial) (e:=by rcases s with ⟨_,c⟩;cases c<;>kernel_rfl)
theorem eq_ok (hl:decide (s.e<s.a)=false) (hg:decide (s.e>s.a)=false) (h:s.i'<s.xI.length) (h2:s.j'<s.yI.length):OK (s.eq ·) w 780 8400:=
 okF 6 (o4_ok o hl hg _<|qN (λ_=>o.nx h)<|qN (λ_=>o.ny h2) trivial) (e:=by rcases s with ⟨_,c⟩;cases c<;>kernel_rfl)
theorem ltr_ok (hl:decide (s.e<s.a)=true) (h:s.xI.length<=s.i'):OK (s.ltr ·) w 780 8400:=
 okF 9 (o3_ok o hl _<|qN (λ_=>o.ap false)<|qN (λ_=>o.rx h)<|tl_ok o (ms:=s.m') (by simp [m'])) (e:=by rcases s with ⟨_,c⟩;cases c<;>kernel_rfl)
theorem gtr_ok (hl:decide (s.e<s.a)=false) (hg:decide (s.e>s.a)=true) (h:s.yI.length<=s.j'):OK (s.gtr ·) w 780 8400:=
 okF 10 (o4_ok o hl hg _<|qN (λ_=>o.ap true)<|qN (λ_=>o.ry h)<|tl_ok o (us:=s.u') (hu:=by simp [u'])) (e:=by rcases s with ⟨_,c⟩;cases c<;>kernel_rfl)
theorem eqnr_ok (hl:decide (s.e<s.a)=false) (hg:decide (s.e>s.a)=false) (h:s.i'<s.xI.length) (h2:s.yI.length<=s.j'):OK (s.eqnr ·) w 780 8400:=
 okF 10 (o4_ok o hl hg _<|qN (λ_=>o.nx h)<|qN (λ_=>o.ry h2)<|tl_ok o) (e:=by rcases s with ⟨_,c⟩;cases c<;>kernel_rfl)
theorem eqrn_ok (hl:decide (s.e<s.a)=false) (hg:decide (s.e>s.a)=false) (h:s.xI.length<=s.i') (h2:s.j'<s.yI.length):OK (s.eqrn ·) w 780 8400:=
 okF 10 (o4_ok o hl hg _<|qN (λ_=>o.rx h)<|qN (λ_=>o.ny h2)<|tl_ok o) (e:=by rcases s with ⟨_,c⟩;cases c<;>kernel_rfl)
theorem eqrr_ok (hl:decide (s.e<s.a)=false) (hg:decide (s.e>s.a)=false) (h:s.xI.length<=s.i') (h2:s.yI.length<=s.j'):OK (s.eqrr ·) w 780 8400:=
 okF 10 (o4_ok o hl hg _<|qN (λ_=>o.rx h)<|qN (λ_=>o.rz h2)<|tl_ok o) (e:=by rcases s with ⟨_,c⟩;cases c<;>kernel_rfl)
end
end So
end
section
noncomputable def sldT (E A:List Int) (R:Nat->Nat->List Int->List Int->Option (List Int×List Int)) (i j:Nat) (M U:List Int) (e a:Int) (i' j':Nat):Option (List Int×List Int):=match decide (e<a) with
 |true=>match Nat.blt i' E.length with
  |true=>R i' j (M++[e]) U
  |false=>some ((M++[e])++E.drop i',U++A.drop j)
 |false=>match decide (e>a) with
  |true=>match Nat.blt j' A.length with
   |true=>R i j' M (U++[a])
   |false=>some (M++E.drop i,(U++[a])++A.drop j')
  |false=>match Nat.blt i' E.length&&Nat.blt j' A.length with
   |true=>R i' j' M U
   |false=>some (M++E.drop i',U++A.drop j')
def sldRun (E A:List Int):Nat->Nat->Nat->List Int->List Int->Option (List Int×List Int)
 |0,_,_,_,_=>none
 |f+1,i,j,M,U=>match E[i]?,A[j]? with
  |some e,some a=>sldT E A (sldRun E A f) i j M U e a (skipTo E e (i+1)) (skipTo A a (j+1))
  |_,_=>none
theorem blt_t {a b:Nat} (h:Nat.blt a b=true):a<b:=zx h
theorem blt_f {a b:Nat} (h:Nat.blt a b=false):b<=a:=by
 rcases Nat.lt_or_ge a b with h1|h1
 ·rw [show Nat.blt a b=true from Nat.ble_eq_true_of_le h1] at h;cases h
 ·exact h1
def cW (P:Params) (s:So) (Mo Uo:List Int):Ct:={code:=s.C P,hd:=some none,frs:=some (s.E P),pre:=s.p P,k:=0,fo:=λ_ _=> .ret (.ok .next),post:=λ_ ns=>[s.Fe P ns,lo s.xs s.n1,lo s.ys s.n2,ns.p 3,ns.p 4,s.K (ns.p 1).slots,s.L (ns.p 2).slots],news:=λ_ _=>[],fact:=λ_ ns=>IsL (ns.p 3) Mo/\IsL (ns.p 4) Uo}
section
variable {w:World} {s:So} {Mo Uo M U:List Int}
theorem W_end {c:Sp} {ms us:List Value} (ok:c.ct.Ok (ktOf w.params) prg w 780 8400) (hp:c.ct.pre=s.p w.params:=by exact rfl) (hc:c.c=s.C w.params:=by exact rfl) (hh:c.hd=some none:=by exact rfl) (hf:c.fr=some (s.E w.params):=by exact rfl) (hz:c.z=[]:=by exact rfl) (hk:c.x.length=0:=by exact rfl) (ho:c.ct.post=(λ_ ns=>[s.Fe w.params ns,lo s.xs s.n1,lo s.ys s.n2,lo ms (ns.g 4),lo us (ns.g 5),s.K (ns.p 1).slots,s.L (ns.p 2).slots]):=by exact rfl) (ha:c.a=(λ_ _=>[]):=by exact rfl) (hr:c.r=(λ_ _=> .ret (.ok .next)):=by exact rfl) (h1:IntsAre ms Mo) (h2:IntsAre us Uo):(cW w.params s Mo Uo).Ok (ktOf w.params) prg w 780 8400:=
 Ct.Ok.re (c:=c.ct) ok (λas ns=>⟨[ns.t,ns.g 1,ns.g 2,ns.g 3],[ns.p 0,ns.p 1,ns.p 2,lo ms (ns.g 4),lo us (ns.g 5)],[ns.w 0,ns.w 1,ns.w 2,ns.w 3],[]⟩) hc.symm hh.symm hf.symm hz.symm hp.symm hk.symm λas ns _ _=>⟨(congrFun (congrFun ho as) ns).symm,(congrFun (congrFun ha as) ns).symm,(congrFun (congrFun hr as) ns).symm,⟨IsL.of h1,IsL.of h2⟩,rfl,rfl⟩
theorem W_go {c:Sp} (s':Ns->So) (ok:c.ct.Ok (ktOf w.params) prg w 780 8400) (ih:∀ns,(cW w.params (s' ns) Mo Uo).Ok (ktOf w.params) prg w 780 8400) (hp:c.ct.pre=s.p w.params:=by exact rfl) (hc:c.c=s.C w.params:=by exact rfl) (hh:c.hd=some none:=by exact rfl) (hf:c.fr=some (s.E w.params):=by exact rfl) (hz:c.z=[]:=by exact rfl) (hk:c.x.length=0:=by exact rfl) (ho:∀ns,(s' ns).p w.params=upd [0,1,2,3,4,5,6] (c.ct.post [] ns) (s.p w.params):=by exact λ_=>rfl) (hr:∀ns,c.r [] ns= .goto (s.C w.params):=by exact λ_=>rfl) (hs:∀ns,(s' ns).C w.params=s.C w.params/\(s' ns).E w.params=s.E w.params:=by exact λ_=>⟨rfl,rfl⟩) (hF:∀ns n2,(cW w.params (s' ns) Mo Uo).post [] n2=(cW w.params s Mo Uo).post [] n2:=by exact λ_ _=>rfl):(cW w.params s Mo Uo).Ok (ktOf w.params) prg w 780 8400:=
 Ct.Ok.seq (c:=c.ct) ok [0,1,2,3,4,5,6] (by decide) (lt_all (n:=7) rfl) hc.symm hh hf (hp.trans rfl) (λp h=>by rw [show c.ct.zpre=[] from hz] at h;cases h) hk λns _=>⟨_,_,nz0,hr ns,ih ns,(hs ns).1.symm,rfl,jk some (hs ns).2,ho ns,rfl,rfl,λas n2 _ h=>⟨(hF ns n2).symm,rfl,rfl,h,rfl,rfl⟩⟩
theorem W_turn {R:Nat->Nat->List Int->List Int->Option (List Int×List Int)} (o:s.Ok) (hr:sldT s.xI s.yI R s.i s.j M U s.e s.a s.i' s.j'=some (Mo,Uo)) (hM:IntsAre s.ms M) (hU:IntsAre s.us U) (hm:M.length<=s.i) (hu:U.length<=s.j) (ih:∀(q:So) (M U:List Int),q.xI=s.xI->q.yI=s.yI->q.xs=s.xs->q.ys=s.ys->R q.i q.j M U=some (Mo,Uo)->IntsAre q.ms M->IntsAre q.us U->M.length<=q.i->U.length<=q.j->(cW w.params q Mo Uo).Ok (ktOf w.params) prg w 780 8400):(cW w.params s Mo Uo).Ok (ktOf w.params) prg w 780 8400:=by
 have g1:s.i+1<=s.i':=skipTo_ge;have g2:s.j+1<=s.j':=skipTo_ge;have hMe:IntsAre s.m' (M++[s.e]):=IntsAre.append hM (.cons s.e s.te .nil);have hUa:IntsAre s.u' (U++[s.a]):=IntsAre.append hU (.cons s.a s.ta .nil);have l1:(M++[s.e]).length=M.length+1:=jZ;have l2:(U++[s.a]).length=U.length+1:=jZ;have X:=λk=>o.I.drop k;have Y:=λk=>o.J.drop k;unfold sldT at hr;have en:∀{a b:List Int},some (a,b)=some (Mo,Uo)->a=Mo/\b=Uo:=λh=>by cases h;exact ⟨rfl,rfl⟩
 cases hl:decide (s.e<s.a) with
 |true=>
  rw [hl] at hr;cases hs:Nat.blt s.i' s.xI.length with
  |true=>
   rw [hs] at hr;exact W_go (λns=>{s.nx ns s.i' s.j with ms:=s.m',nm:=s.nm+1}) (So.lt_ok w o hl (blt_t hs)) λns=>ih _ _ _ rfl rfl rfl rfl hr hMe hU (by show _<=s.i';lia) hu
  |false=>
   rw [hs] at hr;obtain ⟨rfl,rfl⟩:=en hr;exact W_end (So.ltr_ok w o hl (blt_f hs)) (h1:=hMe.append (X _)) (h2:=hU.append (Y _))
 |false=>
  rw [hl] at hr;cases hg:decide (s.e>s.a) with
  |true=>
   rw [hg] at hr;cases hs:Nat.blt s.j' s.yI.length with
   |true=>
    rw [hs] at hr;exact W_go (λns=>{s.nx ns s.i s.j' with us:=s.u',nu:=s.nu+1}) (So.gt_ok w o hl hg (blt_t hs)) λns=>ih _ _ _ rfl rfl rfl rfl hr hM hUa hm (by show _<=s.j';lia)
   |false=>
    rw [hs] at hr;obtain ⟨rfl,rfl⟩:=en hr;exact W_end (So.gtr_ok w o hl hg (blt_f hs)) (h1:=hM.append (X _)) (h2:=hUa.append (Y _))
  |false=>
   rw [hg] at hr;have h1:=λk=>hM.append (X k);have h2:=λk=>hU.append (Y k);cases hs:Nat.blt s.i' s.xI.length<;>cases hs2:Nat.blt s.j' s.yI.length<;>rw [hs,hs2] at hr
   ·obtain ⟨rfl,rfl⟩:=en hr
    exact W_end (So.eqrr_ok w o hl hg (blt_f hs) (blt_f hs2)) (h1:=h1 _) (h2:=h2 _)
   ·obtain ⟨rfl,rfl⟩:=en hr
    exact W_end (So.eqrn_ok w o hl hg (blt_f hs) (blt_t hs2)) (h1:=h1 _) (h2:=h2 _)
   ·obtain ⟨rfl,rfl⟩:=en hr
    exact W_end (So.eqnr_ok w o hl hg (blt_t hs) (blt_f hs2)) (h1:=h1 _) (h2:=h2 _)
   ·exact W_go (λns=>s.nx ns s.i' s.j') (So.eq_ok w o hl hg (blt_t hs) (blt_t hs2)) λns=>ih _ _ _ rfl rfl rfl rfl hr hM hU (by show _<=s.i';lia) (by show _<=s.j';lia)
theorem W_ok (w:World) {xI yI Mo Uo:List Int}:∀(f:Nat) (s:So) (M U:List Int),s.xI=xI->s.yI=yI->sldRun xI yI f s.i s.j M U=some (Mo,Uo)->IntsAre s.xs xI->IntsAre s.ys yI->s.xs.length<=400->s.ys.length<=400->IntsAre s.ms M->IntsAre s.us U->M.length<=s.i->U.length<=s.j->(cW w.params s Mo Uo).Ok (ktOf w.params) prg w 780 8400
 |0,_,_,_,_,_,hr,_,_,_,_,_,_,_,_=>by cases hr
 |f+1,s,M,U,ex,ey,hr,hI,hJ,hzx,hzy,hM,hU,hm,hu=>by
  subst ex ey;have lx:=hI.length;have ly:=hJ.length;have lm:=hM.length;have lu:=hU.length;unfold sldRun at hr;cases hx:s.xI[s.i]? with
  |none=>rw [hx] at hr;cases hr
  |some e=>
  cases hy:s.yI[s.j]? with
  |none=>rw [hx,hy] at hr;cases hr
  |some a=>
  rw [hx,hy] at hr;obtain ⟨te,hte⟩:=hI.get _ e hx;obtain ⟨ta,hta⟩:=hJ.get _ a hy;have hil:=at_lt hx;have hjl:=at_lt hy;have o:({s with e:=e,te:=te,a:=a,ta:=ta}:So).Ok:=⟨hte,hta,by show s.i<999;lia,by show s.j<999;lia,hI,hJ,by show s.xs.length<=1000;lia,by show s.ys.length<=1000;lia,by show s.ms.length+s.xs.length<=900;lia,by show s.us.length+s.ys.length<=900;lia⟩
  exact W_turn (s:={s with e:=e,te:=te,a:=a,ta:=ta}) (R:=sldRun s.xI s.yI f) o hr hM hU hm hu λq M U e1 e2 e3 e4 h1 h2 h3 h4 h5=>W_ok w f q M U e1 e2 h1 (e3▸hI) (e4▸hJ) (e3▸hzx) (e4▸hzy) h2 h3 h4 h5
end
end
section
noncomputable def kS (t:Nat):Nat->Nat:=λk=>match k with|0=>t|1=>t+1|2=>t+3|3=>t+4|4=>t+5|_=>t+6
def sldF (E A:List Int):Option (List Int×List Int):=sldRun E A 40 0 0 [] []
def gx (P:Params) (kf lf:Nat) (kc lc:List (Str×Addr)):Option (List Env):=some [kEnv P (kf+216) kc,lEnv P (lf+216) lc]
section
variable (P:Params) (w:World) (x y kf lf:Nat) (kc lc:List (Str×Addr)) (kE lE:List DictEntry) (kn ln n1 n2:Nat) (xs ys:List Value) (ksl lsl:SA) (xI yI Mo Uo:List Int)
def fsO (m u fr t:Nat):So:={x:=x,y:=y,m:=m,u:=u,fr:=fr,kf:=kf,lf:=lf,kc:=kc,lc:=lc,kE:=kE,lE:=lE,kn:=kn,ln:=ln,n1:=n1,n2:=n2,xs:=xs,ys:=ys,xI:=xI,yI:=yI,c:=false,ks:=kS t,n:=6,nm:=0,nu:=0,i:=0,j:=0,ti:=t+2,tj:=t+2,ms:=[],us:=[],eo:= .none,ao:= .none,sl:=#[],ksl:=ksl,lsl:=lsl,e:=0,te:=0,a:=0,ta:=0}
def fsld:Sp:={c:= .call (.ref 178) ⟨[.ref (x+216),.ref (y+216)],[]⟩,fr:=gx P kf lf kc lc,i:=[(x+216,lo xs n1),(y+216,lo ys n2),(kf+216,fob kE kn ksl),(lf+216,fob lE ln lsl)],r:=λas ns=> .ret (.ok (.ret (.ref (as.getD 0 0)))),u:=λas ns=>[(2,fob kE kn (ns.p 0).slots),(3,fob lE ln (ns.p 1).slots)],a:=λas ns=>[tu [.ref (as.getD 1 0),.ref (as.getD 2 0)],ns.p 2,ns.p 3],f:=λas ns=>IsL (ns.p 2) Mo/\IsL (ns.p 3) Uo,ors:=[(λX=>cW P (fsO x y kf lf kc lc kE lE kn ln n1 n2 xs ys ksl lsl xI yI (X.b 5) (X.b 6) (X.b 4) (X.t 0)) Mo Uo,[4,0,1,5,6,2,3])],tt:=40,s:=4,m:=1,x:=[7,5,6],tr:=[0,5,5,5,5,5,5,5,5,5,5,5,5,5,5],cs:=[1],as:=[3,1,2],ns:=λ_ _ N=>⟨[((N 0).t)],[(N 0).p 1,(N 0).p 2,(N 0).p 3,(N 0).p 4],[],[]⟩}
theorem fsld_ok (hI:IntsAre xs xI) (hJ:IntsAre ys yI) (hzx:xs.length<=400) (hzy:ys.length<=400) (hr:sldF xI yI=some (Mo,Uo)):OK (fsld · x y kf lf kc lc kE lE kn ln n1 n2 xs ys ksl lsl xI yI Mo Uo) w 720 8100:=
 okF 1 (qN (λ_=>W_ok w 40 (fsO x y kf lf kc lc kE lE kn ln n1 n2 xs ys ksl lsl xI yI _ _ _ _) [] [] rfl rfl hr hI hJ hzx hzy .nil .nil (jv _) (jv _))<|trivial) (λh=>fq h 0 λf0=>f0)
end
end
section
noncomputable def argB:PySem.Expr->PySem.Expr
 | .Call _ (.BinOp _ _ r _::_) _ _=>r
 |e=>e
def kE1 (P:Params):PySem.Expr:=argB (valOf (sub 0 0 (stOf P 209 2)))
def kV1 (P:Params) (cl fr bc:Nat):Env:=cenv P 209 (kE1 P) cl fr [(stl [98,101,97,116,115],bc)] [95,108,97,119,95,107,105,110,103,115,46,60,108,111,99,97,108,115,62,46]
def kD1 (P:Params) (tq:Nat) (vq:Value) (r:Option (Nat×Value)) (n:Nat):Obj:=dob (en P [113] tq vq::oen P [114] r) n
def kDD (P:Params) (q r:Option (Nat×Value)) (n:Nat):Obj:=dob (oen P [113] q++oen P [114] r) n
abbrev Kc:=Nat×Nat×Nat×Nat×Nat×Nat×Nat×(List Value)×Value×Nat
noncomputable def Kc.it (x:Kc):Nat:=x.1
noncomputable def Kc.s (x:Kc):Nat:=x.2.1
noncomputable def Kc.acc (x:Kc):Nat:=x.2.2.1
noncomputable def Kc.cl (x:Kc):Nat:=x.2.2.2.1
noncomputable def Kc.fr (x:Kc):Nat:=x.2.2.2.2.1
noncomputable def Kc.bc (x:Kc):Nat:=x.2.2.2.2.2.1
noncomputable def Kc.n1 (x:Kc):Nat:=x.2.2.2.2.2.2.1
noncomputable def Kc.ss (x:Kc):List Value:=x.2.2.2.2.2.2.2.1
noncomputable def Kc.vq (x:Kc):Value:=x.2.2.2.2.2.2.2.2.1
noncomputable def Kc.tq (x:Kc):Nat:=x.2.2.2.2.2.2.2.2.2
def Kc.C (x:Kc) (P:Params):Code:= .compLoop (kE1 P) 1 (.ref (x.it+216)) (.ref (x.acc+216)) (kV1 P (x.cl+216) (x.fr+216) (x.bc+216))
def Kc.p (x:Kc) (P:Params) (ac:List Value) (n3 n4:Nat) (i:Int) (r:Option (Nat×Value)):List (Nat×Obj):=[(x.it+216,li (x.s+216) i),(x.acc+216,lo ac n3),(x.cl+216,kD1 P x.tq x.vq r n4)]
section
variable (P:Params) (w:World) (x:Kc) (ac:List Value) (n3 n4:Nat) (i:Int) (v:Int) (tv:Nat) (r:Option (Nat×Value))
def kin:Sp:={c:=x.C P,z:=[(x.s+216,lo x.ss x.n1)],i:=x.p P ac n3 n4 i r,r:=λ_ _=> .goto (x.C P),u:=λ_ ns=>[(0,li (x.s+216) (i+1)),(1,lo (ac++[.int v tv]) (n3+1)),(2,kD1 P x.tq x.vq (some (ns.g 1,.int v tv)) (ns.g 2))],ors:=[(λX=>cNext true (x.it+216) (x.s+216) x.ss x.n1 i (.int v tv),[0]),(λX=>ctAppend (x.acc+216) ac n3 (.int v tv),[1])],m:=2,tr:=[1,1,3,3,3,2],cs:=[1,1,0],ns:=λ_ _ N=>⟨[(N 1).t,oT r (N 0).t,oN r n4],[],[],[]⟩}
theorem kin_ok (hv:x.ss[i.toNat]?=some (.int v tv)) (hz:ac.length<=1000):OK (kin · x ac n3 n4 i v tv r) w 840 8700:=
 okF 2 (qY [0] (λ_=>next_ok _ w _ _ true _ _ _ _ _ hv)<|qN (λ_=>append_ok _ w _ _ _ _ _ _ hz)<|trivial) (e:=by cases r<;>kernel_rfl)
def kie:Sp:={c:=x.C P,z:=[(x.s+216,lo x.ss x.n1)],i:=x.p P ac n3 n4 i r,r:=λ_ _=> .ret (.ok .next),u:=λ_ ns=>[(0,liE i)],ors:=[(λX=>cNextE true (x.it+216) (x.s+216) x.ss x.n1 i,[0])],s:=1,m:=1,tr:=[1,1,4],cs:=[1],ns:=λ_ _ N=>⟨[(N 0).t],[],[],[]⟩}
theorem kie_ok (hv:x.ss[i.toNat]?=none):OK (kie · x ac n3 n4 i r) w 840 8700:=
 okF 1 (qY [0] (λ_=>nextE_ok _ w _ _ true _ _ _ _ _ hv)<|trivial) (e:=by cases r<;>kernel_rfl)
end
end
def cKi (P:Params) (x:Kc) (ac:List Value) (n3 n4:Nat) (i:Int) (r:Option (Nat×Value)) (out:List Int) (qs:Bool):Ct:=
 {code:=x.C P,hd:=some none,zpre:=[(x.s+216,lo x.ss x.n1)],pre:=x.p P ac n3 n4 i r,k:=0,fo:=λ_ _=> .ret (.ok .next),post:=λ_ ns=>[ns.p 0,lo (ac++ns.v) (ns.g 1),ns.p 1],news:=λ_ _=>[],fact:=λ_ ns=>IntsAre ns.v out/\∃r' n',ns.p 1=kD1 P x.tq x.vq r' n'/\r'.isSome=qs}
theorem kinner_ok (w:World) (x:Kc) {sI:List Int} (hS:IntsAre x.ss sI):∀(m j:Nat) (ac:List Value) (n3 n4:Nat) (r:Option (Nat×Value)) (qs:Bool),x.ss.length-j=m->ac.length+m<=1000->qs=(r.isSome|| !(sI.drop j).isEmpty)->(cKi w.params x ac n3 n4 j r (sI.drop j) qs).Ok (ktOf w.params) prg w 840 8700
 |0,j,ac,n3,n4,r,qs,hm,hac,hq=>by
  have hj:=Nat.le_of_sub_eq_zero hm;have hv:x.ss[((j:Nat):Int).toNat]?=none:=jU.mpr hj;have hd:=drop_none (jU.mpr (hS.length▸hj));exact Ct.Ok.pad (kie_ok w x ac n3 n4 j r hv) [0,1,2] (by decide) (lt_all (n:=3) rfl) rfl rfl rfl rfl (λ_ h=>h) rfl λas ns _ _=>⟨⟨[ns.t,n3],[liE j,kD1 w.params x.tq x.vq r n4],[],[]⟩,jk (λl=>[liE j,lo l n3,kD1 w.params x.tq x.vq r n4]) (jx _),rfl,rfl,⟨hd▸ .nil,r,n4,rfl,by rw [hq,hd];exact (Bool.or_false _).symm⟩,rfl,rfl⟩
 |m+1,j,ac,n3,n4,r,qs,hm,hac,hq=>by
  obtain ⟨v,hv⟩:=at_of (l:=x.ss) (k:=j) (by omega);obtain ⟨q,tv,rfl,hq'⟩:=hS.at j v hv;have hd:sI.drop j=q::sI.drop (j+1):=drop_at hq';exact Ct.Ok.seq (kin_ok w x ac n3 n4 j q tv r hv (by omega)) [0,1,2] (by decide) (lt_all (n:=3) rfl) rfl rfl rfl rfl (λ_ h=>h) rfl λns _=>⟨_,_,λn2=>{n2 with v:= .int q tv::n2.v,z:=[]},rfl,kinner_ok w x hS m (j+1) (ac++[.int q tv]) (n3+1) (ns.g 2) (some (ns.g 1,.int q tv)) qs (by omega) (by rw [jZ];simp;omega) (by rw [hq,hd];simp),rfl,rfl,rfl,rfl,rfl,rfl,λas n2 _ h=>⟨by exact jk (λl=>[n2.p 0,lo l (n2.g 1),n2.p 1]) (jV ac [.int q tv] n2.v).symm,rfl,rfl,⟨hd▸ .cons q tv h.1,h.2⟩,rfl,rfl⟩⟩
section
def kDX (P:Params) (d:Od) (n:Nat):Obj:=match d with
 |none=>kDD P none none n
 |some (q,r)=>kDD P (some q) r n
abbrev Kx:=Nat×Nat×Nat×Nat×Nat×Nat×Nat×Nat×Nat×(List Value)
noncomputable def Kx.it (x:Kx):Nat:=x.1
noncomputable def Kx.s0 (x:Kx):Nat:=x.2.1
noncomputable def Kx.bt (x:Kx):Nat:=x.2.2.1
noncomputable def Kx.acc (x:Kx):Nat:=x.2.2.2.1
noncomputable def Kx.cl (x:Kx):Nat:=x.2.2.2.2.1
noncomputable def Kx.fr (x:Kx):Nat:=x.2.2.2.2.2.1
noncomputable def Kx.bc (x:Kx):Nat:=x.2.2.2.2.2.2.1
noncomputable def Kx.n0 (x:Kx):Nat:=x.2.2.2.2.2.2.2.1
noncomputable def Kx.nb (x:Kx):Nat:=x.2.2.2.2.2.2.2.2.1
noncomputable def Kx.ps (x:Kx):List Value:=x.2.2.2.2.2.2.2.2.2
namespace Kx
def C (x:Kx) (P:Params):Code:= .compLoop (kE1 P) 0 (.ref (x.it+216)) (.ref (x.acc+216)) (kV1 P (x.cl+216) (x.fr+216) (x.bc+216))
noncomputable def p (x:Kx) (P:Params) (ac:List Value) (n3 n4:Nat) (i:Int) (d:Od):List (Nat×Obj):=[(x.it+216,li (x.s0+216) i),(x.acc+216,lo ac n3),(x.cl+216,kDX P d n4),(x.bc+216,cellO (.ref (x.bt+216)))]
section
variable (P:Params) (w:World) (x:Kx) (ac bf ss:List Value) (n3 n4 s n1:Nat) (i:Int) (q tq:Nat) (sI:List Int) (d:Od) (qs:Bool)
noncomputable def tu:Sp:={c:=x.C P,z:=[(x.bt+216,lo bf x.nb),(x.s0+216,lo x.ps x.n0),(s+216,lo ss n1)],i:=x.p P ac n3 n4 i d,r:=λ_ _=> .goto (x.C P),u:=λ_ ns=>[(0,li (x.s0+216) (i+1)),(1,lo (ac++ns.v) (ns.g 1)),(2,ns.p 0)],f:=λ_ ns=>IntsAre ns.v sI/\∃t' r' n',ns.p 0=kD1 P t' (.int q tq) r' n'/\r'.isSome=qs,ors:=[(λX=>cNext true (x.it+216) (x.s0+216) x.ps x.n0 i (.int q tq),[0]),(λX=>cItem true (x.bt+216) bf x.nb q tq (.ref (s+216)),[]),(λX=>cKi P ⟨X.b 4,s,x.acc,x.cl,x.fr,x.bc,n1,ss,.int q tq,oT (d.map (·.1)) (X.t 1)⟩ ac n3 (oN (d.map (·.1)) n4) 0 (d.bind (·.2)) sI qs,[4,1,2])],s:=1,m:=3,tr:=[1,1,3,3,4,3,1001,1001,1001,1001,1003,1003,1003,5,5],cs:=[1,1,3,0],ns:=λ_ _ N=>⟨[(N 2).t,(N 2).g 1],[(N 2).p 1],(N 2).v,[]⟩}
theorem tu_ok (hv:x.ps[i.toNat]?=some (.int q tq)) (hq:q<5) (hm:bf[((q:Nat):Int).toNat]?=some (.ref (s+216))) (hS:IntsAre ss sI) (hac:ac.length+ss.length<=1000) (hqs:qs=((d.bind (·.2)).isSome|| !sI.isEmpty)):OK (tu · x ac bf ss n3 n4 s n1 i q tq sI d qs) w 780 8400:=
 okF 3 (qY [1] (λ_=>next_ok _ w _ _ true _ _ _ _ _ hv)<|qY [0] (λ_=>item_ok _ w _ _ true _ _ _ _ _ (kJ _) (by lia) hm)<|qY [2] (λ_=>kinner_ok w _ (by exact hS) ss.length 0 ac n3 _ _ qs rfl hac hqs)<|trivial) (λh=>fq h 2 λf2=>⟨f2.1,_,f2.2⟩) (e:=by rcases d with _|⟨_,_|_⟩<;>kernel_rfl)
def te:Sp:={c:=x.C P,z:=[(x.bt+216,lo bf x.nb),(x.s0+216,lo x.ps x.n0)],i:=x.p P ac n3 n4 i d,r:=λ_ _=> .ret (.ok .next),u:=λ_ ns=>[(0,liE i)],ors:=[(λX=>cNextE true (x.it+216) (x.s0+216) x.ps x.n0 i,[0])],s:=1,m:=1,tr:=[1,1,5],cs:=[1],ns:=λ_ _ N=>⟨[(N 0).t],[],[],[]⟩}
theorem te_ok (hv:x.ps[i.toNat]?=none):OK (te · x ac bf n3 n4 i d) w 840 8700:=
 okF 1 (qY [1] (λ_=>nextE_ok _ w _ _ true _ _ _ _ _ hv)<|trivial) (e:=by rcases d with _|⟨_,_|_⟩<;>kernel_rfl)
end
end Kx
end
noncomputable def shp:Od->Nat
 |none=>0
 |some (_,none)=>1
 |some (_,some _)=>2
noncomputable def rOf:Od->Bool
 |some (_,some _)=>true
 |_=>false
noncomputable def kRow (B:List (List Int)) (q:Int):List Int:=B.getD q.toNat []
def kOut (B:List (List Int)) (l:List Int):List Int:=l.flatMap (kRow B)
def kShp (B:List (List Int)) (r:Bool) (l:List Int):Nat:=match r||l.any (λq=> !(kRow B q).isEmpty) with|true=>2|false=>1
def cKo (P:Params) (x:Kx) (bz:List (Nat×Obj)) (ac:List Value) (n3 n4:Nat) (i:Int) (d:Od) (out:List Int) (sh:Nat):Ct:=
 {code:=x.C P,hd:=some none,zpre:=(x.bt+216,lo (refsOf bz) x.nb)::(x.s0+216,lo x.ps x.n0)::bz,pre:=x.p P ac n3 n4 i d,k:=0,fo:=λ_ _=> .ret (.ok .next),post:=λ_ ns=>[ns.p 0,lo (ac++ns.v) (ns.g 1),ns.p 1,cellO (.ref (x.bt+216))],news:=λ_ _=>[],fact:=λ_ ns=>IntsAre ns.v out/\∃d' n',ns.p 1=kDX P d' n'/\shp d'=sh}
def shR (B:List (List Int)) (d:Od):List Int->Nat
 |[]=>shp d
 |a::l=>kShp B (rOf d) (a::l)
theorem rOf_eq (d:Od):rOf d=(d.bind (·.2)).isSome:=by rcases d with _|⟨_,_|_⟩<;>rfl
theorem shR_cons {B:List (List Int)} {d:Od} {q:Int} {l:List Int} {p:Nat×Value} {r:Option (Nat×Value)} (h:r.isSome=(rOf d|| !(kRow B q).isEmpty)):shR B d (q::l)=shR B (some (p,r)) l:=by
 have e:rOf (some (p,r))=(rOf d|| !(kRow B q).isEmpty):=by rw [<-h];cases r<;>rfl
 have e1:kShp B (rOf d) (q::l)=kShp B (rOf d|| !(kRow B q).isEmpty) l:=by unfold kShp;rw [any_cons,Bool.or_assoc]
 show kShp B (rOf d) (q::l)=_;rw [e1,<-e];cases l with
 |nil=>cases r<;>rfl
 |cons a l=>rfl
theorem ko_ok (w:World) (x:Kx) {bz:List (Nat×Obj)} {B:List (List Int)} {pI:List Int} (hB:RowsAre bz B) (hP:IntsAre x.ps pI) (hb5:∀s∈B,s.length<=5) (hne:∀q∈pI,∃m:Nat,q=(m:Int)/\m<B.length) (hbl:B.length<=5):∀(k j:Nat) (ac:List Value) (n3 n4:Nat) (d:Od),pI.length-j=k->ac.length+5*k<=900->(cKo w.params x bz ac n3 n4 j d (kOut B (pI.drop j)) (shR B d (pI.drop j))).Ok (ktOf w.params) prg w 780 8400
 |0,j,ac,n3,n4,d,hm,hac=>by
  have hj:=Nat.le_of_sub_eq_zero hm;have hv:x.ps[((j:Nat):Int).toNat]?=none:=jU.mpr (hP.length▸hj);rw [drop_none (jU.mpr hj)];exact Ct.Ok.pad (x.te_ok w ac (refsOf bz) n3 n4 j d hv).m [0,1,2,3] (by decide) (lt_all (n:=4) rfl) rfl rfl rfl rfl (λ_ h=>jj bz (as:=[_,_]) h) rfl λas ns _ _=>⟨⟨[ns.t,n3],[liE j,kDX w.params d n4],[],[]⟩,jk (λl=>[liE j,lo l n3,kDX w.params d n4,cellO (.ref (x.bt+216))]) (jx _),rfl,rfl,⟨.nil,d,n4,rfl,rfl⟩,rfl,rfl⟩
 |k+1,j,ac,n3,n4,d,hm,hac=>by
  obtain ⟨q0,hq0⟩:=at_of (l:=pI) (k:=j) (by omega);obtain ⟨q,rfl,hqB⟩:=hne q0 (jy hq0);obtain ⟨tq,htq⟩:=hP.get j q hq0;obtain ⟨sI,hs⟩:=at_of hqB;obtain ⟨z,hz⟩:=hB.find hs;obtain ⟨ss,n1,sI',hge2,ho2,hI2,hs'⟩:=hB.at hz;rw [hs] at hs';cases hs';obtain ⟨s,hsq⟩:∃s,z.1=s+216:=⟨z.1-216,by omega⟩
  have hzm:(s+216,lo ss n1)∈bz:=by rw [<-hsq,<-ho2];exact jy hz
  have hbm:=refsOf_at hz;rw [hsq] at hbm;have hs5:=hb5 sI (jy hs);have hss:=hI2.length;have hrow:kRow B (q:Int)=sI:=by unfold kRow;rw [Int.toNat_natCast,zY,hs];rfl
  rw [drop_at hq0,show kOut B ((q:Int)::pI.drop (j+1))=sI++kOut B (pI.drop (j+1)) by unfold kOut;rw [flatMap_cons,hrow]];refine Ct.Ok.seq (x.tu_ok w ac (refsOf bz) ss n3 n4 s n1 j q tq sI d _ htq (by omega) hbm hI2 (by omega) rfl) [0,1,2,3] (by decide) (lt_all (n:=4) rfl) rfl rfl rfl rfl (λy hy=>?_) rfl λns hf=>?_
  ·rcases jq.mp (show y∈[(x.bt+216,lo (refsOf bz) x.nb),(x.s0+216,lo x.ps x.n0)]++[(s+216,lo ss n1)] from hy) with hy|hy
   ·exact jj bz hy
   ·rw [jJ.mp hy]
    exact jz [_,_] hzm
  ·obtain ⟨f1,t',r',n',f2,f3⟩:=hf
   have hnl:ns.v.length<=5:=f1.length▸hs5;refine ⟨_,_,λn2=>{n2 with v:=ns.v++n2.v,z:=[]},rfl,ko_ok w x hB hP hb5 hne hbl k (j+1) (ac++ns.v) (ns.g 1) n' (some ((t',.int q tq),r')) (by omega) (by rw [jZ];omega),rfl,rfl,rfl,?_,rfl,rfl,λas n2 _ h=>⟨by exact jk (λl=>[n2.p 0,lo l (n2.g 1),n2.p 1,cellO (.ref (x.bt+216))]) (jV ..).symm,rfl,rfl,⟨f1.append h.1,?_⟩,rfl,rfl⟩⟩
   ·show _=[_,_,(_,ns.p 0),_]
    rw [f2];cases r'<;>rfl
   ·rw [shR_cons (p:=(t',.int q tq)) (r:=r') (by rw [f3,rOf_eq,hrow])]
    exact h.2
def kDF (P:Params) (sh:Nat) (ns:Ns):Obj:=match sh with
 |0=>kDD P none none (ns.g 4)
 |1=>kDD P (some (ns.g 2,ns.w 0)) none (ns.g 4)
 |_=>kDD P (some (ns.g 2,ns.w 0)) (some (ns.g 3,ns.w 1)) (ns.g 4)
def kSh0 (B:List (List Int)):List Int->Nat
 |[]=>0
 |a::l=>kShp B false (a::l)
def cKoF (P:Params) (x:Kx) (bz:List (Nat×Obj)) (out:List Int) (sh:Nat):Ct:=
 {code:=x.C P,hd:=some none,zpre:=(x.bt+216,lo (refsOf bz) x.nb)::(x.s0+216,lo x.ps x.n0)::bz,pre:=x.p P [] 0 0 0 none,k:=0,fo:=λ_ _=> .ret (.ok .next),post:=λ_ ns=>[ns.p 0,lo (ns.v.drop 2) (ns.g 1),kDF P sh ns,cellO (.ref (x.bt+216))],news:=λ_ _=>[],fact:=λ_ ns=>IntsAre (ns.v.drop 2) out}
theorem kDF_of (P:Params) (d:Od) (n:Nat):∃a b u v,∀t g o l,kDX P d n=kDF P (shp d) ⟨t::g::a::b::n::[],o,u::v::l,[]⟩:=by
 rcases d with _|⟨q,_|r⟩
 ·exact ⟨0,0,.none,.none,λ_ _ _ _=>rfl⟩
 ·exact ⟨q.1,0,q.2,.none,λ_ _ _ _=>rfl⟩
 ·exact ⟨q.1,r.1,q.2,r.2,λ_ _ _ _=>rfl⟩
theorem koF_ok (w:World) (x:Kx) {bz:List (Nat×Obj)} {B:List (List Int)} {pI:List Int} {sh:Nat} (hB:RowsAre bz B) (hP:IntsAre x.ps pI) (hb5:∀s∈B,s.length<=5) (hne:∀q∈pI,∃m:Nat,q=(m:Int)/\m<B.length) (hbl:B.length<=5) (hp5:pI.length<=5) (hsh:sh=kSh0 B pI):(cKoF w.params x bz (kOut B pI) sh).Ok (ktOf w.params) prg w 780 8400:=by
 have es:shR B none pI=sh:=by rw [hsh];cases pI<;>rfl
 refine Ct.Ok.pad (es▸ko_ok w x hB hP hb5 hne hbl pI.length 0 [] 0 0 none rfl (by simp;omega):(cKo w.params x bz [] 0 0 0 none (kOut B pI) sh).Ok (ktOf w.params) prg w 780 8400) [0,1,2,3] (by decide) (lt_all (n:=4) rfl) rfl rfl rfl rfl (λ_ h=>h) rfl λas ns _ hf=>?_;obtain ⟨f1,d',n',f2,rfl⟩:=hf;obtain ⟨a,b,u,v,e⟩:=kDF_of w.params d' n';exact ⟨⟨[ns.t,ns.g 1,a,b,n'],[ns.p 0],u::v::ns.v,[]⟩,jk (λo=>[ns.p 0,lo ns.v (ns.g 1),o,cellO (.ref (x.bt+216))]) ((e ..).symm.trans f2.symm),rfl,rfl,f1,rfl,rfl⟩
section
noncomputable def appB (ac:List Value) (b:Bool) (v:Value):List Value:=match b with|true=>ac++[v]|false=>ac
def kE2 (P:Params):PySem.Expr:=valOf (sub 0 1 (stOf P 209 2))
def kV2 (P:Params) (cl fr nc:Nat):Env:=cenv P 209 (kE2 P) cl fr [(stl [110,101,97,114],nc)] [95,108,97,119,95,107,105,110,103,115,46,60,108,111,99,97,108,115,62,46]
abbrev Kq:=Nat×Nat×Nat×Nat×Nat×Nat×Nat×Nat×Nat×(List Value)×(List Value)
noncomputable def Kq.it (x:Kq):Nat:=x.1
noncomputable def Kq.ev (x:Kq):Nat:=x.2.1
noncomputable def Kq.acc (x:Kq):Nat:=x.2.2.1
noncomputable def Kq.cl (x:Kq):Nat:=x.2.2.2.1
noncomputable def Kq.fr (x:Kq):Nat:=x.2.2.2.2.1
noncomputable def Kq.nc (x:Kq):Nat:=x.2.2.2.2.2.1
noncomputable def Kq.nr (x:Kq):Nat:=x.2.2.2.2.2.2.1
noncomputable def Kq.n1 (x:Kq):Nat:=x.2.2.2.2.2.2.2.1
noncomputable def Kq.n2 (x:Kq):Nat:=x.2.2.2.2.2.2.2.2.1
noncomputable def Kq.evs (x:Kq):List Value:=x.2.2.2.2.2.2.2.2.2.1
noncomputable def Kq.nrs (x:Kq):List Value:=x.2.2.2.2.2.2.2.2.2.2
def Kq.C (x:Kq) (P:Params):Code:= .compLoop (kE2 P) 0 (.ref (x.it+216)) (.ref (x.acc+216)) (kV2 P (x.cl+216) (x.fr+216) (x.nc+216))
section
variable (P:Params) (w:World) (x:Kq) (ac:List Value) (n3 n4:Nat) (q:Int) (tq:Nat) (d:Option (Nat×Value)) (b:Bool)
def kl:Sp:={c:=x.C P,i:=[(x.it+216,li (x.ev+216) q),(x.ev+216,lo x.evs x.n1),(x.acc+216,lo ac n3),(x.cl+216,dob (oen P [113] d) n4),(x.nc+216,cellO (.ref (x.nr+216))),(x.nr+216,lo x.nrs x.n2)],r:=λ_ _=> .goto (x.C P),u:=λ_ ns=>[(0,li (x.ev+216) (q+1)),(2,lo (appB ac b (.int q tq)) (ns.g 3)),(3,dob (oen P [113] (some (ns.g 1,.int q tq))) (ns.g 2))],ors:=(λX=>cNext false (x.it+216) (x.ev+216) x.evs x.n1 q (.int q tq),[0,1])::(λX=>cContains false (x.nr+216) x.nrs x.n2 q tq (!b),[5])::cond b [(λX=>ctAppend (x.acc+216) ac n3 (.int q tq),[2])] [],m:=cond b 3 2,tr:=[1,1,4,4,4,5,6,6,6]++cond b [4,3] [],cs:=1::1::cond b [1,0] [0],ns:=λ_ _ N=>⟨[(N (cond b 2 1)).t,oT d (N 0).t,oN d n4,cond b (n3+1) n3],[],[],[]⟩}
theorem kl_ok {nI:List Int} (hv:x.evs[q.toNat]?=some (.int q tq)) (hN:IntsAre x.nrs nI) (hr:(!nI.contains q)=b) (hz:ac.length<=1000):OK (kl · x ac n3 n4 q tq d b) w 840 8700:=by
 have hr:nI.contains q= !b:=by rw [<-hr,Bool.not_not]
 cases b with
 |false=>exact okF 2 (qN (λ_=>next_ok _ w _ _ false _ _ _ _ _ hv)<|qN (λ_=>contains_ok _ w _ _ false _ _ _ _ hN hr)<|trivial) (e:=by cases d<;>kernel_rfl)
 |true=>exact okF 3 (qN (λ_=>next_ok _ w _ _ false _ _ _ _ _ hv)<|qN (λ_=>contains_ok _ w _ _ false _ _ _ _ hN hr)<|qN (λ_=>append_ok _ w _ _ _ _ _ _ hz)<|trivial) (e:=by cases d<;>kernel_rfl)
end
end
section
noncomputable def appI (l:List Int) (b:Bool) (q:Int):List Int:=match b with|true=>l++[q]|false=>l
def lackOf (b0 b1 b2 b3 b4:Bool):List Int:=appI (appI (appI (appI (appI [] b0 0) b1 1) b2 2) b3 3) b4 4
noncomputable def every5:List Int:=[0,1,2,3,4]
def nearOf (B:List (List Int)) (p:Nat) (pI:List Int):List Int:=isort (([(p:Int)]++pI)++kOut B pI)
def kF (P:Params) (k0 k1:Nat) (ev kg:Nat) (pl:Option ((Nat×Value)×(Nat×Value))) (n:Nat) (sl:Array (Option Value)):Obj:=fob (en P [101,118,101,114,121] k0 (.ref ev)::en P [107,105,110,103,115] k1 (.ref kg)::(match pl with|none=>[]|some x=>[en P [112] x.1.1 x.1.2,en P [108,97,99,107] x.2.1 x.2.2])) n sl
def kCells (bc nc:Nat):List (Str×Addr):=[(stl [110,101,97,114],nc),(stl [98,101,97,116,115],bc)]
noncomputable def cellN (v:Option Value):Obj:={cls:= .type "cell",data:= .cell v}
theorem appI_ok {ac:List Value} {l:List Int} (h:IntsAre ac l) (b:Bool) (q:Int) (t:Nat):IntsAre (appB ac b (.int q t)) (appI l b q):=by
 cases b with
 |true=>exact IntsAre.append h (.cons q t .nil)
 |false=>exact h
noncomputable def shN:Option Bool->Nat
 |none=>0
 |some false=>1
 |some true=>2
noncomputable def ev5 (t:Nat):List Value:=[.int 0 t,.int 1 (t+1),.int 2 (t+2),.int 3 (t+3),.int 4 (t+4)]
theorem ev5_ok (t:Nat):IntsAre (ev5 t) every5:= .cons 0 t (.cons 1 _ (.cons 2 _ (.cons 3 _ (.cons 4 _ .nil))))
theorem ev5_at (t:Nat) {k:Nat} (h:k<5):(ev5 t)[((k:Nat):Int).toNat]?=some (.int k (t+k)):=by
 rcases k with _|_|_|_|_|k<;>first|rfl|exact absurd h (vQ.mpr (Nat.le_add_left 5 k))
def appK (b:Nat->Bool) (t:Nat):Nat->List Value
 |0=>[]
 |k+1=>appB (appK b t k) (b k) (.int k (t+k))
def appL (b:Nat->Bool):Nat->List Int
 |0=>[]
 |k+1=>appI (appL b k) (b k) k
theorem appK_ok (b:Nat->Bool) (t:Nat):∀k,IntsAre (appK b t k) (appL b k)
 |0=> .nil
 |k+1=>appI_ok (appK_ok b t k) _ _ _
theorem appK_len (b:Nat->Bool) (t:Nat):∀k,(appK b t k).length<=k
 |0=>jv _
 |k+1=>by
  have:=appK_len b t k;show (appB (appK b t k) (b k) _).length<=k+1;cases b k
  ·exact Nat.le_succ_of_le this
  ·show (appK b t k++[_]).length<=k+1
   rw [jZ];exact Nat.succ_le_succ this
abbrev Kt:=(Option ((Nat×Value)×(Nat×Value)))×Nat×Nat×Nat×Nat×Nat×Nat×Nat×Nat×Nat×(List (Nat×Obj))×(List (Str×Addr))×(List DictEntry)×Nat×Nat×Nat×Nat×Nat×Nat×Nat×Nat×Nat×(List Value)×(List Value)×Nat×(Option Value)×SA×SA×(List (List Int))×(List Int)×(Nat->Bool)
noncomputable def Kt.pl (x:Kt):Option ((Nat×Value)×(Nat×Value)):=x.1
noncomputable def Kt.fr (x:Kt):Nat:=x.2.1
noncomputable def Kt.it (x:Kt):Nat:=x.2.2.1
noncomputable def Kt.ev (x:Kt):Nat:=x.2.2.2.1
noncomputable def Kt.kg (x:Kt):Nat:=x.2.2.2.2.1
noncomputable def Kt.bc (x:Kt):Nat:=x.2.2.2.2.2.1
noncomputable def Kt.nc (x:Kt):Nat:=x.2.2.2.2.2.2.1
noncomputable def Kt.lf (x:Kt):Nat:=x.2.2.2.2.2.2.2.1
noncomputable def Kt.bt (x:Kt):Nat:=x.2.2.2.2.2.2.2.2.1
noncomputable def Kt.s0 (x:Kt):Nat:=x.2.2.2.2.2.2.2.2.2.1
noncomputable def Kt.bz (x:Kt):List (Nat×Obj):=x.2.2.2.2.2.2.2.2.2.2.1
noncomputable def Kt.lc (x:Kt):List (Str×Addr):=x.2.2.2.2.2.2.2.2.2.2.2.1
noncomputable def Kt.lE (x:Kt):List DictEntry:=x.2.2.2.2.2.2.2.2.2.2.2.2.1
noncomputable def Kt.ln (x:Kt):Nat:=x.2.2.2.2.2.2.2.2.2.2.2.2.2.1
noncomputable def Kt.k0 (x:Kt):Nat:=x.2.2.2.2.2.2.2.2.2.2.2.2.2.2.1
noncomputable def Kt.k1 (x:Kt):Nat:=x.2.2.2.2.2.2.2.2.2.2.2.2.2.2.2.1
noncomputable def Kt.n (x:Kt):Nat:=x.2.2.2.2.2.2.2.2.2.2.2.2.2.2.2.2.1
noncomputable def Kt.nb (x:Kt):Nat:=x.2.2.2.2.2.2.2.2.2.2.2.2.2.2.2.2.2.1
noncomputable def Kt.n0 (x:Kt):Nat:=x.2.2.2.2.2.2.2.2.2.2.2.2.2.2.2.2.2.2.1
noncomputable def Kt.n1 (x:Kt):Nat:=x.2.2.2.2.2.2.2.2.2.2.2.2.2.2.2.2.2.2.2.1
noncomputable def Kt.nk (x:Kt):Nat:=x.2.2.2.2.2.2.2.2.2.2.2.2.2.2.2.2.2.2.2.2.1
noncomputable def Kt.t0 (x:Kt):Nat:=x.2.2.2.2.2.2.2.2.2.2.2.2.2.2.2.2.2.2.2.2.2.1
noncomputable def Kt.kgs (x:Kt):List Value:=x.2.2.2.2.2.2.2.2.2.2.2.2.2.2.2.2.2.2.2.2.2.2.1
noncomputable def Kt.ps (x:Kt):List Value:=x.2.2.2.2.2.2.2.2.2.2.2.2.2.2.2.2.2.2.2.2.2.2.2.1
noncomputable def Kt.p (x:Kt):Nat:=x.2.2.2.2.2.2.2.2.2.2.2.2.2.2.2.2.2.2.2.2.2.2.2.2.1
noncomputable def Kt.vn (x:Kt):Option Value:=x.2.2.2.2.2.2.2.2.2.2.2.2.2.2.2.2.2.2.2.2.2.2.2.2.2.1
noncomputable def Kt.sl (x:Kt):SA:=x.2.2.2.2.2.2.2.2.2.2.2.2.2.2.2.2.2.2.2.2.2.2.2.2.2.2.1
noncomputable def Kt.lsl (x:Kt):SA:=x.2.2.2.2.2.2.2.2.2.2.2.2.2.2.2.2.2.2.2.2.2.2.2.2.2.2.2.1
noncomputable def Kt.B (x:Kt):List (List Int):=x.2.2.2.2.2.2.2.2.2.2.2.2.2.2.2.2.2.2.2.2.2.2.2.2.2.2.2.2.1
noncomputable def Kt.pI (x:Kt):List Int:=x.2.2.2.2.2.2.2.2.2.2.2.2.2.2.2.2.2.2.2.2.2.2.2.2.2.2.2.2.2.1
noncomputable def Kt.b (x:Kt):Nat->Bool:=x.2.2.2.2.2.2.2.2.2.2.2.2.2.2.2.2.2.2.2.2.2.2.2.2.2.2.2.2.2.2
namespace Kt
section
variable (x:Kt) (P:Params) (sh:Option Bool) (kb:Bool)
def cc:List (Str×Addr):=kCells (x.bc+216) (x.nc+216)
def C:Code:=forC (stOf P 209 2) (.ref (x.it+216)) (kEnv P (x.fr+216) x.cc)
def L:List Value:=appK x.b x.t0 5
noncomputable def v:Value:= .int x.p (x.t0+x.p)
def nI:List Int:=nearOf x.B x.p x.pI
def tp (t:Nat):Nat:=match x.pl with|none=>t|some y=>y.1.1
def tl (t:Nat):Nat:=match x.pl with|none=>t|some y=>y.2.1
noncomputable def nn:Nat:=match x.pl with|none=>x.n+2|some _=>x.n
def fE (X:Cx):List DictEntry:=[en P [101,118,101,114,121] x.k0 (.ref (x.ev+216)),en P [107,105,110,103,115] x.k1 (.ref (x.kg+216)),en P [112] (x.tp (X.t 1)) x.v,en P [108,97,99,107] (x.tl (X.t 12)) (.ref (X.a 15))]
def kk (k:Nat):Oc:=(λX=>(kl P ⟨X.b 14,x.ev,X.b 15,X.b 16,x.fr,x.nc,X.b 13,x.n1,(X.s 7).g 1,ev5 x.t0,(X.s 7).v⟩ (appK x.b x.t0 k) (match k with|0=>0|k+1=>(X.s (8+k)).g 3) (match k with|0=>0|k+1=>(X.s (8+k)).g 2) k (x.t0+k) (match k with|0=>none|k+1=>some ((X.s (8+k)).g 1,.int k (x.t0+k))) (x.b k)).ct,[14,2,15,16,5,13])
def kx (X:Cx):Kx:=⟨X.b 9,x.s0,x.bt,X.b 10,X.b 11,x.fr,x.bc,x.n0,x.nb,x.ps⟩
def ors:List Oc:=[(λX=>cNext false (x.it+216) (x.ev+216) (ev5 x.t0) x.n1 x.p x.v,[1,2]),(λX=>cItem true (x.bt+216) (refsOf x.bz) x.nb x.p (x.t0+x.p) (.ref (x.s0+216)),[]),(λX=>cAdd2 false true (X.a 7) (x.s0+216) [x.v] x.ps 0 x.n0,[7]),(λX=>cItem true (x.bt+216) (refsOf x.bz) x.nb x.p (x.t0+x.p) (.ref (x.s0+216)),[]),(λX=>cKoF P (x.kx X) x.bz (kOut x.B x.pI) (shN sh),[9,10,11,4]),(λX=>cAdd2 false false (X.a 8) (X.a 10) ([x.v]++x.ps) ((X.s 5).v.drop 2) 0 ((X.s 5).g 1),[8,10]),(λX=>cSorted false (X.a 12) (([x.v]++x.ps)++(X.s 5).v.drop 2) 0 x.nI,[12]),x.kk P 0,x.kk P 1,x.kk P 2,x.kk P 3,x.kk P 4,(λX=>(fsld P x.ev (X.b 13) x.fr x.lf x.cc x.lc (x.fE P X) x.lE x.nn x.ln x.n1 ((X.s 7).g 1) (ev5 x.t0) (X.s 7).v x.sl x.lsl every5 x.nI (appL x.b 5) []).ct,[2,13,0,6]),(λX=>cTNe (X.a 19) (X.a 23) (X.a 20) (X.a 21) (X.a 15) (X.a 22) ((X.s 13).p 2) ((X.s 13).p 3) (lo x.L ((X.s 12).g 3)) (lo [] 0),[19,23,20,21,15,22]),(λX=>(fsld P (X.b 13) x.ev x.fr x.lf x.cc x.lc (x.fE P X) x.lE x.nn x.ln ((X.s 7).g 1) x.n1 (X.s 7).v (ev5 x.t0) ((X.s 13).p 0).slots ((X.s 13).p 1).slots x.nI every5 [] (appL x.b 5)).ct,[13,2,0,6]),(λX=>cTNe (X.a 24) (X.a 28) (X.a 25) (X.a 26) (X.a 27) (X.a 15) ((X.s 15).p 2) ((X.s 15).p 3) (lo [] 0) (lo x.L ((X.s 12).g 3)),[24,28,25,26,27,15]),(λX=>cLEq false false (X.a 15) (X.a 29) x.L [] ((X.s 12).g 3) 0 kb,[15,29])]++cond kb [(λX=>ctAppend (x.kg+216) x.kgs x.nk x.v,[3])] []
noncomputable def tu:Sp:={c:=x.C P,fr:=some [kEnv P (x.fr+216) x.cc,lEnv P (x.lf+216) x.lc],z:=(x.bt+216,lo (refsOf x.bz) x.nb)::(x.s0+216,lo x.ps x.n0)::x.bz,i:=[(x.fr+216,kF P x.k0 x.k1 (x.ev+216) (x.kg+216) x.pl x.n x.sl),(x.it+216,li (x.ev+216) x.p),(x.ev+216,lo (ev5 x.t0) x.n1),(x.kg+216,lo x.kgs x.nk),(x.bc+216,cellO (.ref (x.bt+216))),(x.nc+216,cellN x.vn),(x.lf+216,fob x.lE x.ln x.lsl)],r:=λ_ _=> .goto (x.C P),u:=λ_ ns=>[(0,kF P x.k0 x.k1 (x.ev+216) (x.kg+216) (some ((ns.g 1,x.v),(ns.g 2,ns.w 0))) (ns.g 3) (ns.p 0).slots),(1,li (x.ev+216) (x.p+1)),(3,lo (appB x.kgs kb x.v) (ns.g 4)),(5,cellN (some (ns.w 1))),(6,fob x.lE x.ln (ns.p 1).slots)],ors:=x.ors P sh kb,tt:=40,s:=23,m:=cond kb 18 17,tr:=[2,2,1,1,0,0,1,5,1,1001,1001,1001,1001,8,1002,8,8,5,1,1001,1001,1001,1001,1002,1002,1002,10,10,12,12]++(match sh with|none=>[]|some false=>[12,12]|some true=>[12,12,12,12])++[9,11,9,9,6,6,1,3,3,3,15,15,15,15,15,15,3,15,15,19,1,1,17,17,17,0,1,6,0,1,20,24,20,20,0,6,1,0,1,25,29,25,25,1,16,30,16,16]++cond kb [1,4,4,4,4,1,4] [],cs:=[1,1,1,1,3,1,1,3,0,0,0,0,3,1,0,1,1]++cond kb [1,0] [0],ns:=λ_ b N=>⟨[(N (cond kb 17 16)).t,x.tp (N 0).t,x.tl (N 11).t,x.nn,cond kb (x.nk+1) x.nk],(N 14).o,[.ref (b 8),.ref (b 6)],[]⟩}
end
structure Ok (x:Kt):Prop where
 p:x.p<5
 m:(refsOf x.bz)[((x.p:Nat):Int).toNat]?=some (.ref (x.s0+216))
 B:RowsAre x.bz x.B
 P:IntsAre x.ps x.pI
 b5:∀s∈x.B,s.length<=5
 ne:∀q∈x.pI,∃m:Nat,q=(m:Int)/\m<x.B.length
 bl:x.B.length<=5
 p5:x.pI.length<=5
 ko:(kOut x.B x.pI).length<=40
 nl:x.nI.length<=400
 k:∀k<5,(!x.nI.contains ((k:Nat):Int))=x.b k
 s1:sldF every5 x.nI=some (appL x.b 5,[])
 s2:sldF x.nI every5=some ([],appL x.b 5)
 kg:x.kgs.length<=1000
theorem tu_e (x:Kt) (P:Params) (sh:Option Bool):(x.tu P sh false).E P 660 7800:=by
 rcases x with ⟨_|_⟩<;>rcases sh with _|_|_<;>kernel_rfl
theorem tu_e' (x:Kt) (P:Params) (sh:Option Bool):(x.tu P sh true).E P 660 7800:=by
 rcases x with ⟨_|_⟩<;>rcases sh with _|_|_<;>kernel_rfl
section
variable (w:World) {x:Kt} (o:x.Ok) {X:Cx}
include o
theorem kk_ok {k:Nat} (h:k<5) (f:IntsAre (X.s 7).v x.nI):((x.kk w.params k).1 X).Ok (ktOf w.params) prg w 840 8700:=kl_ok w _ _ _ _ _ _ _ _ (ev5_at _ h) f (o.k k h) (zZ (appK_len ..) (by lia))
theorem tu_ok {sh:Option Bool} {kb:Bool} (hsh:shN sh=kSh0 x.B x.pI) (hlk:decide (appL x.b 5=[])=kb):OK (x.tu · sh kb) w 660 7800:=by
 have hp:=o.p;have p5:=o.p5;have lp:=o.P.length;have ko:=o.ko;have l6:∀{X:Cx},IntsAre (X.s 7).v x.nI->(X.s 7).v.length<=400:=λf=>by rw [f.length];exact o.nl
 have lk:=appK_ok x.b x.t0 5;have h:∀n,AllQ w 660 7800 (x.tu w.params sh kb) 17 n->AllQ w 660 7800 (x.tu w.params sh kb) 0 (n+17):=λn t=>
  qN (λ_=>next_ok _ w _ _ false _ _ _ _ _ (ev5_at _ hp))<|qY [0] (λ_=>item_ok _ w _ _ true _ _ _ _ _ (kJ _) (by lia) o.m)<|qY [1] (λ_=>add2_ok _ w _ _ false true _ _ _ _ _ _ (by show 1+x.ps.length<=1000;lia))<|qY [0] (λ_=>item_ok _ w _ _ true _ _ _ _ _ (kJ _) (by lia) o.m)<|qC (λX hF=>(λ_ h=>zs_at _ h) _ hF) (λX _=>(koF_ok w (x.kx X) o.B o.P o.b5 o.ne o.bl o.p5 hsh).m)<|qI (λX hF=>fq hF 4 λf4=>add2_ok _ w _ _ false false _ _ _ _ _ _ (by have:((X.s 5).v.drop 2).length=_:=f4.length;show (x.ps.length+1)+((X.s 5).v.drop 2).length<=1000;lia))<|qI (λX hF=>fq hF 4 λf4=>sorted_ok _ w _ _ false _ _ (IntsAre.append (IntsAre.append (.cons (x.p:Int) (x.t0+x.p) .nil) o.P) f4) (by have:((X.s 5).v.drop 2).length=_:=f4.length;rw [jZ];show (x.ps.length+1)+((X.s 5).v.drop 2).length<64;lia))<|qI (λ_ hF=>fq hF 6 λf=>(kk_ok w o (by decide) f).m)<|qI (λ_ hF=>fq hF 6 λf=>(kk_ok w o (by decide) f).m)<|qI (λ_ hF=>fq hF 6 λf=>(kk_ok w o (by decide) f).m)<|qI (λ_ hF=>fq hF 6 λf=>(kk_ok w o (by decide) f).m)<|qI (λ_ hF=>fq hF 6 λf=>(kk_ok w o (by decide) f).m)<|qI (λ_ hF=>fq hF 6 λf=>fsld_ok w _ _ _ _ _ _ _ _ _ _ _ _ _ _ _ _ _ _ _ _ (ev5_ok _) f (by show 5<=400;decide) (l6 f) o.s1)<|qI (λ_ hF=>fq hF 12 λf=>tne_ok _ w _ _ (by decide) _ _ _ _ _ _ f.1 f.2 (.of lk) (.of .nil))<|qI (λ_ hF=>fq hF 6 λf=>fsld_ok w _ _ _ _ _ _ _ _ _ _ _ _ _ _ _ _ _ _ _ _ f (ev5_ok _) (l6 f) (by show 5<=400;decide) o.s2)<|qI (λ_ hF=>fq hF 14 λf=>tne_ok _ w _ _ (by decide) _ _ _ _ _ _ f.1 f.2 (.of .nil) (.of lk))<|qN (λ_=>leq_ok _ w _ _ (by decide) false false _ _ _ _ lk .nil hlk) t
 cases kb
 ·exact okF 17 (h 0 trivial) (e:=tu_e ..)
 ·exact okF 18 (h 1 (qN (λ_=>append_ok _ w _ _ _ _ _ _ o.kg) trivial)) (e:=tu_e' ..)
end
end Kt
end
section
noncomputable def rA (bz:List (Nat×Obj)) (k:Nat):Nat:=(bz.getD k (0,default)).1-216
noncomputable def rV (bz:List (Nat×Obj)) (k:Nat):List Value:=match (bz.getD k (0,default)).2.data with| .seq a _=>a.toList|_=>[]
noncomputable def rN (bz:List (Nat×Obj)) (k:Nat):Nat:=match (bz.getD k (0,default)).2.data with| .seq _ n=>n|_=>0
theorem row_at {bz:List (Nat×Obj)} {B:List (List Int)} (h:RowsAre bz B):∀k,k<B.length->(rA bz k+216,lo (rV bz k) (rN bz k))∈bz/\(refsOf bz)[k]?=some (.ref (rA bz k+216))/\IntsAre (rV bz k) (B.getD k []):=by
 induction h with
 |nil=>exact λk h=>absurd h (Nat.not_lt_zero _)
 |@cons p z _ _ xs n h1 h2 h3 h4 ih=>
  intro k h;cases k with
  |zero=>
   obtain ⟨a,o⟩:=p;have h1:216<=a:=h1;have h2:o=lo xs n:=h2;subst h2;have e:rA ((a,lo xs n)::z) 0+216=a:=by show a-216+216=a;lia
   refine ⟨?_,?_,h3⟩
   ·rw [e];exact zy
   ·rw [e];rfl
  |succ k=>
   obtain ⟨i1,i2,i3⟩:=ih k (Nat.lt_of_succ_lt_succ h);exact ⟨zv _ i1,i2,i3⟩
def bitK (B:List (List Int)) (p:Nat) (k:Int):Bool:= !(nearOf B p (B.getD p [])).contains k
def lackK (B:List (List Int)) (p:Nat):List Int:=lackOf (bitK B p 0) (bitK B p 1) (bitK B p 2) (bitK B p 3) (bitK B p 4)
def kingK (B:List (List Int)) (p:Nat):Bool:=decide (lackK B p=[])
def okK (B:List (List Int)) (p:Nat):Prop:=(kOut B (B.getD p [])).length<=40/\(nearOf B p (B.getD p [])).length<=400/\sldF every5 (nearOf B p (B.getD p []))=some (lackK B p,[])/\sldF (nearOf B p (B.getD p [])) every5=some ([],lackK B p)/\(B.getD p []).length<=5/\(∀q∈B.getD p [],∃m:Nat,q=(m:Int)/\m<B.length)
theorem sh_of (B:List (List Int)) (l:List Int):∃sh,shN sh=kSh0 B l:=by
 cases l with
 |nil=>exact ⟨none,rfl⟩
 |cons a l=>
  show∃sh,shN sh=kShp B false (a::l);unfold kShp;cases (false||(a::l).any λq=> !(kRow B q).isEmpty) with
  |true=>exact ⟨some true,rfl⟩
  |false=>exact ⟨some false,rfl⟩
theorem zz_of {x y:Nat×Obj} {bz:List (Nat×Obj)} (h:y∈bz):∀q∈x::y::bz,q∈x::bz:=λq hq=>by
 rcases vz.mp hq with e|hq
 ·rw [e];exact zy
 ·rcases vz.mp hq with e|hq
  ·rw [e];exact zv _ h
  ·exact zv _ hq
def kgB (B:List (List Int)) (k:Nat):Bool:=kingK B k
section
variable (P:Params) (w:World) (bt nb:Nat) (bz:List (Nat×Obj)) (B:List (List Int)) (lf:Nat) (lc:List (Str×Addr)) (lE:List DictEntry) (ln:Nat) (lsl:SA)
def fx (X:Cx) (k:Nat):Kt:=⟨(match k with|0=>none|j+1=>some (((X.s k).g 1,.int j (X.t 0+j)),((X.s k).g 2,(X.s k).w 0))),X.b 1,X.b 6,X.b 4,X.b 5,X.b 2,X.b 3,lf,bt,rA bz k,bz,lc,lE,ln,X.t 0+5,X.t 0+6,(match k with|0=>2|_=>(X.s k).g 3),nb,rN bz k,0,(match k with|0=>0|_=>(X.s k).g 4),X.t 0,appK (kgB B) (X.t 0) k,rV bz k,k,(match k with|0=>none|_=>some ((X.s k).w 1)),(match k with|0=>#[]|_=>((X.s k).p 0).slots),(match k with|0=>lsl|_=>((X.s k).p 1).slots),B,B.getD k [],λj=>bitK B k j⟩
def fxo (k:Nat):Oc:=(λX=>((fx bt nb bz B lf lc lE ln lsl X k).tu P none (kgB B k)).ct,[1,6,4,5,2,3,0])
theorem fx_ok {X:Cx} (hB:RowsAre bz B) (hbl:B.length=5) (hb5:∀s∈B,s.length<=5) (hk:∀p,p<5->okK B p) {k:Nat} (h:k<5):((fxo w.params bt nb bz B lf lc lE ln lsl k).1 X).Ok (ktOf w.params) prg w 660 7800:=by
 obtain ⟨hko,hnl,hs1,hs2,hp5,hne⟩:=hk k h;obtain ⟨-,hm,hP⟩:=row_at hB k (by lia);obtain ⟨sh,hsh⟩:=sh_of B (B.getD k []);have:=Kt.tu_ok w (sh:=sh) (kb:=kgB B k) (x:=fx bt nb bz B lf lc lE ln lsl X k) ⟨h,hm,hB,hP,hb5,hne,by show B.length<=5;lia,hp5,hko,hnl,λ_ _=>rfl,hs1,hs2,zZ (appK_len ..) (by lia)⟩ hsh rfl;exact this
def fkg:Sp:={c:= .call (.ref 209) ⟨[.ref (bt+216)],[]⟩,fr:=some [lEnv P (lf+216) lc],z:=(bt+216,lo (refsOf bz) nb)::bz,i:=[(lf+216,fob lE ln lsl)],r:=λas ns=> .ret (.ok (.ret (.ref (as.getD 0 0)))),u:=λas ns=>[(0,fob lE ln (ns.p 0).slots)],a:=λas ns=>[lo (appK (kgB B) (ns.g 1) 5) (ns.g 2)],ors:=[fxo P bt nb bz B lf lc lE ln lsl 0,fxo P bt nb bz B lf lc lE ln lsl 1,fxo P bt nb bz B lf lc lE ln lsl 2,fxo P bt nb bz B lf lc lE ln lsl 3,fxo P bt nb bz B lf lc lE ln lsl 4,(λX=>cNextE false (X.a 6) (X.a 4) (ev5 (X.t 0)) 0 5,[6,4])],tt:=40,s:=7,m:=6,x:=[5],tr:=[0,3,3,2,2,2,2,2,5,5,5,7,7,7,8,2],cs:=[3,0,0,0,0,2],as:=[4],ns:=λtok _ N=>⟨[((N 5).t),tok,(N 4).g 4],[(N 4).p 1],[],[]⟩}
theorem fkg_ok (hB:RowsAre bz B) (hbl:B.length=5) (hb5:∀s∈B,s.length<=5) (hk:∀p,p<5->okK B p):OK (fkg · bt nb bz B lf lc lE ln lsl) w 600 7500:=by
 have z:∀{tok} (X:Cx) {k:Nat} (h:k<5) (i:Nat),(fkg w.params bt nb bz B lf lc lE ln lsl).H i tok X->∀q∈(bt+216,lo (refsOf bz) nb)::(rA bz k+216,lo (rV bz k) (rN bz k))::bz,q∈zs X.pns:=λX k h i hF q hq=>zs_at _ hF _ (zz_of (row_at hB k (by lia)).1 q hq);have f:=λ(X:Cx) {k:Nat} (h:k<5)=>fx_ok w bt nb bz B lf lc lE ln lsl (X:=X) hB hbl hb5 hk h;exact okF 6 (qC (λX hF=>z X (by decide) _ hF) (λX _=>f X (by decide))<|qC (λX hF=>z X (by decide) _ hF) (λX _=>f X (by decide))<|qC (λX hF=>z X (by decide) _ hF) (λX _=>f X (by decide))<|qC (λX hF=>z X (by decide) _ hF) (λX _=>f X (by decide))<|qC (λX hF=>z X (by decide) _ hF) (λX _=>f X (by decide))<|qN (λ_=>nextE_ok _ w _ _ false _ _ _ _ _ rfl)<|trivial)
end
end
def cmpI (x y:Int):Int:=b2n (decide (x>y))-b2n (decide (x<y))
def cFn2 (f:Nat) (x y:Int) (t u:Nat):Ct:={code:= .call (.ref f) ⟨[.int x t,.int y u],[]⟩,hd:=some none,pre:=[],k:=0,fo:=λ_ ns=> .ret (.ok (.ret (.int (cmpI x y) (ns.g 1)))),post:=λ_ _=>[],news:=λ_ _=>[],fact:=λ_ _=>True}
theorem twc2_ok (w:World) (x y:Int) (t u:Nat):(cFn2 185 x y t u).Ok (ktOf w.params) prg w 840 8700:=twc_ok w x y t u
theorem sgn2_ok (w:World) (x y:Int) (t u:Nat):(cFn2 199 x y t u).Ok (ktOf w.params) prg w 840 8700:=by
 by_cases h1:x=y
 ·subst h1
  have e:cmpI x x=0:=by unfold cmpI;simp
  unfold cFn2;rw [e];exact sgn0_ok w x x t u (by simp)
 ·have hf:(x==y)=false:=kv.mpr h1
  by_cases h2:y>x
  ·have e:cmpI x y= -1:=by unfold cmpI;rw [decide_eq_false (show¬x>y by lia),decide_eq_true (show x<y from h2)];rfl
   unfold cFn2;rw [e];exact sgnN_ok w x y t u hf (decide_eq_true h2) (kv.mpr λq=>h1 q.symm)
  ·have e:cmpI x y=1:=by unfold cmpI;rw [decide_eq_true (show x>y by lia),decide_eq_false (show¬x<y by lia)];rfl
   unfold cFn2;rw [e];exact sgnP_ok w x y t u hf (decide_eq_false h2)
def cTNI (t u:Nat) (xs ys:List Value):Ct:=ctRd2 (.builtin "tuple.__ne__" ⟨[.ref t,.ref u],[]⟩) false false (t,tu xs) (u,tu ys) (.bool false)
theorem tni_ok (kt:KT) (w:World) (D U:Nat) (hUU:U<=9000) (t u:Nat) {xs ys:List Value} {xI:List Int} (hI:IntsAre xs xI) (hJ:IntsAre ys xI):(cTNI t u xs ys).Ok kt prg w D U:=by
 refine Ct.rd2_meets (SeqAt.tuple_neAt t u ⟨xs⟩ ⟨ys⟩ 0 0 none none #[] #[] (eqJ xI xI)) F.entry_tuple_ne (by decide+kernel) hUU λA h gens d tok os R hu h1 h2 hR=>⟨h1,h2,eqAt_j hI hJ _ _,?_⟩
 rw [show (Array.mk xs).size=xI.length from hI.length,show (Array.mk ys).size=xI.length from hJ.length,Nat.min_self,all_ints (rfl:xI.length=xI.length),decide_eq_true (rfl:xI=xI),beq_self_eq_true];exact hR
noncomputable def rowT (r:Bool) (xs:List Value) (v:Value):List Value:=cond r (xs++[v]) xs
noncomputable def rowN (r:Bool) (n:Nat):Nat:=cond r (n+1) n
def cApp2 (r:Bool) (l b:Nat) (xs ys:List Value) (n m:Nat) (v u:Value):Ct:={code:= .builtin "list.append" ⟨[.ref (cond r l b),cond r v u],[]⟩,pre:=[(l,lo xs n),(b,lo ys m)],k:=0,fo:=λ_ _=> .ret (.ok (.ret .none)),post:=λ_ _=>[lo (rowT r xs v) (rowN r n),lo (rowT (!r) ys u) (rowN (!r) m)],news:=λ_ _=>[],fact:=λ_ _=>True}
theorem app2_ok (kt:KT) (w:World) (D U:Nat) (r:Bool) (l b:Nat) (xs ys:List Value) (n m:Nat) (v u:Value) (h1:xs.length<=1000) (h2:ys.length<=1000):(cApp2 r l b xs ys n m v u).Ok kt prg w D U:=by
 cases r
 ·intro A hA hF hD hU h gens dr tok os R S0 K
  refine Ct.use (append_ok kt w D U b ys m u h2) hA (λl e=>nomatch e) hD hU (Held.start S0) [1] (by decide) (lt_all (n:=2) rfl) rfl (λp hp=>nomatch hp) λh' as ns hk hfr H hfa=>?_;have has:as=[]:=zV.mp hk;subst has;exact Ct.fin (kt:=kt) (c:=cApp2 false l b xs ys n m v u) K [] ⟨[ns.t],[],[],[]⟩ H rfl rfl rfl (λp hp=>nomatch hp) trivial
 ·intro A hA hF hD hU h gens dr tok os R S0 K
  refine Ct.use (append_ok kt w D U l xs n v h1) hA (λl e=>nomatch e) hD hU (Held.start S0) [0] (by decide) (lt_all (n:=2) rfl) rfl (λp hp=>nomatch hp) λh' as ns hk hfr H hfa=>?_;have has:as=[]:=zV.mp hk;subst has;exact Ct.fin (kt:=kt) (c:=cApp2 true l b xs ys n m v u) K [] ⟨[ns.t],[],[],[]⟩ H rfl rfl rfl (λp hp=>nomatch hp) trivial
def cLenF (f:Bool) (l:Nat) (xs:List Value) (n:Nat):Ct:=ctRd (.builtin "len" ⟨[.ref l],[]⟩) f (l,lo xs n) (λt=> .int xs.length (t+1)) 2
theorem lenF_ok (kt:KT) (w:World) (D U:Nat) (f:Bool) (l:Nat) (xs:List Value) (n:Nat) (hz:xs.length<=100000):(cLenF f l xs n).Ok kt prg w D U:=
 Ct.rd_any entry_len λA h gens dr tok os R hp hR=>by
  refine wpAny_mono (wpAny_len_body_list (items:=⟨xs⟩) (Q:=λv s=>R (.ok (.ret v)) s) ⟨_,hp,rfl,n,rfl⟩ (by show ((xs.length:Nat):Int)<2^63;lia) hR) (λfin s' h=>?_) λ_ _ h=>h;obtain ⟨r,rfl,h⟩:=h;exact h
def cPop (l:Nat) (xs:List Value) (n:Nat) (v:Value):Ct:={code:= .builtin "list.pop" ⟨[.ref l],[]⟩,pre:=[(l,lo xs n)],k:=0,fo:=λ_ _=> .ret (.ok (.ret v)),post:=λ_ _=>[lo xs.dropLast (n+1)],news:=λ_ _=>[],fact:=λ_ _=>True}
theorem lo_pop (xs:List Value) (n:Nat) (h:0<xs.length):Obj.mapSeq (λys=>ys.eraseIdxIfInBounds (xs.length-1)) (lo xs n)=lo xs.dropLast (n+1):=by
 unfold lo Obj.mapSeq;dsimp only
 rw [erase_toList,eraseIdx_eq_dropLast (by lia)];have:((Array.mk xs.dropLast).size==(Array.mk xs).size)=false:=by
  show (xs.dropLast.length==xs.length)=false;rw [length_dropLast];exact beq_false_of_ne (by lia)
 rw [this];rfl
theorem pop_ok (kt:KT) (w:World) (D U l:Nat) (xs:List Value) (n:Nat) {v:Value} (hv:xs[xs.length-1]?=some v) (hz:xs.length<=1000):(cPop l xs n v).Ok kt prg w D U:=by
 have hs:sizeLine=16777216:=by decide
 refine Ct.of_meets (MeetsSeq.list_pop_last l ⟨xs⟩ n v (by simpa using hv) (by show xs.length<=sizeLine;lia)) rfl F.entry_list_pop (by decide+kernel) λA hA h gens d tok os R H0 K=>?_;refine ⟨H0.st.here _ (zy ..),?_⟩;refine K _ [] ⟨[tok],[],[],[]⟩ [] rfl rfl rfl ?_ (λp hp=>by cases hp) trivial;have:=H0.upd 0 (f:=Obj.mapSeq (λys=>ys.eraseIdxIfInBounds (xs.length-1))) rfl rfl;rw [lo_pop xs n (by have:=at_lt hv;lia)] at this;exact this
section
def Lw.b8 (c:Lw) (P:Params) (t:Nat->Nat) (v:Nat->Value):List DictEntry:=[en P [115,99,114,105,112,116] (c.k 0) (.ref c.s),en P [102,105,120,101,100] (c.k 1) (.ref (c.fx+216)),en P [110,117,109,98,101,114,115] (c.k 2) (.ref (c.nu+216)),en P [111,102,102,115,101,116,115] (c.k 3) (.ref (c.os+216)),en P [110] (t 0) (v 0),en P [116,101,120,116] (t 1) (v 1),en P [115,101,99,111,110,100,115] (t 2) (v 2),en P [111,102,102,115,101,116] (t 3) (v 3)]
def Lw.e6 (P:Params) (b:Bool) (t:Nat->Nat) (v:Nat->Value):List DictEntry:=match b with|true=>[en P [113] (t 0) (v 0),en P [115,105,103,110,115] (t 1) (v 1),en P [107] (t 2) (v 2),en P [111,110,101] (t 3) (v 3),en P [116,119,111] (t 4) (v 4),en P [116,111,108,100] (t 5) (v 5)]|false=>[]
noncomputable def a6 (c:Bool) (n:Nat):Nat:=match c with|true=>n|false=>n+6
def sgs (a b:Nat->Int):List Int:=[cmpI (a 0) (b 0),cmpI (a 1) (b 1),cmpI (a 2) (b 2)]
def ptC (P:Params) (c:Lw) (it:Nat):Code:=forC (sub 0 0 (stOf P 214 5)) (.ref (it+216)) (c.V P)
section
variable (P:Params) (w:World) (c:Lw) (it bt rp rq:Nat) (t:Nat->Nat) (v:Nat->Value) (fn:Nat) (sl:Array (Option Value)) (p tp q:Nat) (l:Nat) (bl OS ar br:List Value) (nb on na nc:Nat) (ax bx:Nat->Int) (ta tb:Nat->Nat) (cc r:Bool) (t6:Nat->Nat) (v6:Nat->Value)
def pt:Sp:={c:=ptC P c it,i:=[(c.fr+216,fob (c.b8 P t v++Lw.e6 P cc t6 v6) fn sl),(it+216,ri (q:Int) ((l+1:Nat):Int)),(rp+216,lo ar na),(rq+216,lo br nc),(c.pc+216,cellO (.int (p:Int) tp)),(c.bc+216,cellO (.ref (bt+216))),(bt+216,lo bl nb),(c.os+216,lo OS on)],r:=λas ns=> .goto (ptC P c it),u:=λas ns=>[(0,fob (c.b8 P t v++Lw.e6 P true (λi=>ns.g (i+1)) (λi=>ns.w i)) (ns.g 7) sl),(1,ri ((q:Int)+1) (((l+1:Nat):Int)-1)),(2,lo (rowT r ar (.int (q:Int) (ns.g 8))) (rowN r na)),(3,lo (rowT (!r) br (.int (p:Int) tp)) (rowN (!r) nc))],ors:=[(λX=>cItem false (c.os+216) OS on (3*(p:Int)+0) (X.t 0+10) (.int (ax 0) (ta 0)),[7]),(λX=>cItem false (c.os+216) OS on (3*(q:Int)+0) (X.t 1+3) (.int (bx 0) (tb 0)),[7]),(λX=>cFn2 185 (ax 0) (bx 0) (ta 0) (tb 0),[]),(λX=>cFn2 185 (bx 0) (ax 0) (tb 0) (ta 0),[]),(λX=>cFn2 199 (ax 0) (bx 0) (ta 0) (tb 0),[]),(λX=>cFn2 199 (bx 0) (ax 0) (tb 0) (ta 0),[]),(λX=>cTNI (X.a 11) (X.a 12) [.int (cmpI (ax 0) (bx 0)) ((X.s 3).g 1),.int (cmpI (bx 0) (ax 0)) ((X.s 4).g 1)] [.int (cmpI (ax 0) (bx 0)) ((X.s 5).g 1),.int (cmpI (bx 0) (ax 0)) ((X.s 6).g 1)],[11,12]),(λX=>cItem false (c.os+216) OS on (3*(p:Int)+1) (X.t 7+5) (.int (ax 1) (ta 1)),[7]),(λX=>cItem false (c.os+216) OS on (3*(q:Int)+1) (X.t 8+3) (.int (bx 1) (tb 1)),[7]),(λX=>cFn2 185 (ax 1) (bx 1) (ta 1) (tb 1),[]),(λX=>cFn2 185 (bx 1) (ax 1) (tb 1) (ta 1),[]),(λX=>cFn2 199 (ax 1) (bx 1) (ta 1) (tb 1),[]),(λX=>cFn2 199 (bx 1) (ax 1) (tb 1) (ta 1),[]),(λX=>cTNI (X.a 13) (X.a 14) [.int (cmpI (ax 1) (bx 1)) ((X.s 10).g 1),.int (cmpI (bx 1) (ax 1)) ((X.s 11).g 1)] [.int (cmpI (ax 1) (bx 1)) ((X.s 12).g 1),.int (cmpI (bx 1) (ax 1)) ((X.s 13).g 1)],[13,14]),(λX=>cItem false (c.os+216) OS on (3*(p:Int)+2) (X.t 14+5) (.int (ax 2) (ta 2)),[7]),(λX=>cItem false (c.os+216) OS on (3*(q:Int)+2) (X.t 15+3) (.int (bx 2) (tb 2)),[7]),(λX=>cFn2 185 (ax 2) (bx 2) (ta 2) (tb 2),[]),(λX=>cFn2 185 (bx 2) (ax 2) (tb 2) (ta 2),[]),(λX=>cFn2 199 (ax 2) (bx 2) (ta 2) (tb 2),[]),(λX=>cFn2 199 (bx 2) (ax 2) (tb 2) (ta 2),[]),(λX=>cTNI (X.a 15) (X.a 16) [.int (cmpI (ax 2) (bx 2)) ((X.s 17).g 1),.int (cmpI (bx 2) (ax 2)) ((X.s 18).g 1)] [.int (cmpI (ax 2) (bx 2)) ((X.s 19).g 1),.int (cmpI (bx 2) (ax 2)) ((X.s 20).g 1)],[15,16]),(λX=>cCount false (X.a 8) [.int (cmpI (ax 0) (bx 0)) ((X.s 3).g 1),.int (cmpI (ax 1) (bx 1)) ((X.s 10).g 1),.int (cmpI (ax 2) (bx 2)) ((X.s 17).g 1)] 3 1 (X.t 21+1) (((sgs ax bx).count 1:Nat):Int),[8]),(λX=>cCount false (X.a 8) [.int (cmpI (ax 0) (bx 0)) ((X.s 3).g 1),.int (cmpI (ax 1) (bx 1)) ((X.s 10).g 1),.int (cmpI (ax 2) (bx 2)) ((X.s 17).g 1)] 3 (-1) (X.t 22+1) (((sgs ax bx).count (-1):Nat):Int),[8]),(λX=>iop "int.__ge__" (((sgs ax bx).count 1:Nat):Int) (((sgs ax bx).count (-1):Nat):Int) ((X.s 22).g 1) ((X.s 23).g 1) r,[]),(λX=>cItem false (bt+216) bl nb (cond r (p:Int) (q:Int)) (cond r tp (X.t 0)) (.ref (cond r rp rq+216)),[6]),(λX=>cApp2 r (rp+216) (rq+216) ar br na nc (.int (q:Int) (X.t 0)) (.int (p:Int) tp),[2,3])],s:=11,m:=26,tr:=match cc,r with|false,false=>(trD 257 0x41441041071c71c11892492490492492490532cb2cb2c924925041041004924924141045000104000104004104004100004100104820820104104120820804504104b2cb2cb2cb2cb24924938e38e38124924904e38f3800410000410010410010400010400412082080410410482082011410412cb2cb2cb2cb2c924924c30c30c04924924130c34c00104000104004104004100004100104820820104104120820804504104b2cb2cb2cb2cb2ca28a28a28a28a280001041042082082082082)|false,true=>(trD 257 0x30430c30c71c71c51892492490492492490532cb2cb2c924925041041004924924141045000104000104004104004100004100104820820104104120820804504104b2cb2cb2cb2cb24924938e38e38124924904e38f3800410000410010410010400010400412082080410410482082011410412cb2cb2cb2cb2c924924c30c30c04924924130c34c00104000104004104004100004100104820820104104120820804504104b2cb2cb2cb2cb2ca28a28a28a28a280001041042082082082082)|true,false=>(trD 257 0x41441041071c71c11892492490492492490532cb2cb2c924925041041004924924141045000104000104004104004100004100104820820104104120820804504104b2cb2cb2cb2cb24924938e38e38124924904e38f3800410000410010410010400010400412082080410410482082011410412cb2cb2cb2cb2c924924c30c30c04924924130c34c00104000104004104004100004100104820820104104120820804504104b2cb2cb2cb2cb2ca28a28a28a28a280001041042082082082082)|true,true=>(trD 257 0x30430c30c71c71c51892492490492492490532cb2cb2c924925041041004924924141045000104000104004104004100004100104820820104104120820804504104b2cb2cb2cb2cb24924938e38e38124924904e38f3800410000410010410010400010400412082080410410482082011410412cb2cb2cb2cb2c924924c30c30c04924924130c34c00104000104004104004100004100104820820104104120820804504104b2cb2cb2cb2cb2ca28a28a28a28a280001041042082082082082),cs:=[18,5,0,0,0,0,1,12,5,0,0,0,0,1,12,5,0,0,0,0,1,9,3,0,1,1,0],ns:=λtok b N=>⟨[((N 25).t),aT cc (t6 0) (tok+1),aT cc (t6 1) (tok+2),aT cc (t6 2) (tok+7),aT cc (t6 3) ((N 0).t),aT cc (t6 4) ((N 1).t),aT cc (t6 5) ((N 3).t),a6 cc fn,tok],[],[.int (q:Int) tok,.ref ((b 0)),.int 2 ((N 13).t+1),.int (ax 2) (ta 2),.int (bx 2) (tb 2),.ref ((b 7))],[]⟩}
theorem pt_ok (hpb:p<100) (hqb:q<100) (hA0:OS[(3*(p:Int)+0).toNat]?=some (.int (ax 0) (ta 0))) (hB0:OS[(3*(q:Int)+0).toNat]?=some (.int (bx 0) (tb 0))) (hA1:OS[(3*(p:Int)+1).toNat]?=some (.int (ax 1) (ta 1))) (hB1:OS[(3*(q:Int)+1).toNat]?=some (.int (bx 1) (tb 1))) (hA2:OS[(3*(p:Int)+2).toNat]?=some (.int (ax 2) (ta 2))) (hB2:OS[(3*(q:Int)+2).toNat]?=some (.int (bx 2) (tb 2))) (hr:decide ((((sgs ax bx).count 1:Nat):Int)≥(((sgs ax bx).count (-1):Nat):Int))=r) (hq:bl[(q:Int).toNat]?=some (.ref (rq+216))) (hp:bl[(p:Int).toNat]?=some (.ref (rp+216))) (h1:ar.length<=1000) (h2:br.length<=1000):OK (pt · c it bt rp rq t v fn sl p tp q l bl OS ar br nb on na nc ax bx ta tb cc r t6 v6) w 720 8100:=
 okF 26 (qN (λ_=>item_ok _ w _ _ false _ _ _ _ _ (by lia) (by lia) hA0)<|qN (λ_=>item_ok _ w _ _ false _ _ _ _ _ (by lia) (by lia) hB0)<|qN (λ_=>(twc2_ok w _ _ _ _).m)<|qN (λ_=>(twc2_ok w _ _ _ _).m)<|qN (λ_=>(sgn2_ok w _ _ _ _).m)<|qN (λ_=>(sgn2_ok w _ _ _ _).m)<|qN (λ_=>tni_ok _ w _ _ (by decide) _ _ (.cons _ _ (.cons _ _ .nil)) (.cons _ _ (.cons _ _ .nil)))<|qN (λ_=>item_ok _ w _ _ false _ _ _ _ _ (by lia) (by lia) hA1)<|qN (λ_=>item_ok _ w _ _ false _ _ _ _ _ (by lia) (by lia) hB1)<|qN (λ_=>(twc2_ok w _ _ _ _).m)<|qN (λ_=>(twc2_ok w _ _ _ _).m)<|qN (λ_=>(sgn2_ok w _ _ _ _).m)<|qN (λ_=>(sgn2_ok w _ _ _ _).m)<|qN (λ_=>tni_ok _ w _ _ (by decide) _ _ (.cons _ _ (.cons _ _ .nil)) (.cons _ _ (.cons _ _ .nil)))<|qN (λ_=>item_ok _ w _ _ false _ _ _ _ _ (by lia) (by lia) hA2)<|qN (λ_=>item_ok _ w _ _ false _ _ _ _ _ (by lia) (by lia) hB2)<|qN (λ_=>(twc2_ok w _ _ _ _).m)<|qN (λ_=>(twc2_ok w _ _ _ _).m)<|qN (λ_=>(sgn2_ok w _ _ _ _).m)<|qN (λ_=>(sgn2_ok w _ _ _ _).m)<|qN (λ_=>tni_ok _ w _ _ (by decide) _ _ (.cons _ _ (.cons _ _ .nil)) (.cons _ _ (.cons _ _ .nil)))<|qN (λ_=>count_ok _ w _ _ false _ _ _ _ (.cons _ _ (.cons _ _ (.cons _ _ .nil))) rfl)<|qN (λ_=>count_ok _ w _ _ false _ _ _ _ (.cons _ _ (.cons _ _ (.cons _ _ .nil))) rfl)<|qN (λ_=>(iop_ge w _ _ hr).m)<|qN (λ_=>by cases r;exact item_ok _ w _ _ false _ _ _ _ _ (kJ _) (by show (q:Int)<_;lia) hq;exact item_ok _ w _ _ false _ _ _ _ _ (kJ _) (by show (p:Int)<_;lia) hp)<|qN (λ_=>app2_ok _ w _ _ _ _ _ _ _ _ _ _ _ h1 h2)<|trivial) (e:=by cases cc<;>cases r<;>kernel_rfl)
end
end
section
def poC (P:Params) (c:Lw) (it:Nat):Code:=forC (stOf P 214 5) (.ref (it+216)) (c.V P)
def wn (o:Nat->Int) (p q:Nat):Bool:=decide ((((sgs (λk=>o (3*p+k)) (λk=>o (3*q+k))).count 1:Nat):Int)≥(((sgs (λk=>o (3*p+k)) (λk=>o (3*q+k))).count (-1):Nat):Int))
theorem rl {r:Bool} {xs:List Value} {v:Value} {n:Nat} (h:xs.length<=n):(rowT r xs v).length<=n+1:=by cases r<;>simp [rowT]<;>lia
section
variable (P:Params) (w:World) (c:Lw) (it:Nat) (q:Int)
def pte:Sp:={c:=ptC P c it,i:=[(it+216,ri q 0)],r:=λas ns=> .ret (.ok .next),s:=2,tr:=[1,1,1,1,1,3],ns:=λtok _ _=>⟨[(tok)],[],[],[]⟩}
theorem pte_ok:OK (pte · c it q) w 780 8400:=
 okF 0 (trivial)
def poe:Sp:={c:=poC P c it,i:=[(it+216,ri q 0)],r:=λas ns=> .ret (.ok .next),s:=2,tr:=[1,1,1,1,1,3],ns:=λtok _ _=>⟨[(tok)],[],[],[]⟩}
theorem poe_ok:OK (poe · c it q) w 780 8400:=
 okF 0 (trivial)
end
noncomputable def opps:Nat->List Nat
 |0=>[1,2,3,4]
 |1=>[0,2,3,4]
 |2=>[0,1,3,4]
 |3=>[0,1,2,4]
 |_=>[0,1,2,3]
noncomputable def pix:Nat->Nat->Nat
 |0,q=>12+q
 |1,q=>15+q
 |2,q=>17+q
 |_,q=>18+q
def tauF (n:List Nat) (i q:Nat):Nat:=match Nat.blt q i with|true=>n.getD (8+q) 0|false=>n.getD (pix i q) 0
def wonF (o:Nat->Int) (i q:Nat):Bool:=match Nat.blt q i with|true=> !wn o q i|false=>wn o i q
def rowF (b:Nat->Nat->Bool) (τ:Nat->Nat->Nat) (i:Nat):List Value:=(opps i).foldl (λxs q=>rowT (b i q) xs (.int (q:Int) (τ i q))) []
def verF (b:Nat->Nat->Bool) (i:Nat):Nat:=(opps i).foldl (λn q=>rowN (b i q) n) 0
noncomputable def pK:Nat->Nat×Nat
 |0=>(0,1)
 |1=>(0,2)
 |2=>(0,3)
 |3=>(0,4)
 |4=>(1,2)
 |5=>(1,3)
 |6=>(1,4)
 |7=>(2,3)
 |8=>(2,4)
 |_=>(3,4)
noncomputable def pS:Nat->Nat
 |0=>0
 |1=>5
 |2=>9
 |3=>12
 |_=>14
noncomputable def pI:Nat->Nat
 |0=>0
 |1=>1
 |2=>2
 |3=>3
 |4=>5
 |5=>6
 |6=>7
 |7=>9
 |8=>10
 |_=>12
def rwV (o:Nat->Int) (T U:Nat->Nat) (i:Nat):Nat->List Value
 |0=>[]
 |k+1=>match Nat.beq i (pK k).1 with
  |true=>rowT (wn o (pK k).1 (pK k).2) (rwV o T U i k) (.int ((pK k).2:Nat) (U k))
  |false=>match Nat.beq i (pK k).2 with
   |true=>rowT (!wn o (pK k).1 (pK k).2) (rwV o T U i k) (.int ((pK k).1:Nat) (T (pK k).1))
   |false=>rwV o T U i k
def rwN (o:Nat->Int) (i:Nat):Nat->Nat
 |0=>0
 |k+1=>match Nat.beq i (pK k).1 with
  |true=>rowN (wn o (pK k).1 (pK k).2) (rwN o i k)
  |false=>match Nat.beq i (pK k).2 with
   |true=>rowN (!wn o (pK k).1 (pK k).2) (rwN o i k)
   |false=>rwN o i k
theorem pK_lt (k:Nat):(pK k).1<5/\(pK k).2<5:=by unfold pK;split<;>decide
theorem rwV_len (o:Nat->Int) (T U:Nat->Nat) (i:Nat):∀k,(rwV o T U i k).length<=k
 |0=>jv _
 |k+1=>by
  have h:=rwV_len o T U i k;unfold rwV;cases Nat.beq i (pK k).1 with
  |true=>exact rl h
  |false=>cases Nat.beq i (pK k).2 with
   |true=>exact rl h
   |false=>exact Nat.le_succ_of_le h
structure Px where
 c:Lw
 it:Nat
 bt:Nat
 r:Nat->Nat
 t:Nat->Nat
 v:Nat->Value
 fn:Nat
 sl:Array (Option Value)
 OS:List Value
 nb:Nat
 on:Nat
 o:Nat->Int
 to:Nat->Nat
namespace Px
section
variable (x:Px) (P:Params) (w:World)
noncomputable def rs:List Value:=[.ref (x.r 0+216),.ref (x.r 1+216),.ref (x.r 2+216),.ref (x.r 3+216),.ref (x.r 4+216)]
noncomputable def T (X:Cx) (p:Nat):Nat:=X.t (pS p)
def U (X:Cx) (k:Nat):Nat:=(X.s (pI k+1)).g 8
def la (X:Cx) (k:Nat):Ns:=X.s (pI k+1)
def plO (k:Nat):Oc:=(λX=>(pt P x.c (X.b (12+2*(pK k).1)) x.bt (x.r (pK k).1) (x.r (pK k).2) x.t x.v (match k with|0=>x.fn|j+1=>(la X j).g 7) x.sl (pK k).1 (T X (pK k).1) (pK k).2 (4-(pK k).2) x.rs x.OS (rwV x.o (T X) (U X) (pK k).1 k) (rwV x.o (T X) (U X) (pK k).2 k) x.nb x.on (rwN x.o (pK k).1 k) (rwN x.o (pK k).2 k) (λj=>x.o (3*(pK k).1+j)) (λj=>x.o (3*(pK k).2+j)) (λj=>x.to (3*(pK k).1+j)) (λj=>x.to (3*(pK k).2+j)) (match k with|0=>false|_=>true) (wn x.o (pK k).1 (pK k).2) (match k with|0=>λ_=>0|j+1=>λi=>(la X j).g (i+1)) (match k with|0=>λ_=> .none|j+1=>λi=>(la X j).w i)).ct,[0,12+2*(pK k).1,2+(pK k).1,2+(pK k).2,7,8,9,10])
def plE (p:Nat):Oc:=(λX=>(pte P x.c (X.b (12+2*p)) 5).ct,[12+2*p])
noncomputable def ls (ns:Ns) (i:Nat):Obj:=lo (rowF (wonF x.o) (tauF ns.n) i) (verF (wonF x.o) i)
def pl:Sp:={c:=poC P x.c x.it,i:=[(x.c.fr+216,fob (x.c.b8 P x.t x.v) x.fn x.sl),(x.it+216,ri 0 5),(x.r 0+216,lo [] 0),(x.r 1+216,lo [] 0),(x.r 2+216,lo [] 0),(x.r 3+216,lo [] 0),(x.r 4+216,lo [] 0),(x.c.pc+216,cellN none),(x.c.bc+216,cellO (.ref (x.bt+216))),(x.bt+216,lo x.rs x.nb),(x.c.os+216,lo x.OS x.on)],r:=λ_ _=> .ret (.ok .next),u:=λ_ ns=>[(0,fob (x.c.b8 P x.t x.v++Lw.e6 P true (λi=>ns.g (i+1)) (λi=>ns.w i)) (ns.g 7) x.sl),(1,ri 5 0),(2,x.ls ns 0),(3,x.ls ns 1),(4,x.ls ns 2),(5,x.ls ns 3),(6,x.ls ns 4),(7,cellN (some (.int ((4:Nat):Int) (ns.g 12))))],f:=λ_ ns=>ns.z=[],ors:=[x.plO P 0,x.plO P 1,x.plO P 2,x.plO P 3,x.plE P 0,x.plO P 4,x.plO P 5,x.plO P 6,x.plE P 1,x.plO P 7,x.plO P 8,x.plE P 2,x.plO P 9,x.plE P 3,x.plE P 4,(λX=>(poe P x.c x.it 5).ct,[1])],n:=12000,s:=10,m:=16,tr:=trD 125 0x155145145145145142000082020820820820824d24924924924924880002080820820820820914104104104104102000082020820820820823ce38e38e38e38e38800020808208208208208d30c30c30c30c30c200008202082082082082,cs:=[12,0,0,0,0,13,0,0,0,13,0,0,13,0,13,0],ns:=λt _ N=>⟨[(N 15).t,(N 12).g 1,(N 12).g 2,(N 12).g 3,(N 12).g 4,(N 12).g 5,(N 12).g 6,(N 12).g 7,t,(N 4).t,(N 8).t,(N 11).t,(N 13).t,(N 0).g 8,(N 1).g 8,(N 2).g 8,(N 3).g 8,(N 5).g 8,(N 6).g 8,(N 7).g 8,(N 9).g 8,(N 10).g 8,(N 12).g 8],[],[(N 12).w 0,(N 12).w 1,(N 12).w 2,(N 12).w 3,(N 12).w 4,(N 12).w 5],[]⟩}
variable (hO:∀i,i<15->x.OS[i]?=some (.int (x.o i) (x.to i)))
include hO
theorem plO_ok {k:Nat} (h:k<10) {X:Cx}:((x.plO w.params k).1 X).Ok (ktOf w.params) prg w 720 8100:=by
 have l:∀i,(rwV x.o (T X) (U X) i k).length<=1000:=λi=>zZ (rwV_len ..) (by lia);have hb:(pK k).1<5/\(pK k).2<5:=pK_lt k;have hr:∀i,i<5->x.rs[((i:Nat):Int).toNat]?=some (.ref (x.r i+216)):=λi hi=>by
  match i,hi with
  |0,_=>rfl
  |1,_=>rfl
  |2,_=>rfl
  |3,_=>rfl
  |4,_=>rfl
 have hv:∀i:Nat,i<5->∀j:Nat,j<3->x.OS[(3*(i:Int)+(j:Int)).toNat]?=some (.int (x.o (3*i+j:Nat)) (x.to (3*i+j:Nat))):=λi hi j hj=>by
  rw [show (3*(i:Int)+(j:Int)).toNat=3*i+j by lia];exact hO _ (by lia)
 exact pt_ok w x.c _ _ _ _ _ _ _ _ _ _ _ _ _ _ _ _ _ _ _ _ (λj=>x.o (3*(pK k).1+j)) (λj=>x.o (3*(pK k).2+j)) _ _ _ _ _ _ (Nat.lt_trans hb.1 (by decide)) (Nat.lt_trans hb.2 (by decide)) (hv _ hb.1 0 (by decide)) (hv _ hb.2 0 (by decide)) (hv _ hb.1 1 (by decide)) (hv _ hb.2 1 (by decide)) (hv _ hb.1 2 (by decide)) (hv _ hb.2 2 (by decide)) rfl (hr _ hb.2) (hr _ hb.1) (l _) (l _)
theorem pl_ok:OK (x.pl ·) w 660 7800:=
 okF 16 (qN (λX=>x.plO_ok w hO (k:=0) (by decide))<|qN (λX=>x.plO_ok w hO (k:=1) (by decide))<|qN (λX=>x.plO_ok w hO (k:=2) (by decide))<|qN (λX=>x.plO_ok w hO (k:=3) (by decide))<|qN (λX=>(pte_ok w _ _ _).m)<|qN (λX=>x.plO_ok w hO (k:=4) (by decide))<|qN (λX=>x.plO_ok w hO (k:=5) (by decide))<|qN (λX=>x.plO_ok w hO (k:=6) (by decide))<|qN (λX=>(pte_ok w _ _ _).m)<|qN (λX=>x.plO_ok w hO (k:=7) (by decide))<|qN (λX=>x.plO_ok w hO (k:=8) (by decide))<|qN (λX=>(pte_ok w _ _ _).m)<|qN (λX=>x.plO_ok w hO (k:=9) (by decide))<|qN (λX=>(pte_ok w _ _ _).m)<|qN (λX=>(pte_ok w _ _ _).m)<|qN (λX=>(poe_ok w _ _ _).m)<|trivial) (λ_=>rfl)
end
end Px
theorem rowT_ints {xs:List Value} {l:List Int} (h:IntsAre xs l) (r:Bool) (x:Int) (t:Nat):IntsAre (rowT r xs (.int x t)) (cond r (l++[x]) l):=by
 cases r
 ·exact h
 ·show IntsAre (xs++[.int x t]) (l++[x])
  induction h with
  |nil=>exact .cons _ _ .nil
  |cons n t' _ ih=>exact .cons _ _ ih
def rowI (b:Nat->Nat->Bool) (i:Nat):List Int:=(opps i).foldl (λl q=>cond (b i q) (l++[(q:Int)]) l) []
theorem rowF_ints (b:Nat->Nat->Bool) (τ:Nat->Nat->Nat) (i:Nat):IntsAre (rowF b τ i) (rowI b i):=by
 unfold rowF rowI;have:∀(qs:List Nat) (xs:List Value) (l:List Int),IntsAre xs l->IntsAre (qs.foldl (λxs q=>rowT (b i q) xs (.int (q:Int) (τ i q))) xs) (qs.foldl (λl q=>cond (b i q) (l++[(q:Int)]) l) l):=by
  intro qs;induction qs with
  |nil=>exact λ_ _ h=>h
  |cons q qs ih=>exact λxs l h=>ih _ _ (rowT_ints h _ _ _)
 exact this _ _ _ .nil
end
def cLK2 (P:Params) (c:Lw) (it l:Nat) (ls:List Value) (ln:Nat) (rest:List (Nat×Nat)) (sl:Array (Option Value)):Ct:=
 {cLK P c it l ls ln 0 rest [] 0 4 sl false (λ_=>0) (λ_=> .none) with
  post:=λ_ ns=>[fob (c.b8 P (λi=>ns.g (i+1)) (λi=>ns.w i)) (ns.g 5) sl,liE ((0+rest.length:Nat):Int),lo ([]++ns.v.drop 4) (0+rest.length)]}
theorem lk2_ok (w:World) (c:Lw) (it l:Nat) (ls:List Value) (ln:Nat) (rest:List (Nat×Nat)) (sl:Array (Option Value)) (hl:ls=rest.map vN) (hx:∀p∈rest,p.1<30240) (hn:rest.length=15):(cLK2 w.params c it l ls ln rest sl).Ok (ktOf w.params) prg w 720 8100:=by
 have h:=lk_ok w c it l ls ln sl rest 0 [] 0 4 false (λ_=>0) (λ_=> .none) hl hx (by rw [hn];decide);refine h.re (λ_ ns=>ns) rfl rfl rfl rfl rfl rfl λas ns hk hf=>⟨?_,rfl,rfl,hf,hf.1,rfl⟩
 have e:(false|| !rest.isEmpty)=true:=by cases rest with|nil=>cases hn|cons _ _=>rfl
 show _=[fob (c.b4 w.params++Lw.e4 w.params (false|| !rest.isEmpty) _ _) _ _,_,_];rw [e];rfl
noncomputable def unV0 (v:Value):Nat×Nat:=match v with| .int x t=>(x.toNat,t)|_=>(0,0)
noncomputable def fxL (t:Nat):List (Nat×Nat):=([64,23,52,27,46,68,43,65,22,0,7,14,190,198,194]:List Nat).zipIdx.map λp=>(p.1,t+1+p.2)
noncomputable def intV (v:Value):Int:=match v with| .int x _=>x|_=>0
noncomputable def tokV (v:Value):Nat:=match v with| .int _ t=>t|_=>0
theorem unV_vN (r:List (Nat×Nat)):(r.map vN).map unV0=r:=by
 rw [kW];exact (jX λp _=>rfl).trans (map_id _)
section
def wnE (P:Params):PySem.Expr:=valOf (stOf P 214 6)
def wnV (P:Params) (cl fr:Nat):Env:=cenv P 214 (wnE P) cl fr [] [108,97,119,46,60,108,111,99,97,108,115,62,46]
section
variable (P:Params) (w:World) (it acc cl fr bt r0 r1 r2 r3 r4 nb n0 n1 n2 n3 n4:Nat) (a0 a1 a2 a3 a4:List Value)
def wnc:Sp:={c:= .compLoop (wnE P) 0 (.ref (it+216)) (.ref (acc+216)) (wnV P (cl+216) (fr+216)),i:=[(it+216,li (bt+216) 0),(acc+216,lo [] 0),(cl+216,dob [] 0),(bt+216,lo [.ref (r0+216),.ref (r1+216),.ref (r2+216),.ref (r3+216),.ref (r4+216)] nb),(r0+216,lo a0 n0),(r1+216,lo a1 n1),(r2+216,lo a2 n2),(r3+216,lo a3 n3),(r4+216,lo a4 n4)],r:=λas ns=> .ret (.ok .next),u:=λas ns=>[(0,liE 5),(1,lo [.int (a0.length:Int) (ns.g 1),.int (a1.length:Int) (ns.g 2),.int (a2.length:Int) (ns.g 3),.int (a3.length:Int) (ns.g 4),.int (a4.length:Int) (ns.g 5)] 5),(2,dob [en P [114,111,119] (ns.g 6) (.ref (r4+216))] 1)],ors:=[(λX=>cLenF false (r0+216) a0 n0,[4]),(λX=>cLenF false (r1+216) a1 n1,[5]),(λX=>cLenF false (r2+216) a2 n2,[6]),(λX=>cLenF false (r3+216) a3 n3,[7]),(λX=>cLenF false (r4+216) a4 n4,[8])],s:=2,m:=5,tr:=trD 88 0x2c10440410410820820c00030c10440410410820820c00030c10440410410820820c00030c10440410410820820c00030c10440410410820820c00030c1044041041,cs:=[3,6,6,6,6],ns:=λtok _ N=>⟨[((N 4).t),(N 0).g 1+1,(N 1).g 1+1,(N 2).g 1+1,(N 3).g 1+1,(N 4).g 1+1,tok],[],[],[]⟩}
theorem wnc_ok (h0:a0.length<=900) (h1:a1.length<=900) (h2:a2.length<=900) (h3:a3.length<=900) (h4:a4.length<=900):OK (wnc · it acc cl fr bt r0 r1 r2 r3 r4 nb n0 n1 n2 n3 n4 a0 a1 a2 a3 a4) w 660 7800:=
 okF 5 (qN (λ_=>lenF_ok _ w _ _ false _ _ _ (by lia))<|qN (λ_=>lenF_ok _ w _ _ false _ _ _ (by lia))<|qN (λ_=>lenF_ok _ w _ _ false _ _ _ (by lia))<|qN (λ_=>lenF_ok _ w _ _ false _ _ _ (by lia))<|qN (λ_=>lenF_ok _ w _ _ false _ _ _ (by lia))<|trivial)
end
end
section
noncomputable def seO (d:Data):Obj:={cls:= .type "set",data:=d}
noncomputable def mwO (it:Nat):Obj:={cls:= .type "method-wrapper",data:= .fields ⟨[.builtin "list_iterator.__next__",.ref it]⟩}
structure Fc where
 fr:Nat
 S:Nat
 D:Nat
 sk:Nat
 ik:Nat
 sn:Nat
 n2:Nat
 f0:Nat
 f1:Nat
 f2:Nat
 f3:Nat
 f4:Nat
 f5:Nat
 f6:Nat
 fn:Nat
 pf:Nat
 lf:Nat
 pE:List DictEntry
 lE:List DictEntry
 pn:Nat
 ln:Nat
 lc:List (Str×Addr)
structure S3 where
 a:Array (Option Value)
 b:Array (Option Value)
 c:Array (Option Value)
def fcEnv (P:Params) (fr:Nat):Env:=envOf P 157 fr [84,111,112,111,108,111,103,105,99,97,108,83,111,114,116,101,114,46,95,102,105,110,100,95,99,121,99,108,101,46,60,108,111,99,97,108,115,62,46]
def Fc.E (c:Fc) (P:Params):Option (List Env):=some [fcEnv P (c.fr+216),envOf P 122 (c.pf+216) [84,111,112,111,108,111,103,105,99,97,108,83,111,114,116,101,114,46,112,114,101,112,97,114,101,46,60,108,111,99,97,108,115,62,46],{envOf P 214 (c.lf+216) [108,97,119,46,60,108,111,99,97,108,115,62,46] with cells:=c.lc}]
def Fc.P (c:Fc) (sl:S3):Obj:=fob c.pE c.pn sl.b
def Fc.L (c:Fc) (sl:S3):Obj:=fob c.lE c.ln sl.c
def Fc.F (c:Fc) (P:Params) (node:Value) (sl:S3):Obj:=fob [en P [115,101,108,102] c.f0 (.ref (c.S+216)),en P [110,50,105] c.f1 (.ref (c.D+216)),en P [115,116,97,99,107] c.f2 (.ref (c.sk+216)),en P [105,116,115,116,97,99,107] c.f3 (.ref (c.ik+216)),en P [115,101,101,110] c.f4 (.ref (c.sn+216)),en P [110,111,100,101,50,115,116,97,99,107,105] c.f5 (.ref (c.n2+216)),en P [110,111,100,101] c.f6 node] c.fn sl.a
def w1C (P:Params) (fr:Nat):Code:=whileC (sub 0 1 (stOf P 157 5)) (fcEnv P fr)
def w2C (P:Params) (fr:Nat):Code:=whileC (sub 0 1 (sub 0 1 (stOf P 157 5))) (fcEnv P fr)
def cLenP (l:Nat) (xs:List Value) (n m:Nat):Ct:=ctRd (.builtin "len" ⟨[.ref l],[]⟩) false (l,lo xs n) (λt=> .int ((m+1:Nat):Int) (t+1)) 2
theorem lenP_ok (kt:KT) (w:World) (D U:Nat) (l:Nat) (xs:List Value) (n m:Nat) (h:xs.length=m+1) (hz:xs.length<=100000):(cLenP l xs n m).Ok kt prg w D U:=by
 have:=lenF_ok kt w D U false l xs n hz;unfold cLenF at this;rw [h] at this;exact this
noncomputable def s3 (o:List Obj):S3:=⟨(o.getD 0 default).slots,(o.getD 1 default).slots,(o.getD 2 default).slots⟩
def w2n (P:Params) (c:Fc) (k:Int) (t:Nat) (sl:S3) (ss is:List Value) (m1 m2 m3:Nat) (x:Nd) (mw it:Nat) (i:Int) (m0:Nat) (q:Int) (tq:Nat):Sp:={c:=w2C P (c.fr+216),z:=[(mw+216,mwO (it+216)),x.l],i:=[(c.fr+216,c.F P (.int k t) sl),(c.sk+216,lo ss m1),(c.ik+216,lo is m2),(it+216,li (x.s+216) i)],r:=λas ns=> .ret (.ok .next),u:=λas ns=>[(0,c.F P (.int q tq) sl),(3,li (x.s+216) (i+1))],f:=λas ns=>ns.z=[],ors:=[(λX=>cLenP (c.sk+216) ss m1 m0,[1]),(λX=>cItem false (c.ik+216) is m2 (-1) (X.t 1+1) (.ref (mw+216)),[2]),(λX=>cNext true (it+216) (x.s+216) x.xs x.sn i (.int q tq),[3])],m:=3,tr:=trD 12 0x41c300c30c3042081,cs:=[0,3,1],ns:=λ_ _ N=>⟨[((N 2).t+1)],[],[],[]⟩}
theorem w2n_ok (w:World) (c:Fc) (k:Int) (t:Nat) (sl:S3) (ss is:List Value) (m1 m2 m3:Nat) (x:Nd) (mw it:Nat) (i:Int) (m0:Nat) (q:Int) (tq:Nat) (hl:ss.length=m0+1) (hz:ss.length<=1000) (hm:is[is.length-1]?=some (.ref (mw+216))) (hv:x.xs[i.toNat]?=some (.int q tq)):OK (w2n · c k t sl ss is m1 m2 m3 x mw it i m0 q tq) w 840 8700:=
 okF 3 (qN (λ_=>lenP_ok _ w _ _ _ _ _ _ hl (by lia))<|qN (λ_=>last_ok _ w _ _ false _ _ _ _ hm)<|qY [1] (λ_=>next_ok _ w _ _ true _ _ _ _ _ hv)<|trivial) (λ_=>by rfl)
section
variable (P:Params) (w:World) (c:Fc) (k:Int) (t:Nat) (sl:S3) (ss is:List Value) (m1 m2 m3:Nat) (x:Nd) (mw it:Nat) (i:Int) (m0:Nat) (q:Int) (tq:Nat) (nes:List (Int×Nat×Value)) (di:Nat)
def w2e:Sp:={c:=w2C P (c.fr+216),fr:=c.E P,z:=[(mw+216,mwO (it+216)),x.l],i:=[(c.fr+216,c.F P (.int k t) sl),(c.sk+216,lo ss m1),(c.ik+216,lo is m2),(it+216,li (x.s+216) i),(c.n2+216,idO nes m3),(c.pf+216,c.P sl),(c.lf+216,c.L sl)],r:=λas ns=> .goto (w2C P (c.fr+216)),u:=λas ns=>[(0,c.F P (.int k t) (s3 ns.o)),(1,lo ss.dropLast (m1+1)),(2,lo is.dropLast (m2+1)),(3,liE i),(4,idO (nes.eraseIdx di) (m3+1)),(5,c.P (s3 ns.o)),(6,c.L (s3 ns.o))],ors:=[(λX=>cLenP (c.sk+216) ss m1 m0,[1]),(λX=>cItem false (c.ik+216) is m2 (-1) (X.t 1+1) (.ref (mw+216)),[2]),(λX=>cNextE true (it+216) (x.s+216) x.xs x.sn i,[3]),(λX=>cPop (c.sk+216) ss m1 (.int q tq),[1]),(λX=>cDDel (c.n2+216) nes m3 q tq di,[4]),(λX=>cPop (c.ik+216) is m2 (.ref (mw+216)),[2])],tt:=40,s:=2,m:=7,tr:=trD 40 0xc30c30c11451420820820412492080002492061400c8c300c30c3042081,cs:=[0,3,1,3,1,1,1],ns:=λ_ _ N=>⟨[((N 6).t)],(N 3).o,[],[]⟩,pi:=[0,1,2,4,5,6]}
theorem w2e_ok (hl:ss.length=m0+1) (hz:ss.length<=1000) (hz2:is.length<=1000) (hz3:nes.length<=1000) (hm:is[is.length-1]?=some (.ref (mw+216))) (hv:x.xs[i.toNat]?=none) (hq:ss[ss.length-1]?=some (.int q tq)) (hd:(nes.findIdx? λp=>p.1==q)=some di):OK (w2e · c k t sl ss is m1 m2 m3 x mw it i m0 q tq nes di) w 840 8700:=
 okF 6 (qN (λ_=>lenP_ok _ w _ _ _ _ _ _ hl (by lia))<|qN (λ_=>last_ok _ w _ _ false _ _ _ _ hm)<|qY [1] (λ_=>nextE_ok _ w _ _ true _ _ _ _ _ hv)<|qN (λ_=>pop_ok _ w _ _ _ _ _ hq hz)<|qN (λ_=>ddel_ok _ w _ _ _ _ _ _ _ _ hd hz3)<|qN (λ_=>pop_ok _ w _ _ _ _ _ hm hz2)<|trivial)
end
section
variable (P:Params) (w:World) (c:Fc) (k:Int) (t:Nat) (sl:S3) (m1:Nat)
def w2z:Sp:={c:=w2C P (c.fr+216),i:=[(c.fr+216,c.F P (.int k t) sl),(c.sk+216,lo [] m1)],r:=λas ns=> .ret (.ok .brk),ors:=[(λX=>cLenF false (c.sk+216) [] m1,[1])],m:=1,tr:=[1,2,2],cs:=[0],ns:=λ_ _ N=>⟨[((N 0).t)],[],[],[]⟩}
theorem w2z_ok:OK (w2z · c k t sl m1) w 840 8700:=
 okF 1 (qN (λ_=>lenF_ok _ w _ _ false _ _ _ (by decide))<|trivial)
end
end
section
structure Ent where
 it:Nat
 mw:Nat
 x:Nd
 i:Nat
 q:Int
 tq:Nat
def Ent.o (e:Ent):Nat×Obj:=(e.it+216,li (e.x.s+216) e.i)
def Ent.z (e:Ent):List (Nat×Obj):=[(e.mw+216,mwO (e.it+216)),e.x.l]
noncomputable def skV:List Ent->List Value
 |[]=>[]
 |e::r=>skV r++[.int e.q e.tq]
noncomputable def ikV:List Ent->List Value
 |[]=>[]
 |e::r=>ikV r++[.ref (e.mw+216)]
theorem skV_len:∀F,(skV F).length=F.length
 |[]=>rfl
 |e::r=>by unfold skV;simp [skV_len r]
theorem ikV_len:∀F,(ikV F).length=F.length
 |[]=>rfl
 |e::r=>by unfold ikV;simp [ikV_len r]
noncomputable def w2R:List Ent->Option (Value×List Ent)
 |[]=>none
 |e::r=>match e.x.xs[e.i]? with
  |some v=>some (v,{e with i:=e.i+1}::r)
  |none=>w2R r
noncomputable def remF (F:List Ent):List Ent:=match w2R F with|some p=>p.2|none=>[]
def itsA:List Ent->List Obj
 |[]=>[]
 |e::r=>match e.x.xs[e.i]? with
  |some _=>li (e.x.s+216) ((e.i+1:Nat):Int)::r.map λe=>e.o.2
  |none=>liE e.i::itsA r
noncomputable def nodeA (F:List Ent) (v:Value):Value:=match w2R F with|some p=>p.1|none=>v
def w2O (P:Params) (c:Fc) (F:List Ent) (v:Value) (nes:List (Int×Nat×Value)) (sl:S3) (m1 m2 m3:Nat):List Obj:=[c.F P v sl,lo (skV F) m1,lo (ikV F) m2,idO nes m3,c.P sl,c.L sl]
noncomputable def oAt (n i:Nat) (ns:Ns):Obj:=ns.p (n+i)
theorem oAt_of {n i:Nat} {ns:Ns} {l r:List Obj} (e:ns.o=l++r) (h:l.length=n):oAt n i ns=r.getD i default:=by
 unfold oAt;show ns.o.getD _ _=_;rw [e,zY,zY,vV (by lia),h,Nat.add_sub_cancel_left]
def w2X (P:Params) (c:Fc) (k:Int) (t:Nat) (F:List Ent) (nes:List (Int×Nat×Value)) (ex:Obj->Prop) (ns:Ns):Prop:=ns.n.drop 1=[]/\ns.z=[]/\∃sl' m1' m2' m3' o',ns.o=itsA F++(w2O P c (remF F) (nodeA F (.int k t)) (nes.take (remF F).length) sl' m1' m2' m3'++[o'])/\ex o'
def cW2 (P:Params) (c:Fc) (k:Int) (t:Nat) (sl:S3) (F:List Ent) (m1 m2 m3:Nat) (nes:List (Int×Nat×Value)):Ct:=
 {code:=w2C P (c.fr+216),hd:=some none,frs:=c.E P,zpre:=F.flatMap Ent.z,
  pre:=[(c.fr+216,c.F P (.int k t) sl),(c.sk+216,lo (skV F) m1),(c.ik+216,lo (ikV F) m2),(c.n2+216,idO nes m3),(c.pf+216,c.P sl),(c.lf+216,c.L sl)]++F.map Ent.o,k:=0,
  fo:=λ_ _=> .ret (.ok (match w2R F with|some _=> .next|none=> .brk)),
  post:=λ_ ns=>[oAt F.length 0 ns,oAt F.length 1 ns,oAt F.length 2 ns,oAt F.length 3 ns,oAt F.length 4 ns,oAt F.length 5 ns]++ns.o.take F.length,news:=λ_ _=>[],
  fact:=λ_ ns=>ns.n.drop 1=[]/\ns.z=[]/\∃sl' m1' m2' m3',ns.o=itsA F++w2O P c (remF F) (nodeA F (.int k t)) (nes.take (remF F).length) sl' m1' m2' m3'}
theorem itsA_len:∀F:List Ent,(itsA F).length=F.length
 |[]=>rfl
 |e::r=>by
  unfold itsA;split
  ·simp
  ·rw [jY,jY,itsA_len r]
theorem remF_len:∀F:List Ent,(remF F).length<=F.length
 |[]=>jv _
 |e::r=>by
  have:=remF_len r;unfold remF at this⊢;unfold w2R;cases e.x.xs[e.i]? with
  |some v=>exact jv _
  |none=>exact Nat.le_succ_of_le this
theorem permA {α:Type} {a b c d p q e:α} {l:List α}:Perm (a::b::c::d::p::q::e::l) (a::b::c::e::d::p::q::l):= .cons _ (.cons _ (.cons _ (perm_middle (l₁:=[d,p,q]))))
theorem permB {α:Type} {a b c d p q:α} {l r:List α}:Perm (a::b::c::d::p::q::l++r) (a::b::c::d::p::q::(r++l)):= .cons _ (.cons _ (.cons _ (.cons _ (.cons _ (.cons _ vY)))))
abbrev W2:=World×Fc×Int×Nat
abbrev V2:=S3×Nat×Nat×Nat×List (Int×Nat×Value)
def V2.s (v:V2):S3:=v.1
def V2.n (v:V2):List (Int×Nat×Value):=v.2.2.2.2
def W2.c (X:W2):Fc:=X.2.1
def W2.e (X:W2) (F:List Ent) (v:V2):Ct:=cW2 X.1.params X.c X.2.2.1 X.2.2.2 v.s F v.2.1 v.2.2.1 v.2.2.2.1 v.n
def W2.a (X:W2):Value:= .int X.2.2.1 X.2.2.2
def W2.L (X:W2) (F:List Ent) (u:Value) (v:V2) (G:List (Nat×Obj)):List (Nat×Obj):=(X.c.fr+216,X.c.F X.1.params u v.s)::(X.c.sk+216,lo (skV F) v.2.1)::(X.c.ik+216,lo (ikV F) v.2.2.1)::(X.c.n2+216,idO v.n v.2.2.2.1)::(X.c.pf+216,X.c.P v.s)::(X.c.lf+216,X.c.L v.s)::G
structure V2.To (F:List Ent) (v v':V2) (u:Value) (F':List Ent) (a:Value) (its:List Obj) (fo:Flow):Prop where
 u:nodeA F a=u
 r:remF F=F'
 n:v.n.take F'.length=v'.n
 i:itsA F=its
 o:(match w2R F with|some _=>Flow.next|none=> .brk)=fo
section
variable {X:W2} {F r:List Ent} {e:Ent} {v v':V2} {L Z R:List (Nat×Obj)} {tok:Nat}
theorem W2.out_eq {as:List Nat} {ns:Ns} {G W:List Obj} (g:ns.o=G++W) (l:G.length=F.length) (ha:as=[]):(X.e F v).out as ns R=[X.c.fr+216,X.c.sk+216,X.c.ik+216,X.c.n2+216,X.c.pf+216,X.c.lf+216].zip [W.getD 0 default,W.getD 1 default,W.getD 2 default,W.getD 3 default,W.getD 4 default,W.getD 5 default]++((F.map Ent.o).map (·.1)).zip G++R:=by
 subst ha;show ((_,oAt F.length 0 ns)::(_,oAt F.length 1 ns)::(_,oAt F.length 2 ns)::(_,oAt F.length 3 ns)::(_,oAt F.length 4 ns)::(_,oAt F.length 5 ns)::((F.map Ent.o).map (·.1)).zip (ns.o.take F.length))++R=_;rw [oAt_of g l,oAt_of g l,oAt_of g l,oAt_of g l,oAt_of g l,oAt_of g l,g,<-l,qz];rfl
theorem W2.fin {u:Value} {F':List Ent} {its:List Obj} {fo:Flow} (t:V2.To F v v' u F' X.a its fo) (hL:L.Perm (X.L F' u v' (((F.map Ent.o).map (·.1)).zip its))):(X.e F v).Fr X.1 840 8700 L Z (.ret (.ok fo)) tok:=by
 obtain ⟨rfl,rfl,h,rfl,rfl⟩:=t;have o:=W2.out_eq (X:=X) (F:=F) (v:=v) (R:=[]) (as:=[]) (ns:=⟨[tok],itsA F++w2O X.1.params X.c (remF F) (nodeA F X.a) (v.n.take (remF F).length) v'.s v'.2.1 v'.2.2.1 v'.2.2.2.1,[],[]⟩) rfl (itsA_len F) rfl;refine Ct.Fr.fin (e:=X.e F v) [] ⟨[tok],itsA F++w2O X.1.params X.c (remF F) (nodeA F X.a) (v.n.take (remF F).length) v'.s v'.2.1 v'.2.2.1 v'.2.2.2.1,[],[]⟩ ?_ rfl (by show (_::_::_::_::_::_::take F.length (itsA F++_)).length=(_::_::_::_::_::_::F.map Ent.o).length;rw [<-itsA_len F,qz];simp [itsA_len]) rfl ⟨rfl,rfl,_,_,_,_,rfl⟩ (by exact λp hp=>nomatch hp);rw [o,h,jx];exact hL
theorem skV_last:(skV (e::r))[(skV (e::r)).length-1]?=some (.int e.q e.tq):=by
 rw [skV_len];unfold skV;rw [vV (by rw [skV_len];exact jv _),skV_len,jY,Nat.add_sub_cancel,Nat.sub_self];rfl
theorem ikV_last:(ikV (e::r))[(ikV (e::r)).length-1]?=some (.ref (e.mw+216)):=by
 rw [ikV_len];unfold ikV;rw [vV (by rw [ikV_len];exact jv _),ikV_len,jY,Nat.add_sub_cancel,Nat.sub_self];rfl
theorem ent_z {p:Nat×Obj} (h:p∈e.z):p∈(e::r).flatMap Ent.z:=by rw [flatMap_cons];exact jj _ h
structure W2.H (F:List Ent) (v:V2):Prop where
 l:F.length<=100
 n:v.n.map (·.1)=(F.map Ent.q).reverse
 d:(F.map Ent.q).Nodup
 v:∀e∈F,∀v∈e.x.xs,∃q tq,v= .int q tq
theorem W2.H.len (h:W2.H F v):v.n.length=F.length:=by
 have:=jk length h.n;simpa using this
def W2.dn (X:W2) (e:Ent) (r:List Ent) (v:V2) (q:Int) (tq:Nat):Ct:=(w2n X.1.params X.c X.2.2.1 X.2.2.2 v.s (skV (e::r)) (ikV (e::r)) v.2.1 v.2.2.1 v.2.2.2.1 e.x e.mw e.it e.i r.length q tq).ct
def W2.de (X:W2) (e:Ent) (r:List Ent) (v:V2) (d:Nat):Ct:=(w2e X.1.params X.c X.2.2.1 X.2.2.2 v.s (skV (e::r)) (ikV (e::r)) v.2.1 v.2.2.1 v.2.2.2.1 e.x e.mw e.it e.i r.length e.q e.tq v.n d).ct
theorem W2.next (h:W2.H (e::r) v) {q:Int} {tq:Nat} (hx:e.x.xs[e.i]?=some (.int q tq)):(X.e (e::r) v).Fr X.1 840 8700 (X.e (e::r) v).pre (X.e (e::r) v).zpre (.goto (X.e (e::r) v).code) tok:=by
 have hR:w2R (e::r)=some (.int q tq,{e with i:=e.i+1}::r):=(show w2R (e::r)=(match e.x.xs[e.i]? with|some v=>some (v,{e with i:=e.i+1}::r)|none=>w2R r) from rfl).trans (by rw [hx]);refine Ct.Fr.go (d:=X.dn e r v q tq) (R:=(X.c.n2+216,idO v.n v.2.2.2.1)::(X.c.pf+216,X.c.P v.s)::(X.c.lf+216,X.c.L v.s)::r.map Ent.o) (w2n_ok X.1 X.c X.2.2.1 X.2.2.2 v.s _ _ _ _ _ e.x e.mw e.it e.i r.length q tq (skV_len _) (by rw [skV_len];exact zZ h.l (by decide)) ikV_last hx) (λ_ e=>e) (λ_ e=>nomatch e) (jv _) (jv _) permA (λp hp=> .inl (ent_z hp)) λas ns E=>?_;obtain rfl:as=[]:=zV.mp E.k;refine W2.fin (v':=v) (u:= .int q tq) (F':={e with i:=e.i+1}::r) (its:=li (e.x.s+216) ((e.i+1:Nat):Int)::(r.map Ent.o).map (·.2)) ⟨by unfold nodeA;rw [hR],by unfold remF;rw [hR],take_of_length_le (Nat.le_of_eq h.len),?_,by rw [hR]⟩ ?_
 ·refine (show itsA (e::r)=(match e.x.xs[e.i]? with|some _=>li (e.x.s+216) ((e.i+1:Nat):Int)::r.map λe=>e.o.2|none=>liE e.i::itsA r) from rfl).trans ?_
  rw [hx,kW];rfl
 ·rw [kQ,kQ,zip_cons_cons,zip_fs]
  exact permA.symm
theorem W2.pop (h:W2.H (e::r) v) (hx:e.x.xs[e.i]?=none) (ih:∀v,W2.H r v->(X.e r v).Ok (ktOf X.1.params) prg X.1 840 8700):(X.e (e::r) v).Fr X.1 840 8700 (X.e (e::r) v).pre (X.e (e::r) v).zpre (.goto (X.e (e::r) v).code) tok:=by
 have hR:w2R (e::r)=w2R r:=(show w2R (e::r)=(match e.x.xs[e.i]? with|some v=>some (v,{e with i:=e.i+1}::r)|none=>w2R r) from rfl).trans (by rw [hx]);have hd:=vX.mp h.d;have hn:=h.n;rw [kQ,reverse_cons] at hn;obtain ⟨n0,b,hv,hp0,h3⟩:=map_eq_append_iff.mp hn;obtain ⟨p,rfl⟩:∃p,b=[p]:=length_eq_one_iff.mp (by have:=jk length h3;simpa using this);have hp1:p.1=e.q:=List.cons.inj h3|>.1;have hl0:n0.length=r.length:=by
  have:=jk length hp0;simpa using this
 have hdi:v.n.findIdx? (λp=>p.1==e.q)=some n0.length:=by
  have hno:n0.findIdx? (λp=>p.1==e.q)=none:=findIdx?_eq_none_iff.mpr λz hz=>kv.mpr λe'=>hd.1 (e'▸mem_reverse.mp (hp0▸zW hz));rw [hv,findIdx?_append,hno];simp [findIdx?_cons,hp1]
 have her:v.n.eraseIdx n0.length=n0:=by
  rw [hv,eraseIdx_append_of_length_le (jv _),Nat.sub_self];exact jx _
 have hl:=h.l;have hz:(e::r).length<=1000:=zZ hl (by decide);refine Ct.Fr.go (d:=X.de e r v n0.length) (R:=r.map Ent.o) (w2e_ok X.1 X.c X.2.2.1 X.2.2.2 v.s _ _ _ _ _ e.x e.mw e.it e.i r.length e.q e.tq v.n n0.length (skV_len _) (by rw [skV_len];exact hz) (by rw [ikV_len];exact hz) (by rw [h.len];exact hz) ikV_last hx skV_last hdi) (λ_ e=>e) (λ_ e=>e) (jv _) (jv _) permA (λp hp=> .inl (ent_z hp)) λas ns E=>?_;obtain rfl:as=[]:=zV.mp E.k;refine Ct.Fr.go (d:=X.e r (s3 ns.o,v.2.1+1,v.2.2.1+1,v.2.2.2.1+1,n0)) (R:=[(e.it+216,liE e.i)]) (ih _ ⟨zZ (Nat.le_succ _) hl,hp0,hd.2,λe he=>h.v e (zv _ he)⟩) (λ_ e=>e) (λ_ e=>e) (jv _) (jv _) ?_ (λp hp=> .inl (by show p∈(e::r).flatMap Ent.z;rw [flatMap_cons];exact jz _ hp)) λas ns E=>?_
 ·show Perm ((_,X.c.F X.1.params X.a (s3 ns.o))::(_,lo (skV (e::r)).dropLast _)::(_,lo (ikV (e::r)).dropLast _)::_::(_,idO (v.n.eraseIdx n0.length) _)::_) _
  rw [show (skV (e::r)).dropLast=skV r from dropLast_concat,show (ikV (e::r)).dropLast=ikV r from dropLast_concat,her];exact permA.symm.trans (permB (l:=[_]))
 ·obtain ⟨-,-,sl,m1,m2,m3,g⟩:=E.f
  rw [W2.out_eq g (itsA_len r) (zV.mp E.k)];refine W2.fin (v':=(sl,m1,m2,m3,n0.take (remF r).length)) (u:=nodeA r X.a) (F':=remF r) (its:=liE e.i::itsA r) ⟨by unfold nodeA;rw [hR],by unfold remF;rw [hR],?_,?_,by rw [hR]⟩ ?_
  ·rw [hv]
   exact take_append_of_le_length (by have:=remF_len r;lia)
  ·refine (show itsA (e::r)=(match e.x.xs[e.i]? with|some _=>li (e.x.s+216) ((e.i+1:Nat):Int)::r.map λe=>e.o.2|none=>liE e.i::itsA r) from rfl).trans ?_
   rw [hx]
  ·exact permB (r:=[_])
end
theorem w2_ok (w:World) (c:Fc) (k:Int) (t:Nat) (F:List Ent) (sl:S3) (m1 m2 m3:Nat) (nes:List (Int×Nat×Value)) (hl:F.length<=100) (hn:nes.map (·.1)=(F.map Ent.q).reverse) (hd:(F.map Ent.q).Nodup) (hv:∀e∈F,∀v∈e.x.xs,∃q tq,v= .int q tq):(cW2 w.params c k t sl F m1 m2 m3 nes).Ok (ktOf w.params) prg w 840 8700:=by
 have go:∀F v,W2.H F v->(W2.e ⟨w,c,k,t⟩ F v).Ok (ktOf w.params) prg w 840 8700:=λF=>by
  induction F with
  |nil=>
   intro v h;refine Ct.Fr.ok λtok=>Ct.Fr.go (d:=(w2z w.params c k t v.s v.2.1).ct) (R:=(W2.L ⟨w,c,k,t⟩ [] (.int k t) v []).drop 2) (w2z_ok w c k t v.s v.2.1) (λ_ e=>e) (λ_ e=>nomatch e) (jv _) (jv _) (.refl _) (λp hp=>nomatch hp) λas ns E=>?_;obtain rfl:as=[]:=zV.mp E.k;exact W2.fin (X:=⟨w,c,k,t⟩) (F:=[]) (v:=v) (v':=v) ⟨rfl,rfl,take_of_length_le (Nat.le_of_eq h.len),rfl,rfl⟩ (.refl _)
  |cons e r ih=>
   intro v h;refine Ct.Fr.ok λtok=>?_;cases hx:e.x.xs[e.i]? with
   |none=>exact W2.pop h hx ih
   |some u=>
    obtain ⟨q,tq,rfl⟩:=h.v e (zy ..) u (jy hx);exact W2.next h hx
 exact go F ⟨sl,m1,m2,m3,nes⟩ ⟨hl,hn,hd,hv⟩
end
section
def cW2S (P:Params) (c:Fc) (k:Int) (t:Nat) (sl:S3) (F:List Ent) (m1 m2 m3:Nat) (nes:List (Int×Nat×Value)) (nx:Bool) (so:Obj) (ex:Obj->Prop):Ct:=
 {code:=w2C P (c.fr+216),hd:=some none,frs:=c.E P,zpre:=F.flatMap Ent.z,
  pre:=[(c.sn+216,so),(c.fr+216,c.F P (.int k t) sl),(c.sk+216,lo (skV F) m1),(c.ik+216,lo (ikV F) m2),(c.n2+216,idO nes m3),(c.pf+216,c.P sl),(c.lf+216,c.L sl)]++F.map Ent.o,k:=0,
  fo:=λ_ _=> .ret (.ok (cond nx .next .brk)),post:=λ_ ns=>[oAt F.length 6 ns,oAt F.length 0 ns,oAt F.length 1 ns,oAt F.length 2 ns,oAt F.length 3 ns,oAt F.length 4 ns,oAt F.length 5 ns]++ns.o.take F.length,news:=λ_ _=>[],fact:=λ_ ns=>w2X P c k t F nes ex ns}
def cW2P (P:Params) (c:Fc) (k:Int) (t:Nat) (sl:S3) (F:List Ent) (m1 m2 m3:Nat) (nes:List (Int×Nat×Value)) (nx:Bool) (so:Obj) (ex:Obj->Prop) (x:Nd) (it mw pl tp:Nat):Ct:=
 {cW2S P c k t sl F m1 m2 m3 nes nx so ex with
  zpre:=x.l::F.flatMap Ent.z,
  pre:=[(c.sn+216,so),(mw+216,mwO (it+216)),(c.fr+216,c.F P (.int k t) sl),(c.sk+216,lo (skV F++[.int k t]) m1),(c.ik+216,lo (ikV F++[.ref (mw+216)]) m2),(c.n2+216,idO (nes++[(k,t,.int pl tp)]) m3),(c.pf+216,c.P sl),(c.lf+216,c.L sl),(it+216,li (x.s+216) 0)]++F.map Ent.o,
  post:=λ_ ns=>[oAt F.length 6 ns,mwO (it+216),oAt F.length 0 ns,oAt F.length 1 ns,oAt F.length 2 ns,oAt F.length 3 ns,oAt F.length 4 ns,oAt F.length 5 ns,liE 0]++ns.o.take F.length}
theorem fo_w2 {F:List Ent} {nx:Bool} (h:(w2R F).isSome=nx):Fo.ret (.ok (cond nx .next .brk))=Fo.ret (.ok (match w2R F with|some _=>Flow.next|none=> .brk)):=by
 rw [<-h];cases w2R F<;>rfl
theorem w2S_ok {w:World} {P:Params} {c:Fc} {k:Int} {t:Nat} {sl:S3} {F:List Ent} {m1 m2 m3:Nat} {nes:List (Int×Nat×Value)} {nx:Bool} {so:Obj} {ex:Obj->Prop} {D U:Nat} (h:(cW2 P c k t sl F m1 m2 m3 nes).Ok (ktOf w.params) prg w D U) (hn:(w2R F).isSome=nx) (he:ex so):(cW2S P c k t sl F m1 m2 m3 nes nx so ex).Ok (ktOf w.params) prg w D U:=by
 refine (h.own (q:=(c.sn+216,so)) (z:=F.flatMap Ent.z) (λp hp=> .inr hp) (λ_ _ g=>g.2.1)).re (λ_ ns=>{ns with o:=ns.o++[so]}) rfl rfl rfl rfl rfl rfl λas ns hk hf=>?_;obtain ⟨g1,g2,sl',m1',m2',m3',g⟩:=hf;have g':({ns with o:=ns.o++[so]}:Ns).o=itsA F++(w2O P c (remF F) (nodeA F (.int k t)) (nes.take (remF F).length) sl' m1' m2' m3'++[so]):=by show ns.o++[so]=_;rw [g,jV]
 have l:=itsA_len F;refine ⟨?_,rfl,fo_w2 hn,⟨g1,g2,sl',m1',m2',m3',so,g',he⟩,g2,rfl⟩;show oAt F.length 6 _::oAt F.length 0 _::oAt F.length 1 _::oAt F.length 2 _::oAt F.length 3 _::oAt F.length 4 _::oAt F.length 5 _::(ns.o++[so]).take F.length=so::oAt F.length 0 ns::oAt F.length 1 ns::oAt F.length 2 ns::oAt F.length 3 ns::oAt F.length 4 ns::oAt F.length 5 ns::ns.o.take F.length;simp only [oAt_of g' l,oAt_of g l];rw [g,<-l,qz,jV,qz];rfl
theorem w2P_ok {w:World} {P:Params} {c:Fc} {k:Int} {t:Nat} {sl:S3} {F:List Ent} {m1 m2 m3:Nat} {nes:List (Int×Nat×Value)} {nx:Bool} {so:Obj} {ex:Obj->Prop} {x:Nd} {it mw pl tp:Nat} {D U:Nat} (h:(cW2 P c k t sl (⟨it,mw,x,0,k,t⟩::F) m1 m2 m3 (nes++[(k,t,.int pl tp)])).Ok (ktOf w.params) prg w D U) (hx:x.xs[0]?=none) (hl:nes.length=F.length) (hn:(w2R F).isSome=nx) (he:ex so):(cW2P P c k t sl F m1 m2 m3 nes nx so ex x it mw pl tp).Ok (ktOf w.params) prg w D U:=by
 have hR:w2R (⟨it,mw,x,0,k,t⟩::F)=w2R F:=by conv=>lhs;unfold w2R;rw [hx]
 refine ((h.own (q:=(mw+216,mwO (it+216))) (z:=x.l::F.flatMap Ent.z) (λp hp=>?_) (λ_ _ g=>g.2.1)).own (q:=(c.sn+216,so)) (z:=x.l::F.flatMap Ent.z) (λp hp=> .inr hp) (λ_ _ g=>g.2.1)).re (λ_ ns=>{ns with o:=ns.o.drop 1++[so]}) rfl rfl rfl rfl rfl rfl λas ns hk hf=>?_
 ·have hp:p∈(mw+216,mwO (it+216))::x.l::F.flatMap Ent.z:=hp
  exact vz.mp hp
 ·obtain ⟨g1,g2,sl',m1',m2',m3',g⟩:=hf
  have er:remF (⟨it,mw,x,0,k,t⟩::F)=remF F:=by unfold remF;rw [hR]
  have en:nodeA (⟨it,mw,x,0,k,t⟩::F) (.int k t)=nodeA F (.int k t):=by unfold nodeA;rw [hR]
  have ei:itsA (⟨it,mw,x,0,k,t⟩::F)=liE 0::itsA F:=by
   conv=>lhs;unfold itsA;rw [hx]
   rfl
  have et:(nes++[(k,t,Value.int pl tp)]).take (remF F).length=nes.take (remF F).length:=take_append_of_le_length (by have:=remF_len F;lia);rw [er,en,ei,et] at g;have g':({ns with o:=ns.o.drop 1++[so]}:Ns).o=itsA F++(w2O P c (remF F) (nodeA F (.int k t)) (nes.take (remF F).length) sl' m1' m2' m3'++[so]):=by show ns.o.drop 1++[so]=_;rw [g];simp
  refine ⟨?_,rfl,(fo_w2 (hR▸hn:(w2R (⟨it,mw,x,0,k,t⟩::F)).isSome=nx)),⟨g1,g2,sl',m1',m2',m3',so,g',he⟩,g2,rfl⟩;have l:=itsA_len F;have l1:(liE 0::itsA F).length=F.length+1:=by rw [jY,l]
  show oAt F.length 6 _::mwO (it+216)::oAt F.length 0 _::oAt F.length 1 _::oAt F.length 2 _::oAt F.length 3 _::oAt F.length 4 _::oAt F.length 5 _::liE 0::(ns.o.drop 1++[so]).take F.length=so::mwO (it+216)::oAt (F.length+1) 0 ns::oAt (F.length+1) 1 ns::oAt (F.length+1) 2 ns::oAt (F.length+1) 3 ns::oAt (F.length+1) 4 ns::oAt (F.length+1) 5 ns::ns.o.take (F.length+1);simp only [oAt_of g' l,oAt_of g l1];rw [g,<-l1,qz];show _::_::_::_::_::_::_::_::_::((itsA F++w2O P c (remF F) (nodeA F (.int k t)) (nes.take (remF F).length) sl' m1' m2' m3')++[so]).take F.length=_;rw [<-l,jV,qz];rfl
theorem w2X_h4 {P:Params} {c:Fc} {k:Int} {t:Nat} {F:List Ent} {nes:List (Int×Nat×Value)} {ex:Obj->Prop} {as:List Nat} {ns:Ns} (hk:as.length=0) (h:w2X P c k t F nes ex ns):as=ns.n.drop 1/\(∃ex,ns.o=(ns.o.take F.length++[])++ex)/\(ns.o.take F.length).length=(F.map Ent.o).length/\([]:List Obj).length=as.length:=by
 obtain ⟨h1,-,_,_,_,_,_,h2,-⟩:=h;rw [zV.mp hk,h1];refine ⟨rfl,⟨ns.o.drop F.length,by rw [jx,take_append_drop]⟩,?_,rfl⟩;rw [h2,<-itsA_len F,qz,itsA_len,zJ]
theorem w2X_g {P:Params} {c:Fc} {k:Int} {t:Nat} {F:List Ent} {nes:List (Int×Nat×Value)} {ex:Obj->Prop} {ns:Ns} (h:w2X P c k t F nes ex ns):(F.map Ent.o).length+(ns.n.drop 1).length<=ns.o.length:=by
 obtain ⟨h1,-,_,_,_,_,_,h2,-⟩:=h;rw [h1,h2,jZ,itsA_len,zJ];simp
theorem w2X_re {P:Params} {c:Fc} {k:Int} {t:Nat} {F:List Ent} {nes:List (Int×Nat×Value)} {ex:Obj->Prop} {ns:Ns} (h:w2X P c k t F nes ex ns) {tok:Nat}:w2X P c k t F nes ex ⟨tok::ns.n.drop 1,ns.o,[],[]⟩:=⟨h.1,rfl,h.2.2⟩
theorem IsSet.seO {w:World} {o:Obj} {S:Int->Bool} {n:Nat} (h:IsSet w o S n):∃sd,o=Mine.seO sd:=by
 obtain ⟨es,ep,t,⟨h1,h2,h3⟩,h4,-⟩:=h;refine ⟨o.data,?_⟩;cases o;cases h1;cases h2;cases h3;rfl
section
variable (P:Params) (w:World) (c:Fc) (k:Int) (t:Nat) (sl:S3) (m1 m2 m3:Nat) (nes:List (Int×Nat×Value)) (sd:Data) (S:Int->Bool) (s0:Nat) (w0:World) (ss is:List Value) (es:List (Int×Nat×Value)) (n:Nat) (x:Nd) (q:Int) (tq:Nat)
def w1a:Sp:={c:=w1C P (c.fr+216),z:=[(c.D+216,idO es n),x.i,x.l],i:=[(c.fr+216,c.F P (.int k t) sl),(c.sk+216,lo ss m1),(c.ik+216,lo is m2),(c.sn+216,seO sd),(c.n2+216,idO nes m3)],r:=λas ns=> .goto (w1C P (c.fr+216)),u:=λas ns=>[(0,c.F P (.int q tq) sl),(1,lo (ss++[.int k t]) (m1+1)),(2,lo (is++[.ref (as.getD 1 0)]) (m2+1)),(3,ns.p 0),(4,idO (nes++[(k,t,.int ss.length (ns.g 1))]) (m3+1))],a:=λas ns=>[li (x.s+216) 1,mwO (as.getD 0 0)],f:=λas ns=>IsSet w0 (ns.p 0) (λk'=>S k'||decide (k'=k)) (if S k then s0 else s0+1),ors:=[(λX=>cSHas (c.sn+216) (seO sd) k t false,[3]),(λX=>cSAdd w0 (c.sn+216) (seO sd) S s0 k t,[3]),(λX=>cDItem true (c.D+216) es n k t (.ref (x.a+216)),[]),(λX=>ctAppend (c.ik+216) is m2 (.ref (X.a 6)),[2]),(λX=>cLenF false (c.sk+216) ss m1,[1]),(λX=>cDSetN (c.n2+216) nes m3 k t (.int ss.length ((X.s 5).g 1+1)),[4]),(λX=>ctAppend (c.sk+216) ss m1 (.int k t),[1]),(λX=>(w2n P c k t sl (ss++[.int k t]) (is++[.ref (X.b 6+216)]) (m1+1) (m2+1) 0 x (X.b 6) (X.b 5) 0 ss.length q tq).ct.own (X.b 6+216,mwO (X.b 5+216)) [x.l],[6,0,1,2,5])],s:=2,m:=8,x:=[5,6],tr:=trD 76 0x810820820451450410400031861861861b2cb2c40c40000000c40000000000000000c40000c70c30c010400030c30c1101104104044104041,cs:=[1,1,1,15,1,1,1,0,0],as:=[0,1],ns:=λ_ _ N=>⟨[((N 7).t),(N 4).g 1+1],[(N 1).p 0],[],[]⟩}
theorem w1a_ok (hS:IsSet w (seO sd) S s0) (hk:S k=false) (hw:w0=w) (hs0:s0+1<scanBound) (hl:iLook es k=some (.ref (x.a+216))) (hn:iLook nes k=none) (hz1:ss.length<=900) (hz2:is.length<=900) (hz3:nes.length<=900) (hx:x.xs[0]?=some (.int q tq)):OK (w1a · c k t sl m1 m2 m3 nes sd S s0 w0 ss is es n x q tq) w 780 8400:=
 okF 8 (qN (λ_=>shas_ok _ w _ _ _ _ S s0 _ _ hS hk)<|qN (λ_=>by subst hw;exact sadd_ok _ w0 _ _ _ _ S s0 _ _ hS hs0)<|qY [0] (λ_=>ditem_ok _ w _ _ true _ _ _ _ _ hl)<|qN (λ_=>append_ok _ w _ _ _ _ _ _ (by lia))<|qN (λ_=>lenF_ok _ w _ _ false _ _ _ (by lia))<|qN (λ_=>dsetN_ok _ w _ _ _ _ _ _ _ _ hn (by lia))<|qN (λ_=>append_ok _ w _ _ _ _ _ _ (by lia))<|qY [2] (λ_=>((w2n_ok w c k t sl _ _ _ _ _ x _ _ 0 ss.length q tq (by simp) (by simp;lia) (by simp) hx).own (λp hp=>vz.mp hp) (λ_ _ h=>h)).m)<|trivial) (λh=>fq h 1 λf1=>f1)
end
def w1b (P:Params) (c:Fc) (k:Int) (t:Nat) (sl:S3) (m1 m2 m3:Nat) (nes:List (Int×Nat×Value)) (sd:Data) (S:Int->Bool) (s0:Nat) (w0:World) (F:List Ent) (nx:Bool) (es:List (Int×Nat×Value)) (n:Nat) (x:Nd):Rs:={ct:={code:=w1C P (c.fr+216),hd:=some none,frs:=c.E P,zpre:=(c.D+216,idO es n)::x.i::x.l::F.flatMap Ent.z,pre:=[(c.fr+216,c.F P (.int k t) sl),(c.sk+216,lo (skV F) m1),(c.ik+216,lo (ikV F) m2),(c.sn+216,seO sd),(c.n2+216,idO nes m3),(c.pf+216,c.P sl),(c.lf+216,c.L sl)],k:=0,fo:=λas ns=>cond nx (.goto (w1C P (c.fr+216))) (.ret (.ok .next)),post:=λas ns=>[oAt F.length 0 ns,oAt F.length 1 ns,oAt F.length 2 ns,oAt F.length 6 ns,oAt F.length 3 ns,oAt F.length 4 ns,oAt F.length 5 ns],news:=λas ns=>[],fact:=λas ns=>w2X P c k t F nes (λo=>IsSet w0 o (λk'=>S k'||decide (k'=k)) (if S k then s0 else s0+1)) ns},tt:=0,ors:=[(λX=>cSHas (c.sn+216) (seO sd) k t false,[3]),(λX=>cSAdd w0 (c.sn+216) (seO sd) S s0 k t,[3]),(λX=>cDItem true (c.D+216) es n k t (.ref (x.a+216)),[]),(λX=>ctAppend (c.ik+216) (ikV F) m2 (.ref (X.a 8)),[2]),(λX=>cLenF false (c.sk+216) (skV F) m1,[1]),(λX=>cDSetN (c.n2+216) nes m3 k t (.int (skV F).length ((X.s 5).g 1+1)),[4]),(λX=>ctAppend (c.sk+216) (skV F) m1 (.int k t),[1]),(λX=>(cW2P P c k t sl F (m1+1) (m2+1) (m3+1) nes nx ((X.s 2).p 0) (λo=>IsSet w0 o (λk'=>S k'||decide (k'=k)) (if S k then s0 else s0+1)) x (X.b 7) (X.b 8) (skV F).length ((X.s 5).g 1+1)).view ((cW2P P c k t sl F (m1+1) (m2+1) (m3+1) nes nx ((X.s 2).p 0) (λo=>IsSet w0 o (λk'=>S k'||decide (k'=k)) (if S k then s0 else s0+1)) x (X.b 7) (X.b 8) (skV F).length ((X.s 5).g 1+1)).pre.take 9),[3,8,0,1,2,4,5,6,7])]}
theorem w1b_e (P:Params) (c:Fc) (k:Int) (t:Nat) (sl:S3) (m1 m2 m3:Nat) (nes:List (Int×Nat×Value)) (sd:Data) (S:Int->Bool) (s0:Nat) (w0:World) (F:List Ent) (nx:Bool) (es:List (Int×Nat×Value)) (n:Nat) (x:Nd):EqOfG (w1b P c k t sl m1 m2 m3 nes sd S s0 w0 F nx es n x) P 780 8400 368 2 8 [] ((trD 76 0x81082082045145041040003208208208232cb2c40c40000000c40000000000000000c40000c70c30c010400030c30c1101104104044104041)) (match nx with|false=>[1,1,1,15,1,1,1,0]|true=>[1,1,1,15,1,1,1,0,0]) (gr1 7 (F.map Ent.o)) (λtok sup nss=>[]) (λtok sup nss=>⟨(((nss.getD 7 Ns.nil).t))::(nss.getD 7 Ns.nil).n.drop 1,(nss.getD 7 Ns.nil).o,[],[]⟩) (λtok nss=>[⟨[tok],[],[],(c.D+216,idO es n)::x.i::x.l::F.flatMap Ent.z⟩,(nss.getD 0 Ns.nil),(nss.getD 1 Ns.nil),(nss.getD 2 Ns.nil),(nss.getD 3 Ns.nil),(nss.getD 4 Ns.nil),(nss.getD 5 Ns.nil),(nss.getD 6 Ns.nil),(nss.getD 7 Ns.nil)]):=by cases nx<;>(intro tok b0 b1 ns0 ns1 ns2 ns3 ns4 ns5 ns6 ns7;show _=_;kernel_rfl)
theorem w1b_ok (w:World) (c:Fc) (k:Int) (t:Nat) (sl:S3) (m1 m2 m3:Nat) (nes:List (Int×Nat×Value)) (sd:Data) (S:Int->Bool) (s0:Nat) (w0:World) (F:List Ent) (nx:Bool) (es:List (Int×Nat×Value)) (n:Nat) (x:Nd) (hS:IsSet w (seO sd) S s0) (hk:S k=false) (hw:w0=w) (hs0:s0+1<scanBound) (hl:iLook es k=some (.ref (x.a+216))) (hn:iLook nes k=none) (hz1:(skV F).length<=1000) (hz2:(ikV F).length<=1000) (hz3:nes.length<=1000) (hx:x.xs[0]?=none) (hnl:nes.length=F.length) (hnx:(w2R F).isSome=nx) (hok:∀it mw m1 m2 m3 tp,(cW2 w.params c k t sl (⟨it,mw,x,0,k,t⟩::F) m1 m2 m3 (nes++[(k,t,.int (skV F).length tp)])).Ok (ktOf w.params) prg w 840 8700):(w1b w.params c k t sl m1 m2 m3 nes sd S s0 w0 F nx es n x).ct.OkG (ktOf w.params) prg w 780 8400 (F.map Ent.o) (λ_ ns=>gdec (F.map Ent.o) ns):=by
 have eqn_:=w1b_e w.params c k t sl m1 m2 m3 nes sd S s0 w0 F nx es n x;exact okG_of (limA _) eqn_ (λtok=>⟨og_n rfl ⟨rfl,λX hF=>⟨rfl,zno,λha=>shas_ok _ w _ _ _ _ S s0 _ _ hS hk⟩⟩,⟨og_n rfl ⟨rfl,λX hF=>⟨rfl,zno,λha=>(by subst hw;exact sadd_ok _ w0 _ _ _ _ S s0 _ _ hS hs0)⟩⟩,⟨og_n rfl ⟨rfl,λX hF=>⟨rfl,(λzq hzq=>zs_at ((w1b w.params c k t sl m1 m2 m3 nes sd S s0 w0 F nx es n x).ors.take 2) hF zq (pick_sub (ix:=[0]) zq hzq)),λha=>ditem_ok _ w _ _ true _ _ _ _ _ hl⟩⟩,⟨og_n rfl ⟨rfl,λX hF=>⟨rfl,zno,λha=>append_ok _ w _ _ _ _ _ _ (by lia)⟩⟩,⟨og_n rfl ⟨rfl,λX hF=>⟨rfl,zno,λha=>lenF_ok _ w _ _ false _ _ _ (by lia)⟩⟩,⟨og_n rfl ⟨rfl,λX hF=>⟨rfl,zno,λha=>dsetN_ok _ w _ _ _ _ _ _ _ _ hn (by lia)⟩⟩,⟨og_n rfl ⟨rfl,λX hF=>⟨rfl,zno,λha=>append_ok _ w _ _ _ _ _ _ (by lia)⟩⟩,⟨og_g (λX=>(cW2P w.params c k t sl F (m1+1) (m2+1) (m3+1) nes nx ((X.s 2).p 0) (λo=>IsSet w0 o (λk'=>S k'||decide (k'=k)) (if S k then s0 else s0+1)) x (X.b 7) (X.b 8) (skV F).length ((X.s 5).g 1+1))) (λX=>(cW2P w.params c k t sl F (m1+1) (m2+1) (m3+1) nes nx ((X.s 2).p 0) (λo=>IsSet w0 o (λk'=>S k'||decide (k'=k)) (if S k then s0 else s0+1)) x (X.b 7) (X.b 8) (skV F).length ((X.s 5).g 1+1)).pre.take 9) rfl rfl rfl (λ_ _ _=>rfl) (λ_ _ _=>rfl) (λX hF=>⟨rfl,rfl,(λzq hzq=>(λ_ h=>zs_at ((w1b w.params c k t sl m1 m2 m3 nes sd S s0 w0 F nx es n x).ors.take 7) h) _ hF zq (zv _ (zv _ hzq))),λas ns hk hf=>w2X_h4 hk hf,λha=>(by
   obtain ⟨x1,a1,e1,f1⟩:=fact_one ((w1b w.params c k t sl m1 m2 m3 nes sd S s0 w0 F nx es n x).ors.take 7) hF 1 rfl;exact (w2P_ok (hok _ _ _ _ _ _) hx hnl hnx f1).m)⟩),trivial⟩⟩⟩⟩⟩⟩⟩⟩) (λtok sup nss h=>by
  obtain ⟨x7,a7,e7,f7⟩:=fact_one (l:=[⟨[tok],[],[],(c.D+216,idO es n)::x.i::x.l::F.flatMap Ent.z⟩,(nss.getD 0 Ns.nil),(nss.getD 1 Ns.nil),(nss.getD 2 Ns.nil),(nss.getD 3 Ns.nil),(nss.getD 4 Ns.nil),(nss.getD 5 Ns.nil),(nss.getD 6 Ns.nil),(nss.getD 7 Ns.nil)]) (w1b w.params c k t sl m1 m2 m3 nes sd S s0 w0 F nx es n x).ors h 7 rfl;obtain ⟨as_,-,g⟩:=f7;exact ⟨rfl,zZ (Nat.le_add_right ..) (w2X_g (w2X_re (ns:=nss.getD 7 Ns.nil) g)),(by decide:8<9)⟩) rfl rfl rfl (λ_ _=>by cases nx<;>rfl) rfl (λtok sup nss h=>by
  obtain ⟨x7,a7,e7,f7⟩:=fact_one (l:=[⟨[tok],[],[],(c.D+216,idO es n)::x.i::x.l::F.flatMap Ent.z⟩,(nss.getD 0 Ns.nil),(nss.getD 1 Ns.nil),(nss.getD 2 Ns.nil),(nss.getD 3 Ns.nil),(nss.getD 4 Ns.nil),(nss.getD 5 Ns.nil),(nss.getD 6 Ns.nil),(nss.getD 7 Ns.nil)]) (w1b w.params c k t sl m1 m2 m3 nes sd S s0 w0 F nx es n x).ors h 7 rfl;obtain ⟨as_,-,g⟩:=f7;exact w2X_re (ns:=nss.getD 7 Ns.nil) g) (λ_ _ _=>zno)
def w1c (P:Params) (c:Fc) (k:Int) (t:Nat) (sl:S3) (m1 m2 m3:Nat) (nes:List (Int×Nat×Value)) (sd:Data) (S:Int->Bool) (s0:Nat) (w0:World) (F:List Ent) (nx:Bool):Rs:={ct:={code:=w1C P (c.fr+216),hd:=some none,frs:=c.E P,zpre:=F.flatMap Ent.z,pre:=[(c.fr+216,c.F P (.int k t) sl),(c.sk+216,lo (skV F) m1),(c.ik+216,lo (ikV F) m2),(c.sn+216,seO sd),(c.n2+216,idO nes m3),(c.pf+216,c.P sl),(c.lf+216,c.L sl)],k:=0,fo:=λas ns=>cond nx (.goto (w1C P (c.fr+216))) (.ret (.ok .next)),post:=λas ns=>[oAt F.length 0 ns,oAt F.length 1 ns,oAt F.length 2 ns,oAt F.length 6 ns,oAt F.length 3 ns,oAt F.length 4 ns,oAt F.length 5 ns],news:=λas ns=>[],fact:=λas ns=>w2X P c k t F nes (λo=>IsSet w0 o S s0) ns},tt:=0,ors:=[(λX=>cSHas (c.sn+216) (seO sd) k t true,[3]),(λX=>cDHas false (c.n2+216) nes m3 k t false,[4]),(λX=>(cW2S P c k t sl F m1 m2 m3 nes nx (seO sd) (λo=>IsSet w0 o S s0)).view ((cW2S P c k t sl F m1 m2 m3 nes nx (seO sd) (λo=>IsSet w0 o S s0)).pre.take 7),[3,0,1,2,4,5,6])]}
theorem w1c_e (P:Params) (c:Fc) (k:Int) (t:Nat) (sl:S3) (m1 m2 m3:Nat) (nes:List (Int×Nat×Value)) (sd:Data) (S:Int->Bool) (s0:Nat) (w0:World) (F:List Ent) (nx:Bool):EqOfG (w1c P c k t sl m1 m2 m3 nes sd S s0 w0 F nx) P 780 8400 92 0 3 [] ((trD 10 0x145141044104041)) (match nx with|false=>[1,1,0]|true=>[1,1,0,0]) (gr1 2 (F.map Ent.o)) (λtok sup nss=>[]) (λtok sup nss=>⟨(((nss.getD 2 Ns.nil).t))::(nss.getD 2 Ns.nil).n.drop 1,(nss.getD 2 Ns.nil).o,[],[]⟩) (λtok nss=>[⟨[tok],[],[],F.flatMap Ent.z⟩,(nss.getD 0 Ns.nil),(nss.getD 1 Ns.nil),(nss.getD 2 Ns.nil)]):=by cases nx<;>(intro tok ns0 ns1 ns2;show _=_;kernel_rfl)
theorem w1c_ok (w:World) (c:Fc) (k:Int) (t:Nat) (sl:S3) (m1 m2 m3:Nat) (nes:List (Int×Nat×Value)) (sd:Data) (S:Int->Bool) (s0:Nat) (w0:World) (F:List Ent) (nx:Bool) (hS:IsSet w (seO sd) S s0) (hk:S k=true) (hw:w0=w) (hn:iLook nes k=none) (hnx:(w2R F).isSome=nx) (hok:(cW2 w.params c k t sl F m1 m2 m3 nes).Ok (ktOf w.params) prg w 840 8700):(w1c w.params c k t sl m1 m2 m3 nes sd S s0 w0 F nx).ct.OkG (ktOf w.params) prg w 780 8400 (F.map Ent.o) (λ_ ns=>gdec (F.map Ent.o) ns):=by
 have eqn_:=w1c_e w.params c k t sl m1 m2 m3 nes sd S s0 w0 F nx;exact okG_of (limA _) eqn_ (λtok=>⟨og_n rfl ⟨rfl,λX hF=>⟨rfl,zno,λha=>shas_ok _ w _ _ _ _ S s0 _ _ hS hk⟩⟩,⟨og_n rfl ⟨rfl,λX hF=>⟨rfl,zno,λha=>dhas_ok _ w _ _ false _ _ _ _ _ (sysm c.n2) (by rw [hn];rfl)⟩⟩,⟨og_g (λX=>(cW2S w.params c k t sl F m1 m2 m3 nes nx (seO sd) (λo=>IsSet w0 o S s0))) (λX=>(cW2S w.params c k t sl F m1 m2 m3 nes nx (seO sd) (λo=>IsSet w0 o S s0)).pre.take 7) rfl rfl rfl (λ_ _ _=>rfl) (λ_ _ _=>rfl) (λX hF=>⟨rfl,rfl,(λzq hzq=>(λ_ h=>zs_at ((w1c w.params c k t sl m1 m2 m3 nes sd S s0 w0 F nx).ors.take 2) h) _ hF zq (hzq)),λas ns hk hf=>w2X_h4 hk hf,λha=>(w2S_ok hok hnx (hw▸hS)).m⟩),trivial⟩⟩⟩) (λtok sup nss h=>by
  obtain ⟨x2,a2,e2,f2⟩:=fact_one (l:=[⟨[tok],[],[],F.flatMap Ent.z⟩,(nss.getD 0 Ns.nil),(nss.getD 1 Ns.nil),(nss.getD 2 Ns.nil)]) (w1c w.params c k t sl m1 m2 m3 nes sd S s0 w0 F nx).ors h 2 rfl;obtain ⟨as_,-,g⟩:=f2;exact ⟨rfl,zZ (Nat.le_add_right ..) (w2X_g (w2X_re (ns:=nss.getD 2 Ns.nil) g)),(by decide:3<4)⟩) rfl rfl rfl (λ_ _=>by cases nx<;>rfl) rfl (λtok sup nss h=>by
  obtain ⟨x2,a2,e2,f2⟩:=fact_one (l:=[⟨[tok],[],[],F.flatMap Ent.z⟩,(nss.getD 0 Ns.nil),(nss.getD 1 Ns.nil),(nss.getD 2 Ns.nil)]) (w1c w.params c k t sl m1 m2 m3 nes sd S s0 w0 F nx).ors h 2 rfl;obtain ⟨as_,-,g⟩:=f2;exact w2X_re (ns:=nss.getD 2 Ns.nil) g) (λ_ _ _=>zno)
def w1d (P:Params) (c:Fc) (k:Int) (t:Nat) (sl:S3) (m1 m2 m3:Nat) (nes:List (Int×Nat×Value)) (sd:Data) (S:Int->Bool) (s0:Nat) (w0:World) (ss is:List Value) (pl tp:Nat):Sp:={c:=w1C P (c.fr+216),i:=[(c.fr+216,c.F P (.int k t) sl),(c.sk+216,lo ss m1),(c.ik+216,lo is m2),(c.sn+216,seO sd),(c.n2+216,idO nes m3)],r:=λas ns=> .ret (.ok (.ret (.ref (as.getD 0 0)))),a:=λas ns=>[lo (ss.drop pl++[.int k t]) 0],ors:=[(λX=>cSHas (c.sn+216) (seO sd) k t true,[3]),(λX=>cDHas false (c.n2+216) nes m3 k t true,[4]),(λX=>cDItem false (c.n2+216) nes m3 k t (.int pl tp),[4]),(λX=>cSlice false (c.sk+216) (X.a 5) ss m1 (.int pl tp) .none (ss.drop pl),[5,1]),(λX=>cAdd false (X.a 6) (X.a 7) (ss.drop pl) [.int k t] 0 0,[7,6])],s:=4,m:=5,x:=[8],tr:=trD 26 0x1c7207042082085145141041145141044104041,cs:=[1,1,1,1,1],as:=[3],ns:=λ_ _ N=>⟨[((N 4).t)],[],[],[]⟩}
theorem w1d_ok (w:World) (c:Fc) (k:Int) (t:Nat) (sl:S3) (m1 m2 m3:Nat) (nes:List (Int×Nat×Value)) (sd:Data) (S:Int->Bool) (s0:Nat) (w0:World) (ss is:List Value) (pl tp:Nat) (hS:IsSet w (seO sd) S s0) (hk:S k=true) (hn:iLook nes k=some (.int pl tp)) (hz:ss.length<=900):OK (w1d · c k t sl m1 m2 m3 nes sd S s0 w0 ss is pl tp) w 780 8400:=
 okF 5 (qN (λ_=>shas_ok _ w _ _ _ _ S s0 _ _ hS hk)<|qN (λ_=>dhas_ok _ w _ _ false _ _ _ _ _ (sysm c.n2) (by rw [hn];rfl))<|qN (λ_=>ditem_ok _ w _ _ false _ _ _ _ _ hn)<|qN (λ_=>from_ok _ w _ _ false _ _ _ _ _ _ (by lia))<|qN (λ_=>add_ok _ w _ _ false _ _ _ _ _ _ (by simp;lia))<|trivial)
end
section
abbrev AE:=Int×List Int×Nat
noncomputable def aw2:List AE->Option (Int×List AE)
 |[]=>none
 |e::r=>match e.2.1[e.2.2]? with
  |some v=>some (v,(e.1,e.2.1,e.2.2+1)::r)
  |none=>aw2 r
def aw1 (adj:List (Int×List Int)):Nat->Int->List AE->List Int->Option (Option (List Int))
 |0,_,_,_=>none
 |f+1,k,F,S=>match S.elem k with
  |true=>match F.any (λe=>e.1==k) with
   |true=>some none
   |false=>match aw2 F with
    |none=>some (some S)
    |some p=>aw1 adj f p.1 p.2 S
  |false=>match adj.find? (λp=>p.1==k) with
   |none=>none
   |some p=>match aw2 ((k,p.2,0)::F) with
    |none=>some (some (k::S))
    |some q=>aw1 adj f q.1 q.2 (k::S)
theorem aw2_c (e:AE) (r:List AE):aw2 (e::r)=match e.2.1[e.2.2]? with|some v=>some (v,(e.1,e.2.1,e.2.2+1)::r)|none=>aw2 r:=rfl
theorem aw1_s {adj:List (Int×List Int)} {f:Nat} {k:Int} {F:List AE} {S:List Int}:aw1 adj (f+1) k F S=match S.elem k with
  |true=>match F.any (λe=>e.1==k) with
   |true=>some none
   |false=>match aw2 F with
    |none=>some (some S)
    |some p=>aw1 adj f p.1 p.2 S
  |false=>match adj.find? (λp=>p.1==k) with
   |none=>none
   |some p=>match aw2 ((k,p.2,0)::F) with
    |none=>some (some (k::S))
    |some q=>aw1 adj f q.1 q.2 (k::S):=rfl
noncomputable def iv:Value->Int
 | .int k _=>k
 |_=>0
def Nd.ad (x:Nd):Int×List Int:=(x.k,x.xs.map iv)
def Ent.a (e:Ent):AE:=(e.q,e.x.xs.map iv,e.i)
theorem aw2_none:∀{F:List Ent},w2R F=none->aw2 (F.map Ent.a)=none
 |[],_=>rfl
 |e::r,h=>by
  unfold w2R at h;rw [kQ];unfold aw2;show (match (e.x.xs.map iv)[e.i]? with|some v=>_|none=>_)=_;rw [vU];cases hx:e.x.xs[e.i]? with
  |some v=>rw [hx] at h;cases h
  |none=>rw [hx] at h;exact aw2_none h
inductive W2S (F:List Ent) (v:Value) (F':List Ent):Prop
 |mk (Q:List Ent) (e:Ent) (r:List Ent) (A:List Obj):F=Q++e::r->F'={e with i:=e.i+1}::r->e.x.xs[e.i]?=some v->A.length=Q.length->itsA F=A++F'.map (λe=>e.o.2)->aw2 (F.map Ent.a)=some (iv v,F'.map Ent.a)->W2S F v F'
theorem w2_some:∀{F:List Ent} {v:Value} {F':List Ent},w2R F=some (v,F')->W2S F v F'
 |[],_,_,h=>(nn h).elim
 |e::r,v,F',h=>by
  have h:(match e.x.xs[e.i]? with|some v=>some (v,{e with i:=e.i+1}::r)|none=>w2R r)=some (v,F'):=h;have h2:aw2 ((e::r).map Ent.a)=(match (e.x.xs.map iv)[e.i]? with|some v=>some (v,(e.q,e.x.xs.map iv,e.i+1)::r.map Ent.a)|none=>aw2 (r.map Ent.a)):=rfl;have h3:itsA (e::r)=(match e.x.xs[e.i]? with|some _=>li (e.x.s+216) ((e.i+1:Nat):Int)::r.map λe=>e.o.2|none=>liE e.i::itsA r):=rfl;rw [vU] at h2;cases hx:e.x.xs[e.i]? with
  |some v'=>
   rw [hx] at h h2 h3;cases h;exact ⟨[],e,r,[],rfl,rfl,hx,rfl,h3,h2⟩
  |none=>
   rw [hx] at h h2 h3;cases w2_some h with
   |mk Q e' r' A g1 g2 g3 g4 g5 g6=>exact ⟨e::Q,e',r',liE e.i::A,jk (e::·) g1,g2,g3,jk Nat.succ g4,h3.trans (jk (liE e.i::·) g5),h2.trans g6⟩
def okV (v:List Value):Prop:=v≠[]/\v.length<=1000
def w1Y (P:Params) (c:Fc) (w0:World):Option (List Int)->List Value->List Obj->Prop
 |none,v,W=>okV v/\W.length=7/\∃sl,W.getD 5 default=c.P sl/\W.getD 6 default=c.L sl
 |some Sl,_,W=>∃k t sl m1 m2 m3 sd s0,W=[c.F P (.int k t) sl,lo [] m1,lo [] m2,seO sd,idO [] m3,c.P sl,c.L sl]/\IsSet w0 (seO sd) (λk=>Sl.elem k) s0/\s0<=Sl.length
def w1X (P:Params) (c:Fc) (w0:World) (L:Nat) (r:Option (List Int)) (ns:Ns):Prop:=ns.z=[]/\∃G W,G.length=L/\ns.o=G++W/\w1Y P c w0 r ns.v W
noncomputable def w1K (r:Option (List Int)):Nat:=match r with|none=>1|some _=>0
def w1N (r:Option (List Int)) (v:List Value):List Obj:=match r with|none=>[lo v 0]|some _=>[]
noncomputable def w1Fo (r:Option (List Int)) (as:List Nat):Fo:=match r with|none=> .ret (.ok (.ret (.ref (as.getD 0 0))))|some _=> .ret (.ok .next)
def cW1 (P:Params) (c:Fc) (k:Int) (t:Nat) (sl:S3) (F:List Ent) (m1 m2 m3:Nat) (nes:List (Int×Nat×Value)) (sd:Data) (N:List Nd) (n:Nat) (w0:World) (r:Option (List Int)):Ct:=
 {code:=w1C P (c.fr+216),hd:=some none,frs:=c.E P,zpre:=(c.D+216,idO (N.map Nd.e) n)::(N.map Nd.i++N.map Nd.l++F.flatMap Ent.z),
  pre:=[(c.fr+216,c.F P (.int k t) sl),(c.sk+216,lo (skV F) m1),(c.ik+216,lo (ikV F) m2),(c.sn+216,seO sd),(c.n2+216,idO nes m3),(c.pf+216,c.P sl),(c.lf+216,c.L sl)]++F.map Ent.o,k:=w1K r,
  fo:=λas _=>w1Fo r as,post:=λ_ ns=>[oAt F.length 0 ns,oAt F.length 1 ns,oAt F.length 2 ns,oAt F.length 3 ns,oAt F.length 4 ns,oAt F.length 5 ns,oAt F.length 6 ns]++ns.o.take F.length,news:=λ_ ns=>w1N r ns.v,fact:=λ_ ns=>w1X P c w0 F.length r ns}
theorem perm7 {α:Type} {a b c d e f g p q:α} {l:List α}:Perm (a::b::c::d::e::f::g::p::q::l) (g::a::b::c::d::e::p::q::f::l):=(perm_middle (l₁:=[a,b,c,d,e,f])).trans (.cons _ (.cons _ (.cons _ (.cons _ (.cons _ (.cons _ (perm_middle (l₁:=[p,q]) (a:=f)).symm))))))
theorem elem_cons (k k':Int) (S:List Int):(S.elem k'||decide (k'=k))=(k::S).elem k':=by
 rw [List.elem_cons];by_cases h:k'=k
 ·subst h;simp
 ·rw [decide_eq_false h,Bool.or_false,kv.mpr h]
theorem list7 {l:List Obj} (h:l.length=7):l=[l.getD 0 default,l.getD 1 default,l.getD 2 default,l.getD 3 default,l.getD 4 default,l.getD 5 default,l.getD 6 default]:=by
 have e:l=(List.range l.length).map λi=>l.getD i default:=ext_getElem (by simp) λi h1 h2=>by simp [zY,zQ h1]
 rw [h] at e;exact e
theorem w1Y.len {P:Params} {c:Fc} {w0:World} {r:Option (List Int)} {v:List Value} {W:List Obj} (h:w1Y P c w0 r v W):W.length=7:=by
 cases r with
 |none=>exact h.2.1
 |some Sl=>obtain ⟨k,t,sl,m1,m2,m3,sd,s0,rfl,h⟩:=h;rfl
theorem post7 {n:Nat} {G W:List Obj} {ns:Ns} (e:ns.o=G++W) (hG:G.length=n) (hW:W.length=7):[oAt n 0 ns,oAt n 1 ns,oAt n 2 ns,oAt n 3 ns,oAt n 4 ns,oAt n 5 ns,oAt n 6 ns]++ns.o.take n=W++G:=by
 simp only [oAt_of e hG];rw [<-list7 hW,e,<-hG,qz]
abbrev Wf:=World×Fc×(List Nd)×Nat
noncomputable def Wf.w (x:Wf):World:=x.1
noncomputable def Wf.c (x:Wf):Fc:=x.2.1
noncomputable def Wf.N (x:Wf):List Nd:=x.2.2.1
noncomputable def Wf.n (x:Wf):Nat:=x.2.2.2
abbrev Wv:=Int×Nat×S3×(List Ent)×Nat×Nat×Nat×(List (Int×Nat×Value))×Data×Nat×(List Int)
noncomputable def Wv.k (x:Wv):Int:=x.1
noncomputable def Wv.t (x:Wv):Nat:=x.2.1
noncomputable def Wv.sl (x:Wv):S3:=x.2.2.1
noncomputable def Wv.F (x:Wv):List Ent:=x.2.2.2.1
noncomputable def Wv.m1 (x:Wv):Nat:=x.2.2.2.2.1
noncomputable def Wv.m2 (x:Wv):Nat:=x.2.2.2.2.2.1
noncomputable def Wv.m3 (x:Wv):Nat:=x.2.2.2.2.2.2.1
noncomputable def Wv.nes (x:Wv):List (Int×Nat×Value):=x.2.2.2.2.2.2.2.1
noncomputable def Wv.sd (x:Wv):Data:=x.2.2.2.2.2.2.2.2.1
noncomputable def Wv.s0 (x:Wv):Nat:=x.2.2.2.2.2.2.2.2.2.1
noncomputable def Wv.Sl (x:Wv):List Int:=x.2.2.2.2.2.2.2.2.2.2
def Wf.e (X:Wf) (v:Wv) (r:Option (List Int)):Ct:=cW1 X.w.params X.c v.k v.t v.sl v.F v.m1 v.m2 v.m3 v.nes v.sd X.N X.n X.w r
def Wf.ads (X:Wf):List Nat:=[X.c.fr+216,X.c.sk+216,X.c.ik+216,X.c.sn+216,X.c.n2+216,X.c.pf+216,X.c.lf+216]
def Wf.L (X:Wf) (W:List Obj) (F:List Ent) (G:List Obj):List (Nat×Obj):=X.ads.zip W++((F.map Ent.o).map (·.1)).zip G
def Wf.W (X:Wf) (v:Value) (sl:S3) (F:List Ent) (m1 m2 m3:Nat) (nes:List (Int×Nat×Value)) (so:Obj):List Obj:=[X.c.F X.w.params v sl,lo (skV F) m1,lo (ikV F) m2,so,idO nes m3,X.c.P sl,X.c.L sl]
structure Wf.S (X:Wf) (F:List Ent) (f:Nat) (o:Obj) (s:Nat) (Sl:List Int):Prop where
 S:IsSet X.w o (λk=>Sl.elem k) s
 s:s<=Sl.length
 f:Sl.length+f<=500
 e:∀e∈F,Sl.elem e.q=true
structure Wf.H (X:Wf) (v:Wv) (f:Nat):Prop where
 hv:∀x∈X.N,∀v∈x.xs,∃q tq,v= .int q tq
 fN:∀e∈v.F,e.x∈X.N
 n:v.nes.map (·.1)=(v.F.map Ent.q).reverse
 nv:∀p∈v.nes,∃(pl tp:Nat),p.2.2= .int pl tp
 nd:(v.F.map Ent.q).Nodup
 ff:v.F.length+f<=90
 ss:X.S v.F f (seO v.sd) v.s0 v.Sl
section
variable {X:Wf} {v y:Wv} {f:Nat} {r:Option (List Int)} {L Z R:List (Nat×Obj)} {tok:Nat}
theorem Wf.out_eq {as:List Nat} {ns:Ns} {G W:List Obj} (e:ns.o=G++W) (hG:G.length=v.F.length) (hW:W.length=7):(X.e v r).out as ns R=X.L W v.F G++(as.zip (w1N r ns.v)++R):=by
 have a:((X.e v r).pre.map (·.1)).zip ((X.e v r).post as ns)=(X.ads++(v.F.map Ent.o).map (·.1)).zip (W++G):=jk (zip _) (post7 e hG hW);unfold Ct.out Wf.L;rw [a,zip_append (by rw [hW];rfl)];rfl
theorem Wf.fin (as:List Nat) (G W:List Obj) (u:List Value) (hk:as.length=w1K r) (hG:G.length=v.F.length) (hr:w1Y X.w.params X.c X.w r u W) (hL:L.Perm (X.L W v.F G++as.zip (w1N r u))):(X.e v r).Fr X.w 780 8400 L Z (w1Fo r as) tok:=
 Ct.Fr.fin (e:=X.e v r) as ⟨[tok],G++W,u,[]⟩ (by rw [Wf.out_eq rfl hG hr.len,jx];exact hL) hk ((jk length (post7 rfl hG hr.len)).trans (by rw [jZ,hr.len,hG];show _=([_,_,_,_,_,_,_]++v.F.map Ent.o).length;rw [jZ,zJ];rfl)) (by rw [hk];cases r<;>rfl) ⟨rfl,G,W,hG,rfl,hr⟩ λp hp=>nomatch hp
theorem Wf.z (hZ:∀p∈(X.e v r).zpre,p∈Z) (h:∀e∈y.F,∀p∈e.z,p∈Z):∀p∈(X.e y r).zpre,p∈Z:=λp hp=>by
 rcases vz.mp hp with rfl|hp
 ·exact hZ _ (zy ..)
 ·rcases jq.mp hp with hp|hp
  ·exact hZ _ (zv _ (jj _ hp))
  ·obtain ⟨e',he',hp⟩:=mem_flatMap.mp hp
   exact h _ he' p hp
theorem Wf.zin {x:Nd} (hx:x∈X.N):∀p∈[(X.c.D+216,idO (X.N.map Nd.e) X.n),x.i,x.l],p∈(X.e v r).zpre:=λp hp=>by
 rcases vz.mp hp with rfl|hp
 ·exact zy ..
 ·refine zv _ (jj _ ?_)
  rcases vz.mp hp with rfl|hp
  ·exact jj _ (zW hx)
  ·rw [jJ.mp hp]
   exact jz _ (zW hx)
theorem Wf.zF {e:Ent} (he:e∈v.F):∀p∈e.z,p∈(X.e v r).zpre:=λp hp=>zv _ (jz _ (mem_flatMap.mpr ⟨e,he,hp⟩))
theorem Wf.zFs:∀p∈v.F.flatMap Ent.z,p∈(X.e v r).zpre:=λp hp=>zv _ (jz _ hp)
theorem Wf.call (ok:(X.e y r).Ok (ktOf X.w.params) prg X.w 780 8400) (hZ:∀p∈(X.e v r).zpre,p∈Z) (hz:∀e∈y.F,∀p∈e.z,p∈Z) (hL:L.Perm ((X.e y r).pre++R))
  (K:∀(as:List Nat) (G W:List Obj) (u:List Value) (tok:Nat),as.length=w1K r->G.length=y.F.length->w1Y X.w.params X.c X.w r u W->(X.e v r).Fr X.w 780 8400 (X.L W y.F G++(as.zip (w1N r u)++R)) Z (w1Fo r as) tok):(X.e v r).Fr X.w 780 8400 L Z (.goto (w1C X.w.params (X.c.fr+216))) tok:=by
 refine Ct.Fr.go (d:=X.e y r) (R:=R) ok (λ_ e=>e) (λ_ e=>e) (jv _) (jv _) hL (λp hp=> .inl (Wf.z hZ hz p hp)) λas ns E=>?_;obtain ⟨g1,G,W,g2,g3,g4⟩:=E.f;rw [Wf.out_eq g3 g2 g4.len];exact K as G W ns.v _ E.k g2 g4
theorem Wf.split {Q:List Ent} {F F':List Ent} (e:(F.map Ent.o).map (·.1)=(Q.map Ent.o).map (·.1)++(F'.map Ent.o).map (·.1)) {As G W:List Obj} (l:As.length=Q.length):X.L W F (As++G)=X.ads.zip W++(((Q.map Ent.o).map (·.1)).zip As++((F'.map Ent.o).map (·.1)).zip G):=by
 unfold Wf.L;rw [e,zip_append (by simp [l])]
theorem perm3 {α:Type} {w g n a:List α}:Perm ((w++g)++(n++a)) ((w++(a++g))++n):=by
 rw [jV,jV];refine Perm.append_left _ ?_;rw [<-jV];refine vY.trans ?_;rw [<-jV]
theorem Wf.H.next (h:X.H v (f+1)) {Q r':List Ent} {e:Ent} (hF:v.F=Q++e::r') {q:Int} {tq:Nat} {sl:S3} {m1 m2 m3:Nat} {sd:Data} {s:Nat} {Sl:List Int} (S:X.S v.F f (seO sd) s Sl):X.H ⟨q,tq,sl,{e with i:=e.i+1}::r',m1,m2,m3,v.nes.take (r'.length+1),sd,s,Sl⟩ f:=by
 have m:∀e'∈({e with i:=e.i+1}::r':List Ent),∃e2∈v.F,e2.x=e'.x/\e2.q=e'.q:=λe' he=>by
  rw [hF];rcases vz.mp he with rfl|he
  ·exact ⟨e,by simp,rfl,rfl⟩
  ·exact ⟨e',by simp [he],rfl,rfl⟩
 have nd:=h.nd;have hn:=h.n;have ff:=h.ff;rw [hF,zU] at nd hn;rw [hF] at ff;refine ⟨h.hv,λe' he=>?_,?_,λp hp=>h.nv p (mem_of_mem_take hp),(kX.mp nd).2.1,?_,⟨S.S,S.s,S.f,λe' he=>?_⟩⟩
 ·obtain ⟨e2,h2,x,-⟩:=m e' he
  exact x▸h.fN e2 h2
 ·show (v.nes.take (r'.length+1)).map (·.1)=((e::r').map Ent.q).reverse
  rw [map_take,hn,reverse_append,show r'.length+1=((e::r').map Ent.q).reverse.length by simp,qz]
 ·show r'.length+1+f<=90
  simp at ff;lia
 ·obtain ⟨e2,h2,-,x⟩:=m e' he
  exact x▸S.e e2 h2
def Wf.IH (X:Wf) (f:Nat):Prop:=∀y r,X.H y f->aw1 (X.N.map Nd.ad) f y.k (y.F.map Ent.a) y.Sl=some r->(X.e y r).Ok (ktOf X.w.params) prg X.w 780 8400
theorem Wf.go (ih:X.IH f) (h:X.H v (f+1)) {sl:S3} {m1 m2 m3:Nat} {o:Obj} {s:Nat} {Sl:List Int} (S:X.S v.F f o s Sl) (ha:(match aw2 (v.F.map Ent.a) with|none=>some (some Sl)|some p=>aw1 (X.N.map Nd.ad) f p.1 p.2 Sl)=some r):
  (X.e v r).Fr X.w 780 8400 (X.L (X.W (nodeA v.F (.int v.k v.t)) sl (remF v.F) m1 m2 m3 (v.nes.take (remF v.F).length) o) v.F (itsA v.F)) (X.e v r).zpre (cond (w2R v.F).isSome (.goto (w1C X.w.params (X.c.fr+216))) (.ret (.ok .next))) tok:=by
 obtain ⟨sd,rfl⟩:=S.S.seO;unfold nodeA remF;cases hR:w2R v.F with
 |none=>
  rw [aw2_none hR] at ha;obtain rfl:some Sl=r:=kU ha;exact Wf.fin [] (itsA v.F) _ [] rfl (itsA_len _) ⟨v.k,v.t,sl,m1,m2,m3,sd,s,rfl,S.S,S.s⟩ (by rw [zip_nil_left,jx];exact .refl _)
 |some p=>
  obtain ⟨u,F'⟩:=p;cases w2_some hR with|mk Q e r' As hQ hF' hx hAs hits ha2=>?_;subst hF';have he:e∈v.F:=by rw [hQ];simp
  obtain ⟨q,tq,rfl⟩:=h.hv _ (h.fN e he) u (jy hx);rw [ha2] at ha;have eF:(v.F.map Ent.o).map (·.1)=(Q.map Ent.o).map (·.1)++(({e with i:=e.i+1}::r').map Ent.o).map (·.1):=by rw [hQ];simp [Ent.o]
  rw [hits,Wf.split eF hAs,show ({e with i:=e.i+1}::r':List Ent).map (λe=>e.o.2)=(({e with i:=e.i+1}::r':List Ent).map Ent.o).map (·.2) by simp,zip_fs];refine Wf.call (ih _ r (h.next hQ S) ha) (λ_ h=>h) (λe' he'=>?_) (L:=X.ads.zip (X.W (.int q tq) sl _ m1 m2 m3 (v.nes.take (r'.length+1)) (seO sd))++(_++_)) (.trans (.append_left _ vY) (.of_eq (jV ..).symm)) λas G W u tok hk hG hr=>?_
  ·rcases vz.mp he' with rfl|he'
   ·exact Wf.zF (X:=X) (r:=r) (e:=e) he
   ·exact Wf.zF (by rw [hQ];simp [he'])
  ·refine Wf.fin as (As++G) W u hk (by rw [jZ,show G.length=r'.length+1 from hG,hAs,hQ];simp) hr ?_
   rw [Wf.split eF hAs];exact perm3
def Wf.cw (X:Wf) (v:Wv) (Z:List (Nat×Obj)) (ex:Obj->Prop):Ct:=
 {code:=w1C X.w.params (X.c.fr+216),hd:=some none,frs:=X.c.E X.w.params,zpre:=Z,pre:=X.ads.zip (X.W (.int v.k v.t) v.sl v.F v.m1 v.m2 v.m3 v.nes (seO v.sd)),k:=0,fo:=λ_ _=>cond (w2R v.F).isSome (.goto (w1C X.w.params (X.c.fr+216))) (.ret (.ok .next)),
  post:=λ_ ns=>[oAt v.F.length 0 ns,oAt v.F.length 1 ns,oAt v.F.length 2 ns,oAt v.F.length 6 ns,oAt v.F.length 3 ns,oAt v.F.length 4 ns,oAt v.F.length 5 ns],news:=λ_ _=>[],fact:=λ_ ns=>w2X X.w.params X.c v.k v.t v.F v.nes ex ns}
def Wf.cx (X:Wf) (v:Wv) (Z:List (Nat×Obj)) (ex:Obj->Prop):Ct:={X.cw v Z ex with pre:=(X.cw v Z ex).pre++v.F.map Ent.o,post:=λas ns=>(X.cw v Z ex).post as ns++ns.o.take v.F.length}
theorem Wf.tw (ih:X.IH f) (h:X.H v (f+1)) {Zc:List (Nat×Obj)} {ex:Obj->Prop} (ok:(X.cw v Zc ex).OkG (ktOf X.w.params) prg X.w 780 8400 (v.F.map Ent.o) (λ_ ns=>gdec (v.F.map Ent.o) ns)) (hz:∀p∈Zc,p∈(X.e v r).zpre) {Sl:List Int} (S:∀o,ex o->∃s,X.S v.F f o s Sl)
  (ha:(match aw2 (v.F.map Ent.a) with|none=>some (some Sl)|some p=>aw1 (X.N.map Nd.ad) f p.1 p.2 Sl)=some r):(X.e v r).Fr X.w 780 8400 (X.e v r).pre (X.e v r).zpre (.goto (X.e v r).code) tok:=by
 have nil:∀{as:List Nat},as.length=(X.cw v Zc ex).k->as=[]:=λq=>zV.mp q;have ok':(X.cx v Zc ex).Ok (ktOf X.w.params) prg X.w 780 8400:=
  ok.full rfl rfl rfl rfl rfl λas ns hk' _ hfa=>by
   have g:w2X X.w.params X.c v.k v.t v.F v.nes ex ns:=hfa;rw [nil hk',g.1];exact ⟨by have:=w2X_g g;rwa [g.1] at this,rfl,by rw [zJ];rfl,rfl,rfl,hfa⟩
 refine Ct.Fr.go (d:=X.cx v Zc ex) (R:=[]) ok' (λ_ e=>e) (λ_ e=>e) (jv _) (jv _) (.of_eq (jx _).symm) (λp hp=> .inl (hz p hp)) λas ns E=>?_;obtain ⟨-,-,sl,m1,m2,m3,o,g,ho⟩:=E.f;obtain ⟨s,S⟩:=S o ho;have l:=itsA_len v.F;have e:[oAt v.F.length 0 ns,oAt v.F.length 1 ns,oAt v.F.length 2 ns,oAt v.F.length 6 ns,oAt v.F.length 3 ns,oAt v.F.length 4 ns,oAt v.F.length 5 ns]++ns.o.take v.F.length=X.W (nodeA v.F (.int v.k v.t)) sl (remF v.F) m1 m2 m3 (v.nes.take (remF v.F).length) o++itsA v.F:=by
  simp only [oAt_of g l];rw [g,<-l,qz];rfl
 refine (Wf.go (sl:=sl) (m1:=m1) (m2:=m2) (m3:=m3) ih h S ha).perm (.of_eq ?_);unfold Ct.out;rw [nil E.k];exact .trans (jk (·++([]:List (Nat×Obj))) (.trans (jk (zip (X.ads++(v.F.map Ent.o).map (·.1))) e) (zip_append rfl))) (jx _)
theorem Wf.H.any (h:X.H v f):(v.F.map Ent.a).any (λe=>e.1==v.k)=(iLook v.nes v.k).isSome:=by
 have e1:(v.F.map Ent.a).any (λe=>e.1==v.k)=(v.F.map Ent.q).any (·==v.k):=by rw [any_map,any_map];rfl
 have e2:(iLook v.nes v.k).isSome=(v.nes.map (·.1)).any (·==v.k):=by
  unfold iLook;rw [Option.isSome_map,any_map];exact Bool.eq_iff_iff.mpr (by rw [find?_isSome,any_eq_true];rfl)
 rw [e1,e2,h.n,any_reverse]
theorem Wf.H.len (h:X.H v f):v.nes.length=v.F.length:=by
 have:=jk length h.n;simpa using this
def Wf.dd (X:Wf) (v:Wv) (pl tp:Nat):Ct:=(w1d X.w.params X.c v.k v.t v.sl v.m1 v.m2 v.m3 v.nes v.sd (λk=>v.Sl.elem k) v.s0 X.w (skV v.F) (ikV v.F) pl tp).ct
theorem Wf.td (h:X.H v (f+1)) (hk:v.Sl.elem v.k=true) {pl tp:Nat} (hin:iLook v.nes v.k=some (.int pl tp)):(X.e v none).Fr X.w 780 8400 (X.e v none).pre (X.e v none).zpre (.goto (X.e v none).code) tok:=by
 have l:=h.ff;have l1:=skV_len v.F;refine Ct.Fr.go (d:=X.dd v pl tp) (R:=(X.c.pf+216,X.c.P v.sl)::(X.c.lf+216,X.c.L v.sl)::v.F.map Ent.o) (w1d_ok X.w X.c v.k v.t v.sl v.m1 v.m2 v.m3 v.nes v.sd (λk=>v.Sl.elem k) v.s0 X.w (skV v.F) (ikV v.F) pl tp h.ss.S hk hin (by lia)) (λ_ e=>e) (λ_ e=>nomatch e) (jv _) (jv _) (.refl _) (λp hp=>nomatch hp) λas ns E=>?_;refine Wf.fin as (v.F.map λe=>e.o.2) (X.W (.int v.k v.t) v.sl v.F v.m1 v.m2 v.m3 v.nes (seO v.sd)) ((skV v.F).drop pl++[.int v.k v.t]) E.k (by simp) ⟨⟨by simp,by simp;lia⟩,rfl,v.sl,rfl,rfl⟩ ?_;unfold Wf.L;rw [show (v.F.map λe=>e.o.2)=(v.F.map Ent.o).map (·.2) by simp,zip_fs];exact .append_left [_,_,_,_,_] (show Perm (as.zip _++_::_::v.F.map Ent.o) ((_::_::v.F.map Ent.o)++as.zip _) from vY)
structure Wf.Nw (X:Wf) (v:Wv) (f:Nat) (x:Nd):Prop where
 m:x∈X.N
 l:iLook (X.N.map Nd.e) v.k=some (.ref (x.a+216))
 i:iLook v.nes v.k=none
 F:v.k∉v.F.map Ent.q
 e:∀e∈v.F,(v.k::v.Sl).elem e.q=true
theorem Wf.Nw.S {x:Nd} (n:X.Nw v f x) (h:X.H v (f+1)) {o:Obj} (hs:IsSet X.w o (λk'=>v.Sl.elem k'||decide (k'=v.k)) (if v.Sl.elem v.k=true then v.s0 else v.s0+1)):∃s,X.S v.F f o s (v.k::v.Sl):=by
 have a:=h.ss.s;have b:=h.ss.f;refine ⟨if v.Sl.elem v.k=true then v.s0 else v.s0+1,?_,by split<;>simp<;>lia,by simp;lia,n.e⟩;rw [show (λk'=>(v.k::v.Sl).elem k')=(λk'=>v.Sl.elem k'||decide (k'=v.k)) from funext λk'=>(elem_cons v.k k' v.Sl).symm];exact hs
theorem Wf.H.nw (h:X.H v (f+1)) (hk:v.Sl.elem v.k=false) {x:Nd} (hf:X.N.find? (λx=>x.k==v.k)=some x):X.Nw v f x:=by
 have no:v.k∉v.F.map Ent.q:=λhm=>by
  obtain ⟨e,he,e1⟩:=ky.mp hm;have h0:=h.ss.e e he;rw [e1,hk] at h0;exact kZ h0
 refine ⟨mem_of_find?_eq_some hf,by rw [look_e,hf];rfl,?_,no,λe he=>by rw [<-elem_cons,h.ss.e e he];rfl⟩;unfold iLook;rw [Option.map_eq_none_iff,find?_eq_none];intro p hp q;exact no (mem_reverse.mp (h.n▸(eq_of_beq q▸zW hp:v.k∈v.nes.map (·.1))))
def Wf.da (X:Wf) (v:Wv) (x:Nd) (q:Int) (tq:Nat):Ct:=(w1a X.w.params X.c v.k v.t v.sl v.m1 v.m2 v.m3 v.nes v.sd (λk=>v.Sl.elem k) v.s0 X.w (skV v.F) (ikV v.F) (X.N.map Nd.e) X.n x q tq).ct
theorem Wf.ta (ih:X.IH f) (h:X.H v (f+1)) (hk:v.Sl.elem v.k=false) {x:Nd} (n:X.Nw v f x) {q:Int} {tq:Nat} (hx:x.xs[0]?=some (.int q tq)) (ha:aw1 (X.N.map Nd.ad) f q ((v.k,x.ad.2,1)::v.F.map Ent.a) (v.k::v.Sl)=some r):(X.e v r).Fr X.w 780 8400 (X.e v r).pre (X.e v r).zpre (.goto (X.e v r).code) tok:=by
 have l:=h.ff;have l1:=skV_len v.F;have l2:=ikV_len v.F;have l3:=h.len;have a:=h.ss.s;have b:=h.ss.f;have hsc:scanBound=4096:=rfl;refine Ct.Fr.go (d:=X.da v x q tq) (R:=(X.c.pf+216,X.c.P v.sl)::(X.c.lf+216,X.c.L v.sl)::v.F.map Ent.o) (w1a_ok X.w X.c v.k v.t v.sl v.m1 v.m2 v.m3 v.nes v.sd (λk=>v.Sl.elem k) v.s0 X.w (skV v.F) (ikV v.F) (X.N.map Nd.e) X.n x q tq h.ss.S hk rfl (by lia) n.l n.i (by lia) (by lia) (by lia) hx) (λ_ e=>e) (λ_ e=>nomatch e) (jv _) (jv _) (.refl _) (λp hp=> .inl (Wf.zin n.m p hp)) λas ns E=>?_;obtain ⟨s,S⟩:=n.S h E.f;obtain ⟨it,mw,rfl⟩:=ge2 E.k E.ge;obtain ⟨sd,hsd⟩:=S.S.seO;rw [hsd] at S;let y:Wv:=⟨q,tq,v.sl,⟨it,mw,x,1,v.k,v.t⟩::v.F,v.m1+1,v.m2+1,v.m3+1,v.nes++[(v.k,v.t,.int (skV v.F).length (ns.g 1))],sd,s,v.k::v.Sl⟩
 have hy:X.H y f:=⟨h.hv,forall_mem_cons.mpr ⟨n.m,h.fN⟩,by show (v.nes++[(v.k,_)]).map Prod.fst=((⟨it,mw,x,1,v.k,v.t⟩::v.F:List Ent).map Ent.q).reverse;rw [zU,h.n];simp,λp hp=>(jq.mp hp).elim (h.nv p) λhp=>by rw [jJ.mp hp];exact ⟨_,_,rfl⟩,vX.mpr ⟨n.F,h.nd⟩,by show v.F.length+1+f<=90;lia,S.S,S.s,S.f,forall_mem_cons.mpr ⟨by show (v.k::v.Sl).elem v.k=true;simp,n.e⟩⟩
 refine Ct.Fr.perm (Ct.Fr.fz (L:=(X.e y r).pre) (p:=(mw+216,mwO (it+216))) (λa ha=>(jq.mp (show a∈X.ads++(v.F.map Ent.o).map (·.1) from ha)).elim (λh=>jj ((it+216)::_) h) λh=>jz X.ads (zv _ h)) (Wf.call (R:=[]) (ih y r hy ha) (λp hp=>zv _ hp) (forall_mem_cons.mpr ⟨?_,λe he p hp=>zv _ (Wf.zF he p hp)⟩) (.of_eq (jx _).symm) λas G W u tok hk hG hr=>?_)) ?_
 ·intro p hp
  rcases vz.mp hp with rfl|hp
  ·exact zy ..
  ·rw [jJ.mp hp]
   exact zv _ (Wf.zin n.m _ (by simp))
 ·obtain ⟨g0,G',rfl,hG'⟩:=lenS (show G.length=v.F.length+1 from hG)
  refine (Wf.fin as G' W u hk hG' hr (.refl _)).sub ?_;rw [jx];exact Sublist.append_right (Sublist.append_left (sublist_cons_self ..) _) _
 ·have e:ns.p 0=seO sd:=hsd
  show Perm ([_,_,_,(_,ns.p 0),_]++([_,_]++_)) _;rw [e];exact perm7
theorem Wf.ok (X:Wf):∀f,X.IH f:=λf=>by
 induction f with
 |zero=>exact λy r h ha=>(nn ha).elim
 |succ f ih=>
  intro v r h ha;refine Ct.Fr.ok λtok=>?_;rw [aw1_s] at ha;have hsl:=skV_len v.F;have hil:=ikV_len v.F;have hnl:=h.len;have hff:=h.ff;have hv:∀e∈v.F,∀u∈e.x.xs,∃q tq,u= .int q tq:=λe he=>h.hv _ (h.fN e he);have S0:∀o,IsSet X.w o (λk=>v.Sl.elem k) v.s0->∃s,X.S v.F f o s v.Sl:=λo ho=>⟨v.s0,ho,h.ss.s,Nat.le_of_succ_le h.ss.f,h.ss.e⟩
  cases hk:v.Sl.elem v.k with
  |true=>
   rw [hk] at ha;have ha:(match (v.F.map Ent.a).any (λe=>e.1==v.k) with|true=>some none|false=>match aw2 (v.F.map Ent.a) with|none=>some (some v.Sl)|some p=>aw1 (X.N.map Nd.ad) f p.1 p.2 v.Sl)=some r:=ha;rw [h.any] at ha;cases hin:iLook v.nes v.k with
   |none=>
    rw [hin] at ha;exact Wf.tw ih h (w1c_ok X.w X.c v.k v.t v.sl v.m1 v.m2 v.m3 v.nes v.sd (λk=>v.Sl.elem k) v.s0 X.w v.F (w2R v.F).isSome h.ss.S hk rfl hin rfl (w2_ok X.w X.c v.k v.t v.F v.sl v.m1 v.m2 v.m3 v.nes (by lia) h.n h.nd hv)) Wf.zFs S0 ha
   |some u=>
    rw [hin] at ha;obtain rfl:none=r:=kU ha;have hu:=hin;unfold iLook at hu;obtain ⟨p,hp,rfl⟩:=Option.map_eq_some_iff.mp hu;obtain ⟨pl,tp,e⟩:=h.nv p (mem_of_find?_eq_some hp);exact Wf.td h hk (hin.trans (jk some e))
  |false=>
   rw [hk] at ha;have ha:(match (X.N.map Nd.ad).find? (λp=>p.1==v.k) with|none=>none|some p=>match aw2 ((v.k,p.2,0)::v.F.map Ent.a) with|none=>some (some (v.k::v.Sl))|some q=>aw1 (X.N.map Nd.ad) f q.1 q.2 (v.k::v.Sl))=some r:=ha;rw [find?_map,show ((λp=>p.1==v.k)∘Nd.ad)=λx:Nd=>x.k==v.k from rfl] at ha;cases hf:X.N.find? (λx=>x.k==v.k) with
   |none=>rw [hf] at ha;exact (nn ha).elim
   |some x=>
    rw [hf] at ha;have n:=h.nw hk hf;have ha:(match aw2 ((v.k,x.ad.2,0)::v.F.map Ent.a) with|none=>some (some (v.k::v.Sl))|some q=>aw1 (X.N.map Nd.ad) f q.1 q.2 (v.k::v.Sl))=some r:=ha;rw [aw2_c,show x.ad.2[0]?=(x.xs[0]?).map iv from vU] at ha;cases hx:x.xs[0]? with
    |none=>
     rw [hx] at ha;exact Wf.tw ih h (w1b_ok X.w X.c v.k v.t v.sl v.m1 v.m2 v.m3 v.nes v.sd (λk=>v.Sl.elem k) v.s0 X.w v.F (w2R v.F).isSome (X.N.map Nd.e) X.n x h.ss.S hk rfl (by have:=h.ss.s;have:=h.ss.f;have hsc:scanBound=4096:=rfl;lia) n.l n.i (by lia) (by lia) (by lia) hx hnl rfl λit mw m1 m2 m3 tp=>w2_ok X.w X.c v.k v.t _ v.sl m1 m2 m3 _ (by simp;lia) (by rw [zU,h.n];simp) (vX.mpr ⟨n.F,h.nd⟩) (forall_mem_cons.mpr ⟨h.hv x n.m,hv⟩)) (λp hp=>(jq.mp (show p∈[_,_,_]++_ from hp)).elim (Wf.zin n.m p) (Wf.zFs p)) (λo ho=>n.S h ho) ha
    |some u=>
     obtain ⟨q,tq,rfl⟩:=h.hv x n.m u (jy hx);rw [hx] at ha;exact Wf.ta ih h hk n hx ha
end
theorem w1_ok (w:World) (c:Fc) (N:List Nd) (n:Nat) (hv:∀x∈N,∀v∈x.xs,∃q tq,v= .int q tq) (f:Nat) (k:Int) (t:Nat) (sl:S3) (m1 m2 m3:Nat) (sd:Data) (s0:Nat) (Sl:List Int) (r:Option (List Int))
  (ha:aw1 (N.map Nd.ad) f k [] Sl=some r) (hS:IsSet w (seO sd) (λk=>Sl.elem k) s0) (hs:s0<=Sl.length) (hl:Sl.length+f<=500) (hf:f<=90):(cW1 w.params c k t sl [] m1 m2 m3 [] sd N n w r).Ok (ktOf w.params) prg w 780 8400:=
 Wf.ok ⟨w,c,N,n⟩ f ⟨k,t,sl,[],m1,m2,m3,[],sd,s0,Sl⟩ r ⟨hv,(λ_ h=>nomatch h),rfl,(λ_ h=>nomatch h),nodup_nil,by show 0+f<=90;rw [Nat.zero_add];exact hf,hS,hs,hl,(λ_ h=>nomatch h)⟩ ha
end
section
def Fc.G (c:Fc) (P:Params) (b:Bool) (node:Value) (sl:S3):Obj:=match b with
 |true=>c.F P node sl
 |false=>fob [en P [115,101,108,102] c.f0 (.ref (c.S+216)),en P [110,50,105] c.f1 (.ref (c.D+216)),en P [115,116,97,99,107] c.f2 (.ref (c.sk+216)),en P [105,116,115,116,97,99,107] c.f3 (.ref (c.ik+216)),en P [115,101,101,110] c.f4 (.ref (c.sn+216)),en P [110,111,100,101,50,115,116,97,99,107,105] c.f5 (.ref (c.n2+216))] c.fn sl.a
def ofC (P:Params) (c:Fc) (it:Nat):Code:=forC (stOf P 157 5) (.ref (it+216)) (fcEnv P (c.fr+216))
def Fc.nx (c:Fc) (b:Bool) (f6:Nat):Fc:={c with f6:=aT b c.f6 f6,fn:=pN b c.fn}
def wfs (P:Params) (c:Fc) (it:Nat) (v0:Value) (sl:S3) (m1 m2 m3:Nat) (sd:Data) (Sl:List Int) (s0:Nat) (N:List Nd) (n j:Nat) (k:Int) (t:Nat) (va:Nat):Sp:={c:=ofC P c it,z:=[(c.D+216,idO (N.map Nd.e) n)],i:=[(c.fr+216,c.G P true v0 sl),(it+216,KO (c.D+216) j (N.map Nd.e).length n),(c.sk+216,lo [] m1),(c.ik+216,lo [] m2),(c.sn+216,seO sd),(c.n2+216,idO [] m3)],r:=λas ns=> .goto (ofC P c it),u:=λas ns=>[(0,c.F P (.int k t) sl),(1,KO (c.D+216) (j+1) (N.map Nd.e).length n)],ors:=[(λX=>cNxK true (it+216) (c.D+216) (N.map Nd.e) n j (.int k t),[1]),(λX=>cSHas (c.sn+216) (seO sd) k t true,[4])],m:=2,tr:=trD 9 0x5145041041082,cs:=[1,1,0],ns:=λ_ _ M=>⟨[((M 1).t)],[],[],[]⟩}
theorem wfs_ok (w:World) (c:Fc) (it:Nat) (v0:Value) (sl:S3) (m1 m2 m3:Nat) (sd:Data) (Sl:List Int) (s0:Nat) (N:List Nd) (n j:Nat) (k:Int) (t:Nat) (va:Nat) (hv:(N.map Nd.e)[j]?=some (k,t,.ref va)) (hS:IsSet w (seO sd) (λk=>Sl.elem k) s0) (hk:Sl.elem k=true):OK (wfs · c it v0 sl m1 m2 m3 sd Sl s0 N n j k t va) w 840 8700:=
 okF 2 (qY [0] (λ_=>nxK_ok _ w _ _ true _ _ _ _ _ hv)<|qN (λ_=>shas_ok _ w _ _ _ _ (λk=>Sl.elem k) s0 _ _ hS hk)<|trivial)
def wfn (P:Params) (c:Fc) (it:Nat) (v0:Value) (sl:S3) (m1 m2 m3:Nat) (sd:Data) (Sl:List Int) (s0:Nat) (N:List Nd) (n j:Nat) (k:Int) (t:Nat) (va:Nat) (b:Bool) (w0:World) (Sl1:List Int):Sp:={c:=ofC P c it,fr:=c.E P,z:=(c.D+216,idO (N.map Nd.e) n)::(N.map Nd.i++N.map Nd.l++[]),i:=[(c.fr+216,c.G P b v0 sl),(it+216,KO (c.D+216) j (N.map Nd.e).length n),(c.sk+216,lo [] m1),(c.ik+216,lo [] m2),(c.sn+216,seO sd),(c.n2+216,idO [] m3),(c.pf+216,c.P sl),(c.lf+216,c.L sl)],r:=λas ns=> .goto (ofC P c it),u:=λas ns=>[(0,ns.p 0),(1,KO (c.D+216) (j+1) (N.map Nd.e).length n),(2,ns.p 1),(3,ns.p 2),(4,ns.p 3),(5,ns.p 4),(6,ns.p 5),(7,ns.p 6)],f:=λas ns=>∃f6,w1X P (c.nx b f6) w0 0 (some Sl1) ns,ors:=[(λX=>cNxK true (it+216) (c.D+216) (N.map Nd.e) n j (.int k t),[1]),(λX=>cSHas (c.sn+216) (seO sd) k t false,[4]),(λX=>cW1 P (c.nx b (X.t 1)) k t sl [] m1 m2 m3 [] sd N n w0 (some Sl1),[0,2,3,4,5,6,7])],m:=3,tr:=trD 9 0x5145041041082,cs:=[1,1,0,0],ns:=λ_ _ M=>⟨[((M 2).t)],(M 2).o,[],[]⟩}
theorem wfn_ok (w:World) (c:Fc) (it:Nat) (v0:Value) (sl:S3) (m1 m2 m3:Nat) (sd:Data) (Sl:List Int) (s0:Nat) (N:List Nd) (n j:Nat) (k:Int) (t:Nat) (va:Nat) (b:Bool) (w0:World) (Sl1:List Int) (hv:(N.map Nd.e)[j]?=some (k,t,.ref va)) (hS:IsSet w (seO sd) (λk=>Sl.elem k) s0) (hk:Sl.elem k=false) (hok:∀f6,(cW1 w.params (c.nx b f6) k t sl [] m1 m2 m3 [] sd N n w0 (some Sl1)).Ok (ktOf w.params) prg w 780 8400):OK (wfn · c it v0 sl m1 m2 m3 sd Sl s0 N n j k t va b w0 Sl1) w 720 8100:=
 okF 3 (qY [0] (λ_=>nxK_ok _ w _ _ true _ _ _ _ _ hv)<|qN (λ_=>shas_ok _ w _ _ _ _ (λk=>Sl.elem k) s0 _ _ hS hk)<|qC (λX hF=>λzq hzq=>(λ_ h=>zs_at _ h) _ hF zq hzq) (λ_ _=>hok _)<|trivial) (λh=>fq h 2 λf2=>⟨_,rfl,f2.2⟩) (e:=by cases b<;>kernel_rfl)
def wfc (P:Params) (c:Fc) (it:Nat) (v0:Value) (sl:S3) (m1 m2 m3:Nat) (sd:Data) (Sl:List Int) (s0:Nat) (N:List Nd) (n j:Nat) (k:Int) (t:Nat) (va:Nat) (b:Bool) (w0:World):Sp:={c:=ofC P c it,fr:=c.E P,z:=(c.D+216,idO (N.map Nd.e) n)::(N.map Nd.i++N.map Nd.l++[]),i:=[(c.fr+216,c.G P b v0 sl),(it+216,KO (c.D+216) j (N.map Nd.e).length n),(c.sk+216,lo [] m1),(c.ik+216,lo [] m2),(c.sn+216,seO sd),(c.n2+216,idO [] m3),(c.pf+216,c.P sl),(c.lf+216,c.L sl)],r:=λas ns=> .ret (.ok (.ret (.ref (as.getD 0 0)))),u:=λas ns=>[(0,ns.p 0),(1,KO (c.D+216) (j+1) (N.map Nd.e).length n),(2,ns.p 1),(3,ns.p 2),(4,ns.p 3),(5,ns.p 4),(6,ns.p 5),(7,ns.p 6)],a:=λas ns=>[lo ns.v 0],f:=λas ns=>okV ns.v/\∃sl,ns.p 5=c.P sl/\ns.p 6=c.L sl,ors:=[(λX=>cNxK true (it+216) (c.D+216) (N.map Nd.e) n j (.int k t),[1]),(λX=>cSHas (c.sn+216) (seO sd) k t false,[4]),(λX=>cW1 P (c.nx b (X.t 1)) k t sl [] m1 m2 m3 [] sd N n w0 none,[0,2,3,4,5,6,7])],s:=1,m:=3,x:=[8],tr:=trD 9 0x5145041041082,cs:=[1,1,0],as:=[0],ns:=λ_ _ M=>⟨[((M 2).t)],(M 2).o,(M 2).v,[]⟩}
theorem wfc_ok (w:World) (c:Fc) (it:Nat) (v0:Value) (sl:S3) (m1 m2 m3:Nat) (sd:Data) (Sl:List Int) (s0:Nat) (N:List Nd) (n j:Nat) (k:Int) (t:Nat) (va:Nat) (b:Bool) (w0:World) (hv:(N.map Nd.e)[j]?=some (k,t,.ref va)) (hS:IsSet w (seO sd) (λk=>Sl.elem k) s0) (hk:Sl.elem k=false) (hok:∀f6,(cW1 w.params (c.nx b f6) k t sl [] m1 m2 m3 [] sd N n w0 none).Ok (ktOf w.params) prg w 780 8400):OK (wfc · c it v0 sl m1 m2 m3 sd Sl s0 N n j k t va b w0) w 720 8100:=
 okF 3 (qY [0] (λ_=>nxK_ok _ w _ _ true _ _ _ _ _ hv)<|qN (λ_=>shas_ok _ w _ _ _ _ (λk=>Sl.elem k) s0 _ _ hS hk)<|qC (λX hF=>λzq hzq=>(λ_ h=>zs_at _ h) _ hF zq hzq) (λ_ _=>hok _)<|trivial) (λ{tok sup nss} h=>fq h 2 λf2=>by
   obtain ⟨-,G,W,g1,g2,g⟩:=f2;obtain rfl:=zV.mp g1;have g2:(nss.getD 2 Ns.nil).o=W:=g2;refine ⟨g.1,?_⟩;show∃sl,(nss.getD 2 Ns.nil).o.getD 5 default=_/\(nss.getD 2 Ns.nil).o.getD 6 default=_;rw [g2];exact g.2.2) (e:=by cases b<;>kernel_rfl)
section
variable (P:Params) (w:World) (c:Fc) (it:Nat) (N:List Nd) (n j:Nat)
def wfe:Sp:={c:=ofC P c it,z:=[(c.D+216,idO (N.map Nd.e) n)],i:=[(it+216,KO (c.D+216) j (N.map Nd.e).length n)],r:=λas ns=> .ret (.ok .next),u:=λas ns=>[(0,KE j (N.map Nd.e).length n)],ors:=[(λX=>cNxKE true (it+216) (c.D+216) (N.map Nd.e) n j,[0])],s:=1,m:=1,tr:=[1,1,2],cs:=[1],ns:=λ_ _ M=>⟨[((M 0).t)],[],[],[]⟩}
theorem wfe_ok (hv:(N.map Nd.e)[j]?=none):OK (wfe · c it N n j) w 840 8700:=
 okF 1 (qY [0] (λ_=>nxKE_ok _ w _ _ true _ _ _ _ _ hv)<|trivial)
end
end
section
def aout (adj:List (Int×List Int)) (f:Nat):List Int->List Int->Option Bool
 |[],_=>some false
 |k::l,S=>match Nat.ble (S.length+f) 500 with
  |false=>none
  |true=>match S.elem k with
   |true=>aout adj f l S
   |false=>match aw1 adj f k [] S with
    |none=>none
    |some none=>some true
    |some (some S')=>aout adj f l S'
theorem aout_c {adj:List (Int×List Int)} {f:Nat} {k:Int} {l S:List Int}:aout adj f (k::l) S=match Nat.ble (S.length+f) 500 with
  |false=>none
  |true=>match S.elem k with
   |true=>aout adj f l S
   |false=>match aw1 adj f k [] S with
    |none=>none
    |some none=>some true
    |some (some S')=>aout adj f l S':=rfl
def cOF (P:Params) (c:Fc) (it:Nat) (b:Bool) (v0:Value) (sl:S3) (m1 m2 m3:Nat) (sd:Data) (N:List Nd) (n j z:Nat) (r:Bool):Ct:=
 {code:=ofC P c it,hd:=some none,frs:=c.E P,zpre:=(c.D+216,idO (N.map Nd.e) n)::(N.map Nd.i++N.map Nd.l++[]),
  pre:=[(c.fr+216,c.G P b v0 sl),(it+216,KO (c.D+216) j z n),(c.sk+216,lo [] m1),(c.ik+216,lo [] m2),(c.sn+216,seO sd),(c.n2+216,idO [] m3),(c.pf+216,c.P sl),(c.lf+216,c.L sl)],k:=cond r 1 0,
  fo:=λas _=>cond r (.ret (.ok (.ret (.ref (as.getD 0 0))))) (.ret (.ok .next)),post:=λ_ ns=>[ns.p 0,ns.p 1,ns.p 2,ns.p 3,ns.p 4,ns.p 5,fob c.pE c.pn (ns.p 6).slots,fob c.lE c.ln (ns.p 7).slots],news:=λ_ ns=>cond r [lo ns.v 0] [],
  fact:=λ_ ns=>r=true->okV ns.v}
abbrev Of:=World×(List Nd)×Nat×Nat
noncomputable def Of.w (x:Of):World:=x.1
noncomputable def Of.N (x:Of):List Nd:=x.2.1
noncomputable def Of.n (x:Of):Nat:=x.2.2.1
noncomputable def Of.it (x:Of):Nat:=x.2.2.2
abbrev Ov:=Nat×Fc×Value×S3×Nat×Nat×Nat×Data
noncomputable def Ov.j (x:Ov):Nat:=x.1
noncomputable def Ov.c (x:Ov):Fc:=x.2.1
noncomputable def Ov.v0 (x:Ov):Value:=x.2.2.1
noncomputable def Ov.sl (x:Ov):S3:=x.2.2.2.1
noncomputable def Ov.m1 (x:Ov):Nat:=x.2.2.2.2.1
noncomputable def Ov.m2 (x:Ov):Nat:=x.2.2.2.2.2.1
noncomputable def Ov.m3 (x:Ov):Nat:=x.2.2.2.2.2.2.1
noncomputable def Ov.sd (x:Ov):Data:=x.2.2.2.2.2.2.2
def Of.e (X:Of) (v:Ov) (b r:Bool):Ct:=cOF X.w.params v.c X.it b v.v0 v.sl v.m1 v.m2 v.m3 v.sd X.N X.n v.j (X.N.map Nd.e).length r
structure Of.H (X:Of) (v:Ov) (b:Bool) (s0:Nat) (Sl:List Int):Prop where
 b:b=false->Sl=[]
 S:IsSet X.w (seO v.sd) (λk=>Sl.elem k) s0
 s:s0<=Sl.length
def Of.dn (X:Of) (v:Ov) (b:Bool) (Sl:List Int) (s0:Nat) (x:Nd) (S1:List Int):Ct:=(wfn X.w.params v.c X.it v.v0 v.sl v.m1 v.m2 v.m3 v.sd Sl s0 X.N X.n v.j x.k x.tk (x.a+216) b X.w S1).ct
def Of.dc (X:Of) (v:Ov) (b:Bool) (Sl:List Int) (s0:Nat) (x:Nd):Ct:=(wfc X.w.params v.c X.it v.v0 v.sl v.m1 v.m2 v.m3 v.sd Sl s0 X.N X.n v.j x.k x.tk (x.a+216) b X.w).ct
def Of.ds (X:Of) (v:Ov) (Sl:List Int) (s0:Nat) (x:Nd):Ct:=(wfs X.w.params v.c X.it v.v0 v.sl v.m1 v.m2 v.m3 v.sd Sl s0 X.N X.n v.j x.k x.tk (x.a+216)).ct
def Ov.nx (v:Ov) (a b:Nat) (u:Value) (sl:S3) (m1 m2 m3:Nat) (sd:Data):Ov:=⟨v.j+1,{v.c with f6:=a,fn:=b},u,sl,m1,m2,m3,sd⟩
section
variable {X:Of} {v:Ov} {b r:Bool} {tok s0:Nat} {Sl:List Int} {x:Nd}
theorem Of.nxt {y:Ov} {a f:Nat} {u:Value} {sl:S3} {m1 m2 m3:Nat} {sd:Data} (e:y=v.nx a f u sl m1 m2 m3 sd) (ok:(X.e y true r).Ok (ktOf X.w.params) prg X.w 720 8100):(X.e v b r).Fr X.w 720 8100 (X.e y true r).pre (X.e v b r).zpre (.goto (ofC X.w.params v.c X.it)) tok:=by
 subst e;exact Ct.Fr.go (d:=X.e (v.nx a f u sl m1 m2 m3 sd) true r) (R:=[]) ok (λ_ e=>e) (λ_ e=>e) (jv _) (jv _) (.of_eq (jx _).symm) (λp hp=> .inl hp) λas ns E=>Ct.Fr.fin (e:=X.e v b r) as ⟨ns.n,ns.o,ns.v,[]⟩ (.refl _) E.k rfl E.nl E.f λp hp=>nomatch hp
theorem Of.one:∀p∈[(v.c.D+216,idO (X.N.map Nd.e) X.n)],p∈(X.e v b r).zpre:=λp hp=>by rw [jJ.mp hp];exact zy ..
theorem Of.end (hj:X.N.length<=v.j):(X.e v b false).Fr X.w 720 8100 (X.e v b false).pre (X.e v b false).zpre (.goto (X.e v b false).code) tok:=by
 refine Ct.Fr.go (d:=(wfe X.w.params v.c X.it X.N X.n v.j).ct) (R:=(X.e v b false).pre.eraseIdx 1) (wfe_ok X.w v.c X.it X.N X.n v.j (jU.mpr (by rw [zJ];exact hj))) (λ_ e=>e) (λ_ e=>nomatch e) (by decide) (by decide) (.swap ..) (λp hp=> .inl (Of.one p hp)) λas ns E=>?_;obtain rfl:as=[]:=zV.mp E.k;exact Ct.Fr.fin (e:=X.e v b false) [] ⟨[ns.t],[v.c.G X.w.params b v.v0 v.sl,KE v.j (X.N.map Nd.e).length X.n,lo [] v.m1,lo [] v.m2,seO v.sd,idO [] v.m3,v.c.P v.sl,v.c.L v.sl],[],[]⟩ (.swap ..) rfl rfl rfl (λe=>nomatch e) (λp hp=>nomatch hp)
structure Of.At (X:Of) (v:Ov) (Sl:List Int) (s0:Nat) (x:Nd):Prop where
 x:(X.N.map Nd.e)[v.j]?=some (x.k,x.tk,.ref (x.a+216))
 S:IsSet X.w (seO v.sd) (λk=>Sl.elem k) s0
theorem Of.seen (n:X.At v Sl s0 x) (hk:Sl.elem x.k=true) (ok:(X.e (v.nx v.c.f6 v.c.fn (.int x.k x.tk) v.sl v.m1 v.m2 v.m3 v.sd) true r).Ok (ktOf X.w.params) prg X.w 720 8100):(X.e v true r).Fr X.w 720 8100 (X.e v true r).pre (X.e v true r).zpre (.goto (X.e v true r).code) tok:=by
 refine Ct.Fr.go (d:=X.ds v Sl s0 x) (R:=[(v.c.pf+216,v.c.P v.sl),(v.c.lf+216,v.c.L v.sl)]) (wfs_ok X.w v.c X.it v.v0 v.sl v.m1 v.m2 v.m3 v.sd Sl s0 X.N X.n v.j x.k x.tk (x.a+216) n.x n.S hk) (λ_ e=>e) (λ_ e=>nomatch e) (by decide) (by decide) (.refl _) (λp hp=> .inl (Of.one p hp)) λas ns E=>?_;obtain rfl:as=[]:=zV.mp E.k;exact Of.nxt rfl ok
theorem Of.cyc (n:X.At v Sl s0 x) (hk:Sl.elem x.k=false) (ok:∀f6,(cW1 X.w.params (v.c.nx b f6) x.k x.tk v.sl [] v.m1 v.m2 v.m3 [] v.sd X.N X.n X.w none).Ok (ktOf X.w.params) prg X.w 780 8400):(X.e v b true).Fr X.w 720 8100 (X.e v b true).pre (X.e v b true).zpre (.goto (X.e v b true).code) tok:=by
 refine Ct.Fr.go (d:=X.dc v b Sl s0 x) (R:=[]) (wfc_ok X.w v.c X.it v.v0 v.sl v.m1 v.m2 v.m3 v.sd Sl s0 X.N X.n v.j x.k x.tk (x.a+216) b X.w n.x n.S hk ok) (λ_ e=>e) (λ_ e=>e) (by decide) (by decide) (.of_eq (jx _).symm) (λp hp=> .inl hp) λas ns E=>?_;obtain ⟨g1,sl',g2,g3⟩:=E.f;refine Ct.Fr.fin (e:=X.e v b true) as ⟨[ns.t],[ns.p 0,KO (v.c.D+216) (v.j+1) (X.N.map Nd.e).length X.n,ns.p 1,ns.p 2,ns.p 3,ns.p 4,v.c.P sl',v.c.L sl'],ns.v,[]⟩ (.of_eq ?_) E.k rfl E.nl (λ_=>g1) (λp hp=>nomatch hp);show [_,_,_,_,_,_,(_,ns.p 5),(_,ns.p 6)]++_=_;rw [g2,g3];rfl
theorem Of.new (n:X.At v Sl s0 x) (hk:Sl.elem x.k=false) {S1:List Int} (ok:∀f6,(cW1 X.w.params (v.c.nx b f6) x.k x.tk v.sl [] v.m1 v.m2 v.m3 [] v.sd X.N X.n X.w (some S1)).Ok (ktOf X.w.params) prg X.w 780 8400)
  (ok2:∀a f u sl m1 m2 m3 sd s,IsSet X.w (seO sd) (λk=>S1.elem k) s->s<=S1.length->(X.e (v.nx a f u sl m1 m2 m3 sd) true r).Ok (ktOf X.w.params) prg X.w 720 8100):(X.e v b r).Fr X.w 720 8100 (X.e v b r).pre (X.e v b r).zpre (.goto (X.e v b r).code) tok:=by
 refine Ct.Fr.go (d:=X.dn v b Sl s0 x S1) (R:=[]) (wfn_ok X.w v.c X.it v.v0 v.sl v.m1 v.m2 v.m3 v.sd Sl s0 X.N X.n v.j x.k x.tk (x.a+216) b X.w S1 n.x n.S hk ok) (λ_ e=>e) (λ_ e=>e) (by decide) (by decide) (.of_eq (jx _).symm) (λp hp=> .inl hp) λas ns E=>?_;obtain rfl:as=[]:=zV.mp E.k;obtain ⟨f6,-,G,W,g2,g3,k',t',sl',m1',m2',m3',sd',s',rfl,g4,g5⟩:=E.f;obtain rfl:G=[]:=zV.mp g2;refine (Of.nxt rfl (ok2 (aT b v.c.f6 f6) (pN b v.c.fn) (.int k' t') sl' m1' m2' m3' sd' s' g4 g5)).perm (.of_eq ?_);show [(_,ns.o.getD 0 default),_,(_,ns.o.getD 1 default),(_,ns.o.getD 2 default),(_,ns.o.getD 3 default),(_,ns.o.getD 4 default),(_,ns.o.getD 5 default),(_,ns.o.getD 6 default)]=_;rw [g3];rfl
end
theorem of_okX (X:Of) (f:Nat) (r:Bool) (hf:f<=90) (hv:∀x∈X.N,∀v∈x.xs,∃q tq,v= .int q tq):∀(rest:List Nd) (v:Ov) (b:Bool) (s0:Nat) (Sl:List Int),X.N.drop v.j=rest->aout (X.N.map Nd.ad) f (rest.map (·.k)) Sl=some r->X.H v b s0 Sl->(X.e v b r).Ok (ktOf X.w.params) prg X.w 720 8100:=by
 intro rest;induction rest with
 |nil=>
  intro v b s0 Sl hj ha h;obtain rfl:false=r:=kU ha;exact Ct.Fr.ok λtok=>Of.end (drop_eq_nil_iff.mp hj)
 |cons x rest ih=>
  intro v b s0 Sl hj ha h;have hNj:X.N[v.j]?=some x:=by
   have:=jk (λl=>l[0]?) hj;rw [getElem?_drop] at this;exact this
  have n:X.At v Sl s0 x:=⟨by rw [vU,hNj];rfl,h.S⟩
  have hj':X.N.drop (v.j+1)=rest:=by rw [<-drop_drop,hj];rfl
  rw [kQ,aout_c] at ha;cases hb5:Nat.ble (Sl.length+f) 500 with
  |false=>rw [hb5] at ha;exact (nn ha).elim
  |true=>
   rw [hb5] at ha;refine Ct.Fr.ok λtok=>?_;cases hk:Sl.elem x.k with
   |true=>
    rw [hk] at ha;cases b with
    |true=>exact Of.seen n hk (ih _ _ s0 Sl hj' ha ⟨(λe=>nomatch e),h.S,h.s⟩)
    |false=>rw [h.b rfl] at hk;exact (kZ hk).elim
   |false=>
    rw [hk] at ha;cases hw:aw1 (X.N.map Nd.ad) f x.k [] Sl with
    |none=>rw [hw] at ha;exact (nn ha).elim
    |some o=>
     have ok:=λf6=>w1_ok X.w (v.c.nx b f6) X.N X.n hv f x.k x.tk v.sl v.m1 v.m2 v.m3 v.sd s0 Sl o hw h.S h.s (zx hb5) hf;rw [hw] at ha;cases o with
     |none=>
      obtain rfl:true=r:=kU ha;exact Of.cyc n hk ok
     |some S1=>exact Of.new n hk ok λa f u sl m1 m2 m3 sd s h1 h2=>ih _ _ s S1 hj' ha ⟨(λe=>nomatch e),h1,h2⟩
theorem of_ok (w:World) (N:List Nd) (n f:Nat) (r:Bool) (hf:f<=90) (hv:∀x∈N,∀v∈x.xs,∃q tq,v= .int q tq) (it z:Nat) (hz:z=(N.map Nd.e).length) (c:Fc) (b:Bool) (v0:Value) (sl:S3) (m1 m2 m3:Nat) (sd:Data) (s0:Nat) (Sl:List Int)
  (ha:aout (N.map Nd.ad) f (N.map (·.k)) Sl=some r) (hb:b=false->Sl=[]) (hS:IsSet w (seO sd) (λk=>Sl.elem k) s0) (hs:s0<=Sl.length):(cOF w.params c it b v0 sl m1 m2 m3 sd N n 0 z r).Ok (ktOf w.params) prg w 720 8100:=by
 subst hz;exact of_okX ⟨w,N,n,it⟩ f r hf hv N ⟨0,c,v0,sl,m1,m2,m3,sd⟩ b s0 Sl rfl ha ⟨hb,hS,hs⟩
end
section
def fcc (X:Cx) (S D pf lf:Nat) (pE lE:List DictEntry) (pn ln:Nat) (lc:List (Str×Addr)):Fc:=⟨(X.b 2),S,D,(X.b 3),(X.b 4),(X.b 5),(X.b 6),X.t 0,X.t 0+2,X.t 0+3,X.t 0+4,X.t 0+5,X.t 0+6,0,6,pf,lf,pE,lE,pn,ln,lc⟩
def fcx (P:Params) (pf lf:Nat) (lc:List (Str×Addr)):Option (List Env):=some [envOf P 122 (pf+216) [84,111,112,111,108,111,103,105,99,97,108,83,111,114,116,101,114,46,112,114,101,112,97,114,101,46,60,108,111,99,97,108,115,62,46],{envOf P 214 (lf+216) [108,97,119,46,60,108,111,99,97,108,115,62,46] with cells:=lc}]
theorem isSet0 (w:World) (b:Bool):IsSet w (seO (.set #[] 0 (SetTable.fresh 0 0 b))) (λk=>([]:List Int).elem k) 0:=
 ⟨#[],0,SetTable.fresh 0 0 b,⟨rfl,rfl,rfl⟩,rfl,λe he=>by simp at he,λk=>by simp,by decide,by cases b<;>rfl,rfl⟩
theorem memz {α:Type} {a b q:α} {l:List α} (h:q∈l):q∈[a,b]++l:=jz _ h
section
variable (P:Params) (w:World) (S SD D:Nat) (t1 t2 t3 t4:Nat) (rv:Value) (po nf:Int) (tpo tnf nn:Nat) (N:List Nd) (n:Nat) (pf lf:Nat) (pE lE:List DictEntry) (pn ln:Nat) (lc:List (Str×Addr)) (psl lsl:Array (Option Value))
def fcN:Sp:={c:= .call (.ref 157) ⟨[.ref (S+216)],[]⟩,fr:=fcx P pf lf lc,z:=[(S+216,sO (SD+216)),(SD+216,sD P t1 t2 t3 t4 (D+216) rv po tpo nf tnf nn)]++(D+216,idO (N.map Nd.e) n)::(N.map Nd.i++N.map Nd.l++[]),i:=[(pf+216,fob pE pn psl),(lf+216,fob lE ln lsl)],r:=λas ns=> .ret (.ok (.ret .none)),u:=λas ns=>[(0,fob pE pn (ns.p 0).slots),(1,fob lE ln (ns.p 1).slots)],f:=λas ns=>ns.z=[],ors:=[(λX=>cOF P (fcc X S D pf lf pE lE pn ln lc) (X.b 7) false .none ⟨⟨[]⟩,psl,lsl⟩ 0 0 0 (.set #[] 0 (SetTable.fresh 0 0 (!P.followText "set-order"))) N n 0 ((N.map Nd.e).map iE).length false,[2,7,3,4,5,6,0,1])],s:=6,m:=1,tr:=trD 42 0x232cb2cb2c830c30c31861861860000c30c30c3c40c300000300000300c30c0,cs:=[10],ns:=λ_ _ M=>⟨[((M 0).t)],[(M 0).p 6,(M 0).p 7],[],[]⟩}
theorem fcN_ok (f:Nat) (hf:f<=90) (hv:∀x∈N,∀v∈x.xs,∃q tq,v= .int q tq) (hq:aout (N.map Nd.ad) f (N.map (·.k)) []=some false):OK (fcN · S SD D t1 t2 t3 t4 rv po nf tpo tnf nn N n pf lf pE lE pn ln lc psl lsl) w 660 7800:=
 okF 1 (qC (λX hF=>λzq hzq=>(λ_ h=>zs_at _ h) _ hF zq (memz hzq)) (λ_ _=>by
   have q:aout (N.map Nd.ad) f (N.map (·.k)) []=some false:=hq;exact (of_ok w N n f false hf hv _ _ (zJ ..) _ false .none _ 0 0 0 _ 0 [] q (λ_=>rfl) (isSet0 w _) (jv _)).m)<|trivial) (λ_=>by rfl)
def fcY:Sp:={c:= .call (.ref 157) ⟨[.ref (S+216)],[]⟩,fr:=fcx P pf lf lc,z:=[(S+216,sO (SD+216)),(SD+216,sD P t1 t2 t3 t4 (D+216) rv po tpo nf tnf nn)]++(D+216,idO (N.map Nd.e) n)::(N.map Nd.i++N.map Nd.l++[]),i:=[(pf+216,fob pE pn psl),(lf+216,fob lE ln lsl)],r:=λas ns=> .ret (.ok (.ret (.ref (as.getD 0 0)))),u:=λas ns=>[(0,fob pE pn (ns.p 0).slots),(1,fob lE ln (ns.p 1).slots)],a:=λas ns=>[lo ns.v 0],f:=λas ns=>ns.z=[]/\okV ns.v,ors:=[(λX=>cOF P (fcc X S D pf lf pE lE pn ln lc) (X.b 7) false .none ⟨⟨[]⟩,psl,lsl⟩ 0 0 0 (.set #[] 0 (SetTable.fresh 0 0 (!P.followText "set-order"))) N n 0 ((N.map Nd.e).map iE).length true,[2,7,3,4,5,6,0,1])],s:=7,m:=1,x:=[8],tr:=trD 42 0x232cb2cb2c830c30c31861861860000c30c30c3c40c300000300000300c30c0,cs:=[10],as:=[6],ns:=λ_ _ M=>⟨[((M 0).t)],[(M 0).p 6,(M 0).p 7],(M 0).v,[]⟩}
theorem fcY_ok (f:Nat) (hf:f<=90) (hv:∀x∈N,∀v∈x.xs,∃q tq,v= .int q tq) (hq:aout (N.map Nd.ad) f (N.map (·.k)) []=some true):OK (fcY · S SD D t1 t2 t3 t4 rv po nf tpo tnf nn N n pf lf pE lE pn ln lc psl lsl) w 660 7800:=
 okF 1 (qC (λX hF=>λzq hzq=>(λ_ h=>zs_at _ h) _ hF zq (memz hzq)) (λ_ _=>by
   have q:aout (N.map Nd.ad) f (N.map (·.k)) []=some true:=hq;exact (of_ok w N n f true hf hv _ _ (zJ ..) _ false .none _ 0 0 0 _ 0 [] q (λ_=>rfl) (isSet0 w _) (jv _)).m)<|trivial) (λh=>fq h 0 λf0=>⟨rfl,f0 rfl⟩)
end
end
noncomputable def exC (tp:Nat):Obj:={cls:= .ref 85,data:= .fields #[.ref tp,.none,.none,.none,.bool false,.none]}
def cExN (a b:Value):Ct:={code:= .builtin "ValueError.__new__" ⟨[.ref 85,a,b],[]⟩,pre:=[],k:=2,fo:=λas _=> .ret (.ok (.ret (.ref (as.getD 1 0)))),post:=λ_ _=>[],news:=λas _=>[tu [a,b],exC (as.getD 0 0)],fact:=λ_ _=>True}
theorem exN_ok (w:World) (D U:Nat) (a b:Value):(cExN a b).Ok (ktOf w.params) prg w D U:=by
 intro A hA hF hD hU h gens d tok os R S0 K;have H0:=Held.start S0;have hC:h.get? 85=some (excClassObj Hd.t27 Hd.t27 85 84 [.type "ValueError"] [.type "ValueError",.type "Exception",.type "BaseException",.type "object"] true [] [] false none none (some (.ref 76)) none (some (.str Hd.t27 431)) (some (.str Hd.t27 439)) (some (.bool true)) "ValueError.__new__"):=S0.old 85 _ (by decide) (by kernel_rfl!);refine codeAny_exc_new_subU F.excBase_ValueError (by decide+kernel) F.excBase_ValueError .base hC ?_ (by show 2<=sizeLine;decide);have H1:=(H0.push (o:=tu [a,b]) rfl).push (o:=exC h.objs.size) rfl;rw [Heap.size_push] at H1;exact K _ [h.objs.size,h.objs.size+1] ⟨[tok],[],[],[]⟩ rfl (H1.fin rfl rfl (λp hp=>nomatch hp)) trivial
section
def prE (P:Params) (S t:Nat):List DictEntry:=[en P [115,101,108,102] t (.ref (S+216))]
theorem zpc {α:Type} {a b q:α} {l1 l2:List α} (h:q∈b::l1):q∈a::b::(l1++l2++[]):=by
 rw [jx];rcases vz.mp h with rfl|h
 ·simp
 ·simp [h]
theorem zfc {α:Type} {a b d q:α} {l:List α} (h:q∈[a,b]++d::l):q=b\/q∈a::d::l:=by
 simp at h⊢;rcases h with h|h|h|h<;>simp [h]
section
variable (P:Params) (w:World) (S SD D:Nat) (t1 t2 t3 t4:Nat) (po nf:Int) (tpo tnf nn:Nat) (x0:Nd) (Nr:List Nd) (n:Nat) (lf:Nat) (lE:List DictEntry) (ln:Nat) (lc:List (Str×Addr)) (lsl:Array (Option Value))
def prN:Sp:={c:= .call (.ref 122) ⟨[.ref (S+216)],[]⟩,fr:=some [{envOf P 214 (lf+216) [108,97,119,46,60,108,111,99,97,108,115,62,46] with cells:=lc}],z:=(S+216,sO (SD+216))::(D+216,idO ((x0::Nr).map Nd.e) n)::((x0::Nr).map Nd.i++(x0::Nr).map Nd.l++[]),i:=[(SD+216,sD P t1 t2 t3 t4 (D+216) .none po tpo nf tnf nn),(lf+216,fob lE ln lsl)],r:=λas ns=> .ret (.ok (.ret .none)),u:=λas ns=>[(0,sD P t1 t2 t3 t4 (D+216) (.ref (as.getD 0 0)) po tpo nf tnf nn),(1,fob lE ln (ns.p 0).slots)],a:=λas ns=>[lo (rdy (x0::Nr)) (ns.g 1)],ors:=[(λX=>cPC P (X.b 4) (X.b 5) (X.b 6) (X.b 2) D (x0::Nr) n (((x0::Nr).map Nd.e).map iE).length (x0::Nr) 0 [] 0 0 false 0 .none,[4,5,6]),(λX=>(fcN P S SD D t1 t2 t3 t4 (.ref (X.a 5)) po nf tpo tnf nn (x0::Nr) n (X.b 2) lf (prE P S (X.t 0)) lE 1 ln lc ⟨[]⟩ lsl).ct.own (SD+216,sD P t1 t2 t3 t4 (D+216) (.ref (X.a 5)) po tpo nf tnf nn) ((S+216,sO (SD+216))::(D+216,idO ((x0::Nr).map Nd.e) n)::((x0::Nr).map Nd.i++(x0::Nr).map Nd.l++[])),[0,2,1])],s:=5,m:=2,x:=[5],tr:=trD 84 0xc30c0070000000c00000c00000c03041040c00000c00c00c00000c031c71c5171c44104131c71c71c41030c00000c00000c03040c300000300000300c30c0,cs:=[8,2],as:=[3],ns:=λ_ _ N=>⟨[((N 1).t+1),0+(rdy (x0::Nr)).length],[(N 1).p 1],[],[]⟩}
theorem prN_ok (f:Nat) (hf:f<=90) (hz:(x0::Nr).length<=900) (hv:∀x∈x0::Nr,∀v∈x.xs,∃q tq,v= .int q tq) (hq:aout ((x0::Nr).map Nd.ad) f ((x0::Nr).map (·.k)) []=some false):OK (prN · S SD D t1 t2 t3 t4 po nf tpo tnf nn x0 Nr n lf lE ln lc lsl) w 600 7500:=
 okF 2 (qC (λX hF=>λzq hzq=>(λ_ h=>zs_at _ h) _ hF zq (zpc hzq)) (λ_ _=>(pc_ok w _ _ _ _ D _ n _ (zJ ..) _ 0 [] 0 0 false 0 .none rfl (by simp at hz⊢;lia)).m)<|qC (λX hF=>λzq hzq=>(λ_ h=>zs_at _ h) _ hF zq hzq) (λ_ _=>((fcN_ok w S SD D t1 t2 t3 t4 _ po nf tpo tnf nn (x0::Nr) n _ lf _ lE 1 ln lc _ lsl f hf hv hq).own (λp hp=>zfc hp) (λ_ _ g=>g)).m)<|trivial)
def prY:Sp:={c:= .call (.ref 122) ⟨[.ref (S+216)],[]⟩,fr:=some [{envOf P 214 (lf+216) [108,97,119,46,60,108,111,99,97,108,115,62,46] with cells:=lc}],z:=(S+216,sO (SD+216))::(D+216,idO ((x0::Nr).map Nd.e) n)::((x0::Nr).map Nd.i++(x0::Nr).map Nd.l++[]),i:=[(SD+216,sD P t1 t2 t3 t4 (D+216) .none po tpo nf tnf nn),(lf+216,fob lE ln lsl)],r:=λas ns=> .ret (.error (.ref (as.getD 1 0))),u:=λas ns=>[(0,sD P t1 t2 t3 t4 (D+216) (.ref (as.getD 0 0)) po tpo nf tnf nn),(1,fob lE ln (ns.p 0).slots)],a:=λas ns=>[lo (rdy (x0::Nr)) (ns.g 1),{cls:= .ref 85,data:= .fields ⟨[ns.w 0,.ref (as.getD 2 0),.none,.none,.bool false,.none]⟩},{cls:= .type "traceback",data:= .fields ⟨.none::ns.w 1:: .none:: .none:: .none::ns.v.drop 2⟩}],ors:=[(λX=>cPC P (X.b 4) (X.b 5) (X.b 6) (X.b 2) D (x0::Nr) n (((x0::Nr).map Nd.e).map iE).length (x0::Nr) 0 [] 0 0 false 0 .none,[4,5,6]),(λX=>(fcY P S SD D t1 t2 t3 t4 (.ref (X.a 5)) po nf tpo tnf nn (x0::Nr) n (X.b 2) lf (prE P S (X.t 0)) lE 1 ln lc ⟨[]⟩ lsl).ct.own (SD+216,sD P t1 t2 t3 t4 (D+216) (.ref (X.a 5)) po tpo nf tnf nn) ((S+216,sO (SD+216))::(D+216,idO ((x0::Nr).map Nd.e) n)::((x0::Nr).map Nd.i++(x0::Nr).map Nd.l++[])),[0,2,1]),(λX=>cLenP (X.a 7) (X.s 2).v 0 ((X.s 2).v.length-1),[7]),(λX=>cExN (.str (stl [110,111,100,101,115,32,97,114,101,32,105,110,32,97,32,99,121,99,108,101]) (X.t 3)) (.ref (X.a 7)),[])],tt:=40,s:=10,m:=5,x:=[5,9,11],tr:=trD 130 0x30c28108228a00a28028a28a2802802800002802800000000000000000000000c02080c30c0070000000c00000c00000c03041040c00000c00c00c00000c031c71c5171c44104131c71c71c41030c00000c00000c03040c300000300000300c30c0,cs:=[8,2,0,4],as:=[3,7,9],ns:=λ_ b N=>⟨[((N 3).t),0+(rdy (x0::Nr)).length],[(N 4).p 1],[.ref ((b 8)),.ref ((b 0))]++(N 4).v,[]⟩,pi:=[0,1,2,3]}
theorem prY_ok (f:Nat) (hf:f<=90) (hz:(x0::Nr).length<=900) (hv:∀x∈x0::Nr,∀v∈x.xs,∃q tq,v= .int q tq) (hq:aout ((x0::Nr).map Nd.ad) f ((x0::Nr).map (·.k)) []=some true):OK (prY · S SD D t1 t2 t3 t4 po nf tpo tnf nn x0 Nr n lf lE ln lc lsl) w 600 7500:=
 okF 4 (qC (λX hF=>λzq hzq=>(λ_ h=>zs_at _ h) _ hF zq (zpc hzq)) (λ_ _=>(pc_ok w _ _ _ _ D _ n _ (zJ ..) _ 0 [] 0 0 false 0 .none rfl (by simp at hz⊢;lia)).m)<|qC (λX hF=>λzq hzq=>(λ_ h=>zs_at _ h) _ hF zq hzq) (λ_ _=>((fcY_ok w S SD D t1 t2 t3 t4 _ po nf tpo tnf nn (x0::Nr) n _ lf _ lE 1 ln lc _ lsl f hf hv hq).own (λp hp=>zfc hp) (λ_ _ g=>g.1)).m)<|qI (λX hF=>fq hF 1 λf1=>by
   have q:okV (X.s 2).v:=f1.2;exact lenP_ok _ w _ _ _ _ _ _ (by have:=length_pos_iff.mpr q.1;lia) (by have:=q.2;lia))<|qN (λ_=>exN_ok w _ _ _ _)<|trivial)
end
end
section
abbrev Dc:=Nat×Nat×Nat×Nat×Nat×Nat×Nat×Nat×Nat×Nat×Nat×Nat×Nat×Nat×Int×Nat×Int×Nat×Nat×Nat×Nat×Nat×Int×Int×Nat×Nat×Nat×(Array (Option Value))
noncomputable def Dc.fr (x:Dc):Nat:=x.1
noncomputable def Dc.it (x:Dc):Nat:=x.2.1
noncomputable def Dc.S (x:Dc):Nat:=x.2.2.1
noncomputable def Dc.SD (x:Dc):Nat:=x.2.2.2.1
noncomputable def Dc.D (x:Dc):Nat:=x.2.2.2.2.1
noncomputable def Dc.rl (x:Dc):Nat:=x.2.2.2.2.2.1
noncomputable def Dc.tp (x:Dc):Nat:=x.2.2.2.2.2.2.1
noncomputable def Dc.a (x:Dc):Nat:=x.2.2.2.2.2.2.2.1
noncomputable def Dc.f0 (x:Dc):Nat:=x.2.2.2.2.2.2.2.2.1
noncomputable def Dc.f1 (x:Dc):Nat:=x.2.2.2.2.2.2.2.2.2.1
noncomputable def Dc.f2 (x:Dc):Nat:=x.2.2.2.2.2.2.2.2.2.2.1
noncomputable def Dc.f3 (x:Dc):Nat:=x.2.2.2.2.2.2.2.2.2.2.2.1
noncomputable def Dc.f4 (x:Dc):Nat:=x.2.2.2.2.2.2.2.2.2.2.2.2.1
noncomputable def Dc.f5 (x:Dc):Nat:=x.2.2.2.2.2.2.2.2.2.2.2.2.2.1
noncomputable def Dc.k (x:Dc):Int:=x.2.2.2.2.2.2.2.2.2.2.2.2.2.2.1
noncomputable def Dc.t (x:Dc):Nat:=x.2.2.2.2.2.2.2.2.2.2.2.2.2.2.2.1
noncomputable def Dc.sv (x:Dc):Int:=x.2.2.2.2.2.2.2.2.2.2.2.2.2.2.2.2.1
noncomputable def Dc.ts (x:Dc):Nat:=x.2.2.2.2.2.2.2.2.2.2.2.2.2.2.2.2.2.1
noncomputable def Dc.t1 (x:Dc):Nat:=x.2.2.2.2.2.2.2.2.2.2.2.2.2.2.2.2.2.2.1
noncomputable def Dc.t2 (x:Dc):Nat:=x.2.2.2.2.2.2.2.2.2.2.2.2.2.2.2.2.2.2.2.1
noncomputable def Dc.t3 (x:Dc):Nat:=x.2.2.2.2.2.2.2.2.2.2.2.2.2.2.2.2.2.2.2.2.1
noncomputable def Dc.t4 (x:Dc):Nat:=x.2.2.2.2.2.2.2.2.2.2.2.2.2.2.2.2.2.2.2.2.2.1
noncomputable def Dc.po (x:Dc):Int:=x.2.2.2.2.2.2.2.2.2.2.2.2.2.2.2.2.2.2.2.2.2.2.1
noncomputable def Dc.nf (x:Dc):Int:=x.2.2.2.2.2.2.2.2.2.2.2.2.2.2.2.2.2.2.2.2.2.2.2.1
noncomputable def Dc.tpo (x:Dc):Nat:=x.2.2.2.2.2.2.2.2.2.2.2.2.2.2.2.2.2.2.2.2.2.2.2.2.1
noncomputable def Dc.tnf (x:Dc):Nat:=x.2.2.2.2.2.2.2.2.2.2.2.2.2.2.2.2.2.2.2.2.2.2.2.2.2.1
noncomputable def Dc.nn (x:Dc):Nat:=x.2.2.2.2.2.2.2.2.2.2.2.2.2.2.2.2.2.2.2.2.2.2.2.2.2.2.1
noncomputable def Dc.sl (x:Dc):Array (Option Value):=x.2.2.2.2.2.2.2.2.2.2.2.2.2.2.2.2.2.2.2.2.2.2.2.2.2.2.2
def Dc.F (c:Dc) (P:Params) (pl:Option ((Nat×Value)×(Nat×Value))) (n:Nat):Obj:=fob (en P [115,101,108,102] c.f0 (.ref (c.S+216))::en P [110,111,100,101,115] c.f1 (.ref (c.tp+216))::en P [110,50,105] c.f2 (.ref (c.D+216))::en P [110,111,100,101] c.f3 (.int c.k c.t)::en P [110,111,100,101,105,110,102,111] c.f4 (.ref (c.a+216))::en P [115,116,97,116] c.f5 (.int c.sv c.ts)::(match pl with|none=>[]|some x=>[en P [115,117,99,99,101,115,115,111,114] x.1.1 x.1.2,en P [115,117,99,99,101,115,115,111,114,95,105,110,102,111] x.2.1 x.2.2])) n c.sl
def Dc.s (c:Dc) (P:Params):List (Nat×Obj):=[(c.S+216,sO (c.SD+216)),(c.SD+216,sD P c.t1 c.t2 c.t3 c.t4 (c.D+216) (.ref (c.rl+216)) c.po c.tpo c.nf c.tnf c.nn)]
def dnC (P:Params) (c:Dc):Code:=forC (sub 0 4 (stOf P 150 2)) (.ref (c.it+216)) (envOf P 150 (c.fr+216) [84,111,112,111,108,111,103,105,99,97,108,83,111,114,116,101,114,46,100,111,110,101,46,60,108,111,99,97,108,115,62,46])
section
variable (P:Params) (w:World) (c:Dc) (es:List (Int×Nat×Value)) (n:Nat) (xs:Nat) (ls:List Value) (sn:Nat) (i:Int) (y:Nd) (tq:Nat) (ac:List Value) (m fn:Nat) (cc:Bool) (p0 p1:Nat) (v0 v1:Value)
def dnr:Sp:={c:=dnC P c,z:=c.s P++[(c.D+216,idO es n),(xs+216,lo ls sn)],i:=[(c.fr+216,c.F P (aPl cc p0 v0 p1 v1) fn),(c.it+216,li (xs+216) i),y.i,(c.rl+216,lo ac m)],r:=λas ns=> .goto (dnC P c),v:=some (λas ns=>[c.F P (some ((ns.g 1,.int y.k tq),(ns.g 2,.ref (y.a+216)))) (aN cc fn),li (xs+216) (i+1),nO (y.nd+216) (y.s+216) y.k y.tk (y.np-1) (ns.g 3),lo (ac++[.int y.k tq]) (m+1)]),ors:=[(λX=>cNext true (c.it+216) (xs+216) ls sn i (.int y.k tq),[1]),(λX=>cDItem true (c.D+216) es n y.k tq (.ref (y.a+216)),[]),(λX=>iop "int.__eq__" (y.np-1) 0 (X.t 2+3) (X.t 2+6) true,[]),(λX=>ctAppend (c.rl+216) ac m (.int y.k tq),[3])],m:=4,tr:=trD 109 0x4044104131030c00000c00000c010c00c00000000c00000000000000000c00000c10c00c00000000c00000000000030030030000030c00c00000000c00000000000000000c00000c1041cb2cb2041041082,cs:=[1,1,15,2,0],ns:=λ_ _ N=>⟨[((N 3).t),aT cc p0 ((N 0).t),aT cc p1 ((N 1).t),(N 1).t+3],[],[],[]⟩}
theorem dnr_ok (hv:ls[i.toNat]?=some (.int y.k tq)) (hl:iLook es y.k=some (.ref (y.a+216))) (hnp:y.np=1) (hz:ac.length<=1000):OK (dnr · c es n xs ls sn i y tq ac m fn cc p0 p1 v0 v1) w 840 8700:=
 okF 4 (qY [3] (λ_=>next_ok _ w _ _ true _ _ _ _ _ hv)<|qY [2] (λ_=>ditem_ok _ w _ _ true _ _ _ _ _ hl)<|qN (λ_=>(iop_eq w _ _ (by have:=hnp;simp;lia)).m)<|qN (λ_=>append_ok _ w _ _ _ _ _ _ hz)<|trivial) (e:=by cases cc<;>kernel_rfl)
def dnz:Sp:={c:=dnC P c,z:=c.s P++[(c.D+216,idO es n),(xs+216,lo ls sn)],i:=[(c.fr+216,c.F P (aPl cc p0 v0 p1 v1) fn),(c.it+216,li (xs+216) i),y.i,(c.rl+216,lo ac m)],r:=λas ns=> .goto (dnC P c),v:=some (λas ns=>[c.F P (some ((ns.g 1,.int y.k tq),(ns.g 2,.ref (y.a+216)))) (aN cc fn),li (xs+216) (i+1),nO (y.nd+216) (y.s+216) y.k y.tk (y.np-1) (ns.g 3),lo ac m]),ors:=[(λX=>cNext true (c.it+216) (xs+216) ls sn i (.int y.k tq),[1]),(λX=>cDItem true (c.D+216) es n y.k tq (.ref (y.a+216)),[]),(λX=>iop "int.__eq__" (y.np-1) 0 (X.t 2+3) (X.t 2+6) false,[])],m:=3,tr:=trD 90 0xc00c00000000c00000000000000000c00000c10c00c00000000c00000000000030030030000030c00c00000000c00000000000000000c00000c1041cb2cb2041041082,cs:=[1,1,15,0],ns:=λ_ _ N=>⟨[((N 2).t),aT cc p0 ((N 0).t),aT cc p1 ((N 1).t),(N 1).t+3],[],[],[]⟩}
theorem dnz_ok (hv:ls[i.toNat]?=some (.int y.k tq)) (hl:iLook es y.k=some (.ref (y.a+216))) (hnp:y.np≠1):OK (dnz · c es n xs ls sn i y tq ac m fn cc p0 p1 v0 v1) w 840 8700:=
 okF 3 (qY [3] (λ_=>next_ok _ w _ _ true _ _ _ _ _ hv)<|qY [2] (λ_=>ditem_ok _ w _ _ true _ _ _ _ _ hl)<|qN (λ_=>(iop_eq w _ _ (by have:=hnp;simp;lia)).m)<|trivial) (e:=by cases cc<;>kernel_rfl)
end
section
variable (P:Params) (w:World) (c:Dc) (xs:Nat) (ls:List Value) (sn:Nat) (i:Int)
def dne:Sp:={c:=dnC P c,z:=[(xs+216,lo ls sn)],i:=[(c.it+216,li (xs+216) i)],r:=λas ns=> .ret (.ok .next),u:=λas ns=>[(0,liE i)],ors:=[(λX=>cNextE true (c.it+216) (xs+216) ls sn i,[0])],s:=1,m:=1,tr:=[1,1,2],cs:=[1],ns:=λ_ _ N=>⟨[((N 0).t)],[],[],[]⟩}
theorem dne_ok (hv:ls[i.toNat]?=none):OK (dne · c xs ls sn i) w 840 8700:=
 okF 1 (qY [0] (λ_=>nextE_ok _ w _ _ true _ _ _ _ _ hv)<|trivial)
end
end
section
noncomputable def dec (l:List Int) (τ:Int->Nat) (x:Nd):Nd:=if l.elem x.k then {x with np:=x.np-1,tn:=τ x.k} else x
def rdN (N:List Nd) (v:Value):Bool:=N.any λx=>x.k==iv v&&x.np==1
theorem dec_fst (l:List Int) (τ:Int->Nat) (x:Nd):(dec l τ x).i.1=x.i.1:=by unfold dec;split<;>rfl
theorem dec_k (l:List Int) (τ:Int->Nat) (x:Nd):(dec l τ x).k=x.k:=by unfold dec;split<;>rfl
theorem dec_a (l:List Int) (τ:Int->Nat) (x:Nd):(dec l τ x).a=x.a:=by unfold dec;split<;>rfl
theorem fst_dec (l:List Int) (τ:Int->Nat) (N:List Nd):((N.map (dec l τ)).map Nd.i).map (·.1)=(N.map Nd.i).map (·.1):=by
 rw [kW,kW,kW];exact jX λx _=>dec_fst l τ x
theorem snd_i (N:List Nd):N.map (·.i.2)=(N.map Nd.i).map (·.2):=by rw [kW];rfl
def plN (ns:Ns):Option ((Nat×Value)×(Nat×Value)):=aPl (Nat.beq (ns.n.getD 2 0) 1) (ns.n.getD 3 0) (ns.v.getD 0 .none) (ns.n.getD 4 0) (ns.v.getD 1 .none)
def cDL (P:Params) (c:Dc) (N:List Nd) (es:List (Int×Nat×Value)) (n xs:Nat) (ls:List Value) (sn i:Nat) (rest ac:List Value) (m fn:Nat) (cc:Bool) (p0 p1:Nat) (v0 v1:Value):Ct:=
 {code:=dnC P c,hd:=some none,zpre:=c.s P++[(c.D+216,idO es n),(xs+216,lo ls sn)],pre:=[(c.fr+216,c.F P (aPl cc p0 v0 p1 v1) fn),(c.it+216,li (xs+216) i),(c.rl+216,lo ac m)]++N.map Nd.i,k:=0,fo:=λ_ _=> .ret (.ok .next),
  post:=λ_ ns=>[c.F P (plN ns) (ns.n.getD 1 0),oAt N.length 0 ns,oAt N.length 1 ns]++ns.o.take N.length,news:=λ_ _=>[],
  fact:=λ_ ns=>ns.z=[]/\∃τ g' m',ns.o=(N.map (dec (rest.map iv) τ)).map (·.i.2)++[g',lo (ac++rest.filter (rdN N)) m']}
abbrev Dl:=World×Dc×List (Int×Nat×Value)×Nat×Nat×List Value×Nat
abbrev Dv:=List Nd×Nat×List Value×Nat×Nat×Bool×Nat×Nat×Value×Value
noncomputable def Dl.w (X:Dl):World:=X.1
noncomputable def Dl.c (X:Dl):Dc:=X.2.1
noncomputable def Dl.es (X:Dl):List (Int×Nat×Value):=X.2.2.1
noncomputable def Dl.ls (X:Dl):List Value:=X.2.2.2.2.2.1
def Dl.xs (X:Dl):Nat×Obj:=(X.2.2.2.2.1+216,lo X.ls X.2.2.2.2.2.2)
def Dl.D (X:Dl):Nat×Obj:=(X.c.D+216,idO X.es X.2.2.2.1)
noncomputable def Dv.N (v:Dv):List Nd:=v.1
noncomputable def Dv.i (v:Dv):Nat:=v.2.1
noncomputable def Dv.ac (v:Dv):List Value:=v.2.2.1
def Dl.e (X:Dl) (v:Dv) (r:List Value):Ct:=cDL X.w.params X.c v.N X.es X.2.2.2.1 X.2.2.2.2.1 X.ls X.2.2.2.2.2.2 v.i r v.ac v.2.2.2.1 v.2.2.2.2.1 v.2.2.2.2.2.1 v.2.2.2.2.2.2.1 v.2.2.2.2.2.2.2.1 v.2.2.2.2.2.2.2.2.1 v.2.2.2.2.2.2.2.2.2
def Dl.L (X:Dl) (f g:Obj) (ac:List Value) (m:Nat) (N:List Nd):List (Nat×Obj):=(X.c.fr+216,f)::(X.c.it+216,g)::(X.c.rl+216,lo ac m)::N.map Nd.i
structure Dl.H (X:Dl) (v:Dv) (r:List Value):Prop where
 d:X.ls.drop v.i=r
 l:∀x∈v.N,iLook X.es x.k=some (.ref (x.a+216))
 n:(v.N.map (·.k)).Nodup
 z:v.ac.length+r.length<=900
 u:∀u∈r,∃q tq,u= .int q tq/\q∈v.N.map (·.k)
 r:(r.map iv).Nodup
section
variable {X:Dl} {v:Dv} {r:List Value} {L Z R:List (Nat×Obj)} {tok:Nat} {τ:Int->Nat} {g:Obj} {m:Nat}
theorem Dl.out_eq {as:List Nat} {ns:Ns} (e:ns.o=(v.N.map (dec (r.map iv) τ)).map (·.i.2)++[g,lo (v.ac++r.filter (rdN v.N)) m]) (ha:as=[]):(X.e v r).out as ns R=X.L (X.c.F X.w.params (plN ns) (ns.n.getD 1 0)) g (v.ac++r.filter (rdN v.N)) m (v.N.map (dec (r.map iv) τ))++R:=by
 subst ha;have l:((v.N.map (dec (r.map iv) τ)).map (·.i.2)).length=v.N.length:=by simp
 show ((_,_)::(_,oAt v.N.length 0 ns)::(_,oAt v.N.length 1 ns)::((v.N.map Nd.i).map (·.1)).zip (ns.o.take v.N.length))++R=_;rw [oAt_of e l,oAt_of e l,e,<-l,qz,<-fst_dec (r.map iv) τ v.N,snd_i,zip_fs];rfl
theorem Dl.fin (q:Ns) (hL:L.Perm (X.L (X.c.F X.w.params (plN q) (q.n.getD 1 0)) g (v.ac++r.filter (rdN v.N)) m (v.N.map (dec (r.map iv) τ)))):(X.e v r).Fr X.w 840 8700 L Z (.ret (.ok .next)) tok:=by
 have eq:∀i,(tok::q.n.drop 1).getD (i+1) 0=q.n.getD (i+1) 0:=λi=>by cases q.n<;>rfl
 have ep:∀o,plN ⟨tok::q.n.drop 1,o,q.v,[]⟩=plN q:=λo=>by unfold plN;rw [eq 1,eq 2,eq 3]
 have o:=Dl.out_eq (X:=X) (v:=v) (r:=r) (R:=[]) (τ:=τ) (g:=g) (m:=m) (as:=[]) (ns:=⟨tok::q.n.drop 1,(v.N.map (dec (r.map iv) τ)).map (·.i.2)++[g,lo (v.ac++r.filter (rdN v.N)) m],q.v,[]⟩) rfl rfl;rw [ep,eq 0,jx] at o;exact Ct.Fr.fin (e:=X.e v r) [] _ (o▸hL) rfl (by show (_::_::_::take v.N.length (_++_)).length=(_::_::_::v.N.map Nd.i).length;rw [take_append_of_le_length (by simp)];simp) rfl ⟨rfl,τ,g,m,rfl⟩ (by exact λp hp=>nomatch hp)
end
theorem dec_nil (τ:Int->Nat) (N:List Nd):N.map (dec [] τ)=N:=by
 conv=>rhs;rw [<-map_id N]
 exact jX λx _=>rfl
theorem dec_cons {k:Int} {l:List Int} {τ τ':Int->Nat} (hk:k∉l) (x:Nd):dec l τ' (dec [k] τ x)=dec (k::l) (λq=>if q=k then τ k else τ' q) x:=by
 have e1:∀q,[k].elem q=decide (q=k):=λq=>by rw [<-elem_cons];rfl
 have e2:∀q,(k::l).elem q=(l.elem q||decide (q=k)):=λq=>(elem_cons _ _ _).symm;by_cases hx:x.k=k
 ·have h1:l.elem x.k=false:=by rw [hx];simpa using hk
  unfold dec;rw [e1,e2,h1,hx];simp only [decide_true,Bool.or_true,if_true];rw [vk (by simpa using hk)]
 ·unfold dec
  rw [e1,e2,decide_eq_false hx,Bool.or_false];simp only [Bool.false_eq_true,if_false];split<;>rfl
theorem rdN_dec {N:List Nd} {k:Int} {τ:Int->Nat} {v:Value} (h:iv v≠k):rdN (N.map (dec [k] τ)) v=rdN N v:=by
 unfold rdN;rw [any_map];congr 1
 funext x
 show ((dec [k] τ x).k==iv v&&(dec [k] τ x).np==1)=_;rw [dec_k];by_cases hx:x.k=iv v
 ·have:dec [k] τ x=x:=by
   unfold dec;rw [vk];rw [List.elem_cons,kv.mpr (show x.k≠k by rw [hx];exact h)];simp
  rw [this]
 ·rw [kv.mpr hx];rfl
section
variable {X:Dl} {v:Dv} {r:List Value} {L Z R:List (Nat×Obj)} {tok:Nat} {τ:Int->Nat} {g:Obj} {m:Nat}
noncomputable def Dv.b (v:Dv):=v.2.2.2.2.2
def Dl.dn (X:Dl) (i:Int):Ct:=(dne X.w.params X.c X.2.2.2.2.1 X.ls X.2.2.2.2.2.2 i).ct
theorem Dl.nil (h:X.H v []):(X.e v []).Fr X.w 840 8700 (X.e v []).pre (X.e v []).zpre (.goto (X.e v []).code) tok:=by
 refine Ct.Fr.go (d:=X.dn v.i) (R:=(X.e v []).pre.eraseIdx 1) (dne_ok X.w X.c X.2.2.2.2.1 X.ls X.2.2.2.2.2.2 v.i (jU.mpr (drop_eq_nil_iff.mp h.d))) (λ_ e=>e) (λ_ e=>nomatch e) (jv _) (jv _) (.swap ..) (λp hp=> .inl (by rw [jJ.mp hp];show _∈X.c.s X.w.params++[_,_];simp)) λas ns E=>?_;obtain rfl:as=[]:=zV.mp E.k;refine Dl.fin (τ:=λ_=>0) (g:=liE v.i) (m:=v.2.2.2.1) ⟨[0,v.2.2.2.2.1,cond v.b.1 1 0,v.b.2.1,v.b.2.2.1],[],[v.b.2.2.2.1,v.b.2.2.2.2],[]⟩ ?_;rw [map_nil,dec_nil,filter_nil,jx];have e:plN ⟨[0,v.2.2.2.2.1,cond v.b.1 1 0,v.b.2.1,v.b.2.2.1],[],[v.b.2.2.2.1,v.b.2.2.2.2],[]⟩=aPl v.b.1 v.b.2.1 v.b.2.2.2.1 v.b.2.2.1 v.b.2.2.2.2:=by
  cases v.b.1<;>rfl
 rw [e];exact .swap ..
structure Dl.At (X:Dl) (v:Dv) (r:List Value) (y:Nd) (tq:Nat) (R:List (Nat×Obj)) (t:Nat):Prop where
 i:X.ls[((v.i:Nat):Int).toNat]?=some (.int y.k tq)
 l:iLook X.es y.k=some (.ref (y.a+216))
 p:(v.N.map Nd.i).Perm (y.i::R)
 q:((v.N.map (dec [y.k] λ_=>t)).map Nd.i).Perm ((y.a+216,nO (y.nd+216) (y.s+216) y.k y.tk (y.np-1) t)::R)
 r:rdN v.N (.int y.k tq)=(y.np==1)
theorem Dl.H.at {u:Value} (h:X.H v (u::r)):∃(y:Nd) (tq:Nat) (R:List (Nat×Obj)),u= .int y.k tq/\∀t,X.At v r y tq R t:=by
 obtain ⟨q,tq,rfl,hq⟩:=h.u u (zy ..);obtain ⟨y,hy,rfl⟩:=ky.mp hq;obtain ⟨N1,N2,e⟩:=append_of_mem hy;have hN:=h.n;have hl:=h.l y hy;have hi:=jk (λl=>l[0]?) h.d;rw [getElem?_drop] at hi;rw [e,zU,kQ,kX,vX] at hN;have h1:∀z∈N1,z.k≠y.k:=λz hz e=>hN.2.2 _ (zW hz) _ (zy ..) e;have h2:∀z∈N2,z.k≠y.k:=λz hz e=>hN.2.1.1 (e▸zW hz);refine ⟨y,tq,N1.map Nd.i++N2.map Nd.i,rfl,λt=>⟨hi,hl,?_,?_,?_⟩⟩
 ·rw [e,zU];exact perm_middle
 ·have eo:∀N:List Nd,(∀z∈N,z.k≠y.k)->N.map (dec [y.k] λ_=>t)=N:=λN h=> .trans (jX λx hx=>vk (by rw [List.elem_cons,kv.mpr (h x hx)];exact kZ)) (map_id' N)
  have ey:dec [y.k] (λ_=>t) y={y with np:=y.np-1,tn:=t}:=if_pos (by simp);rw [e,zU,kQ,eo N1 h1,eo N2 h2,ey,zU];exact perm_middle
 ·have eo:∀N:List Nd,(∀z∈N,z.k≠y.k)->N.any (λx=>x.k==iv (.int y.k tq)&&x.np==1)=false:=λN h=>any_eq_false.mpr λz hz=>by
   rw [show (z.k==iv (.int y.k tq))=false from kv.mpr (h z hz)];exact kZ
  unfold rdN;rw [e,any_append,any_cons,eo N1 h1,eo N2 h2,show (y.k==iv (.int y.k tq))=true from beq_self_eq_true _,Bool.true_and,Bool.or_false,Bool.false_or]
theorem dec_ka {α:Type} (f:Int->Nat->α) (l:List Int) (τ:Int->Nat) (N:List Nd):(N.map (dec l τ)).map (λx=>f x.k x.a)=N.map λx=>f x.k x.a:=by
 rw [kW];exact jX λx _=>by show f (dec l τ x).k (dec l τ x).a=_;rw [dec_k,dec_a]
theorem Dl.go {y:Nd} {tq t:Nat} (h:X.H v (.int y.k tq::r)) (n:X.At v r y tq R t) (ih:∀w,X.H w r->(X.e w r).Ok (ktOf X.w.params) prg X.w 840 8700) {ac:List Value} {m fn t1 t2:Nat} (e:ac++r.filter (rdN v.N)=v.ac++(Value.int y.k tq::r).filter (rdN v.N)) (hz:ac.length<=v.ac.length+1):
  (X.e v (.int y.k tq::r)).Fr X.w 840 8700 ((X.c.fr+216,X.c.F X.w.params (some ((t1,.int y.k tq),(t2,.ref (y.a+216)))) fn)::(X.c.it+216,li X.xs.1 ((v.i:Int)+1))::(y.a+216,nO (y.nd+216) (y.s+216) y.k y.tk (y.np-1) t)::(X.c.rl+216,lo ac m)::R) (X.e v (.int y.k tq::r)).zpre (.goto (dnC X.w.params X.c)) tok:=by
 have hk:=dec_ka (λk _=>k) [y.k] (λ_=>t) v.N;have hr:=vX.mp h.r;have hz2:v.ac.length+(r.length+1)<=900:=h.z;refine Ct.Fr.go (d:=X.e ⟨v.N.map (dec [y.k] λ_=>t),v.i+1,ac,m,fn,true,t1,t2,.int y.k tq,.ref (y.a+216)⟩ r) (R:=[]) (ih _ ⟨by show X.ls.drop (v.i+1)=_;rw [<-drop_drop,h.d];rfl,λz hz=>?_,hk▸h.n,by show ac.length+_<=900;lia,(λu hu=>?_),hr.2⟩) (λ_ e=>e) (λ_ e=>nomatch e) (jv _) (jv _) ?_ (λp hp=> .inl hp) λas ns E=>?_
 ·have hm:(z.k,z.a)∈v.N.map (λx=>(x.k,x.a)):=dec_ka Prod.mk [y.k] (λ_=>t) v.N▸zW (f:=λx:Nd=>(x.k,x.a)) hz
  obtain ⟨x,hx,q⟩:=ky.mp hm;rw [<-show x.k=z.k from jk Prod.fst q,<-show x.a=z.a from jk Prod.snd q];exact h.l x hx
 ·obtain ⟨q,tq',e,hq⟩:=h.u u (zv _ hu)
  exact ⟨q,tq',e,hk▸hq⟩
 ·rw [jx]
  exact .cons _ (.cons _ ((Perm.swap ..).trans (.cons _ n.q.symm)))
 ·obtain ⟨-,τ,g,m2,o⟩:=E.f
  rw [Dl.out_eq o (zV.mp E.k),jx];refine Dl.fin (τ:=λq=>if q=y.k then t else τ q) (g:=g) (m:=m2) ns (.of_eq ?_);have e4:(v.N.map (dec [y.k] λ_=>t)).map (dec (r.map iv) τ)=v.N.map (dec ((Value.int y.k tq::r).map iv) (λq=>if q=y.k then t else τ q)):=by
   rw [kW];exact jX λx _=>dec_cons (τ:=λ_=>t) hr.1 x
  have e5:r.filter (rdN (v.N.map (dec [y.k] λ_=>t)))=r.filter (rdN v.N):=filter_congr λu hu=>rdN_dec λe=>hr.1 (by show y.k∈_;rw [<-e];exact zW hu);show X.L _ g (ac++r.filter (rdN (v.N.map (dec [y.k] λ_=>t)))) m2 ((v.N.map (dec [y.k] λ_=>t)).map (dec (r.map iv) τ))=_;rw [e4,e5,e]
def Dl.dr (X:Dl) (v:Dv) (y:Nd) (tq:Nat):Ct:=(dnr X.w.params X.c X.es X.2.2.2.1 X.2.2.2.2.1 X.ls X.2.2.2.2.2.2 v.i y tq v.ac v.2.2.2.1 v.2.2.2.2.1 v.b.1 v.b.2.1 v.b.2.2.1 v.b.2.2.2.1 v.b.2.2.2.2).ct
def Dl.dz (X:Dl) (v:Dv) (y:Nd) (tq:Nat):Ct:=(dnz X.w.params X.c X.es X.2.2.2.1 X.2.2.2.2.1 X.ls X.2.2.2.2.2.2 v.i y tq v.ac v.2.2.2.1 v.2.2.2.2.1 v.b.1 v.b.2.1 v.b.2.2.1 v.b.2.2.2.1 v.b.2.2.2.2).ct
theorem Dl.pm {y:Nd} {tq:Nat} (n:X.At v r y tq R 0):Perm (X.e v (.int y.k tq::r)).pre ((X.dr v y tq).pre++R):= .cons _ (.cons _ ((Perm.cons _ n.p).trans (.swap ..)))
theorem Dl.turn (ih:∀w,X.H w r->(X.e w r).Ok (ktOf X.w.params) prg X.w 840 8700) {u:Value} (h:X.H v (u::r)):(X.e v (u::r)).Fr X.w 840 8700 (X.e v (u::r)).pre (X.e v (u::r)).zpre (.goto (X.e v (u::r)).code) tok:=by
 obtain ⟨y,tq,R,rfl,n⟩:=h.at;have n0:=n 0;by_cases hnp:y.np=1
 ·refine Ct.Fr.go (d:=X.dr v y tq) (R:=R) (dnr_ok X.w X.c X.es X.2.2.2.1 X.2.2.2.2.1 X.ls X.2.2.2.2.2.2 v.i y tq v.ac v.2.2.2.1 v.2.2.2.2.1 v.b.1 v.b.2.1 v.b.2.2.1 v.b.2.2.2.1 v.b.2.2.2.2 n0.i n0.l hnp (zZ (Nat.le_add_right ..) (zZ h.z (by decide)))) (λ_ e=>e) (λ_ e=>nomatch e) (jv _) (jv _) (Dl.pm n0) (λp hp=> .inl hp) λas ns E=>?_
  obtain rfl:as=[]:=zV.mp E.k;exact Dl.go h (n (ns.n.getD 3 0)) ih (ac:=v.ac++[.int y.k tq]) (t1:=ns.n.getD 1 0) (t2:=ns.n.getD 2 0) (fn:=aN v.b.1 v.2.2.2.2.1) (m:=v.2.2.2.1+1) (by rw [filter_cons,n0.r,hnp,jV];rfl) (Nat.le_of_eq jZ)
 ·refine Ct.Fr.go (d:=X.dz v y tq) (R:=R) (dnz_ok X.w X.c X.es X.2.2.2.1 X.2.2.2.2.1 X.ls X.2.2.2.2.2.2 v.i y tq v.ac v.2.2.2.1 v.2.2.2.2.1 v.b.1 v.b.2.1 v.b.2.2.1 v.b.2.2.2.1 v.b.2.2.2.2 n0.i n0.l hnp) (λ_ e=>e) (λ_ e=>nomatch e) (jv _) (jv _) (Dl.pm n0) (λp hp=> .inl hp) λas ns E=>?_
  obtain rfl:as=[]:=zV.mp E.k;exact Dl.go h (n (ns.n.getD 3 0)) ih (ac:=v.ac) (t1:=ns.n.getD 1 0) (t2:=ns.n.getD 2 0) (fn:=aN v.b.1 v.2.2.2.2.1) (m:=v.2.2.2.1) (by rw [filter_cons,n0.r,kv.mpr hnp];rfl) (Nat.le_succ _)
end
theorem dl_ok (w:World) (c:Dc) (es:List (Int×Nat×Value)) (n xs:Nat) (ls:List Value) (sn:Nat) (rest:List Value) (N:List Nd) (i:Nat) (ac:List Value) (m fn:Nat) (cc:Bool) (p0 p1:Nat) (v0 v1:Value)
  (hd:ls.drop i=rest) (hl:∀x∈N,iLook es x.k=some (.ref (x.a+216))) (hN:(N.map (·.k)).Nodup) (hv:∀v∈rest,∃q tq,v= .int q tq/\q∈N.map (·.k)) (hr:(rest.map iv).Nodup) (hz:ac.length+rest.length<=900):
  (cDL w.params c N es n xs ls sn i rest ac m fn cc p0 p1 v0 v1).Ok (ktOf w.params) prg w 840 8700:=by
 have go:∀r v,Dl.H ⟨w,c,es,n,xs,ls,sn⟩ v r->(Dl.e ⟨w,c,es,n,xs,ls,sn⟩ v r).Ok (ktOf w.params) prg w 840 8700:=λr=>by
  induction r with
  |nil=>exact λv h=>Ct.Fr.ok λtok=>Dl.nil h
  |cons u r ih=>exact λv h=>Ct.Fr.ok λtok=>Dl.turn ih h
 exact go rest ⟨N,i,ac,m,fn,cc,p0,p1,v0,v1⟩ ⟨hd,hl,hN,hz,hv,hr⟩
end
section
abbrev J5:=Option (Option (Option Bool))
noncomputable def pk {α:Type} (j:J5) (a b c d e:α):α:=match j with
 |none=>a
 |some none=>b
 |some (some none)=>c
 |some (some (some false))=>d
 |some (some (some true))=>e
def set5 {α:Type} (j:J5) (f:α->α) (a b c d e:α):List α:=[pk j (f a) a a a a,pk j b (f b) b b b,pk j c c (f c) c c,pk j d d d (f d) d,pk j e e e e (f e)]
noncomputable def Nd.st (v:Int) (t:Nat) (x:Nd):Nd:={x with np:=v,tn:=t}
def cD5 (P:Params) (c:Dc) (N:List Nd) (es:List (Int×Nat×Value)) (n xs:Nat) (ls:List Value) (sn:Nat) (ac:List Value) (m fn:Nat):Ct:=
 {cDL P c N es n xs ls sn 0 ls ac m fn false 0 0 .none .none with
  post:=λ_ ns=>[c.F P (plN ns) (ns.n.getD 1 0),oAt 5 0 ns,oAt 5 1 ns,ns.o.getD 0 default,ns.o.getD 1 default,ns.o.getD 2 default,ns.o.getD 3 default,ns.o.getD 4 default]}
def dnR (N:List Nd) (ls:List Value) (ns:Ns):Prop:=∃τ m',ns.o=(N.map (dec (ls.map iv) τ)).map (·.i.2)++[lo (ls.filter (rdN N)) m']
theorem d5_ok {w:World} {P:Params} {c:Dc} {N:List Nd} {es:List (Int×Nat×Value)} {n xs:Nat} {ls:List Value} {sn:Nat} {ac:List Value} {m fn D U:Nat} (h5:N.length=5) (h:(cDL P c N es n xs ls sn 0 ls ac m fn false 0 0 .none .none).Ok (ktOf w.params) prg w D U):(cD5 P c N es n xs ls sn ac m fn).Ok (ktOf w.params) prg w D U:=by
 obtain ⟨x0,x1,x2,x3,x4,rfl⟩:=ln5 h5;refine h.re (λ_ ns=>ns) rfl rfl rfl rfl rfl rfl λas ns hk hf=>⟨?_,rfl,rfl,hf,hf.1,rfl⟩
 obtain ⟨-,τ,g',m',g⟩:=hf;show [c.F P (plN ns) (ns.n.getD 1 0),oAt 5 0 ns,oAt 5 1 ns,ns.o.getD 0 default,ns.o.getD 1 default,ns.o.getD 2 default,ns.o.getD 3 default,ns.o.getD 4 default]=[c.F P (plN ns) (ns.n.getD 1 0),oAt 5 0 ns,oAt 5 1 ns]++ns.o.take 5;rw [g];rfl
theorem set5_map {α:Type} (j:J5) (f:Nd->Nd) (a b c d e:Nd) (g:Nd->α) (h:∀x,g (f x)=g x):(set5 j f a b c d e).map g=[a,b,c,d,e].map g:=by
 rcases j with _|_|_|_|_<;>simp [set5,pk,h]
theorem set5_len (j:J5) (f:Nd->Nd) (a b c d e:Nd):(set5 j f a b c d e).length=5:=by rcases j with _|_|_|_|_<;>rfl
theorem set5_look {j:J5} {v:Int} {t:Nat} {a b c d e:Nd} {es:List (Int×Nat×Value)} (h:∀x∈[a,b,c,d,e],iLook es x.k=some (.ref (x.a+216))):∀x∈set5 j (Nd.st v t) a b c d e,iLook es x.k=some (.ref (x.a+216)):=λx hx=>by
 have:(x.k,x.a)∈(set5 j (Nd.st v t) a b c d e).map λx=>(x.k,x.a):=zW (f:=λx:Nd=>(x.k,x.a)) hx;rw [set5_map j (Nd.st v t) a b c d e _ λ_=>rfl] at this;obtain ⟨y,hy,e⟩:=ky.mp this;have e1:y.k=x.k:=jk (·.1) e;have e2:y.a=x.a:=jk (·.2) e;rw [<-e1,<-e2];exact h y hy
theorem pk_mem {α:Type} (j:J5) (a b c d e:α):pk j a b c d e∈[a,b,c,d,e]:=by rcases j with _|_|_|_|_<;>simp [pk]
theorem zd {α:Type} {a b c d q:α} (h:q∈[a,b]++[c,d]):q=b\/q∈[a,c,d]:=by
 simp at h⊢;rcases h with h|h|h|h<;>simp [h]
section
variable (P:Params) (w:World) (S SD D rl:Nat) (t1 t2 t3 t4:Nat) (po nf:Int) (tpo tnf nn m:Nat) (es:List (Int×Nat×Value)) (n:Nat) (x0 x1 x2 x3 x4:Nd) (j:J5) (t:Nat)
def dnf:Sp:={c:= .call (.ref 150) ⟨[.ref (S+216),.int (pk j x0 x1 x2 x3 x4).k t],[]⟩,z:=[(S+216,sO (SD+216)),(D+216,idO es n),(pk j x0 x1 x2 x3 x4).l],i:=[(SD+216,sD P t1 t2 t3 t4 (D+216) (.ref (rl+216)) po tpo nf tnf nn),(rl+216,lo [] m),x0.i,x1.i,x2.i,x3.i,x4.i],r:=λas ns=> .ret (.ok (.ret .none)),v:=some (λas ns=>[sD P t1 t2 t3 t4 (D+216) (.ref (rl+216)) po tpo (nf+1) (ns.g 1) nn,ns.p 5,ns.p 0,ns.p 1,ns.p 2,ns.p 3,ns.p 4]),f:=λas ns=>dnR (set5 j (Nd.st (-2) 392) x0 x1 x2 x3 x4) (pk j x0 x1 x2 x3 x4).xs ns,ors:=[(λX=>cDGet true (D+216) es n (pk j x0 x1 x2 x3 x4).k t (.ref ((pk j x0 x1 x2 x3 x4).a+216)),[]),(λX=>iop "int.__ne__" (pk j x0 x1 x2 x3 x4).np (-1) (pk j x0 x1 x2 x3 x4).tn 389 false,[]),(λX=>(cD5 P ⟨(X.b 8),(X.b 10),S,SD,D,rl,(X.b 7),(pk j x0 x1 x2 x3 x4).a,X.t 0,X.t 0+1,X.t 0+4,X.t 0+5,X.t 1,X.t 1+2,(pk j x0 x1 x2 x3 x4).k,t,(pk j x0 x1 x2 x3 x4).np,(pk j x0 x1 x2 x3 x4).tn,t1,t2,t3,t4,po,nf,tpo,tnf,nn,⟨[]⟩⟩ (set5 j (Nd.st (-2) 392) x0 x1 x2 x3 x4) es n (pk j x0 x1 x2 x3 x4).s (pk j x0 x1 x2 x3 x4).xs (pk j x0 x1 x2 x3 x4).sn [] m 6).own (SD+216,sD P t1 t2 t3 t4 (D+216) (.ref (rl+216)) po tpo nf tnf nn) [(S+216,sO (SD+216)),(D+216,idO es n),(pk j x0 x1 x2 x3 x4).l],[0,8,10,1,2,3,4,5,6])],s:=6,m:=3,tr:=match j with|none=>(trD 182 0x34a28828a28a041040c00000c00c00c00000c01030c00000c00000c092f2cb20c00c00000000c00000000000000000c00000c90c00c00000000c00000000000030030030000032400092490c00c00000000c00000000000000000c00000c9249c49c71c7124924a28828a28a288208249241030c00000c00000c09040c30000030000030249249240)|(some none)=>(trD 182 0x34a28828a28a041040c00000c00c00c00000c01030c00000c00000c092f2cb2100100000000100000000000000000100000109100100000000100000000000004004004000004240009249100100000000100000000000000000100000109249c49c71c7124924a28828a28a288208249241030c00000c00000c09040c30000030000030249249240)|(some (some none))=>(trD 182 0x34a28828a28a041040c00000c00c00c00000c01030c00000c00000c092f2cb2140140000000140000000000000000140000149140140000000140000000000005005005000005240009249140140000000140000000000000000140000149249c49c71c7124924a28828a28a288208249241030c00000c00000c09040c30000030000030249249240)|(some (some (some false)))=>(trD 182 0x34a28828a28a041040c00000c00c00c00000c01030c00000c00000c092f2cb2180180000000180000000000000000180000189180180000000180000000000006006006000006240009249180180000000180000000000000000180000189249c49c71c7124924a28828a28a288208249241030c00000c00000c09040c30000030000030249249240)|(some (some (some true)))=>(trD 182 0x34a28828a28a041040c00000c00c00c00000c01030c00000c00000c092f2cb21c01c00000001c00000000000000001c00001c91c01c00000001c00000000000070070070000072400092491c01c00000001c00000000000000001c00001c9249c49c71c7124924a28828a28a288208249241030c00000c00000c09040c30000030000030249249240),cs:=[9,4,11],ns:=λ_ _ N=>⟨[((N 2).t+1+1+1+1+1),(N 2).t+2],[(N 2).p 0,(N 2).p 1,(N 2).p 2,(N 2).p 3,(N 2).p 4,oAt 5 1 (N 2)],[],[]⟩}
theorem dnf_ok (hl:∀x∈[x0,x1,x2,x3,x4],iLook es x.k=some (.ref (x.a+216))) (hN:([x0,x1,x2,x3,x4].map (·.k)).Nodup) (hv:∀v∈(pk j x0 x1 x2 x3 x4).xs,∃q tq,v= .int q tq/\q∈[x0,x1,x2,x3,x4].map (·.k)) (hnd:((pk j x0 x1 x2 x3 x4).xs.map iv).Nodup) (hz:(pk j x0 x1 x2 x3 x4).xs.length<=900) (hnp:(pk j x0 x1 x2 x3 x4).np= -1):OK (dnf · S SD D rl t1 t2 t3 t4 po nf tpo tnf nn m es n x0 x1 x2 x3 x4 j t) w 780 8400:=
 okF 3 (qY [1] (λ_=>dget_ok _ w _ _ true _ _ _ _ _ (sysm D) (by rw [hl _ (pk_mem ..)];rfl))<|qN (λ_=>(iop_ne w _ _ (by rw [hnp];rfl)).m)<|qC (λX hF=>λzq hzq=>(λ_ h=>zs_at _ h) _ hF zq hzq) (λ_ _=>((d5_ok (set5_len ..) (dl_ok w _ es n _ _ _ _ _ 0 [] m 6 false 0 0 .none .none rfl (set5_look hl) (by rw [set5_map j (Nd.st (-2) 392) _ _ _ _ _ (·.k) λ_=>rfl];exact hN) (by rw [set5_map j (Nd.st (-2) 392) _ _ _ _ _ (·.k) λ_=>rfl];exact hv) hnd (by simpa using hz))).own (λp hp=>zd hp) (λ_ _ g=>g.1)).m)<|trivial) (λ{tok sup nss} h=>fq h 2 λf2=>by
   obtain ⟨-,τ,g2,m2,g⟩:=f2;refine ⟨τ,m2,?_⟩;show [(nss.getD 2 Ns.nil).o.getD 0 default,(nss.getD 2 Ns.nil).o.getD 1 default,(nss.getD 2 Ns.nil).o.getD 2 default,(nss.getD 2 Ns.nil).o.getD 3 default,(nss.getD 2 Ns.nil).o.getD 4 default,(nss.getD 2 Ns.nil).o.getD (5+1) default]=_;have g:(nss.getD 2 Ns.nil).o=_:=g;rw [g];rcases j with _|_|_|_|_<;>rfl) (e:=by rcases j with _|_|_|_|_<;>kernel_rfl)
end
end
def cFill (b l:Nat) (xs:List Value) (n:Nat):Ct:={code:= .builtin "list.__iadd__" ⟨[.ref b,.ref l],[]⟩,pre:=[(b,lo [] 0),(l,lo xs n)],k:=0,fo:=λ_ _=> .ret (.ok (.ret (.ref b))),post:=λ_ ns=>[lo xs (ns.g 1),lo xs n],news:=λ_ _=>[],fact:=λ_ _=>True}
theorem fill_ok (kt:KT) (w:World) (D U b l:Nat) (xs:List Value) (n:Nat) (hz:xs.length<=1000):(cFill b l xs n).Ok kt prg w D U:=by
 have hs:sizeLine=16777216:=by decide
 refine Ct.of_builtin rfl F.entry_list_iadd λA hA h gens dr tok os R H0 K=>?_;have hb:=H0.st.here _ (zy ..);have hl:=H0.st.here _ (zv _ (zy ..));rw [vZ F.plain_list_iadd _];show wpAny _ A.in1 (Builtin.List.listExtendWith (.ref b) (.ref l) (.ref b)) _ _ _;obtain ⟨n',e⟩:=lo_ext [] xs 0;rw [nil_append] at e;refine wpAny_mono (wpAny_extend_seq (hsz:=by show xs.length<=sizeLine;lia) (A:=A) (R:=λr s'=>R r s') (items:=⟨xs⟩) (n:=n) b l (.ref b) 0 (T:="list") (.inl rfl) hb hl rfl rfl ?_) (λfin s' h=>?_) (λe s' h=>h)
 ·refine K _ [] ⟨[tok,n'],[],[],[]⟩ [] rfl rfl rfl ?_ (λp hp=>by cases hp) trivial
  have:=H0.upd 0 (f:=Obj.mapSeq (·++Array.mk xs)) rfl (by show (Obj.mapSeq (·++Array.mk xs) (lo [] 0)).isFreed=false;rw [e];rfl);rw [e] at this;exact this
 ·exact h
section
def in5 (j:J5) (f:Nd->Nd) (a b c d e:Nd):List Obj:=[(pk j (f a) a a a a).i.2,(pk j b (f b) b b b).i.2,(pk j c c (f c) c c).i.2,(pk j d d d (f d) d).i.2,(pk j e e e e (f e)).i.2]
section
variable (P:Params) (w:World) (S SD D rl:Nat) (t1 t2 t3 t4:Nat) (po nf:Int) (tpo tnf nn m:Nat) (es:List (Int×Nat×Value)) (n:Nat) (x0 x1 x2 x3 x4:Nd) (j:J5) (t:Nat)
def gr5:Sp:={c:= .call (.ref 129) ⟨[.ref (S+216)],[]⟩,z:=[(S+216,sO (SD+216)),(D+216,idO es n)],i:=[(SD+216,sD P t1 t2 t3 t4 (D+216) (.ref (rl+216)) po tpo nf tnf nn),(rl+216,lo [.int (pk j x0 x1 x2 x3 x4).k t] m),x0.i,x1.i,x2.i,x3.i,x4.i],r:=λas ns=> .ret (.ok (.ret (.ref (as.getD 0 0)))),v:=some (λas ns=>sD P t1 t2 t3 t4 (D+216) (.ref (rl+216)) (po+1) (ns.g 1) nf tnf nn::lo [] (m+1)::in5 j (Nd.st (-1) 389) x0 x1 x2 x3 x4),a:=λas ns=>[tu [.int (pk j x0 x1 x2 x3 x4).k t]],ors:=[(λX=>cFill (X.a 8) (rl+216) [.int (pk j x0 x1 x2 x3 x4).k t] m,[8,1]),(λX=>cDItem true (D+216) es n (pk j x0 x1 x2 x3 x4).k t (.ref ((pk j x0 x1 x2 x3 x4).a+216)),[])],s:=6,m:=2,x:=[9],tr:=match j with|none=>(trD 168 0x20104103000003003003000003028a288000040c30000030000030202082082082082040c3000003000003020d2cb28b2cb2c30030000000030000000000000c00c00c00000f1c71c482002082cb28b2cb2cb28a288208040c3000003000003020820a28a289081030c00000c00000c08000040c30000030000030208200)|(some none)=>(trD 168 0x20104103000003003003000003028a288000040c30000030000030202082082082082040c3000003000003020d2cb28b2cb2c4004000000004000000000000100100100000131c71c482002082cb28b2cb2cb28a288208040c3000003000003020820a28a289081030c00000c00000c08000040c30000030000030208200)|(some (some none))=>(trD 168 0x20104103000003003003000003028a288000040c30000030000030202082082082082040c3000003000003020d2cb28b2cb2c5005000000005000000000000140140140000171c71c482002082cb28b2cb2cb28a288208040c3000003000003020820a28a289081030c00000c00000c08000040c30000030000030208200)|(some (some (some false)))=>(trD 168 0x20104103000003003003000003028a288000040c30000030000030202082082082082040c3000003000003020d2cb28b2cb2c60060000000060000000000001801801800001b1c71c482002082cb28b2cb2cb28a288208040c3000003000003020820a28a289081030c00000c00000c08000040c30000030000030208200)|(some (some (some true)))=>(trD 168 0x20104103000003003003000003028a288000040c30000030000030202082082082082040c3000003000003020d2cb28b2cb2c70070000000070000000000001c01c01c00001f1c71c482002082cb28b2cb2cb28a288208040c3000003000003020820a28a289081030c00000c00000c08000040c30000030000030208200),cs:=[8,9],as:=[2],ns:=λ_ _ N=>⟨[((N 1).t+1+1+1+1+1+1+1+1),(N 1).t+5],[],[],[]⟩}
theorem gr5_ok (hl:iLook es (pk j x0 x1 x2 x3 x4).k=some (.ref ((pk j x0 x1 x2 x3 x4).a+216))):OK (gr5 · S SD D rl t1 t2 t3 t4 po nf tpo tnf nn m es n x0 x1 x2 x3 x4 j t) w 840 8700:=
 okF 2 (qN (λ_=>fill_ok _ w _ _ _ _ _ _ (by simp))<|qY [1] (λ_=>ditem_ok _ w _ _ true _ _ _ _ _ hl)<|trivial) (e:=by rcases j with _|_|_|_|_<;>kernel_rfl)
end
end
section
abbrev Lx:=Lw×(Nat->Nat)×(Nat->Value)×(Nat->Nat)×(Nat->Value)×(Nat->Nat)×Nat×Nat
noncomputable def Lx.c (x:Lx):Lw:=x.1
noncomputable def Lx.t (x:Lx):Nat->Nat:=x.2.1
noncomputable def Lx.v (x:Lx):Nat->Value:=x.2.2.1
noncomputable def Lx.t6 (x:Lx):Nat->Nat:=x.2.2.2.1
noncomputable def Lx.v6 (x:Lx):Nat->Value:=x.2.2.2.2.1
noncomputable def Lx.u (x:Lx):Nat->Nat:=x.2.2.2.2.2.1
noncomputable def Lx.wn (x:Lx):Nat:=x.2.2.2.2.2.2.1
noncomputable def Lx.S (x:Lx):Nat:=x.2.2.2.2.2.2.2
def Lx.B (x:Lx) (P:Params):List DictEntry:=x.c.b8 P x.t x.v++Lw.e6 P true x.t6 x.v6++[en P [119,105,110,115] (x.u 0) (.ref (x.wn+216)),en P [115,111,114,116,101,114] (x.u 1) (.ref (x.S+216))]
def adC (P:Params) (c:Lw) (it:Nat):Code:=forC (stOf P 214 8) (.ref (it+216)) (c.V P)
noncomputable def star1:PySem.Expr->PySem.Expr
 | .Call _ [_,.Starred e _] _ _=>e
 |e=>e
def axE (P:Params) (h:Bool):PySem.Expr:=match h with|false=>star1 (valOf (sub 0 0 (stOf P 214 8)))|true=>valOf (sub 0 1 (stOf P 214 22))
def axV (P:Params) (h:Bool) (c:Lw) (cl:Nat):Env:=cenv P 214 (axE P h) cl (c.fr+216) [(stl [112],c.pc+216),(stl [98,101,97,116,115],c.bc+216)] [108,97,119,46,60,108,111,99,97,108,115,62,46]
def axD (P:Params) (c:Bool) (t:Nat) (v:Value) (n:Nat):Obj:=dob (match c with|true=>[en P [113] t v]|false=>[]) n
section
variable (P:Params) (w:World) (c:Lw) (it acc cl bt rq p tp q l na nb nr n2:Nat) (ac bl rw:List Value) (cc h:Bool) (t0:Nat) (v0:Value)
def axT:Sp:={c:= .compLoop (axE P h) 0 (.ref (it+216)) (.ref (acc+216)) (axV P h c (cl+216)),i:=[(it+216,ri (q:Int) ((l+1:Nat):Int)),(acc+216,lo ac na),(cl+216,axD P cc t0 v0 n2),(c.pc+216,cellO (.int (p:Int) tp)),(c.bc+216,cellO (.ref (bt+216))),(bt+216,lo bl nb),(rq+216,lo rw nr)],r:=λas ns=> .goto (.compLoop (axE P h) 0 (.ref (it+216)) (.ref (acc+216)) (axV P h c (cl+216))),u:=λas ns=>[(0,ri ((q:Int)+1) (((l+1:Nat):Int)-1)),(1,lo (rowT true ac (.int (q:Int) (ns.g 3))) (rowN true na)),(2,axD P true (ns.g 1) (.int (q:Int) (ns.g 3)) (ns.g 2))],ors:=[(λX=>cItem false (bt+216) bl nb (q:Int) (X.t 0) (.ref (rq+216)),[5]),(λX=>cContains false (rq+216) rw nr (p:Int) tp true,[6]),(λX=>ctAppend (acc+216) ac na (.int (q:Int) (X.t 0)),[1])],m:=3,tr:=trD 23 0x20c71c71861860c51030c1041041041041,cs:=[3,1,1,0],ns:=λtok _ N=>⟨[((N 2).t),aT cc t0 (tok+1),pN cc n2,tok],[],[],[]⟩}
theorem axT_ok (hqb:q<100) (hq:bl[(q:Int).toNat]?=some (.ref (rq+216))) {rl:List Int} (hI:IntsAre rw rl) (hr:rl.contains (p:Int)=true) (hz:ac.length<=1000):OK (axT · c it acc cl bt rq p tp q l na nb nr n2 ac bl rw cc h t0 v0) w 720 8100:=
 okF 3 (qN (λ_=>item_ok _ w _ _ false _ _ _ _ _ (kJ _) (by lia) hq)<|qN (λ_=>contains_ok _ w _ _ false _ _ _ _ hI hr)<|qN (λ_=>append_ok _ w _ _ _ _ _ _ hz)<|trivial) (e:=by cases cc<;>cases h<;>kernel_rfl)
def axF:Sp:={c:= .compLoop (axE P h) 0 (.ref (it+216)) (.ref (acc+216)) (axV P h c (cl+216)),i:=[(it+216,ri (q:Int) ((l+1:Nat):Int)),(acc+216,lo ac na),(cl+216,axD P cc t0 v0 n2),(c.pc+216,cellO (.int (p:Int) tp)),(c.bc+216,cellO (.ref (bt+216))),(bt+216,lo bl nb),(rq+216,lo rw nr)],r:=λas ns=> .goto (.compLoop (axE P h) 0 (.ref (it+216)) (.ref (acc+216)) (axV P h c (cl+216))),u:=λas ns=>[(0,ri ((q:Int)+1) (((l+1:Nat):Int)-1)),(1,lo (rowT false ac (.int (q:Int) (ns.g 3))) (rowN false na)),(2,axD P true (ns.g 1) (.int (q:Int) (ns.g 3)) (ns.g 2))],ors:=[(λX=>cItem false (bt+216) bl nb (q:Int) (X.t 0) (.ref (rq+216)),[5]),(λX=>cContains false (rq+216) rw nr (p:Int) tp false,[6])],m:=2,tr:=trD 21 0x71c71861860c51030c1041041041041,cs:=[3,1,0],ns:=λtok _ N=>⟨[((N 1).t),aT cc t0 (tok+1),pN cc n2,tok],[],[],[]⟩}
theorem axF_ok (hqb:q<100) (hq:bl[(q:Int).toNat]?=some (.ref (rq+216))) {rl:List Int} (hI:IntsAre rw rl) (hr:rl.contains (p:Int)=false) (hz:ac.length<=1000):OK (axF · c it acc cl bt rq p tp q l na nb nr n2 ac bl rw cc h t0 v0) w 720 8100:=
 okF 2 (qN (λ_=>item_ok _ w _ _ false _ _ _ _ _ (kJ _) (by lia) hq)<|qN (λ_=>contains_ok _ w _ _ false _ _ _ _ hI hr)<|trivial) (e:=by cases cc<;>cases h<;>kernel_rfl)
end
section
variable (P:Params) (w:World) (c:Lw) (it acc cl:Nat) (h:Bool) (q:Int)
def axe:Sp:={c:= .compLoop (axE P h) 0 (.ref (it+216)) (.ref (acc+216)) (axV P h c (cl+216)),i:=[(it+216,ri q 0)],r:=λas ns=> .ret (.ok .next),s:=2,tr:=[1,1,1,1,1,3],ns:=λtok _ _=>⟨[(tok)],[],[],[]⟩}
theorem axe_ok:OK (axe · c it acc cl h q) w 720 8100:=
 okF 0 (trivial) (e:=by cases h<;>kernel_rfl)
end
end
def cAx (P:Params) (c:Lw) (it acc cl bt rq p tp q l na nb nr n2:Nat) (ac bl rw:List Value) (cc h:Bool) (t0:Nat) (v0:Value) (r:Bool):Ct:=
 {(axT P c it acc cl bt rq p tp q l na nb nr n2 ac bl rw cc h t0 v0).ct with
  post:=λ_ ns=>[ri ((q:Int)+1) (((l+1:Nat):Int)-1),lo (rowT r ac (.int (q:Int) (ns.n.getD 3 0))) (rowN r na),axD P true (ns.n.getD 1 0) (.int (q:Int) (ns.n.getD 3 0)) (ns.n.getD 2 0),cellO (.int (p:Int) tp),cellO (.ref (bt+216)),lo bl nb,lo rw nr]}
theorem ax_ok (w:World) (c:Lw) (it acc cl bt rq p tp q l na nb nr n2:Nat) (ac bl rw:List Value) (cc h:Bool) (t0:Nat) (v0:Value) (r:Bool) (hqb:q<100) (hq:bl[(q:Int).toNat]?=some (.ref (rq+216))) {rl:List Int} (hI:IntsAre rw rl) (hr:rl.contains (p:Int)=r) (hz:ac.length<=1000):(cAx w.params c it acc cl bt rq p tp q l na nb nr n2 ac bl rw cc h t0 v0 r).Ok (ktOf w.params) prg w 720 8100:=by
 cases r
 ·exact axF_ok w c it acc cl bt rq p tp q l na nb nr n2 ac bl rw cc h t0 v0 hqb hq hI hr hz
 ·exact axT_ok w c it acc cl bt rq p tp q l na nb nr n2 ac bl rw cc h t0 v0 hqb hq hI hr hz
def selF (e:Nat->Bool) (τ:Nat->Nat):List Value:=[0,1,2,3,4].foldl (λxs q=>rowT (e q) xs (.int ((q:Nat):Int) (τ q))) []
def selN (e:Nat->Bool):Nat:=[0,1,2,3,4].foldl (λn q=>rowN (e q) n) 0
noncomputable def selI (e:Nat->Bool):List Nat:=[0,1,2,3,4].filter e
noncomputable def selP (L:List Nat) (τ:Nat->Nat):List (Int×Nat):=L.map λq=>(((q:Nat):Int),τ q)
theorem selF_vI (e:Nat->Bool) (τ:Nat->Nat):selF e τ=(selP (selI e) τ).map vI:=by
 unfold selF selP selI;have:∀(qs:List Nat) (xs:List Value),qs.foldl (λxs q=>rowT (e q) xs (.int ((q:Nat):Int) (τ q))) xs=xs++((qs.filter e).map λq=>(((q:Nat):Int),τ q)).map vI:=by
  intro qs;induction qs with
  |nil=>intro xs;simp
  |cons q qs ih=>
   intro xs;rw [foldl_cons,ih];cases hq:e q
   ·rw [filter_cons_of_neg (by simp [hq])];rfl
   ·rw [filter_cons_of_pos hq,kQ,kQ];simp [rowT,vI]
 exact (this _ _).trans (nil_append _)
def cXC (P:Params) (c:Lw) (it acc cl bt p tp r0 r1 r2 r3 r4 nb n0 n1 n2 n3 n4:Nat) (a0 a1 a2 a3 a4:List Value) (h:Bool) (e:Nat->Bool) (L:List Nat):Ct:=
 {code:= .compLoop (axE P h) 0 (.ref (it+216)) (.ref (acc+216)) (axV P h c (cl+216)),hd:=some none,pre:=[(it+216,ri 0 5),(acc+216,lo [] 0),(cl+216,dob [] 0),(c.pc+216,cellO (.int (p:Int) tp)),(c.bc+216,cellO (.ref (bt+216))),(bt+216,lo [.ref (r0+216),.ref (r1+216),.ref (r2+216),.ref (r3+216),.ref (r4+216)] nb),(r0+216,lo a0 n0),(r1+216,lo a1 n1),(r2+216,lo a2 n2),(r3+216,lo a3 n3),(r4+216,lo a4 n4)],k:=0,fo:=λ_ _=> .ret (.ok .next),
  post:=λ_ ns=>[ri 5 0,lo ((selP L (λq=>ns.n.getD (q+3) 0)).map vI) (selN e),axD P true (ns.n.getD 1 0) (ns.v.getD 0 .none) (ns.n.getD 2 0),cellO (.int (p:Int) tp),cellO (.ref (bt+216)),lo [.ref (r0+216),.ref (r1+216),.ref (r2+216),.ref (r3+216),.ref (r4+216)] nb,lo a0 n0,lo a1 n1,lo a2 n2,lo a3 n3,lo a4 n4],news:=λ_ _=>[],fact:=λ_ ns=>ns.z=[]}
theorem xc_ok (w:World) (c:Lw) (it acc cl bt p tp r0 r1 r2 r3 r4 nb n0 n1 n2 n3 n4:Nat) (a0 a1 a2 a3 a4:List Value) (h:Bool) (e:Nat->Bool) (L:List Nat) (hL:selI e=L) (ro:Nat->List Int) (hI0:IntsAre a0 (ro 0)) (hI1:IntsAre a1 (ro 1)) (hI2:IntsAre a2 (ro 2)) (hI3:IntsAre a3 (ro 3)) (hI4:IntsAre a4 (ro 4)) (he:∀q,q<5->(ro q).contains (p:Int)=e q):(cXC w.params c it acc cl bt p tp r0 r1 r2 r3 r4 nb n0 n1 n2 n3 n4 a0 a1 a2 a3 a4 h e L).Ok (ktOf w.params) prg w 720 8100:=by
 subst hL;intro A hA hF hD hU hp gens dr tok os R S0 K;have z0:([]:List Value).length<=0:=jv _;refine Ct.use (ax_ok w c it acc cl bt r0 p tp 0 4 0 nb n0 0 [] [.ref (r0+216),.ref (r1+216),.ref (r2+216),.ref (r3+216),.ref (r4+216)] a0 false h 0 .none (e 0) (by decide) rfl hI0 (he 0 (by decide)) (zZ z0 (by decide))) hA (λl e=>nomatch e) hD hU (Held.start S0) [0,1,2,3,4,5,6] (by decide) (lt_all (n:=11) rfl) rfl (λp hp=>nomatch hp) λh1 as m0 hk hfr H0 hfa0=>?_;obtain rfl:as=[]:=zV.mp hk;refine Ct.use (ax_ok w c it acc cl bt r1 p tp 1 3 (rowN (e 0) 0) nb n1 (m0.n.getD 2 0) (rowT (e 0) [] (.int ((0:Nat):Int) (m0.n.getD 3 0))) [.ref (r0+216),.ref (r1+216),.ref (r2+216),.ref (r3+216),.ref (r4+216)] a1 true h (m0.n.getD 1 0) (.int ((0:Nat):Int) (m0.n.getD 3 0)) (e 1) (by decide) rfl hI1 (he 1 (by decide)) (zZ (rl z0) (by decide))) hA (λl e=>nomatch e) hD hU (H0) [0,1,2,3,4,5,7] (by decide) (lt_all (n:=11) rfl) rfl (λp hp=>nomatch hp) λh2 as m1 hk hfr H1 hfa1=>?_;obtain rfl:as=[]:=zV.mp hk;refine Ct.use (ax_ok w c it acc cl bt r2 p tp 2 2 (rowN (e 1) (rowN (e 0) 0)) nb n2 (m1.n.getD 2 0) (rowT (e 1) (rowT (e 0) [] (.int ((0:Nat):Int) (m0.n.getD 3 0))) (.int ((1:Nat):Int) (m1.n.getD 3 0))) [.ref (r0+216),.ref (r1+216),.ref (r2+216),.ref (r3+216),.ref (r4+216)] a2 true h (m1.n.getD 1 0) (.int ((1:Nat):Int) (m1.n.getD 3 0)) (e 2) (by decide) rfl hI2 (he 2 (by decide)) (zZ (rl (rl z0)) (by decide))) hA (λl e=>nomatch e) hD hU (H1) [0,1,2,3,4,5,8] (by decide) (lt_all (n:=11) rfl) rfl (λp hp=>nomatch hp) λh3 as m2 hk hfr H2 hfa2=>?_;obtain rfl:as=[]:=zV.mp hk;refine Ct.use (ax_ok w c it acc cl bt r3 p tp 3 1 (rowN (e 2) (rowN (e 1) (rowN (e 0) 0))) nb n3 (m2.n.getD 2 0) (rowT (e 2) (rowT (e 1) (rowT (e 0) [] (.int ((0:Nat):Int) (m0.n.getD 3 0))) (.int ((1:Nat):Int) (m1.n.getD 3 0))) (.int ((2:Nat):Int) (m2.n.getD 3 0))) [.ref (r0+216),.ref (r1+216),.ref (r2+216),.ref (r3+216),.ref (r4+216)] a3 true h (m2.n.getD 1 0) (.int ((2:Nat):Int) (m2.n.getD 3 0)) (e 3) (by decide) rfl hI3 (he 3 (by decide)) (zZ (rl (rl (rl z0))) (by decide))) hA (λl e=>nomatch e) hD hU (H2) [0,1,2,3,4,5,9] (by decide) (lt_all (n:=11) rfl) rfl (λp hp=>nomatch hp) λh4 as m3 hk hfr H3 hfa3=>?_;obtain rfl:as=[]:=zV.mp hk;refine Ct.use (ax_ok w c it acc cl bt r4 p tp 4 0 (rowN (e 3) (rowN (e 2) (rowN (e 1) (rowN (e 0) 0)))) nb n4 (m3.n.getD 2 0) (rowT (e 3) (rowT (e 2) (rowT (e 1) (rowT (e 0) [] (.int ((0:Nat):Int) (m0.n.getD 3 0))) (.int ((1:Nat):Int) (m1.n.getD 3 0))) (.int ((2:Nat):Int) (m2.n.getD 3 0))) (.int ((3:Nat):Int) (m3.n.getD 3 0))) [.ref (r0+216),.ref (r1+216),.ref (r2+216),.ref (r3+216),.ref (r4+216)] a4 true h (m3.n.getD 1 0) (.int ((3:Nat):Int) (m3.n.getD 3 0)) (e 4) (by decide) rfl hI4 (he 4 (by decide)) (zZ (rl (rl (rl (rl z0)))) (by decide))) hA (λl e=>nomatch e) hD hU (H3) [0,1,2,3,4,5,10] (by decide) (lt_all (n:=11) rfl) rfl (λp hp=>nomatch hp) λh5 as m4 hk hfr H4 hfa4=>?_;obtain rfl:as=[]:=zV.mp hk;refine Ct.use (axe_ok w c it acc cl h 5) hA (λl e=>nomatch e) hD hU H4 [0] (by decide) (lt_all (n:=11) rfl) rfl (λp hp=>nomatch hp) λh9 as ns hk hfr H hfa=>?_;obtain rfl:as=[]:=zV.mp hk;exact Ct.fin (kt:=ktOf w.params) (c:=cXC w.params c it acc cl bt p tp r0 r1 r2 r3 r4 nb n0 n1 n2 n3 n4 a0 a1 a2 a3 a4 h e (selI e)) K [] ⟨[ns.n.headD 0,m4.n.getD 1 0,m4.n.getD 2 0,m0.n.getD 3 0,m1.n.getD 3 0,m2.n.getD 3 0,m3.n.getD 3 0,m4.n.getD 3 0],[],[.int ((4:Nat):Int) (m4.n.getD 3 0)],[]⟩ (by
  show Held _ _ _ _ _ (_::(_,lo ((selP (selI e) _).map vI) _)::_) _;rw [<-selF_vI];exact H) rfl rfl rfl (λp hp=>nomatch hp) rfl
theorem gadd_h4 {P:Params} {G:Sr} {N:List Nd} {k:Int} {t:Nat} {ys:List (Int×Nat)} {as:List Nat} {ns:Ns} (hk:as.length=(cGAdd P G N k t ys).k) (hf:(cGAdd P G N k t ys).fact as ns):
  as=ns.n.drop 1/\(∃ex,ns.o=(((cGAdd P G N k t ys).post [] ns).drop 1++(cGAdd P G N k t ys).news as ns)++ex)/\(((cGAdd P G N k t ys).post [] ns).drop 1).length=(N.map Nd.i++N.map Nd.l).length/\((cGAdd P G N k t ys).news as ns).length=as.length:=by
 obtain ⟨-,h1,M,tok,h2,h3,h4,-⟩:=hf;have lM:M.length=(fresh N ((k,t)::ys)).length:=by rw [<-h4,zJ]
 have lo':ns.o.length=N.length+N.length+(fresh N ((k,t)::ys)).length*3:=by
  rw [h2,jZ,zJ,zJ,p3_len,lM,jZ,zJ,zJ,zJ,zJ]
 refine ⟨h1,⟨[],?_⟩,?_,?_⟩
 ·show ns.o=(ns.o.take (N.length+N.length)++(ns.o.drop (N.length+N.length)).take ((fresh N ((k,t)::ys)).length*3))++[]
  rw [jx,take_of_length_le (l:=ns.o.drop (N.length+N.length)) (by rw [length_drop,lo'];lia),take_append_drop]
 ·show (ns.o.take (N.length+N.length)).length=_
  rw [length_take,lo',jZ,zJ,zJ];lia
 ·show ((ns.o.drop (N.length+N.length)).take ((fresh N ((k,t)::ys)).length*3)).length=_
  rw [hk,length_take,length_drop,lo'];show _=(fresh N ((k,t)::ys)).length*3;lia
noncomputable def y5N (m:Option (Option (Option Bool))) (y1 y2 y3 y4:Nat):List Nat:=match m with|none=>[]|some none=>[y1]|some (some none)=>[y1,y2]|some (some (some false))=>[y1,y2,y3]|some (some (some true))=>[y1,y2,y3,y4]
noncomputable def unI (v:Value):Int×Nat:=match v with| .int x t=>(x,t)|_=>(0,0)
def adY (ns:Ns):List (Int×Nat):=(ns.v.drop 1).map unI
def adT (ns:Ns):Nat:=tokV (ns.v.getD 0 .none)
def adFact (N:List Nd) (k:Int) (t:Nat) (ys:List (Int×Nat)) (ns:Ns):Prop:=ns.z=[]/\∃(M:List Nd) (tok:Nat),ns.o=((N.map (addU k t ys tok)).map Nd.i++(N.map (addU k t ys tok)).map Nd.l).map (·.2)++(M.flatMap Nd.p3).map (·.2)/\ns.n.drop 1=(M.flatMap Nd.p3).map (·.1)/\M.map (λx=>(x.k,x.tk))=fresh N ((k,t)::ys)/\newOk k t ys M
theorem sel_nd {L:List Nat} (τ:Nat->Nat) (h:L.Nodup):((selP L τ).map (·.1)).Nodup:=by
 unfold selP;rw [kW];exact Pairwise.map _ (λa b hab q=>hab (Int.ofNat.inj q)) h
theorem sel_ne {L:List Nat} {p:Nat} (τ:Nat->Nat) (h:p∉L):∀q∈selP L τ,q.1≠(p:Int):=λq hq e=>by
 obtain ⟨a,ha,rfl⟩:=ky.mp hq;exact h (by rw [<-Int.ofNat.inj e];exact ha)
def adt (P:Params) (x:Lx) (it bt r0 r1 r2 r3 r4 SD D t1 t2 t3 t4:Nat) (po nf:Int) (tpo tnf nn p l n nb n0 n1 n2 n3 n4:Nat) (sl:Array (Option Value)) (pv:Option Value) (a0 a1 a2 a3 a4:List Value) (e:Nat->Bool) (N:List Nd) (m:Option (Option (Option Bool))) (y1 y2 y3 y4:Nat):Rs:={ct:={code:=adC P x.c it,hd:=some none,frs:=none,zpre:=(Sr.mk x.S SD D t1 t2 t3 t4 po nf tpo tnf nn).Z P,pre:=[(x.c.fr+216,fob (x.B P) n sl),(it+216,ri (p:Int) ((l+1:Nat):Int)),(x.c.pc+216,cellN pv),(x.c.bc+216,cellO (.ref (bt+216))),(bt+216,lo [.ref (r0+216),.ref (r1+216),.ref (r2+216),.ref (r3+216),.ref (r4+216)] nb),(r0+216,lo a0 n0),(r1+216,lo a1 n1),(r2+216,lo a2 n2),(r3+216,lo a3 n3),(r4+216,lo a4 n4),(D+216,idO (N.map Nd.e) N.length)],k:=0,fo:=λas ns=> .goto (adC P x.c it),post:=λas ns=>[fob (x.B P) n sl,ri ((p:Int)+1) (((l+1:Nat):Int)-1),cellN (some (.int (p:Int) (adT ns))),cellO (.ref (bt+216)),lo [.ref (r0+216),.ref (r1+216),.ref (r2+216),.ref (r3+216),.ref (r4+216)] nb,lo a0 n0,lo a1 n1,lo a2 n2,lo a3 n3,lo a4 n4,idO (N.map Nd.e++newE (fresh N (((p:Int),adT ns)::adY ns)) (ns.n.drop 1)) (N.length+(fresh N (((p:Int),adT ns)::adY ns)).length)],news:=λas ns=>[],fact:=λas ns=>adFact N (p:Int) (adT ns) (adY ns) ns/\(adY ns).map (·.1)=(y5N m y1 y2 y3 y4).map λq=>((q:Nat):Int)},tt:=0,ors:=[(λX=>cXC P x.c (X.ad.getD 13 0-216) (X.ad.getD 14 0-216) (X.ad.getD 15 0-216) bt p (tk X.pns 0) r0 r1 r2 r3 r4 nb n0 n1 n2 n3 n4 a0 a1 a2 a3 a4 false e (y5N m y1 y2 y3 y4),[13,14,15,2,3,4,5,6,7,8,9]),(λX=>cFill (X.ad.getD 16 0) (X.ad.getD 14 0) ((selP (y5N m y1 y2 y3 y4) (λq=>(nsAt X.pns 1).n.getD (q+3) 0)).map vI) (selN e),[16,14]),(λX=>(cGAdd P (Sr.mk x.S SD D t1 t2 t3 t4 po nf tpo tnf nn) N (p:Int) (tk X.pns 0) (selP (y5N m y1 y2 y3 y4) (λq=>(nsAt X.pns 1).n.getD (q+3) 0))).view ((cGAdd P (Sr.mk x.S SD D t1 t2 t3 t4 po nf tpo tnf nn) N (p:Int) (tk X.pns 0) (selP (y5N m y1 y2 y3 y4) (λq=>(nsAt X.pns 1).n.getD (q+3) 0))).pre.take 1),[10])]}
theorem adt_e (P:Params) (x:Lx) (it bt r0 r1 r2 r3 r4 SD D t1 t2 t3 t4:Nat) (po nf:Int) (tpo tnf nn p l n nb n0 n1 n2 n3 n4:Nat) (sl:Array (Option Value)) (pv:Option Value) (a0 a1 a2 a3 a4:List Value) (e:Nat->Bool) (N:List Nd) (m:Option (Option (Option Bool))) (y1 y2 y3 y4:Nat):EqOfG (adt P x it bt r0 r1 r2 r3 r4 SD D t1 t2 t3 t4 po nf tpo tnf nn p l n nb n0 n1 n2 n3 n4 sl pv a0 a1 a2 a3 a4 e N m y1 y2 y3 y4) P 660 7800 264 6 3 [] ((trD 54 0x3003113d041038e34d34d34d34d34d0000c0000031030c000000000300000300430c2082082082082)) [14,1,1,0] (gr1 2 (N.map Nd.i++N.map Nd.l)) (λtok sup nss=>[]) (λtok sup nss=>⟨(((nss.getD 2 Ns.nil).n.headD 0))::(nss.getD 2 Ns.nil).n.drop 1,(nss.getD 2 Ns.nil).o,[.int (p:Int) tok]++(y5N m y1 y2 y3 y4).map (λq=> .int ((q:Nat):Int) ((nss.getD 0 Ns.nil).n.getD (q+3) 0)),[]⟩) (λtok nss=>[⟨[tok],[],[],(Sr.mk x.S SD D t1 t2 t3 t4 po nf tpo tnf nn).Z P⟩,(nss.getD 0 Ns.nil),(nss.getD 1 Ns.nil),(nss.getD 2 Ns.nil)]):=by rcases m with _|_|_|_|_<;>(intro tok b0 b1 b2 b3 b4 b5 ns0 ns1 ns2;show _=_;kernel_rfl)
theorem adt_ok (w:World) (x:Lx) (it bt r0 r1 r2 r3 r4 SD D t1 t2 t3 t4:Nat) (po nf:Int) (tpo tnf nn p l n nb n0 n1 n2 n3 n4:Nat) (sl:Array (Option Value)) (pv:Option Value) (a0 a1 a2 a3 a4:List Value) (e:Nat->Bool) (N:List Nd) (m:Option (Option (Option Bool))) (y1 y2 y3 y4:Nat) (ro:Nat->List Int) (hI0:IntsAre a0 (ro 0)) (hI1:IntsAre a1 (ro 1)) (hI2:IntsAre a2 (ro 2)) (hI3:IntsAre a3 (ro 3)) (hI4:IntsAre a4 (ro 4)) (he:∀q,q<5->(ro q).contains (p:Int)=e q) (hL:selI e=(y5N m y1 y2 y3 y4)) (hLn:(y5N m y1 y2 y3 y4).Nodup) (hLp:p∉(y5N m y1 y2 y3 y4)) (hN:(N.map (·.k)).Nodup) (hx:∀x∈N,x.xs.length<=800) (hz:N.length<=800):(adt w.params x it bt r0 r1 r2 r3 r4 SD D t1 t2 t3 t4 po nf tpo tnf nn p l n nb n0 n1 n2 n3 n4 sl pv a0 a1 a2 a3 a4 e N m y1 y2 y3 y4).ct.OkG (ktOf w.params) prg w 660 7800 (N.map Nd.i++N.map Nd.l) (λ_ ns=>gdec (N.map Nd.i++N.map Nd.l) ns):=by
 have eqn_:=adt_e w.params x it bt r0 r1 r2 r3 r4 SD D t1 t2 t3 t4 po nf tpo tnf nn p l n nb n0 n1 n2 n3 n4 sl pv a0 a1 a2 a3 a4 e N m y1 y2 y3 y4;exact okG_of (limA _) eqn_ (λtok=>⟨og_n rfl ⟨rfl,λX hF=>⟨rfl,zno,λha=>(xc_ok w x.c (X.ad.getD 13 0-216) (X.ad.getD 14 0-216) (X.ad.getD 15 0-216) bt p (tk X.pns 0) r0 r1 r2 r3 r4 nb n0 n1 n2 n3 n4 a0 a1 a2 a3 a4 false e (y5N m y1 y2 y3 y4) hL ro hI0 hI1 hI2 hI3 hI4 he).m⟩⟩,⟨og_n rfl ⟨rfl,λX hF=>⟨rfl,zno,λha=>fill_ok _ w _ _ _ _ _ _ (by rcases m with _|_|_|_|_<;>exact zx rfl)⟩⟩,⟨og_g (λX=>cGAdd w.params (Sr.mk x.S SD D t1 t2 t3 t4 po nf tpo tnf nn) N (p:Int) (tk X.pns 0) (selP (y5N m y1 y2 y3 y4) (λq=>(nsAt X.pns 1).n.getD (q+3) 0))) (λX=>(cGAdd w.params (Sr.mk x.S SD D t1 t2 t3 t4 po nf tpo tnf nn) N (p:Int) (tk X.pns 0) (selP (y5N m y1 y2 y3 y4) (λq=>(nsAt X.pns 1).n.getD (q+3) 0))).pre.take 1) rfl rfl rfl (λ_ _ _=>rfl) (λ_ _ _=>rfl) (λX hF=>⟨rfl,rfl,(λzq hzq=>(λ_ h=>zs_at ((adt w.params x it bt r0 r1 r2 r3 r4 SD D t1 t2 t3 t4 po nf tpo tnf nn p l n nb n0 n1 n2 n3 n4 sl pv a0 a1 a2 a3 a4 e N m y1 y2 y3 y4).ors.take 2) h) _ hF zq hzq),λas ns hk hf=>gadd_h4 hk hf,λha=>(cGAdd_ok w (Sr.mk x.S SD D t1 t2 t3 t4 po nf tpo tnf nn) N (p:Int) (tk X.pns 0) (selP (y5N m y1 y2 y3 y4) (λq=>(nsAt X.pns 1).n.getD (q+3) 0)) (by rcases m with _|_|_|_|_<;>exact zx rfl) (sel_nd _ hLn) (sel_ne _ hLp) hN hx hz).m⟩),trivial⟩⟩⟩) (λtok sup nss h=>by
  obtain ⟨x2,a2,e2,f2⟩:=fact_one (l:=[⟨[tok],[],[],(Sr.mk x.S SD D t1 t2 t3 t4 po nf tpo tnf nn).Z w.params⟩,(nss.getD 0 Ns.nil),(nss.getD 1 Ns.nil),(nss.getD 2 Ns.nil)]) (adt w.params x it bt r0 r1 r2 r3 r4 SD D t1 t2 t3 t4 po nf tpo tnf nn p l n nb n0 n1 n2 n3 n4 sl pv a0 a1 a2 a3 a4 e N m y1 y2 y3 y4).ors h 2 rfl;obtain ⟨as_,hk_,-,-,M_,tok_,h2_,-⟩:=f2;have h2_:(nss.getD 2 Ns.nil).o=_:=h2_;exact ⟨rfl,(by show _<=(nss.getD 2 Ns.nil).o.length;rw [h2_];simp),(by decide:3<4)⟩) rfl rfl rfl (λ_ _=>rfl) rfl (λtok sup nss h=>by
  obtain ⟨x2,a2,p2_,e2,g2_⟩:=fact_two (l:=[⟨[tok],[],[],(Sr.mk x.S SD D t1 t2 t3 t4 po nf tpo tnf nn).Z w.params⟩,(nss.getD 0 Ns.nil),(nss.getD 1 Ns.nil),(nss.getD 2 Ns.nil)]) (adt w.params x it bt r0 r1 r2 r3 r4 SD D t1 t2 t3 t4 po nf tpo tnf nn p l n nb n0 n1 n2 n3 n4 sl pv a0 a1 a2 a3 a4 e N m y1 y2 y3 y4).ors h 2 rfl;obtain ⟨as_,hk_,h1_,h2_,M_,tok_,h3_,h4_,h5_⟩:=g2_;rw [p2_] at h3_ h5_;rcases m with _|_|_|_|_<;>exact ⟨⟨rfl,M_,tok_,h3_,(by rw [<-h4_,h2_];rfl),h5_⟩,rfl⟩) (λ_ _ _=>zno)
section
section
variable {kt:KT} {hb h h':Heap} {ad0:List Nat} {Z0 Z L R P:List (Nat×Obj)}
theorem Ct.useG {c:Ct} {prog:Program} {w:World} {D U:Nat} {G0:List (Nat×Obj)} (ok:c.OkG kt prog w D U G0 (λ_ ns=>gdec G0 ns)) (hk0:c.k=0) {A:Around} (hA:HdOk c.hd A.handled) (hF:∀l,c.frs=some l->A.frames=some l) (hD:A.depth<=D) (hU:A.units<=U) (H:Held kt hb ad0 Z0 h ((c.pre++G0)++R) Z) (hzc:∀p∈c.zpre,p∈Z)
  (hl:∀as ns,c.fact as ns->G0.length+(ns.n.drop 1).length=ns.o.length) {gens:Array GenState} {d:Drawn} {tok:Nat} {os:OsState} {Q:Result->Shared->Prop}
  (K:∀h' ns,(c.post [] ns).length=c.pre.length->Held kt hb ad0 Z0 h' ((c.pre.map (·.1)).zip (c.post [] ns)++(gdec G0 ns++R)) Z->c.fact [] ns->FinAt prog w A Q (c.fo [] ns) ⟨h',gens,d,ns.n.headD 0,os⟩):
  codeAny (model prog w) A c.code Q ⟨h,gens,d,tok,os⟩:=by
 have nd0:=H.st.nd;rw [zU] at nd0;have nd1:=kX.mp nd0;refine ok A hA hF hD hU h gens d tok os Q ⟨H.st.old,H.st.big,λp hp=>H.st.here p (jj _ hp),nd1.1,λp hp=>H.st.ge p (jj _ hp),λp hp=>?_⟩ λh' as ns hk S1 hf=>?_
 ·have:=H.st.z p (hzc p hp)
  exact ⟨this.1,λhm=>this.2 (by rw [zU];exact jj _ hm)⟩
 ·obtain rfl:as=[]:=zV.mp (hk.trans hk0)
  have e:=hl [] ns hf;have l1:(ns.o.take G0.length).length=G0.length:=by rw [length_take];lia
  have l2:(ns.o.drop G0.length).length=(ns.n.drop 1).length:=by rw [length_drop];lia
  have eg:gdec G0 ns=(G0.map (·.1)).zip (ns.o.take G0.length)++(ns.n.drop 1).zip (ns.o.drop G0.length):=by
   unfold gdec;conv=>lhs;rw [<-take_append_drop G0.length ns.o]
   exact zip_append (by rw [zJ,l1])
  have S2:=S1.full eg l1 l2;have H2:=H.afterP S2;refine K h' ns S1.plen ?_ hf;have en:c.news [] ns=[]:=zV.mp S1.nlen;rw [en] at H2;have:((c.pre++G0).map (·.1)).zip (c.post [] ns++ns.o.take G0.length)++(([]++ns.n.drop 1).zip ([]++ns.o.drop G0.length)++R)=(c.pre.map (·.1)).zip (c.post [] ns)++(gdec G0 ns++R):=by
   rw [eg,zU,zip_append (by rw [zJ,S1.plen]),nil_append,nil_append,jV,jV]
  rw [this] at H2;exact H2
end
def absF (x:Nd):Int×Int×List Int:=(x.k,x.np,x.xs.map iv)
noncomputable def addA (k:Int) (ys:List Int) (as:List (Int×Int×List Int)):List (Int×Int×List Int):=
 as.map (λa=>if a.1==k then (a.1,a.2.1+((ys.length:Nat):Int),a.2.2) else if ys.elem a.1 then (a.1,a.2.1,a.2.2++[k]) else a)++((k::ys).filter λq=> !as.any (·.1==q)).map λq=>if q==k then (k,((ys.length:Nat):Int),[]) else (q,0,[k])
def intsIn (N:List Nd):Prop:=∀x∈N,∀v∈x.xs,∃q tq,v= .int q tq
theorem addU_abs (k:Int) (t:Nat) (ys:List (Int×Nat)) (tok:Nat) (x:Nd):absF (addU k t ys tok x)=(λa:Int×Int×List Int=>if a.1==k then (a.1,a.2.1+(((ys.map (·.1)).length:Nat):Int),a.2.2) else if (ys.map (·.1)).elem a.1 then (a.1,a.2.1,a.2.2++[k]) else a) (absF x):=by
 have e:ys.any (λp=>p.1==x.k)=(ys.map (·.1)).elem x.k:=by
  rw [Bool.eq_iff_iff];simp [any_eq_true]
 unfold addU absF;dsimp only
 rw [zJ];by_cases h:(x.k==k)=true
 ·rw [if_pos h,if_pos h]
 ·rw [vk h,vk h]
  unfold Nd.put;rw [e];by_cases h2:(ys.map (·.1)).elem x.k=true
  ·rw [if_pos h2,if_pos h2];simp [iv]
  ·rw [vk h2,vk h2]
theorem abs_any (N:List Nd) (q:Int):(N.map absF).any (·.1==q)=hasN N q:=by
 unfold hasN;rw [any_map];rfl
theorem add_abs (k:Int) (t:Nat) (ys:List (Int×Nat)) (tok:Nat) (N M:List Nd) (hM:M.map (λx=>(x.k,x.tk))=fresh N ((k,t)::ys)) (hx:newOk k t ys M):(N.map (addU k t ys tok)++M).map absF=addA k (ys.map (·.1)) (N.map absF):=by
 unfold addA;rw [zU,kW,kW];congr 1
 ·exact jX λx _=>addU_abs k t ys tok x
 ·have e1:M.map absF=(M.map λx=>x.k).map λq=>if q==k then (k,((ys.length:Nat):Int),[]) else (q,0,[k]):=by
   rw [kW];refine jX λx hxm=>?_;obtain ⟨h1,h2⟩:=hx x hxm;show absF x=if (x.k==k)=true then _ else _;unfold absF;by_cases h:x.k=k
   ·obtain ⟨g1,g2,-⟩:=h1 h
    rw [if_pos (by simp [h]),g1,g2,h];rfl
   ·obtain ⟨g1,g2,-⟩:=h2 h
    rw [vk (by simp [h]),g1,g2];rfl
  have e2:M.map (λx=>x.k)=((k::ys.map (·.1)).filter λq=> !(N.map absF).any (·.1==q)):=by
   have:=jk (map (·.1)) hM;rw [kW] at this;refine (this.trans ?_:_);unfold fresh;rw [show k::ys.map (·.1)=((k,t)::ys).map (·.1) from rfl,filter_map];congr 1
   exact filter_congr λp _=>by rw [Function.comp_apply,abs_any]
  rw [e1,e2,zJ]
theorem add_ints {k:Int} {t:Nat} {ys:List (Int×Nat)} {tok:Nat} {N M:List Nd} (h:intsIn N) (hx:newOk k t ys M):intsIn (N.map (addU k t ys tok)++M):=λx hxm v hv=>by
 rcases jq.mp hxm with hm|hm
 ·obtain ⟨y,hy,rfl⟩:=ky.mp hm
  unfold addU at hv;split at hv
  ·exact h y hy v hv
  ·unfold Nd.put at hv
   split at hv
   ·rcases jq.mp hv with hv|hv
    ·exact h y hy v hv
    ·rw [jJ.mp hv];exact ⟨_,_,rfl⟩
   ·exact h y hy v hv
 ·obtain ⟨h1,h2⟩:=hx x hm
  by_cases e:x.k=k
  ·rw [(h1 e).2.1] at hv;cases hv
  ·rw [(h2 e).2.1] at hv;rw [jJ.mp hv];exact ⟨_,_,rfl⟩
end
section
section
variable (P:Params) (w:World) (c:Lw) (it:Nat) (q:Int)
def ade:Sp:={c:=adC P c it,i:=[(it+216,ri q 0)],r:=λas ns=> .ret (.ok .next),f:=λas ns=>ns.z=[],s:=2,tr:=[1,1,1,1,1,3],ns:=λtok _ _=>⟨[(tok)],[],[],[]⟩}
theorem ade_ok:OK (ade · c it q) w 660 7800:=
 okF 0 (trivial) (λ_=>rfl)
end
def adO (P:Params) (x:Lx) (it bt r0 r1 r2 r3 r4 SD D t1 t2 t3 t4:Nat) (po nf:Int) (tpo tnf nn n nb n0 n1 n2 n3 n4:Nat) (sl:Array (Option Value)) (a0 a1 a2 a3 a4:List Value) (p l:Nat) (pv:Option Value) (N:List Nd):List (Nat×Obj):=[(x.c.fr+216,fob (x.B P) n sl),(it+216,ri (p:Int) (l:Int)),(x.c.pc+216,cellN pv),(x.c.bc+216,cellO (.ref (bt+216))),(bt+216,lo [.ref (r0+216),.ref (r1+216),.ref (r2+216),.ref (r3+216),.ref (r4+216)] nb),(r0+216,lo a0 n0),(r1+216,lo a1 n1),(r2+216,lo a2 n2),(r3+216,lo a3 n3),(r4+216,lo a4 n4),(D+216,idO (N.map Nd.e) N.length)]
def adG (N:List Nd):List (Nat×Obj):=N.map Nd.i++N.map Nd.l
def Nd.o (x:Nd):Nat×Obj:=(x.nd+216,dob [] 0)
theorem p3_perm:∀M:List Nd,(M.flatMap Nd.p3).Perm (M.map Nd.i++(M.map Nd.l++M.map Nd.o))
 |[]=> .refl _
 |x::M=>by
  rw [flatMap_cons,kQ,kQ,kQ];have ih:=p3_perm M;have h1:(x.p3++M.flatMap Nd.p3).Perm ([x.i,x.l,x.o]++(M.map Nd.i++(M.map Nd.l++M.map Nd.o))):=by
   refine Perm.append ?_ ih;show [x.o,x.i,x.l].Perm [x.i,x.l,x.o];exact (vY (l₁:=[x.o]) (l₂:=[x.i,x.l]))
  refine h1.trans ?_;show (x.i::x.l::x.o::(M.map Nd.i++(M.map Nd.l++M.map Nd.o))).Perm (x.i::(M.map Nd.i++(x.l::M.map Nd.l++x.o::M.map Nd.o)));refine Perm.cons _ ?_;have e1:(x.l::x.o::(M.map Nd.i++(M.map Nd.l++M.map Nd.o))).Perm (M.map Nd.i++(x.l::x.o::(M.map Nd.l++M.map Nd.o))):=by
   have:=vY (l₁:=[x.l,x.o]) (l₂:=M.map Nd.i);have:=this.append_right (M.map Nd.l++M.map Nd.o);simpa using this
  refine e1.trans (Perm.append_left _ ?_);show (x.l::x.o::(M.map Nd.l++M.map Nd.o)).Perm (x.l::(M.map Nd.l++x.o::M.map Nd.o));refine Perm.cons _ ?_;have:=(vY (l₁:=[x.o]) (l₂:=M.map Nd.l)).append_right (M.map Nd.o);simpa using this
theorem ad_perm (N M:List Nd) (R:List (Nat×Obj)):((adG N++M.flatMap Nd.p3)++R).Perm (adG (N++M)++(M.map Nd.o++R)):=by
 unfold adG;rw [zU,zU];have h1:=((p3_perm M).append_left (N.map Nd.i++N.map Nd.l)).append_right R;refine h1.trans ?_;have h2:(N.map Nd.l++M.map Nd.i).Perm (M.map Nd.i++N.map Nd.l):=vY;have h3:=((h2.append_left (N.map Nd.i)).append_right (M.map Nd.l++(M.map Nd.o++R)))
 simpa [jV] using h3
theorem addU_e (k:Int) (t:Nat) (ys:List (Int×Nat)) (tok:Nat) (x:Nd):(addU k t ys tok x).e=x.e/\(addU k t ys tok x).i.1=x.i.1/\(addU k t ys tok x).l.1=x.l.1/\(addU k t ys tok x).k=x.k:=by
 unfold addU;split
 ·exact ⟨rfl,rfl,rfl,rfl⟩
 ·unfold Nd.put
  split<;>exact ⟨rfl,rfl,rfl,rfl⟩
theorem addU_len (k:Int) (t:Nat) (ys:List (Int×Nat)) (tok:Nat) (x:Nd):(addU k t ys tok x).xs.length<=x.xs.length+1:=by
 unfold addU;split
 ·exact Nat.le_succ _
 ·unfold Nd.put
  split
  ·show (x.xs++[_]).length<=_;rw [jZ];exact jv _
  ·exact Nat.le_succ _
theorem y5N_of:∀L:List Nat,L.length<=4->∃m y1 y2 y3 y4,L=y5N m y1 y2 y3 y4
 |[],_=>⟨none,0,0,0,0,rfl⟩
 |[a],_=>⟨some none,a,0,0,0,rfl⟩
 |[a,b],_=>⟨some (some none),a,b,0,0,rfl⟩
 |[a,b,c],_=>⟨some (some (some false)),a,b,c,0,rfl⟩
 |[a,b,c,d],_=>⟨some (some (some true)),a,b,c,d,rfl⟩
 |_::_::_::_::_::_,h=>absurd h (by simp)
theorem selI_facts (e:Nat->Bool) (p:Nat) (hp:p<5) (h:e p=false):(selI e).length<=4/\(selI e).Nodup/\p∉selI e:=by
 have hm:p∈[0,1,2,3,4]:=by
  have:p=0\/p=1\/p=2\/p=3\/p=4:=by lia
  rcases this with rfl|rfl|rfl|rfl|rfl<;>simp
 refine ⟨?_,(filter_sublist (p:=e) (l:=[0,1,2,3,4])).nodup (by decide),λhq=>?_⟩
 ·have:(selI e).length<[0,1,2,3,4].length:=length_filter_lt_length_iff_exists.mpr ⟨p,hm,by simp [h]⟩
  exact Nat.le_of_lt_succ this
 ·have:=(mem_filter.mp hq).2
  rw [h] at this;cases this
def asF (eF:Nat->Nat->Bool):Nat->Nat->List (Int×Int×List Int)->List (Int×Int×List Int)
 |0,_,as=>as
 |l+1,p,as=>asF eF l (p+1) (addA (p:Int) ((selI (eF p)).map λq=>((q:Nat):Int)) as)
theorem fresh_nodup {N M:List Nd} {k:Int} {t:Nat} {ys:List (Int×Nat)} (hN:(N.map (·.k)).Nodup) (hy:(ys.map (·.1)).Nodup) (hk:k∉ys.map (·.1)) (hM:M.map (λx=>(x.k,x.tk))=fresh N ((k,t)::ys)) (tok:Nat):((N.map (addU k t ys tok)++M).map (·.k)).Nodup:=by
 rw [zU,kW];have e1:N.map ((λx:Nd=>x.k)∘addU k t ys tok)=N.map (·.k):=jX λx _=>(addU_e k t ys tok x).2.2.2;have e2:M.map (·.k)=(fresh N ((k,t)::ys)).map (·.1):=by rw [<-hM,kW];rfl
 rw [e1,e2];refine kX.mpr ⟨hN,?_,λa ha b hb q=>?_⟩
 ·have hs:((fresh N ((k,t)::ys)).map (·.1)).Sublist (((k,t)::ys).map (·.1)):=Sublist.map _ filter_sublist
  exact hs.nodup (vX.mpr ⟨hk,hy⟩)
 ·obtain ⟨c,hc,rfl⟩:=ky.mp hb
  have:=(mem_filter.mp hc).2;obtain ⟨x,hx,rfl⟩:=ky.mp ha;have h2:hasN N c.1=true:=any_eq_true.mpr ⟨x,hx,by simpa using q⟩;rw [h2] at this;cases this
end
theorem al_run (w:World) (x:Lx) (it bt r0 r1 r2 r3 r4 SD D t1 t2 t3 t4:Nat) (po nf:Int) (tpo tnf nn n nb n0 n1 n2 n3 n4:Nat) (sl:Array (Option Value)) (a0 a1 a2 a3 a4:List Value) (ro:Nat->List Int) (hI0:IntsAre a0 (ro 0)) (hI1:IntsAre a1 (ro 1)) (hI2:IntsAre a2 (ro 2)) (hI3:IntsAre a3 (ro 3)) (hI4:IntsAre a4 (ro 4)) (eF:Nat->Nat->Bool) (he:∀(p q:Nat),q<5->(ro q).contains (p:Int)=eF p q) (hd:∀p,p<5->eF p p=false)
  {A:Around} (hA:A.handled=none) (hD:A.depth<=660) (hU:A.units<=7800) {hb:Heap} {ad0:List Nat} {Z0 Z:List (Nat×Obj)} (hzc:∀q∈(Sr.mk x.S SD D t1 t2 t3 t4 po nf tpo tnf nn).Z w.params,q∈Z) {gens:Array GenState} {dr:Drawn} {os:OsState} {R:Result->Shared->Prop}:
  ∀(l p:Nat) (N:List Nd) (G:List (Nat×Obj)) (pv:Option Value) (h:Heap) (tok:Nat),p+l=5->(N.map (·.k)).Nodup->intsIn N->(∀y∈N,y.xs.length<=p)->N.length<=5*p->
  Held (ktOf w.params) hb ad0 Z0 h (adO w.params x it bt r0 r1 r2 r3 r4 SD D t1 t2 t3 t4 po nf tpo tnf nn n nb n0 n1 n2 n3 n4 sl a0 a1 a2 a3 a4 p l pv N++(adG N++G)) Z->
  (∀(h':Heap) (tok':Nat) (N':List Nd) (G':List (Nat×Obj)) (pv':Option Value),N'.map absF=asF eF l p (N.map absF)->(N'.map (·.k)).Nodup->intsIn N'->(∀y∈N',y.xs.length<=5)->((∃u,pv'=some (.int 4 u))\/(l=0/\pv'=pv))->
   Held (ktOf w.params) hb ad0 Z0 h' (adO w.params x it bt r0 r1 r2 r3 r4 SD D t1 t2 t3 t4 po nf tpo tnf nn n nb n0 n1 n2 n3 n4 sl a0 a1 a2 a3 a4 5 0 pv' N'++(adG N'++G')) Z->FinAt prg w A R (.ret (.ok .next)) ⟨h',gens,dr,tok',os⟩)->
  codeAny (model prg w) A (adC w.params x.c it) R ⟨h,gens,dr,tok,os⟩:=by
 intro l;induction l with
 |zero=>
  intro p N G pv h tok hp hN hi hx hz H K;obtain rfl:p=5:=by lia
  refine Ct.use (ade_ok w x.c it 5) (λv e=>by cases e;exact hA) (λl e=>nomatch e) hD hU H [1] (by decide) (by intro j hj;rw [jJ.mp hj,jZ];exact Nat.lt_add_right _ (by show 1<11;decide)) rfl (λp hp=>nomatch hp) λh' as ns hk hfr H2 hfa=>?_;obtain rfl:as=[]:=zV.mp hk;have hz0:ns.z=[]:=hfa;rw [hz0,jx] at H2;refine K h' _ N G pv rfl hN hi hx (.inr ⟨rfl,rfl⟩) ?_;rw [zip_nil_left,jx] at H2;exact H2
 |succ l ih=>
  intro p N G pv h tok hp hN hi hx hz H K;obtain ⟨s1,s2,s3⟩:=selI_facts (eF p) p (by lia) (hd p (by lia));obtain ⟨m,y1,y2,y3,y4,hL⟩:=y5N_of _ s1;rw [hL] at s2 s3;refine Ct.useG (c:=(adt w.params x it bt r0 r1 r2 r3 r4 SD D t1 t2 t3 t4 po nf tpo tnf nn p l n nb n0 n1 n2 n3 n4 sl pv a0 a1 a2 a3 a4 (eF p) N m y1 y2 y3 y4).ct) (G0:=N.map Nd.i++N.map Nd.l) (R:=G)
   (adt_ok w x it bt r0 r1 r2 r3 r4 SD D t1 t2 t3 t4 po nf tpo tnf nn p l n nb n0 n1 n2 n3 n4 sl pv a0 a1 a2 a3 a4 (eF p) N m y1 y2 y3 y4 ro hI0 hI1 hI2 hI3 hI4 (λq hq=>he p q hq) hL s2 s3 hN (λy hy=>zZ (hx y hy) (by lia)) (by lia)) rfl (λv e=>by cases e;exact hA) (λl e=>nomatch e) hD hU (by rw [jV];exact H) (λq hq=>hzc q hq) ?_ λh' ns hpl H2 hfa=>?_
  ·intro as ns hf
   obtain ⟨⟨-,M,tk',g1,g2,-⟩,-⟩:=hf;rw [g1,g2];simp;lia
  ·obtain ⟨⟨gz,M,tk',g1,g2,g3,g4⟩,g5⟩:=hfa
   have hN2:(N.map (addU (p:Int) (adT ns) (adY ns) tk')++M).length=N.length+M.length:=by simp
   have e0:(N.map (addU (p:Int) (adT ns) (adY ns) tk')).map Nd.e=N.map Nd.e:=by rw [kW];exact jX λy _=>(addU_e _ _ _ _ y).1
   have lM:M.length=(fresh N (((p:Int),adT ns)::adY ns)).length:=by rw [<-g3,zJ]
   have eD:idO (N.map Nd.e++newE (fresh N (((p:Int),adT ns)::adY ns)) (ns.n.drop 1)) (N.length+(fresh N (((p:Int),adT ns)::adY ns)).length)=idO ((N.map (addU (p:Int) (adT ns) (adY ns) tk')++M).map Nd.e) (N.map (addU (p:Int) (adT ns) (adY ns) tk')++M).length:=by
    rw [hN2,<-lM,zU,e0,g2,<-g3,newE_p3]
   have eG:gdec (N.map Nd.i++N.map Nd.l) ns=adG (N.map (addU (p:Int) (adT ns) (adY ns) tk'))++M.flatMap Nd.p3:=by
    have ea:(N.map Nd.i++N.map Nd.l).map (·.1)=(adG (N.map (addU (p:Int) (adT ns) (adY ns) tk'))).map (·.1):=by
     unfold adG;rw [zU,zU,kW,kW,kW,kW,kW,kW];exact congr (jk _ (jX λy _=>(addU_e _ _ _ _ y).2.1.symm)) (jX λy _=>(addU_e _ _ _ _ y).2.2.1.symm)
    unfold gdec;rw [ea,g1,g2];show ((adG _).map (·.1)++_).zip ((adG _).map (·.2)++_)=_;rw [zip_append (by rw [zJ,zJ]),zip_fs,zip_fs]
   have hyk:(adY ns).map (·.1)=(y5N m y1 y2 y3 y4).map λq=>((q:Nat):Int):=g5;have hyl:(((adY ns).map (·.1))).Nodup:=by
    rw [hyk];exact Pairwise.map _ (λa b hab q=>hab (Int.ofNat.inj q)) s2
   have hyn:(p:Int)∉(adY ns).map (·.1):=by
    rw [hyk];intro hm;obtain ⟨q,hq,e⟩:=ky.mp hm;exact s3 (by rw [<-Int.ofNat.inj e];exact hq)
   rw [eG] at H2;have H3:Held (ktOf w.params) hb ad0 Z0 h' (adO w.params x it bt r0 r1 r2 r3 r4 SD D t1 t2 t3 t4 po nf tpo tnf nn n nb n0 n1 n2 n3 n4 sl a0 a1 a2 a3 a4 (p+1) l (some (.int (p:Int) (adT ns))) (N.map (addU (p:Int) (adT ns) (adY ns) tk')++M)++((adG (N.map (addU (p:Int) (adT ns) (adY ns) tk'))++M.flatMap Nd.p3)++G)) Z:=by
    unfold adO;rw [<-eD];have:((l+1:Nat):Int)-1=(l:Int):=by lia
    have H4:Held (ktOf w.params) hb ad0 Z0 h' ([(x.c.fr+216,fob (x.B w.params) n sl),(it+216,ri ((p:Int)+1) (((l+1:Nat):Int)-1)),(x.c.pc+216,cellN (some (.int (p:Int) (adT ns)))),(x.c.bc+216,cellO (.ref (bt+216))),(bt+216,lo [.ref (r0+216),.ref (r1+216),.ref (r2+216),.ref (r3+216),.ref (r4+216)] nb),(r0+216,lo a0 n0),(r1+216,lo a1 n1),(r2+216,lo a2 n2),(r3+216,lo a3 n3),(r4+216,lo a4 n4),(D+216,idO (N.map Nd.e++newE (fresh N (((p:Int),adT ns)::adY ns)) (ns.n.drop 1)) (N.length+(fresh N (((p:Int),adT ns)::adY ns)).length))]++((adG (N.map (addU (p:Int) (adT ns) (adY ns) tk'))++M.flatMap Nd.p3)++G)) Z:=H2;rw [this] at H4;exact H4
   have lf:(fresh N (((p:Int),adT ns)::adY ns)).length<=5:=by
    have h1:(fresh N (((p:Int),adT ns)::adY ns)).length<=(((p:Int),adT ns)::adY ns).length:=length_filter_le ..;have h2:(adY ns).length=(y5N m y1 y2 y3 y4).length:=by have:=jk length hyk;rwa [zJ,zJ] at this
    rw [jY,h2,<-hL] at h1;lia
   refine ih (p+1) (N.map (addU (p:Int) (adT ns) (adY ns) tk')++M) (M.map Nd.o++G) _ h' _ (by lia) (fresh_nodup hN hyl hyn g3 tk') (add_ints hi g4) (λy hy=>?_) (by rw [hN2,lM];lia) (H3.perm ((ad_perm _ M G).append_left _)) λh2 tok2 N' G' pv' k1 k2 k3 k4 k5 k6=>K h2 tok2 N' G' pv' ?_ k2 k3 k4 (.inl ?_) k6
   ·rcases jq.mp hy with hm|hm
    ·obtain ⟨z,hz',rfl⟩:=ky.mp hm
     exact zZ (addU_len _ _ _ _ z) (Nat.succ_le_succ (hx z hz'))
    ·obtain ⟨q1,q2⟩:=g4 y hm
     by_cases e:y.k=(p:Int)
     ·rw [(q1 e).2.1];exact Nat.zero_le _
     ·rw [(q2 e).2.1];exact Nat.succ_le_succ (Nat.zero_le _)
   ·rw [k1,add_abs (p:Int) (adT ns) (adY ns) tk' N M g3 g4,hyk,<-hL]
    rfl
   ·rcases k5 with k5|⟨k5,k7⟩
    ·exact k5
    ·obtain rfl:p=4:=by lia
     exact ⟨_,k7⟩
noncomputable def lsOf (o:Obj):List Value:=match o.data with| .seq a _=>a.toList|_=>[]
def ndOf (as:List Nat) (ns:Ns) (j:Nat):Nd:=⟨as.getD j 0-216,ns.n.getD (1+2*j) 0,as.getD (5+j) 0-216,intV (ns.v.getD (2*j) .none),tokV (ns.v.getD (2*j) .none),intV (ns.v.getD (2*j+1) .none),tokV (ns.v.getD (2*j+1) .none),lsOf (ns.o.getD j default),ns.n.getD (2+2*j) 0⟩
def nd5 (as:List Nat) (ns:Ns):List Nd:=[ndOf as ns 0,ndOf as ns 1,ndOf as ns 2,ndOf as ns 3,ndOf as ns 4]
noncomputable def asOf (N:List Nd):List Nat:=N.map (λy=>y.a+216)++N.map (λy=>y.s+216)
def nsOf (tok u:Nat) (N:List Nd):Ns:=⟨tok::(N.flatMap λy=>[y.nd,y.sn])++[u],N.map (·.l.2),N.flatMap λy=>[.int y.k y.tk,.int y.np y.tn],[]⟩
theorem nd5_of (tok u:Nat) (N:List Nd) (h:N.length=5):nd5 (asOf N) (nsOf tok u N)=N:=by
 obtain ⟨y0,y1,y2,y3,y4,rfl⟩:=ln5 h;first
 |kernel_rfl
 |(unfold nd5 ndOf asOf nsOf
   simp [intV,tokV,lsOf,Nd.l,lo])
def cALL (P:Params) (x:Lx) (it bt r0 r1 r2 r3 r4 SD D t1 t2 t3 t4:Nat) (po nf:Int) (tpo tnf nn n nb n0 n1 n2 n3 n4:Nat) (sl:Array (Option Value)) (a0 a1 a2 a3 a4:List Value) (eF:Nat->Nat->Bool) (pv:Option Value):Ct:=
 {code:=adC P x.c it,hd:=some none,zpre:=(Sr.mk x.S SD D t1 t2 t3 t4 po nf tpo tnf nn).Z P,pre:=adO P x it bt r0 r1 r2 r3 r4 SD D t1 t2 t3 t4 po nf tpo tnf nn n nb n0 n1 n2 n3 n4 sl a0 a1 a2 a3 a4 0 5 pv [],k:=10,fo:=λ_ _=> .ret (.ok .next),
  post:=λas ns=>[fob (x.B P) n sl,ri 5 0,cellN (some (.int 4 (ns.n.getD 11 0))),cellO (.ref (bt+216)),lo [.ref (r0+216),.ref (r1+216),.ref (r2+216),.ref (r3+216),.ref (r4+216)] nb,lo a0 n0,lo a1 n1,lo a2 n2,lo a3 n3,lo a4 n4,idO ((nd5 as ns).map Nd.e) 5],news:=λas ns=>(nd5 as ns).map (·.i.2)++(nd5 as ns).map (·.l.2),
  fact:=λas ns=>ns.z=[]/\(nd5 as ns).map absF=asF eF 5 0 []/\((nd5 as ns).map (·.k)).Nodup/\intsIn (nd5 as ns)/\(∀y∈nd5 as ns,y.xs.length<=5)/\as=asOf (nd5 as ns)}
theorem all_ok (w:World) (x:Lx) (it bt r0 r1 r2 r3 r4 SD D t1 t2 t3 t4:Nat) (po nf:Int) (tpo tnf nn n nb n0 n1 n2 n3 n4:Nat) (sl:Array (Option Value)) (a0 a1 a2 a3 a4:List Value) (ro:Nat->List Int) (hI0:IntsAre a0 (ro 0)) (hI1:IntsAre a1 (ro 1)) (hI2:IntsAre a2 (ro 2)) (hI3:IntsAre a3 (ro 3)) (hI4:IntsAre a4 (ro 4)) (eF:Nat->Nat->Bool) (he:∀(p q:Nat),q<5->(ro q).contains (p:Int)=eF p q) (hd:∀p,p<5->eF p p=false) (h5:(asF eF 5 0 []).length=5) (pv:Option Value):(cALL w.params x it bt r0 r1 r2 r3 r4 SD D t1 t2 t3 t4 po nf tpo tnf nn n nb n0 n1 n2 n3 n4 sl a0 a1 a2 a3 a4 eF pv).Ok (ktOf w.params) prg w 660 7800:=by
 intro A hA hF hD hU h gens dr tok os R S0 K;refine al_run w x it bt r0 r1 r2 r3 r4 SD D t1 t2 t3 t4 po nf tpo tnf nn n nb n0 n1 n2 n3 n4 sl a0 a1 a2 a3 a4 ro hI0 hI1 hI2 hI3 hI4 eF he hd (hA none rfl) hD hU (Z:=(Sr.mk x.S SD D t1 t2 t3 t4 po nf tpo tnf nn).Z w.params) (λq hq=>hq) 5 0 [] [] pv h tok rfl nodup_nil (λy hy=>nomatch hy) (λy hy=>nomatch hy) (jv _) (Held.start S0) λh' tok' N' G' pv' k1 k2 k3 k4 k5 H=>?_;obtain ⟨u,rfl⟩:∃u,pv'=some (.int 4 u):=by
  rcases k5 with k5|⟨k5,-⟩
  ·exact k5
  ·cases k5
 have l5:N'.length=5:=by have:=jk length k1;rw [zJ] at this;exact this.trans h5
 have e5:=nd5_of tok' u N' l5;have hk:(asOf N').length=10:=by unfold asOf;rw [jZ,zJ,zJ,l5]
 refine K h' (asOf N') (nsOf tok' u N') hk (Held.fin (kt:=ktOf w.params) (Z:=(Sr.mk x.S SD D t1 t2 t3 t4 po nf tpo tnf nn).Z w.params) ?_ rfl ?_ (λp hp=>nomatch hp)) ?_
 ·have e1:(asOf N').zip ((nd5 (asOf N') (nsOf tok' u N')).map (·.i.2)++(nd5 (asOf N') (nsOf tok' u N')).map (·.l.2))=adG N':=by
   rw [e5];unfold asOf adG;rw [zip_append (by rw [zJ,zJ]),zip_map',zip_map'];rfl
  have H2:Held (ktOf w.params) h ((cALL w.params x it bt r0 r1 r2 r3 r4 SD D t1 t2 t3 t4 po nf tpo tnf nn n nb n0 n1 n2 n3 n4 sl a0 a1 a2 a3 a4 eF pv).pre.map (·.1)) (cALL w.params x it bt r0 r1 r2 r3 r4 SD D t1 t2 t3 t4 po nf tpo tnf nn n nb n0 n1 n2 n3 n4 sl a0 a1 a2 a3 a4 eF pv).zpre h' (adO w.params x it bt r0 r1 r2 r3 r4 SD D t1 t2 t3 t4 po nf tpo tnf nn n nb n0 n1 n2 n3 n4 sl a0 a1 a2 a3 a4 5 0 (some (.int 4 u)) N'++adG N') ((Sr.mk x.S SD D t1 t2 t3 t4 po nf tpo tnf nn).Z w.params):=H.sub (by rw [<-jV];exact sublist_append_left ..);have e2:((cALL w.params x it bt r0 r1 r2 r3 r4 SD D t1 t2 t3 t4 po nf tpo tnf nn n nb n0 n1 n2 n3 n4 sl a0 a1 a2 a3 a4 eF pv).pre.map (·.1)).zip ((cALL w.params x it bt r0 r1 r2 r3 r4 SD D t1 t2 t3 t4 po nf tpo tnf nn n nb n0 n1 n2 n3 n4 sl a0 a1 a2 a3 a4 eF pv).post (asOf N') (nsOf tok' u N'))=adO w.params x it bt r0 r1 r2 r3 r4 SD D t1 t2 t3 t4 po nf tpo tnf nn n nb n0 n1 n2 n3 n4 sl a0 a1 a2 a3 a4 5 0 (some (.int 4 u)) N':=by
   have eu:(nsOf tok' u N').n.getD 11 0=u:=by
    obtain ⟨y0,y1,y2,y3,y4,rfl⟩:=ln5 l5;rfl
   show zip _ [_,_,cellN (some (.int 4 ((nsOf tok' u N').n.getD 11 0))),_,_,_,_,_,_,_,idO ((nd5 (asOf N') (nsOf tok' u N')).map Nd.e) 5]=_;rw [e5,eu];unfold adO;rw [l5];rfl
  show Held _ _ _ _ _ (((cALL w.params x it bt r0 r1 r2 r3 r4 SD D t1 t2 t3 t4 po nf tpo tnf nn n nb n0 n1 n2 n3 n4 sl a0 a1 a2 a3 a4 eF pv).pre.map (·.1)).zip ((cALL w.params x it bt r0 r1 r2 r3 r4 SD D t1 t2 t3 t4 po nf tpo tnf nn n nb n0 n1 n2 n3 n4 sl a0 a1 a2 a3 a4 eF pv).post (asOf N') (nsOf tok' u N'))++(asOf N').zip _) _;rw [e2];exact e1▸H2
 ·show ((nd5 (asOf N') (nsOf tok' u N')).map (·.i.2)++(nd5 (asOf N') (nsOf tok' u N')).map (·.l.2)).length=_
  rw [e5,hk,jZ,zJ,zJ,l5]
 ·refine ⟨rfl,?_⟩
  rw [e5];exact ⟨k1,k2,k3,k4,rfl⟩
noncomputable def Ct.owns (c:Ct) (qs z:List (Nat×Obj)):Ct:={c with zpre:=z,pre:=qs++c.pre,post:=λas ns=>qs.map (·.2)++c.post as ns}
theorem Ct.Ok.owns {c:Ct} {kt:KT} {prog:Program} {w:World} {D U:Nat} (ok:c.Ok kt prog w D U) (hn:∀as ns,c.fact as ns->ns.z=[]):∀(qs z:List (Nat×Obj)),(∀p∈c.zpre,p∈qs\/p∈z)->(c.owns qs z).Ok kt prog w D U
 |[],z,hz=>by
  intro A hA hF hD hU h gens d tok os R S0 K;exact ok A hA hF hD hU h gens d tok os R ⟨S0.old,S0.big,S0.here,S0.nd,S0.ge,λp hp=>S0.z p ((hz p hp).resolve_left (λq=>nomatch q))⟩ λh' as ns hk S1 hf=>
   K h' as ns hk ⟨S1.plen,S1.nlen,S1.here,S1.new,S1.nd,S1.fresh,S1.keep,S1.grow,λp hp=>by rw [hn as ns hf] at hp;cases hp⟩ hf
 |q::qs,z,hz=>Ct.Ok.own (c:=c.owns qs (q::z)) (q:=q) (z:=z) (Ct.Ok.owns ok hn qs (q::z) λp hp=>by
   rcases hz p hp with h|h
   ·rcases vz.mp h with rfl|h
    ·exact .inr (zy ..)
    ·exact .inl h
   ·exact .inr (zv _ h)) (λp hp=>vz.mp hp) hn
def cPrN (P:Params) (S SD D:Nat) (t1 t2 t3 t4:Nat) (po nf:Int) (tpo tnf nn:Nat) (x0:Nd) (Nr:List Nd) (n:Nat) (lf:Nat) (lE:List DictEntry) (ln:Nat) (lc:List (Str×Addr)) (lsl:Array (Option Value)):Ct:=
 {(prN P S SD D t1 t2 t3 t4 po nf tpo tnf nn x0 Nr n lf lE ln lc lsl).ct with fact:=λ_ ns=>ns.z=[]}
def cPrY (P:Params) (S SD D:Nat) (t1 t2 t3 t4:Nat) (po nf:Int) (tpo tnf nn:Nat) (x0:Nd) (Nr:List Nd) (n:Nat) (lf:Nat) (lE:List DictEntry) (ln:Nat) (lc:List (Str×Addr)) (lsl:Array (Option Value)):Ct:=
 {(prY P S SD D t1 t2 t3 t4 po nf tpo tnf nn x0 Nr n lf lE ln lc lsl).ct with fact:=λ_ ns=>ns.z=[]}
theorem cPrN_ok (w:World) (S SD D:Nat) (t1 t2 t3 t4:Nat) (po nf:Int) (tpo tnf nn:Nat) (x0:Nd) (Nr:List Nd) (n:Nat) (lf:Nat) (lE:List DictEntry) (ln:Nat) (lc:List (Str×Addr)) (lsl:Array (Option Value)) (f:Nat) (hf:f<=90) (hz:(x0::Nr).length<=900) (hv:∀x∈x0::Nr,∀v∈x.xs,∃q tq,v= .int q tq) (hq:aout ((x0::Nr).map Nd.ad) f ((x0::Nr).map (·.k)) []=some false):(cPrN w.params S SD D t1 t2 t3 t4 po nf tpo tnf nn x0 Nr n lf lE ln lc lsl).Ok (ktOf w.params) prg w 600 7500:=
 (prN_ok w S SD D t1 t2 t3 t4 po nf tpo tnf nn x0 Nr n lf lE ln lc lsl f hf hz hv hq).re (λ_ ns=>{ns with z:=[]}) rfl rfl rfl rfl rfl rfl λas ns hk h=>⟨rfl,rfl,rfl,rfl,rfl,rfl⟩
theorem cPrY_ok (w:World) (S SD D:Nat) (t1 t2 t3 t4:Nat) (po nf:Int) (tpo tnf nn:Nat) (x0:Nd) (Nr:List Nd) (n:Nat) (lf:Nat) (lE:List DictEntry) (ln:Nat) (lc:List (Str×Addr)) (lsl:Array (Option Value)) (f:Nat) (hf:f<=90) (hz:(x0::Nr).length<=900) (hv:∀x∈x0::Nr,∀v∈x.xs,∃q tq,v= .int q tq) (hq:aout ((x0::Nr).map Nd.ad) f ((x0::Nr).map (·.k)) []=some true):(cPrY w.params S SD D t1 t2 t3 t4 po nf tpo tnf nn x0 Nr n lf lE ln lc lsl).Ok (ktOf w.params) prg w 600 7500:=
 (prY_ok w S SD D t1 t2 t3 t4 po nf tpo tnf nn x0 Nr n lf lE ln lc lsl f hf hz hv hq).re (λ_ ns=>{ns with z:=[]}) rfl rfl rfl rfl rfl rfl λas ns hk h=>⟨rfl,rfl,rfl,rfl,rfl,rfl⟩
section
section
variable (P:Params) (w:World) (S SD D rl:Nat) (t1 t2 t3 t4:Nat) (po nf:Int) (tpo tnf nn:Nat) (xs:List Value) (m:Nat)
def actF:Sp:={c:= .call (.ref 136) ⟨[.ref (S+216)],[]⟩,z:=[(S+216,sO (SD+216)),(SD+216,sD P t1 t2 t3 t4 (D+216) (.ref (rl+216)) po tpo nf tnf nn),(rl+216,lo xs m)],i:=[],r:=λas ns=> .ret (.ok (.ret (.bool (((xs.length:Nat):Int) !=0)))),ors:=[(λX=>iop "int.__lt__" nf po tnf tpo false,[]),(λX=>cLenF true (rl+216) xs m,[])],s:=1,m:=2,tr:=trD 59 0x32cb1030c00000c00000c01000c40c30000030000030071030c00000c00000c01c40c30000030000030041040,cs:=[4,5],ns:=λ_ _ N=>⟨[((N 1).t)],[],[],[]⟩}
theorem actF_ok (hlt:po<=nf) (hz:xs.length<=1000):OK (actF · S SD D rl t1 t2 t3 t4 po nf tpo tnf nn xs m) w 840 8700:=
 okF 2 (qN (λ_=>(iop_lt w tnf tpo (by simpa using hlt)).m)<|qY [2] (λ_=>lenF_ok _ w _ _ true _ _ _ (by lia))<|trivial)
end
end
def cFillT (b l:Nat) (xs:List Value):Ct:={code:= .builtin "list.__iadd__" ⟨[.ref b,.ref l],[]⟩,pre:=[(b,lo [] 0),(l,tu xs)],k:=0,fo:=λ_ _=> .ret (.ok (.ret (.ref b))),post:=λ_ ns=>[lo xs (ns.n.getD 1 0),tu xs],news:=λ_ _=>[],fact:=λ_ _=>True}
theorem fillT_ok (kt:KT) (w:World) (D U b l:Nat) (xs:List Value) (hz:xs.length<=1000):(cFillT b l xs).Ok kt prg w D U:=by
 have hs:sizeLine=16777216:=by decide
 refine Ct.of_builtin rfl F.entry_list_iadd λA hA h gens dr tok os R H0 K=>?_;have hb:=H0.st.here _ (zy ..);have hl:=H0.st.here _ (zv _ (zy ..));rw [vZ F.plain_list_iadd _];show wpAny _ A.in1 (Builtin.List.listExtendWith (.ref b) (.ref l) (.ref b)) _ _ _;obtain ⟨n',e⟩:=lo_ext [] xs 0;rw [nil_append] at e;refine wpAny_mono (wpAny_extend_seq (hsz:=by show xs.length<=sizeLine;lia) (A:=A) (R:=λr s'=>R r s') (items:=⟨xs⟩) (n:=0) b l (.ref b) 0 (T:="tuple") (.inr rfl) hb hl rfl rfl ?_) (λfin s' h=>?_) (λe s' h=>h)
 ·refine K _ [] ⟨[tok,n'],[],[],[]⟩ [] rfl rfl rfl ?_ (λp hp=>by cases hp) trivial
  have:=H0.upd 0 (f:=Obj.mapSeq (·++Array.mk xs)) rfl (by show (Obj.mapSeq (·++Array.mk xs) (lo [] 0)).isFreed=false;rw [e];rfl);rw [e] at this;exact this
 ·exact h
section
def rnE (P:Params) (x:Lx) (rf:Bool) (u u1 hd:Nat) (cc:Bool) (rk:Nat) (rv:Value):List DictEntry:=x.B P++en P [114,101,102,117,115,101,100] u (.bool rf)::en P [104,97,110,100,101,100] u1 (.ref (hd+216))::(match cc with|true=>[en P [114,101,97,100,121] rk rv]|false=>[])
def rnC (P:Params) (x:Lx):Code:=whileC (stOf P 214 13) (x.c.V P)
noncomputable def aK (c:Bool) (n:Nat):Nat:=match c with|true=>n|false=>n+1
noncomputable def aTk (c:Bool) (a b:Nat):Nat:=match c with|true=>a|false=>b
def cAcF (P:Params) (S SD D rl:Nat) (t1 t2 t3 t4:Nat) (po nf:Int) (tpo tnf nn:Nat) (xs:List Value) (m:Nat):Ct:={(actF P S SD D rl t1 t2 t3 t4 po nf tpo tnf nn xs m).ct with fact:=λ_ ns=>ns.z=[]}
theorem pkl (j:J5) (x0 x1 x2 x3 x4:Nd) {A B q:Nat×Obj} (h:q∈[A,B,(pk j (pk j ((Nd.st (-1) 389) x0) x0 x0 x0 x0) (pk j x1 ((Nd.st (-1) 389) x1) x1 x1 x1) (pk j x2 x2 ((Nd.st (-1) 389) x2) x2 x2) (pk j x3 x3 x3 ((Nd.st (-1) 389) x3) x3) (pk j x4 x4 x4 x4 ((Nd.st (-1) 389) x4))).l]):q∈[A,B,(pk j x0 x1 x2 x3 x4).l]:=by
 rcases j with _|_|_|_|_<;>exact h
theorem own3 {α:Type} {a b c p:α} (h:p∈[a,b,c]):p∈[b,c]\/p∈[a]:=by
 simp at h⊢;rcases h with h|h|h<;>simp [h]
theorem acF_ok (w:World) (S SD D rl:Nat) (t1 t2 t3 t4:Nat) (po nf:Int) (tpo tnf nn:Nat) (xs:List Value) (m:Nat) (hlt:po<=nf) (hz:xs.length<=1000):(cAcF w.params S SD D rl t1 t2 t3 t4 po nf tpo tnf nn xs m).Ok (ktOf w.params) prg w 840 8700:=
 (actF_ok w S SD D rl t1 t2 t3 t4 po nf tpo tnf nn xs m hlt hz).re (λ_ ns=>{ns with z:=[]}) rfl rfl rfl rfl rfl rfl λas ns hk h=>⟨rfl,rfl,rfl,rfl,rfl,rfl⟩
section
variable (P:Params) (w:World) (x:Lx) (SD D rl hd t1 t2 t3 t4:Nat) (po:Int) (tpo tnf nn mr:Nat) (es:List (Int×Nat×Value)) (n:Nat) (x0 x1 x2 x3 x4:Nd) (j:J5) (t:Nat) (rf:Bool) (u u1:Nat) (hs:List Value) (hm:Nat) (cc:Bool) (rk:Nat) (rv:Value) (fn:Nat) (sl:Array (Option Value))
def rnt:Sp:={c:=rnC P x,z:=[(x.S+216,sO (SD+216)),(D+216,idO es n),(pk j x0 x1 x2 x3 x4).l],i:=[(x.c.fr+216,fob (rnE P x rf u u1 hd cc rk rv) fn sl),(hd+216,lo hs hm),(SD+216,sD P t1 t2 t3 t4 (D+216) (.ref (rl+216)) po tpo po tnf nn),(rl+216,lo [.int (pk j x0 x1 x2 x3 x4).k t] mr),x0.i,x1.i,x2.i,x3.i,x4.i],r:=λas ns=> .goto (rnC P x),v:=some (λas ns=>[fob (rnE P x rf u u1 hd true (aTk cc rk (ns.g 1)) (ns.w 0)) (aK cc fn) sl,lo (hs++[.int (pk j x0 x1 x2 x3 x4).k t]) (hm+1),sD P t1 t2 t3 t4 (D+216) (.ref (rl+216)) (po+1) (ns.g 2) (po+1) (ns.g 3) nn,ns.p 5,ns.p 0,ns.p 1,ns.p 2,ns.p 3,ns.p 4]),f:=λas ns=>dnR (set5 j (Nd.st (-2) 392) (pk j ((Nd.st (-1) 389) x0) x0 x0 x0 x0) (pk j x1 ((Nd.st (-1) 389) x1) x1 x1 x1) (pk j x2 x2 ((Nd.st (-1) 389) x2) x2 x2) (pk j x3 x3 x3 ((Nd.st (-1) 389) x3) x3) (pk j x4 x4 x4 x4 ((Nd.st (-1) 389) x4))) (pk j (pk j ((Nd.st (-1) 389) x0) x0 x0 x0 x0) (pk j x1 ((Nd.st (-1) 389) x1) x1 x1 x1) (pk j x2 x2 ((Nd.st (-1) 389) x2) x2 x2) (pk j x3 x3 x3 ((Nd.st (-1) 389) x3) x3) (pk j x4 x4 x4 x4 ((Nd.st (-1) 389) x4))).xs ns,ors:=[(λX=>(cAcF P x.S SD D rl t1 t2 t3 t4 po po tpo tnf nn [.int (pk j x0 x1 x2 x3 x4).k t] mr).owns [(SD+216,sD P t1 t2 t3 t4 (D+216) (.ref (rl+216)) po tpo po tnf nn),(rl+216,lo [.int (pk j x0 x1 x2 x3 x4).k t] mr)] [(x.S+216,sO (SD+216))],[2,3]),(λX=>(gr5 P x.S SD D rl t1 t2 t3 t4 po po tpo tnf nn mr es n x0 x1 x2 x3 x4 j t).ct,[2,3,4,5,6,7,8]),(λX=>ctAppend (hd+216) hs hm (.int (pk j x0 x1 x2 x3 x4).k t),[1]),(λX=>cFillT (X.a 11) (X.a 9) [.int (pk j x0 x1 x2 x3 x4).k t],[11,9]),(λX=>(dnf P x.S SD D rl t1 t2 t3 t4 (po+1) po ((X.s 2).g 1) tnf nn (mr+1) es n (pk j ((Nd.st (-1) 389) x0) x0 x0 x0 x0) (pk j x1 ((Nd.st (-1) 389) x1) x1 x1 x1) (pk j x2 x2 ((Nd.st (-1) 389) x2) x2 x2) (pk j x3 x3 x3 ((Nd.st (-1) 389) x3) x3) (pk j x4 x4 x4 x4 ((Nd.st (-1) 389) x4)) j t).ct,[2,3,4,5,6,7,8])],tt:=40,s:=3,m:=5,tr:=trD 80 0x2c02cc2810000000c0c30000000000c00000c0108a28a28a04208208128a281000041003c000000300000300000300400f0000000c00000c00000c01,cs:=[0,0,9,4,1,0],ns:=λ_ b N=>⟨[((N 4).t),(N 1).t,(N 1).g 1,(N 4).g 1],(N 4).o,[.ref ((b 0))],[]⟩}
theorem rnt_ok (hl:∀x∈[x0,x1,x2,x3,x4],iLook es x.k=some (.ref (x.a+216))) (hN:([x0,x1,x2,x3,x4].map (·.k)).Nodup) (hv:∀v∈(pk j x0 x1 x2 x3 x4).xs,∃q tq,v= .int q tq/\q∈[x0,x1,x2,x3,x4].map (·.k)) (hnd:((pk j x0 x1 x2 x3 x4).xs.map iv).Nodup) (hz:(pk j x0 x1 x2 x3 x4).xs.length<=900) (hh:hs.length<=1000):OK (rnt · x SD D rl hd t1 t2 t3 t4 po tpo tnf nn mr es n x0 x1 x2 x3 x4 j t rf u u1 hs hm cc rk rv fn sl) w 600 7500:=
 okF 5 (qY [0] (λ_=>((acF_ok w x.S SD D rl t1 t2 t3 t4 po po tpo tnf nn [.int (pk j x0 x1 x2 x3 x4).k t] mr (Int.le_refl _) (by simp)).owns (λ_ _ g=>g) _ _ (λp hp=>own3 hp)).m)<|qY [0,1] (λ_=>(gr5_ok w x.S SD D rl t1 t2 t3 t4 po po tpo tnf nn mr es n x0 x1 x2 x3 x4 j t (hl _ (pk_mem ..))).m)<|qN (λ_=>append_ok _ w _ _ _ _ _ _ hh)<|qN (λ_=>fillT_ok _ w _ _ _ _ _ (by simp))<|qC (λX hF=>λzq hzq=>(λ_ h=>zs_at _ h) _ hF zq (pkl j x0 x1 x2 x3 x4 hzq)) (λ_ _=>(dnf_ok w x.S SD D rl t1 t2 t3 t4 (po+1) po _ tnf nn (mr+1) es n (pk j ((Nd.st (-1) 389) x0) x0 x0 x0 x0) (pk j x1 ((Nd.st (-1) 389) x1) x1 x1 x1) (pk j x2 x2 ((Nd.st (-1) 389) x2) x2 x2) (pk j x3 x3 x3 ((Nd.st (-1) 389) x3) x3) (pk j x4 x4 x4 x4 ((Nd.st (-1) 389) x4)) j t (set5_look hl) (by show ((set5 j (Nd.st (-1) 389) x0 x1 x2 x3 x4).map (·.k)).Nodup;rw [set5_map j (Nd.st (-1) 389) _ _ _ _ _ (·.k) λ_=>rfl];exact hN) (by rcases j with _|_|_|_|_<;>exact hv) (by rcases j with _|_|_|_|_<;>exact hnd) (by rcases j with _|_|_|_|_<;>exact hz) (by rcases j with _|_|_|_|_<;>rfl)).m)<|trivial) (λh=>fq h 4 λf4=>f4) (e:=by cases cc<;>rcases j with _|_|_|_|_<;>kernel_rfl)
end
section
variable (P:Params) (w:World) (x:Lx) (SD D rl t1 t2 t3 t4:Nat) (po:Int) (tpo tnf nn mr:Nat) (rf:Bool) (u u1 hd:Nat) (cc:Bool) (rk:Nat) (rv:Value) (fn:Nat) (sl:Array (Option Value))
def rne:Sp:={c:=rnC P x,z:=[(x.S+216,sO (SD+216))],i:=[(x.c.fr+216,fob (rnE P x rf u u1 hd cc rk rv) fn sl),(SD+216,sD P t1 t2 t3 t4 (D+216) (.ref (rl+216)) po tpo po tnf nn),(rl+216,lo [] mr)],r:=λas ns=> .ret (.ok .next),ors:=[(λX=>(cAcF P x.S SD D rl t1 t2 t3 t4 po po tpo tnf nn [] mr).owns [(SD+216,sD P t1 t2 t3 t4 (D+216) (.ref (rl+216)) po tpo po tnf nn),(rl+216,lo [] mr)] [(x.S+216,sO (SD+216))],[1,2])],tt:=40,m:=1,tr:=trD 17 0xb0000000c00000c00000c01,cs:=[0],ns:=λ_ _ N=>⟨[((N 0).t)],[],[],[]⟩}
theorem rne_ok:OK (rne · x SD D rl t1 t2 t3 t4 po tpo tnf nn mr rf u u1 hd cc rk rv fn sl) w 600 7500:=
 okF 1 (qY [0] (λ_=>((acF_ok w x.S SD D rl t1 t2 t3 t4 po po tpo tnf nn [] mr (Int.le_refl _) (by simp)).owns (λ_ _ g=>g) _ _ (λp hp=>own3 hp)).m)<|trivial) (e:=by cases cc<;>kernel_rfl)
end
end
section
abbrev As:=List (Int×Int×List Int)
noncomputable def sucs (k:Int) (A:As):List Int:=((A.find? λy=>y.1==k).map (·.2.2)).getD []
noncomputable def outA (k:Int) (A:As):As:=A.map λy=>cond (y.1==k) (y.1,-2,y.2.2) y
noncomputable def decA (l:List Int) (A:As):As:=A.map λy=>cond (l.elem y.1) (y.1,y.2.1-1,y.2.2) y
def rnds:Nat->As->List Int->Option (List Int)
 |0,_,_=>none
 |_+1,_,[]=>some []
 |f+1,A,[k]=>(rnds f (decA (sucs k A) (outA k A)) ((sucs k A).filter λs=>(outA k A).any λy=>y.1==s&&y.2.1==1)).map (k::·)
 |_+1,_,_::_::_=>none
abbrev Rd:=Lx×Nat×Nat×Nat×Nat×Nat×Nat×Nat×Nat×Nat×(List (Int×Nat×Value))×Nat×Bool×Nat×Nat×(Array (Option Value))
noncomputable def Rd.x (x:Rd):Lx:=x.1
noncomputable def Rd.SD (x:Rd):Nat:=x.2.1
noncomputable def Rd.D (x:Rd):Nat:=x.2.2.1
noncomputable def Rd.hd (x:Rd):Nat:=x.2.2.2.1
noncomputable def Rd.rl (x:Rd):Nat:=x.2.2.2.2.1
noncomputable def Rd.t1 (x:Rd):Nat:=x.2.2.2.2.2.1
noncomputable def Rd.t2 (x:Rd):Nat:=x.2.2.2.2.2.2.1
noncomputable def Rd.t3 (x:Rd):Nat:=x.2.2.2.2.2.2.2.1
noncomputable def Rd.t4 (x:Rd):Nat:=x.2.2.2.2.2.2.2.2.1
noncomputable def Rd.nn (x:Rd):Nat:=x.2.2.2.2.2.2.2.2.2.1
noncomputable def Rd.es (x:Rd):List (Int×Nat×Value):=x.2.2.2.2.2.2.2.2.2.2.1
noncomputable def Rd.n (x:Rd):Nat:=x.2.2.2.2.2.2.2.2.2.2.2.1
noncomputable def Rd.rf (x:Rd):Bool:=x.2.2.2.2.2.2.2.2.2.2.2.2.1
noncomputable def Rd.u (x:Rd):Nat:=x.2.2.2.2.2.2.2.2.2.2.2.2.2.1
noncomputable def Rd.u1 (x:Rd):Nat:=x.2.2.2.2.2.2.2.2.2.2.2.2.2.2.1
noncomputable def Rd.sl (x:Rd):Array (Option Value):=x.2.2.2.2.2.2.2.2.2.2.2.2.2.2.2
def cRL (P:Params) (c:Rd) (x0 x1 x2 x3 x4:Nd) (po:Int) (tpo tnf mr:Nat) (rds hs:List Value) (hm:Nat) (cc:Bool) (rk:Nat) (rv:Value) (fn:Nat) (out:List Int):Ct:=
 {code:=rnC P c.x,hd:=some none,zpre:=(c.x.S+216,sO (c.SD+216))::(c.D+216,idO c.es c.n)::[x0.l,x1.l,x2.l,x3.l,x4.l],
  pre:=[(c.x.c.fr+216,fob (rnE P c.x c.rf c.u c.u1 c.hd cc rk rv) fn c.sl),(c.hd+216,lo hs hm),(c.SD+216,sD P c.t1 c.t2 c.t3 c.t4 (c.D+216) (.ref (c.rl+216)) po tpo po tnf c.nn),(c.rl+216,lo rds mr),x0.i,x1.i,x2.i,x3.i,x4.i],k:=0,fo:=λ_ _=> .ret (.ok .next),
  post:=λ_ ns=>fob (rnE P c.x c.rf c.u c.u1 c.hd (!rds.isEmpty||cc) (ns.n.getD 1 0) (ns.v.getD 0 .none)) (ns.n.getD 2 0) c.sl::lo (hs++ns.v.drop 1) (ns.n.getD 3 0)::ns.o,news:=λ_ _=>[],
  fact:=λ_ ns=>ns.z=[]/\ns.o.length=7/\IntsAre (ns.v.drop 1) out}
theorem dec_st (l:List Int) (τ:Int->Nat) (x:Nd):dec l τ x=Nd.st (cond (l.elem x.k) (x.np-1) x.np) (cond (l.elem x.k) (τ x.k) x.tn) x:=by
 unfold dec;cases l.elem x.k<;>rfl
abbrev N5:=Nd×Nd×Nd×Nd×Nd
noncomputable def N5.x0 (x:N5):Nd:=x.1
noncomputable def N5.x1 (x:N5):Nd:=x.2.1
noncomputable def N5.x2 (x:N5):Nd:=x.2.2.1
noncomputable def N5.x3 (x:N5):Nd:=x.2.2.2.1
noncomputable def N5.x4 (x:N5):Nd:=x.2.2.2.2
def N5.l (N:N5):List Nd:=[N.x0,N.x1,N.x2,N.x3,N.x4]
def N5.at (N:N5) (j:J5):Nd:=pk j N.x0 N.x1 N.x2 N.x3 N.x4
def N5.tn (N:N5) (j:J5):List Nd:=set5 j (Nd.st (-2) 392) (pk j (Nd.st (-1) 389 N.x0) N.x0 N.x0 N.x0 N.x0) (pk j N.x1 (Nd.st (-1) 389 N.x1) N.x1 N.x1 N.x1) (pk j N.x2 N.x2 (Nd.st (-1) 389 N.x2) N.x2 N.x2) (pk j N.x3 N.x3 N.x3 (Nd.st (-1) 389 N.x3) N.x3) (pk j N.x4 N.x4 N.x4 N.x4 (Nd.st (-1) 389 N.x4))
def ouF (k:Int) (y:Nd):Nd:=cond (y.k==k) (Nd.st (-2) 392 y) y
def Nd.as (f:Nd->Nd) (y:Nd):Nd:=Nd.st (f y).np (f y).tn y
def N5.re (N:N5) (f:Nd->Nd):N5:=⟨Nd.as f N.x0,Nd.as f N.x1,Nd.as f N.x2,Nd.as f N.x3,Nd.as f N.x4⟩
theorem set_k {l:List Nd} (h:(l.map (·.k)).Nodup) (k:Int) {i:Nat} {x:Nd} (hx:l[i]?=some x) (hk:x.k=k):l.set i (Nd.st (-2) 392 x)=l.map (ouF k):=by
 induction l generalizing i with
 |nil=>exact (nn hx).elim
 |cons a l ih=>
  rw [kQ,vX] at h;rw [kQ];unfold ouF;cases i with
  |zero=>
   obtain rfl:a=x:=kU hx;rw [hk,beq_self_eq_true];refine jk (_::·) (.trans (map_id' l).symm (jX λy hy=>?_));rw [kv.mpr (show y.k≠k from λe=>h.1 (by rw [hk,<-e];exact zW hy))];rfl
  |succ i=>
   rw [kv.mpr (show a.k≠k from λe=>h.1 (by rw [e,<-hk];exact zW (jy (i:=i) hx)))];exact jk (a::·) (ih h.2 hx)
theorem find_k {l:List Nd} (h:(l.map (·.k)).Nodup) {x:Nd} (hx:x∈l):l.find? (λy=>y.k==x.k)=some x:=by
 induction l with
 |nil=>cases hx
 |cons a l ih=>
  rw [kQ,vX] at h;rw [find?_cons];rcases vz.mp hx with rfl|hx
  ·rw [beq_self_eq_true]
  ·rw [kv.mpr (show a.k≠x.k from λe=>h.1 (by rw [e];exact zW hx))]
   exact ih h.2 hx
section
variable {N:N5} {j:J5} (h:(N.l.map (·.k)).Nodup)
include h
theorem N5.tn_eq:N.tn j=N.l.map (ouF (N.at j).k):=by
 rw [<-set_k h (N.at j).k (i:=pk j 0 1 2 3 4) (x:=N.at j) (by rcases j with _|_|_|_|_<;>rfl) rfl];rcases j with _|_|_|_|_<;>rfl
theorem N5.tn_dec (l:List Int) (τ:Int->Nat):(N.tn j).map (dec l τ)=(N.re (dec l τ∘ouF (N.at j).k)).l:=by
 rw [N5.tn_eq h,kW];refine jX (l:=N.l) (g:=Nd.as (dec l τ∘ouF (N.at j).k)) λy _=>?_;show dec l τ (cond (y.k==(N.at j).k) (Nd.st (-2) 392 y) y)=Nd.st (dec l τ (cond (y.k==(N.at j).k) (Nd.st (-2) 392 y) y)).np (dec l τ (cond (y.k==(N.at j).k) (Nd.st (-2) 392 y) y)).tn y;rw [dec_st];cases (y.k==(N.at j).k)<;>rfl
theorem outA_set:(N.tn j).map absF=outA (N.at j).k (N.l.map absF):=by
 rw [N5.tn_eq h];unfold outA;rw [kW,kW];refine jX λy _=>?_;show absF (cond (y.k==(N.at j).k) _ _)=cond (y.k==(N.at j).k) _ _;cases (y.k==(N.at j).k)<;>rfl
theorem sucs_pk:sucs (N.at j).k (N.l.map absF)=(N.at j).xs.map iv:=by
 unfold sucs;rw [find?_map,show ((λy=>y.1==(N.at j).k)∘absF)=λy:Nd=>y.k==(N.at j).k from rfl,find_k h (x:=N.at j) (pk_mem ..)];rfl
end
theorem decA_map (N:List Nd) (l:List Int) (τ:Int->Nat):(N.map (dec l τ)).map absF=decA l (N.map absF):=by
 unfold decA;rw [kW,kW];refine jX λx _=>?_;show absF (dec l τ x)=cond (l.elem x.k) (x.k,x.np-1,x.xs.map iv) (absF x);rw [dec_st];cases l.elem x.k<;>rfl
theorem rdN_abs (N:List Nd) (v:Value):rdN N v=(N.map absF).any λy=>y.1==iv v&&y.2.1==1:=by
 unfold rdN;rw [any_map];rfl
theorem pk_of {α:Type} {a b c d e q:α} (h:q∈[a,b,c,d,e]):∃j:J5,pk j a b c d e=q:=by
 simp only [vz,not_mem_nil,or_false] at h;rcases h with rfl|rfl|rfl|rfl|rfl
 ·exact ⟨none,rfl⟩
 ·exact ⟨some none,rfl⟩
 ·exact ⟨some (some none),rfl⟩
 ·exact ⟨some (some (some false)),rfl⟩
 ·exact ⟨some (some (some true)),rfl⟩
abbrev Rv:=N5×Int×Nat×Nat×Nat×(List Value)×(List Value)×Nat×Bool×Nat×Value×Nat
noncomputable def Rv.N (x:Rv):N5:=x.1
noncomputable def Rv.po (x:Rv):Int:=x.2.1
noncomputable def Rv.tpo (x:Rv):Nat:=x.2.2.1
noncomputable def Rv.tnf (x:Rv):Nat:=x.2.2.2.1
noncomputable def Rv.mr (x:Rv):Nat:=x.2.2.2.2.1
noncomputable def Rv.rds (x:Rv):List Value:=x.2.2.2.2.2.1
noncomputable def Rv.hs (x:Rv):List Value:=x.2.2.2.2.2.2.1
noncomputable def Rv.hm (x:Rv):Nat:=x.2.2.2.2.2.2.2.1
noncomputable def Rv.cc (x:Rv):Bool:=x.2.2.2.2.2.2.2.2.1
noncomputable def Rv.rk (x:Rv):Nat:=x.2.2.2.2.2.2.2.2.2.1
noncomputable def Rv.rv (x:Rv):Value:=x.2.2.2.2.2.2.2.2.2.2.1
noncomputable def Rv.fn (x:Rv):Nat:=x.2.2.2.2.2.2.2.2.2.2.2
def Rd.e (c:Rd) (P:Params) (v:Rv) (out:List Int):Ct:=cRL P c v.N.x0 v.N.x1 v.N.x2 v.N.x3 v.N.x4 v.po v.tpo v.tnf v.mr v.rds v.hs v.hm v.cc v.rk v.rv v.fn out
structure Nd.Rl (es:List (Int×Nat×Value)) (ks:List Int) (x:Nd):Prop where
 l:iLook es x.k=some (.ref (x.a+216))
 v:∀v∈x.xs,∃q tq,v= .int q tq/\q∈ks
 nd:(x.xs.map iv).Nodup
 z:x.xs.length<=900
structure Rd.H (c:Rd) (v:Rv) (f:Nat):Prop where
 x:∀x∈v.N.l,x.Rl c.es (v.N.l.map (·.k))
 nd:(v.N.l.map (·.k)).Nodup
 r:∀u∈v.rds,∃q tq,u= .int q tq/\q∈v.N.l.map (·.k)
 h:v.hs.length+f<=900
def Rd.dt (c:Rd) (P:Params) (v:Rv) (j:J5) (t:Nat):Ct:=(rnt P c.x c.SD c.D c.rl c.hd c.t1 c.t2 c.t3 c.t4 v.po v.tpo v.tnf c.nn v.mr c.es c.n v.N.x0 v.N.x1 v.N.x2 v.N.x3 v.N.x4 j t c.rf c.u c.u1 v.hs v.hm v.cc v.rk v.rv v.fn c.sl).ct
def Rv.nx (v:Rv) (M:N5) (k:Int) (t m:Nat) (rd:List Value) (ns:Ns):Rv:=⟨M,v.po+1,ns.n.getD 2 0,ns.n.getD 3 0,m,rd,v.hs++[.int k t],v.hm+1,true,aTk v.cc v.rk (ns.n.getD 1 0),ns.v.getD 0 .none,aK v.cc v.fn⟩
section
variable {c:Rd} {w:World} {v:Rv} {f:Nat} {tok:Nat} {out:List Int}
theorem Rd.end (hr:v.rds=[]):(c.e w.params v []).Fr w 600 7500 (c.e w.params v []).pre (c.e w.params v []).zpre (.goto (c.e w.params v []).code) tok:=by
 obtain ⟨N,po,tpo,tnf,mr,rds,hs,hm,cc,rk,rv,fn⟩:=v;cases hr;refine Ct.Fr.go (d:=(rne w.params c.x c.SD c.D c.rl c.t1 c.t2 c.t3 c.t4 po tpo tnf c.nn mr c.rf c.u c.u1 c.hd cc rk rv fn c.sl).ct) (R:=(c.hd+216,lo hs hm)::N.l.map Nd.i) (rne_ok w c.x c.SD c.D c.rl c.t1 c.t2 c.t3 c.t4 po tpo tnf c.nn mr c.rf c.u c.u1 c.hd cc rk rv fn c.sl) (λ_ e=>e) (λ_ e=>nomatch e) (jv _) (jv _) (.cons _ (perm_middle (l₁:=[_,_])).symm) (λp hp=>by rw [jJ.mp hp];exact .inl (zy ..)) λas ns E=>?_;obtain rfl:as=[]:=zV.mp E.k;refine Ct.Fr.fin (e:=c.e w.params ⟨N,po,tpo,tnf,mr,[],hs,hm,cc,rk,rv,fn⟩ []) [] ⟨[ns.n.headD 0,rk,fn,hm],[sD w.params c.t1 c.t2 c.t3 c.t4 (c.D+216) (.ref (c.rl+216)) po tpo po tnf c.nn,lo [] mr,N.x0.i.2,N.x1.i.2,N.x2.i.2,N.x3.i.2,N.x4.i.2],[rv],[]⟩ ?_ rfl rfl rfl ⟨rfl,rfl,.nil⟩ (λp hp=>nomatch hp);show Perm _ (_::(c.hd+216,lo (hs++[]) hm)::_);rw [jx];exact .cons _ (perm_middle (l₁:=[_,_]))
theorem Rd.turn (h:c.H v (f+1)) {j:J5} {t:Nat} (hr:v.rds=[.int (v.N.at j).k t]) (ih:∀y out,c.H y f->rnds f (y.N.l.map absF) (y.rds.map iv)=some out->(c.e w.params y out).Ok (ktOf w.params) prg w 600 7500)
  (hn:rnds f (decA (sucs (v.N.at j).k (v.N.l.map absF)) (outA (v.N.at j).k (v.N.l.map absF))) ((sucs (v.N.at j).k (v.N.l.map absF)).filter λs=>(outA (v.N.at j).k (v.N.l.map absF)).any λy=>y.1==s&&y.2.1==1)=some out):
  (c.e w.params v ((v.N.at j).k::out)).Fr w 600 7500 (c.e w.params v ((v.N.at j).k::out)).pre (c.e w.params v ((v.N.at j).k::out)).zpre (.goto (c.e w.params v ((v.N.at j).k::out)).code) tok:=by
 have hj:v.N.at j∈v.N.l:=pk_mem ..;have x:=h.x _ hj;have hh:=h.h;have pe:(c.e w.params v ((v.N.at j).k::out)).pre=(c.dt w.params v j t).pre:=by
  show [_,_,_,(_,lo v.rds _),_,_,_,_,_]=_;rw [hr];rfl
 refine Ct.Fr.go (d:=c.dt w.params v j t) (R:=[]) (rnt_ok w c.x c.SD c.D c.rl c.hd c.t1 c.t2 c.t3 c.t4 v.po v.tpo v.tnf c.nn v.mr c.es c.n v.N.x0 v.N.x1 v.N.x2 v.N.x3 v.N.x4 j t c.rf c.u c.u1 v.hs v.hm v.cc v.rk v.rv v.fn c.sl (λx hx=>(h.x x hx).l) h.nd x.v x.nd x.z (by lia)) (λ_ e=>e) (λ_ e=>nomatch e) (jv _) (jv _) (.of_eq (by rw [pe,jx])) (λp hp=> .inl ?_) λas ns E=>?_
 ·rcases vz.mp (show p∈[_,_,(v.N.at j).l] from hp) with rfl|hp
  ·exact zy ..
  ·rcases vz.mp hp with rfl|hp
   ·exact zv _ (zy ..)
   ·rw [jJ.mp hp]
    exact zv _ (zv _ (zW (f:=Nd.l) hj))
 ·obtain rfl:as=[]:=zV.mp E.k
  obtain ⟨τ,m,ho⟩:dnR (v.N.tn j) (v.N.at j).xs ns:=by
   have e:(pk j (pk j (Nd.st (-1) 389 v.N.x0) v.N.x0 v.N.x0 v.N.x0 v.N.x0) (pk j v.N.x1 (Nd.st (-1) 389 v.N.x1) v.N.x1 v.N.x1 v.N.x1) (pk j v.N.x2 v.N.x2 (Nd.st (-1) 389 v.N.x2) v.N.x2 v.N.x2) (pk j v.N.x3 v.N.x3 v.N.x3 (Nd.st (-1) 389 v.N.x3) v.N.x3) (pk j v.N.x4 v.N.x4 v.N.x4 v.N.x4 (Nd.st (-1) 389 v.N.x4))).xs=(v.N.at j).xs:=by rcases j with _|_|_|_|_<;>rfl
   exact e▸E.f
  have hd:=N5.tn_dec (j:=j) h.nd ((v.N.at j).xs.map iv) τ;have ha:=decA_map (v.N.tn j) ((v.N.at j).xs.map iv) τ;rw [outA_set h.nd,hd] at ha;rw [hd] at ho;generalize hM:v.N.re (dec ((v.N.at j).xs.map iv) τ∘ouF (v.N.at j).k)=M at ha ho;rw [<-sucs_pk h.nd] at ha;have hi:((v.N.at j).xs.filter (rdN (v.N.tn j))).map iv=(sucs (v.N.at j).k (v.N.l.map absF)).filter λs=>(outA (v.N.at j).k (v.N.l.map absF)).any λy=>y.1==s&&y.2.1==1:=by
   rw [sucs_pk h.nd,filter_map,<-outA_set h.nd];exact jk _ (filter_congr λv _=>rdN_abs _ v)
  rw [<-hi,<-ha] at hn;have hm:M.l.map (·.k)=v.N.l.map (·.k)/\M.l.map Nd.l=v.N.l.map Nd.l/\∀y∈M.l,y.Rl c.es (v.N.l.map (·.k)):=by
   subst hM;refine ⟨rfl,rfl,λy hy=>?_⟩;obtain ⟨z,hz,rfl⟩:∃z∈v.N.l,Nd.as _ z=y:=ky.mp hy;exact ⟨(h.x z hz).l,(h.x z hz).v,(h.x z hz).nd,(h.x z hz).z⟩
  have go:(c.dt w.params v j t).out [] ns []=(c.e w.params (v.nx M (v.N.at j).k t m ((v.N.at j).xs.filter (rdN (v.N.tn j))) ns) out).pre:=by
   subst hM;show [_,_,_,(_,ns.o.getD 5 default),(_,ns.o.getD 0 default),(_,ns.o.getD 1 default),(_,ns.o.getD 2 default),(_,ns.o.getD 3 default),(_,ns.o.getD 4 default)]=_;rw [ho];rfl
  rw [go];refine Ct.Fr.go (d:=c.e w.params (v.nx M (v.N.at j).k t m ((v.N.at j).xs.filter (rdN (v.N.tn j))) ns) out) (R:=[]) (ih _ _ ⟨hm.1▸hm.2.2,hm.1▸h.nd,λu hu=>hm.1▸x.v u (mem_filter.mp hu).1,by show (v.hs++[_]).length+f<=900;rw [jZ];show v.hs.length+1+f<=900;lia⟩ hn) (λ_ e=>e) (λ_ e=>nomatch e) (jv _) (jv _) (.of_eq (jx _).symm) (λp hp=> .inl ?_) λas n2 E2=>?_
  ·have hp:p∈_::_::M.l.map Nd.l:=hp
   rw [hm.2.1] at hp;exact hp
  ·obtain rfl:as=[]:=zV.mp E2.k
   obtain ⟨g1,g2,g3⟩:=E2.f;refine Ct.Fr.fin (e:=c.e w.params v ((v.N.at j).k::out)) [] ⟨n2.n,n2.o,n2.v.getD 0 .none:: .int (v.N.at j).k t::n2.v.drop 1,[]⟩ (.of_eq ?_) rfl (by show (_::_::n2.o).length=9;rw [jY,jY,g2]) rfl ⟨rfl,g2,.cons _ _ g3⟩ (λp hp=>nomatch hp);subst hM;show (_,fob (rnE w.params c.x c.rf c.u c.u1 c.hd (!((v.N.at j).xs.filter (rdN (v.N.tn j))).isEmpty||true) _ _) _ _)::(_,lo ((v.hs++[_])++n2.v.drop 1) _)::_=(_,fob (rnE w.params c.x c.rf c.u c.u1 c.hd (!v.rds.isEmpty||v.cc) _ _) _ _)::(_,lo (v.hs++(_::n2.v.drop 1)) _)::_;rw [hr,jV,Bool.or_true];rfl
end
theorem Rd.ok (c:Rd) (w:World):∀(f:Nat) (v:Rv) (out:List Int),c.H v f->rnds f (v.N.l.map absF) (v.rds.map iv)=some out->(c.e w.params v out).Ok (ktOf w.params) prg w 600 7500:=by
 intro f;induction f with
 |zero=>exact λv out h hn=>(Mine.nn hn).elim
 |succ f ih=>
  intro v out h hn;refine Ct.Fr.ok λtok=>?_;cases hr:v.rds with
  |nil=>
   rw [hr] at hn;obtain rfl:[]=out:=kU hn;exact Rd.end hr
  |cons u l=>
   cases l with
   |cons u2 l=>rw [hr] at hn;exact (Mine.nn hn).elim
   |nil=>
    obtain ⟨q,t,rfl,hq⟩:=h.r u (by rw [hr];exact zy ..);obtain ⟨y,hy,rfl⟩:=ky.mp hq;obtain ⟨j,rfl⟩:=pk_of hy;rw [hr] at hn;obtain ⟨out',h1,rfl⟩:=Option.map_eq_some_iff.mp hn;exact Rd.turn h hr ih h1
def cRD (P:Params) (c:Rd) (x0 x1 x2 x3 x4:Nd) (tpo tnf mr:Nat) (rds:List Value) (fn:Nat) (out:List Int) (zr:Bool):Ct:=
 {cRL P c x0 x1 x2 x3 x4 0 tpo tnf mr rds [] 0 false 0 .none fn out with
  post:=λ_ ns=>[fob (rnE P c.x c.rf c.u c.u1 c.hd (!zr) (ns.n.getD 1 0) (ns.v.getD 0 .none)) (ns.n.getD 2 0) c.sl,lo ([]++ns.v.drop 1) (ns.n.getD 3 0),ns.o.getD 0 default,ns.o.getD 1 default,ns.o.getD 2 default,ns.o.getD 3 default,ns.o.getD 4 default,ns.o.getD 5 default,ns.o.getD 6 default],fact:=λ_ ns=>ns.z=[]/\IntsAre (ns.v.drop 1) out}
theorem rd_ok (w:World) (c:Rd) (x0 x1 x2 x3 x4:Nd) (tpo tnf mr:Nat) (rds:List Value) (fn:Nat) (out:List Int) (zr:Bool) (hx:∀x∈[x0,x1,x2,x3,x4],x.Rl c.es ([x0,x1,x2,x3,x4].map (·.k))) (hN:([x0,x1,x2,x3,x4].map (·.k)).Nodup)
  (hr:∀v∈rds,∃q tq,v= .int q tq/\q∈[x0,x1,x2,x3,x4].map (·.k)) (h:rnds 9 ([x0,x1,x2,x3,x4].map absF) (rds.map iv)=some out) (hz:rds.isEmpty=zr):(cRD w.params c x0 x1 x2 x3 x4 tpo tnf mr rds fn out zr).Ok (ktOf w.params) prg w 600 7500:=by
 subst hz;refine (c.ok w 9 ⟨⟨x0,x1,x2,x3,x4⟩,0,tpo,tnf,mr,rds,[],0,false,0,.none,fn⟩ out ⟨hx,hN,hr,zx rfl⟩ h).re (λ_ ns=>ns) rfl rfl rfl rfl rfl rfl λas ns hk hf=>⟨?_,rfl,rfl,⟨hf.1,hf.2.2⟩,hf.1,rfl⟩
 show _=fob (rnE w.params c.x c.rf c.u c.u1 c.hd (!rds.isEmpty||false) _ _) _ _::_::ns.o;rw [Bool.or_false];exact jk (λl=>fob (rnE w.params c.x c.rf c.u c.u1 c.hd (!rds.isEmpty) _ _) _ _::lo ([]++ns.v.drop 1) _::l) (list7 hf.2.1).symm
end
def cIndex (f:Bool) (l:Nat) (xs:List Value) (n:Nat) (x:Int) (t:Nat) (j:Nat):Ct:=ctRd (.builtin "list.index" ⟨[.ref l,.int x t],[]⟩) f (l,lo xs n) (λt=> .int j t) 1
theorem index_ints {xs:List Value} {ns:List Int} (hI:IntsAre xs ns) (x:Int):xs.findIdx? (isV x)=ns.findIdx? (·==x):=by
 induction hI with
 |nil=>rfl
 |cons n t _ ih=>rw [findIdx?_cons,findIdx?_cons,ih];rfl
theorem index_ok (kt:KT) (w:World) (D U:Nat) (f:Bool) (l:Nat) (n:Nat) (x:Int) (t:Nat) {xs:List Value} {ns:List Int} {j:Nat} (hI:IntsAre xs ns) (hz:ns.length<=1000) (hj:ns.findIdx? (·==x)=some j):(cIndex f l xs n x t j).Ok kt prg w D U:=by
 rw [<-index_ints hI,findIdx?_eq_some_iff_getElem] at hj;obtain ⟨h1,h2,h3⟩:=hj;have hl:=hI.length;exact Ct.rd_meets (SeqAt.list_indexAt l ⟨xs⟩ n none #[] (.int x t) (isV x) j h1 (by lia) h2 (λm hm hmj=>by simpa using h3 m hmj)) F.entry_list_index (by decide+kernel) λA h gens dr tok os R hp hR=>
  ⟨hp,eqAt_int hI x t _ _,hR⟩
section
noncomputable def ifC:Stmt->PySem.Expr
 | .If (.BoolOp _ [_,.Compare e _ _ _] _) _ _ _=>e
 |_=>default
def kkE (P:Params):PySem.Expr:=ifC (sub 0 2 (stOf P 214 22))
def kkV (P:Params) (c:Lw) (cl:Nat):Env:=cenv P 214 (kkE P) cl (c.fr+216) [(stl [107,105,110,103,115],c.kc+216)] [108,97,119,46,60,108,111,99,97,108,115,62,46]
section
variable (P:Params) (w:World) (c:Lw) (it acc cl l kg:Nat) (ls ac ks:List Value) (ln na kn n2:Nat) (i:Int) (q:Int) (tq:Nat) (cc:Bool) (t0:Nat) (v0:Value)
def kkT:Sp:={c:= .compLoop (kkE P) 0 (.ref (it+216)) (.ref (acc+216)) (kkV P c (cl+216)),z:=[(l+216,lo ls ln),(c.kc+216,cellO (.ref (kg+216))),(kg+216,lo ks kn)],i:=[(it+216,li (l+216) i),(acc+216,lo ac na),(cl+216,axD P cc t0 v0 n2)],r:=λas ns=> .goto (.compLoop (kkE P) 0 (.ref (it+216)) (.ref (acc+216)) (kkV P c (cl+216))),u:=λas ns=>[(0,li (l+216) (i+1)),(1,lo (rowT true ac (.int q tq)) (rowN true na)),(2,axD P true (ns.g 1) (.int q tq) (ns.g 2))],ors:=[(λX=>cNext true (it+216) (l+216) ls ln i (.int q tq),[0]),(λX=>cContains true (kg+216) ks kn q tq true,[]),(λX=>ctAppend (acc+216) ac na (.int q tq),[1])],m:=3,tr:=trD 11 0x20f2cb2c430c3041,cs:=[1,1,1,0],ns:=λ_ _ N=>⟨[((N 2).t),aT cc t0 ((N 0).t),pN cc n2],[],[],[]⟩}
theorem kkT_ok (hv:ls[i.toNat]?=some (.int q tq)) {kl:List Int} (hI:IntsAre ks kl) (hr:kl.contains q=true) (hz:ac.length<=1000):OK (kkT · c it acc cl l kg ls ac ks ln na kn n2 i q tq cc t0 v0) w 720 8100:=
 okF 3 (qY [0] (λ_=>next_ok _ w _ _ true _ _ _ _ _ hv)<|qY [2] (λ_=>contains_ok _ w _ _ true _ _ _ _ hI hr)<|qN (λ_=>append_ok _ w _ _ _ _ _ _ hz)<|trivial) (e:=by cases cc<;>kernel_rfl)
def kkF:Sp:={c:= .compLoop (kkE P) 0 (.ref (it+216)) (.ref (acc+216)) (kkV P c (cl+216)),z:=[(l+216,lo ls ln),(c.kc+216,cellO (.ref (kg+216))),(kg+216,lo ks kn)],i:=[(it+216,li (l+216) i),(acc+216,lo ac na),(cl+216,axD P cc t0 v0 n2)],r:=λas ns=> .goto (.compLoop (kkE P) 0 (.ref (it+216)) (.ref (acc+216)) (kkV P c (cl+216))),u:=λas ns=>[(0,li (l+216) (i+1)),(1,lo (rowT false ac (.int q tq)) (rowN false na)),(2,axD P true (ns.g 1) (.int q tq) (ns.g 2))],ors:=[(λX=>cNext true (it+216) (l+216) ls ln i (.int q tq),[0]),(λX=>cContains true (kg+216) ks kn q tq false,[])],m:=2,tr:=trD 9 0x32cb2c430c3041,cs:=[1,1,0],ns:=λ_ _ N=>⟨[((N 1).t),aT cc t0 ((N 0).t),pN cc n2],[],[],[]⟩}
theorem kkF_ok (hv:ls[i.toNat]?=some (.int q tq)) {kl:List Int} (hI:IntsAre ks kl) (hr:kl.contains q=false) (hz:ac.length<=1000):OK (kkF · c it acc cl l kg ls ac ks ln na kn n2 i q tq cc t0 v0) w 720 8100:=
 okF 2 (qY [0] (λ_=>next_ok _ w _ _ true _ _ _ _ _ hv)<|qY [2] (λ_=>contains_ok _ w _ _ true _ _ _ _ hI hr)<|trivial) (e:=by cases cc<;>kernel_rfl)
end
section
variable (P:Params) (w:World) (c:Lw) (it acc cl l:Nat) (ls:List Value) (ln:Nat) (i:Int)
def kke:Sp:={c:= .compLoop (kkE P) 0 (.ref (it+216)) (.ref (acc+216)) (kkV P c (cl+216)),z:=[(l+216,lo ls ln)],i:=[(it+216,li (l+216) i)],r:=λas ns=> .ret (.ok .next),u:=λas ns=>[(0,liE i)],ors:=[(λX=>cNextE true (it+216) (l+216) ls ln i,[0])],s:=1,m:=1,tr:=[1,1,2],cs:=[1],ns:=λ_ _ N=>⟨[((N 0).t)],[],[],[]⟩}
theorem kke_ok (hv:ls[i.toNat]?=none):OK (kke · c it acc cl l ls ln i) w 720 8100:=
 okF 1 (qY [0] (λ_=>nextE_ok _ w _ _ true _ _ _ _ _ hv)<|trivial)
end
end
def cKK (P:Params) (c:Lw) (it acc cl l kg:Nat) (ls ks:List Value) (ln kn:Nat) (kl:List Int) (rest:List (Int×Nat)) (i na n2:Nat) (ac:List Value) (cc:Bool) (t0:Nat) (v0:Value):Ct:=
 {code:= .compLoop (kkE P) 0 (.ref (it+216)) (.ref (acc+216)) (kkV P c (cl+216)),hd:=some none,zpre:=[(l+216,lo ls ln),(c.kc+216,cellO (.ref (kg+216))),(kg+216,lo ks kn)],pre:=[(it+216,li (l+216) i),(acc+216,lo ac na),(cl+216,axD P cc t0 v0 n2)],k:=0,fo:=λ_ _=> .ret (.ok .next),
  post:=λ_ ns=>[liE ((i+rest.length:Nat):Int),lo (ac++ns.v.drop 1) (ns.n.getD 3 0),axD P (!rest.isEmpty||cc) (ns.n.getD 1 0) (ns.v.getD 0 .none) (ns.n.getD 2 0)],news:=λ_ _=>[],
  fact:=λ_ ns=>ns.z=[]/\IntsAre (ns.v.drop 1) ((rest.map (·.1)).filter kl.contains)}
theorem kk_ok (w:World) (c:Lw) (it acc cl l kg:Nat) (ls ks:List Value) (ln kn:Nat) (kl:List Int) (hI:IntsAre ks kl):∀(rest:List (Int×Nat)) (i na n2:Nat) (ac:List Value) (cc:Bool) (t0:Nat) (v0:Value),ls.drop i=rest.map vI->ac.length+rest.length<=1000->
  (cKK w.params c it acc cl l kg ls ks ln kn kl rest i na n2 ac cc t0 v0).Ok (ktOf w.params) prg w 720 8100:=by
 intro rest;induction rest with
 |nil=>
  intro i na n2 ac cc t0 v0 hi hz;have hv:ls[(i:Int).toNat]?=none:=by
   rw [jU];exact drop_eq_nil_iff.mp hi
  refine Ct.Ok.pad (kke_ok w c it acc cl l ls ln i hv) [0] (by decide) (lt_all (n:=3) rfl) rfl rfl rfl rfl (λp hp=>by rw [jJ.mp hp];exact zy ..) rfl λas ns hk hf=>?_;exact ⟨⟨[ns.n.headD 0,t0,n2,na],[],[v0],[]⟩,by show [_,lo (ac++[]) na,_]=_;rw [jx];rfl,rfl,rfl,⟨rfl,.nil⟩,rfl,rfl⟩
 |cons x rest ih=>
  intro i na n2 ac cc t0 v0 hi hz;obtain ⟨x,tx⟩:=x;have hv:ls[(i:Int).toNat]?=some (.int x tx):=by
   have:=jk (λl=>l[0]?) hi;rw [getElem?_drop] at this;exact this
  have hi':ls.drop (i+1)=rest.map vI:=by rw [<-drop_drop,hi];rfl
  rw [jY] at hz;have e1:((i+(rest.length+1):Nat):Int)=((i+1+rest.length:Nat):Int):=by lia
  cases hc:kl.contains x with
  |true=>
   refine Ct.Ok.seq (kkT_ok w c it acc cl l kg ls ac ks ln na kn n2 i x tx cc t0 v0 hv hI hc (by lia)) [0,1,2] (by decide) (lt_all (n:=3) rfl) rfl rfl rfl rfl (λp hp=>hp) rfl λns hf=>?_;refine ⟨_,cKK w.params c it acc cl l kg ls ks ln kn kl rest (i+1) (na+1) (ns.n.getD 2 0) (ac++[.int x tx]) true (ns.n.getD 1 0) (.int x tx),λm=>⟨m.n,m.o,m.v.getD 0 .none:: .int x tx::m.v.drop 1,[]⟩,rfl,ih _ _ _ _ _ _ _ hi' (by simp;lia),rfl,rfl,rfl,rfl,rfl,rfl,λas m hk hm=>⟨?_,rfl,rfl,⟨rfl,?_⟩,rfl,rfl⟩⟩
   ·show [liE ((i+(rest.length+1):Nat):Int),lo (ac++(_::m.v.drop 1)) _,axD w.params true _ _ _]=[liE ((i+1+rest.length:Nat):Int),lo ((ac++[_])++m.v.drop 1) _,axD w.params (!rest.isEmpty||true) _ _ _]
    rw [e1,Bool.or_true,jV];rfl
   ·rw [kQ,filter_cons_of_pos hc];exact .cons _ _ hm.2
  |false=>
   refine Ct.Ok.seq (kkF_ok w c it acc cl l kg ls ac ks ln na kn n2 i x tx cc t0 v0 hv hI hc (by lia)) [0,1,2] (by decide) (lt_all (n:=3) rfl) rfl rfl rfl rfl (λp hp=>hp) rfl λns hf=>?_;refine ⟨_,cKK w.params c it acc cl l kg ls ks ln kn kl rest (i+1) na (ns.n.getD 2 0) ac true (ns.n.getD 1 0) (.int x tx),λm=>⟨m.n,m.o,m.v,[]⟩,rfl,ih _ _ _ _ _ _ _ hi' (by lia),rfl,rfl,rfl,rfl,rfl,rfl,λas m hk hm=>⟨?_,rfl,rfl,⟨rfl,?_⟩,rfl,rfl⟩⟩
   ·show [liE ((i+(rest.length+1):Nat):Int),lo (ac++m.v.drop 1) _,axD w.params true _ _ _]=[liE ((i+1+rest.length:Nat):Int),lo (ac++m.v.drop 1) _,axD w.params (!rest.isEmpty||true) _ _ _]
    rw [e1,Bool.or_true]
   ·rw [kQ,filter_cons_of_neg (by rw [hc];exact kZ)];exact hm.2
def cKKn (P:Params) (c:Lw) (it acc cl l kg:Nat) (ks:List Value) (ln kn:Nat) (kl:List Int) (rest:List (Int×Nat)):Ct:=
 {cKK P c it acc cl l kg (rest.map vI) ks ln kn kl rest 0 0 0 [] false 0 .none with
  post:=λ_ ns=>[liE ((0+rest.length:Nat):Int),lo ([]++ns.v.drop 1) (ns.n.getD 3 0),axD P true (ns.n.getD 1 0) (ns.v.getD 0 .none) (ns.n.getD 2 0)]}
theorem kkn_ok (w:World) (c:Lw) (it acc cl l kg:Nat) (ks:List Value) (ln kn:Nat) {kl:List Int} (hI:IntsAre ks kl) (rest:List (Int×Nat)) (hr:rest≠[]) (hz:rest.length<=1000):(cKKn w.params c it acc cl l kg ks ln kn kl rest).Ok (ktOf w.params) prg w 720 8100:=by
 cases rest with
 |nil=>exact absurd rfl hr
 |cons x r=>exact kk_ok w c it acc cl l kg _ ks ln kn kl hI (x::r) 0 0 0 [] false 0 .none rfl (by show 0+_<=1000;lia)
def cmx (P:Params) (l:Nat) (x0 x1 x2 x3 x4:Int) (t0 t1 t2 t3 t4 n:Nat) (b1 b2 b3 b4:Bool):Sp:={c:= .builtin "max" ⟨[.ref l],[]⟩,z:=[(l,lo [.int x0 t0,.int x1 t1,.int x2 t2,.int x3 t3,.int x4 t4] n)],i:=[],r:=λas ns=> .ret (.ok (.ret (.int (cond b4 x4 (cond b3 x3 (cond b2 x2 (cond b1 x1 x0)))) (cond b4 t4 (cond b3 t3 (cond b2 t2 (cond b1 t1 t0))))))),ors:=[(λX=>cNext true (X.a 0) l [.int x0 t0,.int x1 t1,.int x2 t2,.int x3 t3,.int x4 t4] n 0 (.int x0 t0),[0]),(λX=>cNext true (X.a 0) l [.int x0 t0,.int x1 t1,.int x2 t2,.int x3 t3,.int x4 t4] n 1 (.int x1 t1),[0]),(λX=>iop "int.__gt__" x1 x0 t1 t0 b1,[]),(λX=>cNext true (X.a 0) l [.int x0 t0,.int x1 t1,.int x2 t2,.int x3 t3,.int x4 t4] n 2 (.int x2 t2),[0]),(λX=>iop "int.__gt__" x2 (cond b1 x1 x0) t2 (cond b1 t1 t0) b2,[]),(λX=>cNext true (X.a 0) l [.int x0 t0,.int x1 t1,.int x2 t2,.int x3 t3,.int x4 t4] n 3 (.int x3 t3),[0]),(λX=>iop "int.__gt__" x3 (cond b2 x2 (cond b1 x1 x0)) t3 (cond b2 t2 (cond b1 t1 t0)) b3,[]),(λX=>cNext true (X.a 0) l [.int x0 t0,.int x1 t1,.int x2 t2,.int x3 t3,.int x4 t4] n 4 (.int x4 t4),[0]),(λX=>iop "int.__gt__" x4 (cond b3 x3 (cond b2 x2 (cond b1 x1 x0))) t4 (cond b3 t3 (cond b2 t2 (cond b1 t1 t0))) b4,[]),(λX=>cNextE true (X.a 0) l [.int x0 t0,.int x1 t1,.int x2 t2,.int x3 t3,.int x4 t4] n 5,[0])],s:=3,m:=10,tr:=match b1,b2,b3,b4 with|false,false,false,false=>(trD 29 0x20820c1042041081042041081042082081042070c30)|false,false,false,true=>(trD 32 0x82083041082082041081042041081042082081042070c30)|false,false,true,false=>(trD 32 0x82083041081042082081042041081042082081042070c30)|false,false,true,true=>(trD 35 0x20820c1042082081042082081042041081042082081042070c30)|false,true,false,false=>(trD 32 0x82083041081042041082082041081042082081042070c30)|false,true,false,true=>(trD 35 0x20820c1042082081042041082082041081042082081042070c30)|false,true,true,false=>(trD 35 0x20820c1042041082082041082082041081042082081042070c30)|false,true,true,true=>(trD 38 0x82083041082082041082082041082082041081042082081042070c30)|true,false,false,false=>(trD 32 0x82083041081042041081042082081042082081042070c30)|true,false,false,true=>(trD 35 0x20820c1042082081042041081042082081042082081042070c30)|true,false,true,false=>(trD 35 0x20820c1042041082082041081042082081042082081042070c30)|true,false,true,true=>(trD 38 0x82083041082082041082082041081042082081042082081042070c30)|true,true,false,false=>(trD 35 0x20820c1042041081042082081042082081042082081042070c30)|true,true,false,true=>(trD 38 0x82083041082082041081042082081042082081042082081042070c30)|true,true,true,false=>(trD 38 0x82083041081042082081042082081042082081042082081042070c30)|true,true,true,true=>(trD 41 0x20820c1042082081042082081042082081042082081042082081042070c30),cs:=[4,2,0,2,0,2,0,2,0,2],ns:=λ_ _ N=>⟨[((N 9).t)],[],[],[]⟩}
theorem cmx_ok (w:World) (l:Nat) (x0 x1 x2 x3 x4:Int) (t0 t1 t2 t3 t4 n:Nat) (b1 b2 b3 b4:Bool) (h1:decide (x1>x0)=b1) (h2:decide (x2>(cond b1 x1 x0))=b2) (h3:decide (x3>(cond b2 x2 (cond b1 x1 x0)))=b3) (h4:decide (x4>(cond b3 x3 (cond b2 x2 (cond b1 x1 x0))))=b4):OK (cmx · l x0 x1 x2 x3 x4 t0 t1 t2 t3 t4 n b1 b2 b3 b4) w 840 8700:=
 okF 10 (qY [0] (λ_=>next_ok _ w _ _ true _ _ _ _ _ rfl)<|qY [0] (λ_=>next_ok _ w _ _ true _ _ _ _ _ rfl)<|qN (λ_=>(iop_gt w _ _ h1).m)<|qY [0] (λ_=>next_ok _ w _ _ true _ _ _ _ _ rfl)<|qN (λ_=>(iop_gt w _ _ h2).m)<|qY [0] (λ_=>next_ok _ w _ _ true _ _ _ _ _ rfl)<|qN (λ_=>(iop_gt w _ _ h3).m)<|qY [0] (λ_=>next_ok _ w _ _ true _ _ _ _ _ rfl)<|qN (λ_=>(iop_gt w _ _ h4).m)<|qY [0] (λ_=>nextE_ok _ w _ _ true _ _ _ _ _ rfl)<|trivial) (e:=by cases b1<;>cases b2<;>cases b3<;>cases b4<;>kernel_rfl)
section
def duE (P:Params) (x:Lx) (rf:Bool) (u u1 hd:Nat) (cc:Bool) (rk:Nat) (rv:Value) (ud du:Nat):List DictEntry:=rnE P x rf u u1 hd cc rk rv++[en P [100,117,101] ud (.ref (du+216))]
def duC (P:Params) (x:Lx) (it:Nat):Code:=forC (stOf P 214 15) (.ref (it+216)) (x.c.V P)
def du0 (P:Params) (x:Lx) (it tp:Nat) (rf:Bool) (u u1 hd rk:Nat) (rv:Value) (ud du fn:Nat) (sl:Array (Option Value)) (tt:Nat->Nat) (n:Nat) (ws:List Value) (wn:Nat) (j:Nat->Nat):Sp:={c:=duC P x it,z:=[(x.wn+216,lo ws wn),(tp+216,tu [.int 4 (tt 0),.int 3 (tt 1),.int 2 (tt 2),.int 1 (tt 3),.int 0 (tt 4)])],i:=[(x.c.fr+216,fob (duE P x rf u u1 hd false rk rv ud du) fn sl),(it+216,tiO (tp+216) 0),(du+216,lo [] n)],r:=λas ns=> .ret (.ok .next),u:=λas ns=>[(0,fob (duE P x rf u u1 hd false rk rv ud du++[en P [108,101,102,116] (ns.g 1) (.int 0 (tt 4))]) (fn+1) sl),(1,tiE 5),(2,lo ns.v (n+0))],f:=λas ns=>IntsAre ns.v [],ors:=[(λX=>cContains true (x.wn+216) ws wn 4 (tt 0) false,[])],tt:=40,s:=2,m:=1,tr:=trD 93 0x5082c420820810c30c1000041082c420820810c30c1000041082c420820810c30c1000041082c420820810c30c1000041082c420820b0c300410430c30400010420b1082082,cs:=[11],ns:=λtok _ N=>⟨[((N 0).t+1+1+1+1+1+1+1+1+1+1+1+1+1+1+1+1+1+1+1+1),tok],[],[],[]⟩}
theorem du0_ok (w:World) (x:Lx) (it tp:Nat) (rf:Bool) (u u1 hd rk:Nat) (rv:Value) (ud du fn:Nat) (sl:Array (Option Value)) (tt:Nat->Nat) (n:Nat) (ws:List Value) (wn:Nat) (j:Nat->Nat) {wi:List Int} (hI:IntsAre ws wi) (hw:wi.length<=1000) (hc0:wi.contains 4=false):OK (du0 · x it tp rf u u1 hd rk rv ud du fn sl tt n ws wn j) w 600 7500:=
 okF 1 (qY [0] (λ_=>contains_ok _ w _ _ true _ _ _ _ hI hc0)<|trivial) (λ_=> .nil)
section
variable (P:Params) (w:World) (x:Lx) (it tp:Nat) (rf:Bool) (u u1 hd rk:Nat) (rv:Value) (ud du fn:Nat) (sl:Array (Option Value)) (tt:Nat->Nat) (n:Nat) (ws:List Value) (wn:Nat) (j:Nat->Nat)
def du1:Sp:={c:=duC P x it,z:=[(x.wn+216,lo ws wn),(tp+216,tu [.int 4 (tt 0),.int 3 (tt 1),.int 2 (tt 2),.int 1 (tt 3),.int 0 (tt 4)])],i:=[(x.c.fr+216,fob (duE P x rf u u1 hd true rk rv ud du) fn sl),(it+216,tiO (tp+216) 0),(du+216,lo [] n)],r:=λas ns=> .ret (.ok .next),u:=λas ns=>[(0,fob (duE P x rf u u1 hd true rk rv ud du++[en P [108,101,102,116] (ns.g 1) (.int 0 (tt 4))]) (fn+1) sl),(1,tiE 5),(2,lo ns.v (n+1))],f:=λas ns=>IntsAre ns.v [((j 0:Nat):Int)],ors:=[(λX=>cContains true (x.wn+216) ws wn 4 (tt 0) true,[]),(λX=>cIndex true (x.wn+216) ws wn 4 (tt 0) (j 0),[]),(λX=>cContains true (x.wn+216) ws wn 3 (tt 1) false,[])],tt:=40,s:=2,m:=3,tr:=trD 114 0x1420b10820820430c30400010420b10820820430c30400010420b10820820430c30400010420b1082082c30c010410c30c1000041082c420820830c30f0070c30c010c30c3070c300410430c30400010420b1082082,cs:=[11,1,14],ns:=λtok _ N=>⟨[((N 2).t+1+1+1+1+1+1+1+1+1+1+1+1+1+1+1),tok],[],[.int (j 0) ((N 1).g 1)],[]⟩}
theorem du1_ok {wi:List Int} (hI:IntsAre ws wi) (hw:wi.length<=1000) (hc0:wi.contains 4=true) (hj0:wi.findIdx? (·==4)=some (j 0)) (hc1:wi.contains 3=false):OK (du1 · x it tp rf u u1 hd rk rv ud du fn sl tt n ws wn j) w 600 7500:=
 okF 3 (qY [0] (λ_=>contains_ok _ w _ _ true _ _ _ _ hI hc0)<|qY [0] (λ_=>index_ok _ w _ _ true _ _ _ _ hI hw hj0)<|qY [0] (λ_=>contains_ok _ w _ _ true _ _ _ _ hI hc1)<|trivial) (λ{tok sup nss} _=>(.cons _ _ .nil))
def du2:Sp:={c:=duC P x it,z:=[(x.wn+216,lo ws wn),(tp+216,tu [.int 4 (tt 0),.int 3 (tt 1),.int 2 (tt 2),.int 1 (tt 3),.int 0 (tt 4)])],i:=[(x.c.fr+216,fob (duE P x rf u u1 hd true rk rv ud du) fn sl),(it+216,tiO (tp+216) 0),(du+216,lo [] n)],r:=λas ns=> .ret (.ok .next),u:=λas ns=>[(0,fob (duE P x rf u u1 hd true rk rv ud du++[en P [108,101,102,116] (ns.g 1) (.int 0 (tt 4))]) (fn+1) sl),(1,tiE 5),(2,lo ns.v (n+2))],f:=λas ns=>IntsAre ns.v [((j 0:Nat):Int),((j 1:Nat):Int)],ors:=[(λX=>cContains true (x.wn+216) ws wn 4 (tt 0) true,[]),(λX=>cIndex true (x.wn+216) ws wn 4 (tt 0) (j 0),[]),(λX=>cContains true (x.wn+216) ws wn 3 (tt 1) true,[]),(λX=>cIndex true (x.wn+216) ws wn 3 (tt 1) (j 1),[]),(λX=>cContains true (x.wn+216) ws wn 2 (tt 2) false,[])],tt:=40,s:=2,m:=5,tr:=trD 135 0x5082c420820810c30c1000041082c420820810c30c1000041082c420820b0c300410430c30400010420b10820820c30c3c01c30c300430c30c1c30c010410c30c1000041082c420820830c30f0070c30c010c30c3070c300410430c30400010420b1082082,cs:=[11,1,14,1,14],ns:=λtok _ N=>⟨[((N 4).t+1+1+1+1+1+1+1+1+1+1),tok],[],[.int (j 0) ((N 1).g 1),.int (j 1) ((N 3).g 1)],[]⟩}
theorem du2_ok {wi:List Int} (hI:IntsAre ws wi) (hw:wi.length<=1000) (hc0:wi.contains 4=true) (hj0:wi.findIdx? (·==4)=some (j 0)) (hc1:wi.contains 3=true) (hj1:wi.findIdx? (·==3)=some (j 1)) (hc2:wi.contains 2=false):OK (du2 · x it tp rf u u1 hd rk rv ud du fn sl tt n ws wn j) w 600 7500:=
 okF 5 (qY [0] (λ_=>contains_ok _ w _ _ true _ _ _ _ hI hc0)<|qY [0] (λ_=>index_ok _ w _ _ true _ _ _ _ hI hw hj0)<|qY [0] (λ_=>contains_ok _ w _ _ true _ _ _ _ hI hc1)<|qY [0] (λ_=>index_ok _ w _ _ true _ _ _ _ hI hw hj1)<|qY [0] (λ_=>contains_ok _ w _ _ true _ _ _ _ hI hc2)<|trivial) (λ{tok sup nss} _=>(.cons _ _ (.cons _ _ .nil)))
def du5:Sp:={c:=duC P x it,z:=[(x.wn+216,lo ws wn),(tp+216,tu [.int 4 (tt 0),.int 3 (tt 1),.int 2 (tt 2),.int 1 (tt 3),.int 0 (tt 4)])],i:=[(x.c.fr+216,fob (duE P x rf u u1 hd true rk rv ud du) fn sl),(it+216,tiO (tp+216) 0),(du+216,lo [] n)],r:=λas ns=> .ret (.ok .next),u:=λas ns=>[(0,fob (duE P x rf u u1 hd true rk rv ud du++[en P [108,101,102,116] (ns.g 1) (.int 0 (tt 4))]) (fn+1) sl),(1,tiE 5),(2,lo ns.v (n+5))],f:=λas ns=>IntsAre ns.v [((j 0:Nat):Int),((j 1:Nat):Int),((j 2:Nat):Int),((j 3:Nat):Int),((j 4:Nat):Int)],ors:=[(λX=>cContains true (x.wn+216) ws wn 4 (tt 0) true,[]),(λX=>cIndex true (x.wn+216) ws wn 4 (tt 0) (j 0),[]),(λX=>cContains true (x.wn+216) ws wn 3 (tt 1) true,[]),(λX=>cIndex true (x.wn+216) ws wn 3 (tt 1) (j 1),[]),(λX=>cContains true (x.wn+216) ws wn 2 (tt 2) true,[]),(λX=>cIndex true (x.wn+216) ws wn 2 (tt 2) (j 2),[]),(λX=>cContains true (x.wn+216) ws wn 1 (tt 3) true,[]),(λX=>cIndex true (x.wn+216) ws wn 1 (tt 3) (j 3),[]),(λX=>cContains true (x.wn+216) ws wn 0 (tt 4) true,[]),(λX=>cIndex true (x.wn+216) ws wn 0 (tt 4) (j 4),[])],tt:=40,s:=2,m:=10,tr:=trD 193 0x5082c420820830c30f0070c30c010c30c3070c300410430c30400010420b10820820c30c3c01c30c300430c30c1c30c010410c30c1000041082c420820830c30f0070c30c010c30c3070c300410430c30400010420b10820820c30c3c01c30c300430c30c1c30c010410c30c1000041082c420820830c30f0070c30c010c30c3070c300410430c30400010420b1082082,cs:=[11,1,14,1,14,1,14,1,14,1],ns:=λtok _ N=>⟨[((N 9).t),tok],[],[.int (j 0) ((N 1).g 1),.int (j 1) ((N 3).g 1),.int (j 2) ((N 5).g 1),.int (j 3) ((N 7).g 1),.int (j 4) ((N 9).g 1)],[]⟩}
theorem du5_ok {wi:List Int} (hI:IntsAre ws wi) (hw:wi.length<=1000) (hc0:wi.contains 4=true) (hj0:wi.findIdx? (·==4)=some (j 0)) (hc1:wi.contains 3=true) (hj1:wi.findIdx? (·==3)=some (j 1)) (hc2:wi.contains 2=true) (hj2:wi.findIdx? (·==2)=some (j 2)) (hc3:wi.contains 1=true) (hj3:wi.findIdx? (·==1)=some (j 3)) (hc4:wi.contains 0=true) (hj4:wi.findIdx? (·==0)=some (j 4)):OK (du5 · x it tp rf u u1 hd rk rv ud du fn sl tt n ws wn j) w 600 7500:=
 okF 10 (qY [0] (λ_=>contains_ok _ w _ _ true _ _ _ _ hI hc0)<|qY [0] (λ_=>index_ok _ w _ _ true _ _ _ _ hI hw hj0)<|qY [0] (λ_=>contains_ok _ w _ _ true _ _ _ _ hI hc1)<|qY [0] (λ_=>index_ok _ w _ _ true _ _ _ _ hI hw hj1)<|qY [0] (λ_=>contains_ok _ w _ _ true _ _ _ _ hI hc2)<|qY [0] (λ_=>index_ok _ w _ _ true _ _ _ _ hI hw hj2)<|qY [0] (λ_=>contains_ok _ w _ _ true _ _ _ _ hI hc3)<|qY [0] (λ_=>index_ok _ w _ _ true _ _ _ _ hI hw hj3)<|qY [0] (λ_=>contains_ok _ w _ _ true _ _ _ _ hI hc4)<|qY [0] (λ_=>index_ok _ w _ _ true _ _ _ _ hI hw hj4)<|trivial) (λ{tok sup nss} _=>(.cons _ _ (.cons _ _ (.cons _ _ (.cons _ _ (.cons _ _ .nil))))))
end
end
section
noncomputable def wvL (wv:Nat->Int) (wt:Nat->Nat):List Value:=[.int (wv 0) (wt 0),.int (wv 1) (wt 1),.int (wv 2) (wt 2),.int (wv 3) (wt 3),.int (wv 4) (wt 4)]
noncomputable def mxR (x:Nat->Int):Nat->Int
 |0=>x 0
 |i+1=>cond (decide (x (i+1)>mxR x i)) (x (i+1)) (mxR x i)
def mxT (x:Nat->Int) (t:Nat->Nat):Nat->Nat
 |0=>t 0
 |i+1=>cond (decide (x (i+1)>mxR x i)) (t (i+1)) (mxT x t i)
def cMx (P:Params) (l:Nat) (wv:Nat->Int) (wt:Nat->Nat) (n:Nat):Ct:=
 {(cmx P l (wv 0) (wv 1) (wv 2) (wv 3) (wv 4) (wt 0) (wt 1) (wt 2) (wt 3) (wt 4) n (decide (wv 1>mxR wv 0)) (decide (wv 2>mxR wv 1)) (decide (wv 3>mxR wv 2)) (decide (wv 4>mxR wv 3))).ct with fo:=λ_ _=> .ret (.ok (.ret (.int (mxR wv 4) (mxT wv wt 4))))}
def lsE (P:Params) (x:Lx) (rf:Bool) (u u1 hd:Nat) (cc:Bool) (rk:Nat) (rv:Value) (ud du lk:Nat) (lv:Value) (uo od:Nat) (ac:Bool) (ak:Nat) (av:Value):List DictEntry:=duE P x rf u u1 hd cc rk rv ud du++en P [108,101,102,116] lk lv::en P [111,114,100,101,114,115] uo (.ref (od+216))::(match ac with|true=>[en P [97,104,101,97,100] ak av]|false=>[])
def ltC (P:Params) (c:Lw) (it:Nat):Code:=forC (stOf P 214 22) (.ref (it+216)) (c.V P)
theorem own1 {α:Type} {a b c p:α} (h:p∈[a,b,c]):p=a\/p∈[b,c]:=vz.mp h
theorem selP_len (τ:Nat->Nat) (L:List Nat):(selP L τ).length=L.length:=by unfold selP;simp
theorem sel_ne0 (τ:Nat->Nat) {L:List Nat} (h:L≠[]):selP L τ≠[]:=λe=>h (map_eq_nil_iff.mp e)
theorem mx_ok (w:World) (l:Nat) (wv:Nat->Int) (wt:Nat->Nat) (n:Nat):(cMx w.params l wv wt n).Ok (ktOf w.params) prg w 840 8700:=
 cmx_ok w l (wv 0) (wv 1) (wv 2) (wv 3) (wv 4) (wt 0) (wt 1) (wt 2) (wt 3) (wt 4) n _ _ _ _ rfl rfl rfl rfl
theorem wv_at {wv:Nat->Int} {wt:Nat->Nat} {p:Nat} (h:p<5):(wvL wv wt)[((p:Nat):Int).toNat]?=some (.int (wv p) (wt p)):=by
 rw [Int.toNat_natCast];have:p=0\/p=1\/p=2\/p=3\/p=4:=by lia
 rcases this with rfl|rfl|rfl|rfl|rfl<;>rfl
theorem selP_ints (τ:Nat->Nat):∀L:List Nat,IntsAre ((selP L τ).map vI) (L.map λq=>((q:Nat):Int))
 |[]=> .nil
 |q::L=> .cons _ _ (selP_ints τ L)
theorem selP_fst (τ:Nat->Nat) (L:List Nat):(selP L τ).map (·.1)=L.map λq=>((q:Nat):Int):=by
 unfold selP;rw [kW];rfl
section
variable (P:Params) (w:World) (x:Lx) (it bt r0 r1 r2 r3 r4 kg:Nat) (rf:Bool) (u u1 hd:Nat) (cc:Bool) (rk:Nat) (rv:Value) (ud du lk:Nat) (lv:Value) (uo od:Nat) (ac:Bool) (ak:Nat) (av:Value) (fn:Nat) (sl:Array (Option Value)) (pv:Option Value) (p l nb n0 n1 n2 n3 n4 nw kn:Nat) (a0 a1 a2 a3 a4 ks:List Value) (wv:Nat->Int) (wt:Nat->Nat) (e:Nat->Bool) (L:List Nat) (kl:List Int)
def lta:Sp:={c:=ltC P x.c it,z:=[(x.wn+216,lo (wvL wv wt) nw),(x.c.kc+216,cellO (.ref (kg+216))),(kg+216,lo ks kn)],i:=[(x.c.fr+216,fob (lsE P x rf u u1 hd cc rk rv ud du lk lv uo od ac ak av) fn sl),(it+216,ri (p:Int) ((l+1:Nat):Int)),(x.c.pc+216,cellN pv),(x.c.bc+216,cellO (.ref (bt+216))),(bt+216,lo [.ref (r0+216),.ref (r1+216),.ref (r2+216),.ref (r3+216),.ref (r4+216)] nb),(r0+216,lo a0 n0),(r1+216,lo a1 n1),(r2+216,lo a2 n2),(r3+216,lo a3 n3),(r4+216,lo a4 n4)],r:=λas ns=> .goto (ltC P x.c it),u:=λas ns=>[(0,fob (lsE P x rf u u1 hd cc rk rv ud du lk lv uo od true (aTk ac ak (ns.g 1)) (ns.w 0)) (aK ac fn) sl),(1,ri ((p:Int)+1) (((l+1:Nat):Int)-1)),(2,cellN (some (.int (p:Int) (ns.g 2))))],ors:=[(λX=>cItem true (x.wn+216) (wvL wv wt) nw (p:Int) (X.t 0) (.int (wv p) (wt p)),[]),(λX=>cMx P (x.wn+216) wv wt nw,[]),(λX=>iop "int.__eq__" (wv p) (mxR wv 4) (wt p) (mxT wv wt 4) true,[]),(λX=>cContains true (kg+216) ks kn (p:Int) (X.t 0) true,[]),(λX=>cXC P x.c (X.b 11) (X.b 12) (X.b 13) bt p (X.t 0) r0 r1 r2 r3 r4 nb n0 n1 n2 n3 n4 a0 a1 a2 a3 a4 true e L,[11,12,13,2,3,4,5,6,7,8,9]),(λX=>cLNe false false (X.a 12) (X.a 14) ((selP L (λq=>(X.s 5).g (q+3))).map vI) [] (selN e) 0 true,[12,14]),(λX=>(cKKn P x.c (X.b 15) (X.b 16) (X.b 17) (X.b 12) kg ks (selN e) kn kl (selP L (λq=>(X.s 5).g (q+3)))).own (X.b 12+216,lo ((selP L (λq=>(X.s 5).g (q+3))).map vI) (selN e)) [(x.c.kc+216,cellO (.ref (kg+216))),(kg+216,lo ks kn)],[12,15,16,17]),(λX=>cLEq false false (X.a 16) (X.a 18) ([]++(X.s 7).v.drop 1) [] ((X.s 7).g 3) 0 false,[16,18])],tt:=40,s:=9,m:=8,tr:=trD 62 0x4514d149249040d34d04d34f34138e38104c30b2cb2cb2cb2cb2c0032cb2c43040030c30c030430c2082082082082,cs:=[3,1,0,1,9,1,3,1,0],ns:=λtok b N=>⟨[((N 7).t),(N 4).t,tok],[],[.ref ((b 2))],[]⟩}
theorem lta_ok (hp:p<5) (hm:(wv p==mxR wv 4)=true) (hK:IntsAre ks kl) (ro:Nat->List Int) (hI0:IntsAre a0 (ro 0)) (hI1:IntsAre a1 (ro 1)) (hI2:IntsAre a2 (ro 2)) (hI3:IntsAre a3 (ro 3)) (hI4:IntsAre a4 (ro 4)) (he:∀q,q<5->(ro q).contains (p:Int)=e q) (hL:selI e=L) (hn:(!decide ((L.map λq=>((q:Nat):Int))=[]))=true) (hk:kl.contains (p:Int)=true) (hl0:L≠[]) (hl:L.length<=5) (hq:decide ((L.map λq=>((q:Nat):Int)).filter kl.contains=[])=false):OK (lta · x it bt r0 r1 r2 r3 r4 kg rf u u1 hd cc rk rv ud du lk lv uo od ac ak av fn sl pv p l nb n0 n1 n2 n3 n4 nw kn a0 a1 a2 a3 a4 ks wv wt e L kl) w 600 7500:=
 okF 8 (qY [0] (λ_=>item_ok _ w _ _ true _ _ _ _ _ (kJ _) (by lia) (wv_at hp))<|qY [0] (λ_=>(mx_ok w _ _ _ _).m)<|qN (λ_=>(iop_eq w _ _ hm).m)<|qY [2] (λ_=>contains_ok _ w _ _ true _ _ _ _ hK hk)<|qN (λX=>(xc_ok w x.c (X.b 11) (X.b 12) (X.b 13) bt p (X.t 0) r0 r1 r2 r3 r4 nb n0 n1 n2 n3 n4 a0 a1 a2 a3 a4 true e L hL ro hI0 hI1 hI2 hI3 hI4 he).m)<|qN (λ_=>lne_ok _ w _ _ (by decide) _ _ _ _ _ _ (selP_ints _ L) .nil hn)<|qY [1,2] (λX=>Ct.Ok.mono (D':=600+60) (U':=7500+300) ((kkn_ok w x.c _ _ _ _ kg ks _ kn hK (selP L (λq=>(X.s 5).g (q+3))) (sel_ne0 _ hl0) (zZ (Nat.le_of_eq (selP_len ..)) (zZ hl (by decide)))).own (λp hp=>own1 hp) (λ_ _ g=>g.1)) (by decide) (by decide))<|qI (λ_ hF=>fq hF 6 λf6=>leq_ok _ w _ _ (by decide) _ _ _ _ _ _ f6.2 .nil (by rw [selP_fst];exact hq))<|trivial) (e:=by cases cc<;>cases ac<;>kernel_rfl)
end
section
variable (P:Params) (w:World) (x:Lx) (it bt r0 r1 r2 r3 r4 kg:Nat) (rf:Bool) (u u1 hd:Nat) (cc:Bool) (rk:Nat) (rv:Value) (ud du lk:Nat) (lv:Value) (uo od:Nat) (ac:Bool) (ak:Nat) (av:Value) (fn:Nat) (sl:Array (Option Value)) (pv:Option Value) (p l nb n0 n1 n2 n3 n4 nw kn:Nat) (a0 a1 a2 a3 a4 ks:List Value) (wv:Nat->Int) (wt:Nat->Nat) (e:Nat->Bool) (L:List Nat)
def ltb:Sp:={c:=ltC P x.c it,z:=[(x.wn+216,lo (wvL wv wt) nw),(x.c.kc+216,cellO (.ref (kg+216))),(kg+216,lo ks kn)],i:=[(x.c.fr+216,fob (lsE P x rf u u1 hd cc rk rv ud du lk lv uo od ac ak av) fn sl),(it+216,ri (p:Int) ((l+1:Nat):Int)),(x.c.pc+216,cellN pv),(x.c.bc+216,cellO (.ref (bt+216))),(bt+216,lo [.ref (r0+216),.ref (r1+216),.ref (r2+216),.ref (r3+216),.ref (r4+216)] nb),(r0+216,lo a0 n0),(r1+216,lo a1 n1),(r2+216,lo a2 n2),(r3+216,lo a3 n3),(r4+216,lo a4 n4)],r:=λas ns=> .goto (ltC P x.c it),u:=λas ns=>[(0,fob (lsE P x rf u u1 hd cc rk rv ud du lk lv uo od true (aTk ac ak (ns.g 1)) (ns.w 0)) (aK ac fn) sl),(1,ri ((p:Int)+1) (((l+1:Nat):Int)-1)),(2,cellN (some (.int (p:Int) (ns.g 2))))],ors:=[(λX=>cItem true (x.wn+216) (wvL wv wt) nw (p:Int) (X.t 0) (.int (wv p) (wt p)),[]),(λX=>cMx P (x.wn+216) wv wt nw,[]),(λX=>iop "int.__eq__" (wv p) (mxR wv 4) (wt p) (mxT wv wt 4) true,[]),(λX=>cContains true (kg+216) ks kn (p:Int) (X.t 0) true,[]),(λX=>cXC P x.c (X.b 11) (X.b 12) (X.b 13) bt p (X.t 0) r0 r1 r2 r3 r4 nb n0 n1 n2 n3 n4 a0 a1 a2 a3 a4 true e L,[11,12,13,2,3,4,5,6,7,8,9]),(λX=>cLNe false false (X.a 12) (X.a 14) ((selP L (λq=>(X.s 5).g (q+3))).map vI) [] (selN e) 0 false,[12,14])],tt:=40,s:=5,m:=6,tr:=trD 49 0xd34f34138e38104c30b2cb2cb2cb2cb2c0032cb2c43040030c30c030430c2082082082082,cs:=[3,1,0,1,9,1,0],ns:=λtok b N=>⟨[((N 5).t),(N 4).t,tok],[],[.ref ((b 2))],[]⟩}
theorem ltb_ok (hp:p<5) (hm:(wv p==mxR wv 4)=true) {kl:List Int} (hK:IntsAre ks kl) (ro:Nat->List Int) (hI0:IntsAre a0 (ro 0)) (hI1:IntsAre a1 (ro 1)) (hI2:IntsAre a2 (ro 2)) (hI3:IntsAre a3 (ro 3)) (hI4:IntsAre a4 (ro 4)) (he:∀q,q<5->(ro q).contains (p:Int)=e q) (hL:selI e=L) (hn:(!decide ((L.map λq=>((q:Nat):Int))=[]))=false) (hk:kl.contains (p:Int)=true):OK (ltb · x it bt r0 r1 r2 r3 r4 kg rf u u1 hd cc rk rv ud du lk lv uo od ac ak av fn sl pv p l nb n0 n1 n2 n3 n4 nw kn a0 a1 a2 a3 a4 ks wv wt e L) w 600 7500:=
 okF 6 (qY [0] (λ_=>item_ok _ w _ _ true _ _ _ _ _ (kJ _) (by lia) (wv_at hp))<|qY [0] (λ_=>(mx_ok w _ _ _ _).m)<|qN (λ_=>(iop_eq w _ _ hm).m)<|qY [2] (λ_=>contains_ok _ w _ _ true _ _ _ _ hK hk)<|qN (λX=>(xc_ok w x.c (X.b 11) (X.b 12) (X.b 13) bt p (X.t 0) r0 r1 r2 r3 r4 nb n0 n1 n2 n3 n4 a0 a1 a2 a3 a4 true e L hL ro hI0 hI1 hI2 hI3 hI4 he).m)<|qN (λ_=>lne_ok _ w _ _ (by decide) _ _ _ _ _ _ (selP_ints _ L) .nil hn)<|trivial) (e:=by cases cc<;>cases ac<;>kernel_rfl)
end
section
variable (P:Params) (w:World) (x:Lx) (it bt r0 r1 r2 r3 r4 kg:Nat) (rf:Bool) (u u1 hd:Nat) (cc:Bool) (rk:Nat) (rv:Value) (ud du lk:Nat) (lv:Value) (uo od:Nat) (ac:Bool) (ak:Nat) (av:Value) (fn:Nat) (sl:Array (Option Value)) (pv:Option Value) (p l nb n0 n1 n2 n3 n4 nw kn:Nat) (a0 a1 a2 a3 a4 ks:List Value) (wv:Nat->Int) (wt:Nat->Nat) (e:Nat->Bool) (L:List Nat) (kl:List Int)
def ltc:Sp:={c:=ltC P x.c it,z:=[(x.wn+216,lo (wvL wv wt) nw),(x.c.kc+216,cellO (.ref (kg+216))),(kg+216,lo ks kn)],i:=[(x.c.fr+216,fob (lsE P x rf u u1 hd cc rk rv ud du lk lv uo od ac ak av) fn sl),(it+216,ri (p:Int) ((l+1:Nat):Int)),(x.c.pc+216,cellN pv),(x.c.bc+216,cellO (.ref (bt+216))),(bt+216,lo [.ref (r0+216),.ref (r1+216),.ref (r2+216),.ref (r3+216),.ref (r4+216)] nb),(r0+216,lo a0 n0),(r1+216,lo a1 n1),(r2+216,lo a2 n2),(r3+216,lo a3 n3),(r4+216,lo a4 n4)],r:=λas ns=> .goto (ltC P x.c it),u:=λas ns=>[(0,fob (lsE P x rf u u1 hd cc rk rv ud du lk lv uo od true (aTk ac ak (ns.g 1)) (ns.w 0)) (aK ac fn) sl),(1,ri ((p:Int)+1) (((l+1:Nat):Int)-1)),(2,cellN (some (.int (p:Int) (ns.g 2))))],ors:=[(λX=>cItem true (x.wn+216) (wvL wv wt) nw (p:Int) (X.t 0) (.int (wv p) (wt p)),[]),(λX=>cMx P (x.wn+216) wv wt nw,[]),(λX=>iop "int.__eq__" (wv p) (mxR wv 4) (wt p) (mxT wv wt 4) false,[]),(λX=>cXC P x.c (X.b 11) (X.b 12) (X.b 13) bt p (X.t 0) r0 r1 r2 r3 r4 nb n0 n1 n2 n3 n4 a0 a1 a2 a3 a4 true e L,[11,12,13,2,3,4,5,6,7,8,9]),(λX=>cLNe false false (X.a 12) (X.a 14) ((selP L (λq=>(X.s 4).g (q+3))).map vI) [] (selN e) 0 true,[12,14]),(λX=>(cKKn P x.c (X.b 15) (X.b 16) (X.b 17) (X.b 12) kg ks (selN e) kn kl (selP L (λq=>(X.s 4).g (q+3)))).own (X.b 12+216,lo ((selP L (λq=>(X.s 4).g (q+3))).map vI) (selN e)) [(x.c.kc+216,cellO (.ref (kg+216))),(kg+216,lo ks kn)],[12,15,16,17]),(λX=>cLEq false false (X.a 16) (X.a 18) ([]++(X.s 6).v.drop 1) [] ((X.s 6).g 3) 0 false,[16,18])],tt:=40,s:=9,m:=7,tr:=trD 57 0x1145345249241034d34134d3cd04e38e04130c2cb2cb2cb2cb2cb000040030c30c030430c2082082082082,cs:=[3,1,0,9,1,3,1,0],ns:=λtok b N=>⟨[((N 6).t),(N 3).t,tok],[],[.ref ((b 2))],[]⟩}
theorem ltc_ok (hp:p<5) (hm:(wv p==mxR wv 4)=false) (hK:IntsAre ks kl) (ro:Nat->List Int) (hI0:IntsAre a0 (ro 0)) (hI1:IntsAre a1 (ro 1)) (hI2:IntsAre a2 (ro 2)) (hI3:IntsAre a3 (ro 3)) (hI4:IntsAre a4 (ro 4)) (he:∀q,q<5->(ro q).contains (p:Int)=e q) (hL:selI e=L) (hn:(!decide ((L.map λq=>((q:Nat):Int))=[]))=true) (hl0:L≠[]) (hl:L.length<=5) (hq:decide ((L.map λq=>((q:Nat):Int)).filter kl.contains=[])=false):OK (ltc · x it bt r0 r1 r2 r3 r4 kg rf u u1 hd cc rk rv ud du lk lv uo od ac ak av fn sl pv p l nb n0 n1 n2 n3 n4 nw kn a0 a1 a2 a3 a4 ks wv wt e L kl) w 600 7500:=
 okF 7 (qY [0] (λ_=>item_ok _ w _ _ true _ _ _ _ _ (kJ _) (by lia) (wv_at hp))<|qY [0] (λ_=>(mx_ok w _ _ _ _).m)<|qN (λ_=>(iop_eq w _ _ hm).m)<|qN (λX=>(xc_ok w x.c (X.b 11) (X.b 12) (X.b 13) bt p (X.t 0) r0 r1 r2 r3 r4 nb n0 n1 n2 n3 n4 a0 a1 a2 a3 a4 true e L hL ro hI0 hI1 hI2 hI3 hI4 he).m)<|qN (λ_=>lne_ok _ w _ _ (by decide) _ _ _ _ _ _ (selP_ints _ L) .nil hn)<|qY [1,2] (λX=>Ct.Ok.mono (D':=600+60) (U':=7500+300) ((kkn_ok w x.c _ _ _ _ kg ks _ kn hK (selP L (λq=>(X.s 4).g (q+3))) (sel_ne0 _ hl0) (zZ (Nat.le_of_eq (selP_len ..)) (zZ hl (by decide)))).own (λp hp=>own1 hp) (λ_ _ g=>g.1)) (by decide) (by decide))<|qI (λ_ hF=>fq hF 5 λf5=>leq_ok _ w _ _ (by decide) _ _ _ _ _ _ f5.2 .nil (by rw [selP_fst];exact hq))<|trivial) (e:=by cases cc<;>cases ac<;>kernel_rfl)
end
end
section
section
variable (P:Params) (w:World) (c:Lw) (it:Nat) (q:Int)
def lte:Sp:={c:=ltC P c it,i:=[(it+216,ri q 0)],r:=λas ns=> .ret (.ok .next),tt:=40,s:=2,tr:=[1,1,1,1,1,3],ns:=λtok _ _=>⟨[(tok)],[],[],[]⟩}
theorem lte_ok:OK (lte · c it q) w 600 7500:=
 okF 0 (trivial)
end
structure Lz where
 x:Lx
 it:Nat
 bt:Nat
 r:Nat->Nat
 kg:Nat
 rf:Bool
 u:Nat
 u1:Nat
 hd:Nat
 cc:Bool
 rk:Nat
 rv:Value
 ud:Nat
 du:Nat
 lk:Nat
 lv:Value
 uo:Nat
 od:Nat
 sl:Array (Option Value)
 nb:Nat
 n:Nat->Nat
 nw:Nat
 kn:Nat
 a:Nat->List Value
 ks:List Value
 wv:Nat->Int
 wt:Nat->Nat
def Lz.bl (z:Lz):Obj:=lo [.ref (z.r 0+216),.ref (z.r 1+216),.ref (z.r 2+216),.ref (z.r 3+216),.ref (z.r 4+216)] z.nb
def Lz.fr (z:Lz) (P:Params) (ac:Bool) (ak:Nat) (av:Value) (fn:Nat):Obj:=fob (lsE P z.x z.rf z.u z.u1 z.hd z.cc z.rk z.rv z.ud z.du z.lk z.lv z.uo z.od ac ak av) fn z.sl
def cLT (P:Params) (z:Lz) (p l:Nat) (ac:Bool) (ak:Nat) (av:Value) (fn:Nat) (pv:Option Value):Ct:=
 {code:=ltC P z.x.c z.it,hd:=some none,zpre:=[(z.x.wn+216,lo (wvL z.wv z.wt) z.nw),(z.x.c.kc+216,cellO (.ref (z.kg+216))),(z.kg+216,lo z.ks z.kn)],
  pre:=[(z.x.c.fr+216,z.fr P ac ak av fn),(z.it+216,ri (p:Int) (l:Int)),(z.x.c.pc+216,cellN pv),(z.x.c.bc+216,cellO (.ref (z.bt+216))),(z.bt+216,z.bl),(z.r 0+216,lo (z.a 0) (z.n 0)),(z.r 1+216,lo (z.a 1) (z.n 1)),(z.r 2+216,lo (z.a 2) (z.n 2)),(z.r 3+216,lo (z.a 3) (z.n 3)),(z.r 4+216,lo (z.a 4) (z.n 4))],k:=0,fo:=λ_ _=> .ret (.ok .next),
  post:=λ_ ns=>[ns.o.getD 0 default,ns.o.getD 1 default,ns.o.getD 2 default,cellO (.ref (z.bt+216)),z.bl,lo (z.a 0) (z.n 0),lo (z.a 1) (z.n 1),lo (z.a 2) (z.n 2),lo (z.a 3) (z.n 3),lo (z.a 4) (z.n 4)],news:=λ_ _=>[],fact:=λ_ ns=>ns.z=[]}
theorem lt_ok (w:World) (z:Lz) (ro:Nat->List Int) (hI:∀i,i<5->IntsAre (z.a i) (ro i)) (eF:Nat->Nat->Bool) (he:∀p q:Nat,p<5->q<5->(ro q).contains (p:Int)=eF p q) {kl:List Int} (hK:IntsAre z.ks kl)
  (H:∀p,p<5->((z.wv p==mxR z.wv 4)=true->kl.contains (p:Int)=true)/\((z.wv p==mxR z.wv 4)=false->selI (eF p)≠[])/\(selI (eF p)≠[]->decide (((selI (eF p)).map λq=>((q:Nat):Int)).filter kl.contains=[])=false)):
  ∀(l p:Nat) (ac:Bool) (ak:Nat) (av:Value) (fn:Nat) (pv:Option Value),p+l=5->(cLT w.params z p l ac ak av fn pv).Ok (ktOf w.params) prg w 600 7500:=by
 intro l;induction l with
 |zero=>
  intro p ac ak av fn pv hp;refine Ct.Ok.pad (lte_ok w z.x.c z.it p) [1] (by decide) (lt_all (n:=10) rfl) rfl rfl rfl rfl (λp hp=>nomatch hp) rfl λas ns hk hf=>?_;exact ⟨⟨ns.n,[_,_,_],[],[]⟩,rfl,rfl,rfl,rfl,rfl,rfl⟩
 |succ l ih=>
  intro p ac ak av fn pv hp;have hp5:p<5:=by lia
  obtain ⟨H1,H2,H3⟩:=H p hp5;have hl:(selI (eF p)).length<=5:=length_filter_le ..;have go:∀ns:Ns,Ct.Goes (ktOf w.params) w 600 7500 (cLT w.params z p (l+1) ac ak av fn pv) (upd [0,1,2,3,4,5,6,7,8,9] [z.fr w.params true (aTk ac ak (ns.n.getD 1 0)) (ns.v.getD 0 .none) (aK ac fn),ri ((p:Int)+1) (((l+1:Nat):Int)-1),cellN (some (.int (p:Int) (ns.n.getD 2 0))),cellO (.ref (z.bt+216)),z.bl,lo (z.a 0) (z.n 0),lo (z.a 1) (z.n 1),lo (z.a 2) (z.n 2),lo (z.a 3) (z.n 3),lo (z.a 4) (z.n 4)] (cLT w.params z p (l+1) ac ak av fn pv).pre) (ltC w.params z.x.c z.it) (cLT w.params z (p+1) l true (aTk ac ak (ns.n.getD 1 0)) (ns.v.getD 0 .none) (aK ac fn) (some (.int (p:Int) (ns.n.getD 2 0)))) (λm=>m):=λns=>
   ⟨ih _ _ _ _ _ _ (by lia),rfl,rfl,rfl,by
    show _=[_,(z.it+216,ri ((p:Int)+1) (((l+1:Nat):Int)-1)),_,_,_,_,_,_,_,_];rw [show ((l+1:Nat):Int)-1=(l:Int) by lia];rfl,rfl,rfl,λas m hk hm=>⟨rfl,rfl,rfl,hm,hm,rfl⟩⟩
  have hn:∀L:List Nat,L≠[]->(!decide ((L.map λq=>((q:Nat):Int))=[]))=true:=λL h=>by cases L with|nil=>exact absurd rfl h|cons a l=>rfl
  cases hm:z.wv p==mxR z.wv 4 with
  |true=>
   by_cases h0:selI (eF p)=[]
   ·exact Ct.Ok.seq (ltb_ok w z.x z.it z.bt (z.r 0) (z.r 1) (z.r 2) (z.r 3) (z.r 4) z.kg z.rf z.u z.u1 z.hd z.cc z.rk z.rv z.ud z.du z.lk z.lv z.uo z.od ac ak av fn z.sl pv p l z.nb (z.n 0) (z.n 1) (z.n 2) (z.n 3) (z.n 4) z.nw z.kn (z.a 0) (z.a 1) (z.a 2) (z.a 3) (z.a 4) z.ks z.wv z.wt (eF p) (selI (eF p)) hp5 hm hK ro (hI 0 (by decide)) (hI 1 (by decide)) (hI 2 (by decide)) (hI 3 (by decide)) (hI 4 (by decide)) (λq hq=>he p q hp5 hq) rfl (by rw [h0];rfl) (H1 hm)) [0,1,2,3,4,5,6,7,8,9] (by decide) (lt_all (n:=10) rfl) rfl rfl rfl rfl (λp hp=>hp) rfl λns hf=>⟨_,_,_,rfl,go ns⟩
   ·exact Ct.Ok.seq (lta_ok w z.x z.it z.bt (z.r 0) (z.r 1) (z.r 2) (z.r 3) (z.r 4) z.kg z.rf z.u z.u1 z.hd z.cc z.rk z.rv z.ud z.du z.lk z.lv z.uo z.od ac ak av fn z.sl pv p l z.nb (z.n 0) (z.n 1) (z.n 2) (z.n 3) (z.n 4) z.nw z.kn (z.a 0) (z.a 1) (z.a 2) (z.a 3) (z.a 4) z.ks z.wv z.wt (eF p) (selI (eF p)) kl hp5 hm hK ro (hI 0 (by decide)) (hI 1 (by decide)) (hI 2 (by decide)) (hI 3 (by decide)) (hI 4 (by decide)) (λq hq=>he p q hp5 hq) rfl (hn _ h0) (H1 hm) h0 hl (H3 h0)) [0,1,2,3,4,5,6,7,8,9] (by decide) (lt_all (n:=10) rfl) rfl rfl rfl rfl (λp hp=>hp) rfl λns hf=>⟨_,_,_,rfl,go ns⟩
  |false=>
   have h0:=H2 hm;exact Ct.Ok.seq (ltc_ok w z.x z.it z.bt (z.r 0) (z.r 1) (z.r 2) (z.r 3) (z.r 4) z.kg z.rf z.u z.u1 z.hd z.cc z.rk z.rv z.ud z.du z.lk z.lv z.uo z.od ac ak av fn z.sl pv p l z.nb (z.n 0) (z.n 1) (z.n 2) (z.n 3) (z.n 4) z.nw z.kn (z.a 0) (z.a 1) (z.a 2) (z.a 3) (z.a 4) z.ks z.wv z.wt (eF p) (selI (eF p)) kl hp5 hm hK ro (hI 0 (by decide)) (hI 1 (by decide)) (hI 2 (by decide)) (hI 3 (by decide)) (hI 4 (by decide)) (λq hq=>he p q hp5 hq) rfl (hn _ h0) h0 hl (H3 h0)) [0,1,2,3,4,5,6,7,8,9] (by decide) (lt_all (n:=10) rfl) rfl rfl rfl rfl (λp hp=>hp) rfl λns hf=>⟨_,_,_,rfl,go ns⟩
end
theorem Ct.Ok.ownz {c:Ct} {kt:KT} {prog:Program} {w:World} {D U:Nat} (ok:c.Ok kt prog w D U) (qs z:List (Nat×Obj)) (hn:∀as ns,c.fact as ns->∀p∈ns.z,p∉qs) (hz:∀p∈c.zpre,p∈qs\/p∈z):(c.owns qs z).Ok kt prog w D U:=by
 intro A hA hF hD hU h gens d tok os R S0 K;have nd:((qs++c.pre).map (·.1)).Nodup:=S0.nd;rw [zU] at nd;obtain ⟨nd1,nd2,nd3⟩:=kX.mp nd;have hq:∀p∈qs,h.get? p.1=some p.2:=λp hp=>S0.here p (jj _ hp);have hqn:∀p∈qs,p.1∉c.pre.map (·.1):=λp hp hm=>nd3 _ (zW hp) _ hm rfl;have hzn:∀p∈z,h.get? p.1=some p.2/\p.1∉(qs++c.pre).map (·.1):=S0.z;refine ok A hA hF hD hU h gens d tok os R ⟨S0.old,S0.big,λp hp=>S0.here p (jz _ hp),nd2,λp hp=>S0.ge p (jz _ hp),λp hp=>?_⟩ λh' as ns hk S1 hf=>K h' as ns hk ⟨?_,S1.nlen,λi p o h1 h2=>?_,S1.new,S1.nd,S1.fresh,λb o e hb=>S1.keep b o e λhm=>hb ?_,S1.grow,λp hp=>?_⟩ hf
 ·rcases hz p hp with hp|hp
  ·exact ⟨hq p hp,hqn p hp⟩
  ·exact ⟨(hzn p hp).1,λhm=>(hzn p hp).2 (by rw [zU];exact jz _ hm)⟩
 ·show (qs.map (·.2)++c.post as ns).length=(qs++c.pre).length
  rw [jZ,jZ,zJ,S1.plen]
 ·have h1:(qs++c.pre)[i]?=some p:=h1
  have h2:(qs.map (·.2)++c.post as ns)[i]?=some o:=h2;by_cases hi:i<qs.length
  ·rw [vv hi] at h1
   rw [vv (by rw [zJ];exact hi),vU,h1] at h2;cases h2;have hm:=jy h1;exact S1.keep _ _ (hq p hm) (hqn p hm)
  ·rw [vV (by lia)] at h1
   rw [vV (by rw [zJ];lia),zJ] at h2;exact S1.here _ p o h1 h2
 ·show b∈(qs++c.pre).map (·.1)
  rw [zU];exact jz _ hm
 ·obtain ⟨x1,x2,x3,x4⟩:=S1.z p hp
  have x5:h.objs.size<=p.1\/p∈z:=x4.imp id λh=>(hz p h).resolve_left (hn as ns hf p hp);refine ⟨x1,λhm=>?_,x3,x5⟩;have hm:p.1∈(qs++c.pre).map (·.1):=hm;rcases x5 with x5|x5
  ·obtain ⟨q,hq',e⟩:=ky.mp hm
   have:=kY (S0.here q hq');rw [e] at this;exact absurd x5 (Nat.not_le.mpr this)
  ·exact (hzn p x5).2 hm
def cL1Ne (l u b:Nat) (zz:List (Nat×Obj)) (n m:Nat) (ob:Obj):Ct:={code:= .builtin "list.__ne__" ⟨[.ref l,.ref u],[]⟩,zpre:=zz,pre:=[(l,lo (refsOf zz) n),(u,lo [.ref b] m),(b,ob)],k:=0,fo:=λ_ _=> .ret (.ok (.ret (.bool false))),post:=λ_ _=>[lo (refsOf zz) n,lo [.ref b] m,ob],news:=λ_ _=>[],fact:=λ_ _=>True}
theorem l1ne_ok (kt:KT) (w:World) (D U:Nat) (hUU:U<=9000) (l u b:Nat) {zz:List (Nat×Obj)} (n m:Nat) {ob:Obj} {xI:List Int} (hz:RowsAre zz [xI]) (h3:IsL ob xI):(cL1Ne l u b zz n m ob).Ok kt prg w D U:=by
 obtain ⟨bs,nb,rfl,h3⟩:=h3;cases hz with
 |cons xs k h1 h2 h4 h5=>
 cases h5;rename_i p;obtain ⟨a,o⟩:=p;obtain rfl:o=lo xs k:=h2;intro A hA hF hD hU h gens dr tok os R S0 K;have H0:=Held.start S0;refine codeAny_builtin F.entry_list_ne ?_;rw [vZ (by decide+kernel)];have g:=λi p (hi:(cL1Ne l u b [(a,lo xs k)] n m (lo bs nb)).pre[i]?=some p)=>H0.st.here p (jy hi);have ga:=(H0.st.z (a,lo xs k) (mem_singleton_self _)).1;have hcl:cLine=9900:=by decide
 refine SeqAt.list_neAt l u ⟨[.ref a]⟩ ⟨[.ref b]⟩ n m none none #[] #[] rfl (λ_=>true) prg w A R _ ⟨g 0 _ rfl,g 1 _ rfl,λj j1 j2=>?_,?_⟩
 ·have hj:j<1:=j1
  obtain rfl:j=0:=by lia
  exact eqAt_lists ga (g 2 _ rfl) h4 h3 (by show A.units+1<cLine;lia)
 ·exact Ct.fin (c:=cL1Ne l u b [(a,lo xs k)] n m (lo bs nb)) K [] ⟨[tok],[],[],[]⟩ H0 rfl rfl rfl (λp hp=>by cases hp) trivial
theorem rows_not {zz qs:List (Nat×Obj)} {R:List (List Int)} (h:RowsAre zz R) (hR:∀r∈R,r.length=5) (hq:∀p∈qs,∀xs n,p.2=lo xs n->∀l,IntsAre xs l->l.length≠5):∀p∈zz,p∉qs:=by
 induction h with
 |nil=>exact λp hp=>nomatch hp
 |cons xs n h1 h2 h3 h4 ih=>
  intro p hp hm;rcases vz.mp hp with rfl|hp
  ·exact hq _ hm xs n h2 _ h3 (hR _ (zy ..))
  ·exact ih (λr hr=>hR r (zv _ hr)) p hp hm
def cDU (P:Params) (x:Lx) (it tp:Nat) (rf:Bool) (u u1 hd:Nat) (cc:Bool) (rk:Nat) (rv:Value) (ud du fn:Nat) (sl:Array (Option Value)) (tt:Nat->Nat) (n:Nat) (ws:List Value) (wn:Nat) (dl:List Int):Ct:=
 {code:=duC P x it,hd:=some none,zpre:=[(x.wn+216,lo ws wn),(tp+216,tu [.int 4 (tt 0),.int 3 (tt 1),.int 2 (tt 2),.int 1 (tt 3),.int 0 (tt 4)])],pre:=[(x.c.fr+216,fob (duE P x rf u u1 hd cc rk rv ud du) fn sl),(it+216,tiO (tp+216) 0),(du+216,lo [] n)],k:=0,fo:=λ_ _=> .ret (.ok .next),
  post:=λ_ ns=>[fob (duE P x rf u u1 hd cc rk rv ud du++[en P [108,101,102,116] (ns.n.getD 1 0) (.int 0 (tt 4))]) (fn+1) sl,tiE 5,lo ns.v (ns.n.getD 2 0)],news:=λ_ _=>[],fact:=λ_ ns=>ns.z=[]/\IntsAre ns.v dl}
theorem du_ok (w:World) (x:Lx) (it tp:Nat) (rf:Bool) (u u1 hd:Nat) (cc:Bool) (rk:Nat) (rv:Value) (ud du fn:Nat) (sl:Array (Option Value)) (tt:Nat->Nat) (n:Nat) (ws:List Value) (wn:Nat) {wi:List Int} (hI:IntsAre ws wi) (hw:wi.length<=1000) (c:Nat) (hc:c=0\/c=1\/c=2\/c=5) (j:Nat->Nat)
  (h:∀i,i<=c->i<5->wi.contains ((4-i:Nat):Int)=decide (i<c)) (hj:∀i,i<c->wi.findIdx? (·==((4-i:Nat):Int))=some (j i)) (hcc:(!(c==0))=cc) {dl:List Int} (hd':(List.range c).map (λi=>((j i:Nat):Int))=dl):(cDU w.params x it tp rf u u1 hd cc rk rv ud du fn sl tt n ws wn dl).Ok (ktOf w.params) prg w 600 7500:=by
 subst hcc hd';rcases hc with rfl|rfl|rfl|rfl
 ·exact (du0_ok w x it tp rf u u1 hd rk rv ud du fn sl tt n ws wn j hI hw (h 0 (by decide) (by decide))).re (λ_ ns=>⟨[ns.n.headD 0,ns.n.getD 1 0,n+0],[],ns.v,[]⟩) rfl rfl rfl rfl rfl rfl λas ns hk hf=>⟨rfl,rfl,rfl,⟨rfl,hf⟩,rfl,rfl⟩
 ·exact (du1_ok w x it tp rf u u1 hd rk rv ud du fn sl tt n ws wn j hI hw (h 0 (by decide) (by decide)) (hj 0 (by decide)) (h 1 (by decide) (by decide))).re (λ_ ns=>⟨[ns.n.headD 0,ns.n.getD 1 0,n+1],[],ns.v,[]⟩) rfl rfl rfl rfl rfl rfl λas ns hk hf=>⟨rfl,rfl,rfl,⟨rfl,hf⟩,rfl,rfl⟩
 ·exact (du2_ok w x it tp rf u u1 hd rk rv ud du fn sl tt n ws wn j hI hw (h 0 (by decide) (by decide)) (hj 0 (by decide)) (h 1 (by decide) (by decide)) (hj 1 (by decide)) (h 2 (by decide) (by decide))).re (λ_ ns=>⟨[ns.n.headD 0,ns.n.getD 1 0,n+2],[],ns.v,[]⟩) rfl rfl rfl rfl rfl rfl λas ns hk hf=>⟨rfl,rfl,rfl,⟨rfl,hf⟩,rfl,rfl⟩
 ·exact (du5_ok w x it tp rf u u1 hd rk rv ud du fn sl tt n ws wn j hI hw (h 0 (by decide) (by decide)) (hj 0 (by decide)) (h 1 (by decide) (by decide)) (hj 1 (by decide)) (h 2 (by decide) (by decide)) (hj 2 (by decide)) (h 3 (by decide) (by decide)) (hj 3 (by decide)) (h 4 (by decide) (by decide)) (hj 4 (by decide))).re (λ_ ns=>⟨[ns.n.headD 0,ns.n.getD 1 0,n+5],[],ns.v,[]⟩) rfl rfl rfl rfl rfl rfl λas ns hk hf=>⟨rfl,rfl,rfl,⟨rfl,hf⟩,rfl,rfl⟩
theorem lo_inj {xs ys:List Value} {n m:Nat} (e:lo xs n=lo ys m):xs=ys:=by
 have h:(Data.seq ⟨xs⟩ n)=Data.seq ⟨ys⟩ m:=jk Obj.data e;injection h with h _;exact jk Array.toList h
def cOrd (P:Params) (bt nb:Nat) (bz:List (Nat×Obj)) (B:List (List Int)):Ct:=(ford P bt nb bz B).ct.owns ((bt+216,lo (refsOf bz) nb)::bz) []
theorem ord_ok (w:World) (bt nb:Nat) (bz:List (Nat×Obj)) (B:List (List Int)) (hB:RowsAre bz B) (hb5:∀s∈B,s.length<=4) (hbl:B.length<=5) (hc:∀k,k<4->chkRows B (itRows B k)=true) (h5:∀r∈itRows B 4,r.length=5):(cOrd w.params bt nb bz B).Ok (ktOf w.params) prg w 720 8100:=by
 have hrow:∀{bz:List (Nat×Obj)} {B:List (List Int)},RowsAre bz B->(∀s∈B,s.length<=4)->∀p∈bz,∀xs n,p.2=lo xs n->∀l,IntsAre xs l->l.length≠5:=by
  intro bz B h;induction h with
  |nil=>exact λ_ p hp=>nomatch hp
  |cons xs n h1 h2 h3 h4 ih=>
   intro hB p hp ys m e l hl;rcases vz.mp hp with rfl|hp
   ·rw [h2] at e
    have e:xs=ys:=lo_inj e;subst e;rw [<-hl.length,h3.length];have:=hB _ (zy ..);lia
   ·exact ih (λs hs=>hB s (zv _ hs)) p hp ys m e l hl
 refine (ford_ok w bt nb bz B hB (λs hs=>Nat.le_succ_of_le (hb5 s hs)) hbl hc).ownz _ _ (λas ns hf=>rows_not hf h5 λp hp xs n e l hl=>?_) (λp hp=> .inl hp);rcases vz.mp hp with rfl|hp
 ·have e:refsOf bz=xs:=lo_inj e
  subst e;generalize hz:refsOf bz=zs at hl;cases hl with
  |nil=>exact λh=>nomatch h
  |cons a t h'=>
   cases bz with
   |nil=>cases hz
   |cons q r=>cases hz
 ·exact hrow hB hb5 p hp xs n e l hl
noncomputable def tb (x01 x02 x03 x04 x12 x13 x14 x23 x24 x34:Bool) (i q:Nat):Bool:=match i with
 |0=>match q with|1=>x01|2=>x02|3=>x03|4=>x04|_=>false
 |1=>match q with|0=> !x01|2=>x12|3=>x13|4=>x14|_=>false
 |2=>match q with|0=> !x02|1=> !x12|3=>x23|4=>x24|_=>false
 |3=>match q with|0=> !x03|1=> !x13|2=> !x23|4=>x34|_=>false
 |4=>match q with|0=> !x04|1=> !x14|2=> !x24|3=> !x34|_=>false
 |_=>false
def bO (o:Nat->Int):Nat->Nat->Bool:=tb (wn o 0 1) (wn o 0 2) (wn o 0 3) (wn o 0 4) (wn o 1 2) (wn o 1 3) (wn o 1 4) (wn o 2 3) (wn o 2 4) (wn o 3 4)
def wvB (b:Nat->Nat->Bool) (i:Nat):Int:=((rowI b i).length:Nat)
def wnB (b:Nat->Nat->Bool):List Int:=[wvB b 0,wvB b 1,wvB b 2,wvB b 3,wvB b 4]
def eB (b:Nat->Nat->Bool) (p q:Nat):Bool:=(rowI b q).contains ((p:Nat):Int)
def BB (b:Nat->Nat->Bool):List (List Int):=[rowI b 0,rowI b 1,rowI b 2,rowI b 3,rowI b 4]
def ndB' (b:Nat->Nat->Bool):As:=asF (eB b) 5 0 []
def zrB (b:Nat->Nat->Bool):List Int:=((ndB' b).filter λa=>a.2.1==0).map (·.1)
def aoB (b:Nat->Nat->Bool):Option Bool:=aout ((ndB' b).map λa=>(a.1,a.2.2)) 60 ((ndB' b).map (·.1)) []
def rfB (b:Nat->Nat->Bool):Bool:=aoB b==some true
def hdB (b:Nat->Nat->Bool):List Int:=(rnds 9 (ndB' b) (zrB b)).getD []
def kgI (b:Nat->Nat->Bool):List Int:=appI (appI (appI (appI (appI [] (kingK (BB b) 0) 0) (kingK (BB b) 1) 1) (kingK (BB b) 2) 2) (kingK (BB b) 3) 3) (kingK (BB b) 4) 4
def colB (b:Nat->Nat->Bool) (p:Nat):List Int:=(selI (eB b p)).map λq=>((q:Nat):Int)
noncomputable def al5 (f:Nat->Bool):Bool:=f 0&&f 1&&f 2&&f 3&&f 4
def isN5 (q:Int):Bool:=Int.rec (λm=>Nat.blt m 5) (λ_=>false) q
def lkN (n:List Int):List Int:=lackOf (!n.contains 0) (!n.contains 1) (!n.contains 2) (!n.contains 3) (!n.contains 4)
def okN (r o n:List Int):Bool:=decide (o.length<=40)&&decide (n.length<=400)&&decide (sldF every5 n=some (lkN n,[]))&&decide (sldF n every5=some ([],lkN n))&&decide (r.length<=5)&&r.all isN5
def okKB (B:List (List Int)) (p:Nat):Bool:=okN (B.getD p []) (kOut B (B.getD p [])) (nearOf B p (B.getD p []))
noncomputable def ndI:List Int->Bool
 |[]=>true
 |a::l=> !l.contains a&&ndI l
def cA (A:As) (g:Bool) (wl z h:List Int) (rf:Bool):Bool:=Nat.beq A.length 5&&g&&(aout (A.map λa=>(a.1,a.2.2)) 60 (A.map (·.1)) []==some rf)&&((!decide (isort wl=[0,1,2,3,4]))==rf)&&(rnds 9 A z==some h)&&(rf|| !z.isEmpty)&&(A.all λa=>Nat.ble a.2.2.length 900&&ndI a.2.2&&a.2.2.all λq=>(A.map (·.1)).contains q)
def cD (wl h:List Int) (ze:Bool):Bool:=(match h.length with|0=>true|1=>true|2=>true|5=>true|_=>false)&&al5 (λi=> !Nat.ble i h.length||(wl.contains ((4-i:Nat):Int)==Nat.blt i h.length))&&al5 (λi=> !Nat.blt i h.length||(wl.findIdx? (·==((4-i:Nat):Int))==some (h.getD i 0).toNat))&&(h.isEmpty==ze)&&h.all λq=>match q with| .ofNat _=>true|_=>false
def cO (B r1 r2 r3 r4:List (List Int)) (k:List (List Int)->Bool) (h:List Int) (rf:Bool):Bool:=B.all (λs=>Nat.ble s.length 4)&&(k rows0&&k r1&&k r2&&k r3)&&r4.all (λr=>Nat.beq r.length 5)&&Nat.ble r4.length 900&&Nat.beq (r4.length%2) 1&&((!Nat.beq r4.length 1)==rf)&&(rf||(r4==[h]))
def kq (wl kg:List Int) (p:Nat) (c:List Int):Bool:=cond (wl.getD p 0==mxR (λi=>wl.getD i 0) 4) (kg.contains ((p:Nat):Int)) (!c.isEmpty)&&(c.isEmpty|| !(c.filter kg.contains).isEmpty)
noncomputable def cK (wl kg:List Int) (ze:Bool) (k:Bool):Bool:=(!Nat.beq kg.length 2)&&(Nat.beq kg.length 1== !ze)&&(wl.contains 4== !ze)&&k
def chA (b:Nat->Nat->Bool):Bool:=cA (ndB' b) (al5 λp=> !eB b p p) (wnB b) (zrB b) (hdB b) (rfB b)
noncomputable def chD (b:Nat->Nat->Bool):Bool:=cD (wnB b) (hdB b) (zrB b).isEmpty
def chO (b:Nat->Nat->Bool):Bool:=cO (BB b) (itRows (BB b) 1) (itRows (BB b) 2) (itRows (BB b) 3) (itRows (BB b) 4) (chkRows (BB b)) (hdB b) (rfB b)
def chK (b:Nat->Nat->Bool):Bool:=al5 (okKB (BB b))&&cK (wnB b) (kgI b) (zrB b).isEmpty (al5 λp=>kq (wnB b) (kgI b) p (colB b p))
section
theorem nsAt_take {l:List Ns} {i k:Nat} (h:i<k):nsAt (l.take k) i=nsAt l i:=by
 unfold nsAt;rw [zY,zY,getElem?_take_of_lt h]
noncomputable def nmL (ps:List (Int×Nat)):List Nat:=(ps.take 15).map λp=>(p.1.fmod 30240).toNat
noncomputable def fxN:List Nat:=[64,23,52,27,46,68,43,65,22,0,7,14,190,198,194]
def nums (ps:List (Int×Nat)):List Nat:=nmL ps++fxN.drop (nmL ps).length
def oS (ps:List (Int×Nat)) (i:Nat):Int:=clkS ((nums ps).getD i 0)
theorem nmL_len (ps:List (Int×Nat)):(nmL ps).length<=15:=by unfold nmL;rw [zJ,length_take];lia
theorem nums_len (ps:List (Int×Nat)):(nums ps).length=15:=by
 have:=nmL_len ps;unfold nums;rw [jZ,length_drop];show _+(15-_)=15;lia
theorem nums_lt (ps:List (Int×Nat)):∀x∈nums ps,x<30240:=λx hx=>by
 rcases jq.mp hx with h|h
 ·obtain ⟨p,-,rfl⟩:=ky.mp h
  rw [Int.fmod_eq_emod_of_nonneg _ (by decide)];have:=Int.emod_lt_of_pos p.1 (b:=30240) (by decide);lia
 ·have:=mem_of_mem_drop h
  revert x;intro x _ _ h;exact (by decide:∀x∈fxN,x<30240) x h
def mV (p:List Ns):List Value:=[]++(nsAt p 2).v.drop 1
def mFX (p:List Ns):List Value:=(fxL (tk p 0)).map vN
def mLS (p:List Ns):List Value:=mV p++(mFX p).drop (mV p).length
def mOS (p:List Ns):List Value:=[]++(nsAt p 6).v.drop 4
theorem fxL_fst (t:Nat):(fxL t).map (·.1)=fxN:=rfl
def FN (ps:List (Int×Nat)) (p:List Ns):Prop:=∃r:List (Nat×Nat),(nsAt p 2).v.drop 1=r.map vN/\r.map (·.1)=nmL ps
section
variable {ps:List (Int×Nat)} {p:List Ns} (h:FN ps p)
include h
theorem FN.lenV:(mV p).length<=15:=by
 obtain ⟨r,h1,h2⟩:=h;unfold mV;rw [nil_append,h1,zJ];have:=jk length h2;rw [zJ] at this;rw [this];exact nmL_len ps
theorem FN.ls:mLS p=((mLS p).map unV0).map vN/\((mLS p).map unV0).map (·.1)=nums ps:=by
 obtain ⟨r,h1,h2⟩:=h;have l:=jk length h2;rw [zJ] at l;have e:mLS p=(r++(fxL (tk p 0)).drop (nmL ps).length).map vN:=by
  unfold mLS mV mFX;rw [nil_append,h1,zJ,l,zU,map_drop]
 rw [e,unV_vN];refine ⟨rfl,?_⟩;rw [zU,map_drop,h2,fxL_fst];rfl
theorem FN.lsLen:((mLS p).map unV0).length=15:=by
 have:=jk length h.ls.2;rw [zJ,nums_len] at this;exact this
theorem FN.lsLt:∀q∈(mLS p).map unV0,q.1<30240:=λq hq=>nums_lt ps _ (by rw [<-h.ls.2];exact zW hq)
theorem FN.os {vs:List Value} (hI:IntsAre vs (((mLS p).map unV0).map λp=>clkS p.1)):∀i,i<15->vs[i]?=some (.int (oS ps i) (tokV (vs.getD i .none))):=λi hi=>by
 have e:(((mLS p).map unV0).map λp=>clkS p.1)=(nums ps).map clkS:=by rw [<-h.ls.2];simp only [kW];rfl
 rw [e] at hI;have hl:vs.length=15:=by rw [hI.length,zJ,nums_len]
 have hv:i<vs.length:=by lia
 obtain ⟨t,ea⟩:=hI.int_at i vs[i] (zQ hv);rw [zY,zQ hv,ea];have:((nums ps).map clkS).getD i 0=oS ps i:=by
  unfold oS;rw [zY,zY,vU];have:i<(nums ps).length:=by rw [nums_len];exact hi
  rw [zQ this];rfl
 rw [this];rfl
end
theorem row_len (b:Nat->Nat->Bool) (τ:Nat->Nat->Nat) (i:Nat):(rowF b τ i).length=(rowI b i).length:=(rowF_ints b τ i).length
theorem row_le (b:Nat->Nat->Bool) (τ:Nat->Nat->Nat) (i:Nat):(rowF b τ i).length<=4:=by
 rw [row_len];have:∀(qs:List Nat) (l:List Int),(qs.foldl (λl q=>cond (b i q) (l++[(q:Int)]) l) l).length<=l.length+qs.length:=by
  intro qs;induction qs with
  |nil=>intro l;exact jv _
  |cons q qs ih=>
   intro l;rw [foldl_cons,jY];refine zZ (ih _) ?_;cases b i q<;>simp<;>lia
 have h:=this (opps i) [];have h2:(opps i).length=4:=by unfold opps;split<;>rfl
 rw [h2] at h;exact h
noncomputable def sel5 {α:Type} (a b c d e:α):Nat->α
 |0=>a
 |1=>b
 |2=>c
 |3=>d
 |_=>e
section
variable (P:Params) (w:World) (c:Lw) (it bt r0 r1 r2 r3 r4:Nat) (t:Nat->Nat) (v:Nat->Value) (fn:Nat) (sl:Array (Option Value)) (OS:List Value) (nb on:Nat) (o:Nat->Int) (to:Nat->Nat)
def pX:Px:=⟨c,it,bt,sel5 r0 r1 r2 r3 r4,t,v,fn,sl,OS,nb,on,o,to⟩
def cPLb:Ct:=
 {((pX c it bt r0 r1 r2 r3 r4 t v fn sl OS nb on o λ_=>0).pl P).ct with
  post:=λ_ ns=>[fob (c.b8 P t v++Lw.e6 P true (λi=>ns.n.getD (i+1) 0) (λi=>ns.v.getD i .none)) (ns.n.getD 7 0) sl,ri 5 0,lo (rowF (bO o) (tauF ns.n) 0) (verF (bO o) 0),lo (rowF (bO o) (tauF ns.n) 1) (verF (bO o) 1),lo (rowF (bO o) (tauF ns.n) 2) (verF (bO o) 2),lo (rowF (bO o) (tauF ns.n) 3) (verF (bO o) 3),lo (rowF (bO o) (tauF ns.n) 4) (verF (bO o) 4),cellN (some (.int ((4:Nat):Int) (ns.n.getD 12 0))),cellO (.ref (bt+216)),lo [.ref (r0+216),.ref (r1+216),.ref (r2+216),.ref (r3+216),.ref (r4+216)] nb,lo OS on]}
theorem plb_ok (hO:∀i,i<15->OS[i]?=some (.int (o i) (to i))):(cPLb w.params c it bt r0 r1 r2 r3 r4 t v fn sl OS nb on o).Ok (ktOf w.params) prg w 660 7800:=
 Ct.Ok.re (c:=((pX c it bt r0 r1 r2 r3 r4 t v fn sl OS nb on o to).pl w.params).ct) (Px.pl_ok _ w hO) (λ_ ns=>ns) rfl rfl rfl rfl rfl rfl λas ns hk hf=>⟨rfl,rfl,rfl,hf,hf,rfl⟩
end
theorem own2 {α:Type} {a b p:α} (h:p∈[a,b]):p=b\/p∈[a]:=by
 simp at h⊢;exact h.symm
theorem nd5_abs (as as':List Nat) (ns:Ns):(nd5 as ns).map absF=(nd5 as' ns).map absF:=by
 unfold nd5 ndOf absF;simp only [kQ,map_nil]
theorem nd5_xs (as as':List Nat) (ns:Ns):(nd5 as ns).map (·.xs)=(nd5 as' ns).map (·.xs):=by
 unfold nd5 ndOf;simp only [kQ,map_nil]
theorem nd5_k (as as':List Nat) (ns:Ns):(nd5 as ns).map (·.k)=(nd5 as' ns).map (·.k):=by
 unfold nd5 ndOf;simp only [kQ,map_nil]
structure FA (b:Nat->Nat->Bool) (N:List Nd):Prop where
 abs:N.map absF=ndB' b
 nd:(N.map (·.k)).Nodup
 iv:intsIn N
theorem FA.of {b:Nat->Nat->Bool} {as as':List Nat} {ns:Ns} (h1:(nd5 as ns).map absF=asF (eB b) 5 0 []) (h2:((nd5 as ns).map (·.k)).Nodup) (h3:intsIn (nd5 as ns)):FA b (nd5 as' ns):=by
 have e:ndB' b=asF (eB b) 5 0 []:=by unfold ndB';rfl
 refine ⟨?_,?_,λx hx v hv=>?_⟩
 ·rw [nd5_abs as' as,e];exact h1
 ·rw [nd5_k as' as];exact h2
 ·have h4:x.xs∈(nd5 as' ns).map (·.xs):=zW hx
  rw [nd5_xs as' as] at h4;obtain ⟨y,hy,e⟩:=ky.mp h4;exact h3 y hy v (e▸hv)
theorem abs_ad {b:Nat->Nat->Bool} {N:List Nd} (h:FA b N):N.map Nd.ad=(ndB' b).map λa=>(a.1,a.2.2):=by
 rw [<-h.abs,kW];rfl
theorem abs_k {b:Nat->Nat->Bool} {N:List Nd} (h:FA b N):N.map (·.k)=(ndB' b).map (·.1):=by
 rw [<-h.abs,kW];rfl
theorem abs_rdy {b:Nat->Nat->Bool} {N:List Nd} (h:FA b N):(rdy N).map iv=zrB b:=by
 unfold rdy zrB;rw [<-h.abs,filter_map,kW,kW];rfl
theorem ndI_nodup:∀{l:List Int},ndI l=true->l.Nodup
 |[],_=>nodup_nil
 |a::l,h=>by
  unfold ndI at h;rw [kj] at h;refine vX.mpr ⟨λhm=>?_,ndI_nodup h.2⟩;have:=h.1;simp [hm] at this
theorem al5_at {f:Nat->Bool} (h:al5 f=true) {p:Nat} (hp:p<5):f p=true:=by
 unfold al5 at h;simp only [kj] at h;obtain ⟨⟨⟨⟨h0,h1⟩,h2⟩,h3⟩,h4⟩:=h;have:p=0\/p=1\/p=2\/p=3\/p=4:=by lia
 rcases this with rfl|rfl|rfl|rfl|rfl<;>assumption
section
variable {b:Nat->Nat->Bool}
structure LA (b:Nat->Nat->Bool):Prop where
 l5:(ndB' b).length=5
 e0:∀p,p<5->eB b p p=false
 ao:aoB b=some (rfB b)
 so:(!decide (isort (wnB b)=[0,1,2,3,4]))=rfB b
 rn:rnds 9 (ndB' b) (zrB b)=some (hdB b)
 zr:rfB b=false->(zrB b).isEmpty=false
 nds:∀a∈ndB' b,a.2.2.length<=900/\a.2.2.Nodup/\∀q∈a.2.2,q∈(ndB' b).map (·.1)
theorem LA.of (h:chA b=true):LA b:=by
 unfold chA cA at h;simp only [kj] at h;obtain ⟨⟨⟨⟨⟨⟨h1,h2⟩,h3⟩,h4⟩,h5⟩,h6⟩,h7⟩:=h;refine ⟨Nat.eq_of_beq_eq_true h1,λp hp=>?_,by simpa [aoB] using h3,by simpa using h4,of_decide_eq_true (by simpa using h5),λe=>?_,λa ha=>?_⟩
 ·have:=al5_at h2 hp
  simpa using this
 ·rw [e] at h6;simpa using h6
 ·have:=vy.mp h7 a ha
  simp only [kj] at this;obtain ⟨⟨g1,g2⟩,g3⟩:=this;exact ⟨zx g1,ndI_nodup g2,λq hq=>by have:=vy.mp g3 q hq;simpa using this⟩
end
end
section
abbrev LI:=List Int
def sI (i:Int) (k:Int->Bool):Bool:=Int.rec (λn=>cond (Nat.beq n 0) (k 0) (cond (Nat.beq n 1) (k 1) (cond (Nat.beq n 2) (k 2) (cond (Nat.beq n 3) (k 3) (cond (Nat.beq n 4) (k 4) (k (.ofNat n))))))) (λn=>k (.negSucc n)) i
def uL {α:Type} (f:α->(α->Bool)->Bool) (l:List α):(List α->Bool)->Bool:=List.rec (λk=>k []) (λa _ ih k=>f a λa=>ih λl=>k (a::l)) l
def uB (a:Bool) (k:Bool->Bool):Bool:=Bool.rec (k false) (k true) a
def sA (a:Int×Int×LI) (k:Int×Int×LI->Bool):Bool:=sI a.1 λx=>sI a.2.1 λy=>uL sI a.2.2 λz=>k (x,y,z)
def onto {α:Type} (l l2:List α):(List α->Bool)->Bool:=List.rec (λk=>k l2) (λa _ ih k=>ih λl=>k (a::l)) l
def pik (B:List LI):Nat->(LI->Bool)->Bool:=List.rec (λ_ k=>k []) (λr _ ih n k=>Nat.rec (k r) (λm _=>ih m k) n) B
def stp {α β:Type} (g:α->Nat) (f:α->LI->List β) (B:List LI) (l:List α):(List β->Bool)->Bool:=List.rec (λk=>k []) (λa _ ih k=>ih λm=>pik B (g a) λx=>onto (f a x) m k) l
def isr (l:LI):(LI->Bool)->Bool:=List.rec (λk=>k []) (λa _ ih k=>ih λl=>uL (λa k=>k a) (ins1 a l) k) l
theorem sI_e (i:Int) (k:Int->Bool):sI i k=k i:=by
 rcases i with (_|_|_|_|_|n)|n<;>rfl
theorem uL_e {α:Type} {f:α->(α->Bool)->Bool} (hf:∀a k,f a k=k a) (l:List α):∀k,uL f l k=k l:=by
 induction l with
 |nil=>exact λ_=>rfl
 |cons a l ih=>exact λk=>(hf a _).trans (ih _)
theorem uB_e (a k):uB a k=k a:=by cases a<;>rfl
theorem sA_e (a k):sA a k=k a:=by
 unfold sA;rw [sI_e,sI_e,uL_e sI_e]
theorem onto_e {α:Type} (l2 l:List α):∀k,onto l l2 k=k (l++l2):=by
 induction l with
 |nil=>exact λ_=>rfl
 |cons a l ih=>exact λ_=>ih _
theorem pik_e (B:List LI):∀n k,pik B n k=k (B.getD n []):=by
 induction B with
 |nil=>exact λ_ _=>rfl
 |cons r B ih=>
  intro n k;cases n with
  |zero=>rfl
  |succ n=>exact ih n k
theorem stp_e {α β:Type} (g:α->Nat) (f:α->LI->List β) (B:List LI) (l:List α):∀k,stp g f B l k=k (l.flatMap λa=>f a (B.getD (g a) [])):=by
 induction l with
 |nil=>exact λ_=>rfl
 |cons a l ih=>exact λk=>(ih _).trans ((pik_e _ _ _).trans (onto_e _ _ _))
theorem isr_e (l:LI):∀k,isr l k=k (isort l):=by
 induction l with
 |nil=>exact λ_=>rfl
 |cons a l ih=>exact λk=>(ih _).trans (uL_e (λ_ _=>rfl) _ _)
noncomputable def okW (row:LI):Bool:=Nat.ble row.length 10&&match row[row.length-1]? with|some (.ofNat m)=>Nat.blt m 5|_=>false
def ckR (B rows:List LI):Bool:=Nat.ble rows.length 100&&rows.all okW&&rows.any (λrow=> !(nextOf B row).isEmpty)
def nxR (B rows:List LI):(List LI->Bool)->Bool:=stp (λrow=>(row.getD (row.length-1) 0).toNat) nextRows B rows
def nrk (p:Nat) (B:List LI) (k:LI->Bool):Bool:=pik B p λr=>stp Int.toNat (λ_ x=>x) B r λo=>onto r o λl=>isr (.ofNat p::l) λn=>okN r o n&&uL sI (lkN n) k
theorem nxR_e (B rows k):nxR B rows k=k (outRows B rows):=stp_e ..
theorem nrk_e (p B k):nrk p B k=(okKB B p&&k (lackK B p)):=by
 unfold nrk;rw [pik_e,stp_e,onto_e,isr_e,uL_e sI_e];rfl
def fO (B:List LI) (h:LI) (rf:Bool):Bool:=nxR B rows0 λr1=>nxR B r1 λr2=>nxR B r2 λr3=>nxR B r3 λr4=>cO B r1 r2 r3 r4 (ckR B) h rf
def fK (B:List LI) (k:LI->Bool):Bool:=nrk 0 B λl0=>nrk 1 B λl1=>nrk 2 B λl2=>nrk 3 B λl3=>nrk 4 B λl4=>uL sI (appI (appI (appI (appI (appI [] (decide (l0=[])) 0) (decide (l1=[])) 1) (decide (l2=[])) 2) (decide (l3=[])) 3) (decide (l4=[])) 4) k
theorem fO_e (B h rf):fO B h rf=cO B (itRows B 1) (itRows B 2) (itRows B 3) (itRows B 4) (ckR B) h rf:=by
 unfold fO;rw [nxR_e,nxR_e,nxR_e,nxR_e];rfl
theorem fK_e {B k} (h:fK B k=true):al5 (okKB B)=true/\k (appI (appI (appI (appI (appI [] (kingK B 0) 0) (kingK B 1) 1) (kingK B 2) 2) (kingK B 3) 3) (kingK B 4) 4)=true:=by
 unfold fK at h;rw [nrk_e,nrk_e,nrk_e,nrk_e,nrk_e,uL_e sI_e,<-Bool.and_assoc,<-Bool.and_assoc,<-Bool.and_assoc,<-Bool.and_assoc,kj] at h;exact h
def Fb (r0 r1 r2 r3 r4 c0 c1 c2 c3 c4:LI) (A:As):Bool:=(λlen B=>uL sI [len r0,len r1,len r2,len r3,len r4] λwl=>uL sI ((A.filter λa=>a.2.1==0).map (·.1)) λz=>uL sI ((rnds 9 A z).getD []) λh=>uB (aout (A.map λa=>(a.1,a.2.2)) 60 (A.map (·.1)) []==some true) λrf=>
 (cA A (!r0.contains 0&& !r1.contains 1&& !r2.contains 2&& !r3.contains 3&& !r4.contains 4) wl z h rf&&cD wl h z.isEmpty)&&(fO B h rf&&fK B λkg=>cK wl kg z.isEmpty (kq wl kg 0 c0&&kq wl kg 1 c1&&kq wl kg 2 c2&&kq wl kg 3 c3&&kq wl kg 4 c4))) (λl=>((l.length:Nat):Int)) [r0,r1,r2,r3,r4]
noncomputable def aB (f:Bool->Bool):Bool:=f false&&f true
noncomputable def rr (a:Bool) (o:Int) (l:LI):LI:=cond a (o::l) l
noncomputable def rs (a:Bool) (o:Int) (l:LI) (k:LI->Bool):Bool:=Bool.rec (k l) (k (o::l)) a
def rK (a b c d e:Bool) (k:LI->Bool):Bool:=rs e 4 [] λl=>rs d 3 l λl=>rs c 2 l λl=>rs b 1 l λl=>rs a 0 l k
def R5 (a b c d e:Bool):LI:=rr a 0 (rr b 1 (rr c 2 (rr d 3 (rr e 4 []))))
def ad (p:Int) (A:As) (a b c d e:Bool) (k:LI->As->Bool):Bool:=rK a b c d e λc=>uL sA (addA p c A) (k c)
theorem rK_e (a b c d e k):rK a b c d e k=k (R5 a b c d e):=by
 have r (a o l k):rs a o l k=k (rr a o l):=by cases a<;>rfl
 unfold rK;rw [r,r,r,r,r];rfl
theorem ad_e (p A a b c d e k):ad p A a b c d e k=k (R5 a b c d e) (addA p (R5 a b c d e) A):=(rK_e ..).trans (uL_e sA_e _ _)
theorem aB_at {f:Bool->Bool} (h:aB f=true) (x:Bool):f x=true:=by
 obtain ⟨g,h⟩:=Bool.and_eq_true_iff.mp h;cases x
 ·exact g
 ·exact h
def trl (x01 x02 x03 x04 x12 x13 x14 x23 x24 x34:Bool) (k:LI->LI->LI->LI->LI->Bool):Bool:=rK false x01 x02 x03 x04 λr0=>rK (!x01) false x12 x13 x14 λr1=>rK (!x02) (!x12) false x23 x24 λr2=>rK (!x03) (!x13) (!x23) false x34 λr3=>rK (!x04) (!x14) (!x24) (!x34) false (k r0 r1 r2 r3)
def tre (x01 x02 x03:Bool):Bool:=aB λx04=>ad 0 [] false (!x01) (!x02) (!x03) (!x04) λc0 A=>
 aB λx12=>aB λx13=>aB λx14=>ad 1 A x01 false (!x12) (!x13) (!x14) λc1 A=>aB λx23=>aB λx24=>ad 2 A x02 x12 false (!x23) (!x24) λc2 A=>
 aB λx34=>ad 3 A x03 x13 x23 false (!x34) λc3 A=>ad 4 A x04 x14 x24 x34 false λc4 A=>trl x01 x02 x03 x04 x12 x13 x14 x23 x24 x34 λr0 r1 r2 r3 r4=>Fb r0 r1 r2 r3 r4 c0 c1 c2 c3 c4 A
theorem tre_all:∀x01 x02 x03,tre x01 x02 x03=true:=by
 intro x01 x02 x03;cases x01<;>cases x02<;>cases x03<;>decide+kernel
noncomputable def g5 (a b c d e:Bool) (n:Nat):Bool:=[a,b,c,d,e].getD n false
theorem trl_e (x01 x02 x03 x04 x12 x13 x14 x23 x24 x34 k):trl x01 x02 x03 x04 x12 x13 x14 x23 x24 x34 k=k (R5 false x01 x02 x03 x04) (R5 (!x01) false x12 x13 x14) (R5 (!x02) (!x12) false x23 x24) (R5 (!x03) (!x13) (!x23) false x34) (R5 (!x04) (!x14) (!x24) (!x34) false):=
 (rK_e ..).trans ((rK_e ..).trans ((rK_e ..).trans ((rK_e ..).trans (rK_e ..))))
theorem row_key (p:Fin 5):∀a b c d e,g5 a b c d e p=false->(opps p).foldl (λl q=>cond (g5 a b c d e q) (l++[(q:Int)]) l) []=R5 a b c d e:=by decide+revert+kernel
theorem col_key:∀a b c d e,([0,1,2,3,4].filter (g5 a b c d e)).map (λq:Nat=>(q:Int))=R5 a b c d e:=by decide+kernel
theorem con_key (p:Fin 5):∀a b c d e,(R5 a b c d e).contains ((p:Nat):Int)=g5 a b c d e p:=by decide+revert+kernel
def RF (f:Nat->Bool):LI:=R5 (f 0) (f 1) (f 2) (f 3) (f 4)
theorem lt5 {P:Nat->Prop} (a:P 0) (b:P 1) (c:P 2) (d:P 3) (e:P 4) {p:Nat} (h:p<5):P p:=by
 rcases p with _|_|_|_|_|p
 ·exact a
 ·exact b
 ·exact c
 ·exact d
 ·exact e
 ·exact absurd h (vQ.mpr (Nat.le_add_left ..))
section
variable {b:Nat->Nat->Bool}
theorem rowB {p:Nat} (hp:p<5):b p p=false->rowI b p=RF (b p):=by
 have k (p:Fin 5):=row_key p (b p 0) (b p 1) (b p 2) (b p 3) (b p 4);exact lt5 (P:=λp=>b p p=false->rowI b p=RF (b p)) (k 0) (k 1) (k 2) (k 3) (k 4) hp
theorem colE (d:∀{p},p<5->b p p=false) {p:Nat} (hp:p<5):colB b p=RF λq=>b q p:=by
 have k (p:Fin 5) q:=con_key p (b q 0) (b q 1) (b q 2) (b q 3) (b q 4);have e {q} (hq:q<5):eB b p q=b q p:=by
  unfold eB;rw [rowB hq (d hq)];exact lt5 (P:=λp=>(RF (b q)).contains (p:Int)=b q p) (k 0 q) (k 1 q) (k 2 q) (k 3 q) (k 4 q) hp
 show colB b p=R5 (b 0 p) (b 1 p) (b 2 p) (b 3 p) (b 4 p);rw [<-e (q:=0) (by decide),<-e (q:=1) (by decide),<-e (q:=2) (by decide),<-e (q:=3) (by decide),<-e (q:=4) (by decide)];exact col_key ..
end
theorem Fb_c {r0 r1 r2 r3 r4 c0 c1 c2 c3 c4 s0 s1 s2 s3 s4 e0 e1 e2 e3 e4:LI} (h:Fb r0 r1 r2 r3 r4 c0 c1 c2 c3 c4 (addA 4 c4 (addA 3 c3 (addA 2 c2 (addA 1 c1 (addA 0 c0 [])))))=true) (h0:s0=r0) (h1:s1=r1) (h2:s2=r2) (h3:s3=r3) (h4:s4=r4) (k0:e0=c0) (k1:e1=c1) (k2:e2=c2) (k3:e3=c3) (k4:e4=c4):Fb s0 s1 s2 s3 s4 e0 e1 e2 e3 e4 (addA 4 e4 (addA 3 e3 (addA 2 e2 (addA 1 e1 (addA 0 e0 [])))))=true:=by
 subst h0 h1 h2 h3 h4 k0 k1 k2 k3 k4;exact h
theorem Fb_e {b:Nat->Nat->Bool} (h:Fb (rowI b 0) (rowI b 1) (rowI b 2) (rowI b 3) (rowI b 4) (colB b 0) (colB b 1) (colB b 2) (colB b 3) (colB b 4) (ndB' b)=true):(chA b=true/\chD b=true)/\chO b=true/\chK b=true:=by
 unfold Fb at h;dsimp only at h
 rw [uL_e sI_e,uL_e sI_e,uL_e sI_e,uB_e] at h;obtain ⟨h,h'⟩:=Bool.and_eq_true_iff.mp h;obtain ⟨h3,h4⟩:=Bool.and_eq_true_iff.mp h';obtain ⟨h1,h2⟩:=Bool.and_eq_true_iff.mp h;obtain ⟨k,h4⟩:=fK_e h4;exact ⟨⟨Eq.trans (by kernel_rfl) h1,Eq.trans (by kernel_rfl) h2⟩,Eq.trans (by kernel_rfl) ((fO_e ..).symm.trans h3),Bool.and_eq_true_iff.mpr ⟨k,Eq.trans (by kernel_rfl) h4⟩⟩
theorem ch_all (o:Nat->Int):(chA (bO o)=true/\chD (bO o)=true)/\chO (bO o)=true/\chK (bO o)=true:=by
 have h:=aB_at (tre_all (wn o 0 1) (wn o 0 2) (wn o 0 3)) (wn o 0 4);replace h:=aB_at (aB_at (aB_at ((ad_e ..).symm.trans h) (wn o 1 2)) (wn o 1 3)) (wn o 1 4)
 replace h:=aB_at (aB_at ((ad_e ..).symm.trans h) (wn o 2 3)) (wn o 2 4)
 replace h:=(ad_e ..).symm.trans ((ad_e ..).symm.trans (aB_at ((ad_e ..).symm.trans h) (wn o 3 4)))
 have d {p} (h:p<5):bO o p p=false:=lt5 (P:=λp=>bO o p p=false) rfl rfl rfl rfl rfl h;have r {p} (h:p<5):=rowB h (d h);have c {p} (h:p<5):=colE d h;exact Fb_e (Fb_c ((trl_e ..).symm.trans h) (r (by decide)) (r (by decide)) (r (by decide)) (r (by decide)) (r (by decide)) (c (by decide)) (c (by decide)) (c (by decide)) (c (by decide)) (c (by decide)))
end
structure LD (b:Nat->Nat->Bool):Prop where
 hc:(hdB b).length=0\/(hdB b).length=1\/(hdB b).length=2\/(hdB b).length=5
 h:∀i,i<=(hdB b).length->i<5->(wnB b).contains ((4-i:Nat):Int)=decide (i<(hdB b).length)
 hj:∀i,i<(hdB b).length->(wnB b).findIdx? (·==((4-i:Nat):Int))=some ((hdB b).getD i 0).toNat
 hcc:(!((hdB b).length==0))= !(zrB b).isEmpty
 hd:(List.range (hdB b).length).map (λi=>((((hdB b).getD i 0).toNat:Nat):Int))=hdB b
theorem LD.of {b:Nat->Nat->Bool} (h:chD b=true):LD b:=by
 unfold chD cD at h;simp only [kj] at h;obtain ⟨⟨⟨⟨h1,h2⟩,h3⟩,h4⟩,h5⟩:=h;have hc:(hdB b).length=0\/(hdB b).length=1\/(hdB b).length=2\/(hdB b).length=5:=by
  split at h1<;>simp_all
 refine ⟨hc,λi hi h5=>?_,λi hi=>?_,?_,?_⟩
 ·have:=al5_at h2 h5
  have e:Nat.ble i (hdB b).length=true:=Nat.ble_eq.mpr hi;rw [e] at this;simp only [Bool.not_true,Bool.false_or,beq_iff_eq] at this;rw [this,Bool.eq_iff_iff,decide_eq_true_iff,Nat.blt_eq]
 ·have:=al5_at h3 (p:=i) (by omega)
  have e:Nat.blt i (hdB b).length=true:=Nat.blt_eq.mpr hi;rw [e] at this;simp only [Bool.not_true,Bool.false_or,beq_iff_eq] at this;exact this
 ·have h4:(hdB b).isEmpty=(zrB b).isEmpty:=by simpa using h4
  rw [<-h4];cases hdB b<;>rfl
 ·refine ext_getElem (by simp) λi i1 i2=>?_
  rw [getElem_map,getElem_range,zY,zQ i2,Option.getD_some];have:=vy.mp h5 _ (getElem_mem i2);split at this
  ·rename_i e;rw [e];rfl
  ·cases this
theorem il (n m:Nat):((n:Int)==(m:Int))=Nat.beq n m:=by
 rw [Bool.eq_iff_iff,Nat.beq_eq,beq_iff_eq];omega
structure LO (b:Nat->Nat->Bool):Prop where
 hb4:∀s∈BB b,s.length<=4
 hc:∀k,k<4->chkRows (BB b) (itRows (BB b) k)=true
 h5:∀r∈itRows (BB b) 4,r.length=5
 le:(itRows (BB b) 4).length<=900
 odd:(itRows (BB b) 4).length%2=1
 one:((((itRows (BB b) 4).length:Nat):Int) !=1)=rfB b
 eq:rfB b=false->itRows (BB b) 4=[hdB b]
theorem LO.of {b:Nat->Nat->Bool} (h:chO b=true):LO b:=by
 unfold chO cO at h;simp only [kj] at h;obtain ⟨⟨⟨⟨⟨⟨h1,h2⟩,h3⟩,h4⟩,h5⟩,h6⟩,h7⟩:=h;refine ⟨λs hs=>zx (vy.mp h1 s hs),λk hk=>lt5 (P:=λk=>k<4->chkRows (BB b) (itRows (BB b) k)=true) (λ_=>h2.1.1.1) (λ_=>h2.1.1.2) (λ_=>h2.1.2) (λ_=>h2.2) (λh=>absurd h (by decide)) (Nat.lt_succ_of_lt hk) hk,λr hr=>Nat.eq_of_beq_eq_true (vy.mp h3 r hr),zx h4,Nat.eq_of_beq_eq_true h5,?_,λe=>?_⟩
 ·have h6:(!Nat.beq (itRows (BB b) 4).length 1)=rfB b:=by simpa using h6
  rw [<-h6];exact jk Bool.not (il _ 1)
 ·rw [e,Bool.false_or] at h7
  exact eq_of_beq h7
structure LK (b:Nat->Nat->Bool):Prop where
 ok:∀p,p<5->okK (BB b) p
 two:((((kgI b).length:Nat):Int)==2)=false
 one:((((kgI b).length:Nat):Int)==1)= !(zrB b).isEmpty
 w4:(wnB b).contains 4= !(zrB b).isEmpty
 H:∀p,p<5->((wvB b p==mxR (wvB b) 4)=true->(kgI b).contains (p:Int)=true)/\((wvB b p==mxR (wvB b) 4)=false->selI (eB b p)≠[])/\(selI (eB b p)≠[]->decide (((selI (eB b p)).map λq=>((q:Nat):Int)).filter (kgI b).contains=[])=false)
theorem ne_of_ie {α:Type} {l:List α} (h:(!l.isEmpty)=true):l≠[]:=λe=>by rw [e] at h;cases h
theorem LK.of {b:Nat->Nat->Bool} (h:chK b=true):LK b:=by
 unfold chK cK at h;simp only [kj] at h;obtain ⟨h1,⟨⟨h2,h3⟩,h4⟩,h5⟩:=h;refine ⟨λp hp=>?_,?_,?_,by simpa using h4,λp hp=>?_⟩
 ·have:=al5_at h1 hp
  unfold okKB okN at this;simp only [kj,decide_eq_true_iff] at this;obtain ⟨⟨⟨⟨⟨g1,g2⟩,g3⟩,g4⟩,g5⟩,g6⟩:=this;refine ⟨g1,g2,g3,g4,g5,λq hq=>?_⟩;have:=vy.mp g6 q hq;cases q with
  |ofNat m=>exact ⟨m,rfl,Nat.blt_eq.mp this⟩
  |negSucc m=>cases this
 ·rw [show (2:Int)=((2:Nat):Int) from rfl,il];simpa using h2
 ·rw [show (1:Int)=((1:Nat):Int) from rfl,il];simpa using h3
 ·have:=al5_at h5 hp
  unfold kq at this;rw [show mxR (λi=>(wnB b).getD i 0) 4=mxR (wvB b) 4 from rfl,lt5 (P:=λp=>(wnB b).getD p 0=wvB b p) rfl rfl rfl rfl rfl hp,kj] at this;obtain ⟨g1,g2⟩:=this;refine ⟨λe=>?_,λe=>?_,λe=>?_⟩
  ·rw [e] at g1;exact g1
  ·rw [e] at g1;exact λq=>ne_of_ie g1 (jk (map _) q)
  ·rcases Bool.or_eq_true _ _▸g2 with g|g
   ·exact absurd (map_eq_nil_iff.mp (isEmpty_iff.mp g)) e
   ·exact decide_eq_false (ne_of_ie g)
theorem la (o:Nat->Int):LA (bO o):=LA.of (ch_all o).1.1
theorem ld (o:Nat->Int):LD (bO o):=LD.of (ch_all o).1.2
theorem lO (o:Nat->Int):LO (bO o):=LO.of (ch_all o).2.1
theorem lk (o:Nat->Int):LK (bO o):=LK.of (ch_all o).2.2
noncomputable def mA (ad:List Nat) (i:Nat):Nat:=ad.getD i 0-216
noncomputable def mPS (em:Bool) (p0:Int×Nat) (pr:List (Int×Nat)):List (Int×Nat):=cond em [] (p0::pr)
def mW (ad:List Nat) (p:List Ns) (s:Nat):Lw:=⟨mA ad 0,s,mA ad 4,mA ad 8,mA ad 10,mA ad 1,mA ad 2,mA ad 3,λi=>[tk p 0,tk p 0+16,(nsAt p 2).n.headD 0,(nsAt p 2).n.headD 0+1].getD i 0⟩
def mX (ad:List Nat) (p:List Ns) (s:Nat):Lx:=⟨mW ad p s,λi=>(nsAt p 6).n.getD (i+1) 0,λi=>(nsAt p 6).v.getD i .none,λi=>(nsAt p 7).n.getD (i+1) 0,λi=>(nsAt p 7).v.getD i .none,λi=>[tk p 8,tk p 8+13].getD i 0,mA ad 24,mA ad 27⟩
noncomputable def mAs (ad:List Nat):List Nat:=[ad.getD 32 0,ad.getD 33 0,ad.getD 34 0,ad.getD 35 0,ad.getD 36 0,ad.getD 37 0,ad.getD 38 0,ad.getD 39 0,ad.getD 40 0,ad.getD 41 0]
def mN (ad:List Nat) (p:List Ns) (j:Nat):Nd:=ndOf (mAs ad) (nsAt p 9) j
def mNL (ad:List Nat) (p:List Ns):List Nd:=[mN ad p 0,mN ad p 1,mN ad p 2,mN ad p 3,mN ad p 4]
def mR (o:Nat->Int) (p:List Ns) (i:Nat):List Value:=rowF (bO o) (tauF (nsAt p 7).n) i
def mF (p:List Ns):Nat:=(nsAt p 7).n.getD 7 0+2
noncomputable def mSl (T:BT):Array (Option Value):=((T.get 0).getD default).slots
def mWv (o:Nat->Int) (p:List Ns) (i:Nat):Int:=(((mR o p i).length:Nat):Int)
def mWt (p:List Ns) (i:Nat):Nat:=(nsAt p 8).n.getD (i+1) 0
theorem mWv_eq (o:Nat->Int) (p:List Ns):mWv o p=wvB (bO o):=funext λi=>by
 unfold mWv mR wvB;rw [row_len]
theorem wl_ints (o:Nat->Int) (p:List Ns) (wt:Nat->Nat):IntsAre (wvL (mWv o p) wt) (wnB (bO o)):=by
 rw [mWv_eq];exact .cons _ _ (.cons _ _ (.cons _ _ (.cons _ _ (.cons _ _ .nil))))
theorem lt_H (o:Nat->Int) (p:List Ns):∀q,q<5->((mWv o p q==mxR (mWv o p) 4)=true->(kgI (bO o)).contains (q:Int)=true)/\((mWv o p q==mxR (mWv o p) 4)=false->selI (eB (bO o) q)≠[])/\(selI (eB (bO o) q)≠[]->decide (((selI (eB (bO o) q)).map λq=>((q:Nat):Int)).filter (kgI (bO o)).contains=[])=false):=by
 rw [mWv_eq];exact (lk o).H
def mBZ (o:Nat->Int) (ad:List Nat) (p:List Ns):List (Nat×Obj):=[(mA ad 15+216,lo (mR o p 0) (verF (bO o) 0)),(mA ad 16+216,lo (mR o p 1) (verF (bO o) 1)),(mA ad 17+216,lo (mR o p 2) (verF (bO o) 2)),(mA ad 18+216,lo (mR o p 3) (verF (bO o) 3)),(mA ad 19+216,lo (mR o p 4) (verF (bO o) 4))]
theorem bz_rows (o:Nat->Int) (ad:List Nat) (p:List Ns):RowsAre (mBZ o ad p) (BB (bO o)):=
 .cons _ _ (Nat.le_add_left ..) rfl (rowF_ints ..) (.cons _ _ (Nat.le_add_left ..) rfl (rowF_ints ..) (.cons _ _ (Nat.le_add_left ..) rfl (rowF_ints ..) (.cons _ _ (Nat.le_add_left ..) rfl (rowF_ints ..) (.cons _ _ (Nat.le_add_left ..) rfl (rowF_ints ..) .nil))))
def mKG (o:Nat->Int) (t:Nat):List Value:=appK (kgB (BB (bO o))) t 5
theorem kg_ints (o:Nat->Int) (t:Nat):IntsAre (mKG o t) (kgI (bO o)):=appK_ok (kgB (BB (bO o))) t 5
theorem kg_len (o:Nat->Int) (t:Nat):(mKG o t).length<=5:=appK_len ..
theorem nl_FA {o:Nat->Int} {as:List Nat} {p:List Ns} (ad:List Nat) (h1:(nd5 as (nsAt p 9)).map absF=asF (eB (bO o)) 5 0 []) (h2:((nd5 as (nsAt p 9)).map (·.k)).Nodup) (h3:intsIn (nd5 as (nsAt p 9))):FA (bO o) (mNL ad p):=FA.of (as':=mAs ad) h1 h2 h3
theorem iLook_es:∀{N:List Nd},(N.map (·.k)).Nodup->∀x∈N,iLook (N.map Nd.e) x.k=some (.ref (x.a+216))
 |[],_,_,h=>nomatch h
 |y::N,hn,x,h=>by
  rw [kQ,vX] at hn;unfold iLook;rw [kQ,find?_cons];rcases vz.mp h with rfl|h
  ·have:(x.e.1==x.k)=true:=by simp [Nd.e]
   rw [this];rfl
  ·have hne:(y.e.1==x.k)=false:=by
    simp only [Nd.e,kv];intro e;exact hn.1 (e▸zW h)
   rw [hne];exact iLook_es hn.2 x h
theorem rd_hx {o:Nat->Int} {N:List Nd} (h:FA (bO o) N):∀x∈N,x.Rl (N.map Nd.e) (N.map (·.k)):=λx hx=>by
 have ha:absF x∈ndB' (bO o):=by rw [<-h.abs];exact zW hx
 obtain ⟨g1,g2,g3⟩:=(la o).nds _ ha;refine ⟨iLook_es h.nd x hx,λv hv=>?_,g2,by simpa [absF] using g1⟩;obtain ⟨q,t,rfl⟩:=h.iv x hx v hv;refine ⟨q,t,rfl,?_⟩;rw [abs_k h];exact g3 q (ky.mpr ⟨_,hv,rfl⟩)
theorem rd_hr (N:List Nd):∀v∈rdy N,∃q tq,v= .int q tq/\q∈N.map (·.k):=λv hv=>by
 obtain ⟨x,hx,rfl⟩:=ky.mp hv;exact ⟨_,_,rfl,zW (mem_filter.mp hx).1⟩
theorem rd_h {o:Nat->Int} {N:List Nd} (h:FA (bO o) N):rnds 9 (N.map absF) ((rdy N).map iv)=some (hdB (bO o)):=by
 rw [h.abs,abs_rdy h];exact (la o).rn
theorem rd_z {o:Nat->Int} {N:List Nd} (h:FA (bO o) N):(rdy N).isEmpty=(zrB (bO o)).isEmpty:=by
 rw [<-abs_rdy h];cases rdy N<;>rfl
theorem pr_q {o:Nat->Int} {N:List Nd} (h:FA (bO o) N):aout (N.map Nd.ad) 60 (N.map (·.k)) []=some (rfB (bO o)):=by
 rw [abs_ad h,abs_k h];exact (la o).ao
def cKg (P:Params) (bt nb:Nat) (bz:List (Nat×Obj)) (B:List (List Int)) (lf:Nat) (lc:List (Str×Addr)) (lE:List DictEntry) (ln:Nat) (lsl:Array (Option Value)):Ct:={(fkg P bt nb bz B lf lc lE ln lsl).ct with fact:=λ_ ns=>ns.z=[]}
theorem cKg_ok (w:World) (bt nb:Nat) (bz:List (Nat×Obj)) (B:List (List Int)) (lf:Nat) (lc:List (Str×Addr)) (lE:List DictEntry) (ln:Nat) (lsl:Array (Option Value)) (hB:RowsAre bz B) (hbl:B.length=5) (hb5:∀s∈B,s.length<=4) (hk:∀p,p<5->okK B p):(cKg w.params bt nb bz B lf lc lE ln lsl).Ok (ktOf w.params) prg w 600 7500:=
 (fkg_ok w bt nb bz B lf lc lE ln lsl hB hbl (λs hs=>Nat.le_succ_of_le (hb5 s hs)) hk).re (λ_ ns=>{ns with z:=[]}) rfl rfl rfl rfl rfl rfl λas ns hk h=>⟨rfl,rfl,rfl,rfl,rfl,rfl⟩
theorem mFX_len (p:List Ns):(mFX p).length=15:=rfl
theorem own_pr {α:Type} {a b p:α} {l1 l2:List α} (h:p∈a::b::(l1++l2++[])):p∈[a,b]++(l1++l2):=by
 rw [jx] at h;exact h
theorem rows_len {z:List (Nat×Obj)} {R:List (List Int)} (h:RowsAre z R):(refsOf z).length=R.length:=by
 unfold refsOf;rw [zJ];induction h with
 |nil=>rfl
 |cons xs n h1 h2 h3 h4 ih=>rw [jY,jY,ih]
theorem or6 {ps:List (Int×Nat)} {p q:List Ns} {vs:List Value} {o:Nat->Int} (h:FN ps p) (hq:q=p.take 6) (hI:IntsAre vs (((mLS q).map unV0).map λp=>clkS p.1)) (ho:o=oS ps):∀i,i<15->vs[i]?=some (.int (o i) (tokV (vs.getD i .none))):=by
 have e:mLS q=mLS p:=by
  rw [hq];unfold mLS mV mFX tk;rw [nsAt_take (by decide),nsAt_take (by decide)]
 rw [e] at hI;rw [ho];exact h.os hI
theorem kg_len2 (o:Nat->Int) (t:Nat):(mKG o t).length=(kgI (bO o)).length:=(kg_ints o t).length
theorem or17 {o:Nat->Int} {z:List (Nat×Obj)} (h:RowsAre z (itRows (BB (bO o)) 4)):(((refsOf z).length:Nat):Int).fmod ((1+1:Nat):Int)=1:=by
 rw [rows_len h,fm_nat,(lO o).odd];rfl
theorem or19 {o:Nat->Int} {z:List (Nat×Obj)} (h:RowsAre z (itRows (BB (bO o)) 4)):((((refsOf z).length:Nat):Int) !=1)=rfB (bO o):=by
 rw [rows_len h];exact (lO o).one
theorem or16 {o:Nat->Int} {z:List (Nat×Obj)} (h:RowsAre z (itRows (BB (bO o)) 4)):(refsOf z).length<=100000:=by
 rw [rows_len h];exact zZ (lO o).le (by decide)
theorem or23 (o:Nat->Int) (t:Nat):((((mKG o t).length:Nat):Int)==2)=false:=by rw [kg_len2];exact (lk o).two
theorem or25 (o:Nat->Int) (t:Nat):((((mKG o t).length:Nat):Int)==1)= !(zrB (bO o)).isEmpty:=by rw [kg_len2];exact (lk o).one
theorem rdN_ok (w:World) (c:Rd) {o:Nat->Int} {ad:List Nat} {p:List Ns} (F:FA (bO o) (mNL ad p)) (tpo tnf mr fn:Nat) {hd:List Int} {zr:Bool} (he:c.es=(mNL ad p).map Nd.e) (hh:hdB (bO o)=hd) (hz:(zrB (bO o)).isEmpty=zr):(cRD w.params c (mN ad p 0) (mN ad p 1) (mN ad p 2) (mN ad p 3) (mN ad p 4) tpo tnf mr (rdy (mNL ad p)) fn hd zr).Ok (ktOf w.params) prg w 600 7500:=
 rd_ok w c _ _ _ _ _ tpo tnf mr (rdy (mNL ad p)) fn hd zr (by rw [he];exact rd_hx F) F.nd (rd_hr _) ((rd_h F).trans (jk some hh)) ((rd_z F).trans hz)
section
section
variable (P:Params) (w:World) (em:Bool) (p0:Int×Nat) (pr:List (Int×Nat)) (n:Nat) (o:Nat->Int) (hd:List Int)
def lwN:Sp:={c:= .call (.ref 214) ⟨[.ref 215],[]⟩,fr:=some [],z:=[(215,lo ((mPS em p0 pr).map vI) n)],i:=[],r:=λas ns=> .ret (.ok (.ret (.bool true))),ors:=[(λX=>cSlice true 215 (X.a 5) ((mPS em p0 pr).map vI) n .none (.int 15 (X.t 0+17)) (((mPS em p0 pr).map vI).take 15),[5]),(λX=>(cNM P (mA X.ad 7) (mA X.ad 6) (mA X.ad 8) (mA X.ad 9) (mA X.ad 0) (((mPS em p0 pr).map vI).take 15) [] 0 0 0 0 ((mPS em p0 pr).take 15) false 0 .none).own (mA X.ad 6+216,lo (((mPS em p0 pr).map vI).take 15) 0) [],[6,7,8,9]),(λX=>cLenF false (X.a 8) (mV X.pns) (0+((mPS em p0 pr).take 15).length),[8]),(λX=>cSlice false (X.a 4) (X.a 11) (mFX X.pns) 0 (.int (mV X.pns).length ((X.s 3).g 1+1)) .none ((mFX X.pns).drop (mV X.pns).length),[11,4]),(λX=>cAdd false (X.a 8) (X.a 12) (mV X.pns) ((mFX X.pns).drop (mV X.pns).length) (0+((mPS em p0 pr).take 15).length) 0,[12,8]),(λX=>(cLK2 P (mW X.ad X.pns 215) (mA X.ad 14) (mA X.ad 13) (mLS X.pns) 0 ((mLS X.pns).map unV0) ⟨[]⟩).own (mA X.ad 13+216,lo (mLS X.pns) 0) [],[13,0,14,10]),(λX=>cPLb P (mW X.ad X.pns 215) (mA X.ad 22) (mA X.ad 20) (mA X.ad 15) (mA X.ad 16) (mA X.ad 17) (mA X.ad 18) (mA X.ad 19) (λi=>(X.s 6).g (i+1)) (λi=>(X.s 6).w i) ((X.s 6).g 5) ⟨[]⟩ (mOS X.pns) 0 (0+((mLS X.pns).map unV0).length) o,[0,22,15,16,17,18,19,2,1,20,10]),(λX=>(wnc P (mA X.ad 23) (mA X.ad 24) (mA X.ad 25) (mA X.ad 0) (mA X.ad 20) (mA X.ad 15) (mA X.ad 16) (mA X.ad 17) (mA X.ad 18) (mA X.ad 19) 0 (verF (bO o) 0) (verF (bO o) 1) (verF (bO o) 2) (verF (bO o) 3) (verF (bO o) 4) (mR o X.pns 0) (mR o X.pns 1) (mR o X.pns 2) (mR o X.pns 3) (mR o X.pns 4)).ct,[23,24,25,20,15,16,17,18,19]),(λX=>((cALL P (mX X.ad X.pns 215) (mA X.ad 31) (mA X.ad 20) (mA X.ad 15) (mA X.ad 16) (mA X.ad 17) (mA X.ad 18) (mA X.ad 19) (mA X.ad 26) (mA X.ad 29) (X.t 8+4) (X.t 8+6) (X.t 8+9) (X.t 8+12) 0 0 (X.t 8+7) (X.t 8+10) 4 (mF X.pns) 0 (verF (bO o) 0) (verF (bO o) 1) (verF (bO o) 2) (verF (bO o) 3) (verF (bO o) 4) ⟨[]⟩ (mR o X.pns 0) (mR o X.pns 1) (mR o X.pns 2) (mR o X.pns 3) (mR o X.pns 4) (eB (bO o)) (some (.int ((4:Nat):Int) ((X.s 7).g 12)))).own (mA X.ad 26+216,sD P (X.t 8+4) (X.t 8+6) (X.t 8+9) (X.t 8+12) (mA X.ad 29+216) .none 0 (X.t 8+7) 0 (X.t 8+10) 4) [(mA X.ad 27+216,sO (mA X.ad 26+216))]).own (mA X.ad 27+216,sO (mA X.ad 26+216)) [],[27,26,0,31,2,1,20,15,16,17,18,19,29]),(λX=>(cPrN P (mA X.ad 27) (mA X.ad 26) (mA X.ad 29) (X.t 8+4) (X.t 8+6) (X.t 8+9) (X.t 8+12) 0 0 (X.t 8+7) (X.t 8+10) 4 (mN X.ad X.pns 0) [(mN X.ad X.pns 1),(mN X.ad X.pns 2),(mN X.ad X.pns 3),(mN X.ad X.pns 4)] 5 (mA X.ad 0) ((mX X.ad X.pns 215).B P++[en P [114,101,102,117,115,101,100] (X.t 9) (.bool false)]) (mF X.pns+1) (mW X.ad X.pns 215).lc ⟨[]⟩).owns ([(mA X.ad 27+216,sO (mA X.ad 26+216)),(mA X.ad 29+216,idO ((mNL X.ad X.pns).map Nd.e) 5)]++((mNL X.ad X.pns).map Nd.i++(mNL X.ad X.pns).map Nd.l)) [],[27,29,32,33,34,35,36,37,38,39,40,41,26,0]),(λX=>cSorted false (X.a 24) (wvL (mWv o X.pns) (mWt X.pns)) 5 (isort (wnB (bO o))),[24]),(λX=>cLNe false false (X.a 43) (X.a 44) (X.s 11).v [.int 0 (X.t 11+0),.int 1 (X.t 11+1),.int 2 (X.t 11+2),.int 3 (X.t 11+3),.int 4 (X.t 11+4)] ((X.s 11).g 1) 0 false,[43,44]),(λX=>(cRD P ⟨(mX X.ad X.pns 215),(mA X.ad 26),(mA X.ad 29),(mA X.ad 45),(mA X.ad 42),X.t 8+4,X.t 8+6,X.t 8+9,X.t 8+12,4,(mNL X.ad X.pns).map Nd.e,5,false,X.t 9,X.t 12,mSl X.T⟩ (mN X.ad X.pns 0) (mN X.ad X.pns 1) (mN X.ad X.pns 2) (mN X.ad X.pns 3) (mN X.ad X.pns 4) (X.t 8+7) (X.t 8+10) ((X.s 10).g 1) (rdy (mNL X.ad X.pns)) (mF X.pns+2) hd false).owns ([(mA X.ad 27+216,sO (mA X.ad 26+216)),(mA X.ad 29+216,idO ((mNL X.ad X.pns).map Nd.e) 5)]++(mNL X.ad X.pns).map Nd.l) [],[27,29,37,38,39,40,41,0,45,26,42,32,33,34,35,36]),(λX=>(cDU P (mX X.ad X.pns 215) (mA X.ad 48) (mA X.ad 47) false (X.t 9) (X.t 12) (mA X.ad 45) (!false) ((X.s 13).g 1) ((X.s 13).w 0) (X.t 13) (mA X.ad 46) ((X.s 13).g 2+1) (mSl X.T) (λi=>X.t 13+1+i) 0 (wvL (mWv o X.pns) (mWt X.pns)) 5 hd).owns [(mA X.ad 24+216,lo (wvL (mWv o X.pns) (mWt X.pns)) 5),((mA X.ad 47)+216,tu [.int 4 (X.t 13+1),.int 3 (X.t 13+2),.int 2 (X.t 13+3),.int 1 (X.t 13+4),.int 0 (X.t 13+5)])] [],[24,47,0,48,46]),(λX=>cLNe false false (X.a 45) (X.a 46) ([]++(X.s 13).v.drop 1) (X.s 14).v ((X.s 13).g 3) ((X.s 14).g 2) false,[45,46]),(λX=>cOrd P (mA X.ad 20) 0 (mBZ o X.ad X.pns) (BB (bO o)),[20,15,16,17,18,19]),(λX=>cLenF false (X.a 49) (refsOf (X.s 16).z) ((X.s 16).g 1),[49]),(λX=>iox "int.__mod__" (((refsOf (X.s 16).z).length:Nat):Int) 2 ((X.s 17).g 1+1) (X.t 17) 1,[]),(λX=>cLenF false (X.a 49) (refsOf (X.s 16).z) ((X.s 16).g 1),[49]),(λX=>iop "int.__ne__" (((refsOf (X.s 16).z).length:Nat):Int) 1 ((X.s 19).g 1+1) (X.t 19) false,[]),(λX=>cL1Ne (X.a 49) (X.a 50) (X.a 45) (X.s 16).z ((X.s 16).g 1) 0 (lo ([]++(X.s 13).v.drop 1) ((X.s 13).g 3)),[49,50,45]),(λX=>(cKg P (mA X.ad 20) 0 (mBZ o X.ad X.pns) (BB (bO o)) (mA X.ad 0) (mW X.ad X.pns 215).lc (lsE P (mX X.ad X.pns 215) false (X.t 9) (X.t 12) (mA X.ad 45) (!false) ((X.s 13).g 1) ((X.s 13).w 0) (X.t 13) (mA X.ad 46) ((X.s 14).g 1) (.int 0 (X.t 13+5)) (X.t 16) (mA X.ad 49) false 0 .none) ((X.s 13).g 2+3) (mSl X.T)).owns (((mA X.ad 20)+216,lo (refsOf (mBZ o X.ad X.pns)) 0)::mBZ o X.ad X.pns) [],[20,15,16,17,18,19,0]),(λX=>cLenF false (X.a 51) (mKG o ((X.s 22).g 1)) ((X.s 22).g 2),[51]),(λX=>iop "int.__eq__" (((mKG o ((X.s 22).g 1)).length:Nat):Int) 2 ((X.s 23).g 1+1) (X.t 23) false,[]),(λX=>cLenF false (X.a 51) (mKG o ((X.s 22).g 1)) ((X.s 22).g 2),[51]),(λX=>iop "int.__eq__" (((mKG o ((X.s 22).g 1)).length:Nat):Int) 1 ((X.s 25).g 1+1) (X.t 25) (!false),[]),(λX=>cContains false (X.a 24) (wvL (mWv o X.pns) (mWt X.pns)) 5 4 (X.t 26) (!false),[24]),(λX=>(cLT P ⟨(mX X.ad X.pns 215),(mA X.ad 53),(mA X.ad 20),λi=>[(mA X.ad 15),(mA X.ad 16),(mA X.ad 17),(mA X.ad 18),(mA X.ad 19)].getD i 0,(mA X.ad 51),false,X.t 9,X.t 12,(mA X.ad 45),!false,((X.s 13).g 1),((X.s 13).w 0),X.t 13,(mA X.ad 46),(X.s 14).g 1,.int 0 (X.t 13+5),X.t 16,(mA X.ad 49),((X.s 22).p 0).slots,0,verF (bO o),5,((X.s 22).g 2),mR o X.pns,(mKG o ((X.s 22).g 1)),mWv o X.pns,mWt X.pns⟩ 0 5 false 0 .none ((X.s 13).g 2+3) (some (.int 4 ((X.s 9).g 11)))).owns [(mA X.ad 24+216,lo (wvL (mWv o X.pns) (mWt X.pns)) 5),(mA X.ad 3+216,cellO (.ref ((mA X.ad 51)+216))),((mA X.ad 51)+216,lo (mKG o ((X.s 22).g 1)) ((X.s 22).g 2))] [],[24,3,51,0,53,2,1,20,15,16,17,18,19])],tt:=40,s:=54,m:=28,tr:=match em with|false=>[0,1,1,1,1,1,1001,1001,1001,1001,7,7,7,8,8,1,1,10,10,10,1,1,1,1,0,0,1,5,5,5,5,9,13,9,9,14,14,14,15,2,2,0,0,22,22,22,22,22,22,22,22,22,22,23,2,21,21,21,24,24,1,1,26,26,26,0,0,0,0,0,0,0,0,0,0,0,0,0,0,0,0,0,0,0,0,0,0,0,0,28,0,28,0,0,0,0,0,0,29,29,29,29,29,28,0,0,0,28,0,28,0,28,0,0,0,28,0,27,27,27,29,28,0,0,0,28,0,28,0,28,0,0,0,28,0,27,27,27,29,28,0,0,0,28,0,28,0,28,0,0,0,28,0,27,27,27,29,28,0,0,0,28,0,28,0,28,0,0,0,28,0,27,27,27,29,1,1,0,0,31,31,31,31,31,31,31,31,31,31,32,1,1,1,28,0,0,0,28,0,0,0,28,0,0,0,0,28,27,0,1,0,0,1,44,45,44,44,1,1,1,1,48,48,48,49,1,1,46,47,46,46,0,2,0,1,1,0,0,1,1,0,0,1,1,1,1,50,51,50,50,0,2,0,4,4,4,0,0,4,0,0,4,1,25,25,25,0,0,53,53,53,53,53,53,53,53,53,53,54]|true=>[0,1,1,1,1,1,1001,1001,1001,1001,7,7,7,8,8,1,1,10,1,1,1,1,0,0,1,5,5,5,5,9,13,9,9,14,14,14,15,2,2,0,0,22,22,22,22,22,22,22,22,22,22,23,2,21,21,21,24,24,1,1,26,26,26,0,0,0,0,0,0,0,0,0,0,0,0,0,0,0,0,0,0,0,0,0,0,0,0,28,0,28,0,0,0,0,0,0,29,29,29,29,29,28,0,0,0,28,0,28,0,28,0,0,0,28,0,27,27,27,29,28,0,0,0,28,0,28,0,28,0,0,0,28,0,27,27,27,29,28,0,0,0,28,0,28,0,28,0,0,0,28,0,27,27,27,29,28,0,0,0,28,0,28,0,28,0,0,0,28,0,27,27,27,29,1,1,0,0,31,31,31,31,31,31,31,31,31,31,32,1,1,1,28,0,0,0,28,0,0,0,28,0,0,0,0,28,27,0,1,0,0,1,44,45,44,44,1,1,1,1,48,48,48,49,1,1,46,47,46,46,0,2,0,1,1,0,0,1,1,0,0,1,1,1,1,50,51,50,50,0,2,0,4,4,4,0,0,4,0,0,4,1,25,25,25,0,0,53,53,53,53,53,53,53,53,53,53,54],cs:=[2,3,1,1,1,2,8,3,23,0,1,1,2,2,1,0,1,0,3,0,3,0,1,0,1,0,1,10],ns:=λ_ _ N=>⟨[((N 27).t)],[],[],[]⟩}
theorem lwN_0:(lwN P false p0 pr n o hd).E P 540 7200:=by kernel_rfl
theorem lwN_1:(lwN P true p0 pr n o hd).E P 540 7200:=by kernel_rfl
theorem lwN_ok (hps:(mPS em p0 pr).length<=900) (ho:o=oS (mPS em p0 pr)) (hr:rfB (bO o)=false) (hh:hdB (bO o)=hd):OK (lwN · em p0 pr n o hd) w 540 7200:=
 okF 28 (qY [0] (λ_=>upto_ok _ w _ _ true _ _ _ _ 15 _ (by rw [zJ];exact zZ hps (by decide)))<|qN (λ_=>(Ct.Ok.own (nm_ok w _ _ _ _ _ _ _ ((mPS em p0 pr).take 15) 0 [] 0 0 false 0 .none map_take.symm (by rw [length_take];show 0+_<=_;omega)) (λp hp=> .inl (jJ.mp hp)) (λ_ _ g=>g.1)).m)<|qI (λ_ hF=>fq hF 1 λf1=>lenF_ok _ w _ _ _ _ _ _ (zZ (FN.lenV (ps:=(mPS em p0 pr)) f1.2) (by decide)))<|qN (λX=>from_ok _ w _ _ false _ _ (mFX X.pns) 0 _ _ (zZ (Nat.le_of_eq (mFX_len _)) (by decide)))<|qI (λ_ hF=>fq hF 1 λf1=>add_ok _ w _ _ _ _ _ _ _ _ _ (by have:=FN.lenV (ps:=(mPS em p0 pr)) f1.2;rw [length_drop,mFX_len];omega))<|qI (λX hF=>fq hF 1 λf1=>by
   have F:FN (mPS em p0 pr) X.pns:=f1.2;exact (Ct.Ok.own (lk2_ok w _ _ _ _ _ _ _ F.ls.1 F.lsLt F.lsLen) (λp hp=> .inl (jJ.mp hp)) (λ_ _ g=>g.1)).m)<|qI (λX hF=>fq hF 1 λf1=>fq2 hF 5 λp5_ _ g5_=>by
   have F:FN (mPS em p0 pr) X.pns:=f1.2;exact (plb_ok w _ _ _ _ _ _ _ _ _ _ _ _ _ _ _ o (λi=>tokV ((mOS X.pns).getD i .none)) (or6 F p5_ g5_.2 ho)).m)<|qN (λ_=>(wnc_ok w _ _ _ _ _ _ _ _ _ _ _ _ _ _ _ _ _ _ _ _ _ (zZ (row_le ..) (by decide)) (zZ (row_le ..) (by decide)) (zZ (row_le ..) (by decide)) (zZ (row_le ..) (by decide)) (zZ (row_le ..) (by decide))).m)<|qN (λ_=>(Ct.Ok.own (Ct.Ok.own (all_ok w _ _ _ _ _ _ _ _ _ _ _ _ _ _ _ _ _ _ _ _ _ _ _ _ _ _ _ _ _ _ _ _ (rowI (bO o)) (rowF_ints ..) (rowF_ints ..) (rowF_ints ..) (rowF_ints ..) (rowF_ints ..) (eB (bO o)) (λ_ _ _=>rfl) (la o).e0 (la o).l5 _) (λp hp=>own2 hp) (λ_ _ g=>g.1)) (λp hp=> .inl (jJ.mp hp)) (λ_ _ g=>g.1)).m)<|qI (λX hF=>fq hF 8 λf8=>by
   have F:=nl_FA X.ad f8.2.1 f8.2.2.1 f8.2.2.2.1;exact ((cPrN_ok w _ _ _ _ _ _ _ _ _ _ _ _ _ _ _ _ _ _ _ _ 60 (by decide) (zx rfl) F.iv ((pr_q F).trans (jk some hr))).owns (λ_ _ g=>g) _ _ (λp hp=> .inl (own_pr hp))).m)<|qN (λX=>sorted_ok _ w _ _ _ _ _ (wl_ints o X.pns _) (zx rfl))<|qI (λ_ hF=>fq hF 10 λf10=>lne_ok _ w _ _ (by decide) _ _ _ _ _ _ f10 (.cons _ _ (.cons _ _ (.cons _ _ (.cons _ _ (.cons _ _ .nil))))) ((la o).so.trans hr))<|qI (λX hF=>fq hF 8 λf8=>by
   have F:=nl_FA X.ad f8.2.1 f8.2.2.1 f8.2.2.2.1;exact Ct.Ok.mono (Ct.Ok.owns (rdN_ok w _ F _ _ _ _ (by rfl) hh ((la o).zr hr)) (λ_ _ g=>g.1) _ _ (λp hp=> .inl hp)) (by decide) (by decide))<|qN (λX=>((du_ok w _ _ _ _ _ _ _ _ _ _ _ _ _ _ _ _ _ _ (wl_ints o X.pns _) (zx rfl) (hdB (bO o)).length (ld o).hc (λi=>((hdB (bO o)).getD i 0).toNat) (ld o).h (ld o).hj ((ld o).hcc.trans (jk Bool.not ((la o).zr hr))) ((ld o).hd.trans hh)).owns (λ_ _ g=>g.1) _ _ (λp hp=> .inl hp)).m)<|qI (λ_ hF=>fq hF 12 λf12=>fq hF 13 λf13=>lne_ok _ w _ _ (by decide) _ _ _ _ _ _ f12.2 f13.2 (by simp))<|qN (λX=>(ord_ok w _ _ _ _ (bz_rows o X.ad X.pns) (lO o).hb4 (jv 5) (lO o).hc (lO o).h5).m)<|qI (λ_ hF=>fq hF 15 λf15=>lenF_ok _ w _ _ _ _ _ _ (or16 f15))<|qI (λ_ hF=>fq hF 15 λf15=>(iox_mod w 1 _ _ (or17 f15)).m)<|qI (λ_ hF=>fq hF 15 λf15=>lenF_ok _ w _ _ _ _ _ _ (or16 f15))<|qI (λ_ hF=>fq hF 15 λf15=>(iop_ne w _ _ ((or19 f15).trans hr)).m)<|qC (λX hF=>λzq hzq=>nsAt_z (by rw [FOf_len (tok:=0) (Z:=[]) (λ_ h=>F0_len h) hF];exact zx rfl) zq hzq) (λ_ hF=>fq hF 12 λf12=>fq hF 15 λf15=>l1ne_ok _ w _ _ (by decide) _ _ _ _ _ ((((lO o).eq hr).trans (jk (λx=>[x]) hh))▸f15) (IsL.of f12.2))<|qN (λX=>((cKg_ok w _ _ _ _ _ _ _ _ _ (bz_rows o X.ad X.pns) rfl (lO o).hb4 (lk o).ok).owns (λ_ _ g=>g) _ _ (λp hp=> .inl hp)).m)<|qN (λ_=>lenF_ok _ w _ _ _ _ _ _ (zZ (kg_len ..) (by decide)))<|qN (λ_=>(iop_eq w _ _ (or23 ..)).m)<|qN (λ_=>lenF_ok _ w _ _ _ _ _ _ (zZ (kg_len ..) (by decide)))<|qN (λ_=>(iop_eq w _ _ ((or25 ..).trans (jk Bool.not ((la o).zr hr)))).m)<|qN (λX=>contains_ok _ w _ _ _ _ _ _ _ (wl_ints o X.pns _) ((lk o).w4.trans (jk Bool.not ((la o).zr hr))))<|qN (λX=>((lt_ok w _ (rowI (bO o)) (λ_ _=>rowF_ints ..) (eB (bO o)) (λ_ _ _ _=>rfl) (kg_ints ..) (lt_H o X.pns) 5 0 _ _ _ _ _ rfl).owns (λ_ _ g=>g) _ _ (λp hp=> .inl hp)).m)<|trivial) (e:=by cases em;exact lwN_0 ..;exact lwN_1 ..)
end
end
section
section
variable (P:Params) (w:World) (em:Bool) (zr:Bool) (p0:Int×Nat) (pr:List (Int×Nat)) (n:Nat) (o:Nat->Int) (hd:List Int)
def lwY:Sp:={c:= .call (.ref 214) ⟨[.ref 215],[]⟩,fr:=some [],z:=[(215,lo ((mPS em p0 pr).map vI) n)],i:=[],r:=λas ns=> .ret (.ok (.ret (.bool true))),ors:=[(λX=>cSlice true 215 (X.a 5) ((mPS em p0 pr).map vI) n .none (.int 15 (X.t 0+17)) (((mPS em p0 pr).map vI).take 15),[5]),(λX=>(cNM P (mA X.ad 7) (mA X.ad 6) (mA X.ad 8) (mA X.ad 9) (mA X.ad 0) (((mPS em p0 pr).map vI).take 15) [] 0 0 0 0 ((mPS em p0 pr).take 15) false 0 .none).own (mA X.ad 6+216,lo (((mPS em p0 pr).map vI).take 15) 0) [],[6,7,8,9]),(λX=>cLenF false (X.a 8) (mV X.pns) (0+((mPS em p0 pr).take 15).length),[8]),(λX=>cSlice false (X.a 4) (X.a 11) (mFX X.pns) 0 (.int (mV X.pns).length ((X.s 3).g 1+1)) .none ((mFX X.pns).drop (mV X.pns).length),[11,4]),(λX=>cAdd false (X.a 8) (X.a 12) (mV X.pns) ((mFX X.pns).drop (mV X.pns).length) (0+((mPS em p0 pr).take 15).length) 0,[12,8]),(λX=>(cLK2 P (mW X.ad X.pns 215) (mA X.ad 14) (mA X.ad 13) (mLS X.pns) 0 ((mLS X.pns).map unV0) ⟨[]⟩).own (mA X.ad 13+216,lo (mLS X.pns) 0) [],[13,0,14,10]),(λX=>cPLb P (mW X.ad X.pns 215) (mA X.ad 22) (mA X.ad 20) (mA X.ad 15) (mA X.ad 16) (mA X.ad 17) (mA X.ad 18) (mA X.ad 19) (λi=>(X.s 6).g (i+1)) (λi=>(X.s 6).w i) ((X.s 6).g 5) ⟨[]⟩ (mOS X.pns) 0 (0+((mLS X.pns).map unV0).length) o,[0,22,15,16,17,18,19,2,1,20,10]),(λX=>(wnc P (mA X.ad 23) (mA X.ad 24) (mA X.ad 25) (mA X.ad 0) (mA X.ad 20) (mA X.ad 15) (mA X.ad 16) (mA X.ad 17) (mA X.ad 18) (mA X.ad 19) 0 (verF (bO o) 0) (verF (bO o) 1) (verF (bO o) 2) (verF (bO o) 3) (verF (bO o) 4) (mR o X.pns 0) (mR o X.pns 1) (mR o X.pns 2) (mR o X.pns 3) (mR o X.pns 4)).ct,[23,24,25,20,15,16,17,18,19]),(λX=>((cALL P (mX X.ad X.pns 215) (mA X.ad 31) (mA X.ad 20) (mA X.ad 15) (mA X.ad 16) (mA X.ad 17) (mA X.ad 18) (mA X.ad 19) (mA X.ad 26) (mA X.ad 29) (X.t 8+4) (X.t 8+6) (X.t 8+9) (X.t 8+12) 0 0 (X.t 8+7) (X.t 8+10) 4 (mF X.pns) 0 (verF (bO o) 0) (verF (bO o) 1) (verF (bO o) 2) (verF (bO o) 3) (verF (bO o) 4) ⟨[]⟩ (mR o X.pns 0) (mR o X.pns 1) (mR o X.pns 2) (mR o X.pns 3) (mR o X.pns 4) (eB (bO o)) (some (.int ((4:Nat):Int) ((X.s 7).g 12)))).own (mA X.ad 26+216,sD P (X.t 8+4) (X.t 8+6) (X.t 8+9) (X.t 8+12) (mA X.ad 29+216) .none 0 (X.t 8+7) 0 (X.t 8+10) 4) [(mA X.ad 27+216,sO (mA X.ad 26+216))]).own (mA X.ad 27+216,sO (mA X.ad 26+216)) [],[27,26,0,31,2,1,20,15,16,17,18,19,29]),(λX=>(cPrY P (mA X.ad 27) (mA X.ad 26) (mA X.ad 29) (X.t 8+4) (X.t 8+6) (X.t 8+9) (X.t 8+12) 0 0 (X.t 8+7) (X.t 8+10) 4 (mN X.ad X.pns 0) [(mN X.ad X.pns 1),(mN X.ad X.pns 2),(mN X.ad X.pns 3),(mN X.ad X.pns 4)] 5 (mA X.ad 0) ((mX X.ad X.pns 215).B P++[en P [114,101,102,117,115,101,100] (X.t 9) (.bool false)]) (mF X.pns+1) (mW X.ad X.pns 215).lc ⟨[]⟩).owns ([(mA X.ad 27+216,sO (mA X.ad 26+216)),(mA X.ad 29+216,idO ((mNL X.ad X.pns).map Nd.e) 5)]++((mNL X.ad X.pns).map Nd.i++(mNL X.ad X.pns).map Nd.l)) [],[27,29,32,33,34,35,36,37,38,39,40,41,26,0]),(λX=>cSorted false (X.a 24) (wvL (mWv o X.pns) (mWt X.pns)) 5 (isort (wnB (bO o))),[24]),(λX=>cLNe false false (X.a 46) (X.a 47) (X.s 11).v [.int 0 (X.t 11+0),.int 1 (X.t 11+1),.int 2 (X.t 11+2),.int 3 (X.t 11+3),.int 4 (X.t 11+4)] ((X.s 11).g 1) 0 true,[46,47]),(λX=>(cRD P ⟨(mX X.ad X.pns 215),(mA X.ad 26),(mA X.ad 29),(mA X.ad 48),(mA X.ad 42),X.t 8+4,X.t 8+6,X.t 8+9,X.t 8+12,4,(mNL X.ad X.pns).map Nd.e,5,true,X.t 9,X.t 12,mSl X.T⟩ (mN X.ad X.pns 0) (mN X.ad X.pns 1) (mN X.ad X.pns 2) (mN X.ad X.pns 3) (mN X.ad X.pns 4) (X.t 8+7) (X.t 8+10) ((X.s 10).g 1) (rdy (mNL X.ad X.pns)) (mF X.pns+2) hd zr).owns ([(mA X.ad 27+216,sO (mA X.ad 26+216)),(mA X.ad 29+216,idO ((mNL X.ad X.pns).map Nd.e) 5)]++(mNL X.ad X.pns).map Nd.l) [],[27,29,37,38,39,40,41,0,48,26,42,32,33,34,35,36]),(λX=>(cDU P (mX X.ad X.pns 215) (mA X.ad 51) (mA X.ad 50) true (X.t 9) (X.t 12) (mA X.ad 48) (!zr) ((X.s 13).g 1) ((X.s 13).w 0) (X.t 13) (mA X.ad 49) ((X.s 13).g 2+1) (mSl X.T) (λi=>X.t 13+1+i) 0 (wvL (mWv o X.pns) (mWt X.pns)) 5 hd).owns [(mA X.ad 24+216,lo (wvL (mWv o X.pns) (mWt X.pns)) 5),((mA X.ad 50)+216,tu [.int 4 (X.t 13+1),.int 3 (X.t 13+2),.int 2 (X.t 13+3),.int 1 (X.t 13+4),.int 0 (X.t 13+5)])] [],[24,50,0,51,49]),(λX=>cLNe false false (X.a 48) (X.a 49) ([]++(X.s 13).v.drop 1) (X.s 14).v ((X.s 13).g 3) ((X.s 14).g 2) false,[48,49]),(λX=>cOrd P (mA X.ad 20) 0 (mBZ o X.ad X.pns) (BB (bO o)),[20,15,16,17,18,19]),(λX=>cLenF false (X.a 52) (refsOf (X.s 16).z) ((X.s 16).g 1),[52]),(λX=>iox "int.__mod__" (((refsOf (X.s 16).z).length:Nat):Int) 2 ((X.s 17).g 1+1) (X.t 17) 1,[]),(λX=>cLenF false (X.a 52) (refsOf (X.s 16).z) ((X.s 16).g 1),[52]),(λX=>iop "int.__ne__" (((refsOf (X.s 16).z).length:Nat):Int) 1 ((X.s 19).g 1+1) (X.t 19) true,[]),(λX=>(cKg P (mA X.ad 20) 0 (mBZ o X.ad X.pns) (BB (bO o)) (mA X.ad 0) (mW X.ad X.pns 215).lc (lsE P (mX X.ad X.pns 215) true (X.t 9) (X.t 12) (mA X.ad 48) (!zr) ((X.s 13).g 1) ((X.s 13).w 0) (X.t 13) (mA X.ad 49) ((X.s 14).g 1) (.int 0 (X.t 13+5)) (X.t 16) (mA X.ad 52) false 0 .none) ((X.s 13).g 2+3) (mSl X.T)).owns (((mA X.ad 20)+216,lo (refsOf (mBZ o X.ad X.pns)) 0)::mBZ o X.ad X.pns) [],[20,15,16,17,18,19,0]),(λX=>cLenF false (X.a 53) (mKG o ((X.s 21).g 1)) ((X.s 21).g 2),[53]),(λX=>iop "int.__eq__" (((mKG o ((X.s 21).g 1)).length:Nat):Int) 2 ((X.s 22).g 1+1) (X.t 22) false,[]),(λX=>cLenF false (X.a 53) (mKG o ((X.s 21).g 1)) ((X.s 21).g 2),[53]),(λX=>iop "int.__eq__" (((mKG o ((X.s 21).g 1)).length:Nat):Int) 1 ((X.s 24).g 1+1) (X.t 24) (!zr),[]),(λX=>cContains false (X.a 24) (wvL (mWv o X.pns) (mWt X.pns)) 5 4 (X.t 25) (!zr),[24]),(λX=>(cLT P ⟨(mX X.ad X.pns 215),(mA X.ad 55),(mA X.ad 20),λi=>[(mA X.ad 15),(mA X.ad 16),(mA X.ad 17),(mA X.ad 18),(mA X.ad 19)].getD i 0,(mA X.ad 53),true,X.t 9,X.t 12,(mA X.ad 48),!zr,((X.s 13).g 1),((X.s 13).w 0),X.t 13,(mA X.ad 49),(X.s 14).g 1,.int 0 (X.t 13+5),X.t 16,(mA X.ad 52),((X.s 21).p 0).slots,0,verF (bO o),5,((X.s 21).g 2),mR o X.pns,(mKG o ((X.s 21).g 1)),mWv o X.pns,mWt X.pns⟩ 0 5 false 0 .none ((X.s 13).g 2+3) (some (.int 4 ((X.s 9).g 11)))).owns [(mA X.ad 24+216,lo (wvL (mWv o X.pns) (mWt X.pns)) 5),(mA X.ad 3+216,cellO (.ref ((mA X.ad 53)+216))),((mA X.ad 53)+216,lo (mKG o ((X.s 21).g 1)) ((X.s 21).g 2))] [],[24,3,53,0,55,2,1,20,15,16,17,18,19])],tt:=40,s:=56,m:=28,tr:=match em,zr with|false,false=>[0,1,1,1,1,1,1001,1001,1001,1001,7,7,7,8,8,1,1,10,10,10,1,1,1,1,0,0,1,5,5,5,5,9,13,9,9,14,14,14,15,2,2,0,0,22,22,22,22,22,22,22,22,22,22,23,2,21,21,21,24,24,1,1,26,26,26,0,0,0,0,0,0,0,0,0,0,0,0,0,0,0,0,0,0,0,0,0,0,0,0,28,0,28,0,0,0,0,0,0,29,29,29,29,29,28,0,0,0,28,0,28,0,28,0,0,0,28,0,27,27,27,29,28,0,0,0,28,0,28,0,28,0,0,0,28,0,27,27,27,29,28,0,0,0,28,0,28,0,28,0,0,0,28,0,27,27,27,29,28,0,0,0,28,0,28,0,28,0,0,0,28,0,27,27,27,29,1,1,0,0,31,31,31,31,31,31,31,31,31,31,32,1,1,1,28,0,0,0,28,0,0,0,28,0,0,0,0,28,27,0,44,45,1,0,44,46,46,0,0,0,0,44,0,44,46,46,1,1,1,0,0,1,47,48,47,47,1,1,1,1,51,51,51,52,1,1,49,50,49,49,0,2,0,1,1,0,0,1,1,0,0,1,1,0,2,0,4,4,4,0,0,4,0,0,4,1,25,25,25,0,0,55,55,55,55,55,55,55,55,55,55,56]|true,false=>[0,1,1,1,1,1,1001,1001,1001,1001,7,7,7,8,8,1,1,10,1,1,1,1,0,0,1,5,5,5,5,9,13,9,9,14,14,14,15,2,2,0,0,22,22,22,22,22,22,22,22,22,22,23,2,21,21,21,24,24,1,1,26,26,26,0,0,0,0,0,0,0,0,0,0,0,0,0,0,0,0,0,0,0,0,0,0,0,0,28,0,28,0,0,0,0,0,0,29,29,29,29,29,28,0,0,0,28,0,28,0,28,0,0,0,28,0,27,27,27,29,28,0,0,0,28,0,28,0,28,0,0,0,28,0,27,27,27,29,28,0,0,0,28,0,28,0,28,0,0,0,28,0,27,27,27,29,28,0,0,0,28,0,28,0,28,0,0,0,28,0,27,27,27,29,1,1,0,0,31,31,31,31,31,31,31,31,31,31,32,1,1,1,28,0,0,0,28,0,0,0,28,0,0,0,0,28,27,0,44,45,1,0,44,46,46,0,0,0,0,44,0,44,46,46,1,1,1,0,0,1,47,48,47,47,1,1,1,1,51,51,51,52,1,1,49,50,49,49,0,2,0,1,1,0,0,1,1,0,0,1,1,0,2,0,4,4,4,0,0,4,0,0,4,1,25,25,25,0,0,55,55,55,55,55,55,55,55,55,55,56]|false,true=>[0,1,1,1,1,1,1001,1001,1001,1001,7,7,7,8,8,1,1,10,10,10,1,1,1,1,0,0,1,5,5,5,5,9,13,9,9,14,14,14,15,2,2,0,0,22,22,22,22,22,22,22,22,22,22,23,2,21,21,21,24,24,1,1,26,26,26,0,0,0,0,0,0,0,0,0,0,0,0,0,0,0,0,0,0,0,0,0,0,0,0,28,0,28,0,0,0,0,0,0,29,29,29,29,29,28,0,0,0,28,0,28,0,28,0,0,0,28,0,27,27,27,29,28,0,0,0,28,0,28,0,28,0,0,0,28,0,27,27,27,29,28,0,0,0,28,0,28,0,28,0,0,0,28,0,27,27,27,29,28,0,0,0,28,0,28,0,28,0,0,0,28,0,27,27,27,29,1,1,0,0,31,31,31,31,31,31,31,31,31,31,32,1,1,1,28,0,0,0,28,0,0,0,28,0,0,0,0,28,27,0,44,45,1,0,44,46,46,0,0,0,0,44,0,44,46,46,1,1,1,0,0,1,47,48,47,47,1,1,1,1,51,51,51,52,1,1,49,50,49,49,0,2,0,1,1,0,0,1,1,0,0,1,1,0,2,0,4,4,4,0,0,4,0,0,4,1,25,25,25,0,0,55,55,55,55,55,55,55,55,55,55,56]|true,true=>[0,1,1,1,1,1,1001,1001,1001,1001,7,7,7,8,8,1,1,10,1,1,1,1,0,0,1,5,5,5,5,9,13,9,9,14,14,14,15,2,2,0,0,22,22,22,22,22,22,22,22,22,22,23,2,21,21,21,24,24,1,1,26,26,26,0,0,0,0,0,0,0,0,0,0,0,0,0,0,0,0,0,0,0,0,0,0,0,0,28,0,28,0,0,0,0,0,0,29,29,29,29,29,28,0,0,0,28,0,28,0,28,0,0,0,28,0,27,27,27,29,28,0,0,0,28,0,28,0,28,0,0,0,28,0,27,27,27,29,28,0,0,0,28,0,28,0,28,0,0,0,28,0,27,27,27,29,28,0,0,0,28,0,28,0,28,0,0,0,28,0,27,27,27,29,1,1,0,0,31,31,31,31,31,31,31,31,31,31,32,1,1,1,28,0,0,0,28,0,0,0,28,0,0,0,0,28,27,0,44,45,1,0,44,46,46,0,0,0,0,44,0,44,46,46,1,1,1,0,0,1,47,48,47,47,1,1,1,1,51,51,51,52,1,1,49,50,49,49,0,2,0,1,1,0,0,1,1,0,0,1,1,0,2,0,4,4,4,0,0,4,0,0,4,1,25,25,25,0,0,55,55,55,55,55,55,55,55,55,55,56],cs:=[2,3,1,1,1,2,8,3,23,0,3,1,2,2,1,0,1,0,3,0,2,1,0,1,0,1,10],ns:=λ_ _ N=>⟨[((N 27).t)],[],[],[]⟩,pi:=[0,1,2,3,4,5,6,7,8,9,11,12,13,14,15,16,17,18,19,20,21,22,23,24,25,26,27]}
theorem lwY_0:(lwY P false false p0 pr n o hd).E P 540 7200:=by kernel_rfl
theorem lwY_1:(lwY P false true p0 pr n o hd).E P 540 7200:=by kernel_rfl
theorem lwY_2:(lwY P true false p0 pr n o hd).E P 540 7200:=by kernel_rfl
theorem lwY_3:(lwY P true true p0 pr n o hd).E P 540 7200:=by kernel_rfl
theorem lwY_ok (hps:(mPS em p0 pr).length<=900) (ho:o=oS (mPS em p0 pr)) (hr:rfB (bO o)=true) (hh:hdB (bO o)=hd) (hz:(zrB (bO o)).isEmpty=zr):OK (lwY · em zr p0 pr n o hd) w 540 7200:=
 okF 27 (qY [0] (λ_=>upto_ok _ w _ _ true _ _ _ _ 15 _ (by rw [zJ];exact zZ hps (by decide)))<|qN (λ_=>(Ct.Ok.own (nm_ok w _ _ _ _ _ _ _ ((mPS em p0 pr).take 15) 0 [] 0 0 false 0 .none map_take.symm (by rw [length_take];show 0+_<=_;omega)) (λp hp=> .inl (jJ.mp hp)) (λ_ _ g=>g.1)).m)<|qI (λ_ hF=>fq hF 1 λf1=>lenF_ok _ w _ _ _ _ _ _ (zZ (FN.lenV (ps:=(mPS em p0 pr)) f1.2) (by decide)))<|qN (λX=>from_ok _ w _ _ false _ _ (mFX X.pns) 0 _ _ (zZ (Nat.le_of_eq (mFX_len _)) (by decide)))<|qI (λ_ hF=>fq hF 1 λf1=>add_ok _ w _ _ _ _ _ _ _ _ _ (by have:=FN.lenV (ps:=(mPS em p0 pr)) f1.2;rw [length_drop,mFX_len];omega))<|qI (λX hF=>fq hF 1 λf1=>by
   have F:FN (mPS em p0 pr) X.pns:=f1.2;exact (Ct.Ok.own (lk2_ok w _ _ _ _ _ _ _ F.ls.1 F.lsLt F.lsLen) (λp hp=> .inl (jJ.mp hp)) (λ_ _ g=>g.1)).m)<|qI (λX hF=>fq hF 1 λf1=>fq2 hF 5 λp5_ _ g5_=>by
   have F:FN (mPS em p0 pr) X.pns:=f1.2;exact (plb_ok w _ _ _ _ _ _ _ _ _ _ _ _ _ _ _ o (λi=>tokV ((mOS X.pns).getD i .none)) (or6 F p5_ g5_.2 ho)).m)<|qN (λ_=>(wnc_ok w _ _ _ _ _ _ _ _ _ _ _ _ _ _ _ _ _ _ _ _ _ (zZ (row_le ..) (by decide)) (zZ (row_le ..) (by decide)) (zZ (row_le ..) (by decide)) (zZ (row_le ..) (by decide)) (zZ (row_le ..) (by decide))).m)<|qN (λ_=>(Ct.Ok.own (Ct.Ok.own (all_ok w _ _ _ _ _ _ _ _ _ _ _ _ _ _ _ _ _ _ _ _ _ _ _ _ _ _ _ _ _ _ _ _ (rowI (bO o)) (rowF_ints ..) (rowF_ints ..) (rowF_ints ..) (rowF_ints ..) (rowF_ints ..) (eB (bO o)) (λ_ _ _=>rfl) (la o).e0 (la o).l5 _) (λp hp=>own2 hp) (λ_ _ g=>g.1)) (λp hp=> .inl (jJ.mp hp)) (λ_ _ g=>g.1)).m)<|qI (λX hF=>fq hF 8 λf8=>by
   have F:=nl_FA X.ad f8.2.1 f8.2.2.1 f8.2.2.2.1;exact ((cPrY_ok w _ _ _ _ _ _ _ _ _ _ _ _ _ _ _ _ _ _ _ _ 60 (by decide) (zx rfl) F.iv ((pr_q F).trans (jk some hr))).owns (λ_ _ g=>g) _ _ (λp hp=> .inl (own_pr hp))).m)<|qN (λX=>sorted_ok _ w _ _ _ _ _ (wl_ints o X.pns _) (zx rfl))<|qI (λ_ hF=>fq hF 10 λf10=>lne_ok _ w _ _ (by decide) _ _ _ _ _ _ f10 (.cons _ _ (.cons _ _ (.cons _ _ (.cons _ _ (.cons _ _ .nil))))) ((la o).so.trans hr))<|qI (λX hF=>fq hF 8 λf8=>by
   have F:=nl_FA X.ad f8.2.1 f8.2.2.1 f8.2.2.2.1;exact Ct.Ok.mono (Ct.Ok.owns (rdN_ok w _ F _ _ _ _ (by rfl) hh hz) (λ_ _ g=>g.1) _ _ (λp hp=> .inl hp)) (by decide) (by decide))<|qN (λX=>((du_ok w _ _ _ _ _ _ _ _ _ _ _ _ _ _ _ _ _ _ (wl_ints o X.pns _) (zx rfl) (hdB (bO o)).length (ld o).hc (λi=>((hdB (bO o)).getD i 0).toNat) (ld o).h (ld o).hj ((ld o).hcc.trans (jk Bool.not hz)) ((ld o).hd.trans hh)).owns (λ_ _ g=>g.1) _ _ (λp hp=> .inl hp)).m)<|qI (λ_ hF=>fq hF 12 λf12=>fq hF 13 λf13=>lne_ok _ w _ _ (by decide) _ _ _ _ _ _ f12.2 f13.2 (by simp))<|qN (λX=>(ord_ok w _ _ _ _ (bz_rows o X.ad X.pns) (lO o).hb4 (jv 5) (lO o).hc (lO o).h5).m)<|qI (λ_ hF=>fq hF 15 λf15=>lenF_ok _ w _ _ _ _ _ _ (or16 f15))<|qI (λ_ hF=>fq hF 15 λf15=>(iox_mod w 1 _ _ (or17 f15)).m)<|qI (λ_ hF=>fq hF 15 λf15=>lenF_ok _ w _ _ _ _ _ _ (or16 f15))<|qI (λ_ hF=>fq hF 15 λf15=>(iop_ne w _ _ ((or19 f15).trans hr)).m)<|qN (λX=>((cKg_ok w _ _ _ _ _ _ _ _ _ (bz_rows o X.ad X.pns) rfl (lO o).hb4 (lk o).ok).owns (λ_ _ g=>g) _ _ (λp hp=> .inl hp)).m)<|qN (λ_=>lenF_ok _ w _ _ _ _ _ _ (zZ (kg_len ..) (by decide)))<|qN (λ_=>(iop_eq w _ _ (or23 ..)).m)<|qN (λ_=>lenF_ok _ w _ _ _ _ _ _ (zZ (kg_len ..) (by decide)))<|qN (λ_=>(iop_eq w _ _ ((or25 ..).trans (jk Bool.not hz))).m)<|qN (λX=>contains_ok _ w _ _ _ _ _ _ _ (wl_ints o X.pns _) ((lk o).w4.trans (jk Bool.not hz)))<|qN (λX=>((lt_ok w _ (rowI (bO o)) (λ_ _=>rowF_ints ..) (eB (bO o)) (λ_ _ _ _=>rfl) (kg_ints ..) (lt_H o X.pns) 5 0 _ _ _ _ _ rfl).owns (λ_ _ g=>g) _ _ (λp hp=> .inl hp)).m)<|trivial) (e:=by cases em<;>cases zr;exact lwY_0 ..;exact lwY_1 ..;exact lwY_2 ..;exact lwY_3 ..)
end
end
def cLaw (n:Nat) (ps:List (Int×Nat)):Ct:={code:= .call (.ref 214) ⟨[.ref 215],[]⟩,hd:=some none,frs:=some [],zpre:=[(215,lo (ps.map vI) n)],pre:=[],k:=0,fo:=λ_ _=> .ret (.ok (.ret (.bool true))),post:=λ_ _=>[],news:=λ_ _=>[],fact:=λ_ _=>True}
theorem law_ok (w:World) (n:Nat) (ps:List (Int×Nat)) (hps:ps.length<=900):(cLaw n ps).Ok (ktOf w.params) prg w 540 7200:=by
 have go:∀(em:Bool) (p0:Int×Nat) (pr:List (Int×Nat)),(mPS em p0 pr).length<=900->(cLaw n (mPS em p0 pr)).Ok (ktOf w.params) prg w 540 7200:=λem p0 pr h=>by
  cases hr:rfB (bO (oS (mPS em p0 pr))) with
  |false=>exact lwN_ok w em p0 pr n _ _ h rfl hr rfl
  |true=>exact lwY_ok w em _ p0 pr n _ _ h rfl hr rfl rfl
 cases ps with
 |nil=>exact go true (0,0) [] hps
 |cons p ps=>exact go false p ps hps
theorem lim_of {kt:KT} {h0:Heap} (ho:∀b o,b<216->kt.get b=some o->h0.get? b=some o) (hc:(kt.get cStatics).isSome=true) (hl:cStatics<216) (N:h0.NoLimit):LimOk kt:=λh hh=>by
 obtain ⟨mc,⟨o',es,ep,ho',r⟩,q⟩:=N;obtain ⟨o,e⟩:=Option.isSome_iff_exists.mp hc;have e2:=ho _ _ hl e;rw [ho'] at e2;cases e2;exact ⟨mc,⟨o',es,ep,hh _ _ hl e,r⟩,q⟩
theorem ints_vI {vs:List Value} {ns:List Int} (h:IntsAre vs ns):∃ps:List (Int×Nat),vs=ps.map vI/\ps.length=ns.length:=by
 induction h with
 |nil=>exact ⟨[],rfl,rfl⟩
 |cons n t _ ih=>
  obtain ⟨ps,e,l⟩:=ih;exact ⟨(n,t)::ps,by rw [e];rfl,by rw [jY,jY,l]⟩
theorem law_wp {w:World} {s:Shared} {vs:List Value} {ns:List Int} (H:KT.Holds s.heap 1 0 (ktOf w.params)) (N:s.heap.NoLimit) (hsz:s.heap.objs.size=215+1) (hL:s.heap.get? 215=some {cls:= .type "list",data:= .seq vs.toArray}) (hI:IntsAre vs ns) (hn:ns.length<=63) {Q:Value->Shared->Prop} {E:Value->Shared->Prop}
  (K:∀s',(∀b o,s.heap.get? b=some o->s'.heap.get? b=some o)->s'.os=s.os->s'.gens=s.gens->Q (.bool true) s'):wpAny (model prg w) callerA (PySem.call (.ref 214) [.ref 215]) Q E s:=by
 obtain ⟨ps,rfl,hl⟩:=ints_vI hI;have kt:∀b o,b<216->(ktOf w.params).get b=some o->s.heap.get? b=some o:=λb o _ e=>kt_at H e;have:LimOk (ktOf w.params):=lim_of kt (by kernel_rfl) (by decide) N;refine wpAny_call (law_ok w 0 ps (by lia) callerA (λv e=>by cases e;rfl) (λl e=>by cases e;rfl) (by decide) (by decide) s.heap s.gens s.drawn s.toks s.os _ ⟨kt,by lia,(λp h=>nomatch h),nodup_nil,(λp h=>nomatch h),λp h=>?_⟩ λh' as ns hk S1 hf=>K _ (λb o hb=>S1.keep b o hb (by simp [cLaw])) rfl rfl);obtain rfl:=jJ.mp h;exact ⟨hL,by simp [cLaw]⟩
theorem law_at (P:Params):nsIn (Mine.Hd.hdK P) mainGlobals (Str.ofString "law")=some (some (.ref 214)):=by kernel_rfl
namespace Hd
def hdV:Program:=PySem.W.view hdP [0,1,3,4,5,7,8,9,10,11,13,14,16,17,18,19,20]
def hdL:List Str:=[T [85,84,67,95,90,79,78,69,83],T [84,73,77,69,90,79,78,69,95,82,69],T [95,78,111,100,101,73,110,102,111]]
theorem hdKT (P:Params):KT.of (hdK P)=hdT P:=by kernel_rfl
theorem hdKeys (P:Params):hdAs=(hdK P).map (·.1):=by kernel_rfl
theorem hdOpen (w:World):(fencedOpening treeTable hdP w 1600).map (λs=>(s.heap,s.gens,s.drawn,s.toks))=some (hd0 w.params,⟨[]⟩,⟨0,0,0,0⟩,276):=by
 unfold fencedOpening;rw [PySem.W.Fast.te14364793385576792824,PySem.W.Fast.te10274390034422433532,PySem.W.Fast.te14289696077712309145,PySem.W.Fast.te1435165496053646825];kernel_rfl
theorem hdSize (w:World):((hd0 w.params).isNs mainGlobals&&(⟨[]⟩:Array GenState).size==0,(hd0 w.params).objs.size,(hd0 w.params).nsMap mainGlobals "__annotations__")=(true,28,some (.ref 6)):=by kernel_rfl
abbrev hdXt (s:Shared):Bool:=xlAt hdV [] s&&recOk (RowW.records hdR) s
abbrev hdGoes (w:World):Prop:=∀os:OsState,topRun treeTable hdP w 28 (some (.ref 6)) 1550 ⟨hd0 w.params,⟨[]⟩,⟨0,0,0,0⟩,276,os⟩ (topStub hdP)=some ⟨hd1 w.params,⟨[]⟩,⟨0,0,0,0⟩,633,os⟩
abbrev hdTo (w v:World) (os:OsState):Option (Shared×Thread):=PySem.W.Fast.tw15667345088766844465 PySem.W.Fast.tw14364793385576792824 hdP v 28 (some (.ref 6)) 98 ⟨hd0 w.params,⟨[]⟩,⟨0,0,0,0⟩,276,os⟩ (topStub hdP)
theorem hdSame (w:World) (os:OsState):hdTo w (w.withFollow "special-get-raises" false) os=hdTo w (w.withFollow "special-get-raises" true) os:=by kernel_rfl
theorem hdMain (w:World) (os:OsState):(hdTo w (w.withFollow "special-get-raises" true) os).bind (λp=>PySem.W.Fast.tw14082659384304107361 PySem.W.Fast.tw14364793385576792824 hdP w 28 (some (.ref 6)) 1452 p.1 p.2)=some ⟨hd1 w.params,⟨[]⟩,⟨0,0,0,0⟩,633,os⟩:=by kernel_rfl
theorem hdRun (w:World):hdGoes w:=by
 intro os;obtain ⟨⟨s,t⟩,h,k⟩:=Option.bind_eq_some_iff.mp (hdMain w os);rw [<-PySem.W.Fast.te14082659384304107361] at k;rw [PySem.W.Fast.te14364793385576792824];refine go_top (n:=98) (N:=1452) (Eq.trans ?_ h) k;rw [PySem.W.Fast.te15667345088766844465];have e:=World.withFollow_self w "special-get-raises";cases b:w.params.followText "special-get-raises"
 ·rw [b] at e
  exact (jk (λv=>hdTo w v os) e).symm.trans (hdSame w os)
 ·rw [b] at e
  exact (jk (λv=>hdTo w v os) e).symm
theorem hdLooks (w:World):(λos=>((staticsOk (importedModules hdP.main.body) (hd0 w.params) (hd1 w.params)&&namesBound hdP (hd1 w.params)&&gensDone ⟨hd1 w.params,⟨[]⟩,⟨0,0,0,0⟩,633,os⟩&&laidKept (hd0 w.params) (hd1 w.params)),
    openSeen hdV hdL (importedModules hdP.main.body) hdXt true ⟨hd1 w.params,⟨[]⟩,⟨0,0,0,0⟩,633,os⟩,obsZ hdAs ⟨hd1 w.params,⟨[]⟩,⟨0,0,0,0⟩,633,os⟩))=λ_=>(true,openGood hdV hdL,valZ hdK 215 633 w):=by
 rw [PySem.W.Fast.te4187177175401517315];kernel_rfl
theorem hdLeft:LeftO hdP hdV hdL hdXt (obsZ hdAs) (valZ hdK 215 633) 1600:=
 LeftO.of_pieces hdOpen hdSize hdRun rfl hdLooks
end Hd
theorem kt_in {K:Frag} {t:KT} (e:KT.of K=t) {h h1:Heap} (k:∀b o,h.get? b=some o->h1.get? b=some o) (A:AllIn h K):KT.Holds h1 1 0 t:=by
 subst e;exact KT.Holds.keeps k (holds_of A)
theorem kt_in2 {P:Params} {h h1:Heap} (k:∀b o,h.get? b=some o->h1.get? b=some o) (A:AllIn h (Mine.Hd.hdK P)):KT.Holds h1 1 0 (ktOf P):=
 kt_in (Mine.Hd.hdKT P) k A
end Mine
open Mine Mine.Hd
set_option maxRecDepth 100000 in
theorem Mine.wsd : PySem.Challenge.rw_op0175_01.wellSaid = true := by rw [PySem.W.Fast.te9446332074065402090]; kernel_rfl
set_option maxRecDepth 100000 in
set_option maxHeartbeats 0 in
theorem PySem.Challenge.cw_op0175_01_holds : PySem.Challenge.rw_op0175_01.Holds := by
  w_on; refine holds_law Mine.wsd fun said => ?_
  refine holds_openX (q := hdV) (loose := hdL) (Xt := hdXt) (XP := XL hdV []) (Yf := obsZ hdAs) (Ya := valZ hdK 215 633) (N := 1600) hdLeft (fun s e => xl_of s (Bool.and_eq_true_iff.mp e).1) XL.keeps (by rfl) (by rfl) (by rfl) (fun s e => recFacts_of (Bool.and_eq_true_iff.mp e).2) (by rfl) (by first | assumption | decide +kernel) (by decide +kernel) ⟨rfl, rfl, rfl, rfl, rfl, by decide +kernel⟩ ?hw ?hc
  case hw => w_witness2
  case hc =>
    intro w s₀ s₁ mg mb G y fa o pm cd doc dV kV ho hd hcd hD hmg hg args vals as L hpre hlay hrd hwl hlo
    clear hd hcd hD ho
    replace hmg : mg (Str.ofString "law") = some (.ref fa) := hmg
    refine Ground.open G ?_
    intro T B D TE TW
    wrow_args hpre hlay hrd hwl hlo
    obtain ⟨hat, hsz⟩ := script_at L
    have f := z_facts hdKeys y
    rw [f.2.2.1] at hat hsz
    subst hat
    rename Heap.IsList _ _ _ => hL
    rename IntsAre _ _ => hI
    rename ¬ _ < _ => hn
    have e := mg_of (InK.keeps w _ _ f.2.1 L.keeps) T.g (law_at w.params)
    rw [e] at hmg
    cases hmg
    refine law_wp (kt_in2 L.keeps f.1) T.nolimit hsz (script_obj L hL) hI (by omega) fun s' k1 k2 k3 => ?_
    refine GoodW.toG ⟨.inl ⟨_, _, _, rfl, raisesW_false (by wrow_none_raised), .bool true, by wrow_post, fun _ => ⟨List.nodup_nil, fun a h => nomatch h⟩⟩, k1, k2, k3.trans hg⟩
