import PyProof.Rows.All
import PyProof.AutoSeq1
import PyProof.CodeObjX
import PyProof.JoinWalk
import PyProof.ListNew
import PyProof.WalksPairs
import PyProof.Rows.StrJoin2
import PyProof.SumAny
import KE.KSortKey
import KE.KSortAsk
import Wide.FinOn
import OpenK.AllK
import Wide.All
import Lean
import PySem.Challenge.RW_ij0103_01
set_option Elab.async false
set_option maxHeartbeats 4000000
set_option genSizeOf false
set_option genInjectivity false
set_option maxRecDepth 1000000
set_option linter.unusedVariables false
open PySem PySem.W PySem.W.X PyProof.Rows
section
namespace Mine
section
variable {α : Type} {P : α → Prop} {a : α} {l : List α}
theorem ac (h : P a) (t : ∀ x,x ∈ l → P x) : ∀ x,x ∈ a :: l → P x := fun x hx => by
 rcases List.mem_cons.mp hx with rfl | q
 ·exact h
 ·exact t x q
theorem m0 {x : α} : x ∈ x :: l := List.mem_cons_self ..
theorem m1 {x y : α} : x ∈ y :: x :: l := List.mem_cons_of_mem _ m0
theorem m2 {x y z : α} : x ∈ z :: y :: x :: l := List.mem_cons_of_mem _ m1
theorem m3 {x y z u : α} : x ∈ u :: z :: y :: x :: l := List.mem_cons_of_mem _ m2
theorem an : ∀ x : α,x ∈ ([] : List α) → P x := fun x hx => nomatch hx
end
section
variable {h : Heap} {a : Nat} {o : Obj} {L : List Nat} {U : List Obj}
theorem zc (e : h.get? a = some o) (t : ∀ p : Nat × Obj,p ∈ L.zip U → h.get? p.1 = some p.2) : ∀ p : Nat × Obj,p ∈ (a :: L).zip (o :: U) → h.get? p.1 = some p.2 := ac e t
theorem zn : ∀ p : Nat × Obj,p ∈ ([] : List Nat).zip ([] : List Obj) → h.get? p.1 = some p.2 := fun p hp => nomatch hp
end
noncomputable def kst (P : Prop) {T : Type} (F : T) (_ : P) : T := F
theorem bind_refl : @Sem.bind = @Sem.bind := rfl
noncomputable def RefO {α : Type} (M : Model) (A : Around) (c : Code) (t' t : Sem α) : Prop := ∀ Γ,Γ.code = c → Γ.In A → ∀ Q E p s,Sem.wp M Γ t' Q E p s → Sem.wp M Γ t Q E p s
section
variable {α β : Type} {M : Model} {A : Around} {c : Code}
theorem RefO.refl (t : Sem α) : RefO M A c t t := fun _ _ _ _ _ _ _ h => h
theorem RefO.bind {m' m : Sem α} {f' f : α → Sem β} (h : RefO M A c m' m) (g : ∀ a,RefO M A c (f' a) (f a)) : RefO M A c (m' >>= f') (m >>= f) := by
 intro Γ hc hΓ Q E p s x
 rw [Sem.wp_bind'] at x ⊢
 exact Sem.wp_mono M Γ m (fun a p' s' y => g a Γ hc hΓ _ _ _ _ y) (fun _ _ _ y => y) p s (h Γ hc hΓ _ _ _ _ x)
theorem RefO.unsup {e : String} {t : Sem α} : RefO M A c (unsupported e) t := fun _ _ _ _ _ _ _ h => h.elim
theorem RefO.ite {p : Prop} [Decidable p] {a' a b' b : Sem α} (h : RefO M A c a' a) (g : RefO M A c b' b) : RefO M A c (if p then a' else b') (if p then a else b) := by
 by_cases q : p
 ·rw [if_pos q,if_pos q]; exact h
 ·rw [if_neg q,if_neg q]; exact g
noncomputable def RevO (M : Model) (A : Around) (c : Code) (t t' : Sem α) : Prop := RefO M A c t' t
theorem RevO.to {t t' : Sem α} (h : RevO M A c t t') : RefO M A c t' t := h
theorem RevO.back {t t' : Sem α} (h : RefO M A c t' t) : RevO M A c t t' := h
theorem RefO.pair1 {γ : Type} {j' j : α → Sem β} {t' t : Sem γ} (h : ∀ a,RefO M A c (j' a) (j a)) (g : (∀ a,RefO M A c (j' a) (j a)) → RefO M A c t' t) : RefO M A c t' t := g h
theorem RefO.own {t' t : Sem α} (h : RefO M (A.under c) c t' t) {Q : α → Shared → Prop} {E : Value → Shared → Prop} {s : Shared} (x : wpOwn M A c t' Q E s) : wpOwn M A c t Q E s := fun Γ p hc hΓ => h Γ hc (hc ▸ hΓ.in) _ _ _ _ (x Γ p hc hΓ)
theorem RefO.comps {body : List Stmt} {env : Env} : RefO M A (.func body env) (pure []) comprehensionsAround := by
 intro Γ hc hΓ Q E p s h
 unfold comprehensionsAround callersCodes
 simp only [Sem.wp_bind']
 have e : pastTheWaiting ((.func body env,p) :: Γ.below) = (.func body env,p) :: pastTheWaiting.go false (some (.func body env)) Γ.below := rfl
 show Sem.wp M Γ (if ((((Γ.code,p) :: Γ.below).map (·.1)).findSome? (·.env?)).map (·.frame) != (((pastTheWaiting ((Γ.code,p) :: Γ.below)).map (·.1)).findSome? (·.env?)).map (·.frame) then _ else _) _ _ p s
 rw [hc,e]
 split
 ·rename_i hc2
  exact absurd (show (some env.frame != some env.frame) = true from hc2) (by simp)
 ·exact h
noncomputable def attrF (o : Expr) (attr : Str) (env : Env) (whole : Sem Value) : Sem (List Env) → Sem Value := by
 refine kst (@Sem.bind = @Sem.bind) ((?k : (F : Sem (List Env) → Sem Value) → F comprehensionsAround = attributeBase o attr env whole → Sem (List Env) → Sem Value) ?F ?h) bind_refl
 case k => exact fun F _ => F
 case h =>
  delta attributeBase
  generalize comprehensionsAround = X
  exact rfl
theorem RefO.attr {body : List Stmt} {env env' : Env} {o : Expr} {attr : Str} {whole : Sem Value} : RefO M A (.func body env) (attrF o attr env' whole (pure [])) (attributeBase o attr env' whole) := by
 rw [show attributeBase o attr env' whole = attrF o attr env' whole comprehensionsAround from rfl]
 delta attrF kst
 dsimp (config := { zeta := false,zetaHave := false }) only
 cases o
 case Call f as ks pos =>
  cases f
  case Name id p =>
   cases as
   case nil =>
    cases ks
    case nil =>
     dsimp (config := { zeta := false,zetaHave := false }) only
     refine RefO.ite (RefO.refl _) ?_
     extract_lets -merge -useContext +onlyGivenNames j'
     refine RevO.to ?_
     extract_lets -merge -useContext +onlyGivenNames j
     refine RevO.back (RefO.pair1 (j' := j') (j := j) (fun fenv => ?_) fun hj => ?_)
     ·unfold j' j
      clear j' j
      generalize fenv.func = g
      cases g
      case none => exact RefO.refl _
      refine RefO.ite (RefO.refl _) (RefO.bind (RefO.refl _) fun fd => ?_)
      generalize List.head? _ = g
      cases g
      case none => exact RefO.refl _
      refine RefO.bind (RefO.refl _) fun a => RefO.bind (RefO.refl _) fun x => ?_
      cases x
      case str file _ =>
       dsimp only
       generalize (if (a.program.main.file == file) = true then some a.program.main else _) = g
       cases g
       case none => exact RefO.refl _
       dsimp only
       refine RefO.ite (RefO.refl _) ?_
       exact (RefO.bind (RefO.refl _) fun _ => RefO.bind (RefO.refl _) fun _ => RefO.bind (RefO.refl _) fun _ => RefO.bind (RefO.refl _) fun _ => RefO.bind RefO.comps fun _ => RefO.refl _)
      all_goals exact RefO.refl _
     ·clear_value j' j
      refine RefO.ite (RefO.bind (RefO.refl _) hj) (RefO.bind (RefO.refl _) fun a => ?_)
      rcases a with _ | ⟨⟨⟩,a⟩ <;> exact RefO.bind (RefO.refl _) hj
    all_goals exact RefO.refl _
   all_goals exact RefO.refl _
  all_goals exact RefO.refl _
 all_goals exact RefO.refl _
noncomputable def evF (o : Expr) (name : Str) (apos pos : Pos) (args : List Expr) (env : Env) : Sem Value → Sem Value := by
 refine kst (@Sem.bind = @Sem.bind) ((?k : (F : Sem Value → Sem Value) → F (attributeBase o name env (eval o env)) = eval (.Call (.Attribute o name apos) args [] pos) env → Sem Value → Sem Value) ?F ?h) bind_refl
 case k => exact fun F _ => F
 case h =>
  refine Eq.trans ?_ (arm_eval_Call ..).symm
  generalize attributeBase o name env (eval o env) = X
  exact rfl
theorem evF_eq {o : Expr} {name : Str} {apos pos : Pos} {args : List Expr} {env : Env} : eval (.Call (.Attribute o name apos) args [] pos) env = evF o name apos pos args env (attributeBase o name env (eval o env)) := arm_eval_Call ..
noncomputable def evN (e : Expr) (env : Env) : Sem Value := match e with
 | .Call (.Attribute o name apos) args [] pos => evF o name apos pos args env (attrF o name env (eval o env) (pure []))
 | e => eval e env
theorem RefO.ev {body : List Stmt} {env env' : Env} {e : Expr} : RefO M A (.func body env) (evN e env') (eval e env') := by
 cases e
 case Call g as ks pos =>
  cases g
  case Attribute o name apos =>
   cases ks
   case nil =>
    show RefO _ _ _ (evF o name apos pos as env' (attrF o name env' (eval o env') (pure []))) _
    rw [evF_eq]
    delta evF kst
    dsimp only
    exact RefO.bind RefO.attr fun _ => RefO.refl _
   all_goals exact RefO.refl _
  all_goals exact RefO.refl _
 all_goals exact RefO.refl _
noncomputable def exprF (e : Expr) (pos : Pos) (env : Env) : Sem Value → Sem Flow := by
 refine kst (@Sem.bind = @Sem.bind) ((?k : (F : Sem Value → Sem Flow) → F (eval e env) = exec (.Expr e pos) env → Sem Value → Sem Flow) ?F ?h) bind_refl
 case k => exact fun F _ => F
 case h =>
  refine Eq.trans ?_ (arm_exec_Expr ..).symm
  generalize eval e env = X
  exact rfl
theorem exprF_eq {e : Expr} {pos : Pos} {env : Env} : exec (.Expr e pos) env = exprF e pos env (eval e env) := arm_exec_Expr ..
noncomputable def execN (st : Stmt) (env : Env) : Sem Flow := match st with
 | .Return (some e) pos => do
  standAt pos
  let v ← evN e env
  return .ret v
 | .Expr e pos => if interactive env then unsupported "execN" else exprF e pos env (evN e env)
 | st => exec st env
theorem RefO.exec {body : List Stmt} {env env' : Env} {st : Stmt} : RefO M A (.func body env) (execN st env') (exec st env') := by
 cases st
 case Return v pos =>
  cases v
  case none => exact RefO.refl _
  exact RefO.bind (RefO.refl _) fun _ => RefO.bind RefO.ev fun _ => RefO.refl _
 case Expr e pos =>
  show RefO _ _ _ (if interactive env' then unsupported "execN" else exprF e pos env' (evN e env')) _
  by_cases hi : interactive env'
  ·rw [if_pos hi]; exact RefO.unsup
  ·rw [if_neg hi,exprF_eq]
   delta exprF kst
   dsimp only
   rw [if_neg hi,if_neg hi]
   exact RefO.bind (RefO.refl _) fun _ => RefO.bind (RefO.refl _) fun b => RefO.ite (RefO.refl _) (RefO.bind RefO.ev fun _ => RefO.refl _)
 all_goals exact RefO.refl _
noncomputable def execsN : List Stmt → Env → Sem Flow
 | [],_ => pure .next
 | s :: rest,env => do
  let f ← execN s env
  match f with
  | .next => execsN rest env
  | f => pure f
theorem RefO.execs {body : List Stmt} {env env' : Env} : ∀ {b : List Stmt},RefO M A (.func body env) (execsN b env') (execs b env')
 | [] => RefO.refl _
 | s :: rest => RefO.bind RefO.exec fun f => by
  cases f with
  | next => exact RefO.execs
  | _ => exact RefO.refl _
theorem RefO.onRaise {m' m : Sem α} {g : Value → Sem Unit} (h : RefO M A c m' m) : RefO M A c (m'.onRaise g) (m.onRaise g) := by
 intro Γ hc hΓ Q E p s x
 rw [Sem.wp_onRaise] at x ⊢
 exact h Γ hc hΓ _ _ _ _ x
noncomputable def supTree : Code → Sem Fin
 | .func body env => do
  point
  let f ← (execsN body env).onRaise (leaving env)
  match f with
  | .ret v => ret v
  | _ => ret .none
 | _ => unsupported "supTree"
theorem RefO.sup {prog : Program} {w : World} {c : Code} : RefO (model prog w) A c (supTree c) (denote table c) := by
 cases c with
 | func body env => exact RefO.bind (RefO.refl _) fun _ => RefO.bind (RefO.onRaise RefO.execs) fun f => RefO.refl _
 | _ => exact RefO.unsup
end
end Mine
end
section
namespace Mine
set_option genInjectivity true in
inductive Ob where
 | adr (a : Addr)
 | obj (o : Obj)
 | code (c : Code)
 | stk (f : Pos → List (Code × Pos) → Sem Fin)
structure Ctr where
 code : Code
 pre : List (Addr × Obj)
 val : Addr → Tok → Value
 upd : Addr → Tok → List (Addr × Obj)
 news : Addr → Tok → List (Nat × Obj)
 grow : Nat
 toks : Nat
 dm : Nat
 um : Nat
 res : Addr → Tok → Result := fun n t => .ok (.ret (val n t))
structure Vw where
 prog : Program
 w : World
 lk : Addr → Option Obj
 n : Nat
 L : List Nat
 t₀ : Nat
 d₀ : Nat
 u₀ : Nat
 ctrs : List Ctr
noncomputable def dq : Code → Sem Fin := PySem.W.Fast.tw11892475500146522536 PySem.W.Fast.tw14364793385576792824
theorem dq_eq : denote table = dq := by
 unfold dq
 rw [← PySem.W.Fast.te11892475500146522536,← PySem.W.Fast.te14364793385576792824,PySem.table_eq_tree]
noncomputable def fnF (self : Addr) (fd : FuncData) (args : Args) : Sem Unit → Sem Fin := by
 refine kst (@Sem.bind = @Sem.bind) ((?k : (F : Sem Unit → Sem Fin) → F enterFrame = callFunction self fd args → Sem Unit → Sem Fin) ?F ?h) bind_refl
 case k => exact fun F _ => F
 case h =>
  delta callFunction
  generalize enterFrame = X
  exact rfl
theorem fnF_eq {self : Addr} {fd : FuncData} {args : Args} : callFunction self fd args = fnF self fd args enterFrame := rfl
noncomputable def enterN : Sem Unit := do
 let l ← currentRecursionLimit
 if l == recursionLimit then pure () else unsupported "enterN"
noncomputable def entTree : Code → Sem Fin
 | .call (.ref f) args => do
  let o ← load f
  match o.data with
  | .func fd => fnF f fd args enterN
  | _ => unsupported "entTree"
 | .func body env => supTree (.func body env)
 | _ => unsupported "entTree"
noncomputable def Ref {α : Type} (M : Model) (A : Around) (t' t : Sem α) : Prop := ∀ Γ,Γ.In A → ∀ Q E p s,Sem.wp M Γ t' Q E p s → Sem.wp M Γ t Q E p s
section
variable {α β : Type} {M : Model} {A : Around}
theorem Ref.refl (t : Sem α) : Ref M A t t := fun _ _ _ _ _ _ h => h
theorem Ref.bind {m' m : Sem α} {f' f : α → Sem β} (h : Ref M A m' m) (g : ∀ a,Ref M A (f' a) (f a)) : Ref M A (m' >>= f') (m >>= f) := by
 intro Γ hΓ Q E p s x
 rw [Sem.wp_bind'] at x ⊢
 exact Sem.wp_mono M Γ m (fun a p' s' y => g a Γ hΓ _ _ _ _ y) (fun _ _ _ y => y) p s (h Γ hΓ _ _ _ _ x)
noncomputable def Rev (M : Model) (A : Around) (t t' : Sem α) : Prop := Ref M A t' t
theorem Rev.to {t t' : Sem α} (h : Rev M A t t') : Ref M A t' t := h
theorem Rev.back {t t' : Sem α} (h : Ref M A t' t) : Rev M A t t' := h
theorem Ref.pair1 {γ : Type} {j' j : α → Sem β} {t' t : Sem γ} (h : ∀ a,Ref M A (j' a) (j a)) (g : (∀ a,Ref M A (j' a) (j a)) → Ref M A t' t) : Ref M A t' t := g h
theorem Ref.unsup {e : String} {t : Sem α} : Ref M A (unsupported e) t := fun _ _ _ _ _ _ h => h.elim
theorem Ref.enter (hd : A.depth < recursionLimit) : Ref M A enterN enterFrame := by
 intro Γ hΓ Q E p s h
 unfold enterN at h
 rw [Sem.wp_bind'] at h
 have hsum : ∀ p,((((Γ.code,p) :: Γ.below).map (·.1)).map (·.frames)).sum + ((((Γ.code,p) :: Γ.below).map (·.1)).filter Code.isCreation).length < recursionLimit := by
  intro p
  have hge := frameCount_ge ((Γ.code,p) :: Γ.below)
  rw [frameCount_cons] at hge
  have := hΓ.2.1
  lia
 have hlt : ¬ ((((Γ.code,p) :: Γ.below).map (·.1)).map (·.frames)).sum ≥ recursionLimit := by have := hsum p; lia
 have hlt' : ¬ ((((Γ.code,p) :: Γ.below).map (·.1)).map (·.frames)).sum + ((((Γ.code,p) :: Γ.below).map (·.1)).filter Code.isCreation).length ≥ recursionLimit := by have := hsum p; lia
 simp only [enterFrame,Sem.wp_bind']
 show Sem.wp M Γ currentRecursionLimit _ _ p s
 refine Sem.wp_mono M Γ currentRecursionLimit ?_ (fun _ _ _ x => x) p s h
 intro l p' s' hl
 by_cases q : l = recursionLimit
 ·subst q
  have hl : Q () p' s' := hl
  show Sem.wp M Γ (if nearTheLimitUnderAClaim (((Γ.code,p) :: Γ.below).map (·.1)) (((((Γ.code,p) :: Γ.below).map (·.1)).map (·.frames)).sum + ((((Γ.code,p) :: Γ.below).map (·.1)).filter Code.isCreation).length) recursionLimit = true then _ else _) _ _ p' s'
  rw [if_neg (by rw [not_nearTheLimit hΓ hd]; exact Bool.false_ne_true)]
  show Sem.wp M Γ (if ((((Γ.code,p) :: Γ.below).map (·.1)).map (·.frames)).sum ≥ recursionLimit then _ else _) _ _ p' s'
  rw [if_neg hlt]
  show Sem.wp M Γ (if ((((Γ.code,p) :: Γ.below).map (·.1)).map (·.frames)).sum + ((((Γ.code,p) :: Γ.below).map (·.1)).filter Code.isCreation).length ≥ recursionLimit then _ else _) _ _ p' s'
  rw [if_neg hlt']; exact hl
 ·rw [if_neg (by simpa using q)] at hl
  exact hl.elim
theorem Ref.fn {f : Addr} {fd : FuncData} {args : Args} (hd : A.depth < recursionLimit) : Ref M A (fnF f fd args enterN) (callFunction f fd args) := by
 rw [fnF_eq]
 delta fnF kst
 dsimp (config := { zeta := false,zetaHave := false }) only
 extract_lets -merge -useContext +onlyGivenNames j'
 refine Rev.to ?_
 extract_lets -merge -useContext +onlyGivenNames j
 refine Rev.back (Ref.pair1 (j' := j') (j := j) (fun c => Ref.bind (Ref.refl _) fun _ => Ref.bind (Ref.refl _) fun _ => Ref.bind (Ref.enter hd) fun _ => Ref.refl _) fun hj => ?_)
 clear_value j' j
 generalize fd.code = c
 cases c
 case none => exact Ref.bind (Ref.refl _) hj
 all_goals exact Ref.bind (Ref.refl _) fun v => by cases v <;> exact Ref.bind (Ref.refl _) hj
theorem Ref.toO {α : Type} {c : Code} {t' t : Sem α} (h : Ref M A t' t) : RefO M A c t' t := fun Γ _ hΓ => h Γ hΓ
theorem RefO.ent {prog : Program} {w : World} {c : Code} (hd : A.depth < recursionLimit) : RefO (model prog w) A c (entTree c) (denote table c) := by
 cases c with
 | call f args =>
  cases f with
  | ref f =>
   show RefO _ _ _ (load f >>= fun o => match o.data with | .func fd => fnF f fd args enterN | _ => unsupported "entTree") (callAny (.ref f) args)
   delta callAny
   refine Ref.toO (Ref.bind (Ref.refl _) fun o => ?_)
   cases o.data with
   | func fd => exact Ref.fn hd
   | _ => exact Ref.unsup
  | _ => exact RefO.unsup
 | func body env => exact RefO.sup
 | _ => exact RefO.unsup
end
noncomputable def names : List String := ["tuple_iterator.__next__","list.__eq__.loop","list_iterator.__next__","range_iterator.__next__","len","min.loop","type.__call__","list.__getitem__","list.__len__","tuple.__eq__","type.__getattribute__","list.append","range.__new__","range.__iter__","min","generator.__next__","tuple.__iter__","list.__eq__","str.__eq__","list.__iter__","super.__init__","object.__init__","int.__lt__","str.join","sum.loop","list.__ne__","list.__iadd__","object.__setattr__","super.__getattribute__","list.extend.loop","type.__new__","list.__le__","list.__gt__","list.__ge__","list.sort","list.__lt__","list.__setitem__","int.__ne__","list.__getattribute__","proto.getattr_hooked","object.__new__","int.__eq__","tuple.__le__","sum","str.__len__","str.__new__","int.__gt__","wrapper_descriptor.__get__","tuple.__gt__","tuple.__ge__","member_descriptor.__get__","int.__add__","tuple.__lt__","int.__mod__","list_iterator.__iter__","proto.slot","member_descriptor.__set__","super.__new__","range_iterator.__iter__","int.__neg__","list.__new__","list.__add__","proto.slot#set","proto.let_go","list.__init__","generator.__iter__","proto.collect","str.__add__","iter","next","int.__le__","int.__ge__","int.__floordiv__","classmethod_descriptor.__get__","str.__le__","sorted","list.pop","str.__gt__","str.__ge__","method_descriptor.__get__","int.__sub__","str.__lt__","type.__prepare__","type.__init__","object.__init_subclass__","tuple.__getitem__","tuple.__len__","str.__ne__","tuple.__ne__","bool.__and__","int.__mul__","int.__bool__","range.__len__","dict.__getitem__","function.__get__","reversed"]
noncomputable def nameCodes : List Nat := [9231062798198206674541908477283886571094360729198884469,150786581052259025172200297655235275373,36058839055461744822429329989390181918337346850548333,9231062798198206674541908477283886571094360729114862195,7300717,8174156937927027310,7635746451779523968930960996981,128106587276438692081757506308484131437,29827143893661030152192420461,29827158059823676398654027381,140854505206198938474892998312512546124542610864757,122627580202994350266018413,7635759717146493738706625585779,1954752940192971970453299505619571,7301742,8395602706694450420893107072773897535317608,1954752940192971970453299589641845,116512336171186236184357485,455126313168696234964340,7635753672628796759583453637229,1954753563970360692704791583880820,500416912376412337332428835721536368,455126531311803185852266,8028352891401237876,8174156937926964852,116512115458775698011089517,7635736742594467534504881056365,8395600027772484101628393163519180982150000,36058753332786928249572607568003211807882964030813812,150786581052265140416522592343328844397,29827186395103491166823348853,116512115314660509935233645,116512391655533645388868205,116512114954372539745593965,2166587332882953693805,116512392015821615578507885,128106587276438692082622197436939266669,455125451010842570354538,140854505206198938474892998312512546124542862715501,578892190251384323716698947995045951570422297457,1954754487589502397125371494097776,455126313168696235093866,29827101520553090478878324341,7239284,116512280834613399031870836,116512446855873012371256692,455126529904428302298986,154871532655823634640127845519224445112018647374903881410704248,29827172263816613155008771701,29827101428319370110330566261,604966924436811072812999396559470488718822841308218051683950,116512096292018843154739050,29827172356050333523556529781,116512097088030077292474218,36058827215071027279810240841305820761558218265881197,554590800813011445511025,604966924454349092460970231577914706711418237544089242199662,7635759717146493738762426742388,9231059767058182983631421655374290114958903811440075379,116512151707967833018560362,29827186395103491167075199597,29827096650756823847613524589,2381159140540759985004003692934001,34788504898062588765686231921,7635756109259221455878126594669,8395599949888658542141840057751587768985192,9300767342341403084508581884785,116512096292018843154609524,1936094570,1970890351,455125450447892616933226,455125449040517733379946,128106770130096871752080967664072486762,665168167838158534723201825764009131039867147000490536708059151091264868,455125450447892616803700,111490731569268,8174157772325415533,455126529904428302169460,455125449040517733250420,604966924436811072812999396559470488718822841292867939690094,116512060628576343961202538,455126531311803185722740,128106426041256152252921197804632767093,7635756109259221455877874743925,2363151694863933350307745382965024919441987134820927103856,32795286342768305172929921614907396159093,7635748836777223718896718149237,455125451010842570225012,29827101557446578626297427573,29827096835224264584574562403,116512245094328231196454762,29827134633612522566320484202,7635748836777223718896634126963,128106587276438692081757506308483082853,128106729249270423073818695490870408807,7306655484444370547]
theorem nameCodes_eq : names.map PySem.code = nameCodes := by decide +kernel
noncomputable def known (id : String) : Bool := nameCodes.any fun n => Nat.beq n (PySem.code id)
theorem known_mem {id : String} (h : known id = true) : id ∈ names := by
 unfold known at h
 rw [← nameCodes_eq,List.any_map] at h
 obtain ⟨x,hx,e⟩ := List.any_eq_true.mp h
 have := PySem.code_inj _ _ (Nat.eq_of_beq_eq_true e)
 exact this ▸ hx
theorem names_ok : (names.all fun n => (plainId n || n == "type.__call__")) = true := by decide +kernel
noncomputable def okCode : Code → Bool
 | .builtin id _ => known id
 | _ => true
theorem call_quiet (args : Args) : (Code.builtin "type.__call__" args).quiet = true := by
 refine Code.quiet_builtin args ?_
 decide +kernel
theorem okCode_quiet {c : Code} (h : okCode c = true) : c.quiet = true := by
 cases c with
 | builtin id args =>
  have := List.all_eq_true.mp names_ok id (known_mem h)
  rcases Bool.or_eq_true_iff.mp this with q | q
  ·exact plainId_quiet q args
  ·rw [beq_iff_eq.mp q]; exact call_quiet args
 | _ => rfl
theorem okCode_weight {c : Code} (h : okCode c = true) : c.weight ≤ 1 ∧ c.cUnits ≤ 3 := by
 cases c with
 | builtin id args =>
  have := List.all_eq_true.mp names_ok id (known_mem h)
  rcases Bool.or_eq_true_iff.mp this with q | q
  ·rw [plainId_weight q args,plainId_units q args]; lia
  ·rw [beq_iff_eq.mp q]
   have hf : (Code.builtin "type.__call__" args).frames = 0 := rfl
   have hg : (Code.builtin "type.__call__" args).isGuard = false := by
    show guardIds.contains "type.__call__" = false
    decide +kernel
   have hk : (Code.builtin "type.__call__" args).isCaller = false := rfl
   have hu : (Code.builtin "type.__call__" args).cUnits = 1 := by simp [Code.cUnits,hf]
   refine ⟨?_,by lia⟩
   unfold Code.weight
   rw [hf,hg,hk]
   split <;> simp
 | compStart e d i a env =>
  have hu : (Code.compStart e d i a env).cUnits = 3 * (Code.compStart e d i a env).frames := rfl
  have hw : (Code.compStart e d i a env).weight = (Code.compStart e d i a env).frames := by
   rfl
  have hf : (Code.compStart e d i a env).frames ≤ 1 := by
   show (if (Code.compStart e d i a env).isFrame = true then 1 else 0) ≤ 1
   split <;> lia
  lia
 | compLoop e d i a env =>
  have hu : (Code.compLoop e d i a env).cUnits = 3 * (Code.compLoop e d i a env).frames := rfl
  have hw : (Code.compLoop e d i a env).weight = (Code.compLoop e d i a env).frames := by
   rfl
  have hf : (Code.compLoop e d i a env).frames ≤ 1 := by
   show (if (Code.compLoop e d i a env).isFrame = true then 1 else 0) ≤ 1
   split <;> lia
  lia
 | _ => exact ⟨Nat.le_of_ble_eq_true rfl,Nat.le_of_ble_eq_true rfl⟩
noncomputable abbrev Frm := Code × (Result → Sem Fin)
inductive Cur (α : Type) where
 | b (t : Sem α)
 | i (c : Code) (κ : List Frm) (k₀ : Result → Sem α) (t : Sem Fin)
inductive Out (α : Type) where
 | fin (a : α)
 | at_ (c : Code) (κ : List Frm) (k₀ : Result → Sem α)
noncomputable def After (C : Ctr) (s s' : Shared) : Prop :=
 s'.heap.objs.size = s.heap.objs.size + C.grow ∧ s'.toks = s.toks + C.toks ∧ (∀ p ∈ C.upd s.heap.objs.size s.toks,s'.heap.get? p.1 = some p.2) ∧
 (∀ p ∈ C.news s.heap.objs.size s.toks,s'.heap.get? (s.heap.objs.size + p.1) = some p.2) ∧
 (∀ b o,s.heap.get? b = some o → (∀ p ∈ C.upd s.heap.objs.size s.toks,p.1 ≠ b) → s'.heap.get? b = some o) ∧
 (AllBare s.gens → AllBare s'.gens) ∧ s'.os = s.os
noncomputable def Ctr.Ok (V : Vw) (C : Ctr) : Prop := ∀ (A : Around) (s : Shared),A.depth ≤ C.dm → A.units ≤ C.um → A.handled = none → (∀ a o,V.lk a = some o → s.heap.get? a = some o) →
 (∀ p ∈ C.pre,s.heap.get? p.1 = some p.2) → codeAny (model V.prog V.w) A C.code (fun r s' => r = C.res s.heap.objs.size s.toks ∧ After C s s') s
section
structure Clo {β : Type} (V : Vw) (W : Sem β → Shared → Prop) : Prop where
 rule : ∀ t k s,W (k ()) s → W (.rule t k) s
 pos : ∀ t k s,W (k ()) s → W (.at t k) s
 point : ∀ t k s,W (k ()) s → W (.point t k) s
 ask : ∀ k s,W (k ⟨V.prog,V.w.params⟩) s → W (.ask k) s
 fresh : ∀ k s,W (k s.toks) { s with toks := s.toks + 1 } → W (.fresh k) s
 load : ∀ a q k o (s : Shared),s.heap.get? a = some o → W (k o) s → W (.load a q k) s
 alive : ∀ a k o (s : Shared),s.heap.get? a = some o → W (k (some o)) s → W (.loadIfAlive a k) s
 alloc : ∀ o k s,W (k s.heap.objs.size) { s with heap := s.heap.push o } → W (.alloc o k) s
 update : ∀ a q f k o (s : Shared),s.heap.get? a = some o → W (k ()) { s with heap := s.heap.update a f } → W (.update a q f k) s
 handled : ∀ k s,W (k none) s → W (.handled false k) s
noncomputable def over (g : Nat → Option Obj) : List (Addr × Obj) → Nat → Option Obj
 | [],b => g b
 | (a,o) :: ps,b => over (fun c => if c = a then some o else g c) ps b
theorem over_cases : ∀ {ps : List (Addr × Obj)} {g : Nat → Option Obj} {b : Nat} {o : Obj},over g ps b = some o → (∃ p ∈ ps,p.1 = b ∧ p.2 = o) ∨ (g b = some o ∧ ∀ p ∈ ps,p.1 ≠ b)
 | [],_,_,_,e => .inr ⟨e,fun _ hp => nomatch hp⟩
 | (a,o') :: ps,g,b,o,e => by
  unfold over at e
  rcases over_cases e with ⟨p,hp,q⟩ | ⟨q,hn⟩
  ·exact .inl ⟨p,List.mem_cons_of_mem _ hp,q⟩
  ·by_cases z : b = a
   ·rw [if_pos z] at q
    exact .inl ⟨(a,o'),List.mem_cons_self ..,z.symm,Option.some.inj q⟩
   ·rw [if_neg z] at q
    refine .inr ⟨q,fun p hp => ?_⟩
    rcases List.mem_cons.mp hp with rfl | hp
    ·exact fun y => z y.symm
    ·exact hn p hp
end
section
variable {α : Type}
noncomputable def ar (A : Around) : List Frm → Around
 | [] => A
 | (c,_) :: κ => (ar A κ).under c
noncomputable def en (prog : Program) (w : World) (A : Around) (Q : α → Shared → Prop) (E : Value → Shared → Prop) (k₀ : Result → Sem α) : List Frm → Result → Shared → Prop
 | [] => postA prog w A Q E k₀
 | (c,k) :: κ => postR prog w (ar A κ) c (postC prog w (ar A κ) (en prog w A Q E k₀ κ)) (postE (en prog w A Q E k₀ κ)) k
noncomputable def MeansC (prog : Program) (w : World) (A : Around) (Q : α → Shared → Prop) (E : Value → Shared → Prop) : Cur α → Shared → Prop
 | .b t => wpAny (model prog w) A t Q E
 | .i c κ k₀ t => wpOwn (model prog w) (ar A κ) c t (postC prog w (ar A κ) (en prog w A Q E k₀ κ)) (postE (en prog w A Q E k₀ κ))
noncomputable def OutOk (prog : Program) (w : World) (A : Around) (Q : α → Shared → Prop) (E : Value → Shared → Prop) : Out α → Shared → Prop
 | .fin a => Q a
 | .at_ c κ k₀ => codeAny (model prog w) (ar A κ) c (en prog w A Q E k₀ κ)
noncomputable def kOk (κ : List Frm) : Prop := ∀ f ∈ κ,okCode f.1 = true
noncomputable def cOk : Cur α → Prop
 | .b _ => True
 | .i _ κ _ _ => kOk κ
theorem ar_le {V : Vw} {A : Around} (hd : A.depth ≤ V.d₀) (hu : A.units ≤ V.u₀) (hh : A.handled = none) : ∀ {κ : List Frm},kOk κ → (ar A κ).depth ≤ V.d₀ + κ.length ∧ (ar A κ).units ≤ V.u₀ + 3 * κ.length ∧ (ar A κ).handled = none
 | [],_ => ⟨hd,hu,hh⟩
 | (c,k) :: κ,h => by
  obtain ⟨a,b,e⟩ := ar_le (κ := κ) hd hu hh fun f hf => h f (List.mem_cons_of_mem _ hf)
  obtain ⟨x,y⟩ := okCode_weight (h (c,k) (List.mem_cons_self ..))
  refine ⟨?_,?_,e⟩
  ·show (ar A κ).depth + c.weight ≤ V.d₀ + (κ.length + 1)
   have x : c.weight ≤ 1 := x
   lia
  ·show (ar A κ).units + c.cUnits ≤ V.u₀ + 3 * (κ.length + 1)
   have y : c.cUnits ≤ 3 := y
   lia
theorem clo_any {V : Vw} {A : Around} (hh : A.handled = none) {Q : α → Shared → Prop} {E : Value → Shared → Prop} : Clo V (fun t => wpAny (model V.prog V.w) A t Q E) where
 rule := fun t k s h => x_rule h
 pos := fun t k s h => x_at h
 point := fun t k s h => x_point h
 ask := fun k s h => x_ask h
 fresh := fun k s h => x_fresh h
 load := fun a q k o s ho h => x_load ho h
 alive := fun a k o s ho h => fun Γ p hΓ => by
  show Sem.wp _ _ (k (s.heap.get? a)) _ _ _ _
  rw [ho]; exact h Γ p hΓ
 alloc := fun o k s h => wpAny_bind (m := alloc o) (f := k) (wpAny_alloc h)
 update := fun a q f k o s ho h => wpAny_bind (m := updatePart a q f) (f := k) (wpAny_updatePart ho h)
 handled := fun k s h => x_handled (by rw [hh]; exact h)
theorem clo_own {V : Vw} {A : Around} {c : Code} (hh : A.handled = none) {β : Type} {Q : β → Shared → Prop} {E : Value → Shared → Prop} : Clo V (fun t => wpOwn (model V.prog V.w) A c t Q E) where
 rule := fun t k s h => fun Γ p hc hΓ => h Γ p hc hΓ
 pos := fun t k s h => fun Γ p hc hΓ => h Γ t hc hΓ
 point := fun t k s h => fun Γ p hc hΓ => h Γ p hc hΓ
 ask := fun k s h => fun Γ p hc hΓ => h Γ p hc hΓ
 fresh := fun k s h => fun Γ p hc hΓ => h Γ p hc hΓ
 load := fun a q k o s ho h => wpOwn_bind (m := loadPart a q) (f := k) (wpOwn_of_wpAny (wpAny_loadPart ho h))
 alive := fun a k o s ho h => fun Γ p hc hΓ => by
  show Sem.wp _ _ (k (s.heap.get? a)) _ _ _ _
  rw [ho]; exact h Γ p hc hΓ
 alloc := fun o k s h => wpOwn_bind (m := alloc o) (f := k) (wpOwn_of_wpAny (wpAny_alloc h))
 update := fun a q f k o s ho h => wpOwn_bind (m := updatePart a q f) (f := k) (wpOwn_of_wpAny (wpAny_updatePart ho h))
 handled := fun k s h => y_handled _ _ _ _ _ _ _ _ _ (by rw [hh]; exact h)
variable {V : Vw} {s₀ : Shared} {A : Around} {Q : α → Shared → Prop} {E : Value → Shared → Prop}
theorem codeAny_pure {M : Model} {A : Around} {c : Code} {Q : Result → Shared → Prop} {E : Value → Shared → Prop} {s : Shared} (h : codeAny M A c (fun r s' => wpAny M A (Sem.pure r) Q E s') s) : codeAny M A c Q s := by
 intro Γ p hc hΓ
 refine wpCode_mono (fun r s' z => ?_) (h Γ p hc hΓ)
 have := z { Γ with code := .block [] default } default ⟨hΓ.1,hΓ.2.1,hΓ.2.2.1,hΓ.2.2.2.1,by
  show (0 : Nat) + unitsOf Γ.below ≤ A.units
  have := hΓ.2.2.2.2
  lia⟩
 exact this
end
end Mine
end
section
namespace Mine
noncomputable def s (l : List Nat) : Str := Str.mk (Array.mk l)
noncomputable def sx0 := s [95,108,97,119,95,100,117,101]
noncomputable def sx1 := s [114,111,119]
noncomputable def sx2 := s [102,105,114,115,116]
noncomputable def sx3 := s [112,105,101,99,101,115]
noncomputable def sx4 := s [95,108,97,119,95,116,97,98,108,101]
noncomputable def sx5 := s [112,108,97,99,101]
noncomputable def sx6 := s [46,48]
noncomputable def sx7 := s [116,101,120,116]
noncomputable def sx8 := s []
noncomputable def sx9 := s [106,111,105,110]
noncomputable def sx10 := s [102,119,115]
noncomputable def sx11 := s [112,97,114,116]
noncomputable def sx12 := s [108,101,110]
noncomputable def sx13 := s [102,97,115,116]
noncomputable def sx14 := s [95,108,97,119,95,98,101,103,117,110]
noncomputable def sx15 := s [104,101,97,112]
noncomputable def sx16 := s [95,65,99,99,117,109,117,108,97,116,111,114]
noncomputable def sx17 := s [95,108,97,119,95,112,117,115,104]
noncomputable def sx18 := s [95,108,97,119,95,97,108,108,95,116,119,101,108,118,101]
noncomputable def sx19 := s [104,101,97,112,115]
noncomputable def sx20 := s [114,111,119,115]
noncomputable def sx21 := s [105]
noncomputable def sx22 := s [114,97,110,103,101]
noncomputable def sx23 := s [106]
noncomputable def sx24 := s [95,108,97,119,95,116,119,101,108,118,101]
noncomputable def sx25 := s [95,108,97,119,95,115,105,103,110]
noncomputable def sx26 := s [95,108,97,119,95,111,114,100,101,114]
noncomputable def sx27 := s [95,108,97,119,95,112,108,97,99,101]
noncomputable def sx28 := s [108,97,119]
noncomputable def sx29 := s [115,99,114,105,112,116]
noncomputable def sx30 := s [102,105,114,115,116,115]
noncomputable def sx31 := s [95,108,97,119,95,100,101,101,100,115]
noncomputable def sx32 := s [100,117,101]
noncomputable def sx33 := s [107]
noncomputable def sx34 := s [114,97,110,107,101,100]
noncomputable def sx35 := s [115,111,114,116,101,100]
noncomputable def sx36 := s [107,101,121]
noncomputable def sx37 := s [99,109,112,95,116,111,95,107,101,121]
noncomputable def sx38 := s [117]
noncomputable def sx39 := s [118]
noncomputable def sx40 := s [95,103,116,95,102,114,111,109,95,108,101]
noncomputable def sx41 := s [95,108,116,95,102,114,111,109,95,103,101]
noncomputable def sx42 := s [108,97,115,116]
noncomputable def sx43 := s [114,101,100,117,99,101]
noncomputable def sx44 := s [115]
noncomputable def sx45 := s [116]
noncomputable def sx46 := s [95,103,101,95,102,114,111,109,95,108,101]
noncomputable def sx47 := s [108,101,97,115,116]
noncomputable def sx48 := s [112]
noncomputable def sx49 := s [113]
noncomputable def sx50 := s [95,108,101,95,102,114,111,109,95,103,116]
noncomputable def sx51 := s [95,108,97,119,95,108,111,111,107]
noncomputable def sx52 := s [111,110,101]
noncomputable def sx53 := s [116,119,111]
noncomputable def sx54 := s [109,105,110]
noncomputable def sx55 := s [115,105,103,110]
noncomputable def sx56 := s [103,114,101,97,116,101,114]
noncomputable def sx57 := s [95,103,116,95,102,114,111,109,95,108,116]
noncomputable def sx58 := s [95,103,116,95,102,114,111,109,95,103,101]
noncomputable def sx59 := s [108,101,115,115]
noncomputable def sx60 := s [95,108,116,95,102,114,111,109,95,108,101]
noncomputable def sx61 := s [95,108,116,95,102,114,111,109,95,103,116]
noncomputable def sx62 := s [110,111,95,108,101,115,115]
noncomputable def sx63 := s [95,103,101,95,102,114,111,109,95,108,116]
noncomputable def sx64 := s [95,103,101,95,102,114,111,109,95,103,116]
noncomputable def sx65 := s [110,111,95,103,114,101,97,116,101,114]
noncomputable def sx66 := s [95,108,101,95,102,114,111,109,95,108,116]
noncomputable def sx67 := s [95,108,101,95,102,114,111,109,95,103,101]
noncomputable def sx68 := s [97,110,115,119,101,114,115]
noncomputable def sx69 := s [97,110,115,119,101,114]
noncomputable def sx70 := s [97,104,101,97,100]
noncomputable def sx71 := s [112,97,114,116,95,99,111,117,110,116]
noncomputable def sx72 := s [115,116,114]
noncomputable def sx73 := s [95,95,110,97,109,101,95,95]
noncomputable def sx74 := s [108,97,119,95,105,106,48,49,48,51,95,48,49]
noncomputable def sx75 := s [32]
noncomputable def sx76 := s [97]
noncomputable def sx77 := s [98]
noncomputable def sx78 := s [112,117,115,104]
noncomputable def sx79 := s [110,117,109,98,101,114,115]
noncomputable def sx80 := s [103,97,118,101]
noncomputable def sx81 := s [116,97,107,101,110]
noncomputable def sx82 := s [116,117,114,110]
noncomputable def sx83 := s [120]
noncomputable def sx84 := s [107,105,110,100]
noncomputable def sx85 := s [112,111,112]
noncomputable def sx86 := s [112,111,112,95,102,114,111,109]
noncomputable def sx87 := s [114,101,115,101,116]
noncomputable def sx88 := s [115,101,108,102]
noncomputable def sx89 := s [111,116,104,101,114]
noncomputable def sx90 := s [111,112,95,114,101,115,117,108,116]
noncomputable def sx91 := s [116,121,112,101]
noncomputable def sx92 := s [95,95,103,101,95,95]
noncomputable def sx93 := s [78,111,116,73,109,112,108,101,109,101,110,116,101,100]
noncomputable def sx94 := s [109,121,99,109,112]
noncomputable def sx95 := s [75]
noncomputable def sx96 := s [111,98,106,101,99,116]
noncomputable def sx97 := s [95,95,109,111,100,117,108,101,95,95]
noncomputable def sx98 := s [99,112,121,51,49,51,46,102,117,110,99,116,111,111,108,115]
noncomputable def sx99 := s [95,95,115,108,111,116,115,95,95]
noncomputable def sx100 := s [111,98,106]
noncomputable def sx101 := s [95,95,105,110,105,116,95,95]
noncomputable def sx102 := s [95,95,108,116,95,95]
noncomputable def sx103 := s [95,95,103,116,95,95]
noncomputable def sx104 := s [95,95,101,113,95,95]
noncomputable def sx105 := s [95,95,108,101,95,95]
noncomputable def sx106 := s [95,95,104,97,115,104,95,95]
noncomputable def sx107 := s [95,105,110,105,116,105,97,108,95,109,105,115,115,105,110,103]
noncomputable def sx108 := s [102,117,110,99,116,105,111,110]
noncomputable def sx109 := s [115,101,113,117,101,110,99,101]
noncomputable def sx110 := s [105,110,105,116,105,97,108]
noncomputable def sx111 := s [105,116]
noncomputable def sx112 := s [105,116,101,114]
noncomputable def sx113 := s [118,97,108,117,101]
noncomputable def sx114 := s [110,101,120,116]
noncomputable def sx115 := s [83,116,111,112,73,116,101,114,97,116,105,111,110]
noncomputable def sx116 := s [84,121,112,101,69,114,114,111,114]
noncomputable def sx117 := s [114,101,100,117,99,101,40,41,32,111,102,32,101,109,112,116,121,32,105,116,101,114,97,98,108,101,32,119,105,116,104,32,110,111,32,105,110,105,116,105,97,108,32,118,97,108,117,101]
noncomputable def sx118 := s [101,108,101,109,101,110,116]
noncomputable def sx119 := s [95,119,97,108,108]
noncomputable def sx120 := s [99,112,121,51,49,51,46,101,109,97,105,108,46,104,101,97,100,101,114]
noncomputable def sx121 := s [69,77,80,84,89,83,84,82,73,78,71]
noncomputable def sx122 := s [108,105,115,116]
noncomputable def sx123 := s [105,110,105,116,105,97,108,95,115,105,122,101]
noncomputable def sx124 := s [95,105,110,105,116,105,97,108,95,115,105,122,101]
noncomputable def sx125 := s [115,117,112,101,114]
noncomputable def sx126 := s [95,95,99,108,97,115,115,95,95]
noncomputable def sx127 := s [115,116,114,105,110,103]
noncomputable def sx128 := s [97,112,112,101,110,100]
noncomputable def sx129 := s [112,111,112,112,101,100]
noncomputable def sx130 := s [95,95,108,101,110,95,95]
noncomputable def sx131 := s [115,117,109]
noncomputable def sx132 := s [95,95,115,116,114,95,95]
noncomputable def sx133 := s [115,116,97,114,116,118,97,108]
noncomputable def sx134 := s [105,115,95,111,110,108,121,119,115]
noncomputable def sx135 := s [47,99,108,97,105,109,47,99,117,116,46,112,121]
noncomputable def sx136 := s [95,95,109,97,105,110,95,95]
noncomputable def sx137 := s [60,109,111,100,117,108,101,62]
noncomputable def sx138 := s [95,65,99,99,117,109,117,108,97,116,111,114,46,95,95,105,110,105,116,95,95]
noncomputable def sx139 := s [95,65,99,99,117,109,117,108,97,116,111,114,46,112,117,115,104]
noncomputable def sx140 := s [95,65,99,99,117,109,117,108,97,116,111,114,46,112,111,112,95,102,114,111,109]
noncomputable def sx141 := s [95,65,99,99,117,109,117,108,97,116,111,114,46,112,111,112]
noncomputable def sx142 := s [95,65,99,99,117,109,117,108,97,116,111,114,46,95,95,108,101,110,95,95]
noncomputable def sx143 := s [95,65,99,99,117,109,117,108,97,116,111,114,46,95,95,115,116,114,95,95]
noncomputable def sx144 := s [95,65,99,99,117,109,117,108,97,116,111,114,46,114,101,115,101,116]
noncomputable def sx145 := s [95,65,99,99,117,109,117,108,97,116,111,114,46,105,115,95,111,110,108,121,119,115]
noncomputable def sx146 := s [95,65,99,99,117,109,117,108,97,116,111,114,46,112,97,114,116,95,99,111,117,110,116]
noncomputable abbrev Ar := Str → Str → Str → Str → Str → Str → Str → Str → Str → Str → Str → Str → Str → Str → Str → Str → Str → Str → Str → Str → Str → Str → Str → Str → Str → Str → Str → Str → Str → Str → Str → Str → Str → Str → Str → Str → Str → Str → Str → Str → Str → Str → Str → Str → Str → Str → Str → Str → Str → Str → Str → Str → Str → Str → Str → Str → Str → Str → Str → Str → Str → Str → Str → Str → Str → Str → Str → Str → Str → Str → Str → Str → Str → Str → Str → Str → Str → Str → Str → Str → Str → Str → Str → Str → Str → Str → Str → Str → Str → Str → Str → Str → Str → Str → Str → Str → Str → Str → Str → Str → Str → Str → Str → Str → Str → Str → Str → Str → Str → Str → Str → Str → Str → Str → Str → Str → Str → Str → Str → Str → Str → Str → Str → Str → Str → Str → Str → Str → Str → Str → Str → Str → Str → Str → Str → Str → Program
noncomputable def atF (F : Ar) : Program := F (.ofString "_law_due") (.ofString "row") (.ofString "first") (.ofString "pieces") (.ofString "_law_table") (.ofString "place") (.ofString ".0") (.ofString "text") (.ofString "") (.ofString "join") (.ofString "fws") (.ofString "part") (.ofString "len") (.ofString "fast") (.ofString "_law_begun") (.ofString "heap") (.ofString "_Accumulator") (.ofString "_law_push") (.ofString "_law_all_twelve") (.ofString "heaps") (.ofString "rows") (.ofString "i") (.ofString "range") (.ofString "j") (.ofString "_law_twelve") (.ofString "_law_sign") (.ofString "_law_order") (.ofString "_law_place") (.ofString "law") (.ofString "script") (.ofString "firsts") (.ofString "_law_deeds") (.ofString "due") (.ofString "k") (.ofString "ranked") (.ofString "sorted") (.ofString "key") (.ofString "cmp_to_key") (.ofString "u") (.ofString "v") (.ofString "_gt_from_le") (.ofString "_lt_from_ge") (.ofString "last") (.ofString "reduce") (.ofString "s") (.ofString "t") (.ofString "_ge_from_le") (.ofString "least") (.ofString "p") (.ofString "q") (.ofString "_le_from_gt") (.ofString "_law_look") (.ofString "one") (.ofString "two") (.ofString "min") (.ofString "sign") (.ofString "greater") (.ofString "_gt_from_lt") (.ofString "_gt_from_ge") (.ofString "less") (.ofString "_lt_from_le") (.ofString "_lt_from_gt") (.ofString "no_less") (.ofString "_ge_from_lt") (.ofString "_ge_from_gt") (.ofString "no_greater") (.ofString "_le_from_lt") (.ofString "_le_from_ge") (.ofString "answers") (.ofString "answer") (.ofString "ahead") (.ofString "part_count") (.ofString "str") (.ofString "__name__") (.ofString "law_ij0103_01") (.ofString " ") (.ofString "a") (.ofString "b") (.ofString "push") (.ofString "numbers") (.ofString "gave") (.ofString "taken") (.ofString "turn") (.ofString "x") (.ofString "kind") (.ofString "pop") (.ofString "pop_from") (.ofString "reset") (.ofString "self") (.ofString "other") (.ofString "op_result") (.ofString "type") (.ofString "__ge__") (.ofString "NotImplemented") (.ofString "mycmp") (.ofString "K") (.ofString "object") (.ofString "__module__") (.ofString "cpy313.functools") (.ofString "__slots__") (.ofString "obj") (.ofString "__init__") (.ofString "__lt__") (.ofString "__gt__") (.ofString "__eq__") (.ofString "__le__") (.ofString "__hash__") (.ofString "_initial_missing") (.ofString "function") (.ofString "sequence") (.ofString "initial") (.ofString "it") (.ofString "iter") (.ofString "value") (.ofString "next") (.ofString "StopIteration") (.ofString "TypeError") (.ofString "reduce() of empty iterable with no initial value") (.ofString "element") (.ofString "_wall") (.ofString "cpy313.email.header") (.ofString "EMPTYSTRING") (.ofString "list") (.ofString "initial_size") (.ofString "_initial_size") (.ofString "super") (.ofString "__class__") (.ofString "string") (.ofString "append") (.ofString "popped") (.ofString "__len__") (.ofString "sum") (.ofString "__str__") (.ofString "startval") (.ofString "is_onlyws") (.ofString "/claim/cut.py")
noncomputable def progF : Ar := by
 refine (?k : (F : Ar) → atF F = PySem.Challenge.pw_ij0103_01 → Ar) ?F ?h
 case k => exact fun F _ => F
 case h =>
  delta atF PySem.Challenge.pw_ij0103_01
  generalize Str.ofString "_law_due" = x0,Str.ofString "row" = x1,Str.ofString "first" = x2,Str.ofString "pieces" = x3,Str.ofString "_law_table" = x4,Str.ofString "place" = x5,Str.ofString ".0" = x6,Str.ofString "text" = x7,Str.ofString "" = x8,Str.ofString "join" = x9,Str.ofString "fws" = x10,Str.ofString "part" = x11,Str.ofString "len" = x12,Str.ofString "fast" = x13,Str.ofString "_law_begun" = x14,Str.ofString "heap" = x15,Str.ofString "_Accumulator" = x16,Str.ofString "_law_push" = x17,Str.ofString "_law_all_twelve" = x18,Str.ofString "heaps" = x19,Str.ofString "rows" = x20,Str.ofString "i" = x21,Str.ofString "range" = x22,Str.ofString "j" = x23,Str.ofString "_law_twelve" = x24,Str.ofString "_law_sign" = x25,Str.ofString "_law_order" = x26,Str.ofString "_law_place" = x27,Str.ofString "law" = x28,Str.ofString "script" = x29,Str.ofString "firsts" = x30,Str.ofString "_law_deeds" = x31,Str.ofString "due" = x32,Str.ofString "k" = x33,Str.ofString "ranked" = x34,Str.ofString "sorted" = x35,Str.ofString "key" = x36,Str.ofString "cmp_to_key" = x37,Str.ofString "u" = x38,Str.ofString "v" = x39,Str.ofString "_gt_from_le" = x40,Str.ofString "_lt_from_ge" = x41,Str.ofString "last" = x42,Str.ofString "reduce" = x43,Str.ofString "s" = x44,Str.ofString "t" = x45,Str.ofString "_ge_from_le" = x46,Str.ofString "least" = x47,Str.ofString "p" = x48,Str.ofString "q" = x49,Str.ofString "_le_from_gt" = x50,Str.ofString "_law_look" = x51,Str.ofString "one" = x52,Str.ofString "two" = x53,Str.ofString "min" = x54,Str.ofString "sign" = x55,Str.ofString "greater" = x56,Str.ofString "_gt_from_lt" = x57,Str.ofString "_gt_from_ge" = x58,Str.ofString "less" = x59,Str.ofString "_lt_from_le" = x60,Str.ofString "_lt_from_gt" = x61,Str.ofString "no_less" = x62,Str.ofString "_ge_from_lt" = x63,Str.ofString "_ge_from_gt" = x64,Str.ofString "no_greater" = x65,Str.ofString "_le_from_lt" = x66,Str.ofString "_le_from_ge" = x67,Str.ofString "answers" = x68,Str.ofString "answer" = x69,Str.ofString "ahead" = x70,Str.ofString "part_count" = x71,Str.ofString "str" = x72,Str.ofString "__name__" = x73,Str.ofString "law_ij0103_01" = x74,Str.ofString " " = x75,Str.ofString "a" = x76,Str.ofString "b" = x77,Str.ofString "push" = x78,Str.ofString "numbers" = x79,Str.ofString "gave" = x80,Str.ofString "taken" = x81,Str.ofString "turn" = x82,Str.ofString "x" = x83,Str.ofString "kind" = x84,Str.ofString "pop" = x85,Str.ofString "pop_from" = x86,Str.ofString "reset" = x87,Str.ofString "self" = x88,Str.ofString "other" = x89,Str.ofString "op_result" = x90,Str.ofString "type" = x91,Str.ofString "__ge__" = x92,Str.ofString "NotImplemented" = x93,Str.ofString "mycmp" = x94,Str.ofString "K" = x95,Str.ofString "object" = x96,Str.ofString "__module__" = x97,Str.ofString "cpy313.functools" = x98,Str.ofString "__slots__" = x99,Str.ofString "obj" = x100,Str.ofString "__init__" = x101,Str.ofString "__lt__" = x102,Str.ofString "__gt__" = x103,Str.ofString "__eq__" = x104,Str.ofString "__le__" = x105,Str.ofString "__hash__" = x106,Str.ofString "_initial_missing" = x107,Str.ofString "function" = x108,Str.ofString "sequence" = x109,Str.ofString "initial" = x110,Str.ofString "it" = x111,Str.ofString "iter" = x112,Str.ofString "value" = x113,Str.ofString "next" = x114,Str.ofString "StopIteration" = x115,Str.ofString "TypeError" = x116,Str.ofString "reduce() of empty iterable with no initial value" = x117,Str.ofString "element" = x118,Str.ofString "_wall" = x119,Str.ofString "cpy313.email.header" = x120,Str.ofString "EMPTYSTRING" = x121,Str.ofString "list" = x122,Str.ofString "initial_size" = x123,Str.ofString "_initial_size" = x124,Str.ofString "super" = x125,Str.ofString "__class__" = x126,Str.ofString "string" = x127,Str.ofString "append" = x128,Str.ofString "popped" = x129,Str.ofString "__len__" = x130,Str.ofString "sum" = x131,Str.ofString "__str__" = x132,Str.ofString "startval" = x133,Str.ofString "is_onlyws" = x134,Str.ofString "/claim/cut.py" = x135
  exact rfl
theorem progF_eq : atF progF = PySem.Challenge.pw_ij0103_01 := rfl
noncomputable def progG : Program := progF sx0 sx1 sx2 sx3 sx4 sx5 sx6 sx7 sx8 sx9 sx10 sx11 sx12 sx13 sx14 sx15 sx16 sx17 sx18 sx19 sx20 sx21 sx22 sx23 sx24 sx25 sx26 sx27 sx28 sx29 sx30 sx31 sx32 sx33 sx34 sx35 sx36 sx37 sx38 sx39 sx40 sx41 sx42 sx43 sx44 sx45 sx46 sx47 sx48 sx49 sx50 sx51 sx52 sx53 sx54 sx55 sx56 sx57 sx58 sx59 sx60 sx61 sx62 sx63 sx64 sx65 sx66 sx67 sx68 sx69 sx70 sx71 sx72 sx73 sx74 sx75 sx76 sx77 sx78 sx79 sx80 sx81 sx82 sx83 sx84 sx85 sx86 sx87 sx88 sx89 sx90 sx91 sx92 sx93 sx94 sx95 sx96 sx97 sx98 sx99 sx100 sx101 sx102 sx103 sx104 sx105 sx106 sx107 sx108 sx109 sx110 sx111 sx112 sx113 sx114 sx115 sx116 sx117 sx118 sx119 sx120 sx121 sx122 sx123 sx124 sx125 sx126 sx127 sx128 sx129 sx130 sx131 sx132 sx133 sx134 sx135
theorem s_of (l : List Char) : Str.ofString (String.ofList l) = s (l.map Char.toNat) := PySem.W.Fast.ofString_ofList l
theorem progG_eq : PySem.Challenge.pw_ij0103_01 = progG := by
 refine progF_eq.symm.trans ?_
 delta progG
 repeat' first | exact rfl | refine congr ?_ (s_of _)
noncomputable def nth : List Stmt → Nat → Stmt
 | [],_ => .Pass ⟨0,0,0,0⟩
 | s :: _,0 => s
 | _ :: r,n + 1 => nth r n
noncomputable def top (i : Nat) : Stmt := nth progG.main.body i
noncomputable def meth (i j : Nat) : Stmt := match top i with
 | .ClassDef _ _ _ b .. => nth b j
 | s => s
noncomputable def argsOf : Stmt → Arguments
 | .FunctionDef _ a .. => a
 | _ => { posonlyargs := [],args := [],vararg := none,kwonlyargs := [],kw_defaults := [],kwarg := none,defaults := [] }
noncomputable def bodyOf : Stmt → List Stmt
 | .FunctionDef _ _ b .. => b
 | _ => []
noncomputable def scopeOf : Stmt → Scope
 | .FunctionDef _ _ _ _ _ _ s .. => s
 | _ => { kind := .function,names := [],isGenerator := false,isCoroutine := false }
noncomputable def fn (st : Stmt) (n qn : Str) (cl : List (Str × Addr)) (dflt pm code ct : Value) : FuncData :=
 {name := n,qualname := qn,params := argsOf st,body := .stmts (bodyOf st),scope := scopeOf st,globals := 3,closure := cl,defaults := dflt,kwdefaults := .none,pyModule := pm,code := code,closureTuple := ct }
noncomputable def hE (P : Params) (s : Str) (n : Nat) (v : Value) : DictEntry := ⟨PyData.keyHash P s,.str s n,v⟩
noncomputable def hT (a : Array Value) : Obj := { cls := (.type "tuple"),data := .seq a 0 }
noncomputable def hF (f : FuncData) : Obj := { cls := (.type "function"),data := .func f }
noncomputable def hN (a : Array Value) : Obj := { cls := .none,data := .fields a }
noncomputable def hD : Obj := { cls := (.type "dict"),data := .dict #[] 0 }
noncomputable def hC (a b : Str) (t l c f r j : Nat) : Obj := { cls := (.type "code"),data := .fields #[.str a t,.str b (t + 1),.str sx135 (t + 2),.int l 0,.int c 0,.int 0 0,.int 0 0,.int f 0,.ref r,.bool true,.int 181 0,.ref (r + 1),.none,.ref (r + 2),.ref (r + 3),.ref (r + 4),.int j 0,.int l 0,.str sx135 (j + 1)] }
noncomputable def kT : Obj := hT #[]
noncomputable def kN : Obj := hN #[]
noncomputable def kD : Obj := hD
noncomputable def k0c0 (P : Params) (r : List DictEntry) : List DictEntry := hE P sx73 1 (.str (s [98,117,105,108,116,105,110,115]) 160) :: hE P (s [95,95,100,111,99,95,95]) 2 (.builtin "builtins.__doc__:str#opaque") :: hE P (s [95,95,112,97,99,107,97,103,101,95,95]) 3 (.builtin "builtins.__package__:str#opaque") :: hE P (s [95,95,108,111,97,100,101,114,95,95]) 4 (.builtin "builtins.__loader__:shared#opaque") :: hE P (s [95,95,115,112,101,99,95,95]) 5 (.builtin "builtins.__spec__#opaque") :: r
noncomputable def k0c1 (P : Params) (r : List DictEntry) : List DictEntry := hE P (s [95,95,98,117,105,108,100,95,99,108,97,115,115,95,95]) 6 (.builtin "__build_class__") :: hE P (s [95,95,105,109,112,111,114,116,95,95]) 7 (.builtin "__import__") :: hE P (s [97,98,115]) 8 (.builtin "abs") :: hE P (s [97,108,108]) 9 (.builtin "all") :: hE P (s [97,110,121]) 10 (.builtin "any") :: r
noncomputable def k0c2 (P : Params) (r : List DictEntry) : List DictEntry := hE P (s [97,115,99,105,105]) 11 (.builtin "ascii") :: hE P (s [98,105,110]) 12 (.builtin "bin") :: hE P (s [98,114,101,97,107,112,111,105,110,116]) 13 (.builtin "breakpoint") :: hE P (s [99,97,108,108,97,98,108,101]) 14 (.builtin "callable") :: hE P (s [99,104,114]) 15 (.builtin "chr") :: r
noncomputable def k0c3 (P : Params) (r : List DictEntry) : List DictEntry := hE P (s [99,111,109,112,105,108,101]) 16 (.builtin "compile") :: hE P (s [100,101,108,97,116,116,114]) 17 (.builtin "delattr") :: hE P (s [100,105,114]) 18 (.builtin "dir") :: hE P (s [100,105,118,109,111,100]) 19 (.builtin "divmod") :: hE P (s [101,118,97,108]) 20 (.builtin "eval") :: r
noncomputable def k0c4 (P : Params) (r : List DictEntry) : List DictEntry := hE P (s [101,120,101,99]) 21 (.builtin "exec") :: hE P (s [102,111,114,109,97,116]) 22 (.builtin "format") :: hE P (s [103,101,116,97,116,116,114]) 23 (.builtin "getattr") :: hE P (s [103,108,111,98,97,108,115]) 24 (.builtin "globals") :: hE P (s [104,97,115,97,116,116,114]) 25 (.builtin "hasattr") :: r
noncomputable def k0c5 (P : Params) (r : List DictEntry) : List DictEntry := hE P (s [104,97,115,104]) 26 (.builtin "hash") :: hE P (s [104,101,120]) 27 (.builtin "hex") :: hE P (s [105,100]) 28 (.builtin "id") :: hE P (s [105,110,112,117,116]) 29 (.builtin "input") :: hE P (s [105,115,105,110,115,116,97,110,99,101]) 30 (.builtin "isinstance") :: r
noncomputable def k0c6 (P : Params) (r : List DictEntry) : List DictEntry := hE P (s [105,115,115,117,98,99,108,97,115,115]) 31 (.builtin "issubclass") :: hE P sx112 32 (.builtin "iter") :: hE P (s [97,105,116,101,114]) 33 (.builtin "aiter") :: hE P sx12 34 (.builtin "len") :: hE P (s [108,111,99,97,108,115]) 35 (.builtin "locals") :: r
noncomputable def k0c7 (P : Params) (r : List DictEntry) : List DictEntry := hE P (s [109,97,120]) 36 (.builtin "max") :: hE P sx54 37 (.builtin "min") :: hE P sx114 38 (.builtin "next") :: hE P (s [97,110,101,120,116]) 39 (.builtin "anext") :: hE P (s [111,99,116]) 40 (.builtin "oct") :: r
noncomputable def k0c8 (P : Params) (r : List DictEntry) : List DictEntry := hE P (s [111,114,100]) 41 (.builtin "ord") :: hE P (s [112,111,119]) 42 (.builtin "pow") :: hE P (s [112,114,105,110,116]) 43 (.builtin "print") :: hE P (s [114,101,112,114]) 44 (.builtin "repr") :: hE P (s [114,111,117,110,100]) 45 (.builtin "round") :: r
noncomputable def k0c9 (P : Params) (r : List DictEntry) : List DictEntry := hE P (s [115,101,116,97,116,116,114]) 46 (.builtin "setattr") :: hE P sx35 47 (.builtin "sorted") :: hE P sx131 48 (.builtin "sum") :: hE P (s [118,97,114,115]) 49 (.builtin "vars") :: hE P (s [78,111,110,101]) 50 .none :: ⟨PyData.keyHash P (s [69,108,108,105,112,115,105,115]),.str (s [69,108,108,105,112,115,105,115]) 51,.ellipsis⟩ :: ⟨PyData.keyHash P sx93,.str sx93 52,.notImplemented⟩ :: r
noncomputable def k0c10 (P : Params) (r : List DictEntry) : List DictEntry := hE P (s [70,97,108,115,101]) 53 (.bool false) :: hE P (s [84,114,117,101]) 54 (.bool true) :: hE P (s [98,111,111,108]) 55 (.type "bool") :: hE P (s [109,101,109,111,114,121,118,105,101,119]) 56 (.type "memoryview") :: hE P (s [98,121,116,101,97,114,114,97,121]) 57 (.type "bytearray") :: r
noncomputable def k0c11 (P : Params) (r : List DictEntry) : List DictEntry := hE P (s [98,121,116,101,115]) 58 (.type "bytes") :: hE P (s [99,108,97,115,115,109,101,116,104,111,100]) 59 (.type "classmethod") :: hE P (s [99,111,109,112,108,101,120]) 60 (.type "complex") :: hE P (s [100,105,99,116]) 61 (.type "dict") :: hE P (s [101,110,117,109,101,114,97,116,101]) 62 (.type "enumerate") :: r
noncomputable def k0c12 (P : Params) (r : List DictEntry) : List DictEntry := hE P (s [102,105,108,116,101,114]) 63 (.type "filter") :: hE P (s [102,108,111,97,116]) 64 (.type "float") :: hE P (s [102,114,111,122,101,110,115,101,116]) 65 (.type "frozenset") :: hE P (s [112,114,111,112,101,114,116,121]) 66 (.type "property") :: hE P (s [105,110,116]) 67 (.type "int") :: r
noncomputable def k0c13 (P : Params) (r : List DictEntry) : List DictEntry := hE P sx122 68 (.type "list") :: hE P (s [109,97,112]) 69 (.type "map") :: hE P sx96 70 (.type "object") :: hE P sx22 71 (.type "range") :: hE P (s [114,101,118,101,114,115,101,100]) 72 (.type "reversed") :: r
noncomputable def k0c14 (P : Params) (r : List DictEntry) : List DictEntry := hE P (s [115,101,116]) 73 (.type "set") :: hE P (s [115,108,105,99,101]) 74 (.type "slice") :: hE P (s [115,116,97,116,105,99,109,101,116,104,111,100]) 75 (.type "staticmethod") :: hE P sx72 76 (.type "str") :: hE P sx125 77 (.type "super") :: r
noncomputable def k0c15 (P : Params) (r : List DictEntry) : List DictEntry := hE P (s [116,117,112,108,101]) 78 (.type "tuple") :: hE P sx91 79 (.type "type") :: hE P (s [122,105,112]) 80 (.type "zip") :: hE P (s [95,95,100,101,98,117,103,95,95]) 81 (.bool true) :: hE P (s [66,97,115,101,69,120,99,101,112,116,105,111,110]) 82 (.type "BaseException") :: r
noncomputable def k0c16 (P : Params) (r : List DictEntry) : List DictEntry := hE P (s [66,97,115,101,69,120,99,101,112,116,105,111,110,71,114,111,117,112]) 83 (.type "BaseExceptionGroup") :: hE P (s [69,120,99,101,112,116,105,111,110]) 84 (.type "Exception") :: hE P (s [71,101,110,101,114,97,116,111,114,69,120,105,116]) 85 (.type "GeneratorExit") :: hE P (s [75,101,121,98,111,97,114,100,73,110,116,101,114,114,117,112,116]) 86 (.type "KeyboardInterrupt") :: hE P (s [83,121,115,116,101,109,69,120,105,116]) 87 (.type "SystemExit") :: r
noncomputable def k0c17 (P : Params) (r : List DictEntry) : List DictEntry := hE P (s [65,114,105,116,104,109,101,116,105,99,69,114,114,111,114]) 88 (.type "ArithmeticError") :: hE P (s [65,115,115,101,114,116,105,111,110,69,114,114,111,114]) 89 (.type "AssertionError") :: hE P (s [65,116,116,114,105,98,117,116,101,69,114,114,111,114]) 90 (.type "AttributeError") :: hE P (s [66,117,102,102,101,114,69,114,114,111,114]) 91 (.type "BufferError") :: hE P (s [69,79,70,69,114,114,111,114]) 92 (.type "EOFError") :: r
noncomputable def k0c18 (P : Params) (r : List DictEntry) : List DictEntry := hE P (s [73,109,112,111,114,116,69,114,114,111,114]) 93 (.type "ImportError") :: hE P (s [76,111,111,107,117,112,69,114,114,111,114]) 94 (.type "LookupError") :: hE P (s [77,101,109,111,114,121,69,114,114,111,114]) 95 (.type "MemoryError") :: hE P (s [78,97,109,101,69,114,114,111,114]) 96 (.type "NameError") :: hE P (s [79,83,69,114,114,111,114]) 97 (.type "OSError") :: r
noncomputable def k0c19 (P : Params) (r : List DictEntry) : List DictEntry := hE P (s [82,101,102,101,114,101,110,99,101,69,114,114,111,114]) 98 (.type "ReferenceError") :: hE P (s [82,117,110,116,105,109,101,69,114,114,111,114]) 99 (.type "RuntimeError") :: hE P (s [83,116,111,112,65,115,121,110,99,73,116,101,114,97,116,105,111,110]) 100 (.type "StopAsyncIteration") :: hE P sx115 101 (.type "StopIteration") :: hE P (s [83,121,110,116,97,120,69,114,114,111,114]) 102 (.type "SyntaxError") :: r
noncomputable def k0c20 (P : Params) (r : List DictEntry) : List DictEntry := hE P (s [83,121,115,116,101,109,69,114,114,111,114]) 103 (.type "SystemError") :: hE P sx116 104 (.type "TypeError") :: hE P (s [86,97,108,117,101,69,114,114,111,114]) 105 (.type "ValueError") :: hE P (s [87,97,114,110,105,110,103]) 106 (.type "Warning") :: hE P (s [70,108,111,97,116,105,110,103,80,111,105,110,116,69,114,114,111,114]) 107 (.type "FloatingPointError") :: r
noncomputable def k0c21 (P : Params) (r : List DictEntry) : List DictEntry := hE P (s [79,118,101,114,102,108,111,119,69,114,114,111,114]) 108 (.type "OverflowError") :: hE P (s [90,101,114,111,68,105,118,105,115,105,111,110,69,114,114,111,114]) 109 (.type "ZeroDivisionError") :: hE P (s [66,121,116,101,115,87,97,114,110,105,110,103]) 110 (.type "BytesWarning") :: hE P (s [68,101,112,114,101,99,97,116,105,111,110,87,97,114,110,105,110,103]) 111 (.type "DeprecationWarning") :: hE P (s [69,110,99,111,100,105,110,103,87,97,114,110,105,110,103]) 112 (.type "EncodingWarning") :: r
noncomputable def k0c22 (P : Params) (r : List DictEntry) : List DictEntry := hE P (s [70,117,116,117,114,101,87,97,114,110,105,110,103]) 113 (.type "FutureWarning") :: hE P (s [73,109,112,111,114,116,87,97,114,110,105,110,103]) 114 (.type "ImportWarning") :: hE P (s [80,101,110,100,105,110,103,68,101,112,114,101,99,97,116,105,111,110,87,97,114,110,105,110,103]) 115 (.type "PendingDeprecationWarning") :: hE P (s [82,101,115,111,117,114,99,101,87,97,114,110,105,110,103]) 116 (.type "ResourceWarning") :: hE P (s [82,117,110,116,105,109,101,87,97,114,110,105,110,103]) 117 (.type "RuntimeWarning") :: r
noncomputable def k0c23 (P : Params) (r : List DictEntry) : List DictEntry := hE P (s [83,121,110,116,97,120,87,97,114,110,105,110,103]) 118 (.type "SyntaxWarning") :: hE P (s [85,110,105,99,111,100,101,87,97,114,110,105,110,103]) 119 (.type "UnicodeWarning") :: hE P (s [85,115,101,114,87,97,114,110,105,110,103]) 120 (.type "UserWarning") :: hE P (s [66,108,111,99,107,105,110,103,73,79,69,114,114,111,114]) 121 (.type "BlockingIOError") :: hE P (s [67,104,105,108,100,80,114,111,99,101,115,115,69,114,114,111,114]) 122 (.type "ChildProcessError") :: r
noncomputable def k0c24 (P : Params) (r : List DictEntry) : List DictEntry := hE P (s [67,111,110,110,101,99,116,105,111,110,69,114,114,111,114]) 123 (.type "ConnectionError") :: hE P (s [70,105,108,101,69,120,105,115,116,115,69,114,114,111,114]) 124 (.type "FileExistsError") :: hE P (s [70,105,108,101,78,111,116,70,111,117,110,100,69,114,114,111,114]) 125 (.type "FileNotFoundError") :: hE P (s [73,110,116,101,114,114,117,112,116,101,100,69,114,114,111,114]) 126 (.type "InterruptedError") :: hE P (s [73,115,65,68,105,114,101,99,116,111,114,121,69,114,114,111,114]) 127 (.type "IsADirectoryError") :: r
noncomputable def k0c25 (P : Params) (r : List DictEntry) : List DictEntry := hE P (s [78,111,116,65,68,105,114,101,99,116,111,114,121,69,114,114,111,114]) 128 (.type "NotADirectoryError") :: hE P (s [80,101,114,109,105,115,115,105,111,110,69,114,114,111,114]) 129 (.type "PermissionError") :: hE P (s [80,114,111,99,101,115,115,76,111,111,107,117,112,69,114,114,111,114]) 130 (.type "ProcessLookupError") :: hE P (s [84,105,109,101,111,117,116,69,114,114,111,114]) 131 (.type "TimeoutError") :: hE P (s [73,110,100,101,110,116,97,116,105,111,110,69,114,114,111,114]) 132 (.type "IndentationError") :: r
noncomputable def k0c26 (P : Params) (r : List DictEntry) : List DictEntry := hE P (s [95,73,110,99,111,109,112,108,101,116,101,73,110,112,117,116,69,114,114,111,114]) 133 (.type "_IncompleteInputError") :: hE P (s [73,110,100,101,120,69,114,114,111,114]) 134 (.type "IndexError") :: hE P (s [75,101,121,69,114,114,111,114]) 135 (.type "KeyError") :: hE P (s [77,111,100,117,108,101,78,111,116,70,111,117,110,100,69,114,114,111,114]) 136 (.type "ModuleNotFoundError") :: hE P (s [78,111,116,73,109,112,108,101,109,101,110,116,101,100,69,114,114,111,114]) 137 (.type "NotImplementedError") :: r
noncomputable def k0c27 (P : Params) (r : List DictEntry) : List DictEntry := hE P (s [80,121,116,104,111,110,70,105,110,97,108,105,122,97,116,105,111,110,69,114,114,111,114]) 138 (.type "PythonFinalizationError") :: hE P (s [82,101,99,117,114,115,105,111,110,69,114,114,111,114]) 139 (.type "RecursionError") :: hE P (s [85,110,98,111,117,110,100,76,111,99,97,108,69,114,114,111,114]) 140 (.type "UnboundLocalError") :: hE P (s [85,110,105,99,111,100,101,69,114,114,111,114]) 141 (.type "UnicodeError") :: hE P (s [66,114,111,107,101,110,80,105,112,101,69,114,114,111,114]) 142 (.type "BrokenPipeError") :: r
noncomputable def k0c28 (P : Params) (r : List DictEntry) : List DictEntry := hE P (s [67,111,110,110,101,99,116,105,111,110,65,98,111,114,116,101,100,69,114,114,111,114]) 143 (.type "ConnectionAbortedError") :: hE P (s [67,111,110,110,101,99,116,105,111,110,82,101,102,117,115,101,100,69,114,114,111,114]) 144 (.type "ConnectionRefusedError") :: hE P (s [67,111,110,110,101,99,116,105,111,110,82,101,115,101,116,69,114,114,111,114]) 145 (.type "ConnectionResetError") :: hE P (s [84,97,98,69,114,114,111,114]) 146 (.type "TabError") :: hE P (s [85,110,105,99,111,100,101,68,101,99,111,100,101,69,114,114,111,114]) 147 (.type "UnicodeDecodeError") :: r
noncomputable def k0c29 (P : Params) (r : List DictEntry) : List DictEntry := hE P (s [85,110,105,99,111,100,101,69,110,99,111,100,101,69,114,114,111,114]) 148 (.type "UnicodeEncodeError") :: hE P (s [85,110,105,99,111,100,101,84,114,97,110,115,108,97,116,101,69,114,114,111,114]) 149 (.type "UnicodeTranslateError") :: hE P (s [69,120,99,101,112,116,105,111,110,71,114,111,117,112]) 150 (.type "ExceptionGroup") :: hE P (s [69,110,118,105,114,111,110,109,101,110,116,69,114,114,111,114]) 151 (.type "OSError") :: hE P (s [73,79,69,114,114,111,114]) 152 (.type "OSError") :: r
noncomputable def k0c30 (P : Params) (r : List DictEntry) : List DictEntry := hE P (s [111,112,101,110]) 153 (.builtin "open") :: hE P (s [113,117,105,116]) 154 (.builtin "builtins.quit#opaque") :: hE P (s [101,120,105,116]) 155 (.builtin "builtins.exit#opaque") :: hE P (s [99,111,112,121,114,105,103,104,116]) 156 (.builtin "builtins.copyright#opaque") :: hE P (s [99,114,101,100,105,116,115]) 157 (.builtin "builtins.credits#opaque") :: r
noncomputable def k0c31 (P : Params) (r : List DictEntry) : List DictEntry := hE P (s [108,105,99,101,110,115,101]) 158 (.builtin "builtins.license#opaque") :: hE P (s [104,101,108,112]) 159 (.builtin "builtins.help#opaque") :: r
noncomputable def k0 (P : Params) : Obj := { cls := (.type "dict"),data := .dict (k0c0 P (k0c1 P (k0c2 P (k0c3 P (k0c4 P (k0c5 P (k0c6 P (k0c7 P (k0c8 P (k0c9 P (k0c10 P (k0c11 P (k0c12 P (k0c13 P (k0c14 P (k0c15 P (k0c16 P (k0c17 P (k0c18 P (k0c19 P (k0c20 P (k0c21 P (k0c22 P (k0c23 P (k0c24 P (k0c25 P (k0c26 P (k0c27 P (k0c28 P (k0c29 P (k0c30 P (k0c31 P [])))))))))))))))))))))))))))))))).toArray 159 }
noncomputable def k1 (P : Params) : Obj := { cls := (.type "dict"),data := (.dict #[hE P (s [98,117,105,108,116,105,110,115]) 162 (.ref 4),
 hE P sx136 163 (.ref 5)] 2) }
noncomputable def k2 (_ : Params) : Obj := { cls := .none,data := (.dict #[] 0) }
noncomputable def k3c0 (P : Params) (r : List DictEntry) : List DictEntry := hE P sx73 165 (.str sx74 426) :: hE P (s [95,95,100,111,99,95,95]) 166 .none :: hE P (s [95,95,112,97,99,107,97,103,101,95,95]) 167 .none :: hE P (s [95,95,108,111,97,100,101,114,95,95]) 168 (.builtin "__main__.__loader__#opaque") :: r
noncomputable def k3c1 (P : Params) (r : List DictEntry) : List DictEntry := hE P (s [95,95,115,112,101,99,95,95]) 169 .none :: hE P (s [95,95,97,110,110,111,116,97,116,105,111,110,115,95,95]) 170 (.ref 6) :: hE P (s [95,95,98,117,105,108,116,105,110,115,95,95]) 171 (.ref 4) :: hE P (s [95,95,102,105,108,101,95,95]) 173 (.str sx135 172) :: r
noncomputable def k3c2 (P : Params) (r : List DictEntry) : List DictEntry := hE P (s [95,95,99,97,99,104,101,100,95,95]) 174 .none :: hE P sx119 193 (.ref 21) :: hE P sx121 197 (.str sx8 196) :: hE P sx16 293 (.ref 101) :: r
noncomputable def k3c3 (P : Params) (r : List DictEntry) : List DictEntry := hE P sx57 304 (.ref 112) :: hE P sx66 313 (.ref 119) :: hE P sx63 322 (.ref 126) :: hE P sx46 331 (.ref 133) :: r
noncomputable def k3c4 (P : Params) (r : List DictEntry) : List DictEntry := hE P sx60 340 (.ref 140) :: hE P sx40 349 (.ref 147) :: hE P sx61 358 (.ref 154) :: hE P sx64 367 (.ref 161) :: r
noncomputable def k3c5 (P : Params) (r : List DictEntry) : List DictEntry := hE P sx50 376 (.ref 168) :: hE P sx67 385 (.ref 175) :: hE P sx58 394 (.ref 182) :: hE P sx41 403 (.ref 189) :: r
noncomputable def k3c6 (P : Params) (r : List DictEntry) : List DictEntry := hE P sx37 412 (.ref 196) :: hE P sx107 413 (.ref 197) :: hE P sx43 425 (.ref 205) :: hE P sx4 433 (.ref 212) :: r
noncomputable def k3c7 (P : Params) (r : List DictEntry) : List DictEntry := hE P sx17 443 (.ref 219) :: hE P sx31 458 (.ref 226) :: hE P sx25 467 (.ref 233) :: hE P sx24 483 (.ref 240) :: r
noncomputable def k3c8 (P : Params) (r : List DictEntry) : List DictEntry := hE P sx27 489 (.ref 245) :: hE P sx51 495 (.ref 250) :: hE P sx0 501 (.ref 255) :: hE P sx14 511 (.ref 262) :: r
noncomputable def k3c9 (P : Params) (r : List DictEntry) : List DictEntry := hE P sx18 521 (.ref 269) :: hE P sx26 527 (.ref 274) :: hE P sx28 533 (.ref 279) :: r
noncomputable def k3 (P : Params) : Obj := { cls := .type "dict",data := .dict (k3c0 P (k3c1 P (k3c2 P (k3c3 P (k3c4 P (k3c5 P (k3c6 P (k3c7 P (k3c8 P (k3c9 P [])))))))))).toArray 39 }
noncomputable def k4 (_ : Params) : Obj := { cls := (.type "module"),data := .plain,dict := some 0 }
noncomputable def k5 (_ : Params) : Obj := { cls := (.type "module"),data := .plain,dict := some 3 }
noncomputable def k9 (_ : Params) : Obj := { cls := (.type "code"),data := (.fields #[(.str sx137 176),(.str sx137 177),(.str sx135 178),(.int 1 0),(.int 0 0),(.int 0 0),(.int 0 0),(.int 0 0),(.ref 7),(.bool false),(.int 175 0),(.ref 8),.none,.none,.none,.none,(.int 179 0),(.int 1 0),(.str sx135 180)]) }
noncomputable def k10 (_ : Params) : Obj := { cls := (.type "frame"),data := .plain,slots := #[(some (.ref 9)),(some (.ref 3)),(some (.ref 3)),none,(some (.str sx136 164)),none,(some (.ref 0))] }
noncomputable def k12 (_ : Params) : Obj := hN #[(.int 1 0),(.int 0 0),(.ref 20),(.int 6 0),(.int 0 0),(.ref 28),(.int 43 0),(.int 0 0),(.ref 111),(.int 48 0),(.int 0 0),(.ref 118),(.int 53 0),(.int 0 0),(.ref 125),(.int 58 0),(.int 0 0),(.ref 132),(.int 63 0),(.int 0 0),(.ref 139),(.int 68 0),(.int 0 0),(.ref 146),(.int 73 0),(.int 0 0),(.ref 153),(.int 78 0),(.int 0 0),(.ref 160),(.int 83 0),(.int 0 0),(.ref 167),(.int 88 0),(.int 0 0),(.ref 174),(.int 93 0),(.int 0 0),(.ref 181),(.int 98 0),(.int 0 0),(.ref 188),(.int 103 0),(.int 0 0),(.ref 195),(.int 129 0),(.int 0 0),(.ref 204),(.int 142 0),(.int 0 0),(.ref 211),(.int 144 0),(.int 0 0),(.ref 218),(.int 147 0),(.int 0 0),(.ref 225),(.int 169 0),(.int 0 0),(.ref 232),(.int 174 0),(.int 0 0),(.ref 239),(.int 184 0),(.int 0 0),(.ref 244),(.int 187 0),(.int 0 0),(.ref 249),(.int 189 0),(.int 0 0),(.ref 254),(.int 193 0),(.int 0 0),(.ref 261),(.int 198 0),(.int 0 0),(.ref 268),(.int 204 0),(.int 0 0),(.ref 273),(.int 206 0),(.int 0 0),(.ref 278)]
noncomputable def k13 (_ : Params) : Obj := { cls := (.type "code"),data := (.fields #[(.str sx137 182),(.str sx137 183),(.str sx135 184),(.int 1 0),(.int 0 0),(.int 0 0),(.int 0 0),(.int 0 0),(.ref 11),(.bool false),(.int 181 0),(.ref 12),.none,.none,.none,.none,(.int 185 0),(.int 1 0),(.str sx135 186)]) }
noncomputable def k14 (_ : Params) : Obj := { cls := (.type "frame"),data := .plain,slots := #[(some (.ref 13)),(some (.ref 3)),(some (.ref 3)),none,(some (.str sx136 164)),none,(some (.ref 0))] }
noncomputable def k17 (_ : Params) : Obj := hT #[(.str sx33 190)]
noncomputable def k20 (_ : Params) : Obj := hC sx119 sx119 187 1 1 3 15 191
noncomputable def k21 (_ : Params) : Obj := hF (fn (top 0) sx119 sx119 [] .none (.str sx136 164) (.ref 20) .none)
noncomputable def k22 (_ : Params) : Obj := hT #[(.type "list")]
noncomputable def k25 (_ : Params) : Obj := { cls := (.type "cell"),data := (.cell (some (.ref 101))) }
noncomputable def k30 (_ : Params) : Obj := hT #[(.int 0 210)]
noncomputable def k31 (_ : Params) : Obj := hT #[(.ref 25)]
noncomputable def k32 (_ : Params) : Obj := hT #[(.str sx126 214)]
noncomputable def k34 (_ : Params) : Obj := hT #[(.str sx88 215),(.str sx123 216)]
noncomputable def k37 (_ : Params) : Obj := hC sx101 sx138 211 8 2 3 32 217
noncomputable def k38 (_ : Params) : Obj := hF (fn (meth 3 0) sx101 sx138 [(sx126,25)] (.ref 30) (.str sx120 194) (.ref 37) (.ref 31))
noncomputable def k41 (_ : Params) : Obj := hT #[(.str sx88 223),(.str sx10 224),(.str sx127 225)]
noncomputable def k44 (_ : Params) : Obj := hC sx78 sx139 220 12 3 3 39 226
noncomputable def k45 (_ : Params) : Obj := hF (fn (meth 3 1) sx78 sx139 [] .none (.str sx120 194) (.ref 44) .none)
noncomputable def k46 (_ : Params) : Obj := hT #[(.int 0 229)]
noncomputable def k49 (_ : Params) : Obj := hT #[(.str sx88 233),(.str sx21 234),(.str sx129 235)]
noncomputable def k52 (_ : Params) : Obj := hC sx86 sx140 230 15 2 3 47 236
noncomputable def k53 (_ : Params) : Obj := hF (fn (meth 3 2) sx86 sx140 [] (.ref 46) (.str sx120 194) (.ref 52) .none)
noncomputable def k54 (_ : Params) : Obj := hT #[(.ref 25)]
noncomputable def k55 (_ : Params) : Obj := hT #[(.str sx126 242)]
noncomputable def k57 (_ : Params) : Obj := hT #[(.str sx88 243)]
noncomputable def k60 (_ : Params) : Obj := hC sx85 sx141 239 20 1 3 55 244
noncomputable def k61 (_ : Params) : Obj := hF (fn (meth 3 3) sx85 sx141 [(sx126,25)] .none (.str sx120 194) (.ref 60) (.ref 54))
noncomputable def k64 (_ : Params) : Obj := hT #[(.str sx88 250)]
noncomputable def k67 (_ : Params) : Obj := hC sx130 sx142 247 25 1 3 62 251
noncomputable def k68 (_ : Params) : Obj := hF (fn (meth 3 4) sx130 sx142 [] .none (.str sx120 194) (.ref 67) .none)
noncomputable def k71 (_ : Params) : Obj := hT #[(.str sx88 257)]
noncomputable def k74 (_ : Params) : Obj := hC sx132 sx143 254 28 1 3 69 258
noncomputable def k75 (_ : Params) : Obj := hF (fn (meth 3 5) sx132 sx143 [] .none (.str sx120 194) (.ref 74) .none)
noncomputable def k76 (_ : Params) : Obj := hT #[.none]
noncomputable def k79 (_ : Params) : Obj := hT #[(.str sx88 264),(.str sx133 265)]
noncomputable def k82 (_ : Params) : Obj := hC sx87 sx144 261 31 2 3 77 266
noncomputable def k83 (_ : Params) : Obj := hF (fn (meth 3 6) sx87 sx144 [] (.ref 76) (.str sx120 194) (.ref 82) .none)
noncomputable def k86 (_ : Params) : Obj := hT #[(.str sx88 272)]
noncomputable def k89 (_ : Params) : Obj := hC sx134 sx145 269 37 1 3 84 273
noncomputable def k90 (_ : Params) : Obj := hF (fn (meth 3 7) sx134 sx145 [] .none (.str sx120 194) (.ref 89) .none)
noncomputable def k91 (_ : Params) : Obj := hT #[(.ref 25)]
noncomputable def k92 (_ : Params) : Obj := hT #[(.str sx126 279)]
noncomputable def k94 (_ : Params) : Obj := hT #[(.str sx88 280)]
noncomputable def k97 (_ : Params) : Obj := hC sx71 sx146 276 40 1 3 92 281
noncomputable def k98 (_ : Params) : Obj := hF (fn (meth 3 8) sx71 sx146 [(sx126,25)] .none (.str sx120 194) (.ref 97) (.ref 91))
noncomputable def k99 (_ : Params) : Obj := hT #[(.str sx124 284)]
noncomputable def k100c0 (P : Params) (r : List DictEntry) : List DictEntry := hE P sx97 205 (.str sx120 194) :: hE P (s [95,95,102,105,114,115,116,108,105,110,101,110,111,95,95]) 209 (.int 6 208) :: hE P sx101 219 (.ref 38) :: hE P sx78 228 (.ref 45) :: r
noncomputable def k100c1 (P : Params) (r : List DictEntry) : List DictEntry := hE P sx86 238 (.ref 53) :: hE P sx85 246 (.ref 61) :: hE P sx130 253 (.ref 68) :: hE P sx132 260 (.ref 75) :: r
noncomputable def k100c2 (P : Params) (r : List DictEntry) : List DictEntry := hE P sx87 268 (.ref 83) :: hE P sx134 275 (.ref 90) :: hE P sx71 283 (.ref 98) :: hE P (s [95,95,115,116,97,116,105,99,95,97,116,116,114,105,98,117,116,101,115,95,95]) 285 (.ref 99) :: r
noncomputable def k100c3 (P : Params) (r : List DictEntry) : List DictEntry := hE P (s [95,95,100,105,99,116,95,95]) 288 (.ref 102) :: hE P (s [95,95,119,101,97,107,114,101,102,95,95]) 290 (.ref 103) :: hE P (s [95,95,100,111,99,95,95]) 291 .none :: r
noncomputable def k100 (P : Params) : Obj := { cls := .type "dict",data := .dict (k100c0 P (k100c1 P (k100c2 P (k100c3 P [])))).toArray 5 }
noncomputable def k101 (_ : Params) : Obj := { cls := (.type "type"),data := (.cls { name := sx16,bases := [(.type "list")],mro := [(.ref 101),(.type "list"),(.type "object")],ns := 100,qualname := sx16 }),slots := #[(some (.ref 22)),none,(some (.str sx16 198)),(some (.str sx16 206)),(some (.builtin "list.__new__")),(some (.bool true))] }
noncomputable def k102 (_ : Params) : Obj := { cls := (.type "getset_descriptor"),data := (.fields #[(.str (s [95,95,100,105,99,116,95,95]) 287),(.ref 101),(.builtin "function.__dict__"),(.builtin "function.__dict__#set")]) }
noncomputable def k103 (_ : Params) : Obj := { cls := (.type "getset_descriptor"),data := (.fields #[(.str (s [95,95,119,101,97,107,114,101,102,95,95]) 289),(.ref 101),(.builtin "ExceptionGroup.__weakref__"),.none]) }
noncomputable def k108 (_ : Params) : Obj := hT #[(.str sx88 299),(.str sx89 300),(.str sx90 301)]
noncomputable def k111 (_ : Params) : Obj := hC sx57 sx57 296 43 2 3 106 302
noncomputable def k112 (_ : Params) : Obj := hF (fn (top 5) sx57 sx57 [] .none (.str sx98 294) (.ref 111) .none)
noncomputable def k115 (_ : Params) : Obj := hT #[(.str sx88 308),(.str sx89 309),(.str sx90 310)]
noncomputable def k118 (_ : Params) : Obj := hC sx66 sx66 305 48 2 3 113 311
noncomputable def k119 (_ : Params) : Obj := hF (fn (top 6) sx66 sx66 [] .none (.str sx98 294) (.ref 118) .none)
noncomputable def k122 (_ : Params) : Obj := hT #[(.str sx88 317),(.str sx89 318),(.str sx90 319)]
noncomputable def k125 (_ : Params) : Obj := hC sx63 sx63 314 53 2 3 120 320
noncomputable def k126 (_ : Params) : Obj := hF (fn (top 7) sx63 sx63 [] .none (.str sx98 294) (.ref 125) .none)
noncomputable def k129 (_ : Params) : Obj := hT #[(.str sx88 326),(.str sx89 327),(.str sx90 328)]
noncomputable def k132 (_ : Params) : Obj := hC sx46 sx46 323 58 2 3 127 329
noncomputable def k133 (_ : Params) : Obj := hF (fn (top 8) sx46 sx46 [] .none (.str sx98 294) (.ref 132) .none)
noncomputable def k136 (_ : Params) : Obj := hT #[(.str sx88 335),(.str sx89 336),(.str sx90 337)]
noncomputable def k139 (_ : Params) : Obj := hC sx60 sx60 332 63 2 3 134 338
noncomputable def k140 (_ : Params) : Obj := hF (fn (top 9) sx60 sx60 [] .none (.str sx98 294) (.ref 139) .none)
noncomputable def k143 (_ : Params) : Obj := hT #[(.str sx88 344),(.str sx89 345),(.str sx90 346)]
noncomputable def k146 (_ : Params) : Obj := hC sx40 sx40 341 68 2 3 141 347
noncomputable def k147 (_ : Params) : Obj := hF (fn (top 10) sx40 sx40 [] .none (.str sx98 294) (.ref 146) .none)
noncomputable def k150 (_ : Params) : Obj := hT #[(.str sx88 353),(.str sx89 354),(.str sx90 355)]
noncomputable def k153 (_ : Params) : Obj := hC sx61 sx61 350 73 2 3 148 356
noncomputable def k154 (_ : Params) : Obj := hF (fn (top 11) sx61 sx61 [] .none (.str sx98 294) (.ref 153) .none)
noncomputable def k157 (_ : Params) : Obj := hT #[(.str sx88 362),(.str sx89 363),(.str sx90 364)]
noncomputable def k160 (_ : Params) : Obj := hC sx64 sx64 359 78 2 3 155 365
noncomputable def k161 (_ : Params) : Obj := hF (fn (top 12) sx64 sx64 [] .none (.str sx98 294) (.ref 160) .none)
noncomputable def k164 (_ : Params) : Obj := hT #[(.str sx88 371),(.str sx89 372),(.str sx90 373)]
noncomputable def k167 (_ : Params) : Obj := hC sx50 sx50 368 83 2 3 162 374
noncomputable def k168 (_ : Params) : Obj := hF (fn (top 13) sx50 sx50 [] .none (.str sx98 294) (.ref 167) .none)
noncomputable def k171 (_ : Params) : Obj := hT #[(.str sx88 380),(.str sx89 381),(.str sx90 382)]
noncomputable def k174 (_ : Params) : Obj := hC sx67 sx67 377 88 2 3 169 383
noncomputable def k175 (_ : Params) : Obj := hF (fn (top 14) sx67 sx67 [] .none (.str sx98 294) (.ref 174) .none)
noncomputable def k178 (_ : Params) : Obj := hT #[(.str sx88 389),(.str sx89 390),(.str sx90 391)]
noncomputable def k181 (_ : Params) : Obj := hC sx58 sx58 386 93 2 3 176 392
noncomputable def k182 (_ : Params) : Obj := hF (fn (top 15) sx58 sx58 [] .none (.str sx98 294) (.ref 181) .none)
noncomputable def k185 (_ : Params) : Obj := hT #[(.str sx88 398),(.str sx89 399),(.str sx90 400)]
noncomputable def k188 (_ : Params) : Obj := hC sx41 sx41 395 98 2 3 183 401
noncomputable def k189 (_ : Params) : Obj := hF (fn (top 16) sx41 sx41 [] .none (.str sx98 294) (.ref 188) .none)
noncomputable def k192 (_ : Params) : Obj := hT #[(.str sx94 407),(.str sx95 408)]
noncomputable def k193 (_ : Params) : Obj := hT #[(.str sx94 409)]
noncomputable def k195 (_ : Params) : Obj := hC sx37 sx37 404 103 1 3 190 410
noncomputable def k196 (_ : Params) : Obj := hF (fn (top 17) sx37 sx37 [] .none (.str sx98 294) (.ref 195) .none)
noncomputable def k197 (_ : Params) : Obj := { cls := (.type "object"),data := .plain }
noncomputable def k198 (_ : Params) : Obj := hT #[(.ref 197)]
noncomputable def k201 (_ : Params) : Obj := hT #[(.str sx108 417),(.str sx109 418),(.str sx110 419),(.str sx111 420),(.str sx113 421),(.str sx118 422)]
noncomputable def k204 (_ : Params) : Obj := hC sx43 sx43 414 129 3 3 199 423
noncomputable def k205 (_ : Params) : Obj := hF (fn (top 19) sx43 sx43 [] (.ref 198) (.str sx98 294) (.ref 204) .none)
noncomputable def k211 (_ : Params) : Obj := hC sx4 sx4 428 142 0 3 206 431
noncomputable def k212 (_ : Params) : Obj := hF (fn (top 21) sx4 sx4 [] .none (.str sx74 426) (.ref 211) .none)
noncomputable def k215 (_ : Params) : Obj := hT #[(.str sx15 437),(.str sx5 438),(.str sx10 439),(.str sx11 440)]
noncomputable def k218 (_ : Params) : Obj := hC sx17 sx17 434 144 2 3 213 441
noncomputable def k219 (_ : Params) : Obj := hF (fn (top 22) sx17 sx17 [] .none (.str sx74 426) (.ref 218) .none)
noncomputable def k222 (_ : Params) : Obj := hT #[(.str sx19 447),(.str sx20 448),(.str sx30 449),(.str sx79 450),(.str sx80 451),(.str sx81 452),(.str sx82 453),(.str sx83 454),(.str sx84 455)]
noncomputable def k225 (_ : Params) : Obj := hC sx31 sx31 444 147 4 3 220 456
noncomputable def k226 (_ : Params) : Obj := hF (fn (top 23) sx31 sx31 [] .none (.str sx74 426) (.ref 225) .none)
noncomputable def k229 (_ : Params) : Obj := hT #[(.str sx52 462),(.str sx53 463),(.str sx33 464)]
noncomputable def k232 (_ : Params) : Obj := hC sx25 sx25 459 169 2 3 227 465
noncomputable def k233 (_ : Params) : Obj := hF (fn (top 24) sx25 sx25 [] .none (.str sx74 426) (.ref 232) .none)
noncomputable def k236 (_ : Params) : Obj := hT #[(.str sx52 471),(.str sx53 472),(.str sx55 473),(.str sx56 474),(.str sx59 475),(.str sx62 476),(.str sx65 477),(.str sx68 478),(.str sx32 479),(.str sx69 480)]
noncomputable def k239 (_ : Params) : Obj := hC sx24 sx24 468 174 3 3 234 481
noncomputable def k240 (_ : Params) : Obj := hF (fn (top 25) sx24 sx24 [] .none (.str sx74 426) (.ref 239) .none)
noncomputable def k244 (_ : Params) : Obj := { cls := (.type "code"),data := (.fields #[(.str sx27 484),(.str sx27 485),(.str sx135 486),(.int 184 0),(.int 2 0),(.int 0 0),(.int 0 0),(.int 3 0),(.ref 241),(.bool true),(.int 181 0),(.ref 242),.none,.none,.none,(.ref 243),(.int 487 0),(.int 184 0),(.str sx135 488)]) }
noncomputable def k245 (_ : Params) : Obj := hF (fn (top 26) sx27 sx27 [] .none (.str sx74 426) (.ref 244) .none)
noncomputable def k249 (_ : Params) : Obj := { cls := (.type "code"),data := (.fields #[(.str sx51 490),(.str sx51 491),(.str sx135 492),(.int 187 0),(.int 1 0),(.int 0 0),(.int 0 0),(.int 3 0),(.ref 246),(.bool true),(.int 181 0),(.ref 247),.none,.none,.none,(.ref 248),(.int 493 0),(.int 187 0),(.str sx135 494)]) }
noncomputable def k250 (_ : Params) : Obj := hF (fn (top 27) sx51 sx51 [] .none (.str sx74 426) (.ref 249) .none)
noncomputable def k254 (_ : Params) : Obj := { cls := (.type "code"),data := (.fields #[(.str sx0 496),(.str sx0 497),(.str sx135 498),(.int 189 0),(.int 2 0),(.int 0 0),(.int 0 0),(.int 3 0),(.ref 251),(.bool true),(.int 181 0),(.ref 252),.none,.none,.none,(.ref 253),(.int 499 0),(.int 189 0),(.str sx135 500)]) }
noncomputable def k255 (_ : Params) : Obj := hF (fn (top 28) sx0 sx0 [] .none (.str sx74 426) (.ref 254) .none)
noncomputable def k258 (_ : Params) : Obj := hT #[(.str sx2 505),(.str sx1 506),(.str sx15 507),(.str sx5 508)]
noncomputable def k261 (_ : Params) : Obj := hC sx14 sx14 502 193 2 3 256 509
noncomputable def k262 (_ : Params) : Obj := hF (fn (top 29) sx14 sx14 [] .none (.str sx74 426) (.ref 261) .none)
noncomputable def k265 (_ : Params) : Obj := hT #[(.str sx19 515),(.str sx20 516),(.str sx21 517),(.str sx23 518)]
noncomputable def k268 (_ : Params) : Obj := hC sx18 sx18 512 198 2 3 263 519
noncomputable def k269 (_ : Params) : Obj := hF (fn (top 30) sx18 sx18 [] .none (.str sx74 426) (.ref 268) .none)
noncomputable def k273 (_ : Params) : Obj := { cls := (.type "code"),data := (.fields #[(.str sx26 522),(.str sx26 523),(.str sx135 524),(.int 204 0),(.int 1 0),(.int 0 0),(.int 0 0),(.int 3 0),(.ref 270),(.bool true),(.int 181 0),(.ref 271),.none,.none,.none,(.ref 272),(.int 525 0),(.int 204 0),(.str sx135 526)]) }
noncomputable def k274 (_ : Params) : Obj := hF (fn (top 31) sx26 sx26 [] .none (.str sx74 426) (.ref 273) .none)
noncomputable def k278 (_ : Params) : Obj := { cls := (.type "code"),data := (.fields #[(.str sx28 528),(.str sx28 529),(.str sx135 530),(.int 206 0),(.int 1 0),(.int 0 0),(.int 0 0),(.int 3 0),(.ref 275),(.bool true),(.int 181 0),(.ref 276),.none,.none,.none,(.ref 277),(.int 531 0),(.int 206 0),(.str sx135 532)]) }
noncomputable def k279 (_ : Params) : Obj := hF (fn (top 32) sx28 sx28 [] .none (.str sx74 426) (.ref 278) .none)
noncomputable def kt0 (P : Params) : KT := .node (some (k31 P)) (.node none (.node (some kT) (.node (some (k255 P)) .nil .nil) .nil) .nil) (.node (some kT) .nil (.node (some kT) .nil .nil))
noncomputable def kt1 (P : Params) : KT := .node (some kT) (.node (some (k79 P)) (.node (some (k143 P)) (.node (some kN) .nil .nil) .nil) (.node (some kN) .nil .nil)) (.node (some (k111 P)) (.node (some (k175 P)) .nil .nil) (.node (some (k239 P)) .nil .nil))
noncomputable def kt2 (P : Params) : KT := .node (some kT) (.node (some (k71 P)) (.node (some kN) (.node (some kT) .nil .nil) .nil) (.node (some kT) .nil .nil)) (.node (some (k103 P)) (.node (some (k167 P)) .nil .nil) .nil)
noncomputable def kt3 (P : Params) : KT := .node (some (k55 P)) (.node (some kT) (.node (some kT) (.node (some (k279 P)) .nil .nil) .nil) (.node (some (k215 P)) .nil .nil)) (.node (some (k119 P)) (.node (some kT) .nil .nil) (.node (some kN) .nil .nil))
noncomputable def kt4 (P : Params) : KT := .node (some kT) (.node (some (k67 P)) (.node none (.node (some kT) .nil .nil) .nil) (.node (some (k195 P)) .nil .nil)) (.node (some (k99 P)) (.node (some kN) .nil .nil) (.node (some kT) .nil .nil))
noncomputable def kt5 (P : Params) : KT := .node none (.node (some (k83 P)) (.node (some (k147 P)) (.node (some kT) .nil .nil) .nil) (.node (some (k211 P)) .nil .nil)) (.node (some (k115 P)) (.node (some kT) .nil .nil) .nil)
noncomputable def kt6 (P : Params) : KT := .node none (.node (some (k75 P)) (.node (some (k139 P)) .nil .nil) .nil) (.node (some kN) (.node (some (k171 P)) .nil .nil) (.node (some kN) .nil .nil))
noncomputable def kt7 (P : Params) : KT := .node none (.node (some (k91 P)) (.node (some kT) .nil .nil) (.node (some (k219 P)) .nil .nil)) (.node (some kT) .nil (.node (some kT) .nil .nil))
noncomputable def kt8 (P : Params) : KT := .node (some kN) (.node (some kT) (.node (some (k129 P)) (.node (some kN) .nil .nil) .nil) (.node (some (k193 P)) .nil .nil)) (.node (some (k97 P)) (.node (some (k161 P)) .nil .nil) (.node (some (k225 P)) .nil .nil))
noncomputable def kt9 (P : Params) : KT := .node (some (k49 P)) (.node none (.node none (.node (some (k273 P)) .nil .nil) .nil) (.node (some kT) .nil .nil)) (.node (some kT) (.node (some kN) .nil .nil) (.node (some kT) .nil .nil))
noncomputable def kt10 (P : Params) : KT := .node (some (k41 P)) (.node none (.node (some kT) (.node (some (k265 P)) .nil .nil) .nil) (.node (some (k201 P)) .nil .nil)) (.node none (.node (some kT) .nil .nil) (.node (some (k233 P)) .nil .nil))
noncomputable def kt11 (P : Params) : KT := .node (some (k57 P)) (.node (some (k89 P)) (.node (some (k153 P)) .nil .nil) .nil) (.node (some kN) (.node (some (k185 P)) .nil .nil) (.node (some (k249 P)) .nil .nil))
noncomputable def kt12 (P : Params) : KT := .node (some (k37 P)) (.node (some kT) (.node (some (k133 P)) (.node (some (k261 P)) .nil .nil) .nil) (.node (some (k197 P)) .nil .nil)) (.node (some (k101 P)) (.node (some kT) .nil .nil) (.node (some (k229 P)) .nil .nil))
noncomputable def kt13 (P : Params) : KT := .node (some (k53 P)) (.node (some kN) (.node (some kN) .nil .nil) (.node (some kT) .nil .nil)) (.node none (.node (some (k181 P)) .nil .nil) (.node (some (k245 P)) .nil .nil))
noncomputable def kt14 (P : Params) : KT := .node (some (k45 P)) (.node (some kT) (.node (some kT) (.node (some (k269 P)) .nil .nil) .nil) (.node (some (k205 P)) .nil .nil)) (.node (some kT) .nil (.node (some kT) .nil .nil))
noncomputable def kt15 (P : Params) : KT := .node (some (k61 P)) (.node (some kN) (.node (some (k157 P)) .nil .nil) (.node (some kN) .nil .nil)) (.node (some (k125 P)) (.node (some (k189 P)) .nil .nil) .nil)
noncomputable def kt16 (P : Params) : KT := .node (some (k32 P)) (.node (some (k64 P)) (.node (some kN) (.node (some kT) .nil .nil) .nil) (.node (some (k192 P)) .nil .nil)) (.node none (.node (some (k160 P)) .nil .nil) .nil)
noncomputable def kt17 (P : Params) : KT := .node (some kN) (.node (some kT) (.node (some kT) .nil .nil) (.node (some kT) .nil .nil)) (.node (some (k112 P)) (.node (some kT) .nil .nil) (.node (some (k240 P)) .nil .nil))
noncomputable def kt18 (P : Params) : KT := .node (some kN) (.node (some kT) (.node (some (k136 P)) (.node (some kN) .nil .nil) .nil) (.node (some kN) .nil .nil)) (.node none (.node (some (k168 P)) .nil .nil) (.node (some (k232 P)) .nil .nil))
noncomputable def kt19 (P : Params) : KT := .node (some kN) (.node none .nil (.node (some kT) .nil .nil)) (.node (some kT) (.node (some kN) .nil .nil) .nil)
noncomputable def kt20 (P : Params) : KT := .node none (.node (some (k68 P)) (.node (some (k132 P)) .nil .nil) (.node (some (k196 P)) .nil .nil)) (.node (some (k100 P)) (.node (some (k164 P)) .nil .nil) (.node (some kN) .nil .nil))
noncomputable def kt21 (P : Params) : KT := .node (some (k52 P)) (.node (some kT) (.node (some kT) .nil .nil) (.node (some (k212 P)) .nil .nil)) (.node (some kT) .nil (.node (some (k244 P)) .nil .nil))
noncomputable def kt22 (P : Params) : KT := .node (some (k44 P)) (.node (some (k76 P)) (.node (some (k140 P)) (.node (some (k268 P)) .nil .nil) .nil) (.node (some (k204 P)) .nil .nil)) (.node (some (k108 P)) (.node (some kT) .nil .nil) (.node (some (k236 P)) .nil .nil))
noncomputable def kt23 (P : Params) : KT := .node (some (k60 P)) (.node (some (k92 P)) (.node (some kN) .nil .nil) (.node (some kT) .nil .nil)) (.node none (.node (some (k188 P)) .nil .nil) (.node (some kN) .nil .nil))
noncomputable def kt24 (P : Params) : KT := .node (some (k34 P)) (.node none (.node (some kT) (.node (some (k258 P)) .nil .nil) .nil) .nil) (.node (some (k98 P)) (.node (some kT) .nil .nil) (.node (some (k226 P)) .nil .nil))
noncomputable def kt25 (P : Params) : KT := .node (some kT) (.node (some (k82 P)) (.node (some (k146 P)) (.node (some (k274 P)) .nil .nil) .nil) .nil) (.node (some kN) (.node (some (k178 P)) .nil .nil) (.node (some kN) .nil .nil))
noncomputable def kt26 (P : Params) : KT := .node (some kT) (.node (some (k74 P)) (.node none (.node (some kT) .nil .nil) .nil) (.node (some kT) .nil .nil)) (.node (some kT) (.node (some kN) .nil .nil) (.node (some kT) .nil .nil))
noncomputable def kt27 (P : Params) : KT := .node (some kT) (.node (some (k90 P)) (.node (some (k154 P)) .nil .nil) (.node (some (k218 P)) .nil .nil)) (.node (some (k122 P)) (.node (some kT) .nil .nil) (.node (some (k250 P)) .nil .nil))
noncomputable def kt28 (P : Params) : KT := .node (some (k38 P)) (.node none (.node (some kT) (.node (some (k262 P)) .nil .nil) .nil) (.node (some (k198 P)) .nil .nil)) (.node (some (k102 P)) .nil (.node (some kT) .nil .nil))
noncomputable def kt29 (P : Params) : KT := .node (some (k54 P)) (.node (some (k86 P)) (.node (some (k150 P)) (.node (some (k278 P)) .nil .nil) .nil) (.node (some kN) .nil .nil)) (.node (some (k118 P)) (.node (some (k182 P)) .nil .nil) (.node (some kT) .nil .nil))
noncomputable def kt30 (P : Params) : KT := .node (some (k46 P)) (.node (some kN) (.node (some kN) (.node (some kT) .nil .nil) .nil) (.node (some kT) .nil .nil)) (.node none (.node (some (k174 P)) .nil .nil) .nil)
noncomputable def kt31 (P : Params) : KT := .node (some kT) (.node (some (k94 P)) (.node (some kT) .nil .nil) (.node (some (k222 P)) .nil .nil)) (.node (some (k126 P)) (.node (some kT) .nil .nil) (.node (some (k254 P)) .nil .nil))
noncomputable def kt (P : Params) : KT := .node (some (k0 P)) (.node (some (k1 P)) (.node (some (k3 P)) (.node (some kT) (.node (some kT) (kt0 P) (kt1 P)) (.node none (kt2 P) (kt3 P))) (.node (some kT) (.node none (kt4 P) (kt5 P)) (.node none (kt6 P) (kt7 P)))) (.node (some (k5 P)) (.node (some (k9 P)) (.node (some (k17 P)) (kt8 P) (kt9 P)) (.node (some (k25 P)) (kt10 P) (kt11 P))) (.node (some (k13 P)) (.node (some (k21 P)) (kt12 P) (kt13 P)) (.node none (kt14 P) (kt15 P))))) (.node (some (k2 P)) (.node (some (k4 P)) (.node (some kN) (.node (some kN) (kt16 P) (kt17 P)) (.node none (kt18 P) (kt19 P))) (.node (some (k12 P)) (.node (some (k20 P)) (kt20 P) (kt21 P)) (.node none (kt22 P) (kt23 P)))) (.node (some kD) (.node (some (k10 P)) (.node (some kT) (kt24 P) (kt25 P)) (.node none (kt26 P) (kt27 P))) (.node (some (k14 P)) (.node (some (k22 P)) (kt28 P) (kt29 P)) (.node (some (k30 P)) (kt30 P) (kt31 P)))))
end Mine
end
section
namespace Mine.G
inductive NT (α : Type) where
 | nil
 | node (v : Option α) (l r : NT α)
namespace NT
variable {α : Type}
noncomputable def get : NT α → Nat → Option α
 | .nil,_ => none
 | .node v l r,i => match Nat.beq i 0 with
  | true => v
  | false => match Nat.beq (i % 2) 1 with
   | true => l.get (i / 2)
   | false => r.get (i / 2 - 1)
theorem get_node (v : Option α) (l r : NT α) (i : Nat) : (node v l r).get i = if i = 0 then v else if i % 2 = 1 then l.get (i / 2) else r.get (i / 2 - 1) := by
 show (match Nat.beq i 0 with | true => v | false => match Nat.beq (i % 2) 1 with | true => l.get (i / 2) | false => r.get (i / 2 - 1)) = _
 rw [BT.beq_eq,BT.beq_eq]
 by_cases h : i = 0
 ·simp [h]
 ·by_cases q : i % 2 = 1 <;> simp [h,q]
noncomputable def put : Nat → NT α → Nat → α → NT α
 | 0,t,_,_ => t
 | n + 1,t,i,o => match t with
  | .nil => match Nat.beq i 0 with
   | true => .node (some o) .nil .nil
   | false => match Nat.beq (i % 2) 1 with
    | true => .node none (NT.put n .nil (i / 2) o) .nil
    | false => .node none .nil (NT.put n .nil (i / 2 - 1) o)
  | .node v l r => match Nat.beq i 0 with
   | true => .node (some o) l r
   | false => match Nat.beq (i % 2) 1 with
    | true => .node v (NT.put n l (i / 2) o) r
    | false => .node v l (NT.put n r (i / 2 - 1) o)
theorem put_get' (o : α) : ∀ (n : Nat) (t : NT α) (i j : Nat),i + 1 < 2 ^ n → (NT.put n t i o).get j = if j = i then some o else t.get j := by
 intro n
 induction n with
 | zero => intro t i j h; lia
 | succ n ih =>
  intro t i j h
  have nilget : ∀ j,(NT.nil : NT α).get j = none := fun j => rfl
  have e : ∀ v l r,NT.put (n + 1) (.node v l r) i o = if i = 0 then .node (some o) l r else if i % 2 = 1 then .node v (NT.put n l (i / 2) o) r else .node v l (NT.put n r (i / 2 - 1) o) := by
   intro v l r
   show (match Nat.beq i 0 with | true => NT.node (some o) l r | false => match Nat.beq (i % 2) 1 with | true => .node v (NT.put n l (i / 2) o) r | false => .node v l (NT.put n r (i / 2 - 1) o)) = _
   rw [BT.beq_eq,BT.beq_eq]
   by_cases h0 : i = 0
   ·simp [h0]
   ·by_cases p : i % 2 = 1 <;> simp [h0,p]
  have e' : NT.put (n + 1) .nil i o = NT.put (n + 1) (.node none .nil .nil) i o := rfl
  have key : ∀ v l r,(NT.put (n + 1) (.node v l r) i o).get j = if j = i then some o else (NT.node v l r).get j := by
   intro v l r
   rw [e,NT.get_node v l r j]
   by_cases h0 : i = 0
   ·subst h0
    rw [if_pos rfl,NT.get_node]
    by_cases hj : j = 0 <;> simp [hj]
   ·rw [if_neg h0]
    have h2 : 2 ^ (n + 1) = 2 * 2 ^ n := by rw [Nat.pow_succ]; lia
    by_cases p : i % 2 = 1
    ·rw [if_pos p,NT.get_node]
     by_cases hj : j = 0
     ·subst hj; simp [Ne.symm h0]
     ·by_cases q : j % 2 = 1
      ·simp only [hj,q,if_true,if_false]
       rw [ih l (i / 2) (j / 2) (by lia)]
       by_cases z : j = i
       ·simp [z]
       ·have : j / 2 ≠ i / 2 := by lia
        simp [z,this]
      ·have : j ≠ i := fun z => q (z ▸ p)
       simp [hj,q,this]
    ·rw [if_neg p,NT.get_node]
     by_cases hj : j = 0
     ·subst hj; simp [Ne.symm h0]
     ·by_cases q : j % 2 = 1
      ·have : j ≠ i := fun z => p (z ▸ q)
       simp [hj,q,this]
      ·simp only [hj,q,if_false]
       rw [ih r (i / 2 - 1) (j / 2 - 1) (by lia)]
       by_cases z : j = i
       ·simp [z]
       ·have : j / 2 - 1 ≠ i / 2 - 1 := by lia
        simp [z,this]
  cases t with
  | nil =>
   rw [e',key]
   have : (NT.node none .nil .nil : NT α).get j = NT.nil.get j := by
    rw [NT.get_node]
    by_cases hj : j = 0 <;> by_cases q : j % 2 = 1 <;> simp [hj,q,nilget]
   rw [this]
  | node v l r => exact key v l r
theorem put_get (t : NT α) (i j : Nat) (o : α) (h : i ≤ 300000) : (NT.put 40 t i o).get j = if j = i then some o else t.get j := put_get' o 40 t i j (by lia)
end NT
inductive Rf where
 | lit
 | own (j : Nat)
 | old (i : Nat)
 | frz (i : Nat)
inductive Tk where
 | rf (r : Rf)
 | go
 | ent
 | ctr (j : Nat) (pre upd : List Rf)
 | xctr (j : Nat) (pre upd : List Rf)
 | stop
structure Mem where
 T : NT (Nat × Obj)
 k : Nat
 b : Nat
 m : Nat
 tb : Nat
 i : Nat
 U : List Obj
 fz : List (Nat × Obj)
 e : Nat
 ob : List (Ob × Ob)
noncomputable def Mem.obs (M : Mem) (l : List (Ob × Ob)) : Mem := { M with ob := l }
noncomputable def Mem.setT (M : Mem) (T : NT (Nat × Obj)) : Mem := { M with T := T }
noncomputable def Mem.setU (M : Mem) (U : List Obj) : Mem := { M with U := U }
noncomputable def Mem.tick (M : Mem) : Mem := { M with i := M.i + 1 }
noncomputable def Mem.alo (M : Mem) (T : NT (Nat × Obj)) : Mem := { M with T := T,k := M.k + 1,m := M.m + 1 }
structure XC where
 code : Code
 pre : List (Addr × Obj)
 res : (Nat → Nat) → Result
 upd : (Nat → Nat) → List (Addr × Obj)
 news : (Nat → Nat) → List (Nat × Obj)
 dm : Nat
 um : Nat
noncomputable def Mem.cof (M Mb : Mem) (C : Ctr) (T : NT (Nat × Obj)) (c' : Code) : Mem := { Mb with T := T,k := M.k + C.grow,m := M.m + C.grow,i := M.i + C.toks,ob := (.code c',.code C.code) :: Mb.ob }
noncomputable def Mem.xof (M Mb : Mem) (C : XC) (ω : Nat → Nat) (c' : Code) : Mem := { Mb with fz := Mb.fz ++ C.news ω,b := ω 0,m := 0,tb := ω 1,i := 0,e := M.e + 1,ob := (.code c',.code C.code) :: Mb.ob }
noncomputable abbrev Om := Nat → Nat → Nat
noncomputable def trunc (e : Nat) (om : Om) : Om := fun i => match Nat.blt i e with
 | true => om i
 | false => fun _ => 0
structure Vw where
 prog : Program
 w : World
 lk : Addr → Option Obj
 n : Nat
 L : List Nat
 t₀ : Nat
 d₀ : Nat
 u₀ : Nat
 ctrs : Om → List Ctr
 xcs : Om → List XC
 om : Om
noncomputable def Vw.base (V : Vw) : Mine.Vw := { prog := V.prog,w := V.w,lk := V.lk,n := 0,L := [],t₀ := 0,d₀ := 0,u₀ := 0,ctrs := [] }
noncomputable abbrev Go (α : Type) := Cur α → List Tk → Mem → Option (Out α × Mem)
noncomputable def adrOf (V : Vw) (M : Mem) : Rf → Option Nat
 | .lit => none
 | .own j => match M.T.get j with
  | some p => some p.1
  | none => none
 | .old i => V.L[i]?
 | .frz i => match M.fz[i]? with
  | some p => some p.1
  | none => none
noncomputable def objAt (V : Vw) (M : Mem) : Rf → Addr → Option Obj
 | .lit,a => V.lk a
 | .own j,_ => match M.T.get j with
  | some p => some p.2
  | none => none
 | .old i,_ => match V.L[i]? with
  | some _ => M.U[i]?
  | none => none
 | .frz i,_ => match M.fz[i]? with
  | some p => some p.2
  | none => none
noncomputable def note (V : Vw) (r : Rf) (a : Addr) (M : Mem) : Mem := match adrOf V M r with
 | some b => M.obs ((.adr a,.adr b) :: M.ob)
 | none => M
noncomputable def chkPre (V : Vw) : List Rf → List (Addr × Obj) → Mem → Option Mem
 | [],[],M => some M
 | r :: rs,(a,o) :: ps,M => match objAt V M r a with
  | some o' => chkPre V rs ps ((note V r a M).obs ((.obj o',.obj o) :: (note V r a M).ob))
  | none => none
 | _,_,_ => none
noncomputable def put1 (V : Vw) (r : Rf) (a : Addr) (o : Obj) (M : Mem) : Option Mem := match r with
 | .own j => match M.T.get j,Nat.ble j 200000,o.isFreed with
  | some p,true,false => some ((note V (.own j) a M).setT (NT.put 40 M.T j (p.1,o)))
  | _,_,_ => none
 | .old i => match V.L[i]?,o.isFreed with
  | some _,false => some ((note V (.old i) a M).setU (M.U.set i o))
  | _,_ => none
 | _ => none
noncomputable def putAll (V : Vw) : List Rf → List (Addr × Obj) → Mem → Option Mem
 | [],[],M => some M
 | r :: rs,(a,o) :: ps,M => match put1 V r a o M with
  | some M => putAll V rs ps M
  | none => none
 | _,_,_ => none
noncomputable def newAll (g b m k : Nat) : List (Nat × Obj) → NT (Nat × Obj) → Option (NT (Nat × Obj))
 | [],T => some T
 | (j,o) :: r,T => match Nat.blt j g,Nat.ble (k + j) 200000,o.isFreed with
  | true,true,false => newAll g b m k r (NT.put 40 T (k + j) (b + (m + j),o))
  | _,_,_ => none
noncomputable def ctrStep (V : Vw) (j d : Nat) (pre upd : List Rf) (c' : Code) (M : Mem) : Option (Result × Mem) := match (V.ctrs (trunc M.e V.om))[j]? with
 | none => none
 | some C => match Nat.ble (V.d₀ + d) C.dm,Nat.ble (V.u₀ + 3 * d) C.um with
  | true,true => match chkPre V pre C.pre M with
   | none => none
   | some M1 => match putAll V upd (C.upd (M.b + M.m) (M.tb + M.i)) M1 with
    | none => none
    | some M2 => match newAll C.grow M.b M.m M.k (C.news (M.b + M.m) (M.tb + M.i)) M2.T with
     | none => none
     | some T => some (C.res (M.b + M.m) (M.tb + M.i),M.cof M2 C T c')
  | _,_ => none
noncomputable def xctrStep (V : Vw) (j d : Nat) (pre upd : List Rf) (c' : Code) (M : Mem) : Option (Result × Mem) := match (V.xcs (trunc M.e V.om))[j]? with
 | none => none
 | some C => match Nat.ble (V.d₀ + d) C.dm,Nat.ble (V.u₀ + 3 * d) C.um with
  | true,true => match chkPre V pre C.pre M with
   | none => none
   | some M1 => match putAll V upd (C.upd (V.om M.e)) M1 with
    | none => none
    | some M2 => some (C.res (V.om M.e),M.xof M2 C (V.om M.e) c')
  | _,_ => none
section
variable {α : Type} (den ent : Code → Sem Fin) (V : Vw)
noncomputable def goto (ih : Go α) (c' : Code) (κ : List Frm) (k₀ : Result → Sem α) (fin : Result → List Tk → Mem → Option (Out α × Mem)) (tp : List Tk) (M : Mem) : Option (Out α × Mem) := match tp with
 | .go :: tp => match okCode c' with
  | true => ih (.i c' κ k₀ (den c')) tp M
  | false => none
 | .ent :: tp => match okCode c',Nat.ble (V.d₀ + κ.length) 900,Nat.ble (V.u₀ + 3 * κ.length) 9000 with
  | true,true,true => ih (.i c' κ k₀ (ent c')) tp M
  | _,_,_ => none
 | .ctr j pre upd :: tp => match okCode c' with
  | true => match ctrStep V j κ.length pre upd c' M with
   | some (v,M') => fin v tp M'
   | none => none
  | false => none
 | .xctr j pre upd :: tp => match okCode c' with
  | true => match xctrStep V j κ.length pre upd c' M with
   | some (v,M') => fin v tp M'
   | none => none
  | false => none
 | .stop :: _ => match okCode c' with
  | true => some (.at_ c' κ k₀,M)
  | false => none
 | _ => none
noncomputable def back (ih : Go α) (κ : List Frm) (k₀ : Result → Sem α) (r : Result) (tp : List Tk) (M : Mem) : Option (Out α × Mem) := match κ with
 | [] => ih (.b (k₀ r)) tp M
 | (c,k) :: κ => ih (.i c κ k₀ (k r)) tp M
noncomputable def memStep {β : Type} (go : Sem β → List Tk → Mem → Option (Out α × Mem)) (t : Sem β) (tp : List Tk) (M : Mem) : Option (Out α × Mem) := match t with
 | .rule _ k => go (k ()) tp M
 | .at _ k => go (k ()) tp M
 | .point _ k => go (k ()) tp M
 | .ask k => go (k ⟨V.prog,V.w.params⟩) tp M
 | .fresh k => go (k (M.tb + M.i)) tp M.tick
 | .load a _ k => match tp with
  | .rf r :: tp => match objAt V M r a with
   | some o => go (k o) tp (note V r a M)
   | none => none
  | _ => none
 | .loadIfAlive a k => match tp with
  | .rf r :: tp => match objAt V M r a with
   | some o => go (k (some o)) tp (note V r a M)
   | none => none
  | _ => none
 | .alloc o k => match o.isFreed,Nat.ble M.k 200000 with
  | false,true => go (k (M.b + M.m)) tp (M.alo (NT.put 40 M.T M.k (M.b + M.m,o)))
  | _,_ => none
 | .update a _ f k => match tp with
  | .rf r :: tp => match objAt V M r a with
   | some o => match put1 V r a (f o) M with
    | some M => go (k ()) tp M
    | none => none
   | none => none
  | _ => none
 | .handled own k => match own with
  | false => go (k none) tp M
  | true => none
 | _ => none
noncomputable def runStep (ih : Go α) : Go α
 | .b t,tp,M => match t with
  | .pure a => some (.fin a,M)
  | .call c hd _ _ k => match hd with
   | none => goto den ent V ih c [] k (fun v tp M => ih (.b (k v)) tp M) tp M
   | some _ => none
  | t => memStep V (fun t tp M => ih (.b t) tp M) t tp M
 | .i c κ k₀ t,tp,M => match t with
  | .pure fin => match fin with
   | .done f => back ih κ k₀ (.ok f) tp M
   | .again c' => goto den ent V ih c' κ k₀ (fun v tp M => back ih κ k₀ v tp M) tp M
  | .raise e => back ih κ k₀ (.error e) tp M
  | .call c' hd _ _ k => match hd with
   | none => match okCode c with
    | true => goto den ent V ih c' ((c,k) :: κ) k₀ (fun v tp M => ih (.i c κ k₀ (k v)) tp M) tp M
    | false => none
   | some _ => none
  | .stack k => ih (.i c κ k₀ (k [(c,⟨0,0,0,0⟩)])) tp (M.obs ((.stk (fun p b => k ((c,p) :: b)),.stk (fun _ _ => k [(c,⟨0,0,0,0⟩)])) :: M.ob))
  | t => memStep V (fun t tp M => ih (.i c κ k₀ t) tp M) t tp M
noncomputable def run (n : Nat) : Go α := Nat.rec (fun _ _ _ => none) (fun _ ih => runStep den ent V ih) n
end
noncomputable def sub (M M' : Mem) : Prop := ∀ p ∈ M.ob,p ∈ M'.ob
noncomputable def good (M : Mem) : Prop := ∀ p ∈ M.ob,p.1 = p.2
theorem sub.trans {a b c : Mem} (h : sub a b) (g : sub b c) : sub a c := fun p hp => g p (h p hp)
theorem sub.rfl {a : Mem} : sub a a := fun _ h => h
structure RepF (V : Vw) (h₀ : Heap) (M : Mem) (g : Nat → Option Obj) (sz : Nat) : Prop where
 size : sz = M.b + M.m
 top : V.n ≤ M.b + M.m
 own : ∀ (j a : Nat) o,M.T.get j = some (a,o) → j < M.k ∧ V.n ≤ a ∧ a < M.b + M.m ∧ g a = some o
 inj : ∀ (j j' a : Nat) o o',M.T.get j = some (a,o) → M.T.get j' = some (a,o') → j = j'
 frz : ∀ (a : Nat) o,(a,o) ∈ M.fz → V.n ≤ a ∧ a < M.b + M.m ∧ g a = some o ∧ ∀ (j : Nat) o',M.T.get j = some (a,o') → False
 old : ∀ (i : Nat) a o,V.L[i]? = some a → M.U[i]? = some o → g a = some o
 lit : ∀ a o,V.lk a = some o → g a = some o
 keep : ∀ b o,h₀.get? b = some o → b ∉ V.L → g b = some o
 flat : M.e = 0 → M.b = V.n ∧ M.tb = V.t₀ ∧ M.k = M.m ∧ ∀ (j a : Nat) o,M.T.get j = some (a,o) → a = V.n + j
noncomputable abbrev RepM (V : Vw) (h₀ : Heap) (M : Mem) (h : Heap) : Prop := RepF V h₀ M h.get? h.objs.size
structure VOk (V : Vw) (h₀ : Heap) : Prop where
 size : h₀.objs.size = V.n
 nodup : V.L.Nodup
 low : ∀ a ∈ V.L,a < V.n
 off : ∀ a ∈ V.L,V.lk a = none
 lit : ∀ a o,V.lk a = some o → h₀.get? a = some o
noncomputable def AfterX (C : XC) (ω : Nat → Nat) (s s' : Shared) : Prop :=
 s'.heap.objs.size = ω 0 ∧ s'.toks = ω 1 ∧ s.heap.objs.size ≤ ω 0 ∧ (∀ p ∈ C.upd ω,s'.heap.get? p.1 = some p.2) ∧
 (∀ p ∈ C.news ω,s.heap.objs.size ≤ p.1 ∧ s'.heap.get? p.1 = some p.2) ∧
 (∀ b o,s.heap.get? b = some o → (∀ p ∈ C.upd ω,p.1 ≠ b) → s'.heap.get? b = some o) ∧
 (AllBare s.gens → AllBare s'.gens) ∧ s'.os = s.os
noncomputable def XC.Ok (V : Mine.Vw) (C : XC) : Prop := ∀ (A : Around) (s : Shared),A.depth ≤ C.dm → A.units ≤ C.um → A.handled = none → (∀ a o,V.lk a = some o → s.heap.get? a = some o) →
 (∀ p ∈ C.pre,s.heap.get? p.1 = some p.2) → codeAny (model V.prog V.w) A C.code (fun r s' => ∃ ω,r = C.res ω ∧ AfterX C ω s s') s
structure InvM (V : Vw) (s₀ : Shared) (M : Mem) (s : Shared) : Prop where
 toks : s.toks = M.tb + M.i
 rep : RepM V s₀.heap M s.heap
 bare : AllBare s₀.gens → AllBare s.gens
 os : s.os = s₀.os
 calm : (∀ om,V.ctrs om = []) → (∀ om,V.xcs om = []) → s.gens = s₀.gens ∧ s.drawn = s₀.drawn
section
variable {V : Vw} {s₀ : Shared} {M M' : Mem} {s : Shared}
theorem note_sub (r : Rf) (a : Nat) : sub M (note V r a M) := by
 delta note
 split
 ·exact fun p hp => List.mem_cons_of_mem _ hp
 ·exact sub.rfl
theorem note_ob (r : Rf) (a : Addr) : ∃ l,note V r a M = M.obs l := by
 delta note
 split
 ·exact ⟨_,rfl⟩
 ·exact ⟨M.ob,rfl⟩
theorem inv_ob {l : List (Ob × Ob)} (I : InvM V s₀ M s) : InvM V s₀ (M.obs l) s :=
 ⟨I.toks,⟨I.rep.size,I.rep.top,I.rep.own,I.rep.inj,I.rep.frz,I.rep.old,I.rep.lit,I.rep.keep,I.rep.flat⟩,I.bare,I.os,I.calm⟩
theorem note_inv (r : Rf) (a : Addr) (I : InvM V s₀ M s) : InvM V s₀ (note V r a M) s := by
 obtain ⟨l,e⟩ := note_ob (V := V) (M := M) r a
 rw [e]; exact inv_ob I
theorem note_eq {r : Rf} {a b : Addr} (hs : sub (note V r a M) M') (hg : good M') (h : adrOf V M r = some b) : a = b := by
 delta note at hs
 rw [h] at hs
 have := hg _ (hs _ (List.mem_cons_self ..))
 exact Ob.adr.inj this
theorem objAt_get {r : Rf} {a : Addr} {o : Obj} (I : InvM V s₀ M s) (e : objAt V M r a = some o) (h : ∀ b,adrOf V M r = some b → a = b) : s.heap.get? a = some o := by
 cases r with
 | lit => exact I.rep.lit a o e
 | own j =>
  delta objAt at e
  dsimp only at e
  split at e
  ·rename_i p hp
   cases e
   have : a = p.1 := h _ (by simp only [adrOf,hp])
   rw [this]
   exact (I.rep.own j p.1 p.2 hp).2.2.2
  ·cases e
 | old i =>
  delta objAt at e
  dsimp only at e
  split at e
  ·rename_i b hb
   rw [h b hb]
   exact I.rep.old i b o hb e
  ·cases e
 | frz i =>
  delta objAt at e
  dsimp only at e
  split at e
  ·rename_i p hp
   cases e
   have : a = p.1 := h _ (by simp only [adrOf,hp])
   rw [this]
   exact (I.rep.frz p.1 p.2 (List.mem_of_getElem? hp)).2.2.1
  ·cases e
theorem put1_sub {r : Rf} {a : Addr} {o : Obj} {M1 : Mem} (e : put1 V r a o M = some M1) : sub (note V r a M) M1 := by
 cases r with
 | lit => cases e
 | frz => cases e
 | own j =>
  delta put1 at e
  dsimp only at e
  split at e
  ·cases e; exact sub.rfl
  ·cases e
 | old i =>
  delta put1 at e
  dsimp only at e
  split at e
  ·cases e; exact sub.rfl
  ·cases e
theorem put1_cnt {r : Rf} {a : Addr} {o : Obj} {M1 : Mem} (e : put1 V r a o M = some M1) : M1.k = M.k ∧ M1.b = M.b ∧ M1.m = M.m ∧ M1.tb = M.tb ∧ M1.i = M.i ∧ M1.e = M.e ∧ M1.fz = M.fz := by
 cases r with
 | lit => cases e
 | frz => cases e
 | own j =>
  delta put1 at e
  dsimp only at e
  split at e
  ·cases e
   obtain ⟨l,e⟩ := note_ob (V := V) (M := M) (.own j) a
   rw [e]; exact ⟨rfl,rfl,rfl,rfl,rfl,rfl,rfl⟩
  ·cases e
 | old i =>
  delta put1 at e
  dsimp only at e
  split at e
  ·cases e
   obtain ⟨l,e⟩ := note_ob (V := V) (M := M) (.old i) a
   rw [e]; exact ⟨rfl,rfl,rfl,rfl,rfl,rfl,rfl⟩
  ·cases e
theorem put1_free {r : Rf} {a : Addr} {o : Obj} {M1 : Mem} (e : put1 V r a o M = some M1) : o.isFreed = false := by
 cases r with
 | lit => cases e
 | frz => cases e
 | own j =>
  delta put1 at e
  dsimp only at e
  split at e
  ·assumption
  ·cases e
 | old i =>
  delta put1 at e
  dsimp only at e
  split at e
  ·assumption
  ·cases e
theorem rep_put {a : Nat} {o : Obj} {M1 : Mem} {g₁ g₂ : Nat → Option Obj} {sz : Nat} (R : RepF V s₀.heap M g₁ sz) (c : M1.k = M.k ∧ M1.b = M.b ∧ M1.m = M.m ∧ M1.tb = M.tb ∧ M1.e = M.e ∧ M1.fz = M.fz)
  (ho : g₂ a = some o) (hk : ∀ b : Nat,b ≠ a → g₂ b = g₁ b) (own : ∀ (j' a' : Nat) o',M1.T.get j' = some (a',o') → ∃ o'',M.T.get j' = some (a',o'') ∧ (a' = a → o' = o) ∧ (a' ≠ a → o'' = o'))
  (old : ∀ (i b : Nat) o',V.L[i]? = some b → M1.U[i]? = some o' → (b = a ∧ o' = o) ∨ (b ≠ a ∧ M.U[i]? = some o')) (frz : ∀ o',(a,o') ∈ M.fz → False) (lit : V.lk a = none) (keep : a ∈ V.L ∨ s₀.heap.get? a = none) : RepF V s₀.heap M1 g₂ sz := by
 obtain ⟨c1,c2,c3,c4,c5,c6⟩ := c
 refine ⟨?_,?_,?_,?_,?_,?_,?_,?_,?_⟩
 ·rw [c2,c3]; exact R.size
 ·rw [c2,c3]; exact R.top
 ·intro j' a' o' h
  obtain ⟨o'',h',e1,e2⟩ := own j' a' o' h
  obtain ⟨x1,x2,x3,x4⟩ := R.own j' a' o'' h'
  rw [c1,c2,c3]
  refine ⟨x1,x2,x3,?_⟩
  by_cases q : a' = a
  ·rw [q,e1 q]; exact ho
  ·rw [hk _ q,← e2 q]; exact x4
 ·intro j1 j2 a' o1 o2 h1 h2
  obtain ⟨_,h1,_⟩ := own j1 a' o1 h1
  obtain ⟨_,h2,_⟩ := own j2 a' o2 h2
  exact R.inj _ _ _ _ _ h1 h2
 ·intro a' o' h
  rw [c6] at h
  obtain ⟨x1,x2,x3,x4⟩ := R.frz a' o' h
  rw [c2,c3]
  refine ⟨x1,x2,?_,fun j' o'' h' => ?_⟩
  ·rw [hk _ fun q => frz o' (q ▸ h)]; exact x3
  ·obtain ⟨_,h',_⟩ := own j' a' o'' h'
   exact x4 j' _ h'
 ·intro i b o' hb hu
  rcases old i b o' hb hu with ⟨rfl,rfl⟩ | ⟨q,hu⟩
  ·exact ho
  ·rw [hk _ q]; exact R.old i b o' hb hu
 ·intro b o' hb
  rw [hk _ fun q => by rw [q,lit] at hb; cases hb]
  exact R.lit b o' hb
 ·intro b o' hb hn
  rw [hk b fun q => keep.elim (fun k => hn (q ▸ k)) fun k => by rw [q,k] at hb; cases hb]
  exact R.keep b o' hb hn
 ·intro h0
  rw [c5] at h0
  obtain ⟨f1,f2,f3,f4⟩ := R.flat h0
  rw [c1,c2,c3,c4]
  refine ⟨f1,f2,f3,fun j' a' o' h => ?_⟩
  obtain ⟨_,h',_⟩ := own j' a' o' h
  exact f4 _ _ _ h'
theorem put1_rep {r : Rf} {a : Nat} {o : Obj} {M1 : Mem} {g₁ g₂ : Nat → Option Obj} {sz : Nat} (O : VOk V s₀.heap) (R : RepF V s₀.heap M g₁ sz) (e : put1 V r a o M = some M1) (hs : sub M1 M') (hg : good M')
  (ho : g₂ a = some o) (hk : ∀ b : Nat,b ≠ a → g₂ b = g₁ b) : RepF V s₀.heap M1 g₂ sz := by
 have hs' := (put1_sub e).trans hs
 obtain ⟨c1,c2,c3,c4,_,c5,c6⟩ := put1_cnt e
 have c := And.intro c1 (And.intro c2 (And.intro c3 (And.intro c4 (And.intro c5 c6))))
 clear c1 c2 c3 c4 c5 c6
 cases r with
 | lit => cases e
 | frz => cases e
 | own j =>
  delta put1 at e
  dsimp only at e
  split at e
  ·rename_i p hp htop hf
   have htop := Nat.le_of_ble_eq_true htop
   have ha : a = p.1 := note_eq hs' hg (by simp only [adrOf,hp])
   obtain ⟨l,el⟩ := note_ob (V := V) (M := M) (.own j) a
   rw [el] at e
   have e := Option.some.inj e
   have eT : NT.put 40 M.T j (p.1,o) = M1.T := (congrArg Mem.T e :)
   have eU : M.U = M1.U := (congrArg Mem.U e :)
   clear e
   obtain ⟨w1,w2,w3,w4⟩ := R.own j p.1 p.2 hp
   have hge : V.n ≤ a := ha ▸ w2
   refine rep_put R c ho hk (fun j' a' o' h => ?_) (fun i b o' hb hu => .inr ⟨fun q => ?_,by rw [eU]; exact hu⟩) (fun o' h => (R.frz a o' h).2.2.2 j p.2 (ha ▸ hp)) ?_ (.inr ?_)
   ·rw [← eT,NT.put_get _ _ _ _ (by lia)] at h
    by_cases q : j' = j
    ·rw [if_pos q] at h
     cases h
     exact ⟨p.2,q ▸ hp,fun _ => rfl,fun z => absurd ha.symm z⟩
    ·rw [if_neg q] at h
     exact ⟨o',h,fun z => absurd (R.inj j' j a' o' p.2 h (by rw [z,ha]; exact hp)) q,fun _ => rfl⟩
   ·have := O.low b (List.mem_of_getElem? hb); lia
   ·cases q : V.lk a with
    | none => rfl
    | some o' =>
     have z : @LT.lt Nat _ a s₀.heap.objs.size := Heap.lt_size (O.lit a o' q)
     have := O.size; lia
   ·cases q : s₀.heap.get? a with
    | none => rfl
    | some o' =>
     have z : @LT.lt Nat _ a s₀.heap.objs.size := Heap.lt_size q
     have := O.size; lia
  ·cases e
 | old i =>
  delta put1 at e
  dsimp only at e
  split at e
  ·rename_i d hc hf
   have ha : a = d := note_eq hs' hg hc
   obtain ⟨l,el⟩ := note_ob (V := V) (M := M) (.old i) a
   rw [el] at e
   have e := Option.some.inj e
   have eT : M.T = M1.T := (congrArg Mem.T e :)
   have eU : M.U.set i o = M1.U := (congrArg Mem.U e :)
   clear e el
   subst ha
   have hm : a ∈ V.L := List.mem_of_getElem? hc
   have hlo := O.low a hm
   refine rep_put R c ho hk (fun j' a' o' h => ?_) (fun i' b o' hb hu => ?_) (fun o' h => ?_) (O.off a hm) (.inl hm)
   ·rw [← eT] at h
    have := (R.own j' a' o' h).2.1
    exact ⟨o',h,fun z => by lia,fun _ => rfl⟩
   ·rw [← eU,List.getElem?_set] at hu
    by_cases q : i = i'
    ·subst q
     rw [hc] at hb
     cases hb
     rw [if_pos rfl] at hu
     split at hu
     ·cases hu; exact .inl ⟨rfl,rfl⟩
     ·cases hu
    ·rw [if_neg q] at hu
     refine .inr ⟨fun z => q ?_,hu⟩
     subst z
     obtain ⟨l1,e1⟩ := List.getElem?_eq_some_iff.mp hb
     obtain ⟨l2,e2⟩ := List.getElem?_eq_some_iff.mp hc
     exact (List.getElem_inj O.nodup).mp (e2.trans e1.symm)
   ·have := (R.frz a o' h).1; lia
  ·cases e
theorem rep_next {h₀ : Heap} {M1 : Mem} {g g1 : Nat → Option Obj} {sz sz1 : Nat} (R : RepF V h₀ M g sz) (hz : sz1 = M1.b + M1.m) (ht : M.b + M.m ≤ M1.b + M1.m) (hk : M.k ≤ M1.k) (hU : M1.U = M.U) (ext : ∀ b o,g b = some o → g1 b = some o)
  (own : ∀ (j a : Nat) o,M1.T.get j = some (a,o) → M.T.get j = some (a,o) ∨ (M.k ≤ j ∧ j < M1.k ∧ M.b + M.m ≤ a ∧ a < M1.b + M1.m ∧ j + (M.b + M.m) = a + M.k ∧ g1 a = some o))
  (frz : ∀ (a : Nat) o,(a,o) ∈ M1.fz → (a,o) ∈ M.fz ∨ (M.b + M.m ≤ a ∧ a < M1.b + M1.m ∧ g1 a = some o ∧ M1.k = M.k))
  (flat : M1.e = 0 → M.e = 0 ∧ M1.b = M.b ∧ M1.tb = M.tb ∧ M1.k + M.m = M.k + M1.m) : RepF V h₀ M1 g1 sz1 := by
 have r := R.top
 refine ⟨hz,Nat.le_trans r ht,?_,?_,?_,?_,fun a o h => ext _ _ (R.lit a o h),fun b o h hn => ext _ _ (R.keep b o h hn),?_⟩
 ·intro j a o h
  rcases own j a o h with q | ⟨q1,q2,q3,q4,_,q5⟩
  ·obtain ⟨x1,x2,x3,x4⟩ := R.own j a o q
   exact ⟨Nat.lt_of_lt_of_le x1 hk,x2,Nat.lt_of_lt_of_le x3 ht,ext _ _ x4⟩
  ·exact ⟨q2,Nat.le_trans r q3,q4,q5⟩
 ·intro j1 j2 a o1 o2 h1 h2
  rcases own j1 a o1 h1 with q | ⟨_,_,q,_,q',_⟩
  ·rcases own j2 a o2 h2 with p | ⟨_,_,p,_⟩
   ·exact R.inj _ _ _ _ _ q p
   ·exact absurd (R.own j1 a o1 q).2.2.1 (Nat.not_lt.mpr p)
  ·rcases own j2 a o2 h2 with p | ⟨_,_,_,_,p',_⟩
   ·exact absurd (R.own j2 a o2 p).2.2.1 (Nat.not_lt.mpr q)
   ·exact Nat.add_right_cancel (q'.trans p'.symm)
 ·intro a o h
  rcases frz a o h with h | ⟨q1,q2,q3,q4⟩
  ·obtain ⟨x1,x2,x3,x4⟩ := R.frz a o h
   refine ⟨x1,Nat.lt_of_lt_of_le x2 ht,ext _ _ x3,fun j o' h' => ?_⟩
   rcases own j a o' h' with p | ⟨_,_,p,_⟩
   ·exact x4 j o' p
   ·exact absurd x2 (Nat.not_lt.mpr p)
  ·refine ⟨Nat.le_trans r q1,q2,q3,fun j o' h' => ?_⟩
   rcases own j a o' h' with p | ⟨p1,p2,_⟩
   ·exact absurd (R.own j a o' p).2.2.1 (Nat.not_lt.mpr q1)
   ·rw [q4] at p2
    exact absurd p2 (Nat.not_lt.mpr p1)
 ·intro i b o hb hu
  rw [hU] at hu
  exact ext _ _ (R.old i b o hb hu)
 ·intro h0
  obtain ⟨e0,e1,e2,e3⟩ := flat h0
  obtain ⟨f1,f2,f3,f4⟩ := R.flat e0
  refine ⟨e1.trans f1,e2.trans f2,by lia,fun j a o h => ?_⟩
  rcases own j a o h with p | ⟨_,_,_,_,p,_⟩
  ·exact f4 _ _ _ p
  ·lia
theorem step_alloc {o : Obj} (hf : o.isFreed = false) (hm : M.k ≤ 200000) (I : InvM V s₀ M s) : InvM V s₀ (M.alo (NT.put 40 M.T M.k (M.b + M.m,o))) { s with heap := s.heap.push o } := by
 have hsz : s.heap.objs.size = M.b + M.m := I.rep.size
 have hp : (s.heap.push o).get? (M.b + M.m) = some o := by rw [← hsz]; exact Heap.get?_push_size _ hf
 refine ⟨I.toks,rep_next (M := M) I.rep ?_ (Nat.le_succ _) (Nat.le_succ _) rfl (fun b o h => Heap.get?_push_of_some _ h) (fun j a o' h => ?_) (fun a o h => .inl h) (fun h => ⟨h,rfl,rfl,Nat.succ_add_eq_add_succ _ _⟩),I.bare,I.os,I.calm⟩
 ·rw [Heap.size_push,hsz]; rfl
 ·have h : (NT.put 40 M.T M.k (M.b + M.m,o)).get j = some (a,o') := h
  rw [NT.put_get _ _ _ _ (by lia)] at h
  by_cases q : j = M.k
  ·rw [if_pos q] at h
   cases h
   exact .inr ⟨Nat.le_of_eq q.symm,Nat.lt_succ_of_le (Nat.le_of_eq q),Nat.le_refl _,Nat.lt_succ_self _,by rw [q,Nat.add_comm],hp⟩
  ·rw [if_neg q] at h
   exact .inl h
theorem chkPre_inv {r : Rf} {rs : List Rf} {a : Addr} {o : Obj} {ps : List (Addr × Obj)} {M M1 : Mem} (e : chkPre V (r :: rs) ((a,o) :: ps) M = some M1) :
  ∃ o',objAt V M r a = some o' ∧ chkPre V rs ps ((note V r a M).obs ((.obj o',.obj o) :: (note V r a M).ob)) = some M1 := by
 replace e : (match objAt V M r a with | some o' => chkPre V rs ps ((note V r a M).obs ((.obj o',.obj o) :: (note V r a M).ob)) | none => none) = some M1 := e
 cases h : objAt V M r a with
 | none => (rw [h] at e; cases e)
 | some o' => (rw [h] at e; exact ⟨o',rfl,e⟩)
theorem putAll_inv {r : Rf} {rs : List Rf} {a : Addr} {o : Obj} {ps : List (Addr × Obj)} {M M1 : Mem} (e : putAll V (r :: rs) ((a,o) :: ps) M = some M1) : ∃ M2,put1 V r a o M = some M2 ∧ putAll V rs ps M2 = some M1 := by
 replace e : (match put1 V r a o M with | some M => putAll V rs ps M | none => none) = some M1 := e
 cases h : put1 V r a o M with
 | none => (rw [h] at e; cases e)
 | some M2 => (rw [h] at e; exact ⟨M2,rfl,e⟩)
theorem chkPre_ob : ∀ {rs : List Rf} {ps : List (Addr × Obj)} {M M1 : Mem},chkPre V rs ps M = some M1 → sub M M1 ∧ ∃ l,M1 = M.obs l
 | [],[],M,M1,e => by cases e; exact ⟨sub.rfl,_,rfl⟩
 | [],_ :: _,_,_,e => by cases e
 | _ :: _,[],_,_,e => by cases e
 | r :: rs,(a,o) :: ps,M,M1,e => by
  obtain ⟨o',ho,e⟩ := chkPre_inv e
  obtain ⟨h1,l,h2⟩ := chkPre_ob e
  obtain ⟨l',el⟩ := note_ob (V := V) (M := M) r a
  have hs : sub (note V r a M) M1 := fun p hp => h1 p (List.mem_cons_of_mem _ hp)
  refine ⟨(note_sub r a).trans hs,l,?_⟩
  rw [h2,el]; rfl
theorem chkPre_sound : ∀ {rs : List Rf} {ps : List (Addr × Obj)} {M M1 : Mem},chkPre V rs ps M = some M1 → sub M1 M' → good M' → ∀ s,InvM V s₀ M s → ∀ p ∈ ps,s.heap.get? p.1 = some p.2
 | [],[],M,M1,e => fun _ _ _ _ p hp => nomatch hp
 | [],_ :: _,_,_,e => by cases e
 | _ :: _,[],_,_,e => by cases e
 | r :: rs,(a,o) :: ps,M,M1,e => by
  intro hz g s I p hp
  obtain ⟨o',ho,e⟩ := chkPre_inv e
  have ih := chkPre_sound e
  have h1 := (chkPre_ob e).1
  have hs : sub (note V r a M) M1 := fun p hp => h1 p (List.mem_cons_of_mem _ hp)
  have hget := objAt_get I ho fun c hc => note_eq (hs.trans hz) g hc
  have heq : o' = o := Ob.obj.inj (g _ (hz _ (h1 _ (List.mem_cons_self ..))))
  rcases List.mem_cons.mp hp with rfl | hp
  ·rw [← heq]; exact hget
  ·exact ih hz g s (inv_ob (note_inv (V := V) r a I)) p hp
theorem putAll_cnt : ∀ {rs : List Rf} {ps : List (Addr × Obj)} {M M1 : Mem},putAll V rs ps M = some M1 → sub M M1 ∧ (M1.k = M.k ∧ M1.b = M.b ∧ M1.m = M.m ∧ M1.tb = M.tb ∧ M1.i = M.i ∧ M1.e = M.e ∧ M1.fz = M.fz)
 | [],[],M,M1,e => by cases e; exact ⟨sub.rfl,rfl,rfl,rfl,rfl,rfl,rfl,rfl⟩
 | [],_ :: _,_,_,e => by cases e
 | _ :: _,[],_,_,e => by cases e
 | r :: rs,(a,o) :: ps,M,M1,e => by
  obtain ⟨M2,hp,e⟩ := putAll_inv e
  obtain ⟨h1,t1,t2,t3,t4,t5,t6,t7⟩ := putAll_cnt e
  obtain ⟨n1,n2,n3,n4,n5,n6,n7⟩ := put1_cnt hp
  exact ⟨(note_sub r a).trans ((put1_sub hp).trans h1),t1.trans n1,t2.trans n2,t3.trans n3,t4.trans n4,t5.trans n5,t6.trans n6,t7.trans n7⟩
theorem putAll_sound (O : VOk V s₀.heap) : ∀ {rs : List Rf} {ps : List (Addr × Obj)} {M M1 : Mem} {g : Nat → Option Obj} {sz : Nat},putAll V rs ps M = some M1 →
  sub M1 M' → good M' → RepF V s₀.heap M g sz → RepF V s₀.heap M1 (over g ps) sz
 | [],[],M,M1,_,_,e => by cases e; exact fun _ _ R => R
 | [],_ :: _,_,_,_,_,e => by cases e
 | _ :: _,[],_,_,_,_,e => by cases e
 | r :: rs,(a,o) :: ps,M,M1,g,sz,e => by
  intro hz gd R
  obtain ⟨M2,hp,e⟩ := putAll_inv e
  have h1 := (putAll_cnt e).1
  refine putAll_sound (g := fun c => if c = a then some o else g c) (sz := sz) O e hz gd ?_
  exact put1_rep O R hp (h1.trans hz) gd (if_pos rfl) fun b hb => if_neg hb
theorem newAll_sound {g b m k : Nat} : ∀ {ps : List (Nat × Obj)} {T T1 : NT (Nat × Obj)},newAll g b m k ps T = some T1 → ∀ (j a : Nat) o,T1.get j = some (a,o) → (∃ p ∈ ps,j = k + p.1 ∧ a = b + (m + p.1) ∧ p.2 = o ∧ p.1 < g) ∨ T.get j = some (a,o)
 | [],T,T1,e,j,a,o,h => by cases e; exact .inr h
 | (i,o') :: ps,T,T1,e,j,a,o,h => by
  unfold newAll at e
  split at e
  ·rename_i hi hi2 hf
   have hi : i < g := Nat.le_of_ble_eq_true hi
   have hi2 := Nat.le_of_ble_eq_true hi2
   rcases newAll_sound e j a o h with ⟨p,hp,q⟩ | q
   ·exact .inl ⟨p,List.mem_cons_of_mem _ hp,q⟩
   ·rw [NT.put_get _ _ _ _ (by lia)] at q
    by_cases z : j = k + i
    ·rw [if_pos z] at q
     cases q
     exact .inl ⟨(i,o'),List.mem_cons_self ..,z,rfl,rfl,hi⟩
    ·rw [if_neg z] at q
     exact .inr q
  ·cases e
theorem ctrStep_inv {j d : Nat} {pre upd : List Rf} {c' : Code} {v : Result} {M1 : Mem} (e : ctrStep V j d pre upd c' M = some (v,M1)) :
  ∃ C Ma Mb T,(V.ctrs (trunc M.e V.om))[j]? = some C ∧ V.d₀ + d ≤ C.dm ∧ V.u₀ + 3 * d ≤ C.um ∧ chkPre V pre C.pre M = some Ma ∧ putAll V upd (C.upd (M.b + M.m) (M.tb + M.i)) Ma = some Mb ∧
   newAll C.grow M.b M.m M.k (C.news (M.b + M.m) (M.tb + M.i)) Mb.T = some T ∧ v = C.res (M.b + M.m) (M.tb + M.i) ∧ M1 = M.cof Mb C T c' := by
 delta ctrStep at e
 split at e
 ·cases e
 ·rename_i C hC
  split at e
  ·rename_i hd hu
   split at e
   ·cases e
   ·rename_i Ma ha
    split at e
    ·cases e
    ·rename_i Mb hb
     split at e
     ·cases e
     ·rename_i T hT
      have e := Prod.mk.inj (Option.some.inj e)
      exact ⟨C,Ma,Mb,T,hC,Nat.le_of_ble_eq_true hd,Nat.le_of_ble_eq_true hu,ha,hb,hT,e.1.symm,e.2.symm⟩
  ·cases e
theorem ctrStep_sub {j d : Nat} {pre upd : List Rf} {c' : Code} {v : Result} {M1 : Mem} (e : ctrStep V j d pre upd c' M = some (v,M1)) : sub M M1 ∧ M1.e = M.e := by
 obtain ⟨C,Ma,Mb,T,_,_,_,ha,hb,_,_,rfl⟩ := ctrStep_inv e
 obtain ⟨a1,l,a2⟩ := chkPre_ob ha
 obtain ⟨b1,b2,b3,b4,b5,b6,b7,b8⟩ := putAll_cnt hb
 refine ⟨fun p hp => List.mem_cons_of_mem _ (b1 p (a1 p hp)),?_⟩
 show Mb.e = M.e
 rw [b7,a2]; rfl
theorem xctrStep_inv {j d : Nat} {pre upd : List Rf} {c' : Code} {v : Result} {M1 : Mem} (e : xctrStep V j d pre upd c' M = some (v,M1)) :
  ∃ C Ma Mb,(V.xcs (trunc M.e V.om))[j]? = some C ∧ V.d₀ + d ≤ C.dm ∧ V.u₀ + 3 * d ≤ C.um ∧ chkPre V pre C.pre M = some Ma ∧ putAll V upd (C.upd (V.om M.e)) Ma = some Mb ∧ v = C.res (V.om M.e) ∧
   M1 = M.xof Mb C (V.om M.e) c' := by
 delta xctrStep at e
 split at e
 ·cases e
 ·rename_i C hC
  split at e
  ·rename_i hd hu
   split at e
   ·cases e
   ·rename_i Ma ha
    split at e
    ·cases e
    ·rename_i Mb hb
     have e := Prod.mk.inj (Option.some.inj e)
     exact ⟨C,Ma,Mb,hC,Nat.le_of_ble_eq_true hd,Nat.le_of_ble_eq_true hu,ha,hb,e.1.symm,e.2.symm⟩
  ·cases e
theorem xctrStep_sub {j d : Nat} {pre upd : List Rf} {c' : Code} {v : Result} {M1 : Mem} (e : xctrStep V j d pre upd c' M = some (v,M1)) : sub M M1 ∧ M1.e = M.e + 1 := by
 obtain ⟨C,Ma,Mb,_,_,_,ha,hb,_,rfl⟩ := xctrStep_inv e
 exact ⟨fun p hp => List.mem_cons_of_mem _ ((putAll_cnt hb).1 p ((chkPre_ob ha).1 p hp)),rfl⟩
theorem cof_inv (O : VOk V s₀.heap) {C : Ctr} {pre upd : List Rf} {c' : Code} {Ma Mb : Mem} {T : NT (Nat × Obj)} {s' : Shared} (ha : chkPre V pre C.pre M = some Ma) (hb : putAll V upd (C.upd (M.b + M.m) (M.tb + M.i)) Ma = some Mb)
  (hT : newAll C.grow M.b M.m M.k (C.news (M.b + M.m) (M.tb + M.i)) Mb.T = some T) (hz : sub Mb M') (g : good M') (I : InvM V s₀ M s) (hA : After C s s') (nc : (∀ om,V.ctrs om = []) → False) : InvM V s₀ (M.cof Mb C T c') s' := by
 obtain ⟨a1,l,rfl⟩ := chkPre_ob ha
 obtain ⟨b1,b2,b3,b4,b5,b6,b7,b8⟩ := putAll_cnt hb
 have R := I.rep
 have hsz : s.heap.objs.size = M.b + M.m := R.size
 have htk : s.toks = M.tb + M.i := I.toks
 delta After at hA
 rw [hsz,htk] at hA
 obtain ⟨k1,k2,k3,k4,k5,k6,k7⟩ := hA
 replace b2 : Mb.k = M.k := b2
 replace b3 : Mb.b = M.b := b3
 replace b4 : Mb.m = M.m := b4
 replace b5 : Mb.tb = M.tb := b5
 clear ha b1 a1 b6 b7 b8
 refine ⟨?_,?_,fun x => k6 (I.bare x),k7.trans I.os,fun x _ => (nc x).elim⟩
 ·show s'.toks = Mb.tb + (M.i + C.toks)
  rw [k2,b5]; exact Nat.add_assoc ..
 ·refine rep_next (putAll_sound (g := s.heap.get?) (sz := s.heap.objs.size) O hb hz g ⟨R.size,R.top,R.own,R.inj,R.frz,R.old,R.lit,R.keep,R.flat⟩) ?_ ?_ ?_ rfl (fun b o h => ?_) (fun j' a' o' h => ?_) (fun a' o' h => .inl h) (fun h0 => ⟨h0,rfl,rfl,?_⟩)
  ·show s'.heap.objs.size = Mb.b + (M.m + C.grow)
   rw [k1,b3]; exact Nat.add_assoc ..
  ·show Mb.b + Mb.m ≤ Mb.b + (M.m + C.grow)
   rw [b4]; exact Nat.add_le_add_left (Nat.le_add_right ..) _
  ·show Mb.k ≤ M.k + C.grow
   rw [b2]; exact Nat.le_add_right ..
  ·rcases over_cases h with ⟨p,hp,rfl,rfl⟩ | ⟨q,hn⟩
   ·exact k3 p hp
   ·exact k5 b o q hn
  ·show _ ∨ (Mb.k ≤ j' ∧ j' < M.k + C.grow ∧ Mb.b + Mb.m ≤ a' ∧ a' < Mb.b + (M.m + C.grow) ∧ j' + (Mb.b + Mb.m) = a' + Mb.k ∧ _)
   rw [b2,b3,b4]
   rcases newAll_sound hT j' a' o' h with ⟨p,hp,rfl,rfl,rfl,hlt⟩ | q
   ·have := k4 p hp
    rw [← Nat.add_assoc]
    clear hT hb k1 k2 k3 k4 k5
    exact .inr ⟨by lia,by lia,by lia,by lia,by lia,this⟩
   ·exact .inl q
  ·show M.k + C.grow + Mb.m = Mb.k + (M.m + C.grow)
   rw [b2,b4]; lia
theorem ctrStep_sound (O : VOk V s₀.heap) (CO : ∀ om,∀ C ∈ V.ctrs om,C.Ok V.base) {j d : Nat} {pre upd : List Rf} {c' : Code} {v : Result} {M1 : Mem} (e : ctrStep V j d pre upd c' M = some (v,M1)) :
  sub M1 M' → good M' → ∀ (A : Around) s,A.depth ≤ V.d₀ + d → A.units ≤ V.u₀ + 3 * d → A.handled = none → InvM V s₀ M s → codeAny (model V.prog V.w) A c' (fun r s' => r = v ∧ InvM V s₀ M1 s') s := by
 obtain ⟨C,Ma,Mb,T,hC,hd,hu,ha,hb,hT,rfl,rfl⟩ := ctrStep_inv e
 clear e
 intro hz g A s hdep hun hhd I
 have hzb : sub Mb M' := fun p hp => hz p (List.mem_cons_of_mem _ hp)
 have hcode : c' = C.code := Ob.code.inj (g _ (hz _ (List.mem_cons_self ..)))
 clear hz
 subst hcode
 refine codeAny_mono (CO _ C (List.mem_of_getElem? hC) A s (Nat.le_trans hdep hd) (Nat.le_trans hun hu) hhd (fun a o h => I.rep.lit a o h) (chkPre_sound ha ((putAll_cnt hb).1.trans hzb) g s I)) ?_
 rintro r s' ⟨rfl,hA⟩
 refine ⟨?_,cof_inv O ha hb hT hzb g I hA fun x => by rw [x] at hC; cases hC⟩
 rw [show s.heap.objs.size = M.b + M.m from I.rep.size,show s.toks = M.tb + M.i from I.toks]
noncomputable def Ag (e : Nat) (a b : Nat → Nat → Nat) : Prop := ∀ i,i < e → a i = b i
theorem trunc_ag {e : Nat} {a b : Om} (h : Ag e a b) : trunc e a = trunc e b := by
 funext i
 unfold trunc
 cases q : Nat.blt i e with
 | true => exact h i (Nat.le_of_ble_eq_true q)
 | false => rfl
theorem Ag.refl {e : Nat} {a : Nat → Nat → Nat} : Ag e a a := fun _ _ => rfl
theorem Ag.trans {e : Nat} {a b c : Nat → Nat → Nat} (h : Ag e a b) (g : Ag e b c) : Ag e a c := fun i hi => (h i hi).trans (g i hi)
theorem Ag.less {e e' : Nat} {a b : Nat → Nat → Nat} (h : Ag e a b) (l : e' ≤ e) : Ag e' a b := fun i hi => h i (Nat.lt_of_lt_of_le hi l)
noncomputable def setOm (om : Nat → Nat → Nat) (e : Nat) (ω : Nat → Nat) : Nat → Nat → Nat := fun i => if i = e then ω else om i
theorem setOm_ag {om : Nat → Nat → Nat} {e : Nat} {ω : Nat → Nat} : Ag e om (setOm om e ω) := fun i hi => by
 unfold setOm
 rw [if_neg (Nat.ne_of_lt hi)]
theorem setOm_at {om : Nat → Nat → Nat} {e : Nat} {ω : Nat → Nat} : setOm om e ω e = ω := by
 unfold setOm
 rw [if_pos rfl]
noncomputable abbrev Vw.at_ (V : Vw) (om : Nat → Nat → Nat) : Vw := { V with om := om }
theorem chkPre_at {om : Nat → Nat → Nat} : ∀ (rs : List Rf) (ps : List (Addr × Obj)) (M : Mem),chkPre (V.at_ om) rs ps M = chkPre V rs ps M
 | [],[],_ => rfl
 | [],_ :: _,_ => rfl
 | _ :: _,[],_ => rfl
 | r :: rs,(a,o) :: ps,M => by
  show (match objAt V M r a with | some o' => chkPre (V.at_ om) rs ps ((note V r a M).obs ((.obj o',.obj o) :: (note V r a M).ob)) | none => none) = (match objAt V M r a with | some o' => chkPre V rs ps ((note V r a M).obs ((.obj o',.obj o) :: (note V r a M).ob)) | none => none)
  cases objAt V M r a with
  | none => rfl
  | some o' => exact chkPre_at rs ps _
theorem putAll_at {om : Nat → Nat → Nat} : ∀ (rs : List Rf) (ps : List (Addr × Obj)) (M : Mem),putAll (V.at_ om) rs ps M = putAll V rs ps M
 | [],[],_ => rfl
 | [],_ :: _,_ => rfl
 | _ :: _,[],_ => rfl
 | r :: rs,(a,o) :: ps,M => by
  show (match put1 V r a o M with | some M => putAll (V.at_ om) rs ps M | none => none) = (match put1 V r a o M with | some M => putAll V rs ps M | none => none)
  cases put1 V r a o M with
  | none => rfl
  | some M => exact putAll_at rs ps _
theorem xof_inv (O : VOk V s₀.heap) {C : XC} {pre upd : List Rf} {c' : Code} {ω : Nat → Nat} {Ma Mb : Mem} {s' : Shared} (ha : chkPre V pre C.pre M = some Ma) (hb : putAll V upd (C.upd ω) Ma = some Mb)
  (hz : sub Mb M') (g : good M') (I : InvM V s₀ M s) (hA : AfterX C ω s s') (nc : (∀ om,V.xcs om = []) → False) : InvM V s₀ (M.xof Mb C ω c') s' := by
 obtain ⟨a1,l,rfl⟩ := chkPre_ob ha
 obtain ⟨_,_,b3,b4,_⟩ := putAll_cnt hb
 have R := I.rep
 have hsz : s.heap.objs.size = M.b + M.m := R.size
 obtain ⟨k1,k2,k0,k3,k4,k5,k6,k7⟩ := hA
 replace b3 : Mb.b = M.b := b3
 replace b4 : Mb.m = M.m := b4
 rw [hsz] at k0 k4
 clear ha a1
 refine ⟨k2,rep_next (putAll_sound (s₀ := s₀) (g := s.heap.get?) (sz := s.heap.objs.size) O hb hz g ⟨R.size,R.top,R.own,R.inj,R.frz,R.old,R.lit,R.keep,R.flat⟩) k1 ?_ (Nat.le_refl _) rfl (fun b o h => ?_) (fun j' a' o' h => .inl h) (fun a' o' h => ?_) (fun h0 => by cases h0),fun x => k6 (I.bare x),k7.trans I.os,fun _ x => (nc x).elim⟩
 ·show Mb.b + Mb.m ≤ ω 0 + 0
  rw [b3,b4]; exact k0
 ·rcases over_cases h with ⟨p,hp,rfl,rfl⟩ | ⟨q,hn⟩
  ·exact k3 p hp
  ·exact k5 b o q hn
 ·rcases List.mem_append.mp h with h | h
  ·exact .inl h
  ·obtain ⟨x,y⟩ := k4 _ h
   have z : @LT.lt Nat _ a' s'.heap.objs.size := Heap.lt_size y
   rw [k1] at z
   rw [b3,b4]
   exact .inr ⟨x,z,y,rfl⟩
theorem xctr_pre {om : Om} {j d : Nat} {pre upd : List Rf} {c' : Code} {v : Result} {M1 : Mem} (e : xctrStep (V.at_ om) j d pre upd c' M = some (v,M1)) (hz : sub M1 M') (g : good M') (I : InvM V s₀ M s) :
  ∃ C Ma,(V.xcs (trunc M.e om))[j]? = some C ∧ V.d₀ + d ≤ C.dm ∧ V.u₀ + 3 * d ≤ C.um ∧ chkPre V pre C.pre M = some Ma ∧ c' = C.code ∧ ∀ p ∈ C.pre,s.heap.get? p.1 = some p.2 := by
 obtain ⟨C,Ma,Mb,hC,hd,hu,ha,hb,_,rfl⟩ := xctrStep_inv e
 rw [chkPre_at] at ha
 rw [putAll_at] at hb
 have hzb : sub Mb M' := fun p hp => hz p (List.mem_cons_of_mem _ hp)
 exact ⟨C,Ma,hC,hd,hu,ha,Ob.code.inj (g _ (hz _ (List.mem_cons_self ..))),chkPre_sound ha ((putAll_cnt hb).1.trans hzb) g s I⟩
theorem xctr_post {om : Om} {ω : Nat → Nat} {j d : Nat} {pre upd : List Rf} {c' : Code} {v : Result} {M1 Ma : Mem} {C : XC} (e : xctrStep (V.at_ om) j d pre upd c' M = some (v,M1)) (hω : om M.e = ω) (hC : (V.xcs (trunc M.e om))[j]? = some C) (ha : chkPre V pre C.pre M = some Ma) :
  ∃ Mb,putAll V upd (C.upd ω) Ma = some Mb ∧ v = C.res ω ∧ M1 = M.xof Mb C ω c' := by
 obtain ⟨C1,Ma1,Mb,hC1,_,_,ha1,hb1,ev,em⟩ := xctrStep_inv e
 rw [chkPre_at] at ha1
 rw [putAll_at] at hb1
 cases (show some C1 = some C from hC1.symm.trans hC)
 cases ha1.symm.trans ha
 subst hω
 exact ⟨Mb,hb1,ev,em⟩
theorem xctrStep_at {om om' : Om} {j d : Nat} {pre upd : List Rf} {c' : Code} (h : Ag (M.e + 1) om om') : xctrStep (V.at_ om') j d pre upd c' M = xctrStep (V.at_ om) j d pre upd c' M := by
 delta xctrStep
 simp only [chkPre_at,putAll_at]
 rw [trunc_ag (h.less (Nat.le_succ _)),h M.e (Nat.lt_succ_self _)]
theorem xctrStep_sound (O : VOk V s₀.heap) (XO : ∀ om,∀ C ∈ V.xcs om,C.Ok V.base) {j d : Nat} {pre upd : List Rf} {c' : Code} {om₀ : Om} {P : Om → Result → Mem → Prop}
  (H : ∀ om,Ag M.e om₀ om → ∃ v M1,xctrStep (V.at_ om) j d pre upd c' M = some (v,M1) ∧ P om v M1 ∧ ∃ M',sub M1 M' ∧ good M') :
  ∀ (A : Around) s,A.depth ≤ V.d₀ + d → A.units ≤ V.u₀ + 3 * d → A.handled = none → InvM V s₀ M s → codeAny (model V.prog V.w) A c' (fun r s' => ∃ om M1,Ag M.e om₀ om ∧ (∀ om',Ag (M.e + 1) om om' → P om' r M1) ∧ M1.e = M.e + 1 ∧ InvM V s₀ M1 s') s := by
 intro A s hdep hun hhd I
 obtain ⟨v0,M10,e0,_,M'0,hz0,g0⟩ := H om₀ Ag.refl
 obtain ⟨C,Ma,hC,hd,hu,ha,hcode,hpre⟩ := xctr_pre e0 hz0 g0 I
 clear e0 hz0 g0
 rw [hcode]
 refine codeAny_mono (XO _ C (List.mem_of_getElem? hC) A s (Nat.le_trans hdep hd) (Nat.le_trans hun hu) hhd (fun a o h => I.rep.lit a o h) hpre) ?_
 intro r s' hr
 obtain ⟨ω,hr,hA⟩ := hr
 have ag := setOm_ag (om := om₀) (e := M.e) (ω := ω)
 have at_ := setOm_at (om := om₀) (e := M.e) (ω := ω)
 generalize setOm om₀ M.e ω = om at ag at_
 obtain ⟨v1,M1,e1,p1,M'1,hz1,g1⟩ := H om ag
 obtain ⟨Mb,hb,hv,hM⟩ := xctr_post e1 at_ (by rw [← trunc_ag ag]; exact hC) ha
 rw [← hv] at hr
 refine ⟨om,M1,ag,fun om' hag => ?_,by rw [hM]; rfl,?_⟩
 ·obtain ⟨v2,M2,e2,p2,_⟩ := H om' (ag.trans (hag.less (Nat.le_succ _)))
  rw [xctrStep_at hag,e1,← hr] at e2
  obtain ⟨q1,q2⟩ := Prod.mk.inj (Option.some.inj e2)
  rw [q1,q2]; exact p2
 ·rw [hM] at hz1 ⊢
  exact xof_inv O ha hb (fun p hp => hz1 p (List.mem_cons_of_mem _ hp)) g1 I hA fun x => by rw [x] at hC; cases hC
end
section
variable {α : Type} {V : Vw} {s₀ : Shared} {A : Around} {Q : α → Shared → Prop} {E : Value → Shared → Prop}
noncomputable def Fine (V : Vw) (s₀ : Shared) (A : Around) (Q : α → Shared → Prop) (E : Value → Shared → Prop) (R : Option (Out α × Mem)) : Prop := ∃ a M',R = some (a,M') ∧ good M' ∧ ∀ s',InvM V s₀ M' s' → OutOk V.prog V.w A Q E a s'
theorem Fine.none (h : Fine V s₀ A Q E none) : False := by
 obtain ⟨_,_,e,_⟩ := h; cases e
theorem memT {β : Type} {W : Sem β → Shared → Prop} {go : Om → Sem β → List Tk → Mem → Option (Out α × Mem)} (O : VOk V s₀.heap) (C : Clo V.base W)
  (gs : ∀ om t tp M a M',go om t tp M = some (a,M') → sub M M')
  (IH : ∀ t tp M om₀,(∀ om,Ag M.e om₀ om → Fine V s₀ A Q E (go om t tp M)) → ∀ s,InvM V s₀ M s → W t s) :
  ∀ t tp M om₀,(∀ om,Ag M.e om₀ om → Fine V s₀ A Q E (memStep (V.at_ om) (go om) t tp M)) → ∀ s,InvM V s₀ M s → W t s := by
 intro t tp M om₀ H s I
 have H0 := H om₀ Ag.refl
 cases t with
 | rule t k => exact C.rule _ _ _ (IH _ _ _ _ H s I)
 | «at» t k => exact C.pos _ _ _ (IH _ _ _ _ H s I)
 | point t k => exact C.point _ _ _ (IH _ _ _ _ H s I)
 | ask k => exact C.ask _ _ (IH _ _ _ _ H s I)
 | fresh k =>
  refine C.fresh _ _ ?_
  have e1 : s.toks = M.tb + M.i := I.toks
  rw [e1]
  exact IH _ _ M.tick om₀ H _ ⟨Nat.add_assoc ..,⟨I.rep.size,I.rep.top,I.rep.own,I.rep.inj,I.rep.frz,I.rep.old,I.rep.lit,I.rep.keep,I.rep.flat⟩,I.bare,I.os,I.calm⟩
 | load b q k =>
  (delta memStep at H H0; dsimp only at H H0)
  cases tp with
  | nil => exact H0.none.elim
  | cons tk tp =>
   cases tk with
   | rf r =>
    simp only at H H0
    cases ho : objAt V M r b with
    | none =>
     have ho' : objAt (V.at_ om₀) M r b = none := ho
     rw [ho'] at H0; exact H0.none.elim
    | some o =>
     have H' : ∀ om,Ag (note V r b M).e om₀ om → Fine V s₀ A Q E (go om (k o) tp (note V r b M)) := by
      intro om hag
      obtain ⟨l,el⟩ := note_ob (V := V) (M := M) r b
      rw [el] at hag
      have z := H om hag
      have ho' : objAt (V.at_ om) M r b = some o := ho
      rw [ho'] at z
      exact z
     obtain ⟨a,M',e0,g,_⟩ := H' om₀ Ag.refl
     have hs := gs _ _ _ _ _ _ e0
     exact C.load _ _ _ o s (objAt_get I ho fun c hc => note_eq hs g hc) (IH _ _ _ _ H' s (note_inv r b I))
   | _ => exact H0.none.elim
 | loadIfAlive b k =>
  (delta memStep at H H0; dsimp only at H H0)
  cases tp with
  | nil => exact H0.none.elim
  | cons tk tp =>
   cases tk with
   | rf r =>
    simp only at H H0
    cases ho : objAt V M r b with
    | none =>
     have ho' : objAt (V.at_ om₀) M r b = none := ho
     rw [ho'] at H0; exact H0.none.elim
    | some o =>
     have H' : ∀ om,Ag (note V r b M).e om₀ om → Fine V s₀ A Q E (go om (k (some o)) tp (note V r b M)) := by
      intro om hag
      obtain ⟨l,el⟩ := note_ob (V := V) (M := M) r b
      rw [el] at hag
      have z := H om hag
      have ho' : objAt (V.at_ om) M r b = some o := ho
      rw [ho'] at z
      exact z
     obtain ⟨a,M',e0,g,_⟩ := H' om₀ Ag.refl
     have hs := gs _ _ _ _ _ _ e0
     exact C.alive _ _ o s (objAt_get I ho fun c hc => note_eq hs g hc) (IH _ _ _ _ H' s (note_inv r b I))
   | _ => exact H0.none.elim
 | alloc o k =>
  (delta memStep at H H0; dsimp only at H H0)
  cases hf : o.isFreed with
  | true => rw [hf] at H0; exact H0.none.elim
  | false =>
   cases hm : Nat.ble M.k 200000 with
   | false => rw [hf,hm] at H0; exact H0.none.elim
   | true =>
    simp only [hf,hm] at H
    refine C.alloc _ _ _ ?_
    have hsz : s.heap.objs.size = M.b + M.m := I.rep.size
    rw [hsz]
    exact IH _ _ (M.alo (NT.put 40 M.T M.k (M.b + M.m,o))) om₀ H _ (step_alloc hf (Nat.le_of_ble_eq_true hm) I)
 | update b q f k =>
  (delta memStep at H H0; dsimp only at H H0)
  cases tp with
  | nil => exact H0.none.elim
  | cons tk tp =>
   cases tk with
   | rf r =>
    simp only at H H0
    cases ho : objAt V M r b with
    | none =>
     have ho' : objAt (V.at_ om₀) M r b = none := ho
     rw [ho'] at H0; exact H0.none.elim
    | some o =>
     cases hp : put1 V r b (f o) M with
     | none =>
      have ho' : objAt (V.at_ om₀) M r b = some o := ho
      have hp' : put1 (V.at_ om₀) r b (f o) M = none := hp
      rw [ho'] at H0; simp only [hp'] at H0; exact H0.none.elim
     | some M1 =>
      have hcnt := put1_cnt hp
      have H' : ∀ om,Ag M1.e om₀ om → Fine V s₀ A Q E (go om (k ()) tp M1) := by
       intro om hag
       rw [hcnt.2.2.2.2.2.1] at hag
       have z := H om hag
       have ho' : objAt (V.at_ om) M r b = some o := ho
       have hp' : put1 (V.at_ om) r b (f o) M = some M1 := hp
       rw [ho'] at z
       simp only [hp'] at z
       exact z
      obtain ⟨a,M',e0,g,_⟩ := H' om₀ Ag.refl
      have h1 := gs _ _ _ _ _ _ e0
      have hs := (put1_sub hp).trans h1
      have hb : s.heap.get? b = some o := objAt_get I ho fun c hc => note_eq hs g hc
      have hfr : (f o).isFreed = false := put1_free hp
      refine C.update _ _ _ _ o s hb (IH _ _ _ _ H' _ ⟨?_,?_,I.bare,I.os,I.calm⟩)
      ·show s.toks = _
       rw [hcnt.2.2.2.1,hcnt.2.2.2.2.1]; exact I.toks
      ·have hsb : Heap.SameBut b s.heap (s.heap.update b f) := Heap.SameBut.update ..
       show RepF V s₀.heap M1 (s.heap.update b f).get? (s.heap.update b f).objs.size
       rw [hsb.1]
       refine put1_rep O I.rep hp h1 g ?_ (fun c hc => hsb.2 c hc)
       first | exact Heap.get?_update_self f hb hfr | exact Heap.get?_update_self _ hb hfr
   | _ => exact H0.none.elim
 | handled own k =>
  (delta memStep at H H0; dsimp only at H H0)
  cases own with
  | false => exact C.handled _ _ (IH _ _ _ _ H s I)
  | true => exact H0.none.elim
 | _ => exact H0.none.elim
end
end Mine.G
end
section
namespace Mine.G
section
variable {α : Type} {den ent : Code → Sem Fin} {V : Vw}
theorem memStep_sub {β : Type} {go : Sem β → List Tk → Mem → Option (Out α × Mem)} (gs : ∀ t tp M a M',go t tp M = some (a,M') → sub M M') :
  ∀ t tp M a M',memStep V go t tp M = some (a,M') → sub M M' := by
 intro t tp M a M' e
 cases t with
 | rule t k => exact gs _ _ _ _ _ e
 | «at» t k => exact gs _ _ _ _ _ e
 | point t k => exact gs _ _ _ _ _ e
 | ask k => exact gs _ _ _ _ _ e
 | fresh k => exact fun p hp => gs _ _ _ _ _ e p hp
 | load b q k =>
  delta memStep at e
  dsimp only at e
  split at e
  ·split at e
   ·exact (note_sub _ _).trans (gs _ _ _ _ _ e)
   ·cases e
  ·cases e
 | loadIfAlive b k =>
  delta memStep at e
  dsimp only at e
  split at e
  ·split at e
   ·exact (note_sub _ _).trans (gs _ _ _ _ _ e)
   ·cases e
  ·cases e
 | alloc o k =>
  delta memStep at e
  dsimp only at e
  split at e
  ·exact fun p hp => gs _ _ _ _ _ e p hp
  ·cases e
 | update b q f k =>
  delta memStep at e
  dsimp only at e
  split at e
  ·split at e
   ·split at e
    ·rename_i hp
     exact (note_sub _ _).trans ((put1_sub hp).trans (gs _ _ _ _ _ e))
    ·cases e
   ·cases e
  ·cases e
 | handled own k =>
  delta memStep at e
  dsimp only at e
  cases own with
  | false => exact gs _ _ _ _ _ e
  | true => cases e
 | _ => cases e
theorem goto_ok {ih : Go α} {c' : Code} {κ : List Frm} {k₀ : Result → Sem α} {fin : Result → List Tk → Mem → Option (Out α × Mem)} {tp : List Tk} {M : Mem} {x : Out α × Mem} (e : goto den ent V ih c' κ k₀ fin tp M = some x) : okCode c' = true := by
 cases h : okCode c' with
 | true => rfl
 | false =>
  cases tp with
  | nil => cases e
  | cons tk tp =>
   delta goto at e
   rw [h] at e
   cases tk <;> cases e
theorem goto_sub {ih : Go α} (is : ∀ cur tp M a M',ih cur tp M = some (a,M') → sub M M') {c' : Code} {κ : List Frm} {k₀ : Result → Sem α} {fin : Result → List Tk → Mem → Option (Out α × Mem)}
  (fs : ∀ v tp M a M',fin v tp M = some (a,M') → sub M M') {tp : List Tk} {M : Mem} {a : Out α} {M' : Mem} (e : goto den ent V ih c' κ k₀ fin tp M = some (a,M')) : sub M M' := by
 have hok := goto_ok e
 delta goto at e
 rw [hok] at e
 cases tp with
 | nil => cases e
 | cons tk tp =>
  cases tk with
  | rf r => cases e
  | go => exact is _ _ _ _ _ e
  | ent =>
   dsimp only at e
   cases h1 : Nat.ble (V.d₀ + κ.length) 900 with
   | false => (rw [h1] at e; cases e)
   | true =>
    cases h2 : Nat.ble (V.u₀ + 3 * κ.length) 9000 with
    | false => (rw [h1,h2] at e; cases e)
    | true => (rw [h1,h2] at e; exact is _ _ _ _ _ e)
  | ctr j pre upd =>
   dsimp only at e
   cases h : ctrStep V j κ.length pre upd c' M with
   | none => (rw [h] at e; cases e)
   | some p => (rw [h] at e; exact (ctrStep_sub h).1.trans (fs _ _ _ _ _ e))
  | xctr j pre upd =>
   dsimp only at e
   cases h : xctrStep V j κ.length pre upd c' M with
   | none => (rw [h] at e; cases e)
   | some p => (rw [h] at e; exact (xctrStep_sub h).1.trans (fs _ _ _ _ _ e))
  | stop => (cases e; exact sub.rfl)
theorem back_sub {ih : Go α} (is : ∀ cur tp M a M',ih cur tp M = some (a,M') → sub M M') {κ : List Frm} {k₀ : Result → Sem α} {r : Result} {tp : List Tk} {M : Mem} {a : Out α} {M' : Mem} (e : back ih κ k₀ r tp M = some (a,M')) : sub M M' := by
 cases κ with
 | nil => exact is _ _ _ _ _ e
 | cons f κ => exact is _ _ _ _ _ e
theorem runStep_sub {ih : Go α} (is : ∀ cur tp M a M',ih cur tp M = some (a,M') → sub M M') : ∀ cur tp M a M',runStep den ent V ih cur tp M = some (a,M') → sub M M' := by
 intro cur tp M a M' e
 cases cur with
 | b t =>
  have mem := memStep_sub (V := V) (go := fun t tp M => ih (.b t) tp M) (fun _ _ _ _ _ e => is _ _ _ _ _ e)
  cases t with
  | pure x => (cases e; exact sub.rfl)
  | call c hdm gd l k =>
   cases hdm with
   | some v => (delta runStep at e; dsimp only at e); cases e
   | none =>
    delta runStep at e
    dsimp only at e
    exact goto_sub is (fun v tp M a M' e => is _ _ _ _ _ e) e
  | _ => (delta runStep at e; dsimp only at e; exact mem _ _ _ _ _ e)
 | i c κ k₀ t =>
  have mem := memStep_sub (V := V) (go := fun t tp M => ih (.i c κ k₀ t) tp M) (fun _ _ _ _ _ e => is _ _ _ _ _ e)
  cases t with
  | pure fin =>
   cases fin with
   | done f => (delta runStep at e; dsimp only at e); exact back_sub is e
   | again c' =>
    delta runStep at e
    dsimp only at e
    exact goto_sub is (fun v tp M a M' e => back_sub is e) e
  | raise x => (delta runStep at e; dsimp only at e); exact back_sub is e
  | call c' hdm gd l k =>
   cases hdm with
   | some v => (delta runStep at e; dsimp only at e); cases e
   | none =>
    delta runStep at e
    dsimp only at e
    cases h : okCode c with
    | true => (rw [h] at e; exact goto_sub is (fun v tp M a M' e => is _ _ _ _ _ e) e)
    | false => (rw [h] at e; cases e)
  | stack k =>
   delta runStep at e
   dsimp only at e
   exact fun p hp => is _ _ _ _ _ e p (List.mem_cons_of_mem _ hp)
  | _ => (delta runStep at e; dsimp only at e; exact mem _ _ _ _ _ e)
theorem run_sub : ∀ (n : Nat) (cur : Cur α) (tp : List Tk) (M : Mem) (a : Out α) (M' : Mem),run den ent V n cur tp M = some (a,M') → sub M M'
 | 0 => fun _ _ _ _ _ e => by cases e
 | n + 1 => runStep_sub (run_sub n)
end
noncomputable def EntOk (prog : Program) (w : World) (ent : Code → Sem Fin) : Prop := ∀ (A : Around) (c : Code),A.depth < recursionLimit → A.units < cLine → RefO (model prog w) A c (ent c) (denote table c)
section
variable {α : Type} {V : Vw} {s₀ : Shared} {A : Around} {Q : α → Shared → Prop} {E : Value → Shared → Prop}
noncomputable def GoodF (V : Vw) (s₀ : Shared) (A : Around) (Q : α → Shared → Prop) (E : Value → Shared → Prop) (ih : Om → Go α) : Prop :=
 ∀ cur tp M om₀,(∀ om,Ag M.e om₀ om → Fine V s₀ A Q E (ih om cur tp M)) → cOk cur → ∀ s,InvM V s₀ M s → MeansC V.prog V.w A Q E cur s
theorem ar_le' {V : Vw} {d u : Nat} {A : Around} (hd : A.depth ≤ d) (hu : A.units ≤ u) (hh : A.handled = none) {κ : List Frm} (h : kOk κ) : (ar A κ).depth ≤ d + κ.length ∧ (ar A κ).units ≤ u + 3 * κ.length ∧ (ar A κ).handled = none :=
 ar_le (V := { prog := V.prog,w := V.w,lk := fun _ => none,n := 0,L := [],t₀ := 0,d₀ := d,u₀ := u,ctrs := [] }) hd hu hh h
theorem ctrStep_at {om om' : Om} {j d : Nat} {pre upd : List Rf} {c' : Code} {M : Mem} (h : Ag M.e om om') : ctrStep (V.at_ om') j d pre upd c' M = ctrStep (V.at_ om) j d pre upd c' M := by
 delta ctrStep
 simp only [chkPre_at,putAll_at]
 rw [trunc_ag h]
theorem back_T {ih : Om → Go α} (G : GoodF V s₀ A Q E ih) {κ : List Frm} {k₀ : Result → Sem α} {r : Result} {tp : List Tk} {M : Mem} {om₀ : Om}
  (H : ∀ om,Ag M.e om₀ om → Fine V s₀ A Q E (back (ih om) κ k₀ r tp M)) (hk : kOk κ) : ∀ s,InvM V s₀ M s → en V.prog V.w A Q E k₀ κ r s := by
 intro s I
 cases κ with
 | nil => exact G _ _ _ _ H trivial s I
 | cons f κ =>
  obtain ⟨c,k⟩ := f
  exact G (.i c κ k₀ (k r)) _ _ _ H (fun f hf => hk f (List.mem_cons_of_mem _ hf)) s I
theorem goto_T {ent : Code → Sem Fin} {ih : Om → Go α} (EO : EntOk V.prog V.w ent) (O : VOk V s₀.heap) (CO : ∀ om,∀ C ∈ V.ctrs om,C.Ok V.base) (XO : ∀ om,∀ C ∈ V.xcs om,C.Ok V.base) (hd : A.depth ≤ V.d₀) (hu : A.units ≤ V.u₀) (hh : A.handled = none) (G : GoodF V s₀ A Q E ih)
  {c' : Code} {κ : List Frm} {k₀ : Result → Sem α} {fin : Om → Result → List Tk → Mem → Option (Out α × Mem)} {tp : List Tk} {M : Mem} {om₀ : Om}
  (fs : ∀ om v tp M a M',fin om v tp M = some (a,M') → sub M M')
  (hfin : ∀ v tp M om₀,(∀ om,Ag M.e om₀ om → Fine V s₀ A Q E (fin om v tp M)) → kOk κ → ∀ s,InvM V s₀ M s → en V.prog V.w A Q E k₀ κ v s)
  (H : ∀ om,Ag M.e om₀ om → Fine V s₀ A Q E (goto (denote table) ent (V.at_ om) (ih om) c' κ k₀ (fin om) tp M)) (hk : kOk κ) :
  ∀ s,InvM V s₀ M s → codeAny (model V.prog V.w) (ar A κ) c' (en V.prog V.w A Q E k₀ κ) s := by
 intro s I
 obtain ⟨x,y,z⟩ := ar_le' (V := V) hd hu hh hk
 have H0 := H om₀ Ag.refl
 cases tp with
 | nil => exact H0.none.elim
 | cons tk tp =>
  have hok : okCode c' = true := by
   obtain ⟨a,M',e0,_⟩ := H0
   exact goto_ok e0
  cases tk with
  | rf r => exact H0.none.elim
  | go =>
   (delta goto at H; dsimp only at H; simp only [hok] at H)
   exact y_code _ _ _ _ _ _ (G (.i c' κ k₀ (denote table c')) _ _ _ H hk s I)
  | ent =>
   cases hb : Nat.ble (V.d₀ + κ.length) 900 with
   | false => (delta goto at H0; dsimp only at H0; simp only [hok,hb] at H0); exact H0.none.elim
   | true =>
    cases hb2 : Nat.ble (V.u₀ + 3 * κ.length) 9000 with
    | false => (delta goto at H0; dsimp only at H0; simp only [hok,hb,hb2] at H0); exact H0.none.elim
    | true =>
     (delta goto at H; dsimp only at H; simp only [hok,hb,hb2] at H)
     refine y_code _ _ _ _ _ _ ?_
     have zz := G (.i c' κ k₀ (ent c')) _ _ _ H hk s I
     have hb := Nat.le_of_ble_eq_true hb
     have hb2 := Nat.le_of_ble_eq_true hb2
     obtain ⟨hw,hun⟩ := okCode_weight hok
     refine RefO.own (EO _ _ ?_ ?_) zz
     ·show (ar A κ).depth + c'.weight < 1000
      lia
     ·show (ar A κ).units + c'.cUnits < 9900
      lia
  | ctr j pre upd =>
   cases hc : ctrStep (V.at_ om₀) j κ.length pre upd c' M with
   | none =>
    (delta goto at H0; dsimp only at H0; simp only [hok,hc] at H0); exact H0.none.elim
   | some p =>
    obtain ⟨v,M1⟩ := p
    (delta goto at H0; dsimp only at H0; simp only [hok,hc] at H0)
    obtain ⟨a,M',e0,g,_⟩ := H0
    have h3 := fs _ _ _ _ _ _ e0
    have he := (ctrStep_sub hc).2
    have O' : VOk (V.at_ om₀) s₀.heap := ⟨O.size,O.nodup,O.low,O.off,O.lit⟩
    have I' : InvM (V.at_ om₀) s₀ M s := ⟨I.toks,⟨I.rep.size,I.rep.top,I.rep.own,I.rep.inj,I.rep.frz,I.rep.old,I.rep.lit,I.rep.keep,I.rep.flat⟩,I.bare,I.os,I.calm⟩
    refine codeAny_mono (ctrStep_sound (V := V.at_ om₀) (M' := M') O' CO hc h3 g _ s x y z I') ?_
    rintro r s' ⟨rfl,J⟩
    (delta goto at H; dsimp only at H)
    refine hfin _ tp M1 om₀ (fun om hag => ?_) hk s' ⟨J.toks,⟨J.rep.size,J.rep.top,J.rep.own,J.rep.inj,J.rep.frz,J.rep.old,J.rep.lit,J.rep.keep,J.rep.flat⟩,J.bare,J.os,J.calm⟩
    rw [he] at hag
    have hh := H om hag
    simp only [hok,ctrStep_at hag,hc] at hh
    exact hh
  | xctr j pre upd =>
   (delta goto at H; dsimp only at H)
   have H' : ∀ om,Ag M.e om₀ om → ∃ v M1,xctrStep (V.at_ om) j κ.length pre upd c' M = some (v,M1) ∧ Fine V s₀ A Q E (fin om v tp M1) ∧ ∃ M',sub M1 M' ∧ good M' := by
    intro om hag
    have h := H om hag
    cases hc : xctrStep (V.at_ om) j κ.length pre upd c' M with
    | none => simp only [hok,hc] at h; exact h.none.elim
    | some p =>
     obtain ⟨v,M1⟩ := p
     simp only [hok,hc] at h
     refine ⟨v,M1,rfl,h,?_⟩
     obtain ⟨a,M',e0,g,_⟩ := h
     exact ⟨M',fs _ _ _ _ _ _ e0,g⟩
   refine codeAny_mono (xctrStep_sound O XO (P := fun om v M1 => Fine V s₀ A Q E (fin om v tp M1)) H' _ s x y z I) ?_
   rintro r s' ⟨om,M1,ag,hall,he,J⟩
   refine hfin _ tp M1 om (fun om' hag => ?_) hk s' J
   rw [he] at hag
   exact hall om' hag
  | stop =>
   (delta goto at H0; dsimp only at H0; simp only [hok] at H0)
   obtain ⟨a,M',e0,g,q⟩ := H0
   simp only [Option.some.injEq,Prod.mk.injEq] at e0
   obtain ⟨rfl,rfl⟩ := e0
   exact q s I
theorem runStep_T {ent : Code → Sem Fin} {ih : Om → Go α} (EO : EntOk V.prog V.w ent) (O : VOk V s₀.heap) (CO : ∀ om,∀ C ∈ V.ctrs om,C.Ok V.base) (XO : ∀ om,∀ C ∈ V.xcs om,C.Ok V.base) (hd : A.depth ≤ V.d₀) (hu : A.units ≤ V.u₀) (hh : A.handled = none) (is : ∀ om cur tp M a M',ih om cur tp M = some (a,M') → sub M M') (G : GoodF V s₀ A Q E ih) :
  GoodF V s₀ A Q E (fun om => runStep (denote table) ent (V.at_ om) (ih om)) := by
 intro cur tp M om₀ H hc s I
 have H0 := H om₀ Ag.refl
 have H : ∀ om,Ag M.e om₀ om → Fine V s₀ A Q E (runStep (denote table) ent (V.at_ om) (ih om) cur tp M) := H
 cases cur with
 | b t =>
  have mem := memT (V := V) (s₀ := s₀) (A := A) (Q := Q) (E := E) (go := fun om t tp M => ih om (.b t) tp M) O (clo_any (V := V.base) (A := A) (Q := Q) (E := E) hh) (fun om t tp M a M' e => is om _ _ _ _ _ e)
   (fun t tp M om₀ H s I => G (.b t) tp M om₀ H trivial s I)
  cases t with
  | pure x =>
   delta runStep at H0
   dsimp only at H0
   obtain ⟨a,M',e0,g,q⟩ := H0
   simp only [Option.some.injEq,Prod.mk.injEq] at e0
   obtain ⟨rfl,rfl⟩ := e0
   exact wpAny_pure (q s I)
  | call c hdm gd l k =>
   cases hdm with
   | some v => (delta runStep at H0; dsimp only at H0); exact H0.none.elim
   | none =>
    delta runStep at H
    dsimp only at H
    refine y_start _ _ _ _ _ _ _ _ _ _ _ _ (by intro x; cases x) ?_
    exact goto_T EO O CO XO hd hu hh G (κ := []) (k₀ := k) (fin := fun om v tp M => ih om (.b (k v)) tp M) (fun om v tp M a M' e => is om (.b (k v)) tp _ _ _ e)
     (fun v tp M om₀ H hk s I => G (.b (k v)) tp M om₀ H trivial s I) H (fun f hf => nomatch hf) s I
  | _ => (delta runStep at H; dsimp only at H; exact mem _ tp M om₀ H s I)
 | i c κ k₀ t =>
  have hk : kOk κ := hc
  have mem := memT (V := V) (s₀ := s₀) (A := A) (Q := Q) (E := E) (go := fun om t tp M => ih om (.i c κ k₀ t) tp M) O (clo_own (V := V.base) (c := c) (Q := postC V.prog V.w (ar A κ) (en V.prog V.w A Q E k₀ κ)) (E := postE (en V.prog V.w A Q E k₀ κ)) (ar_le' (V := V) hd hu hh hk).2.2) (fun om t tp M a M' e => is om _ _ _ _ _ e)
   (fun t tp M om₀ H s I => G (.i c κ k₀ t) tp M om₀ H hk s I)
  cases t with
  | pure fin =>
   cases fin with
   | done f =>
    delta runStep at H
    dsimp only at H
    exact y_pure _ _ _ _ _ _ _ _ _ (y_done _ _ _ _ _ _ (back_T G H hk s I))
   | again c' =>
    (delta runStep at H H0; dsimp only at H H0)
    have hq : c'.quiet = true := by
     refine okCode_quiet ?_
     obtain ⟨a,M',e,_⟩ := H0
     exact goto_ok e
    refine y_pure _ _ _ _ _ _ _ _ _ (y_again _ _ _ _ _ _ hq ?_)
    exact goto_T EO O CO XO hd hu hh G (fin := fun om v tp M => back (ih om) κ k₀ v tp M) (fun om v tp M a M' e => back_sub (is om) e) (fun v tp M om₀ H hk s I => back_T G H hk s I) H hk s I
  | raise x =>
   delta runStep at H
   dsimp only at H
   exact y_raise _ _ _ _ _ _ _ _ _ (y_err _ _ _ (back_T G H hk s I))
  | call c' hdm gd l k =>
   cases hdm with
   | some v => (delta runStep at H0; dsimp only at H0); exact H0.none.elim
   | none =>
    cases hok : okCode c with
    | false => (delta runStep at H0; dsimp only at H0; simp only [hok] at H0); exact H0.none.elim
    | true =>
     (delta runStep at H; dsimp only at H; simp only [hok] at H)
     refine y_call _ _ _ _ _ _ _ _ _ _ _ _ _ (by intro x; cases x) ?_
     refine goto_T EO O CO XO hd hu hh G (κ := (c,k) :: κ) (k₀ := k₀) (fin := fun om v tp M => ih om (.i c κ k₀ (k v)) tp M) (fun om v tp M a M' e => is om (.i c κ k₀ (k v)) tp _ _ _ e) (fun v tp M om₀ H hk s I => G (.i c κ k₀ (k v)) tp M om₀ H (fun f hf => hk f (List.mem_cons_of_mem _ hf)) s I) H ?_ s I
     intro f hf
     rcases List.mem_cons.mp hf with rfl | hf
     ·exact hok
     ·exact hk f hf
  | stack k =>
   (delta runStep at H H0; dsimp only at H H0)
   obtain ⟨a,M',e0,g,_⟩ := H0
   have h1 := is _ _ _ _ _ _ e0
   refine y_stack _ _ _ _ _ _ _ _ _ fun p below _ => ?_
   have eq := Ob.stk.inj (g _ (h1 _ (List.mem_cons_self ..)))
   have eq2 := congrFun (congrFun eq p) below
   have z := G (.i c κ k₀ (k [(c,⟨0,0,0,0⟩)])) tp (M.obs ((.stk (fun p b => k ((c,p) :: b)),.stk (fun _ _ => k [(c,⟨0,0,0,0⟩)])) :: M.ob)) om₀ H hk s (inv_ob I)
   show wpOwn _ _ _ (k ((c,p) :: below)) _ _ _
   rw [eq2]; exact z
  | _ => (delta runStep at H; dsimp only at H; exact mem _ tp M om₀ H s I)
theorem run_T {ent : Code → Sem Fin} (EO : EntOk V.prog V.w ent) (O : VOk V s₀.heap) (CO : ∀ om,∀ C ∈ V.ctrs om,C.Ok V.base) (XO : ∀ om,∀ C ∈ V.xcs om,C.Ok V.base) (hd : A.depth ≤ V.d₀) (hu : A.units ≤ V.u₀) (hh : A.handled = none) :
  ∀ n : Nat,GoodF V s₀ A Q E (fun om => run (denote table) ent (V.at_ om) n)
 | 0 => fun cur tp M om₀ H _ _ _ => (H om₀ Ag.refl).none.elim
 | n + 1 => runStep_T EO O CO XO hd hu hh (fun om => run_sub n) (run_T EO O CO XO hd hu hh n)
end
end Mine.G
end
section
namespace Mine
lay_quick entTree
theorem ent_r : entTree = entTree := rfl
name_quick mineEnt for entTree by ent_r
noncomputable def lkQ (P : Params) (a : Nat) : Option Obj := match Nat.blt a 281 with
 | true => (kt P).get a
 | false => none
noncomputable abbrev prg : Program := PySem.Challenge.pw_ij0103_01
noncomputable def W1 (b : Bool) (w : World) : World := { w with params := { w.params with followText := fun s => match Nat.beq (PySem.code s) 10139888712337904147300001983332972444938612 with | true => b | false => w.params.followText s } }
theorem W1_eq (w : World) : W1 (w.params.followText "special-get-raises") w = w := by
 have e : (fun s => match Nat.beq (PySem.code s) 10139888712337904147300001983332972444938612 with | true => w.params.followText "special-get-raises" | false => w.params.followText s) = w.params.followText := by
  funext s
  cases h : Nat.beq (PySem.code s) 10139888712337904147300001983332972444938612 with
  | false => rfl
  | true =>
   have h1 := Nat.eq_of_beq_eq_true h
   have h2 : PySem.code "special-get-raises" = 10139888712337904147300001983332972444938612 := by decide +kernel
   rw [PySem.code_inj _ _ (h1.trans h2.symm)]
 unfold W1
 rw [e]
theorem w1 {P : World → Prop} {w : World} (h0 : P (W1 false w)) (h1 : P (W1 true w)) : P w := by
 rw [← W1_eq w]
 cases w.params.followText _ with
 | false => exact h0
 | true => exact h1
noncomputable abbrev Tk := G.Tk
noncomputable def vw (w : World) (n t : Nat) (L : List Nat) (cs : List Ctr) (d u : Nat) : Vw := { prog := prg,w := w,lk := lkQ w.params,n := n,L := L,t₀ := t,d₀ := d,u₀ := u,ctrs := cs }
noncomputable def toG (V : Vw) : G.Vw := { prog := V.prog,w := V.w,lk := V.lk,n := V.n,L := V.L,t₀ := V.t₀,d₀ := V.d₀,u₀ := V.u₀,ctrs := fun _ => V.ctrs,xcs := fun _ => [],om := fun _ _ => 0 }
noncomputable def mem0 (V : Vw) (U : List Obj) : G.Mem := { T := .nil,k := 0,b := V.n,m := 0,tb := V.t₀,i := 0,U := U,fz := [],e := 0,ob := [] }
noncomputable abbrev RunO := Option (Out Result × G.Mem)
noncomputable abbrev RunR := G.Om → RunO
noncomputable def runC (V : Vw) (n : Nat) (c : Code) (ent : Bool) (tp : List Tk) (U : List Obj) : RunR := fun om =>
 G.run dq PySem.W.Fast.mineEnt ((toG V).at_ om) n (.i c [] Sem.pure (match ent with | true => PySem.W.Fast.mineEnt c | false => dq c)) tp (mem0 V U)
inductive Vl where
 | fin (r : Result)
 | tail (c : Code) (k : Result → Sem Result)
 | other
structure Rslt where
 val : Vl
 m : Nat
 i : Nat
 T : List (Option Obj)
 U : List Obj
noncomputable def vlOf : Out Result → Vl
 | .fin r => .fin r
 | .at_ c κ k => match κ with
  | [] => .tail c k
  | _ => .other
noncomputable def seeL (ks : List Nat) : RunO → Option (Rslt × List Ob)
 | none => none
 | some (a,M) => match M.e with
  | 0 => some (⟨vlOf a,M.m,M.i,ks.map fun k => (M.T.get k).map (·.2),M.U⟩,M.ob.map (·.1))
  | _ => none
noncomputable def seeR : RunO → List Ob
 | none => []
 | some (_,M) => M.ob.map (·.2)
noncomputable abbrev l : Tk := .rf .lit
noncomputable abbrev o (j : Nat) : Tk := .rf (.own j)
noncomputable abbrev d (i : Nat) : Tk := .rf (.old i)
noncomputable def chk (ks : List Nat) (R : RunR) (x : Rslt) : Prop := ∀ om,seeL ks (R om) = some (x,seeR (R om))
theorem entQ_eq : entTree = PySem.W.Fast.mineEnt := PySem.W.Fast.mineEnt_eq
theorem good_of {M : G.Mem} (h : M.ob.map (·.1) = M.ob.map (·.2)) : G.good M := by
 have key : ∀ l : List (Ob × Ob),l.map (·.1) = l.map (·.2) → ∀ p ∈ l,p.1 = p.2 := by
  intro l
  induction l with
  | nil => intro _ p hp; cases hp
  | cons x l ih =>
   intro h p hp
   simp only [List.map_cons,List.cons.injEq] at h
   rcases List.mem_cons.mp hp with rfl | hp
   ·exact h.1
   ·exact ih h.2 p hp
 exact key _ h
structure Behind (s s' : Shared) (n t : Nat) (L : List Nat) (ks : List Nat) (x : Rslt) : Prop where
 size : s'.heap.objs.size = n + x.m
 toks : s'.toks = t + x.i
 own : ∀ (i k : Nat) (o : Obj),ks[i]? = some k → x.T[i]? = some (some o) → k < x.m ∧ s'.heap.get? (n + k) = some o
 old : ∀ (i : Nat) a o,L[i]? = some a → x.U[i]? = some o → s'.heap.get? a = some o
 keep : ∀ b o,s.heap.get? b = some o → b ∉ L → s'.heap.get? b = some o
 bare : AllBare s.gens → AllBare s'.gens
 os : s'.os = s.os
theorem lkQ_low {P : Params} {a : Nat} (h : 281 ≤ a) : lkQ P a = none := by
 unfold lkQ
 have : Nat.blt a 281 = false := by
  cases e : Nat.blt a 281 with
  | false => rfl
  | true => have := Nat.le_of_ble_eq_true e; lia
 rw [this]
section
variable {w : World} {n t : Nat} {L : List Nat} {cs : List Ctr} {dm um : Nat} {U : List Obj} {s : Shared}
structure Start (w : World) (n t : Nat) (L : List Nat) (U : List Obj) (s : Shared) : Prop where
 size : s.heap.objs.size = n
 toks : s.toks = t
 nodup : L.Nodup
 off : ∀ a ∈ L,lkQ w.params a = none
 old : ∀ (i : Nat) a o,L[i]? = some a → U[i]? = some o → s.heap.get? a = some o
 len : U.length = L.length
 lit : ∀ a o,lkQ w.params a = some o → s.heap.get? a = some o
theorem Start.ok (S : Start w n t L U s) : G.VOk (toG (vw w n t L cs dm um)) s.heap :=
 ⟨S.size,S.nodup,fun (a : Nat) (ha : a ∈ L) => by
  obtain ⟨i,hi,e⟩ := List.getElem_of_mem ha
  have h1 : L[i]? = some a := by rw [List.getElem?_eq_getElem hi,e]
  have h2 : i < U.length := by rw [S.len]; exact hi
  have := Heap.lt_size (S.old i a _ h1 (List.getElem?_eq_getElem h2))
  have hz := S.size
  show a < n
  have this : @LT.lt Nat _ a s.heap.objs.size := this
  lia,S.off,S.lit⟩
theorem Start.inv (S : Start w n t L U s) : G.InvM (toG (vw w n t L cs dm um)) s (mem0 (vw w n t L cs dm um) U) s :=
 ⟨S.toks,⟨S.size,Nat.le_add_right ..,(fun j a o e => by cases e),(fun j j' a o o' e => by cases e),(fun a o e => by cases e),S.old,S.lit,fun b o h _ => h,fun _ => ⟨rfl,rfl,rfl,fun j a o e => by cases e⟩⟩,id,rfl,fun _ _ => ⟨rfl,rfl⟩⟩
structure Seen (ks : List Nat) (M : G.Mem) (x : Rslt) : Prop where
 e : M.e = 0
 m : M.m = x.m
 i : M.i = x.i
 T : (ks.map fun k => (M.T.get k).map (·.2)) = x.T
 U : M.U = x.U
theorem behind_of {ks : List Nat} {x : Rslt} {M : G.Mem} {s' : Shared} (I : G.InvM (toG (vw w n t L cs dm um)) s M s') (H : Seen ks M x) : Behind s s' n t L ks x := by
 have R := I.rep
 obtain ⟨f1,f2,_,f4⟩ := R.flat H.e
 have f1 : M.b = n := f1
 have f2 : M.tb = t := f2
 refine ⟨by rw [← H.m,← f1]; exact R.size,by rw [← H.i,← f2]; exact I.toks,fun i k o hk ho => ?_,fun i a o ha ho => R.old i a o ha (by rw [H.U]; exact ho),R.keep,I.bare,I.os⟩
 rw [← H.T,List.getElem?_map,hk] at ho
 have ho : (M.T.get k).map (·.2) = some o := by simpa using ho
 obtain ⟨p,hp,rfl⟩ := Option.map_eq_some_iff.mp ho
 obtain ⟨_,_,y,z⟩ := R.own k p.1 p.2 hp
 have f : p.1 = n + k := f4 k p.1 p.2 hp
 rw [f] at y z
 exact ⟨by rw [← H.m]; lia,z⟩
theorem see_elim {ks : List Nat} {R : RunO} {x : Rslt} (h : seeL ks R = some (x,seeR R)) : ∃ a M,R = some (a,M) ∧ x.val = vlOf a ∧ Seen ks M x ∧ G.good M := by
 cases R with
 | none => cases h
 | some r =>
  obtain ⟨a,M⟩ := r
  simp only [seeL,seeR] at h
  split at h
  ·rename_i he
   simp only [Option.some.injEq,Prod.mk.injEq] at h
   obtain ⟨rfl,hob⟩ := h
   exact ⟨a,M,rfl,rfl,⟨he,rfl,rfl,rfl,rfl⟩,good_of hob⟩
  ·cases h
theorem ent_ok {w : World} : G.EntOk prg w entTree := fun _ _ hd _ => RefO.ent hd
section
variable {A : Around} {Q : Result → Shared → Prop} {E : Value → Shared → Prop}
theorem from_code {c : Code} {ent : Bool} {N : Nat} {tp : List Tk} (S : Start w n t L U s) (CO : ∀ C ∈ cs,C.Ok (vw w n t L cs dm um)) (hd : A.depth ≤ dm) (hu : A.units ≤ um) (hh : A.handled = none) (hok : okCode c = true) (hdm : dm ≤ 900)
  (h : ∀ om,∃ a M,runC (vw w n t L cs dm um) N c ent tp U om = some (a,M) ∧ G.good M ∧ ∀ s',G.InvM (toG (vw w n t L cs dm um)) s M s' → OutOk prg w A Q E a s') : codeAny (model prg w) A c (fun r s' => wpAny (model prg w) A (Sem.pure r) Q E s') s := by
 have key : ∀ t0,(∀ om,∃ a M,G.run (denote table) entTree ((toG (vw w n t L cs dm um)).at_ om) N (.i c [] Sem.pure t0) tp (mem0 (vw w n t L cs dm um) U) = some (a,M) ∧ G.good M ∧ ∀ s',G.InvM (toG (vw w n t L cs dm um)) s M s' → OutOk prg w A Q E a s') → MeansC prg w A Q E (.i c [] Sem.pure t0) s := by
  intro t0 ht
  exact G.run_T (V := toG (vw w n t L cs dm um)) (Q := Q) (E := E) (A := A) ent_ok S.ok (fun _ => CO) (fun _ => an) hd hu hh N (.i c [] Sem.pure t0) tp _ (fun _ _ => 0) (fun om _ => ht om) (show kOk [] from fun f hf => by cases hf) s S.inv
 have get : ∀ om,∃ a M,G.run (denote table) entTree ((toG (vw w n t L cs dm um)).at_ om) N (.i c [] Sem.pure (match ent with | true => entTree c | false => denote table c)) tp (mem0 (vw w n t L cs dm um) U) = some (a,M) ∧ G.good M ∧ ∀ s',G.InvM (toG (vw w n t L cs dm um)) s M s' → OutOk prg w A Q E a s' := by
  intro om
  obtain ⟨a,M,hR,g⟩ := h om
  refine ⟨a,M,?_,g⟩
  rw [dq_eq,entQ_eq]
  exact hR
 cases ent with
 | false => exact y_code _ _ _ _ _ _ (key _ get)
 | true =>
  refine y_code _ _ _ _ _ _ (RefO.own (RefO.ent ?_) (key _ get))
  have := (okCode_weight hok).1
  show A.depth + c.weight < 1000
  lia
end
theorem run_code {A : Around} {c : Code} {ent : Bool} {N : Nat} {tp : List Tk} {ks : List Nat} {x : Rslt} {Q : Result → Shared → Prop} (S : Start w n t L U s) (CO : ∀ C ∈ cs,C.Ok (vw w n t L cs dm um))
  (hd : A.depth ≤ dm) (hu : A.units ≤ um) (hh : A.handled = none) (hok : okCode c = true) (hdm : dm ≤ 900) (h : chk ks (runC (vw w n t L cs dm um) N c ent tp U) x)
  (q : ∀ s',Behind s s' n t L ks x → match x.val with | .fin r => Q r s' | .tail c' k => k = Sem.pure ∧ codeAny (model prg w) A c' Q s' | .other => False) : codeAny (model prg w) A c Q s := by
 refine codeAny_pure (E := fun _ _ => False) (from_code (N := N) (tp := tp) (ent := ent) S CO hd hu hh hok hdm fun om => ?_)
 obtain ⟨a,M,hR,hv,H,g⟩ := see_elim (h om)
 refine ⟨a,M,hR,g,fun s' I => ?_⟩
 have z := q s' (behind_of I H)
 rw [hv] at z
 cases a with
 | fin r => exact z
 | at_ c' κ k₀ =>
  cases κ with
  | nil =>
   simp only [vlOf] at z
   obtain ⟨rfl,z⟩ := z
   exact codeAny_mono z fun r s'' h => wpAny_pure h
  | cons f κ => exact z.elim
end
noncomputable abbrev CtrOk (w : World) (C : Ctr) : Prop := C.Ok (vw w 0 0 [] [] 0 0)
noncomputable def mkC (code : Code) (L : List Nat) (U : List Obj) (val : Nat → Nat → Value) (U' : Nat → Nat → List Obj) (ks : List Nat) (T : Nat → Nat → List Obj) (grow toks dm um : Nat) : Ctr :=
 {code := code,pre := L.zip U,val := val,upd := fun n t => L.zip (U' n t),news := fun n t => ks.zip (T n t),grow := grow,toks := toks,dm := dm,um := um }
theorem start_of {w : World} {L : List Nat} {U : List Obj} {s : Shared} (hL : L.Nodup) (hoff : ∀ a ∈ L,lkQ w.params a = none) (hlen : U.length = L.length)
  (hl : ∀ a o,lkQ w.params a = some o → s.heap.get? a = some o) (hp : ∀ p ∈ L.zip U,s.heap.get? p.1 = some p.2) : Start w s.heap.objs.size s.toks L U s :=
 ⟨rfl,rfl,hL,hoff,fun i a o ha ho => hp (a,o) (List.mem_of_getElem? (i := i) (by rw [List.getElem?_zip_eq_some]; exact ⟨ha,ho⟩)),hlen,hl⟩
theorem mk_ok {w : World} {code : Code} {L : List Nat} {U : List Obj} {val : Nat → Nat → Value} {U' : Nat → Nat → List Obj} {ks : List Nat} {T : Nat → Nat → List Obj} {grow toks dm um N : Nat} {ent : Bool} {tp : List Tk} {cs : Nat → Nat → List Ctr}
  (hL : L.Nodup) (hoff : ∀ a ∈ L,lkQ w.params a = none) (hlen : U.length = L.length) (hlen' : ∀ n t,(U' n t).length = L.length) (hok : okCode code = true) (hdm : dm ≤ 900)
  (CO : ∀ n t,(∀ a ∈ L,(a : Nat) < n) → ∀ C ∈ cs n t,CtrOk w C)
  (h : ∀ b n t,chk ks (runC (vw (W1 b w) n t L (cs n t) dm um) N code ent tp U) ⟨.fin (.ok (.ret (val n t))),grow,toks,(T n t).map some,U' n t⟩) :
  CtrOk w (mkC code L U val U' ks T grow toks dm um) := by
 intro A s hd hu hh hl hp
 have S : Start w s.heap.objs.size s.toks L U s := start_of hL hoff hlen hl hp
 have h1 := h (w.params.followText "special-get-raises") s.heap.objs.size s.toks
 rw [W1_eq] at h1
 refine run_code S (fun C hC => CO _ _ (S.ok (cs := []) (dm := 0) (um := 0)).low C hC) hd hu hh hok hdm h1 fun s' B => ?_
 refine ⟨rfl,B.size,B.toks,?_,?_,?_,B.bare,B.os⟩
 ·intro p hp
  obtain ⟨i,hi⟩ := List.getElem?_of_mem hp
  obtain ⟨h1,h2⟩ := List.getElem?_zip_eq_some.mp hi
  exact B.old i p.1 p.2 h1 h2
 ·intro p hp
  obtain ⟨i,hi⟩ := List.getElem?_of_mem hp
  obtain ⟨h1,h2⟩ := List.getElem?_zip_eq_some.mp hi
  exact (B.own i p.1 p.2 h1 (by rw [List.getElem?_map,h2]; rfl)).2
 ·intro b o hb hn
  refine B.keep b o hb fun hm => ?_
  obtain ⟨i,hi,e⟩ := List.getElem_of_mem hm
  have hi2 : i < (U' s.heap.objs.size s.toks).length := by rw [hlen']; exact hi
  refine hn (b,(U' s.heap.objs.size s.toks)[i]) (List.mem_of_getElem? (i := i) ?_) rfl
  show (L.zip (U' s.heap.objs.size s.toks))[i]? = _
  rw [List.getElem?_zip_eq_some]
  exact ⟨by rw [List.getElem?_eq_getElem hi,e],List.getElem?_eq_getElem hi2⟩
end Mine
end
section
namespace Mine
noncomputable def cat (a b : List Tk) : List Tk := List.append a b
noncomputable def tq0 : List Tk := [d 1,.go,d 1,(.ctr 0 [.old 1,.old 2] [.old 1]),d 0,d 0,d 0,.go,(.ctr 1 [] []),d 0,d 0,d 0,.go,.go]
noncomputable def tq1 : List Tk := [d 0,d 0,d 3,d 3,d 3,.go,d 3,(.ctr 2 [.old 3] [])]
noncomputable def tq2 : List Tk := [d 0,d 0,d 4,d 4,d 4,.go,d 4,(.ctr 4 [.old 4] [])]
noncomputable def tq3 : List Tk := [d 0,d 0,d 4,d 4,.go,d 4,(.ctr 6 [.old 4] [.old 4]),.stop]
noncomputable def tq4 : List Tk := cat tq0 (cat [l] (cat tq1 (cat [d 0,l,(.ctr 3 [.old 5,.old 6] [.old 5,.old 6])] (cat tq2 (cat [d 0,d 7,o 14,d 7,.go,d 7,(.ctr 5 [.old 7,.own 14] [])] tq3)))))
end Mine
end
section
open PySem PySem.W PySem.W.X PySem.W.ZRun PyProof.Rows
namespace Mine
noncomputable def lawLoose : List Str := [s [95,119,97,108,108],s [69,77,80,84,89,83,84,82,73,78,71],s [95,65,99,99,117,109,117,108,97,116,111,114],s [95,103,116,95,102,114,111,109,95,108,116],s [95,108,101,95,102,114,111,109,95,108,116],s [95,103,101,95,102,114,111,109,95,108,116],s [95,103,101,95,102,114,111,109,95,108,101],s [95,108,116,95,102,114,111,109,95,108,101],s [95,103,116,95,102,114,111,109,95,108,101],s [95,108,116,95,102,114,111,109,95,103,116],s [95,103,101,95,102,114,111,109,95,103,116],s [95,108,101,95,102,114,111,109,95,103,116],s [95,108,101,95,102,114,111,109,95,103,101],s [95,103,116,95,102,114,111,109,95,103,101],s [95,108,116,95,102,114,111,109,95,103,101],s [99,109,112,95,116,111,95,107,101,121],s [95,105,110,105,116,105,97,108,95,109,105,115,115,105,110,103],s [114,101,100,117,99,101],s [95,108,97,119,95,116,97,98,108,101],s [95,108,97,119,95,112,117,115,104],s [95,108,97,119,95,100,101,101,100,115],s [95,108,97,119,95,115,105,103,110],s [95,108,97,119,95,116,119,101,108,118,101],s [95,108,97,119,95,112,108,97,99,101],s [95,108,97,119,95,108,111,111,107],s [95,108,97,119,95,100,117,101],s [95,108,97,119,95,98,101,103,117,110],s [95,108,97,119,95,97,108,108,95,116,119,101,108,118,101],s [95,108,97,119,95,111,114,100,101,114]]
noncomputable def tb0 : Obj := { cls := .none,data := .fields #[] }
noncomputable def lawAs : List Addr := [0,1,2,3,4,5,6,7,8,9,10,11,12,13,14,15,16,17,18,20,21,22,25,30,31,32,33,34,35,37,38,39,40,41,42,44,45,46,47,48,49,50,52,53,54,55,56,57,58,60,61,62,63,64,65,67,68,69,70,71,72,74,75,76,77,78,79,80,82,83,84,85,86,87,89,90,91,92,93,94,95,97,98,99,100,101,102,103,106,107,108,109,111,112,113,114,115,116,118,119,120,121,122,123,125,126,127,128,129,130,132,133,134,135,136,137,139,140,141,142,143,144,146,147,148,149,150,151,153,154,155,156,157,158,160,161,162,163,164,165,167,168,169,170,171,172,174,175,176,177,178,179,181,182,183,184,185,186,188,189,190,191,192,193,195,196,197,198,199,200,201,202,204,205,206,207,208,209,211,212,213,214,215,216,218,219,220,221,222,223,225,226,227,228,229,230,232,233,234,235,236,237,239,240,241,242,244,245,246,247,249,250,251,252,254,255,256,257,258,259,261,262,263,264,265,266,268,269,270,271,273,274,275,276,278,279]
noncomputable def lawK (P : Params) : Frag := lawAs.map fun a => (a,match kt P |>.get a with | some o => o | none => tb0)
noncomputable def probeP (p : Program) (w : World) := (openEnds treeTable p w 2916).map fun s => (openSeen (view p [32]) lawLoose (importedModules p.main.body) (fun s => recOk [] s) true s,obsZ lawAs s)
noncomputable def goodP (p : Program) := openGood (view p [32]) lawLoose
noncomputable def lawQ : Program := view PySem.Challenge.pw_ij0103_01 [32]
noncomputable def probe (w : World) := probeP PySem.Challenge.pw_ij0103_01 w
noncomputable def want (w : World) := some (goodP PySem.Challenge.pw_ij0103_01,valZ lawK 280 534 w)
lay_quick probeP goodP
theorem probe_r : probeP = probeP := rfl
theorem good_r : goodP = goodP := rfl
name_quick mineProbe for probeP by probe_r
name_quick mineGood for goodP by good_r
theorem left : ∀ w,PySem.W.Fast.mineProbe progG w = some (PySem.W.Fast.mineGood progG,valZ lawK 280 534 w) := by intro w; kernel_rfl
end Mine
end
section
namespace Mine.G
section
variable {α β : Type} {M : Model} {A : Around} {c : Code}
theorem Ref.room (hu : A.units < cLine) {w : String} {vs : List Value} : Ref M A (pure ()) (cRoomFor w vs) := by
 intro Γ hΓ Q E p s h
 unfold cRoomFor
 split
 ·unfold cRoom
  show Sem.wp M Γ (if ((((Γ.code,p) :: Γ.below).map (·.1.cUnits)).sum ≥ cLine) then _ else _) _ _ p s
  rw [if_neg]
  ·exact h
  ·have := hΓ.2.2.2.2
   have e : (((Γ.code,p) :: Γ.below).map (·.1.cUnits)).sum ≤ A.units := this
   lia
 ·exact h
theorem Ref.holding {vs : List Value} {m' m : Sem α} (h : Ref M A m' m) : Ref M A (PySem.holding vs m') (PySem.holding vs m) := by
 intro Γ hΓ Q E p s x
 rw [Sem.wp_holding] at x ⊢
 exact h Γ hΓ _ _ _ _ x
theorem Ref.operate {vs : List Value} {m' m : Sem Value} (h : Ref M A m' m) : Ref M A (PySem.operate vs m') (PySem.operate vs m) := Ref.bind (Ref.holding h) fun _ => Ref.refl _
theorem Ref.onRaise {m' m : Sem α} {g : Value → Sem Unit} (h : Ref M A m' m) : Ref M A (m'.onRaise g) (m.onRaise g) := by
 intro Γ hΓ Q E p s x
 rw [Sem.wp_onRaise] at x ⊢
 exact h Γ hΓ _ _ _ _ x
noncomputable def cmpF (op : CmpOp) (a b : Value) : Sem Unit → Sem Value := by
 refine kst (@Sem.bind = @Sem.bind) ((?k : (F : Sem Unit → Sem Value) → F (cRoomFor "comparison" [a,b]) = richCompare op a b → Sem Unit → Sem Value) ?F ?h) bind_refl
 case k => exact fun F _ => F
 case h =>
  delta richCompare
  generalize cRoomFor "comparison" [a,b] = X
  exact rfl
noncomputable def richN (op : CmpOp) (a b : Value) : Sem Value := cmpF op a b (pure ())
theorem Ref.rich (hu : A.units < cLine) {op : CmpOp} {a b : Value} : Ref M A (richN op a b) (richCompare op a b) := by
 rw [show richCompare op a b = cmpF op a b (cRoomFor "comparison" [a,b]) from rfl]
 delta richN cmpF kst
 dsimp only
 exact Ref.holding (Ref.bind (Ref.room hu) fun _ => Ref.refl _)
noncomputable def compareN (op : CmpOp) (a b : Value) : Sem Value := match op with
 | .Is => compareOp .Is a b
 | .IsNot => compareOp .IsNot a b
 | .In => compareOp .In a b
 | .NotIn => compareOp .NotIn a b
 | op => richN op a b
theorem Ref.cmp (hu : A.units < cLine) {op : CmpOp} {a b : Value} : Ref M A (compareN op a b) (compareOp op a b) := by
 cases op <;> first | exact Ref.refl _ | exact Ref.rich hu
noncomputable def ev1 (e : Expr) (env : Env) : Sem Value := match e with
 | .Compare left [op] [r] pos => do
  let l ← eval left env
  let rv ← PySem.holding [l] (markedBehindIn op r (eval r env))
  standAt pos
  PySem.operate [l,rv] (compareN op l rv)
 | e => evN e env
theorem RefO.ev1N {body : List Stmt} {env env' : Env} {e : Expr} (h : G.ev1 e env' = evN e env') : RefO M A (.func body env) (G.ev1 e env') (eval e env') := by
 rw [h]; exact RefO.ev
theorem RefO.ev1 (hu : A.units < cLine) {body : List Stmt} {env env' : Env} {e : Expr} : RefO M A (.func body env) (ev1 e env') (eval e env') := by
 cases e
 case Compare left ops rs pos =>
  rcases ops with _ | ⟨op,_ | ⟨op2,ops⟩⟩
  case cons.nil =>
   rcases rs with _ | ⟨r,_ | ⟨r2,rs⟩⟩
   case cons.nil =>
    have e : eval (.Compare left [op] [r] pos) env' = (do
      let l ← eval left env'
      let rv ← PySem.holding [l] (markedBehindIn op r (eval r env'))
      standAt pos
      PySem.operate [l,rv] (compareOp op l rv)) := arm_eval_Compare ..
    rw [e]
    exact Ref.toO (Ref.bind (Ref.refl _) fun _ => Ref.bind (Ref.refl _) fun _ => Ref.bind (Ref.refl _) fun _ => Ref.operate (Ref.cmp hu))
   all_goals exact RefO.ev1N rfl
  all_goals exact RefO.ev1N rfl
 all_goals exact RefO.ev1N rfl
noncomputable def ev2 (e : Expr) (env : Env) : Sem Value := match e with
 | .BoolOp op [a,b] pos => do
  let v ← ev1 a env
  standAt pos
  let t ← PySem.holding [v] (truthy v)
  match op,t with
  | .And,false => pure v
  | .Or,true => pure v
  | _,_ => ev1 b env
 | e => ev1 e env
theorem RefO.ev2N (hu : A.units < cLine) {body : List Stmt} {env env' : Env} {e : Expr} (h : G.ev2 e env' = G.ev1 e env') : RefO M A (.func body env) (G.ev2 e env') (eval e env') := by
 rw [h]; exact RefO.ev1 hu
theorem RefO.ev2 (hu : A.units < cLine) {body : List Stmt} {env env' : Env} {e : Expr} : RefO M A (.func body env) (ev2 e env') (eval e env') := by
 cases e
 case BoolOp op vs pos =>
  rcases vs with _ | ⟨a,_ | ⟨b,_ | ⟨b2,vs⟩⟩⟩
  case cons.cons.nil =>
   have e : eval (.BoolOp op [a,b] pos) env' = (do
     let v ← eval a env'
     standAt pos
     let t ← PySem.holding [v] (truthy v)
     match op,t with
     | .And,false => pure v
     | .Or,true => pure v
     | _,_ => eval b env') := by
    show boolOp pos op [eval a env',eval b env'] = _
    refine congrArg (Sem.bind _) (funext fun v => ?_)
    refine congrArg (Sem.bind _) (funext fun _ => ?_)
    refine congrArg (Sem.bind _) (funext fun t => ?_)
    cases op <;> cases t <;> rfl
   rw [e]
   refine RefO.bind (RefO.ev1 hu) fun v => RefO.bind (RefO.refl _) fun _ => RefO.bind (RefO.refl _) fun t => ?_
   cases op <;> cases t <;> first | exact RefO.refl _ | exact RefO.ev1 hu
  all_goals exact RefO.ev2N hu rfl
 all_goals exact RefO.ev2N hu rfl
noncomputable def exec2 (st : Stmt) (env : Env) : Sem Flow := match st with
 | .Return (some e) pos => do
  standAt pos
  let v ← ev2 e env
  return .ret v
 | st => execN st env
theorem RefO.exec2N {body : List Stmt} {env env' : Env} {st : Stmt} (h : G.exec2 st env' = execN st env') : RefO M A (.func body env) (G.exec2 st env') (exec st env') := by
 rw [h]; exact RefO.exec
theorem RefO.exec2 (hu : A.units < cLine) {body : List Stmt} {env env' : Env} {st : Stmt} : RefO M A (.func body env) (exec2 st env') (exec st env') := by
 cases st
 case Return v pos =>
  cases v
  case none => exact RefO.exec2N rfl
  exact RefO.bind (RefO.refl _) fun _ => RefO.bind (RefO.ev2 hu) fun _ => RefO.refl _
 all_goals exact RefO.exec2N rfl
noncomputable def execs2 : List Stmt → Env → Sem Flow
 | [],_ => pure .next
 | s :: rest,env => do
  let f ← exec2 s env
  match f with
  | .next => execs2 rest env
  | f => pure f
theorem RefO.execs2 (hu : A.units < cLine) {body : List Stmt} {env env' : Env} : ∀ {b : List Stmt},RefO M A (.func body env) (execs2 b env') (execs b env')
 | [] => RefO.refl _
 | s :: rest => RefO.bind (RefO.exec2 hu) fun f => by
  cases f with
  | next => exact RefO.execs2 hu
  | _ => exact RefO.refl _
end
end Mine.G
end
section
namespace Mine.G
noncomputable def ent1 : Code → Sem Fin
 | .func body env => do
  point
  let f ← (execs2 body env).onRaise (leaving env)
  match f with
  | .ret v => ret v
  | _ => ret .none
 | c => entTree c
theorem ent1_ok {w : World} : EntOk prg w ent1 := by
 intro A c hd hu
 cases c with
 | func body env => exact RefO.bind (RefO.refl _) fun _ => RefO.bind (RefO.onRaise (RefO.execs2 hu)) fun f => RefO.refl _
 | _ => exact RefO.ent hd
lay_quick ent1
theorem ent1_r : ent1 = ent1 := rfl
name_quick mineEnt1 for ent1 by ent1_r
theorem entQ1_eq : ent1 = PySem.W.Fast.mineEnt1 := PySem.W.Fast.mineEnt1_eq
noncomputable def vw (w : World) (n t : Nat) (L : List Nat) (cs : Om → List Ctr) (xs : Om → List XC) (om : Om) (d u : Nat) : Vw := { prog := prg,w := w,lk := lkQ w.params,n := n,L := L,t₀ := t,d₀ := d,u₀ := u,ctrs := cs,xcs := xs,om := om }
noncomputable def mem0 (V : Vw) (U : List Obj) : Mem := { T := .nil,k := 0,b := V.n,m := 0,tb := V.t₀,i := 0,U := U,fz := [],e := 0,ob := [] }
noncomputable abbrev RunR := Option (Out Result × Mem)
noncomputable def runC (entQ : Code → Sem Fin) (V : Vw) (n : Nat) (c : Code) (ent : Bool) (tp : List Tk) (U : List Obj) : RunR :=
 run dq entQ V n (.i c [] Sem.pure (match ent with | true => entQ c | false => dq c)) tp (mem0 V U)
noncomputable abbrev l : Tk := .rf .lit
noncomputable abbrev o (j : Nat) : Tk := .rf (.own j)
noncomputable abbrev d (i : Nat) : Tk := .rf (.old i)
noncomputable abbrev z (i : Nat) : Tk := .rf (.frz i)
structure Rslt where
 val : Vl
 b : Nat
 m : Nat
 tb : Nat
 i : Nat
 T : List (Option (Nat × Obj))
 U : List Obj
 fz : List (Nat × Obj)
noncomputable def seeL (ks : List Nat) : RunR → Option (Rslt × List Ob)
 | none => none
 | some (a,M) => some (⟨vlOf a,M.b,M.m,M.tb,M.i,ks.map M.T.get,M.U,M.fz⟩,M.ob.map (·.1))
noncomputable def seeR : RunR → List Ob
 | none => []
 | some (_,M) => M.ob.map (·.2)
noncomputable def chk (ks : List Nat) (R : RunR) (x : Rslt) : Prop := seeL ks R = some (x,seeR R)
theorem good_of {M : Mem} (h : M.ob.map (·.1) = M.ob.map (·.2)) : good M := by
 have key : ∀ l : List (Ob × Ob),l.map (·.1) = l.map (·.2) → ∀ p ∈ l,p.1 = p.2 := by
  intro l
  induction l with
  | nil => intro _ p hp; cases hp
  | cons x l ih =>
   intro h p hp
   simp only [List.map_cons,List.cons.injEq] at h
   rcases List.mem_cons.mp hp with rfl | hp
   ·exact h.1
   ·exact ih h.2 p hp
 exact key _ h
theorem chk_elim {ks : List Nat} {R : RunR} {x : Rslt} (h : chk ks R x) : ∃ a M,R = some (a,M) ∧ x.val = vlOf a ∧ M.b = x.b ∧ M.m = x.m ∧ M.tb = x.tb ∧ M.i = x.i ∧ ks.map M.T.get = x.T ∧ M.U = x.U ∧ M.fz = x.fz ∧ good M := by
 unfold chk at h
 cases R with
 | none => cases h
 | some r =>
  obtain ⟨a,M⟩ := r
  simp only [seeL,seeR,Option.some.injEq,Prod.mk.injEq] at h
  obtain ⟨hx,hob⟩ := h
  subst hx
  exact ⟨a,M,rfl,rfl,rfl,rfl,rfl,rfl,rfl,rfl,rfl,good_of hob⟩
structure Behind (s s' : Shared) (L : List Nat) (x : Rslt) : Prop where
 size : s'.heap.objs.size = x.b + x.m
 toks : s'.toks = x.tb + x.i
 grow : s.heap.objs.size ≤ s'.heap.objs.size
 own : ∀ (i a : Nat) (o : Obj),x.T[i]? = some (some (a,o)) → s.heap.objs.size ≤ a ∧ s'.heap.get? a = some o
 frz : ∀ (a : Nat) o,(a,o) ∈ x.fz → s.heap.objs.size ≤ a ∧ s'.heap.get? a = some o
 old : ∀ (i : Nat) a o,L[i]? = some a → x.U[i]? = some o → s'.heap.get? a = some o
 keep : ∀ b o,s.heap.get? b = some o → b ∉ L → s'.heap.get? b = some o
 bare : AllBare s.gens → AllBare s'.gens
 os : s'.os = s.os
noncomputable def OutV (w : World) (A : Around) (Q : Result → Shared → Prop) (E : Value → Shared → Prop) (x : Vl) (s' : Shared) : Prop := match x with
 | .fin r => Q r s'
 | .tail c' k => k = Sem.pure ∧ codeAny (model prg w) A c' (fun r s' => wpAny (model prg w) A (Sem.pure r) Q E s') s'
 | .other => False
theorem outV_ok {w : World} {A : Around} {Q : Result → Shared → Prop} {E : Value → Shared → Prop} {a : Out Result} {s' : Shared} (h : OutV w A Q E (vlOf a) s') : OutOk prg w A Q E a s' := by
 cases a with
 | fin r => exact h
 | at_ c κ k₀ =>
  cases κ with
  | nil =>
   obtain ⟨rfl,z⟩ := h
   exact z
  | cons f κ => exact h.elim
section
variable {w : World} {n t : Nat} {L : List Nat} {cs : Om → List Ctr} {xs : Om → List XC} {om : Om} {dm um : Nat} {U : List Obj} {s : Shared} {A : Around} {Q : Result → Shared → Prop} {E : Value → Shared → Prop}
theorem Start.ok (S : Start w n t L U s) : VOk (vw w n t L cs xs om dm um) s.heap :=
 ⟨S.size,S.nodup,fun (a : Nat) (ha : a ∈ L) => by
  obtain ⟨i,hi,e⟩ := List.getElem_of_mem ha
  have h1 : L[i]? = some a := by rw [List.getElem?_eq_getElem hi,e]
  have h2 : i < U.length := by rw [S.len]; exact hi
  have := Heap.lt_size (S.old i a _ h1 (List.getElem?_eq_getElem h2))
  have hz := S.size
  show a < n
  have this : @LT.lt Nat _ a s.heap.objs.size := this
  lia,S.off,S.lit⟩
theorem Start.inv (S : Start w n t L U s) : InvM (vw w n t L cs xs om dm um) s (mem0 (vw w n t L cs xs om dm um) U) s :=
 ⟨S.toks,⟨S.size,Nat.le_add_right ..,(fun j a o e => by cases e),(fun j j' a o o' e => by cases e),(fun a o e => by cases e),S.old,S.lit,fun b o h _ => h,fun _ => ⟨rfl,rfl,rfl,fun j a o e => by cases e⟩⟩,id,rfl,fun _ _ => ⟨rfl,rfl⟩⟩
theorem behind_of (S : Start w n t L U s) {ks : List Nat} {x : Rslt} {M : Mem} {s' : Shared} (I : InvM (vw w n t L cs xs om dm um) s M s') (h1 : M.b = x.b) (h2 : M.m = x.m) (h3 : M.tb = x.tb) (h4 : M.i = x.i) (hT : ks.map M.T.get = x.T) (hU : M.U = x.U) (hz : M.fz = x.fz) : Behind s s' L x := by
 have R := I.rep
 have hsz := S.size
 refine ⟨by rw [← h1,← h2]; exact R.size,by rw [← h3,← h4]; exact I.toks,?_,fun i a o ho => ?_,fun a o hm => ?_,fun i a o ha ho => R.old i a o ha (by rw [hU]; exact ho),R.keep,I.bare,I.os⟩
 ·rw [hsz,show s'.heap.objs.size = M.b + M.m from R.size]; exact R.top
 ·rw [← hT,List.getElem?_map] at ho
  cases hk : ks[i]? with
  | none => rw [hk] at ho; cases ho
  | some k =>
   rw [hk] at ho
   have ho : M.T.get k = some (a,o) := by simpa using ho
   obtain ⟨_,y,_,z⟩ := R.own k a o ho
   exact ⟨by rw [hsz]; exact y,z⟩
 ·rw [← hz] at hm
  obtain ⟨y,_,z,_⟩ := R.frz a o hm
  exact ⟨by rw [hsz]; exact y,z⟩
theorem run_code {ent entQ : Code → Sem Fin} (EO : EntOk prg w ent) (eq : ent = entQ) {c : Code} {e : Bool} {N : Nat} {tp : List Tk} {ks : List Nat} {x : Om → Rslt} (S : Start w n t L U s) (CO : ∀ om,∀ C ∈ cs om,CtrOk w C) (XO : ∀ om,∀ C ∈ xs om,C.Ok (Mine.vw w 0 0 [] [] 0 0))
  (hd : A.depth ≤ dm) (hu : A.units ≤ um) (hh : A.handled = none) (hok : okCode c = true) (hdm : dm ≤ 900) (hum : um ≤ 9000) (h : ∀ om,chk ks (runC entQ (vw w n t L cs xs om dm um) N c e tp U) (x om))
  (q : ∀ om s',Behind s s' L (x om) → OutV w A Q E (x om).val s') : codeAny (model prg w) A c (fun r s' => wpAny (model prg w) A (Sem.pure r) Q E s') s := by
 subst eq
 let V := vw w n t L cs xs (fun _ _ => 0) dm um
 have key : ∀ t0,(∀ om,∃ a M,run (denote table) ent (V.at_ om) N (.i c [] Sem.pure t0) tp (mem0 V U) = some (a,M) ∧ chk ks (some (a,M)) (x om)) → MeansC prg w A Q E (.i c [] Sem.pure t0) s := by
  intro t0 ht
  refine run_T (V := V) (Q := Q) (E := E) (A := A) EO (Start.ok S) CO XO hd hu hh N (.i c [] Sem.pure t0) tp (mem0 V U) (fun _ _ => 0) (fun om _ => ?_) (show kOk [] from fun f hf => by cases hf) s (Start.inv S)
  obtain ⟨a,M,hR,hc⟩ := ht om
  obtain ⟨a',M',hR',h0,h1,h2,h3,h4,h5,h6,h7,g⟩ := chk_elim hc
  cases hR'
  exact ⟨a,M,hR,g,fun s' I => outV_ok (h0 ▸ q om s' (behind_of S (cs := cs) (xs := xs) (om := fun _ _ => 0) (dm := dm) (um := um) I h1 h2 h3 h4 h5 h6 h7))⟩
 have get : ∀ om,∃ a M,run (denote table) ent (V.at_ om) N (.i c [] Sem.pure (match e with | true => ent c | false => denote table c)) tp (mem0 V U) = some (a,M) ∧ chk ks (some (a,M)) (x om) := by
  intro om
  have hx := h om
  obtain ⟨a,M,hR,_⟩ := chk_elim hx
  rw [hR] at hx
  refine ⟨a,M,?_,hx⟩
  unfold runC at hR
  rw [← dq_eq] at hR
  exact hR
 cases e with
 | false => exact y_code _ _ _ _ _ _ (key _ get)
 | true =>
  refine y_code _ _ _ _ _ _ (RefO.own (EO _ _ ?_ ?_) (key _ get))
  ·have := (okCode_weight hok).1
   show A.depth + c.weight < 1000
   lia
  ·have := (okCode_weight hok).2
   show A.units + c.cUnits < 9900
   lia
theorem run_codeE {ent entQ : Code → Sem Fin} (EO : EntOk prg w ent) (eq : ent = entQ) {c : Code} {e : Bool} {N : Nat} {tp : List Tk} {ks : List Nat} {x : Om → Rslt} (S : Start w n t L U s) (CO : ∀ om,∀ C ∈ cs om,CtrOk w C) (XO : ∀ om,∀ C ∈ xs om,C.Ok (Mine.vw w 0 0 [] [] 0 0))
  (hd : A.depth ≤ dm) (hu : A.units ≤ um) (hh : A.handled = none) (hok : okCode c = true) (hdm : dm ≤ 900) (hum : um ≤ 9000) (h : ∀ om,chk ks (runC entQ (vw w n t L cs xs om dm um) N c e tp U) (x om))
  (q : ∀ om s',Behind s s' L (x om) → match (x om).val with | .fin r => Q r s' | .tail c' k => k = Sem.pure ∧ codeAny (model prg w) A c' Q s' | .other => False) : codeAny (model prg w) A c Q s := by
 refine codeAny_pure (E := fun _ _ => False) (run_code EO eq S CO XO hd hu hh hok hdm hum h fun om s' B => ?_)
 have z := q om s' B
 cases hv : (x om).val with
 | fin r => rw [hv] at z; exact z
 | tail c' k =>
  rw [hv] at z
  exact ⟨z.1,codeAny_mono z.2 fun r s'' h => wpAny_pure h⟩
 | other => rw [hv] at z; exact z.elim
end
noncomputable abbrev XOk (w : World) (C : XC) : Prop := C.Ok (Mine.vw w 0 0 [] [] 0 0)
noncomputable def mkX (code : Code) (L : List Nat) (U : List Obj) (res : (Nat → Nat) → Result) (U' : (Nat → Nat) → List Obj) (news : (Nat → Nat) → List (Nat × Obj)) (dm um : Nat) : XC :=
 {code := code,pre := L.zip U,res := res,upd := fun ω => L.zip (U' ω),news := news,dm := dm,um := um }
theorem mk_xok {w : World} {ent entQ : Code → Sem Fin} (EO : ∀ w,EntOk prg w ent) (eq : ent = entQ) {code : Code} {L : List Nat} {U : List Obj} {res : (Nat → Nat) → Result} {U' : (Nat → Nat) → List Obj} {news : (Nat → Nat) → List (Nat × Obj)} {ks : List Nat} {dm um N : Nat} {e : Bool} {tp : List Tk} {cs : World → Nat → Nat → Om → List Ctr} {xs : World → Nat → Nat → Om → List XC}
  {ω : Nat → Nat → Om → Nat → Nat} {x : World → Nat → Nat → Om → Rslt}
  (hL : L.Nodup) (hoff : ∀ a ∈ L,lkQ w.params a = none) (hlen : U.length = L.length) (hlen' : ∀ ω,(U' ω).length = L.length) (hok : okCode code = true) (hdm : dm ≤ 900) (hum : um ≤ 9000)
  (CO : ∀ n t om,(∀ a ∈ L,(a : Nat) < n) → ∀ C ∈ cs w n t om,CtrOk w C) (XO : ∀ n t om,(∀ a ∈ L,(a : Nat) < n) → ∀ C ∈ xs w n t om,XOk w C)
  (h : ∀ b n t om,chk ks (runC entQ (vw (W1 b w) n t L (cs (W1 b w) n t) (xs (W1 b w) n t) om dm um) N code e tp U) (x (W1 b w) n t om))
  (hx : ∀ n t om,(x w n t om).val = .fin (res (ω n t om)) ∧ (x w n t om).b + (x w n t om).m = ω n t om 0 ∧ (x w n t om).tb + (x w n t om).i = ω n t om 1 ∧ (x w n t om).U = U' (ω n t om) ∧
   ∀ p ∈ news (ω n t om),some p ∈ (x w n t om).T ∨ p ∈ (x w n t om).fz) :
  XOk w (mkX code L U res U' news dm um) := by
 intro A s hd hu hh hl hp
 have S : Start w s.heap.objs.size s.toks L U s := start_of hL hoff hlen hl hp
 have h1 := h (w.params.followText "special-get-raises") s.heap.objs.size s.toks
 rw [W1_eq] at h1
 have low := (Mine.Start.ok S (cs := []) (dm := 0) (um := 0)).low
 refine run_codeE (EO w) eq S (fun om => CO _ _ om low) (fun om => XO _ _ om low) hd hu hh hok hdm hum h1 fun om s' B => ?_
 obtain ⟨x1,x2,x3,x4,x5⟩ := hx s.heap.objs.size s.toks om
 rw [x1]
 refine ⟨ω s.heap.objs.size s.toks om,rfl,by rw [B.size,x2],by rw [B.toks,x3],by rw [← x2,← B.size]; exact B.grow,?_,?_,?_,B.bare,B.os⟩
 ·intro p hp
  obtain ⟨i,hi⟩ := List.getElem?_of_mem hp
  obtain ⟨h1,h2⟩ := List.getElem?_zip_eq_some.mp hi
  exact B.old i p.1 p.2 h1 (by rw [x4]; exact h2)
 ·intro p hp
  rcases x5 p hp with hq | hq
  ·obtain ⟨i,hi⟩ := List.getElem?_of_mem hq
   exact B.own i p.1 p.2 hi
  ·exact B.frz p.1 p.2 hq
 ·intro b o hb hn
  refine B.keep b o hb fun hm => ?_
  obtain ⟨i,hi,e⟩ := List.getElem_of_mem hm
  have hi2 : i < (U' (ω s.heap.objs.size s.toks om)).length := by rw [hlen']; exact hi
  refine hn (b,(U' (ω s.heap.objs.size s.toks om))[i]) (List.mem_of_getElem? (i := i) ?_) rfl
  show (L.zip (U' (ω s.heap.objs.size s.toks om)))[i]? = _
  rw [List.getElem?_zip_eq_some]
  exact ⟨by rw [List.getElem?_eq_getElem hi,e],List.getElem?_eq_getElem hi2⟩
end Mine.G
end
section
namespace Mine.G
noncomputable def cat (a b : List Tk) : List Tk := List.append a b
noncomputable def tp0 : List Tk := [.go,o 11,.go,o 11,.go,o 11,o 11,o 11]
noncomputable def tp1 : List Tk := [o 5,.go,o 5,.go,o 5,o 5,o 5,o 5,o 5,o 5,o 5,o 7,o 7,l,o 1,o 7,d 0,d 0,d 0,.go,d 0,.go,d 0,o 1,o 2,d 0,d 0,d 0,.go,d 0,.go,d 0,l]
noncomputable def tp2 : List Tk := cat tp0 [o 11,o 11,o 11,o 11,o 13,o 13,o 3,o 13,o 6,o 6,o 6,.go,o 6,.go,o 6,.go]
noncomputable def tp3 : List Tk := cat tp2 [.go,o 3,o 13,o 6,o 6,o 6,.go,o 6,.go,o 6,.go,.go]
noncomputable def tp4 : List Tk := [o 4,.go,o 4,.go,o 4,o 4]
noncomputable def tp5 : List Tk := cat tp3 [o 13,o 2,.go,.go]
noncomputable def tp6 : List Tk := [l,l,.go,.go,.go,.go,o 10,o 10,.go,o 10,.go,o 10,o 10,o 10,.go,o 10,.go,o 10,o 10,o 10,o 11]
noncomputable def tp7 : List Tk := [o 0,o 0,o 0,o 0]
noncomputable def tp8 : List Tk := cat [l,l,o 1,o 1,o 2,o 2,l,.go,l,l,.go,.go,.go,.go,o 4] (cat tp4 (cat tp4 [o 4]))
noncomputable def tp9 : List Tk := cat tp1 (cat [(.xctr 0 [] []),.go,o 6,.go,o 6,o 6,o 6,.go] (cat tp1 (cat [(.xctr 1 [] []),.go,o 6,.go,o 6,o 6,o 6,.go] (cat tp1 (cat [(.xctr 2 [] []),.go,o 6,.go,o 6,o 6,o 6,.go,o 5,.go,o 5,.go,o 5,o 5,o 5,o 9,o 7,o 7,o 7,o 3,o 3,l,l] tp6)))))
noncomputable def tp10 : List Tk := cat tp0 [o 15,o 13,o 13,o 13,.go,.go,o 12,.go,o 12,.go,o 12]
noncomputable def tp11 : List Tk := cat tp2 [.go,o 13,.go,o 12,.go,o 12,o 12,o 12]
noncomputable def tp12 : List Tk := [o 7,.go,o 7,.go,o 7,o 7,o 7,o 7,o 7,o 7,o 7,o 5,o 5,l,o 1,o 5,l]
noncomputable def tp13 : List Tk := cat tp0 [o 11,o 11,o 11,o 11,o 5,o 5,l,o 1,o 5,l]
noncomputable def tp14 : List Tk := [o 15,o 15,o 15,o 15,o 15,o 15,o 5,o 5,l,o 1,o 5,l]
noncomputable def tp15 : List Tk := [.go,o 11,o 11,.go,o 11,.go,o 11]
noncomputable def tp16 : List Tk := [.go,o 3,o 2,.go,o 2,.go,o 2,o 2,o 1,o 2,o 2]
noncomputable def tp17 : List Tk := [.go,o 3,.go,o 3,.go,o 3,o 3,o 3,o 3,o 3,o 3,o 3,o 5,o 5]
noncomputable def tp18 : List Tk := cat tp8 (cat [o 5,.go,.go] (cat tp9 [.go]))
noncomputable def tp19 : List Tk := cat tp8 (cat [o 5,.go,o 5,o 5,.go,o 5,.go,o 5,.go] (cat tp9 tp15))
noncomputable def tp20 : List Tk := [o 5,.go,.go,o 5,.go,o 4,.go,o 4,o 4,o 4,.go]
noncomputable def tp21 : List Tk := [l,o 0,o 0,l]
noncomputable def tp22 : List Tk := [l,l,o 0,.go,(.ctr 0 [.old 0] []),l,l,o 0,.go,(.ctr 1 [.old 1] [])]
noncomputable def tp23 : List Tk := cat tp5 [o 13,.go,o 12,.go,o 12,o 12,o 12]
noncomputable def tp24 : List Tk := [l,l,o 1,o 1,l,.go,l,l,.go,.go,.go,.go,o 2,o 2,.go,o 2,.go,o 2,o 2,o 2,.go,o 2,.go,o 2,o 2,o 2,o 3]
noncomputable def tp25 : List Tk := [o 6,o 6,.go,o 6,.go,o 6,o 6,o 6,.go,o 6,.go,o 6,o 6,o 6]
noncomputable def tp26 : List Tk := cat tp0 (cat [o 13] (cat tp17 [l,l,.go,.go,.go,.go,o 14,o 14,.go,o 14,.go,o 14,o 14,o 14,.go,o 14,.go,o 14,o 14,o 14,o 15]))
noncomputable def tp27 : List Tk := [o 15,o 15,o 17,.go,o 3,.go,o 3,.go,o 3,o 3,o 3,o 19,o 5,o 5,o 5,o 5,o 5,o 5]
noncomputable def tp28 : List Tk := [o 0,o 0,o 0]
noncomputable def tp29 : List Tk := cat [.go,.go,o 1,o 1,.go,o 1,.go,o 2] (cat tp16 (cat [o 3,o 3,o 3] (cat tp16 [.go,(.ctr 2 [] [])])))
noncomputable def tp30 : List Tk := [o 5,o 3,o 3,o 3,.go,.go,.go,.go,o 6,o 6,.go,o 6,.go,o 6,o 6,o 6,.go,o 6,(.ctr 3 [.own 6] []),o 7]
noncomputable def tp31 : List Tk := [.go,o 22,.go,o 22,o 22,o 21,o 22,o 22]
noncomputable def tp32 : List Tk := [.go,o 33,.go,o 33,o 33,o 33,.go,o 32,.go,o 32,.go,o 32,o 32,o 31]
noncomputable def tp33 : List Tk := [o 0,o 0,l,o 0,o 0,l]
noncomputable def tp34 : List Tk := cat [l,l] (cat tp7 (cat [l,.go,l,l,l,l] (cat tp22 tp29)))
noncomputable def tp35 : List Tk := cat tp30 [(.xctr 0 [.own 0,.own 7,.old 0,.old 1] [.own 0,.own 7])]
noncomputable def tp36 : List Tk := [.go,o 26,.go,o 26,.go,o 26,o 26,o 4,o 26,o 26]
noncomputable def tp37 : List Tk := cat tp5 (cat tp3 tp10)
noncomputable def tp38 : List Tk := cat tp5 (cat tp5 tp10)
noncomputable def tp39 : List Tk := cat tp5 (cat tp11 tp10)
noncomputable def tp40 : List Tk := cat [(.xctr 1 [.old 0] []),o 5,.go,.go,.go] (cat tp12 [(.xctr 2 [.old 0] [])])
noncomputable def tp41 : List Tk := cat [o 5,.go,.go,.go,o 7,.go,o 7,.go,o 7,o 7,o 7,o 9] (cat tp17 tp6)
noncomputable def tp42 : List Tk := cat tp13 (cat [(.xctr 3 [.old 0] []),o 5,.go,.go] (cat tp13 [(.xctr 4 [.old 0] [])]))
noncomputable def tp43 : List Tk := cat [(.xctr 6 [.old 0] []),o 5,.go,.go,.go,o 15,.go,o 15,.go,o 15] (cat tp14 [(.xctr 7 [.old 0] [])])
noncomputable def tp44 : List Tk := cat [o 5,.go,.go,.go,o 15,.go,o 15,.go,o 15] (cat tp14 [(.xctr 8 [.old 0] [])])
noncomputable def tp45 : List Tk := [o 0,.go,o 0,.go,o 0,o 0,z 0,o 0,o 0]
noncomputable def tp46 : List Tk := cat tp32 [o 32,o 32,o 34,o 34,l,o 34,l]
noncomputable def tp47 : List Tk := [o 4,o 4,o 4,o 4]
noncomputable def tp48 : List Tk := [l,l,o 0,.go,(.ctr 0 [.old 0] []),l,l,o 0,.go,(.ctr 1 [.old 0] [])]
noncomputable def tp49 : List Tk := [.go,o 23,.go,o 23,o 23,o 17,o 23,o 23]
noncomputable def tp50 : List Tk := cat [.go,.go,o 22] (cat tp31 [o 22])
noncomputable def tp51 : List Tk := [.go,o 29,.go,o 29,o 29,o 18,o 29,o 29]
noncomputable def tp52 : List Tk := cat [o 8,o 32,o 32] (cat tp7 [.go,o 32,.go,o 32,.go,o 32,o 32])
noncomputable def tp53 : List Tk := [.go,o 35,.go,o 35,o 35,o 19,o 35,o 35]
noncomputable def tp54 : List Tk := cat [o 38,o 12,o 38,o 38] (cat tp7 [.go,o 38,.go,o 38,.go,o 38])
noncomputable def tp55 : List Tk := [.go,o 41,.go,o 41,o 41,o 20,o 41,o 41]
noncomputable def tp56 : List Tk := cat [o 44,o 16,o 44,o 44] (cat tp7 [.go,o 44,.go,o 44,.go,o 44])
noncomputable def tp57 : List Tk := [o 0,o 0,l,o 0,o 0,d 0,d 0,d 0,.go,d 0,.go,d 0,o 0,o 0,d 0,d 0,d 0,.go,d 0,.go,d 0,l,o 0,o 0,d 1,d 1,d 1,.go,d 1,.go,d 1,o 0,o 0,d 1,d 1,d 1,.go,d 1,.go,d 1,l]
noncomputable def tp58 : List Tk := cat tp3 (cat tp5 tp10)
noncomputable def tp59 : List Tk := cat tp23 (cat tp5 tp10)
noncomputable def tp60 : List Tk := cat tp11 (cat tp5 tp10)
noncomputable def tp61 : List Tk := cat tp24 (cat [.go,.go,o 3,.go,o 3,.go,o 3,o 3,o 3,o 3,o 3,o 3,o 3,o 5,o 5,l,l,.go,.go,.go,.go] (cat tp25 [o 7,.go,.go]))
noncomputable def tp62 : List Tk := cat [.go,.go,o 15,.go,o 15,.go,o 15] tp14
noncomputable def tp63 : List Tk := cat tp24 (cat [.go,o 3,o 3,.go,o 3,.go,o 3] (cat tp17 (cat [l,l,.go,.go,.go,.go] (cat tp25 [o 7,.go,o 7,o 7,.go,o 7,.go,o 7,.go]))))
noncomputable def tp64 : List Tk := cat [.go,o 15,o 15,.go,o 15,.go,o 15,.go,o 15,.go,o 15,.go,o 15] tp14
noncomputable def tp65 : List Tk := cat tp45 [o 2,o 2,l,d 1,o 2,d 4,d 4,d 4,.go,d 4]
noncomputable def tp66 : List Tk := [d 2,o 2,d 5,d 5,d 5,.go,d 5]
noncomputable def tp67 : List Tk := [d 0,d 0,d 2,d 2,d 2,.go,d 2,(.ctr 1 [.old 2] []),d 0,d 0,d 3,d 3,d 3,.go,d 3,(.ctr 2 [.old 3] [])]
noncomputable def tp68 : List Tk := [.go,o 6,.go,o 6,.go]
noncomputable def tp69 : List Tk := [d 4,d 4,d 4,.go,d 4,.go]
noncomputable def tp70 : List Tk := [o 7,o 6,o 6,o 6,o 6,l,l,l,o 4,o 4,o 4]
noncomputable def tp71 : List Tk := [d 1,.go,d 1,(.ctr 0 [.old 1] [.old 1]),d 0,d 0]
noncomputable def tp72 : List Tk := cat tp34 (cat tp16 (cat tp35 (cat tp22 (cat [.go,(.ctr 4 [] [])] (cat tp22 [.go,(.ctr 5 [] [])])))))
noncomputable def tp73 : List Tk := cat [l,l] (cat tp7 [l,.ent,l,l,o 0,.go,.go,d 0,l,l,.go,l,.go,l,l,l,l,l,o 0,o 0,.go,d 0,l])
noncomputable def tp74 : List Tk := cat tp12 (cat [(.xctr 0 [.old 0] [])] (cat tp20 (cat tp12 (cat tp40 tp41))))
noncomputable def tp75 : List Tk := cat [o 5,.go,.go,o 5,.go,o 4,.go,o 4,o 4,o 4] (cat tp13 (cat [(.xctr 5 [.old 0] []),o 5,.go,.go] tp26))
noncomputable def tp76 : List Tk := cat tp44 (cat tp20 (cat [o 15,.go,o 15,.go,o 15] tp27))
noncomputable def tp77 : List Tk := cat [o 5,.go,.go] (cat tp13 (cat [(.xctr 5 [.old 0] []),o 5,.go,.go,o 5,.go,o 4,.go,o 4,o 4,o 4] tp26))
noncomputable def tp78 : List Tk := cat tp20 (cat [o 15,.go,o 15,.go,o 15] (cat tp14 (cat [(.xctr 8 [.old 0] []),o 5,.go,.go,.go,o 15,.go,o 15,.go,o 15] tp27)))
noncomputable def tp79 : List Tk := cat tp61 (cat tp12 (cat [(.xctr 0 [.old 0] []),o 5,.go,.go,.go] tp12))
noncomputable def tp80 : List Tk := cat [(.xctr 1 [.old 0] [])] (cat tp20 (cat tp12 (cat [(.xctr 2 [.old 0] [])] tp41)))
noncomputable def tp81 : List Tk := cat tp13 (cat [(.xctr 3 [.old 0] []),o 5,.go,.go,o 5,.go,o 4,.go,o 4,o 4,o 4] (cat tp13 (cat [(.xctr 4 [.old 0] []),o 5,.go,.go] (cat tp13 (cat [(.xctr 5 [.old 0] []),o 5,.go,.go] tp26)))))
noncomputable def tp82 : List Tk := cat tp63 (cat tp12 (cat [(.xctr 0 [.old 0] []),o 5,.go,.go,.go] tp12))
noncomputable def tp83 : List Tk := cat tp40 (cat tp20 (cat [o 7,.go,o 7,.go,o 7,o 7,o 7,o 9] (cat tp17 tp6)))
noncomputable def tp84 : List Tk := cat [(.xctr 6 [.old 0] [])] (cat tp20 (cat [o 15,.go,o 15,.go,o 15] (cat tp14 (cat [(.xctr 7 [.old 0] [])] (cat tp44 (cat [o 5,.go,.go,.go,o 15,.go,o 15,.go,o 15] tp27))))))
noncomputable def tp85 : List Tk := [o 0,d 0,l,l,l,d 0,l,l,l]
noncomputable def tp86 : List Tk := cat [.go,o 1,.go,o 1,o 1,o 1,.go] tp65
noncomputable def tp87 : List Tk := [d 0,d 0,l,l,d 3,d 3,d 3,d 3,l,l,l,d 0,l]
end Mine.G
end
section
open PySem.Calls
namespace Mine
noncomputable def inst (d : Nat) (xs : List Value) (e : Nat) : Obj := { cls := .ref 101,dict := some d,data := .seq xs.toArray e }
noncomputable def lst (xs : List Value) (e : Nat) : Obj := { cls := .type "list",data := .seq xs.toArray e }
section
variable {V : Vw} {C : Ctr} {s : Shared}
theorem after_upd {a : Nat} {o : Obj} {f : Obj → Obj} (ho : s.heap.get? a = some o) (hf : (f o).isFreed = false) (hg : C.grow = 0) (ht : C.toks = 0) (hu : C.upd s.heap.objs.size s.toks = [(a,f o)]) (hn : C.news s.heap.objs.size s.toks = []) :
  After C s { s with heap := s.heap.update a f } := by
 have hs : Heap.SameBut a s.heap (s.heap.update a f) := Heap.SameBut.update ..
 refine ⟨by rw [hg]; exact hs.1,by rw [ht]; rfl,?_,?_,?_,id,rfl⟩
 ·rw [hu]
  intro p hp
  rw [List.mem_singleton] at hp
  subst hp
  first | exact Heap.get?_update_self f ho hf | exact Heap.get?_update_self _ ho hf
 ·rw [hn]; exact fun p hp => nomatch hp
 ·rw [hu]
  intro b o' hb hq
  exact (hs.2 b (Ne.symm (hq _ (List.mem_singleton_self _)))).trans hb
theorem after_none (hg : C.grow = 0) (hu : C.upd s.heap.objs.size s.toks = []) (hn : C.news s.heap.objs.size s.toks = []) : After C s { s with toks := s.toks + C.toks } :=
 ⟨(by rw [hg]; rfl),rfl,(by rw [hu]; intro p hp; cases hp),(by rw [hn]; intro p hp; cases hp),fun _ _ h _ => h,id,rfl⟩
end
noncomputable def appendC (a d e : Nat) (xs : List Value) (v : Value) : Ctr :=
 {code := .builtin "list.append" ⟨[.ref a,v],[]⟩,pre := [(a,inst d xs e)],val := fun _ _ => .none,upd := fun _ _ => [(a,inst d (xs ++ [v]) (e + 1))],news := fun _ _ => [],grow := 0,toks := 0,dm := 950,um := 8000 }
theorem wp_letter {α : Type} {M : Model} {A : Around} {t : Sem α} {Q : α → Shared → Prop} {E : Value → Shared → Prop} {s : Shared} (P : Shared → Prop) (a : α) (hP : ∀ s',P s' → Q a s') (h : ∀ Q' : α → Shared → Prop,(∀ s',P s' → Q' a s') → wpAny M A t Q' E s) : wpAny M A t Q E s := h Q hP
theorem append_ok {V : Vw} {a d e : Nat} {xs : List Value} {v : Value} (hx : xs.length ≤ 1000) : (appendC a d e xs v).Ok V := by
 intro A s hd hu hh hl hp
 have ho := hp _ (List.mem_singleton_self _)
 refine codeAny_builtin entry_list_append ?_
 have hz' : (xs.toArray.push v).size ≤ sizeLine + 1 := by rw [Array.size_push]; simp only [List.size_toArray,sizeLine_eq]; lia
 have hz : xs.toArray.size ≤ sizeLine := by simp only [List.size_toArray,sizeLine_eq]; lia
 wp_walk using (wpAny_updateSeq ho rfl (hz := hz) (_hz' := hz'))
 refine ⟨rfl,?_⟩
 have e : Obj.mapSeq (fun x => x.push v) (inst d xs e) = inst d (xs ++ [v]) (e + 1) := by
  simp only [inst,Obj.mapSeq]
  simp
 exact after_upd ho (by rw [e]; rfl) rfl rfl (by rw [e]; rfl) rfl
end Mine
end
section
namespace Mine
noncomputable def iniS : Str := ⟨#[95,105,110,105,116,105,97,108,95,115,105,122,101]⟩
noncomputable def dct (hs : Int) (t : Nat) (f : Int) (u : Nat) (e : Nat) : Obj := { cls := .type "dict",data := .dict #[⟨hs,.str iniS t,.int f u⟩] e }
noncomputable def emp : Str := ⟨#[]⟩
noncomputable def sB : Str := ⟨#[32]⟩
noncomputable def sa : Str := ⟨#[97]⟩
noncomputable def sb : Str := ⟨#[98]⟩
noncomputable def tabA : Nat → Str
 | 4 => sB | 5 => sB | _ => emp
noncomputable def tabB : Nat → Str
 | 1 => sB | 2 => sa | 3 => sb | 5 => sa | _ => emp
noncomputable def piece (k t : Nat) : Obj := { cls := .type "tuple",data := .seq #[.str (tabA k) t,.str (tabB k) (t + 1)] }
noncomputable def tpPush (k : Nat) : List Tk := [l,l,o 0,o 0,o 0,o 0,l,.go,l,l,.ent,l,l,l,.go,o 0,o 8,o 8,o 8,.go,o 8,.go,o 8,.go,o (2 + k),o (2 + k),o (2 + k),.go,o (2 + k),.go,o 9,o 9,.go,o 9,.go,o 9,o 9,o (2 + k),o 9,o 9,o 9,.go,o 9,.go,o 9,o 9,o (2 + k),o 9,o 9,o 9,.go,o 9,.go,o 9,o 9,o (2 + k),o 9,o 9,o 11,o 0,o 0,o 0,o 0,o 0,d 1,l,l,l,d 1,l,l,l,d 1,l,l,l,l,d 1,d 0,o 0,o 0,l,.ent,l,l,o 12,o 12,o 12,o 12,o 12,o 12,l,.go,o 12,d 1,l,l,l,d 1,l,l,l,d 1,l,l,l,d 1,d 0,o 12,o 12,.go,d 1,l,(.ctr 0 [.old 1] [.old 1])]
noncomputable def pushC (k tk dd a : Nat) (D : Obj) (xs : List Value) (e : Nat) : Ctr :=
 mkC (.call (.ref 219) ⟨[.ref a,.int k tk],[]⟩) [dd,a] [D,inst dd xs e] (fun _ _ => .none) (fun n _ => [D,inst dd (xs ++ [.ref (n + 13)]) (e + 1)]) [13] (fun _ t => [{ cls := .type "tuple",data := .seq #[.str (tabA k) (t + (2 + 2 * k)),.str (tabB k) (t + (3 + 2 * k))] }]) 14 19 880 7000
theorem nodup2 {a b : Nat} (h : a ≠ b) : [a,b].Nodup := by simp [h]
theorem push_ok {w : World} {k tk dd a : Nat} {hs : Int} {t1 u e1 : Nat} {f : Int} {xs : List Value} {e : Nat} (hk : k < 6) (hx : xs.length ≤ 1000) (h1 : 281 ≤ dd) (h2 : 281 ≤ a) (hne : dd ≠ a) : CtrOk w (pushC k tk dd a (dct hs t1 f u e1) xs e) := by
 refine mk_ok (N := 400) (ent := true) (tp := tpPush k) (cs := fun n _ => [appendC a dd e xs (.ref (n + 13))]) (nodup2 hne) ?_ rfl (fun _ _ => rfl) rfl (by lia) ?_ ?_
 ·intro b hb
  revert b
  refine ac ?_ (ac ?_ (an)) <;> exact lkQ_low (by assumption)
 ·intro n t _ C hC
  rw [List.mem_singleton] at hC
  subst hC
  exact append_ok hx
 ·intro b n t
  have hk : k = 0 ∨ k = 1 ∨ k = 2 ∨ k = 3 ∨ k = 4 ∨ k = 5 := by lia
  unfold chk
  intro om
  rcases hk with rfl | rfl | rfl | rfl | rfl | rfl <;> cases b <;> kernel_rfl
end Mine
end
section
open PySem.Calls
namespace Mine
theorem after_tok {C : Ctr} {s : Shared} (hg : C.grow = 0) (ht : C.toks = 1) (hu : C.upd s.heap.objs.size s.toks = []) (hn : C.news s.heap.objs.size s.toks = []) : After C s { s with toks := s.toks + 1 } := by
 have := after_none (C := C) (s := s) hg hu hn
 rw [ht] at this; exact this
noncomputable def lenC (a d e : Nat) (xs : List Value) : Ctr :=
 {code := .builtin "list.__len__" ⟨[.ref a],[]⟩,pre := [(a,inst d xs e)],val := fun _ t => .int xs.length t,upd := fun _ _ => [],news := fun _ _ => [],grow := 0,toks := 1,dm := 950,um := 8000 }
theorem entry_list_len : entryFor table "list.__len__" = some Builtin.«list.__len__» := entryFor_of_fast (by kernel_rfl)
theorem entry_list_pop : entryFor table "list.pop" = some Builtin.«list.pop» := entryFor_of_fast (by kernel_rfl)
theorem entry_getitem : entryFor table "list.__getitem__" = some Builtin.«list.__getitem__» := entryFor_of_fast (by kernel_rfl)
theorem entry_setitem : entryFor table "list.__setitem__" = some Builtin.«list.__setitem__» := entryFor_of_fast (by kernel_rfl)
theorem len_ok {w : World} {a d e : Nat} {xs : List Value} : CtrOk w (lenC a d e xs) := by
 intro A s hd hu hh hl hp
 have ho := hp _ (List.mem_singleton_self _)
 refine codeAny_builtin entry_list_len ?_
 wp_walk
 refine ⟨?_,after_tok rfl rfl rfl rfl⟩
 simp [lenC]
noncomputable def popC (a d e : Nat) (xs : List Value) (v : Value) : Ctr :=
 {code := .builtin "list.pop" ⟨[.ref a],[]⟩,pre := [(a,inst d (xs ++ [v]) e)],val := fun _ _ => v,upd := fun _ _ => [(a,inst d xs (e + 1))],news := fun _ _ => [],grow := 0,toks := 0,dm := 950,um := 8000 }
theorem seq_last {n : Nat} : seqIndex? (-1) (n + 1) = some n := by
 simp only [seqIndex?]
 have h1 : (-1 : Int) + ((n + 1 : Nat) : Int) = (n : Int) := by lia
 rw [if_pos (by lia : (-1 : Int) < 0),h1]
 simp
 lia
theorem erase_last {xs : List Value} {v : Value} : (xs ++ [v]).toArray.eraseIdxIfInBounds xs.length = xs.toArray := by
 simp only [Array.eraseIdxIfInBounds,List.size_toArray,List.length_append,List.length_singleton,Nat.lt_succ_self,dite_true,List.eraseIdx_toArray]
 rw [List.eraseIdx_append_of_length_le (Nat.le_refl _)]
 simp
theorem pop_ok {w : World} {a d e : Nat} {xs : List Value} {v : Value} (hx : xs.length ≤ 1000) : CtrOk w (popC a d e xs v) := by
 intro A s hd hu hh hl hp
 have ho := hp _ (List.mem_singleton_self _)
 refine codeAny_builtin entry_list_pop ?_
 refine wp_letter _ (.done (.ret _)) (fun s' h => ⟨rfl,h⟩) fun Q fin => ?_
 have h1 : (xs ++ [v]).toArray.isEmpty = false := by simp
 have h2 : ((seqIndex? (-1) (xs ++ [v]).toArray.size).bind fun i => Option.map (fun v => (i,v)) (xs ++ [v]).toArray[i]?) = some (xs.length,v) := by
  have : (xs ++ [v]).toArray.size = xs.length + 1 := by simp
  rw [this,seq_last]
  simp
 have hz : (xs ++ [v]).toArray.size ≤ sizeLine := by simp only [List.size_toArray,List.length_append,List.length_singleton,sizeLine_eq]; lia
 have hz' : ((xs ++ [v]).toArray.eraseIdxIfInBounds xs.length).size ≤ sizeLine + 1 := by
  rw [erase_last]; simp only [List.size_toArray,sizeLine_eq]; lia
 wp_walk
 rw [h2]
 wp_walk using (wpAny_updateSeq ho rfl (hz := hz) (_hz' := hz'))
 refine fin _ ?_
 have e : Obj.mapSeq (fun x => x.eraseIdxIfInBounds xs.length) (inst d (xs ++ [v]) e) = inst d xs (e + 1) := by
  simp only [inst,Obj.mapSeq,erase_last]
  have : (xs.toArray.size == (xs ++ [v]).toArray.size) = false := by simp
  rw [this]; rfl
 exact after_upd ho (by rw [e]; rfl) rfl rfl (by rw [e]; rfl) rfl
noncomputable def sq (c : Value) (d : Option Nat) (xs : List Value) (e : Nat) : Obj := { cls := c,dict := d,data := .seq xs.toArray e }
noncomputable def slO (l u : Value) : Obj := { cls := .type "slice",data := .fields #[l,u,.none] }
noncomputable def sliceC (a sl : Nat) (c : Value) (d : Option Nat) (e : Nat) (xs : List Value) (vl vu : Value) (ys : List Value) : Ctr :=
 {code := .builtin "list.__getitem__" ⟨[.ref a,.ref sl],[]⟩,pre := [(a,sq c d xs e),(sl,slO vl vu)],val := fun n _ => .ref n,upd := fun _ _ => [],news := fun _ _ => [(0,lst ys 0)],grow := 1,toks := 0,dm := 950,um := 8000 }
theorem after_new {C : Ctr} {s : Shared} {o : Obj} (hf : o.isFreed = false) (hg : C.grow = 1) (ht : C.toks = 0) (hu : C.upd s.heap.objs.size s.toks = []) (hn : C.news s.heap.objs.size s.toks = [(0,o)]) : After C s { s with heap := s.heap.push o } := by
 refine ⟨by rw [hg]; exact Heap.size_push ..,by rw [ht]; rfl,(by rw [hu]; intro p hp; cases hp),?_,fun b o' hb _ => (Heap.get?_push_ne _ _ _ (fun (q : (b : Nat) = _) => Nat.lt_irrefl _ (q ▸ Heap.lt_size hb))).trans hb,id,rfl⟩
 rw [hn]
 intro p hp
 rw [List.mem_singleton] at hp
 subst hp
 exact Heap.get?_push_size _ hf
theorem slice_ok {w : World} {a sl e : Nat} {c : Value} {d : Option Nat} {xs ys : List Value} {vl vu : Value} {lo hi : Option Int} (hx : xs.length ≤ 1000) (pl : IsPart vl lo) (pu : IsPart vu hi) (hy : slicePick xs.toArray lo hi none = ys.toArray) : CtrOk w (sliceC a sl c d e xs vl vu ys) := by
 intro A s hd hu hh hl hp
 have ho := hp _ (List.mem_cons_self ..)
 have hos := hp _ (List.mem_cons_of_mem _ (List.mem_cons_self ..))
 have hTs : s.TypeIs (.ref sl) "slice" := ⟨_,hos,rfl⟩
 have hstep : ¬ ((rawPart none == rawInt 0) = true) := Bool.false_ne_true
 have hz : xs.toArray.size ≤ sizeLine := by simp only [List.size_toArray,sizeLine_eq]; lia
 refine codeAny_builtin entry_getitem ?_
 refine wp_letter _ (.done (.ret _)) (fun s' h => ⟨rfl,h⟩) fun Q fin => ?_
 show wpAny _ _ (Builtin.List.listSubscript? (.ref sl) >>= _) _ _ s
 refine wpAny_bind ?_
 unfold Builtin.List.listSubscript?
 refine wpAny_bind (wpAny_specialOf hTs slice_no_index ?_)
 rw [if_pos (show (none : Option Value).isNone = true from rfl)]
 refine wpAny_pure ?_
 show wpAny _ _ (typeOf (.ref sl) >>= _) _ _ s
 refine wpAny_bind (wpAny_typeOf hTs ?_)
 rw [if_neg (by decide)]
 rw [listSliceParts_eq]
 refine wpAny_bind (wpAny_bind (wpAny_field hos rfl (x := .none) rfl (wpAny_bind (wpAny_listPart .none ?_))))
 rw [if_neg hstep]
 refine wpAny_bind (wpAny_field hos rfl (x := vl) rfl (wpAny_bind (wpAny_listPart pl ?_)))
 refine wpAny_bind (wpAny_field hos rfl (x := vu) rfl (wpAny_bind (wpAny_listPart pu (wpAny_pure ?_))))
 refine wpAny_bind (m := Builtin.List.listItems (.ref a)) ?_
 unfold Builtin.List.listItems
 refine wpAny_bind (wpAny_seqItems ho rfl (wpAny_pure ?_))
 refine wpAny_bind (wpAny_of_eq (sliceIndices_raw lo hi none xs.toArray.size (by simp)) ?_)
 refine wpAny_bind (wpAny_newObj_type (wpAny_pure ?_) (Nat.le_trans (slicePick_size_le xs.toArray lo hi none) hz))
 refine fin _ ?_
 have : ({ cls := .type "list",data := .seq (slicePick xs.toArray lo hi none) } : Obj) = lst ys 0 := by rw [hy]; rfl
 have z := after_new (C := sliceC a sl c d e xs vl vu ys) (s := s) (o := lst ys 0) rfl rfl rfl rfl rfl
 rw [← this] at z
 exact z
noncomputable def setsC (a sl b : Nat) (c : Value) (d : Option Nat) (e eb : Nat) (xs : List Value) (vl vu : Value) (news ys : List Value) (e' : Nat) : Ctr :=
 {code := .builtin "list.__setitem__" ⟨[.ref a,.ref sl,.ref b],[]⟩,pre := [(a,sq c d xs e),(sl,slO vl vu),(b,lst news eb)],val := fun _ _ => .none,upd := fun _ _ => [(a,sq c d ys e')],news := fun _ _ => [],grow := 0,toks := 0,dm := 950,um := 8000 }
theorem bnd (k n : Nat) : max 0 (min (if (k:Int) < 0 then (k:Int) + n else k) n) = ((min k n : Nat):Int) := by
 rw [if_neg (Int.not_lt.mpr (Int.natCast_nonneg k))]
 rcases Nat.le_total k n with h | h
 ·rw [Int.min_eq_left (Int.ofNat_le.mpr h),Nat.min_eq_left h,Int.max_eq_right (Int.natCast_nonneg k)]
 ·rw [Int.min_eq_right (Int.ofNat_le.mpr h),Nat.min_eq_right h,Int.max_eq_right (Int.natCast_nonneg n)]
theorem bndI (n : Nat) : max 0 (min (-1 + (n : Int)) n) = ((n - 1 : Nat) : Int) := by
 cases n with
 | zero => rfl
 | succ n => rw [show -1 + ((n + 1 : Nat) : Int) = (n : Int) by rw [Int.natCast_succ,Int.add_comm,Int.add_neg_cancel_right],Int.min_eq_left (Int.ofNat_le.mpr (Nat.le_succ n)),Int.max_eq_right (Int.natCast_nonneg n)]; rfl
theorem pick_one (lo hi : Option Int) (xs : Array Value) (i j : Nat) (h : sliceBounds lo hi none xs.size = ((i : Int),(j : Int),1)) (hij : i ≤ j) (hj : j ≤ xs.size) : slicePick xs lo hi none = ((xs.toList.drop i).take (j - i)).toArray := by
 rw [← slicePick_run xs i j hj hij]
 unfold slicePick
 rw [h]
 have : sliceBounds (some (i : Int)) (some (j : Int)) none xs.size = ((i : Int),(j : Int),1) := by
  simp only [sliceBounds]
  simp
  exact ⟨(bnd i _).trans (by rw [Nat.min_eq_left (Nat.le_trans hij hj)]),(bnd j _).trans (by rw [Nat.min_eq_left hj])⟩
 rw [this]
theorem mapSeq_sq {c : Value} {d : Option Nat} {xs ys : List Value} {e : Nat} {f : Array Value → Array Value} (h : f xs.toArray = ys.toArray) : Obj.mapSeq f (sq c d xs e) = sq c d ys (if ys.length = xs.length then e else e + 1) := by
 simp only [sq,Obj.mapSeq,h]
 have h5 : (ys.toArray.size == xs.toArray.size) = decide (ys.length = xs.length) := by
  simp only [List.size_toArray]
  rfl
 rw [h5]
 by_cases q : ys.length = xs.length <;> simp [q]
theorem sets_ok {w : World} {a sl b e eb e' : Nat} {c : Value} {d : Option Nat} {xs news ys : List Value} {vl vu : Value} {lo hi : Option Int} {i j : Nat} (hx : xs.length ≤ 300) (hn : news.length ≤ 300) (hab : a ≠ b) (pl : IsPart vl lo) (pu : IsPart vu hi)
  (hb : sliceBounds lo hi none xs.length = ((i : Int),(j : Int),1)) (hij : i ≤ j) (hj : j ≤ xs.length) (hy : ys = xs.take i ++ news ++ xs.drop j) (he : e' = if ys.length = xs.length then e else e + 1) : CtrOk w (setsC a sl b c d e eb xs vl vu news ys e') := by
 intro A s hd hu hh hl hp
 have ho := hp (a,sq c d xs e) m0
 have hos := hp (sl,slO vl vu) m1
 have hob := hp (b,lst news eb) m2
 have hTs : s.TypeIs (.ref sl) "slice" := ⟨_,hos,rfl⟩
 have hstep : ¬ ((rawPart none == rawInt 0) = true) := Bool.false_ne_true
 have hsame : Builtin.List.listSameRef (.ref a) (.ref b) = false := by
  simp [Builtin.List.listSameRef,hab]
 have h3 : Builtin.List.listTooLong (xs.length + news.toArray.size) = false := by
  simp only [List.size_toArray]
  unfold Builtin.List.listTooLong
  simp only [sizeLine_eq,decide_eq_false_iff_not]
  lia
 have hi' : ((i : Nat) : Int).toNat = i := by simp
 have hj' : (max ((i : Nat) : Int) ((j : Nat) : Int)).toNat = j := by rw [Int.max_eq_right (Int.ofNat_le.mpr hij)]; rfl
 have hf : (fun x : Array Value => x.extract 0 i ++ news.toArray ++ x.extract j x.size) xs.toArray = ys.toArray := by
  rw [hy]
  simp
  rw [List.take_of_length_le (by simp)]
 have hz : xs.toArray.size ≤ sizeLine := by simp only [List.size_toArray,sizeLine_eq]; lia
 have hz' : ((fun x : Array Value => x.extract 0 i ++ news.toArray ++ x.extract j x.size) xs.toArray).size ≤ sizeLine + 1 := by
  rw [hf,hy]
  simp [sizeLine_eq]
  lia
 refine codeAny_builtin entry_setitem ?_
 refine wp_letter _ (.done (.ret _)) (fun s' h => ⟨rfl,h⟩) fun Q fin => ?_
 show wpAny _ _ (Builtin.List.listSubscript? (.ref sl) >>= _) _ _ s
 refine wpAny_bind ?_
 unfold Builtin.List.listSubscript?
 refine wpAny_bind (wpAny_specialOf hTs slice_no_index ?_)
 rw [if_pos (show (none : Option Value).isNone = true from rfl)]
 refine wpAny_pure ?_
 show wpAny _ _ (typeOf (.ref sl) >>= _) _ _ s
 refine wpAny_bind (wpAny_typeOf hTs ?_)
 rw [if_neg (by decide)]
 rw [listSliceParts_eq]
 refine wpAny_bind (wpAny_bind (wpAny_field hos rfl (x := .none) rfl (wpAny_bind (wpAny_listPart .none ?_))))
 rw [if_neg hstep]
 refine wpAny_bind (wpAny_field hos rfl (x := vl) rfl (wpAny_bind (wpAny_listPart pl ?_)))
 refine wpAny_bind (wpAny_field hos rfl (x := vu) rfl (wpAny_bind (wpAny_listPart pu (wpAny_pure ?_))))
 show wpAny _ _ (ite (Builtin.List.listSameRef (.ref a) (.ref b) = true) _ _) _ _ s
 rw [if_neg (by rw [hsame]; exact Bool.false_ne_true)]
 refine wpAny_bind (m := Builtin.List.listAllItems _ _) ?_
 unfold Builtin.List.listAllItems
 refine wpAny_bind (wpAny_typeOf (T := "list") ⟨_,hob,rfl⟩ ?_)
 rw [if_pos (by simp)]
 unfold Builtin.List.listItems
 refine wpAny_bind (wpAny_seqItems hob rfl (wpAny_pure ?_))
 refine wpAny_bind (wpAny_bind (wpAny_seqItems ho rfl (wpAny_pure ?_)))
 refine wpAny_bind (wpAny_of_eq (sliceIndices_raw lo hi none xs.toArray.size (by simp)) ?_)
 rw [show xs.toArray.size = xs.length from List.size_toArray ..,hb]
 dsimp only
 rw [if_pos (by decide)]
 refine wpAny_bind (wpAny_rule ?_)
 rw [if_neg (by rw [h3]; exact Bool.false_ne_true)]
 rw [hi',hj']
 refine wpAny_bind (wpAny_updateSeq ho rfl (hz := hz) (_hz' := hz') ?_)
 refine wpAny_bind (wpAny_letGo ?_)
 refine wpAny_pure (fin _ ?_)
 have e2 : Obj.mapSeq (fun x : Array Value => x.extract 0 i ++ news.toArray ++ x.extract j x.size) (sq c d xs e) = sq c d ys e' := by
  rw [he]; exact mapSeq_sq (c := c) (d := d) (xs := xs) (ys := ys) (e := e) (f := fun x : Array Value => x.extract 0 i ++ news.toArray ++ x.extract j x.size) hf
 exact after_upd ho (by rw [e2]; rfl) rfl rfl (by rw [e2]; rfl) rfl
end Mine
end
section
open PySem.Calls
namespace Mine
noncomputable def modC (x : Int) (tx : Nat) (y : Int) (ty : Nat) (k : Int) : Ctr :=
 {code := .builtin "int.__mod__" ⟨[.int x tx,.int y ty],[]⟩,pre := [],val := fun _ t => .int k t,upd := fun _ _ => [],news := fun _ _ => [],grow := 0,toks := 1,dm := 950,um := 8000 }
theorem entry_mod : entryFor table "int.__mod__" = some Builtin.«int.__mod__» := entryFor_of_fast (by kernel_rfl)
theorem mod_ok {w : World} {x y k : Int} {tx ty : Nat} (hy : y ≠ 0) (h : x.fmod y = k) : CtrOk w (modC x tx y ty k) := by
 intro A s hd hu hh hl hp
 refine codeAny_builtin entry_mod ?_
 have h0 : (y == 0) = false := by simp [hy]
 wp_walk
 refine ⟨?_,after_tok rfl rfl rfl rfl⟩
 simp [modC,h]
theorem after_id {C : Ctr} {s : Shared} (hg : C.grow = 0) (ht : C.toks = 0) (hu : C.upd s.heap.objs.size s.toks = []) (hn : C.news s.heap.objs.size s.toks = []) : After C s s := by
 have := after_none (C := C) (s := s) hg hu hn
 rw [ht] at this; exact this
noncomputable def getC (a e : Nat) (c : Value) (d : Option Nat) (xs : List Value) (k : Int) (tj : Nat) (v : Value) : Ctr :=
 {code := .builtin "list.__getitem__" ⟨[.ref a,.int k tj],[]⟩,pre := [(a,sq c d xs e)],val := fun _ _ => v,upd := fun _ _ => [],news := fun _ _ => [],grow := 0,toks := 0,dm := 950,um := 8000 }
theorem get_ok {w : World} {a e : Nat} {c : Value} {d : Option Nat} {xs : List Value} {k : Int} {tj : Nat} {v : Value} (h0 : 0 ≤ k) (hj : k < 2 ^ 63) (h : xs[k.toNat]? = some v) : CtrOk w (getC a e c d xs k tj v) := by
 intro A s hd hu hh hl hp
 have ho := hp _ (List.mem_singleton_self _)
 refine codeAny_builtin entry_getitem ?_
 have h' : xs.toArray[k.toNat]? = some v := by simpa using h
 show wpAny _ _ (Builtin.List.listSubscript? (.int k tj) >>= _) _ _ s
 refine wpAny_bind (wpAny_listSubscript_int (fitsIndex_of h0 hj) ?_)
 clear hj
 obtain ⟨j,rfl⟩ := Int.eq_ofNat_of_zero_le h0
 show wpAny _ _ ((seqItemAt a j >>= fun r => pure (r.map (j,·))) >>= _) _ _ s
 refine wpAny_bind (wpAny_bind (wpAny_seqItemAt ho rfl (wpAny_pure ?_)))
 have h' : xs.toArray[j]? = some v := h'
 rw [h']
 exact wpAny_pure ⟨rfl,after_id rfl rfl rfl rfl⟩
noncomputable def setC (a e : Nat) (c : Value) (d : Option Nat) (xs : List Value) (k : Int) (tj : Nat) (v : Value) (ys : List Value) : Ctr :=
 {code := .builtin "list.__setitem__" ⟨[.ref a,.int k tj,v],[]⟩,pre := [(a,sq c d xs e)],val := fun _ _ => .none,upd := fun _ _ => [(a,sq c d ys e)],news := fun _ _ => [],grow := 0,toks := 0,dm := 950,um := 8000 }
theorem set_ok {w : World} {a e : Nat} {c : Value} {d : Option Nat} {xs ys : List Value} {k : Int} {tj : Nat} {v : Value} (h0 : 0 ≤ k) (hj : k < 2 ^ 63) (h : k.toNat < xs.length) (hy : ys = xs.set k.toNat v) : CtrOk w (setC a e c d xs k tj v ys) := by
 intro A s hd hu hh hl hp
 have ho := hp _ (List.mem_singleton_self _)
 refine codeAny_builtin entry_setitem ?_
 show wpAny _ _ (Builtin.List.listSubscript? (.int k tj) >>= _) _ _ s
 refine wpAny_bind (wpAny_listSubscript_int (fitsIndex_of h0 hj) ?_)
 clear hj
 obtain ⟨j,rfl⟩ := Int.eq_ofNat_of_zero_le h0
 obtain ⟨x,hx⟩ : ∃ x,xs.toArray[j]? = some x := ⟨xs[j]'h,by simp⟩
 show wpAny _ _ ((seqItemAt a j >>= fun r => pure (r.map (j,·))) >>= _) _ _ s
 refine wpAny_bind (wpAny_bind (wpAny_seqItemAt ho rfl (wpAny_pure ?_)))
 rw [hx]
 refine wpAny_bind (wpAny_setSeqItemAt ho rfl ?_)
 refine wpAny_pure ⟨rfl,?_⟩
 have hy : ys = xs.set j v := hy
 have e2 : Obj.mapSeq (fun x => x.setIfInBounds j v) (sq c d xs e) = sq c d ys e := by
  refine (mapSeq_sq (c := c) (d := d) (xs := xs) (ys := ys) (e := e) ?_).trans (by rw [if_pos (by rw [hy]; simp)])
  rw [hy]; simp
 exact after_upd ho (by rw [e2]; rfl) rfl rfl (by rw [e2]; rfl) rfl
noncomputable def addC (a b ea eb : Nat) (xs ys zs : List Value) : Ctr :=
 {code := .builtin "list.__add__" ⟨[.ref a,.ref b],[]⟩,pre := [(a,lst xs ea),(b,lst ys eb)],val := fun n _ => .ref n,upd := fun _ _ => [],news := fun _ _ => [(0,lst zs 0)],grow := 1,toks := 0,dm := 950,um := 8000 }
theorem isSubtype_list_list : isSubtype (.type "list") (.type "list") = pure true := by rw [isSubtype_type]; kernel_rfl
theorem entry_ladd : entryFor table "list.__add__" = some Builtin.«list.__add__» := entryFor_of_fast (by kernel_rfl)
theorem add_ok {w : World} {a b ea eb : Nat} {xs ys zs : List Value} (hx : xs.length ≤ 300) (hy : ys.length ≤ 300) (hz : zs = xs ++ ys) : CtrOk w (addC a b ea eb xs ys zs) := by
 intro A s hd hu hh hl hp
 have ho := hp (a,lst xs ea) m0
 have hb := hp (b,lst ys eb) m1
 refine codeAny_builtin entry_ladd ?_
 have e : ((xs.toArray ++ ys.toArray) : Array Value) = zs.toArray := by rw [hz]; simp
 have hs : sizeOk (.seq (xs.toArray ++ ys.toArray) 0) := by
  show (xs.toArray ++ ys.toArray).size ≤ sizeLine
  simp [sizeLine_eq]; lia
 have hTb : s.TypeIs (.ref b) "list" := ⟨_,hb,rfl⟩
 show wpAny _ _ (isInstance (.ref b) (.type "list") >>= _) _ _ s
 refine wpAny_bind (wpAny_isInstance (T := "list") (b := true) hTb isSubtype_list_list ?_)
 rw [if_neg (show ¬ ((!true) = true) from Bool.false_ne_true)]
 unfold Builtin.List.listItems
 refine wpAny_bind (wpAny_bind (wpAny_seqItems ho rfl (wpAny_pure ?_)))
 refine wpAny_bind (wpAny_bind (wpAny_seqItems hb rfl (wpAny_pure ?_)))
 refine wpAny_bind (wpAny_newObj_type (wpAny_pure ?_) hs)
 refine ⟨rfl,?_⟩
 have : ({ cls := .type "list",data := .seq (xs.toArray ++ ys.toArray) } : Obj) = lst zs 0 := by rw [e]; rfl
 have z := after_new (C := addC a b ea eb xs ys zs) (s := s) (o := lst zs 0) rfl rfl rfl rfl rfl
 rw [← this] at z
 exact z
noncomputable def itO (a : Value) (i : Nat) : Obj := { cls := .type "list_iterator",data := .fields #[a,.int (.ofNat i) 0] }
noncomputable def nextC (I a e i : Nat) (c : Value) (d : Option Nat) (xs : List Value) (v : Value) : Ctr :=
 {code := .builtin "list_iterator.__next__" ⟨[.ref I],[]⟩,pre := [(I,itO (.ref a) i),(a,sq c d xs e)],val := fun _ _ => v,upd := fun _ _ => [(I,itO (.ref a) (i + 1))],news := fun _ _ => [],grow := 0,toks := 0,dm := 950,um := 8000 }
theorem entry_next : entryFor table "list_iterator.__next__" = some Builtin.«list_iterator.__next__» := entryFor_of_fast (by kernel_rfl)
theorem next_ok {w : World} {I a e i : Nat} {c : Value} {d : Option Nat} {xs : List Value} {v : Value} (h : xs[i]? = some v) : CtrOk w (nextC I a e i c d xs v) := by
 intro A s hd hu hh hl hp
 have hI := hp (I,itO (.ref a) i) m0
 have ho := hp (a,sq c d xs e) m1
 refine codeAny_builtin entry_next ?_
 have h' : xs.toArray[i]? = some v := by simpa using h
 show wpAny _ _ (field (.ref I) 0 >>= _) _ _ s
 refine wpAny_bind (wpAny_field hI rfl (x := .ref a) rfl ?_)
 rw [if_neg (by exact Bool.false_ne_true)]
 refine wpAny_bind (wpAny_field hI rfl (x := .int (.ofNat i) 0) rfl ?_)
 refine wpAny_bind (wpAny_seqItems ho rfl ?_)
 show wpAny _ _ (match xs.toArray[i]? with | some x => _ | none => _) _ _ s
 rw [h']
 refine wpAny_bind (wpAny_setField hI rfl (show 1 < 2 by decide) ?_)
 refine wpAny_pure ⟨rfl,?_⟩
 exact after_upd hI rfl rfl rfl rfl rfl
noncomputable def tupE : Obj := { cls := .type "tuple",data := .seq #[] }
noncomputable def itE (i : Nat) : Obj := { cls := .type "list_iterator",data := .fields #[.none,.int (.ofNat i) 0] }
noncomputable def stopO (t : Nat) : Obj := { cls := .type "StopIteration",data := .fields #[.ref t,.none,.none,.none,.bool false,.none] }
noncomputable def endC (I a e i : Nat) (c : Value) (d : Option Nat) (xs : List Value) : Ctr :=
 {code := .builtin "list_iterator.__next__" ⟨[.ref I],[]⟩,pre := [(I,itO (.ref a) i),(a,sq c d xs e)],val := fun _ _ => .none,upd := fun _ _ => [(I,itE i)],news := fun n _ => [(0,tupE),(1,stopO n)],grow := 2,toks := 0,dm := 950,um := 8000,res := fun n _ => .error (.ref (n + 1)) }
theorem end_ok {w : World} {I a e i : Nat} {c : Value} {d : Option Nat} {xs : List Value} (h : xs.length ≤ i) : CtrOk w (endC I a e i c d xs) := by
 intro A s hd hu hh hl hp
 have hI := hp (I,itO (.ref a) i) m0
 have ho := hp (a,sq c d xs e) m1
 refine codeAny_builtin entry_next ?_
 have h' : xs.toArray[i]? = none := by simpa using h
 show wpAny _ _ (field (.ref I) 0 >>= _) _ _ s
 refine wpAny_bind (wpAny_field hI rfl (x := .ref a) rfl ?_)
 rw [if_neg (by exact Bool.false_ne_true)]
 refine wpAny_bind (wpAny_field hI rfl (x := .int (.ofNat i) 0) rfl ?_)
 refine wpAny_bind (wpAny_seqItems ho rfl ?_)
 show wpAny _ _ (match xs.toArray[i]? with | some x => _ | none => _) _ _ s
 rw [h']
 refine wpAny_bind (wpAny_rule ?_)
 refine wpAny_bind (wpAny_setField hI rfl (show 0 < 2 by decide) ?_)
 unfold Builtin.SmallTypes.stopIteration newExc
 wp_walk
 refine wpAny_raiseNew_none hh ?_
 have z : (s.heap.update I (Obj.mapFields fun x => x.setIfInBounds 0 Value.none)).objs.size = s.heap.objs.size := Heap.size_update ..
 have eqO : ({ cls := .type "StopIteration",data := .fields (#[.ref (s.heap.update I (Obj.mapFields fun x => x.setIfInBounds 0 Value.none)).objs.size,.none,.none,.none,.bool false,if ((Manifest.find? "StopIteration").elim false fun t => t.mro.contains "StopIteration" || t.mro.contains "SystemExit") = true then [].headD Value.none else .none] ++ ownMembersOf (.type "StopIteration") []) } : Obj) = stopO s.heap.objs.size := by
  rw [z]; unfold stopO; kernel_rfl
 rw [eqO]
 have hn : ∀ b,b ≠ I → (s.heap.update I (Obj.mapFields fun x => x.setIfInBounds 0 Value.none)).get? b = s.heap.get? b := (Heap.SameBut.update ..).2
 have hIn : (I : Nat) < s.heap.objs.size := Heap.lt_size hI
 refine ⟨?_,?_,rfl,?_,?_,?_,id,rfl⟩
 ·show Except.error _ = Except.error (Value.ref (s.heap.objs.size + 1))
  rw [Heap.size_push,z]
 ·show (((s.heap.update I _).push _).push _).objs.size = s.heap.objs.size + 2
  rw [Heap.size_push,Heap.size_push,z]
 ·intro p hp
  rw [show (endC I a e i c d xs).upd s.heap.objs.size s.toks = [(I,itE i)] from rfl,List.mem_singleton] at hp
  subst hp
  show Heap.get? _ I = some (itE i)
  have n1 := Nat.ne_of_lt (Nat.lt_succ_of_lt hIn)
  have n0 := Nat.ne_of_lt hIn
  rw [Heap.get?_push_ne _ _ _ (fun q => by rw [Heap.size_push,z] at q; exact n1 q),Heap.get?_push_ne _ _ _ (fun q => by rw [z] at q; exact n0 q)]
  exact Heap.get?_update_self _ hI rfl
 ·intro p hp
  rw [show (endC I a e i c d xs).news s.heap.objs.size s.toks = [(0,tupE),(1,stopO s.heap.objs.size)] from rfl] at hp
  rcases List.mem_cons.mp hp with rfl | hp
  ·show Heap.get? _ (s.heap.objs.size + 0) = some tupE
   rw [Heap.get?_push_ne _ _ _ (fun (q : (s.heap.objs.size + 0 : Nat) = _) => by rw [Heap.size_push,z] at q; lia)]
   have := Heap.get?_push_size (s.heap.update I (Obj.mapFields fun x => x.setIfInBounds 0 Value.none)) (o := tupE) rfl
   rw [z] at this
   exact this
  ·rw [List.mem_singleton] at hp
   subst hp
   have := Heap.get?_push_size ((s.heap.update I (Obj.mapFields fun x => x.setIfInBounds 0 Value.none)).push tupE) (o := stopO s.heap.objs.size) rfl
   rw [Heap.size_push,z] at this
   exact this
 ·intro b o' hb hq
  have hne : b ≠ I := fun q => hq _ (List.mem_singleton_self _) q.symm
  have hbn : (b : Nat) < s.heap.objs.size := Heap.lt_size hb
  have n1 := Nat.ne_of_lt (Nat.lt_succ_of_lt hbn)
  have n0 := Nat.ne_of_lt hbn
  rw [Heap.get?_push_ne _ _ _ (fun q => by rw [Heap.size_push,z] at q; exact n1 q),Heap.get?_push_ne _ _ _ (fun q => by rw [z] at q; exact n0 q),hn b hne]
  exact hb
end Mine
end
section
namespace Mine
noncomputable def lenN (a d e : Nat) (xs : List Value) (m : Nat) : Ctr :=
 {code := .builtin "list.__len__" ⟨[.ref a],[]⟩,pre := [(a,inst d xs e)],val := fun _ t => .int (.ofNat m) t,upd := fun _ _ => [],news := fun _ _ => [],grow := 0,toks := 1,dm := 950,um := 8000 }
theorem lenN_ok {w : World} {a d e m : Nat} {xs : List Value} (h : xs.length = m) : CtrOk w (lenN a d e xs m) := by
 subst h; exact len_ok
theorem low2 {w : World} {dd a : Nat} (h1 : 281 ≤ dd) (h2 : 281 ≤ a) : ∀ b ∈ [dd,a],lkQ w.params b = none := by
 intro b hb
 revert b
 refine ac ?_ (ac ?_ (an)) <;> exact lkQ_low (by assumption)
noncomputable def tpPop : List Tk := ([l,l,o 0,o 0,l,.ent,o 0,d 1,l,l,l,d 1,l,l,l,d 1,l,l,l,l,d 1,d 0,l,.ent,l,l,o 1,o 1,l,.ent,l,l,l,l,l,o 1,l,.go,.go,l,.go,.go,o 2,o 2,.go,o 2,.go,l,d 1,d 1,l,o 2,o 2,o 2,o 2,o 2,o 2,o 2,o 2,.go,o 2,.go,o 2,o 2,o 2,l,l,.go,.go,d 1,l,o 3,.go,o 3,(.ctr 0 [.old 1] []),.go,.go,l,l,l,l,l,o 0,l,.go,.go,l,.go,.go,o 4,o 4,.go,o 4,.go,l,d 1,d 1,l,o 4,o 4,o 4,o 4,o 4,o 4,o 4,o 4,.go,o 4,.go,o 4,o 4,o 4,l,l,.go,.go,d 1,l,o 5,.go,o 5,d 1,l,d 1,d 1,l,l,(.ctr 1 [.old 1] [.old 1])])
noncomputable def popM (dd a : Nat) (D : Obj) (xs : List Value) (q : Nat) (e : Nat) : Ctr :=
 mkC (.call (.ref 61) ⟨[.ref a],[]⟩) [dd,a] [D,inst dd (xs ++ [.ref q]) e] (fun _ _ => .ref q) (fun _ _ => [D,inst dd xs (e + 1)]) [] (fun _ _ => []) 6 6 880 7000
theorem popM_ok {w : World} {dd a : Nat} {hs : Int} {t1 u e1 : Nat} {f : Int} {xs : List Value} {q : Nat} {e : Nat} (hx : xs.length ≤ 1000) (h1 : 281 ≤ dd) (h2 : 281 ≤ a) (hne : dd ≠ a) : CtrOk w (popM dd a (dct hs t1 f u e1) xs q e) := by
 obtain ⟨a,rfl⟩ := Nat.exists_eq_add_of_le' h2
 refine mk_ok (N := 400) (ent := true) (tp := tpPop) (cs := fun _ _ => [lenN (a + 281) dd e (xs ++ [.ref q]) (xs.length + 1),popC (a + 281) dd e xs (.ref q)]) (nodup2 hne) (low2 h1 h2) rfl (fun _ _ => rfl) rfl (by lia) ?_ ?_
 ·intro n t hlow C hC
  revert C
  refine ac ?_ (ac ?_ (an))
  ·exact lenN_ok (by simp)
  ·exact pop_ok hx
 ·intro b n t
  unfold chk
  intro om
  cases b <;> kernel_rfl
noncomputable def tpPop0 : List Tk := ([l,l,o 0,o 0,l,.ent,o 0,d 1,l,l,l,d 1,l,l,l,d 1,l,l,l,l,d 1,d 0,l,.ent,l,l,o 1,o 1,l,.ent,l,l,l,l,l,o 1,l,.go,.go,l,.go,.go,o 2,o 2,.go,o 2,.go,l,d 1,d 1,l,o 2,o 2,o 2,o 2,o 2,o 2,o 2,o 2,.go,o 2,.go,o 2,o 2,o 2,l,l,.go,.go,d 1,l,o 3,.go,o 3,(.ctr 0 [.old 1] []),.go,.go])
noncomputable def popM0 (dd a : Nat) (D : Obj) (e : Nat) : Ctr :=
 mkC (.call (.ref 61) ⟨[.ref a],[]⟩) [dd,a] [D,inst dd [] e] (fun n _ => .ref (n + 4)) (fun _ _ => [D,inst dd [] e]) [] (fun _ _ => []) 5 7 880 7000
theorem popM0_ok {w : World} {dd a : Nat} {hs : Int} {t1 u e1 : Nat} {f : Int} {e : Nat} (h1 : 281 ≤ dd) (h2 : 281 ≤ a) (hne : dd ≠ a) : CtrOk w (popM0 dd a (dct hs t1 f u e1) e) := by
 obtain ⟨a,rfl⟩ := Nat.exists_eq_add_of_le' h2
 refine mk_ok (N := 400) (ent := true) (tp := tpPop0) (cs := fun _ _ => [lenN (a + 281) dd e [] 0]) (nodup2 hne) (low2 h1 h2) rfl (fun _ _ => rfl) rfl (by lia) ?_ ?_
 ·intro n t hlow C hC
  rw [List.mem_singleton] at hC; subst hC
  exact lenN_ok rfl
 ·intro b n t
  unfold chk
  intro om
  cases b <;> kernel_rfl
noncomputable def tpFrom : List Tk := ([l,l,l,o 0,o 0,o 0,o 0,l,.go,o 0,o 0,d 1,l,l,l,d 1,l,d 1,l,l,l,.go,d 1,l,(.ctr 0 [.old 1,.own 1] []),o 0,o 0,o 0,o 0,d 1,l,d 1,l,l,l,.go,d 1,l,(.ctr 1 [.old 1,.own 4,.own 3] [.old 1]),o 0])
noncomputable def fromM (dd a : Nat) (D : Obj) (k : Int) (tk : Nat) (xs ys zs : List Value) (e e' : Nat) : Ctr :=
 mkC (.call (.ref 53) ⟨[.ref a,.int k tk],[]⟩) [dd,a] [D,inst dd xs e] (fun n _ => .ref (n + 2)) (fun _ _ => [D,inst dd ys e']) [2] (fun _ _ => [lst zs 0]) 5 3 880 7000
theorem bounds_from {n k : Nat} : sliceBounds (some (k : Int)) none none n = (((min k n : Nat) : Int),((n : Nat) : Int),1) := by
 simp only [sliceBounds]
 simp
 exact bnd k n
theorem fromM_ok {w : World} {dd a k tk : Nat} {hs : Int} {t1 u e1 : Nat} {f : Int} {xs : List Value} {e e' : Nat} (hx : xs.length ≤ 300) (h1 : 281 ≤ dd) (h2 : 281 ≤ a) (hne : dd ≠ a)
  (he : e' = if (xs.take k).length = xs.length then e else e + 1) : CtrOk w (fromM dd a (dct hs t1 f u e1) (k : Int) tk xs (xs.take k) (xs.drop k) e e') := by
 refine mk_ok (N := 400) (ent := true) (tp := tpFrom) (cs := fun n _ => [sliceC a (n + 1) (.ref 101) (some dd) e xs (.int k tk) .none (xs.drop k),setsC a (n + 4) (n + 3) (.ref 101) (some dd) e 0 xs (.int k tk) .none [] (xs.take k) e']) (nodup2 hne) (low2 h1 h2) rfl (fun _ _ => rfl) rfl (by lia) ?_ ?_
 ·intro n t hlow C hC
  revert C
  refine ac ?_ (ac ?_ (an))
  ·refine slice_ok (by lia) (.int _ _) .none ?_
   rcases Nat.lt_or_ge xs.length k with q | q
   rotate_left
   ·exact slicePick_from xs.toArray k (by simpa using q)
   ·rw [pick_one (some (k : Int)) none xs.toArray xs.length xs.length (by rw [bounds_from]; simp; lia) (by lia) (by simp)]
    simp
    lia
  ·refine sets_ok hx (by simp) (show (a : Nat) ≠ n + 3 from fun q => ?_) (.int _ _) .none bounds_from (by lia) (by lia) ?_ he
   ·have := hlow a (by simp)
    lia
   ·simp
 ·intro b n t
  unfold chk
  intro om
  cases b <;> kernel_rfl
noncomputable def tpReset : List Tk := ([l,l,l,o 0,o 0,o 0,o 0,l,.go,o 0,o 0,o 0,d 1,l,d 1,l,l,l,.go,d 1,l,(.ctr 0 [.old 1,.own 1,.old 2] [.old 1]),o 0,d 1,l,l,l,.go,d 1,l,.go,d 1,l,d 1,l,l,l,d 1,l,d 0,d 0,d 0])
noncomputable def resetM (dd a g : Nat) (D D' : Nat → Obj) (xs ys : List Value) (e e' eg : Nat) : Ctr :=
 mkC (.call (.ref 83) ⟨[.ref a,.ref g],[]⟩) [dd,a,g] [D 0,inst dd xs e,lst ys eg] (fun _ _ => .none) (fun _ t => [D' t,inst dd ys e',lst ys eg]) [] (fun _ _ => []) 2 5 880 7000
theorem bounds_all {n : Nat} : sliceBounds none none none n = (((0 : Nat) : Int),((n : Nat) : Int),1) := by
 simp [sliceBounds]
theorem resetM_ok {w : World} {dd a g : Nat} {hs : Int} {t1 u e1 : Nat} {f : Int} {xs ys : List Value} {e e' eg : Nat} (hx : xs.length ≤ 300) (hy : ys.length ≤ 300) (h1 : 281 ≤ dd) (h2 : 281 ≤ a) (h3 : 281 ≤ g) (hne : [dd,a,g].Nodup)
  (he : e' = if ys.length = xs.length then e else e + 1) : CtrOk w (resetM dd a g (fun _ => dct hs t1 f u e1) (fun t => dct hs t1 0 (t + 2) e1) xs ys e e' eg) := by
 refine mk_ok (N := 400) (ent := true) (tp := tpReset) (cs := fun n _ => [setsC a (n + 1) g (.ref 101) (some dd) e eg xs .none .none ys ys e']) hne ?_ rfl (fun _ _ => rfl) rfl (by lia) ?_ ?_
 ·intro b hb
  revert b
  refine ac ?_ (ac ?_ (ac ?_ (an))) <;> exact lkQ_low (by assumption)
 ·intro n t hlow C hC
  rw [List.mem_singleton] at hC; subst hC
  refine sets_ok hx hy (fun q => ?_) .none .none bounds_all (by lia) (by lia) ?_ he
  ·subst q; simp at hne
  ·simp
 ·intro b n t
  unfold chk
  intro om
  cases b <;> kernel_rfl
end Mine
end
section
open PySem.Calls
namespace Mine
inductive ICmp | eq | ne | lt | le | gt | ge
noncomputable def ICmp.id : ICmp → String | .eq => "int.__eq__" | .ne => "int.__ne__" | .lt => "int.__lt__" | .le => "int.__le__" | .gt => "int.__gt__" | .ge => "int.__ge__"
noncomputable def ICmp.val (x y : Int) : ICmp → Bool | .eq => x == y | .ne => x != y | .lt => decide (x < y) | .le => decide (x ≤ y) | .gt => decide (x > y) | .ge => decide (x ≥ y)
noncomputable def icmpC (o : ICmp) (x : Int) (tx : Nat) (y : Int) (ty : Nat) (b : Bool) : Ctr :=
 {code := .builtin o.id ⟨[.int x tx,.int y ty],[]⟩,pre := [],val := fun _ _ => .bool b,upd := fun _ _ => [],news := fun _ _ => [],grow := 0,toks := 0,dm := 950,um := 8000 }
theorem entry_ieq : entryFor table "int.__eq__" = some Builtin.«int.__eq__» := entryFor_of_fast (by kernel_rfl)
theorem entry_ine : entryFor table "int.__ne__" = some Builtin.«int.__ne__» := entryFor_of_fast (by kernel_rfl)
theorem entry_ilt : entryFor table "int.__lt__" = some Builtin.«int.__lt__» := entryFor_of_fast (by kernel_rfl)
theorem entry_ile : entryFor table "int.__le__" = some Builtin.«int.__le__» := entryFor_of_fast (by kernel_rfl)
theorem entry_igt : entryFor table "int.__gt__" = some Builtin.«int.__gt__» := entryFor_of_fast (by kernel_rfl)
theorem entry_ige : entryFor table "int.__ge__" = some Builtin.«int.__ge__» := entryFor_of_fast (by kernel_rfl)
theorem icmp_ok {w : World} {o : ICmp} {x y : Int} {tx ty : Nat} {b : Bool} (h : o.val x y = b) : CtrOk w (icmpC o x tx y ty b) := by
 intro A s hd hu hh hl hp
 subst h
 cases o with
 | eq => exact codeAny_builtin entry_ieq (by wp_walk; exact ⟨rfl,after_id rfl rfl rfl rfl⟩)
 | ne => exact codeAny_builtin entry_ine (by wp_walk; exact ⟨rfl,after_id rfl rfl rfl rfl⟩)
 | lt => exact codeAny_builtin entry_ilt (by wp_walk; exact ⟨rfl,after_id rfl rfl rfl rfl⟩)
 | le => exact codeAny_builtin entry_ile (by wp_walk; exact ⟨rfl,after_id rfl rfl rfl rfl⟩)
 | gt => exact codeAny_builtin entry_igt (by wp_walk; exact ⟨rfl,after_id rfl rfl rfl rfl⟩)
 | ge => exact codeAny_builtin entry_ige (by wp_walk; exact ⟨rfl,after_id rfl rfl rfl rfl⟩)
theorem code_meets {prog : Program} {w : World} {A : Around} {R : Result → Shared → Prop} {s : Shared} {id : String} {B : Builtin} {args : Args} {S : PySem.Spec} (plain : plainId id = true) (entry : entryFor table id = some B) (g : Meets (B args) S) (h : S A R s) : codeAny (model prog w) A (.builtin id args) R s :=
 codeAny_builtin entry (by rw [Around.under_plainId plain args]; exact g prog w A R s h)
noncomputable def rngO (m : Nat) (t u v : Nat) : Obj := { cls := .type "range",data := .fields #[.int 0 t,.int (.ofNat m) u,.int 1 v] }
noncomputable def rniO (i r : Nat) : Obj := { cls := .type "range_iterator",data := .fields #[.int (.ofNat i) 0,.int (.ofNat r) 0,.int 1 0] }
noncomputable def rniC (a m t u v : Nat) : Ctr :=
 {code := .builtin "range.__iter__" ⟨[.ref a],[]⟩,pre := [(a,rngO m t u v)],val := fun n _ => .ref n,upd := fun _ _ => [],news := fun _ _ => [(0,rniO 0 m)],grow := 1,toks := 0,dm := 950,um := 8000 }
theorem entry_riter : entryFor table "range.__iter__" = some Builtin.«range.__iter__» := entryFor_of_fast (by kernel_rfl)
theorem entry_rnext : entryFor table "range_iterator.__next__" = some Builtin.«range_iterator.__next__» := entryFor_of_fast (by kernel_rfl)
theorem rsize {m : Nat} : Builtin.Range.rangeSize 0 (.ofNat m) 1 = (.ofNat m : Int) := by
 unfold Builtin.Range.rangeSize
 rw [if_pos (by decide)]
 split
 ·rw [Int.ediv_one]
  show (m : Int) - 0 - 1 + 1 = (m : Int)
  lia
 ·rename_i h
  have h : ¬ (0 : Int) < (m : Int) := h
  show (0 : Int) = (m : Int)
  lia
theorem rni_ok {w : World} {a m t u v : Nat} (hm : m ≤ 1000) : CtrOk w (rniC a m t u v) := by
 intro A s hd hu hh hl hp
 have ho := hp _ (List.mem_singleton_self _)
 unfold rngO at ho
 have fit : ∀ x : Int,0 ≤ x → x ≤ 2000 → Builtin.Range.rangeFitsLong x = true := by
  intro x h0 h1
  unfold Builtin.Range.rangeFitsLong
  have a1 : -(2 ^ 63 : Int) ≤ x := Int.le_trans (by decide) h0
  have a2 : x < (2 ^ 63 : Int) := Int.lt_of_le_of_lt h1 (by decide)
  rw [Bool.and_eq_true]
  exact ⟨decide_eq_true a1,decide_eq_true a2⟩
 have hm' : (Int.ofNat m) = (m : Int) := rfl
 have hsmall : (Builtin.Range.rangeFitsLong 0 && Builtin.Range.rangeFitsLong (.ofNat m) && Builtin.Range.rangeFitsLong 1 && Builtin.Range.rangeFitsLong (Builtin.Range.rangeSize 0 (.ofNat m) 1) && (Builtin.Range.rangeSize 0 (.ofNat m) 1 == 0 || if (1 : Int) > 0 then Builtin.Range.rangeFitsLong (.ofNat m + (1 - 1)) else Builtin.Range.rangeFitsLong (.ofNat m + (1 + 1)))) = true := by
  rw [rsize,if_pos (by decide),fit 0 (by decide) (by decide),fit 1 (by decide) (by decide),fit (.ofNat m) (by rw [hm']; lia) (by rw [hm']; lia),fit (.ofNat m + (1 - 1)) (by rw [hm']; lia) (by rw [hm']; lia)]
  simp
 have g := AutoRange.range___iter___range_1 a 0 (.ofNat m) 1 t u v (by rw [hsmall]; decide)
 refine code_meets (by decide +kernel) entry_riter g ?_
 refine ⟨ho,rfl,?_⟩
 have z := after_new (C := rniC a m t u v) (s := s) (o := rniO 0 m) rfl rfl rfl rfl rfl
 rw [hsmall,rsize]
 exact z
noncomputable def rnextC (a i r : Nat) : Ctr :=
 {code := .builtin "range_iterator.__next__" ⟨[.ref a],[]⟩,pre := [(a,rniO i (r + 1))],val := fun _ t => .int (.ofNat i) t,upd := fun _ _ => [(a,rniO (i + 1) r)],news := fun _ _ => [],grow := 0,toks := 1,dm := 950,um := 8000 }
theorem rnext_ok {w : World} {a i r : Nat} : CtrOk w (rnextC a i r) := by
 intro A s hd hu hh hl hp
 have ho := hp _ (List.mem_singleton_self _)
 have hle : ¬ ((.ofNat (r + 1) : Int) ≤ 0) := by
  show ¬ (((r + 1 : Nat) : Int) ≤ 0)
  lia
 have g := AutoRange.range_iterator___next___range_iterator_1 a (.ofNat i) (.ofNat (r + 1)) 1 hle
 refine code_meets (by decide +kernel) entry_rnext g ⟨ho,rfl,?_⟩
 have h1 : (s.heap.update a (Obj.mapFields fun x => x.setIfInBounds 0 (rawInt (.ofNat i + 1)))).get? a = some _ := Heap.get?_update_self _ ho rfl
 have h2 := Heap.get?_update_self (Obj.mapFields fun x => x.setIfInBounds 1 (rawInt (.ofNat (r + 1) - 1))) h1 rfl
 have s1 : Heap.SameBut a s.heap (s.heap.update a (Obj.mapFields fun x => x.setIfInBounds 0 (rawInt (.ofNat i + 1)))) := Heap.SameBut.update ..
 have s2 : Heap.SameBut a (s.heap.update a (Obj.mapFields fun x => x.setIfInBounds 0 (rawInt (.ofNat i + 1)))) ((s.heap.update a (Obj.mapFields fun x => x.setIfInBounds 0 (rawInt (.ofNat i + 1)))).update a (Obj.mapFields fun x => x.setIfInBounds 1 (rawInt (.ofNat (r + 1) - 1)))) := Heap.SameBut.update ..
 refine ⟨s2.1.trans s1.1,rfl,?_,?_,?_,id,rfl⟩
 ·intro p hp
  rw [show (rnextC a i r).upd s.heap.objs.size s.toks = [(a,rniO (i + 1) r)] from rfl,List.mem_singleton] at hp
  subst hp
  refine h2.trans ?_
  have e1 : (.ofNat i + 1 : Int) = .ofNat (i + 1) := rfl
  have e2 : (.ofNat (r + 1) - 1 : Int) = .ofNat r := by
   show ((r + 1 : Nat) : Int) - 1 = (r : Int)
   lia
  rw [e1,e2]; rfl
 ·exact fun p hp => nomatch hp
 ·intro b o' hb hq
  have hne : b ≠ a := fun q => hq _ (List.mem_singleton_self _) q.symm
  exact (s2.2 b hne).trans ((s1.2 b hne).trans hb)
noncomputable def rendC (a i : Nat) : Ctr :=
 {code := .builtin "range_iterator.__next__" ⟨[.ref a],[]⟩,pre := [(a,rniO i 0)],val := fun _ _ => .none,upd := fun _ _ => [],news := fun n _ => [(0,tupE),(1,stopO n)],grow := 2,toks := 0,dm := 950,um := 8000,res := fun n _ => .error (.ref (n + 1)) }
theorem rend_ok {w : World} {a i : Nat} : CtrOk w (rendC a i) := by
 intro A s hd hu hh hl hp
 have ho := hp _ (List.mem_singleton_self _)
 refine codeAny_builtin entry_rnext ?_
 have ho' : s.heap.get? a = some { cls := .type "range_iterator",data := .fields #[.int (.ofNat i) 0,.int (.ofNat 0) 0,.int 1 0] } := ho
 show wpAny _ _ (field (.ref a) 0 >>= _) _ _ s
 refine wpAny_bind (wpAny_field ho' rfl (x := .int (.ofNat i) 0) rfl ?_)
 refine wpAny_bind (wpAny_field ho' rfl (x := .int (.ofNat 0) 0) rfl ?_)
 refine wpAny_bind (wpAny_field ho' rfl (x := .int 1 0) rfl ?_)
 dsimp only
 rw [if_pos (by decide)]
 refine wpAny_bind (wpAny_rule ?_)
 unfold Builtin.SmallTypes.stopIteration newExc
 wp_walk
 refine wpAny_raiseNew_none hh ?_
 have eqO : ({ cls := .type "StopIteration",data := .fields (#[.ref s.heap.objs.size,.none,.none,.none,.bool false,if ((Manifest.find? "StopIteration").elim false fun t => t.mro.contains "StopIteration" || t.mro.contains "SystemExit") = true then [].headD Value.none else .none] ++ ownMembersOf (.type "StopIteration") []) } : Obj) = stopO s.heap.objs.size := by
  unfold stopO; kernel_rfl
 rw [eqO]
 refine ⟨?_,?_,rfl,?_,?_,?_,id,rfl⟩
 ·show Except.error _ = Except.error (Value.ref (s.heap.objs.size + 1))
  rw [Heap.size_push]
 ·show ((s.heap.push _).push _).objs.size = s.heap.objs.size + 2
  rw [Heap.size_push,Heap.size_push]
 ·exact fun p hp => nomatch hp
 ·intro p hp
  rw [show (rendC a i).news s.heap.objs.size s.toks = [(0,tupE),(1,stopO s.heap.objs.size)] from rfl] at hp
  rcases List.mem_cons.mp hp with rfl | hp
  ·show Heap.get? _ (s.heap.objs.size + 0) = some tupE
   rw [Heap.get?_push_ne _ _ _ (fun (q : (s.heap.objs.size + 0 : Nat) = _) => by rw [Heap.size_push] at q; lia)]
   exact Heap.get?_push_size s.heap (o := tupE) rfl
  ·rw [List.mem_singleton] at hp
   subst hp
   have := Heap.get?_push_size (s.heap.push tupE) (o := stopO s.heap.objs.size) rfl
   rw [Heap.size_push] at this
   exact this
 ·intro b o' hb hq
  have hbn : (b : Nat) < s.heap.objs.size := Heap.lt_size hb
  have n1 := Nat.ne_of_lt (Nat.lt_succ_of_lt hbn)
  have n0 := Nat.ne_of_lt hbn
  rw [Heap.get?_push_ne _ _ _ (fun q => by rw [Heap.size_push] at q; exact n1 q),Heap.get?_push_ne _ _ _ (fun q => n0 q)]
  exact hb
end Mine
end
section
open PySem.Calls
namespace Mine
theorem isList_lst {s : Shared} {a e : Nat} {xs : List Value} (h : s.heap.get? a = some (lst xs e)) : s.heap.IsList a xs.toArray := ⟨_,h,rfl,e,rfl⟩
noncomputable def lenB (a e : Nat) (xs : List Value) (m : Nat) : Ctr :=
 {code := .builtin "len" ⟨[.ref a],[]⟩,pre := [(a,lst xs e)],val := fun _ t => .int (.ofNat m) (t + 1),upd := fun _ _ => [],news := fun _ _ => [],grow := 0,toks := 2,dm := 940,um := 8000 }
theorem lenB_ok {w : World} {a e m : Nat} {xs : List Value} (h : xs.length = m) (hm : m ≤ 1000) : CtrOk w (lenB a e xs m) := by
 intro A s hd hu hh hl hp
 have ho := hp _ (List.mem_singleton_self _)
 have hsz : xs.toArray.size = m := by simp [h]
 refine codeAny_builtin entry_len ?_
 have hfit : ((xs.toArray.size : Nat) : Int) < 2 ^ 63 := by
  rw [hsz]
  have : ((m : Nat) : Int) < 2000 := by lia
  exact Int.lt_of_lt_of_le this (by decide)
 refine wpAny_mono (wpAny_len_body_list (isList_lst ho) hfit (Q := fun r s' => r = .int (.ofNat m) (s.toks + 1) ∧ s' = { s with toks := s.toks + 1 + 1 }) ⟨by rw [hsz]; rfl,rfl⟩) ?_ fun _ _ x => x
 rintro fin s' ⟨r,rfl,rfl,rfl⟩
 exact ⟨rfl,after_none (C := lenB a e xs m) rfl rfl rfl⟩
end Mine
end
section
namespace Mine
noncomputable def envOf (st : Stmt) (fr f c : Nat) (q : Str) : Env := { scope := scopeOf st,locals := fr,globals := 3,cells := [],qual := q,func := some f,code := .ref c,frame := some fr,builtins := 0 }
noncomputable def forOf (st : Stmt) (i it : Nat) (env : Env) : Code := match nth (bodyOf st) i with
 | .For t _ b o _ => .forLoop t (.ref it) b o env
 | _ => .call .none ⟨[],[]⟩
noncomputable def sDeeds : Str := ⟨#[95,108,97,119,95,100,101,101,100,115,46,60,108,111,99,97,108,115,62,46]⟩
noncomputable def forD (fr it : Nat) : Code := forOf (top 23) 3 it (envOf (top 23) fr 226 225 sDeeds)
noncomputable def n0 : Str := ⟨#[104,101,97,112,115]⟩
noncomputable def n1 : Str := ⟨#[114,111,119,115]⟩
noncomputable def n2 : Str := ⟨#[102,105,114,115,116,115]⟩
noncomputable def n3 : Str := ⟨#[110,117,109,98,101,114,115]⟩
noncomputable def n4 : Str := ⟨#[103,97,118,101]⟩
noncomputable def n5 : Str := ⟨#[116,97,107,101,110]⟩
noncomputable def n6 : Str := ⟨#[116,117,114,110]⟩
noncomputable def n7 : Str := ⟨#[120]⟩
noncomputable def n8 : Str := ⟨#[107,105,110,100]⟩
noncomputable abbrev de (h : Int) (s : Str) (t : Nat) (v : Value) : DictEntry := ⟨h,.str s t,v⟩
noncomputable def fr7 (h : Nat → Int) (q : Nat → Nat) (H R F N gv tn : Nat) (k : Int) (tk : Nat) : Obj :=
 {cls := .type "frame",data := .dict #[de (h 0) n0 (q 0) (.ref H),de (h 1) n1 (q 1) (.ref R),de (h 2) n2 (q 2) (.ref F),de (h 3) n3 (q 3) (.ref N),de (h 4) n4 (q 4) (.ref gv),de (h 5) n5 (q 5) (.ref tn),de (h 6) n6 (q 6) (.int k tk)] 7 }
noncomputable def fr9 (h : Nat → Int) (q : Nat → Nat) (H R F N gv tn : Nat) (k : Int) (tk : Nat) (x : Int) (tx : Nat) (d : Int) (td : Nat) : Obj :=
 {cls := .type "frame",data := .dict #[de (h 0) n0 (q 0) (.ref H),de (h 1) n1 (q 1) (.ref R),de (h 2) n2 (q 2) (.ref F),de (h 3) n3 (q 3) (.ref N),de (h 4) n4 (q 4) (.ref gv),de (h 5) n5 (q 5) (.ref tn),de (h 6) n6 (q 6) (.int k tk),de (h 7) n7 (q 7) (.int x tx),de (h 8) n8 (q 8) (.int d td)] 9 }
end Mine
end
section
namespace Mine
noncomputable abbrev lsC : Value := .type "list"
noncomputable def kx (w : World) (s : Str) : Int := PyData.keyHash w.params s
noncomputable def hx (w : World) (h : Nat → Int) : Nat → Int
 | 7 => kx w n7
 | 8 => kx w n8
 | j => h j
noncomputable def qx (t : Nat) (q : Nat → Nat) : Nat → Nat
 | 7 => t
 | 8 => t + 3
 | j => q j
noncomputable abbrev nxt (it N e i : Nat) (nums : List Value) (x : Int) (tx : Nat) : Ctr := nextC it N e i lsC none nums (.int x tx)
noncomputable def tp9 : List Tk := (cat tq0 [d 0,.go,.go,d 0,.go,.go,d 0,.go,.go,d 0,.go,.go,.go,(.ctr 2 [] []),d 0,d 0,.stop])
theorem turn9a {w : World} {n t fr it N H R F gv tn i e tk tx : Nat} {h : Nat → Int} {q : Nat → Nat} {k x : Int} {nums : List Value} {k' : Int} :
  chk [] (runC (vw w n t [fr,it,N] [nxt it N e i nums x tx,modC x tx 10 (t + 1) 9,modC (k + 1) (t + 9) 3 (t + 10) k'] 500 5000) 400 (forD fr it) false tp9 [fr7 h q H R F N gv tn k tk,itO (.ref N) i,lst nums e])
   ⟨.tail (forD fr it) Sem.pure,0,13,[],[fr9 (hx w h) (qx t q) H R F N gv tn k' (t + 11) x tx 9 (t + 2),itO (.ref N) (i + 1),lst nums e]⟩ := by
 delta chk
 intro om
 apply w1 (w := w) <;> kernel_rfl
theorem turn9b {w : World} {n t fr it N H R F gv tn i e tk tx : Nat} {h : Nat → Int} {q : Nat → Nat} {k x : Int} {nums : List Value} {k' : Int} {x0 d0 : Int} {tx0 td0 : Nat} :
  chk [] (runC (vw w n t [fr,it,N] [nxt it N e i nums x tx,modC x tx 10 (t + 1) 9,modC (k + 1) (t + 9) 3 (t + 10) k'] 500 5000) 400 (forD fr it) false tp9 [fr9 h q H R F N gv tn k tk x0 tx0 d0 td0,itO (.ref N) i,lst nums e])
   ⟨.tail (forD fr it) Sem.pure,0,13,[],[fr9 h q H R F N gv tn k' (t + 11) x tx 9 (t + 2),itO (.ref N) (i + 1),lst nums e]⟩ := by
 delta chk
 intro om
 apply w1 (w := w) <;> kernel_rfl
noncomputable def tp8 : List Tk := (cat tq0 (cat [d 0,.go,.go,d 0,.go,.go,d 0,.go,.go] (cat tq1 [d 7,l,l,l,d 7,l,l,l,d 7,l,l,l,l,d 7,d 6,d 0,l,(.ctr 3 [.old 6,.old 7,.old 8] [.old 6,.old 7,.old 8]),d 0,d 0,d 0,d 4,d 4,.go,d 4,(.ctr 4 [.old 4] [.old 4]),d 0,d 0,d 5,d 5,.go,d 5,(.ctr 5 [.old 5] [.old 5]),.stop])))
theorem turn8a {w : World} {n t fr it N H R F gv tn i e tk tx : Nat} {h : Nat → Int} {q : Nat → Nat} {k x : Int} {nums : List Value} {hs rs fs : List Value} {eh er ef : Nat} {a dd r : Nat} {g1 f1 : Int} {t1 u e1 : Nat} {xs : List Value} {ea : Nat} {ys rs' : List Value} {fs' : Nat → List Value} {ea' eg : Nat} :
  chk [] (runC (vw w n t [fr,it,N,H,R,F,dd,a,gv] [nxt it N e i nums x tx,modC x tx 10 (t + 1) 8,getC H eh lsC none hs k tk (.ref a),resetM dd a gv (fun _ => dct g1 t1 f1 u e1) (fun t => dct g1 t1 0 (t + 2) e1) xs ys ea ea' eg,setC R er lsC none rs k tk (.ref tn) rs',setC F ef lsC none fs k tk (.int 0 (t + 13)) (fs' (t + 13))] 500 5000) 400 (forD fr it) false tp8 [fr7 h q H R F N gv tn k tk,itO (.ref N) i,lst nums e,lst hs eh,lst rs er,lst fs ef,dct g1 t1 f1 u e1,inst dd xs ea,lst ys eg])
   ⟨.tail (forD fr it) Sem.pure,2,14,[],[fr9 (hx w h) (qx t q) H R F N gv tn k tk x tx 8 (t + 2),itO (.ref N) (i + 1),lst nums e,lst hs eh,lst rs' er,lst (fs' (t + 13)) ef,dct g1 t1 0 (t + 10) e1,inst dd ys ea',lst ys eg]⟩ := by
 delta chk
 intro om
 apply w1 (w := w) <;> kernel_rfl
theorem turn8b {w : World} {n t fr it N H R F gv tn i e tk tx : Nat} {h : Nat → Int} {q : Nat → Nat} {k x : Int} {nums : List Value} {hs rs fs : List Value} {eh er ef : Nat} {a dd r : Nat} {g1 f1 : Int} {t1 u e1 : Nat} {xs : List Value} {ea : Nat} {ys rs' : List Value} {fs' : Nat → List Value} {ea' eg : Nat} {x0 d0 : Int} {tx0 td0 : Nat} :
  chk [] (runC (vw w n t [fr,it,N,H,R,F,dd,a,gv] [nxt it N e i nums x tx,modC x tx 10 (t + 1) 8,getC H eh lsC none hs k tk (.ref a),resetM dd a gv (fun _ => dct g1 t1 f1 u e1) (fun t => dct g1 t1 0 (t + 2) e1) xs ys ea ea' eg,setC R er lsC none rs k tk (.ref tn) rs',setC F ef lsC none fs k tk (.int 0 (t + 13)) (fs' (t + 13))] 500 5000) 400 (forD fr it) false tp8 [fr9 h q H R F N gv tn k tk x0 tx0 d0 td0,itO (.ref N) i,lst nums e,lst hs eh,lst rs er,lst fs ef,dct g1 t1 f1 u e1,inst dd xs ea,lst ys eg])
   ⟨.tail (forD fr it) Sem.pure,2,14,[],[fr9 h q H R F N gv tn k tk x tx 8 (t + 2),itO (.ref N) (i + 1),lst nums e,lst hs eh,lst rs' er,lst (fs' (t + 13)) ef,dct g1 t1 0 (t + 10) e1,inst dd ys ea',lst ys eg]⟩ := by
 delta chk
 intro om
 apply w1 (w := w) <;> kernel_rfl
noncomputable def tpP0 : List Tk := (tq4)
theorem turnP0a {w : World} {n t fr it N H R F gv tn i e tk tx : Nat} {h : Nat → Int} {q : Nat → Nat} {k x : Int} {nums : List Value} {hs rs fs : List Value} {eh er ef : Nat} {a dd r : Nat} {g1 f1 : Int} {t1 u e1 : Nat} {xs : List Value} {ea : Nat} {row : List Value} {rs' : Nat → List Value} {el : Nat} :
  chk [13,15] (runC (vw w n t [fr,it,N,H,R,dd,a,r] [nxt it N e i nums x tx,modC x tx 10 (t + 1) 0,getC H eh lsC none hs k tk (.ref a),pushC 0 (t + 2) dd a (dct g1 t1 f1 u e1) xs ea,getC R er lsC none rs k tk (.ref r),addC r (n + 14) el 0 row [.int 0 (t + 2)] (row ++ [.int 0 (t + 2)]),setC R er lsC none rs k tk (.ref (n + 15)) (rs' (n + 15))] 500 5000) 400 (forD fr it) false tpP0 [fr7 h q H R F N gv tn k tk,itO (.ref N) i,lst nums e,lst hs eh,lst rs er,dct g1 t1 f1 u e1,inst dd xs ea,lst row el])
   ⟨.tail (forD fr it) Sem.pure,16,24,[some (piece 0 (t + 7)),some (lst (row ++ [.int 0 (t + 2)]) 0)],[fr9 (hx w h) (qx t q) H R F N gv tn k tk x tx 0 (t + 2),itO (.ref N) (i + 1),lst nums e,lst hs eh,lst (rs' (n + 15)) er,dct g1 t1 f1 u e1,inst dd (xs ++ [.ref (n + 13)]) (ea + 1),lst row el]⟩ := by
 delta chk
 intro om
 apply w1 (w := w) <;> kernel_rfl
theorem turnP0b {w : World} {n t fr it N H R F gv tn i e tk tx : Nat} {h : Nat → Int} {q : Nat → Nat} {k x : Int} {nums : List Value} {hs rs fs : List Value} {eh er ef : Nat} {a dd r : Nat} {g1 f1 : Int} {t1 u e1 : Nat} {xs : List Value} {ea : Nat} {row : List Value} {rs' : Nat → List Value} {el : Nat} {x0 d0 : Int} {tx0 td0 : Nat} :
  chk [13,15] (runC (vw w n t [fr,it,N,H,R,dd,a,r] [nxt it N e i nums x tx,modC x tx 10 (t + 1) 0,getC H eh lsC none hs k tk (.ref a),pushC 0 (t + 2) dd a (dct g1 t1 f1 u e1) xs ea,getC R er lsC none rs k tk (.ref r),addC r (n + 14) el 0 row [.int 0 (t + 2)] (row ++ [.int 0 (t + 2)]),setC R er lsC none rs k tk (.ref (n + 15)) (rs' (n + 15))] 500 5000) 400 (forD fr it) false tpP0 [fr9 h q H R F N gv tn k tk x0 tx0 d0 td0,itO (.ref N) i,lst nums e,lst hs eh,lst rs er,dct g1 t1 f1 u e1,inst dd xs ea,lst row el])
   ⟨.tail (forD fr it) Sem.pure,16,24,[some (piece 0 (t + 7)),some (lst (row ++ [.int 0 (t + 2)]) 0)],[fr9 h q H R F N gv tn k tk x tx 0 (t + 2),itO (.ref N) (i + 1),lst nums e,lst hs eh,lst (rs' (n + 15)) er,dct g1 t1 f1 u e1,inst dd (xs ++ [.ref (n + 13)]) (ea + 1),lst row el]⟩ := by
 delta chk
 intro om
 apply w1 (w := w) <;> kernel_rfl
noncomputable def tpP1 : List Tk := (tq4)
theorem turnP1a {w : World} {n t fr it N H R F gv tn i e tk tx : Nat} {h : Nat → Int} {q : Nat → Nat} {k x : Int} {nums : List Value} {hs rs fs : List Value} {eh er ef : Nat} {a dd r : Nat} {g1 f1 : Int} {t1 u e1 : Nat} {xs : List Value} {ea : Nat} {row : List Value} {rs' : Nat → List Value} {el : Nat} :
  chk [13,15] (runC (vw w n t [fr,it,N,H,R,dd,a,r] [nxt it N e i nums x tx,modC x tx 10 (t + 1) 1,getC H eh lsC none hs k tk (.ref a),pushC 1 (t + 2) dd a (dct g1 t1 f1 u e1) xs ea,getC R er lsC none rs k tk (.ref r),addC r (n + 14) el 0 row [.int 1 (t + 2)] (row ++ [.int 1 (t + 2)]),setC R er lsC none rs k tk (.ref (n + 15)) (rs' (n + 15))] 500 5000) 400 (forD fr it) false tpP1 [fr7 h q H R F N gv tn k tk,itO (.ref N) i,lst nums e,lst hs eh,lst rs er,dct g1 t1 f1 u e1,inst dd xs ea,lst row el])
   ⟨.tail (forD fr it) Sem.pure,16,24,[some (piece 1 (t + 9)),some (lst (row ++ [.int 1 (t + 2)]) 0)],[fr9 (hx w h) (qx t q) H R F N gv tn k tk x tx 1 (t + 2),itO (.ref N) (i + 1),lst nums e,lst hs eh,lst (rs' (n + 15)) er,dct g1 t1 f1 u e1,inst dd (xs ++ [.ref (n + 13)]) (ea + 1),lst row el]⟩ := by
 delta chk
 intro om
 apply w1 (w := w) <;> kernel_rfl
theorem turnP1b {w : World} {n t fr it N H R F gv tn i e tk tx : Nat} {h : Nat → Int} {q : Nat → Nat} {k x : Int} {nums : List Value} {hs rs fs : List Value} {eh er ef : Nat} {a dd r : Nat} {g1 f1 : Int} {t1 u e1 : Nat} {xs : List Value} {ea : Nat} {row : List Value} {rs' : Nat → List Value} {el : Nat} {x0 d0 : Int} {tx0 td0 : Nat} :
  chk [13,15] (runC (vw w n t [fr,it,N,H,R,dd,a,r] [nxt it N e i nums x tx,modC x tx 10 (t + 1) 1,getC H eh lsC none hs k tk (.ref a),pushC 1 (t + 2) dd a (dct g1 t1 f1 u e1) xs ea,getC R er lsC none rs k tk (.ref r),addC r (n + 14) el 0 row [.int 1 (t + 2)] (row ++ [.int 1 (t + 2)]),setC R er lsC none rs k tk (.ref (n + 15)) (rs' (n + 15))] 500 5000) 400 (forD fr it) false tpP1 [fr9 h q H R F N gv tn k tk x0 tx0 d0 td0,itO (.ref N) i,lst nums e,lst hs eh,lst rs er,dct g1 t1 f1 u e1,inst dd xs ea,lst row el])
   ⟨.tail (forD fr it) Sem.pure,16,24,[some (piece 1 (t + 9)),some (lst (row ++ [.int 1 (t + 2)]) 0)],[fr9 h q H R F N gv tn k tk x tx 1 (t + 2),itO (.ref N) (i + 1),lst nums e,lst hs eh,lst (rs' (n + 15)) er,dct g1 t1 f1 u e1,inst dd (xs ++ [.ref (n + 13)]) (ea + 1),lst row el]⟩ := by
 delta chk
 intro om
 apply w1 (w := w) <;> kernel_rfl
noncomputable def tpP2 : List Tk := (tq4)
theorem turnP2a {w : World} {n t fr it N H R F gv tn i e tk tx : Nat} {h : Nat → Int} {q : Nat → Nat} {k x : Int} {nums : List Value} {hs rs fs : List Value} {eh er ef : Nat} {a dd r : Nat} {g1 f1 : Int} {t1 u e1 : Nat} {xs : List Value} {ea : Nat} {row : List Value} {rs' : Nat → List Value} {el : Nat} :
  chk [13,15] (runC (vw w n t [fr,it,N,H,R,dd,a,r] [nxt it N e i nums x tx,modC x tx 10 (t + 1) 2,getC H eh lsC none hs k tk (.ref a),pushC 2 (t + 2) dd a (dct g1 t1 f1 u e1) xs ea,getC R er lsC none rs k tk (.ref r),addC r (n + 14) el 0 row [.int 2 (t + 2)] (row ++ [.int 2 (t + 2)]),setC R er lsC none rs k tk (.ref (n + 15)) (rs' (n + 15))] 500 5000) 400 (forD fr it) false tpP2 [fr7 h q H R F N gv tn k tk,itO (.ref N) i,lst nums e,lst hs eh,lst rs er,dct g1 t1 f1 u e1,inst dd xs ea,lst row el])
   ⟨.tail (forD fr it) Sem.pure,16,24,[some (piece 2 (t + 11)),some (lst (row ++ [.int 2 (t + 2)]) 0)],[fr9 (hx w h) (qx t q) H R F N gv tn k tk x tx 2 (t + 2),itO (.ref N) (i + 1),lst nums e,lst hs eh,lst (rs' (n + 15)) er,dct g1 t1 f1 u e1,inst dd (xs ++ [.ref (n + 13)]) (ea + 1),lst row el]⟩ := by
 delta chk
 intro om
 apply w1 (w := w) <;> kernel_rfl
theorem turnP2b {w : World} {n t fr it N H R F gv tn i e tk tx : Nat} {h : Nat → Int} {q : Nat → Nat} {k x : Int} {nums : List Value} {hs rs fs : List Value} {eh er ef : Nat} {a dd r : Nat} {g1 f1 : Int} {t1 u e1 : Nat} {xs : List Value} {ea : Nat} {row : List Value} {rs' : Nat → List Value} {el : Nat} {x0 d0 : Int} {tx0 td0 : Nat} :
  chk [13,15] (runC (vw w n t [fr,it,N,H,R,dd,a,r] [nxt it N e i nums x tx,modC x tx 10 (t + 1) 2,getC H eh lsC none hs k tk (.ref a),pushC 2 (t + 2) dd a (dct g1 t1 f1 u e1) xs ea,getC R er lsC none rs k tk (.ref r),addC r (n + 14) el 0 row [.int 2 (t + 2)] (row ++ [.int 2 (t + 2)]),setC R er lsC none rs k tk (.ref (n + 15)) (rs' (n + 15))] 500 5000) 400 (forD fr it) false tpP2 [fr9 h q H R F N gv tn k tk x0 tx0 d0 td0,itO (.ref N) i,lst nums e,lst hs eh,lst rs er,dct g1 t1 f1 u e1,inst dd xs ea,lst row el])
   ⟨.tail (forD fr it) Sem.pure,16,24,[some (piece 2 (t + 11)),some (lst (row ++ [.int 2 (t + 2)]) 0)],[fr9 h q H R F N gv tn k tk x tx 2 (t + 2),itO (.ref N) (i + 1),lst nums e,lst hs eh,lst (rs' (n + 15)) er,dct g1 t1 f1 u e1,inst dd (xs ++ [.ref (n + 13)]) (ea + 1),lst row el]⟩ := by
 delta chk
 intro om
 apply w1 (w := w) <;> kernel_rfl
noncomputable def tpP3 : List Tk := (tq4)
theorem turnP3a {w : World} {n t fr it N H R F gv tn i e tk tx : Nat} {h : Nat → Int} {q : Nat → Nat} {k x : Int} {nums : List Value} {hs rs fs : List Value} {eh er ef : Nat} {a dd r : Nat} {g1 f1 : Int} {t1 u e1 : Nat} {xs : List Value} {ea : Nat} {row : List Value} {rs' : Nat → List Value} {el : Nat} :
  chk [13,15] (runC (vw w n t [fr,it,N,H,R,dd,a,r] [nxt it N e i nums x tx,modC x tx 10 (t + 1) 3,getC H eh lsC none hs k tk (.ref a),pushC 3 (t + 2) dd a (dct g1 t1 f1 u e1) xs ea,getC R er lsC none rs k tk (.ref r),addC r (n + 14) el 0 row [.int 3 (t + 2)] (row ++ [.int 3 (t + 2)]),setC R er lsC none rs k tk (.ref (n + 15)) (rs' (n + 15))] 500 5000) 400 (forD fr it) false tpP3 [fr7 h q H R F N gv tn k tk,itO (.ref N) i,lst nums e,lst hs eh,lst rs er,dct g1 t1 f1 u e1,inst dd xs ea,lst row el])
   ⟨.tail (forD fr it) Sem.pure,16,24,[some (piece 3 (t + 13)),some (lst (row ++ [.int 3 (t + 2)]) 0)],[fr9 (hx w h) (qx t q) H R F N gv tn k tk x tx 3 (t + 2),itO (.ref N) (i + 1),lst nums e,lst hs eh,lst (rs' (n + 15)) er,dct g1 t1 f1 u e1,inst dd (xs ++ [.ref (n + 13)]) (ea + 1),lst row el]⟩ := by
 delta chk
 intro om
 apply w1 (w := w) <;> kernel_rfl
theorem turnP3b {w : World} {n t fr it N H R F gv tn i e tk tx : Nat} {h : Nat → Int} {q : Nat → Nat} {k x : Int} {nums : List Value} {hs rs fs : List Value} {eh er ef : Nat} {a dd r : Nat} {g1 f1 : Int} {t1 u e1 : Nat} {xs : List Value} {ea : Nat} {row : List Value} {rs' : Nat → List Value} {el : Nat} {x0 d0 : Int} {tx0 td0 : Nat} :
  chk [13,15] (runC (vw w n t [fr,it,N,H,R,dd,a,r] [nxt it N e i nums x tx,modC x tx 10 (t + 1) 3,getC H eh lsC none hs k tk (.ref a),pushC 3 (t + 2) dd a (dct g1 t1 f1 u e1) xs ea,getC R er lsC none rs k tk (.ref r),addC r (n + 14) el 0 row [.int 3 (t + 2)] (row ++ [.int 3 (t + 2)]),setC R er lsC none rs k tk (.ref (n + 15)) (rs' (n + 15))] 500 5000) 400 (forD fr it) false tpP3 [fr9 h q H R F N gv tn k tk x0 tx0 d0 td0,itO (.ref N) i,lst nums e,lst hs eh,lst rs er,dct g1 t1 f1 u e1,inst dd xs ea,lst row el])
   ⟨.tail (forD fr it) Sem.pure,16,24,[some (piece 3 (t + 13)),some (lst (row ++ [.int 3 (t + 2)]) 0)],[fr9 h q H R F N gv tn k tk x tx 3 (t + 2),itO (.ref N) (i + 1),lst nums e,lst hs eh,lst (rs' (n + 15)) er,dct g1 t1 f1 u e1,inst dd (xs ++ [.ref (n + 13)]) (ea + 1),lst row el]⟩ := by
 delta chk
 intro om
 apply w1 (w := w) <;> kernel_rfl
noncomputable def tpP4 : List Tk := (tq4)
theorem turnP4a {w : World} {n t fr it N H R F gv tn i e tk tx : Nat} {h : Nat → Int} {q : Nat → Nat} {k x : Int} {nums : List Value} {hs rs fs : List Value} {eh er ef : Nat} {a dd r : Nat} {g1 f1 : Int} {t1 u e1 : Nat} {xs : List Value} {ea : Nat} {row : List Value} {rs' : Nat → List Value} {el : Nat} :
  chk [13,15] (runC (vw w n t [fr,it,N,H,R,dd,a,r] [nxt it N e i nums x tx,modC x tx 10 (t + 1) 4,getC H eh lsC none hs k tk (.ref a),pushC 4 (t + 2) dd a (dct g1 t1 f1 u e1) xs ea,getC R er lsC none rs k tk (.ref r),addC r (n + 14) el 0 row [.int 4 (t + 2)] (row ++ [.int 4 (t + 2)]),setC R er lsC none rs k tk (.ref (n + 15)) (rs' (n + 15))] 500 5000) 400 (forD fr it) false tpP4 [fr7 h q H R F N gv tn k tk,itO (.ref N) i,lst nums e,lst hs eh,lst rs er,dct g1 t1 f1 u e1,inst dd xs ea,lst row el])
   ⟨.tail (forD fr it) Sem.pure,16,24,[some (piece 4 (t + 15)),some (lst (row ++ [.int 4 (t + 2)]) 0)],[fr9 (hx w h) (qx t q) H R F N gv tn k tk x tx 4 (t + 2),itO (.ref N) (i + 1),lst nums e,lst hs eh,lst (rs' (n + 15)) er,dct g1 t1 f1 u e1,inst dd (xs ++ [.ref (n + 13)]) (ea + 1),lst row el]⟩ := by
 delta chk
 intro om
 apply w1 (w := w) <;> kernel_rfl
theorem turnP4b {w : World} {n t fr it N H R F gv tn i e tk tx : Nat} {h : Nat → Int} {q : Nat → Nat} {k x : Int} {nums : List Value} {hs rs fs : List Value} {eh er ef : Nat} {a dd r : Nat} {g1 f1 : Int} {t1 u e1 : Nat} {xs : List Value} {ea : Nat} {row : List Value} {rs' : Nat → List Value} {el : Nat} {x0 d0 : Int} {tx0 td0 : Nat} :
  chk [13,15] (runC (vw w n t [fr,it,N,H,R,dd,a,r] [nxt it N e i nums x tx,modC x tx 10 (t + 1) 4,getC H eh lsC none hs k tk (.ref a),pushC 4 (t + 2) dd a (dct g1 t1 f1 u e1) xs ea,getC R er lsC none rs k tk (.ref r),addC r (n + 14) el 0 row [.int 4 (t + 2)] (row ++ [.int 4 (t + 2)]),setC R er lsC none rs k tk (.ref (n + 15)) (rs' (n + 15))] 500 5000) 400 (forD fr it) false tpP4 [fr9 h q H R F N gv tn k tk x0 tx0 d0 td0,itO (.ref N) i,lst nums e,lst hs eh,lst rs er,dct g1 t1 f1 u e1,inst dd xs ea,lst row el])
   ⟨.tail (forD fr it) Sem.pure,16,24,[some (piece 4 (t + 15)),some (lst (row ++ [.int 4 (t + 2)]) 0)],[fr9 h q H R F N gv tn k tk x tx 4 (t + 2),itO (.ref N) (i + 1),lst nums e,lst hs eh,lst (rs' (n + 15)) er,dct g1 t1 f1 u e1,inst dd (xs ++ [.ref (n + 13)]) (ea + 1),lst row el]⟩ := by
 delta chk
 intro om
 apply w1 (w := w) <;> kernel_rfl
noncomputable def tpP5 : List Tk := (tq4)
theorem turnP5a {w : World} {n t fr it N H R F gv tn i e tk tx : Nat} {h : Nat → Int} {q : Nat → Nat} {k x : Int} {nums : List Value} {hs rs fs : List Value} {eh er ef : Nat} {a dd r : Nat} {g1 f1 : Int} {t1 u e1 : Nat} {xs : List Value} {ea : Nat} {row : List Value} {rs' : Nat → List Value} {el : Nat} :
  chk [13,15] (runC (vw w n t [fr,it,N,H,R,dd,a,r] [nxt it N e i nums x tx,modC x tx 10 (t + 1) 5,getC H eh lsC none hs k tk (.ref a),pushC 5 (t + 2) dd a (dct g1 t1 f1 u e1) xs ea,getC R er lsC none rs k tk (.ref r),addC r (n + 14) el 0 row [.int 5 (t + 2)] (row ++ [.int 5 (t + 2)]),setC R er lsC none rs k tk (.ref (n + 15)) (rs' (n + 15))] 500 5000) 400 (forD fr it) false tpP5 [fr7 h q H R F N gv tn k tk,itO (.ref N) i,lst nums e,lst hs eh,lst rs er,dct g1 t1 f1 u e1,inst dd xs ea,lst row el])
   ⟨.tail (forD fr it) Sem.pure,16,24,[some (piece 5 (t + 17)),some (lst (row ++ [.int 5 (t + 2)]) 0)],[fr9 (hx w h) (qx t q) H R F N gv tn k tk x tx 5 (t + 2),itO (.ref N) (i + 1),lst nums e,lst hs eh,lst (rs' (n + 15)) er,dct g1 t1 f1 u e1,inst dd (xs ++ [.ref (n + 13)]) (ea + 1),lst row el]⟩ := by
 delta chk
 intro om
 apply w1 (w := w) <;> kernel_rfl
theorem turnP5b {w : World} {n t fr it N H R F gv tn i e tk tx : Nat} {h : Nat → Int} {q : Nat → Nat} {k x : Int} {nums : List Value} {hs rs fs : List Value} {eh er ef : Nat} {a dd r : Nat} {g1 f1 : Int} {t1 u e1 : Nat} {xs : List Value} {ea : Nat} {row : List Value} {rs' : Nat → List Value} {el : Nat} {x0 d0 : Int} {tx0 td0 : Nat} :
  chk [13,15] (runC (vw w n t [fr,it,N,H,R,dd,a,r] [nxt it N e i nums x tx,modC x tx 10 (t + 1) 5,getC H eh lsC none hs k tk (.ref a),pushC 5 (t + 2) dd a (dct g1 t1 f1 u e1) xs ea,getC R er lsC none rs k tk (.ref r),addC r (n + 14) el 0 row [.int 5 (t + 2)] (row ++ [.int 5 (t + 2)]),setC R er lsC none rs k tk (.ref (n + 15)) (rs' (n + 15))] 500 5000) 400 (forD fr it) false tpP5 [fr9 h q H R F N gv tn k tk x0 tx0 d0 td0,itO (.ref N) i,lst nums e,lst hs eh,lst rs er,dct g1 t1 f1 u e1,inst dd xs ea,lst row el])
   ⟨.tail (forD fr it) Sem.pure,16,24,[some (piece 5 (t + 17)),some (lst (row ++ [.int 5 (t + 2)]) 0)],[fr9 h q H R F N gv tn k tk x tx 5 (t + 2),itO (.ref N) (i + 1),lst nums e,lst hs eh,lst (rs' (n + 15)) er,dct g1 t1 f1 u e1,inst dd (xs ++ [.ref (n + 13)]) (ea + 1),lst row el]⟩ := by
 delta chk
 intro om
 apply w1 (w := w) <;> kernel_rfl
noncomputable def tp6 : List Tk := (cat tq0 (cat [d 0,.go,.go] (cat tq1 (cat [d 6,l,l,l,d 6,l,l,l,d 6,l,l,l,l,d 6,d 5,l,(.ctr 3 [.old 5,.old 6] [.old 5,.old 6]),.go] (cat tq2 (cat [.go,.go,d 7,d 7,d 7,.go,d 7,(.ctr 5 [.old 7,.own 6] []),.go] tq3))))))
theorem turn6a {w : World} {n t fr it N H R F gv tn i e tk tx : Nat} {h : Nat → Int} {q : Nat → Nat} {k x : Int} {nums : List Value} {hs rs fs : List Value} {eh er ef : Nat} {a dd r : Nat} {g1 f1 : Int} {t1 u e1 : Nat} {xs : List Value} {ea : Nat} {row row' : List Value} {rs' : Nat → List Value} {el p : Nat} :
  chk [7] (runC (vw w n t [fr,it,N,H,R,dd,a,r] [nxt it N e i nums x tx,modC x tx 10 (t + 1) 6,getC H eh lsC none hs k tk (.ref a),popM dd a (dct g1 t1 f1 u e1) xs p ea,getC R er lsC none rs k tk (.ref r),sliceC r (n + 6) lsC none el row .none (.int (-1) (t + 13)) row',setC R er lsC none rs k tk (.ref (n + 7)) (rs' (n + 7))] 500 5000) 400 (forD fr it) false tp6 [fr7 h q H R F N gv tn k tk,itO (.ref N) i,lst nums e,lst hs eh,lst rs er,dct g1 t1 f1 u e1,inst dd (xs ++ [.ref p]) ea,lst row el])
   ⟨.tail (forD fr it) Sem.pure,8,14,[some (lst row' 0)],[fr9 (hx w h) (qx t q) H R F N gv tn k tk x tx 6 (t + 2),itO (.ref N) (i + 1),lst nums e,lst hs eh,lst (rs' (n + 7)) er,dct g1 t1 f1 u e1,inst dd xs (ea + 1),lst row el]⟩ := by
 delta chk
 intro om
 apply w1 (w := w) <;> kernel_rfl
theorem turn6b {w : World} {n t fr it N H R F gv tn i e tk tx : Nat} {h : Nat → Int} {q : Nat → Nat} {k x : Int} {nums : List Value} {hs rs fs : List Value} {eh er ef : Nat} {a dd r : Nat} {g1 f1 : Int} {t1 u e1 : Nat} {xs : List Value} {ea : Nat} {row row' : List Value} {rs' : Nat → List Value} {el p : Nat} {x0 d0 : Int} {tx0 td0 : Nat} :
  chk [7] (runC (vw w n t [fr,it,N,H,R,dd,a,r] [nxt it N e i nums x tx,modC x tx 10 (t + 1) 6,getC H eh lsC none hs k tk (.ref a),popM dd a (dct g1 t1 f1 u e1) xs p ea,getC R er lsC none rs k tk (.ref r),sliceC r (n + 6) lsC none el row .none (.int (-1) (t + 13)) row',setC R er lsC none rs k tk (.ref (n + 7)) (rs' (n + 7))] 500 5000) 400 (forD fr it) false tp6 [fr9 h q H R F N gv tn k tk x0 tx0 d0 td0,itO (.ref N) i,lst nums e,lst hs eh,lst rs er,dct g1 t1 f1 u e1,inst dd (xs ++ [.ref p]) ea,lst row el])
   ⟨.tail (forD fr it) Sem.pure,8,14,[some (lst row' 0)],[fr9 h q H R F N gv tn k tk x tx 6 (t + 2),itO (.ref N) (i + 1),lst nums e,lst hs eh,lst (rs' (n + 7)) er,dct g1 t1 f1 u e1,inst dd xs (ea + 1),lst row el]⟩ := by
 delta chk
 intro om
 apply w1 (w := w) <;> kernel_rfl
noncomputable def tp60 : List Tk := (cat tq0 (cat [d 0,.go,.go] (cat tq1 (cat [d 6,l,l,l,d 6,l,l,l,d 6,l,l,l,l,d 6,d 5,l,(.ctr 3 [.old 5,.old 6] [.old 5,.old 6]),.go] (cat tq2 (cat [.go,.go,d 7,d 7,d 7,.go,d 7,(.ctr 5 [.old 7,.own 5] []),.go] tq3))))))
theorem turn60a {w : World} {n t fr it N H R F gv tn i e tk tx : Nat} {h : Nat → Int} {q : Nat → Nat} {k x : Int} {nums : List Value} {hs rs fs : List Value} {eh er ef : Nat} {a dd r : Nat} {g1 f1 : Int} {t1 u e1 : Nat} {xs : List Value} {ea : Nat} {row row' : List Value} {rs' : Nat → List Value} {el p : Nat} :
  chk [6] (runC (vw w n t [fr,it,N,H,R,dd,a,r] [nxt it N e i nums x tx,modC x tx 10 (t + 1) 6,getC H eh lsC none hs k tk (.ref a),popM0 dd a (dct g1 t1 f1 u e1) ea,getC R er lsC none rs k tk (.ref r),sliceC r (n + 5) lsC none el row .none (.int (-1) (t + 14)) row',setC R er lsC none rs k tk (.ref (n + 6)) (rs' (n + 6))] 500 5000) 400 (forD fr it) false tp60 [fr7 h q H R F N gv tn k tk,itO (.ref N) i,lst nums e,lst hs eh,lst rs er,dct g1 t1 f1 u e1,inst dd [] ea,lst row el])
   ⟨.tail (forD fr it) Sem.pure,7,15,[some (lst row' 0)],[fr9 (hx w h) (qx t q) H R F N gv tn k tk x tx 6 (t + 2),itO (.ref N) (i + 1),lst nums e,lst hs eh,lst (rs' (n + 6)) er,dct g1 t1 f1 u e1,inst dd [] ea,lst row el]⟩ := by
 delta chk
 intro om
 apply w1 (w := w) <;> kernel_rfl
theorem turn60b {w : World} {n t fr it N H R F gv tn i e tk tx : Nat} {h : Nat → Int} {q : Nat → Nat} {k x : Int} {nums : List Value} {hs rs fs : List Value} {eh er ef : Nat} {a dd r : Nat} {g1 f1 : Int} {t1 u e1 : Nat} {xs : List Value} {ea : Nat} {row row' : List Value} {rs' : Nat → List Value} {el p : Nat} {x0 d0 : Int} {tx0 td0 : Nat} :
  chk [6] (runC (vw w n t [fr,it,N,H,R,dd,a,r] [nxt it N e i nums x tx,modC x tx 10 (t + 1) 6,getC H eh lsC none hs k tk (.ref a),popM0 dd a (dct g1 t1 f1 u e1) ea,getC R er lsC none rs k tk (.ref r),sliceC r (n + 5) lsC none el row .none (.int (-1) (t + 14)) row',setC R er lsC none rs k tk (.ref (n + 6)) (rs' (n + 6))] 500 5000) 400 (forD fr it) false tp60 [fr9 h q H R F N gv tn k tk x0 tx0 d0 td0,itO (.ref N) i,lst nums e,lst hs eh,lst rs er,dct g1 t1 f1 u e1,inst dd [] ea,lst row el])
   ⟨.tail (forD fr it) Sem.pure,7,15,[some (lst row' 0)],[fr9 h q H R F N gv tn k tk x tx 6 (t + 2),itO (.ref N) (i + 1),lst nums e,lst hs eh,lst (rs' (n + 6)) er,dct g1 t1 f1 u e1,inst dd [] ea,lst row el]⟩ := by
 delta chk
 intro om
 apply w1 (w := w) <;> kernel_rfl
noncomputable def tp7 : List Tk := (cat tq0 (cat [d 0,.go,.go,d 0,.go,.go] (cat tq1 (cat [d 6,l,l,l,d 6,l,l,l,d 6,l,l,l,l,d 6,d 5,d 0,.go,.go,.go,(.ctr 5 [] []),l,(.ctr 3 [.old 5,.old 6] [.old 5,.old 6]),d 0,d 0] (cat tq2 (cat [d 0,.go,.go,.go,(.ctr 6 [] []),d 7,d 7,d 7,.go,d 7,(.ctr 7 [.old 7,.own 5] []),.go,d 0,d 0] (cat tq2 [d 0,.go,.go,.go,(.ctr 8 [] []),d 7,d 7,d 7,.go,d 7,(.ctr 9 [.old 7,.own 7] []),.go,d 0,d 0,d 4,d 4,.go,d 4,(.ctr 10 [.old 4] [.old 4]),.stop])))))))
theorem turn7a {w : World} {n t fr it N H R F gv tn i e tk tx : Nat} {h : Nat → Int} {q : Nat → Nat} {k x : Int} {nums : List Value} {hs rs fs : List Value} {eh er ef : Nat} {a dd r : Nat} {g1 f1 : Int} {t1 u e1 : Nat} {xs : List Value} {ea : Nat} {row row1 row2 xs1 xs2 : List Value} {rs' : Nat → List Value} {el ea' : Nat} {z : Int} :
  chk [2,6,8] (runC (vw w n t [fr,it,N,H,R,dd,a,r] [nxt it N e i nums x tx,modC x tx 10 (t + 1) 7,getC H eh lsC none hs k tk (.ref a),fromM dd a (dct g1 t1 f1 u e1) z (t + 10) xs xs1 xs2 ea ea',getC R er lsC none rs k tk (.ref r),modC (x.fdiv 10) (t + 8) 4 (t + 9) z,modC (x.fdiv 10) (t + 16) 4 (t + 17) z,sliceC r (n + 5) lsC none el row (.int z (t + 18)) .none row2,modC (x.fdiv 10) (t + 21) 4 (t + 22) z,sliceC r (n + 7) lsC none el row .none (.int z (t + 23)) row1,setC R er lsC none rs k tk (.ref (n + 8)) (rs' (n + 8))] 500 5000) 400 (forD fr it) false tp7 [fr7 h q H R F N gv tn k tk,itO (.ref N) i,lst nums e,lst hs eh,lst rs er,dct g1 t1 f1 u e1,inst dd xs ea,lst row el])
   ⟨.tail (forD fr it) Sem.pure,9,24,[some (lst xs2 0),some (lst row2 0),some (lst row1 0)],[fr9 (hx w h) (qx t q) H R F N (n + 2) (n + 6) k tk x tx 7 (t + 2),itO (.ref N) (i + 1),lst nums e,lst hs eh,lst (rs' (n + 8)) er,dct g1 t1 f1 u e1,inst dd xs1 ea',lst row el]⟩ := by
 delta chk
 intro om
 apply w1 (w := w) <;> kernel_rfl
theorem turn7b {w : World} {n t fr it N H R F gv tn i e tk tx : Nat} {h : Nat → Int} {q : Nat → Nat} {k x : Int} {nums : List Value} {hs rs fs : List Value} {eh er ef : Nat} {a dd r : Nat} {g1 f1 : Int} {t1 u e1 : Nat} {xs : List Value} {ea : Nat} {row row1 row2 xs1 xs2 : List Value} {rs' : Nat → List Value} {el ea' : Nat} {z : Int} {x0 d0 : Int} {tx0 td0 : Nat} :
  chk [2,6,8] (runC (vw w n t [fr,it,N,H,R,dd,a,r] [nxt it N e i nums x tx,modC x tx 10 (t + 1) 7,getC H eh lsC none hs k tk (.ref a),fromM dd a (dct g1 t1 f1 u e1) z (t + 10) xs xs1 xs2 ea ea',getC R er lsC none rs k tk (.ref r),modC (x.fdiv 10) (t + 8) 4 (t + 9) z,modC (x.fdiv 10) (t + 16) 4 (t + 17) z,sliceC r (n + 5) lsC none el row (.int z (t + 18)) .none row2,modC (x.fdiv 10) (t + 21) 4 (t + 22) z,sliceC r (n + 7) lsC none el row .none (.int z (t + 23)) row1,setC R er lsC none rs k tk (.ref (n + 8)) (rs' (n + 8))] 500 5000) 400 (forD fr it) false tp7 [fr9 h q H R F N gv tn k tk x0 tx0 d0 td0,itO (.ref N) i,lst nums e,lst hs eh,lst rs er,dct g1 t1 f1 u e1,inst dd xs ea,lst row el])
   ⟨.tail (forD fr it) Sem.pure,9,24,[some (lst xs2 0),some (lst row2 0),some (lst row1 0)],[fr9 h q H R F N (n + 2) (n + 6) k tk x tx 7 (t + 2),itO (.ref N) (i + 1),lst nums e,lst hs eh,lst (rs' (n + 8)) er,dct g1 t1 f1 u e1,inst dd xs1 ea',lst row el]⟩ := by
 delta chk
 intro om
 apply w1 (w := w) <;> kernel_rfl
end Mine
end
section
namespace Mine
noncomputable def runK (V : Vw) (n : Nat) (R : RunO) (r : Result) (tp : List Tk) (U : List Obj) : RunR := fun om => match R with
 | some (.at_ _ κ k₀,_) => G.back (G.run dq PySem.W.Fast.mineEnt ((toG V).at_ om) n) κ k₀ r tp (mem0 V U)
 | _ => none
noncomputable def seeC (ks : List Nat) : RunO → Option ((Code × Nat × Bool) × (Nat × Nat × List (Option Obj) × List Obj) × List Ob)
 | some (.at_ c κ _,M) => match M.e with
  | 0 => some ((c,κ.length,κ.all fun f => okCode f.1),(M.m,M.i,ks.map fun k => (M.T.get k).map (·.2),M.U),M.ob.map (·.1))
  | _ => none
 | _ => none
noncomputable def chkS (ks : List Nat) (R : RunR) (c : Code) (len m i : Nat) (T : List (Option Obj)) (U : List Obj) : Prop := ∀ om,seeC ks (R om) = some ((c,len,true),(m,i,T,U),seeR (R om))
section
variable {w : World} {n t : Nat} {L : List Nat} {cs : List Ctr} {dm um : Nat} {U : List Obj} {s : Shared} {A : Around} {Q : Result → Shared → Prop} {E : Value → Shared → Prop}
theorem seeC_elim {ks : List Nat} {R : RunO} {c : Code} {len m i : Nat} {T : List (Option Obj)} {U' : List Obj} (h : seeC ks R = some ((c,len,true),(m,i,T,U'),seeR R)) :
  ∃ κ k₀ M,R = some (.at_ c κ k₀,M) ∧ κ.length = len ∧ kOk κ ∧ Seen ks M ⟨.other,m,i,T,U'⟩ ∧ G.good M := by
 cases R with
 | none => cases h
 | some r =>
  obtain ⟨a,M⟩ := r
  cases a with
  | fin r => cases h
  | at_ c' κ k₀ =>
   simp only [seeC,seeR] at h
   split at h
   ·rename_i he
    simp only [Option.some.injEq,Prod.mk.injEq] at h
    obtain ⟨⟨rfl,h1,h2⟩,⟨h3,h4,h5,h6⟩,h7⟩ := h
    exact ⟨κ,k₀,M,rfl,h1,fun f hf => List.all_eq_true.mp h2 f hf,⟨he,h3,h4,h5,h6⟩,good_of h7⟩
   ·cases h
noncomputable def OutV (w : World) (A : Around) (Q : Result → Shared → Prop) (E : Value → Shared → Prop) (x : Vl) (s' : Shared) : Prop := match x with
 | .fin r => Q r s'
 | .tail c' k => k = Sem.pure ∧ codeAny (model prg w) A c' (fun r s' => wpAny (model prg w) A (Sem.pure r) Q E s') s'
 | .other => False
theorem outV_ok {a : Out Result} {s' : Shared} (h : OutV w A Q E (vlOf a) s') : OutOk prg w A Q E a s' := by
 cases a with
 | fin r => exact h
 | at_ c' κ k₀ =>
  cases κ with
  | nil =>
   obtain ⟨rfl,z⟩ := h
   exact z
  | cons f κ => exact h.elim
structure Held (w : World) (A : Around) (κ : List Frm) (len : Nat) : Prop where
 ok : kOk κ
 depth : (ar A κ).depth ≤ A.depth + len
 units : (ar A κ).units ≤ A.units + 3 * len
 handled : (ar A κ).handled = none
theorem held_of {κ : List Frm} (h : kOk κ) (hh : A.handled = none) : Held w A κ κ.length := by
 obtain ⟨x,y,z⟩ := G.ar_le' (V := toG (vw w 0 0 [] [] A.depth A.units)) (A := A) (Nat.le_refl _) (Nat.le_refl _) hh h
 exact ⟨h,x,y,z⟩
section
variable (S : Start w n t L U s) (CO : ∀ C ∈ cs,C.Ok (vw w n t L cs dm um)) (hd : A.depth ≤ dm) (hu : A.units ≤ um) (hh : A.handled = none)
include S CO hd hu hh
theorem stop_out {c : Code} {κ : List Frm} {k₀ : Result → Sem Result} {M0 : G.Mem} {r : Result} {N : Nat} {tp : List Tk} {ks : List Nat} {x : Rslt} (hk : kOk κ) (h : chk ks (runK (vw w n t L cs dm um) N (some (.at_ c κ k₀,M0)) r tp U) x)
  (q : ∀ s',Behind s s' n t L ks x → OutV w A Q E x.val s') : en prg w A Q E k₀ κ r s := by
 refine G.back_T (V := toG (vw w n t L cs dm um)) (Q := Q) (E := E) (A := A) (G.run_T (V := toG (vw w n t L cs dm um)) (Q := Q) (E := E) (A := A) ent_ok S.ok (fun _ => CO) (fun _ => an) hd hu hh N) (om₀ := fun _ _ => 0) (tp := tp) (M := mem0 (vw w n t L cs dm um) U) (fun om _ => ?_) hk s S.inv
 obtain ⟨a,M,hR,hv,H,g⟩ := see_elim (h om)
 refine ⟨a,M,?_,g,fun s' I => outV_ok (hv ▸ q s' (behind_of I H))⟩
 rw [dq_eq,entQ_eq]
 exact hR
theorem code_stop {c c' : Code} {ent : Bool} {N : Nat} {tp : List Tk} {ks : List Nat} {len m i : Nat} {T : List (Option Obj)} {U' : List Obj} (hok : okCode c = true) (hdm : dm ≤ 900) (h : chkS ks (runC (vw w n t L cs dm um) N c ent tp U) c' len m i T U')
  (q : ∀ om κ k₀ M,runC (vw w n t L cs dm um) N c ent tp U om = some (.at_ c' κ k₀,M) → Held w A κ len → ∀ s',Behind s s' n t L ks ⟨.other,m,i,T,U'⟩ → codeAny (model prg w) (ar A κ) c' (en prg w A Q E k₀ κ) s') :
  codeAny (model prg w) A c (fun r s' => wpAny (model prg w) A (Sem.pure r) Q E s') s := by
 refine from_code (N := N) (tp := tp) (ent := ent) S CO hd hu hh hok hdm fun om => ?_
 obtain ⟨κ,k₀,M,hR,h1,h2,H,g⟩ := seeC_elim (h om)
 subst h1
 exact ⟨_,M,hR,g,fun s' I => q om κ k₀ M hR (held_of h2 hh) s' (behind_of I H)⟩
end
end
end Mine
end
section
namespace Mine
noncomputable def tpA : List Tk := ([l,l,o 0,o 0,o 0,o 0,o 0,o 0,o 0,o 0,l,.go,o 0,o 0,o 0,o 0,o 0,o 0,o 0,d 0,d 0,.go,d 0,.go,o 3,.stop])
noncomputable def hA (w : World) : Nat → Int
 | 0 => kx w n0
 | 1 => kx w n1
 | 2 => kx w n2
 | 3 => kx w n3
 | 4 => kx w n4
 | 5 => kx w n5
 | 6 => kx w n6
 | _ => 0
noncomputable def qA (t : Nat) : Nat → Nat
 | 0 => t
 | 1 => t + 1
 | 2 => t + 2
 | 3 => t + 3
 | 4 => t + 4
 | 5 => t + 5
 | 6 => t + 7
 | _ => 0
theorem runA {w : World} {n t H R F N e : Nat} {nums : List Value} :
  chkS [0,1,2,3] (runC (vw w n t [N] [] 400 4000) 200 (.call (.ref 226) ⟨[.ref H,.ref R,.ref F,.ref N],[]⟩) true tpA [lst nums e]) (forD n (n + 3)) 1 4 8
   [some (fr7 (hA w) (qA t) H R F N (n + 1) (n + 2) 0 (t + 6)),some (lst [] 0),some (lst [] 0),some (itO (.ref N) 0)] [lst nums e] := by
 delta chkS
 intro om
 apply w1 (w := w) <;> kernel_rfl
theorem runB {om0 : G.Om} {w : World} {n t n' t' H R F N e : Nat} {nums : List Value} :
  chk [] (runK (vw w n' t' [] [] 400 4000) 20 (runC (vw w n t [N] [] 400 4000) 200 (.call (.ref 226) ⟨[.ref H,.ref R,.ref F,.ref N],[]⟩) true tpA [lst nums e] om0) (.ok .next) [] [])
   ⟨.fin (.ok (.ret .none)),0,0,[],[]⟩ := by
 delta chk
 intro om
 apply w1 (w := w) <;> kernel_rfl
noncomputable def tpE : List Tk := [d 0,.go,d 0,(.ctr 0 [.old 0,.old 1] [.old 0]),o 1,.go]
theorem runE {w : World} {n t fr it N e i : Nat} {nums : List Value} :
  chk [] (runC (vw w n t [it,N] [endC it N e i lsC none nums] 500 5000) 100 (forD fr it) false tpE [itO (.ref N) i,lst nums e])
   ⟨.fin (.ok .next),2,0,[],[itE i,lst nums e]⟩ := by
 delta chk
 intro om
 apply w1 (w := w) <;> kernel_rfl
end Mine
end
section
namespace Mine
structure Slot where
 a : Nat
 dd : Nat
 r : Nat
 g1 : Int
 t1 : Nat
 u : Nat
 e1 : Nat
 f : Int
 fu : Nat
 xs : List Nat
 ea : Nat
 rv : List Value
 er : Nat
 ks : List Nat
inductive All2 {α β : Type} (R : α → β → Prop) : List α → List β → Prop
 | nil : All2 R [] []
 | cons {a : α} {b : β} {l : List α} {m : List β} (h : R a b) (t : All2 R l m) : All2 R (a :: l) (b :: m)
namespace All2
variable {α β : Type} {R : α → β → Prop}
theorem length {l : List α} {m : List β} (h : All2 R l m) : l.length = m.length := by
 induction h with
 | nil => rfl
 | cons _ _ ih => simp [ih]
theorem append {l : List α} {m : List β} (h : All2 R l m) {l' : List α} {m' : List β} (h' : All2 R l' m') : All2 R (l ++ l') (m ++ m') := by
 induction h with
 | nil => exact h'
 | cons a _ ih => exact .cons a ih
theorem take {l : List α} {m : List β} (h : All2 R l m) : ∀ n : Nat,All2 R (l.take n) (m.take n) := by
 induction h with
 | nil => intro n; simp; exact .nil
 | cons a _ ih =>
  intro n
  cases n with
  | zero => exact .nil
  | succ n => exact .cons a (ih n)
theorem drop {l : List α} {m : List β} (h : All2 R l m) : ∀ n : Nat,All2 R (l.drop n) (m.drop n) := by
 induction h with
 | nil => intro n; simp; exact .nil
 | cons a t ih =>
  intro n
  cases n with
  | zero => exact .cons a t
  | succ n => exact ih n
theorem mono {R' : α → β → Prop} {l : List α} {m : List β} (h : All2 R l m) (k : ∀ a b,R a b → R' a b) : All2 R' l m := by
 induction h with
 | nil => exact .nil
 | cons a _ ih => exact .cons (k _ _ a) ih
end All2
noncomputable def Pcs (h : Heap) (xs ks : List Nat) : Prop := All2 (fun x k => k < 6 ∧ ∃ t,h.get? x = some (piece k t)) xs ks
noncomputable def Ints (rv : List Value) (ks : List Nat) : Prop := All2 (fun v k => ∃ t,v = .int (Int.ofNat k) t) rv ks
noncomputable def refs (l : List Nat) : List Value := l.map .ref
structure SlotAt (h : Heap) (S : Slot) : Prop where
 inst : h.get? S.a = some (inst S.dd (refs S.xs) S.ea)
 dct : h.get? S.dd = some (dct S.g1 S.t1 S.f S.u S.e1)
 row : h.get? S.r = some (lst S.rv S.er)
 pcs : Pcs h S.xs S.ks
 rint : Ints S.rv S.ks
 lowp : ∀ x ∈ S.xs,281 ≤ x
 fb : 0 ≤ S.f ∧ S.f ≤ 4
structure Cx where
 fr : Nat
 it : Nat
 N : Nat
 H : Nat
 R : Nat
 F : Nat
 eN : Nat
 eH : Nat
 eR : Nat
 eF : Nat
 nums : List Value
 ex : List (Nat × Obj)
noncomputable def Cx.fx (c : Cx) (sl : List Slot) : List Nat := [c.fr,c.it,c.N,c.H,c.R,c.F] ++ sl.flatMap fun S => [S.a,S.dd]
noncomputable def FrAt (c : Cx) (gv tn : Nat) (k : Int) (tk : Nat) (o : Obj) : Prop :=
 (∃ h q,o = fr7 h q c.H c.R c.F c.N gv tn k tk) ∨ ∃ h q x tx d td,o = fr9 h q c.H c.R c.F c.N gv tn k tk x tx d td
structure St (w : World) (c : Cx) (i : Nat) (sl : List Slot) (k tk gv tn : Nat) (gx gk : List Nat) (eg : Nat) (tv : List Value) (et : Nat) (s : Shared) : Prop where
 lit : ∀ a o,lkQ w.params a = some o → s.heap.get? a = some o
 frame : ∃ o,s.heap.get? c.fr = some o ∧ FrAt c gv tn (k : Int) tk o
 iter : s.heap.get? c.it = some (itO (.ref c.N) i)
 nums : s.heap.get? c.N = some (lst c.nums c.eN)
 heaps : s.heap.get? c.H = some (lst (sl.map fun S => .ref S.a) c.eH)
 rows : s.heap.get? c.R = some (lst (sl.map fun S => .ref S.r) c.eR)
 firsts : s.heap.get? c.F = some (lst (sl.map fun S => .int S.f S.fu) c.eF)
 slots : ∀ S ∈ sl,SlotAt s.heap S
 len3 : sl.length = 3
 turn : k < 3
 gave : s.heap.get? gv = some (lst (refs gx) eg)
 gpcs : Pcs s.heap gx gk
 taken : s.heap.get? tn = some (lst tv et)
 tints : Ints tv gk
 nodup : (c.fx sl).Nodup
 offr : ∀ S ∈ sl,S.r ∉ c.fx sl
 offg : gv ∉ c.fx sl
 offt : tn ∉ c.fx sl
 low : ∀ b ∈ c.fx sl,281 ≤ b
 lowr : ∀ S ∈ sl,281 ≤ S.r
 lowg : 281 ≤ gv
 lowt : 281 ≤ tn
 lowgx : ∀ x ∈ gx,281 ≤ x
 lens : ∀ S ∈ sl,S.xs.length ≤ 2 + i
 leng : gx.length ≤ 2 + i
 kept : ∀ p ∈ c.ex,s.heap.get? p.1 = some p.2
 offx : ∀ p ∈ c.ex,p.1 ∉ c.fx sl
theorem Behind.still {s s' : Shared} {n t : Nat} {L ks : List Nat} {x : Rslt} (B : Behind s s' n t L ks x) {b : Nat} {o : Obj} (hb : s.heap.get? b = some o) (h : ∀ i : Nat,L[i]? = some b → x.U[i]? = some o) : s'.heap.get? b = some o := by
 by_cases q : b ∈ L
 ·obtain ⟨i,hi⟩ := List.getElem?_of_mem q
  exact B.old i b o hi (h i hi)
 ·exact B.keep b o hb q
theorem Pcs.mono {h h' : Heap} {xs ks : List Nat} (P : Pcs h xs ks) (k : ∀ x k t,h.get? x = some (piece k t) → h'.get? x = some (piece k t)) : Pcs h' xs ks :=
 All2.mono P fun _ _ ⟨a1,t,a2⟩ => ⟨a1,t,k _ _ _ a2⟩
noncomputable def sameBut (Ch : List Nat) : List Nat → List Obj → List Obj → Prop
 | [],_,_ => True
 | b :: L,o :: U,o' :: U' => (b ∈ Ch ∨ o' = o) ∧ sameBut Ch L U U'
 | _ :: _,_,_ => False
theorem sameBut_get {Ch : List Nat} : ∀ {L : List Nat} {U U' : List Obj},sameBut Ch L U U' → ∀ (i b : Nat) (o : Obj),L[i]? = some b → b ∉ Ch → U[i]? = some o → U'[i]? = some o
 | [],_,_,_,i,b,o,h,_,_ => by simp at h
 | b₀ :: L,[],_,h,_,_,_,_,_,_ => by cases h
 | b₀ :: L,o₀ :: U,[],h,_,_,_,_,_,_ => by cases h
 | b₀ :: L,o₀ :: U,o₁ :: U',h,i,b,o,h1,h2,h3 => by
  cases i with
  | zero =>
   simp only [List.getElem?_cons_zero,Option.some.injEq] at h1 h3 ⊢
   subst h1; subst h3
   rcases h.1 with q | q
   ·exact (h2 q).elim
   ·exact q
  | succ i =>
   simp only [List.getElem?_cons_succ] at h1 h3 ⊢
   exact sameBut_get h.2 i b o h1 h2 h3
theorem Behind.but {s s' : Shared} {n t : Nat} {L ks : List Nat} {U : List Obj} {x : Rslt} (B : Behind s s' n t L ks x) {w : World} (S : Start w n t L U s) {Ch : List Nat} (h : sameBut Ch L U x.U) {b : Nat} {o : Obj} (hb : s.heap.get? b = some o) (hn : b ∉ Ch) : s'.heap.get? b = some o := by
 refine B.still hb fun i hi => ?_
 have hlt : i < U.length := by
  rw [S.len]
  exact (List.getElem?_eq_some_iff.mp hi).1
 have h1 : U[i]? = some U[i] := List.getElem?_eq_getElem hlt
 have h2 := S.old i b _ hi h1
 have h3 : U[i] = o := Option.some.inj (h2.symm.trans hb)
 exact sameBut_get h i b o hi hn (by rw [h1,h3])
section
variable {a b c d e f g h x : Nat}
theorem off2 (h1 : a ≠ x) (h2 : b ≠ x) : x ∉ [a,b] := by simp [h1.symm,h2.symm]
theorem off6 (h1 : a ≠ x) (h2 : b ≠ x) (h3 : c ≠ x) (h4 : d ≠ x) (h5 : x ≠ e) (h6 : x ≠ f) : x ∉ [a,b,c,d,e,f] := by simp [h1.symm,h2.symm,h3.symm,h4.symm,h5,h6]
theorem in26 (h : x ∈ [a,b]) : x ∈ [a,b,c,d,e,f] := List.mem_append_left [c,d,e,f] h
theorem in36 (h : x ∈ [a,b,c]) : x ∈ [a,b,c,d,e,f] := List.mem_append_left [d,e,f] h
theorem in26' (h : x ∈ [b,c]) : x ∈ [a,b,c,d,e,f] := List.mem_cons_of_mem _ (List.mem_append_left [d,e,f] h)
theorem in46 (h : x ∈ [a,b,c,e]) : x ∈ [a,b,c,d,e,f] := by
 simp only [List.mem_cons,List.not_mem_nil,or_false] at h ⊢
 rcases h with h | h | h | h <;> simp [h]
theorem in48 (h' : x ∈ [a,b,e,h]) : x ∈ [a,b,c,d,e,f,g,h] := by
 simp only [List.mem_cons,List.not_mem_nil,or_false] at h' ⊢
 rcases h' with h | h | h | h <;> simp [h]
theorem in68 (h' : x ∈ [a,b,e,f,h,g]) : x ∈ [a,b,c,d,e,f,g,h] := by
 simp only [List.mem_cons,List.not_mem_nil,or_false] at h' ⊢
 rcases h' with h | h | h | h | h | h <;> simp [h]
theorem nd8F (n : [a,b,c,d,e,f,g,h].Nodup) : f ∉ [a,b,e,h] :=
 (List.nodup_cons.mp ((List.perm_middle (l₁ := [a,b,e]) (l₂ := [h])).nodup_iff.mp (n.sublist (.cons_cons _ (.cons_cons _ (.cons _ (.cons _ (.cons_cons _ (.cons_cons _ (.cons _ (.cons_cons _ .slnil)))))))))) ).1
end
section
variable {w : World} {c : Cx} {i : Nat} {sl : List Slot} {k tk gv tn : Nat} {gx gk : List Nat} {eg : Nat} {tv : List Value} {et : Nat} {s : Shared}
theorem St.offLit (I : St w c i sl k tk gv tn gx gk eg tv et s) {b : Nat} (h : b ∈ c.fx sl) : lkQ w.params b = none := lkQ_low (I.low b h)
theorem St.nd6 (I : St w c i sl k tk gv tn gx gk eg tv et s) : [c.fr,c.it,c.N,c.H,c.R,c.F].Nodup := (List.nodup_append.mp I.nodup).1
theorem St.mem6 {b : Nat} (h : b ∈ [c.fr,c.it,c.N,c.H,c.R,c.F]) : b ∈ c.fx sl := List.mem_append_left _ h
theorem St.mem2 {S : Slot} (h : S ∈ sl) : S.a ∈ c.fx sl ∧ S.dd ∈ c.fx sl :=
 ⟨List.mem_append_right _ (List.mem_flatMap.mpr ⟨S,h,by simp⟩),List.mem_append_right _ (List.mem_flatMap.mpr ⟨S,h,by simp⟩)⟩
end
end Mine
end
section
open PySem.Calls PySem.SeqAt
namespace Mine
inductive OOp | lt | le | gt | ge
namespace OOp
noncomputable def op : OOp → CmpOp | .lt => .Lt | .le => .LtE | .gt => .Gt | .ge => .GtE
noncomputable def sv (a b : Str) : OOp → Bool
 | .lt => decide (a.cps.toList < b.cps.toList)
 | .le => !decide (b.cps.toList < a.cps.toList)
 | .gt => decide (b.cps.toList < a.cps.toList)
 | .ge => !decide (a.cps.toList < b.cps.toList)
noncomputable def nv (m n : Nat) : OOp → Bool
 | .lt => decide (m < n) | .le => decide (m ≤ n) | .gt => decide (m > n) | .ge => decide (m ≥ n)
noncomputable def lid : OOp → String | .lt => "list.__lt__" | .le => "list.__le__" | .gt => "list.__gt__" | .ge => "list.__ge__"
noncomputable def B : OOp → Builtin | .lt => Builtin.«tuple.__lt__» | .le => Builtin.«tuple.__le__» | .gt => Builtin.«tuple.__gt__» | .ge => Builtin.«tuple.__ge__»
end OOp
section
variable {prog : Program} {w : World} {A : Around} {E : Value → Shared → Prop} {s : Shared}
theorem str_rich (o : OOp) {a b : Str} {t u : Tok} {Q : Value → Shared → Prop} (h : Q (.bool (o.sv a b)) s) : wpAny (model prog w) A (richCompare o.op (.str a t) (.str b u)) Q E s := by
 cases o with
 | lt => exact richCompare_meets (op := .Lt) (S := fun _ R s => R (.ok (.ret (.bool (OOp.sv a b .lt)))) s) (typeIs_str s a t) (typeIs_str s b u) F.slot_str_lt F.entry_str_lt (F.args_str_lt_2 _ _) (fun prog w A R s h => wpAny_pure h) ⟨(fun x => nomatch x),h⟩
 | le => exact richCompare_meets (op := .LtE) (S := fun _ R s => R (.ok (.ret (.bool (OOp.sv a b .le)))) s) (typeIs_str s a t) (typeIs_str s b u) F.slot_str_le F.entry_str_le (F.args_str_le_2 _ _) (fun prog w A R s h => wpAny_pure h) ⟨(fun x => nomatch x),h⟩
 | gt => exact richCompare_meets (op := .Gt) (S := fun _ R s => R (.ok (.ret (.bool (OOp.sv a b .gt)))) s) (typeIs_str s a t) (typeIs_str s b u) F.slot_str_gt F.entry_str_gt (F.args_str_gt_2 _ _) (fun prog w A R s h => wpAny_pure h) ⟨(fun x => nomatch x),h⟩
 | ge => exact richCompare_meets (op := .GtE) (S := fun _ R s => R (.ok (.ret (.bool (OOp.sv a b .ge)))) s) (typeIs_str s a t) (typeIs_str s b u) F.slot_str_ge F.entry_str_ge (F.args_str_ge_2 _ _) (fun prog w A R s h => wpAny_pure h) ⟨(fun x => nomatch x),h⟩
theorem str_rich_lt {a b : Str} {t u : Tok} {Q : Value → Shared → Prop} (h : Q (.bool (OOp.sv a b .lt)) s) : wpAny (model prog w) A (richCompare .Lt (.str a t) (.str b u)) Q E s := str_rich .lt h
theorem str_rich_le {a b : Str} {t u : Tok} {Q : Value → Shared → Prop} (h : Q (.bool (OOp.sv a b .le)) s) : wpAny (model prog w) A (richCompare .LtE (.str a t) (.str b u)) Q E s := str_rich .le h
theorem str_rich_gt {a b : Str} {t u : Tok} {Q : Value → Shared → Prop} (h : Q (.bool (OOp.sv a b .gt)) s) : wpAny (model prog w) A (richCompare .Gt (.str a t) (.str b u)) Q E s := str_rich .gt h
theorem str_rich_ge {a b : Str} {t u : Tok} {Q : Value → Shared → Prop} (h : Q (.bool (OOp.sv a b .ge)) s) : wpAny (model prog w) A (richCompare .GtE (.str a t) (.str b u)) Q E s := str_rich .ge h
noncomputable def tupV (A1 B1 A2 B2 : Str) (o : OOp) : Bool := if A1 = A2 then o.sv B1 B2 else o.sv A1 A2
noncomputable def pair2 (a b : Str) (t u : Nat) : Obj := { cls := .type "tuple",data := .seq #[.str a t,.str b u] }
theorem tup_meets (o : OOp) (x y : Addr) (a1 b1 a2 b2 : Str) (t1 u1 t2 u2 : Nat) (hne : a1 = a2 → b1 ≠ b2) :
  Meets (o.B ⟨[.ref x,.ref y],[]⟩) (fun _ R s => s.heap.get? x = some (pair2 a1 b1 t1 u1) ∧ s.heap.get? y = some (pair2 a2 b2 t2 u2) ∧ R (.ok (.ret (.bool (tupV a1 b1 a2 b2 o)))) s) := by
 refine .of_wp fun prog w A R s h => ?_
 obtain ⟨hp,g,d,tk,os⟩ := s; obtain ⟨hl,hb,h⟩ := h
 have f2 := AutoSeq1.sub_tuple_tuple
 unfold pair2 at hl hb
 cases o with
 | lt =>
  wp_walk using AutoSeq1.wpAny_loadPart' hl,AutoSeq1.wpAny_loadPart' hb,wpAny_forIn_list _ (fun rest b s' => b.1 = none ∧ s' = ⟨hp,g,d,tk,os⟩ ∧ (rest = [(Value.str a1 t1,Value.str a2 t2),(Value.str b1 u1,Value.str b2 u2)] ∨ (rest = [(Value.str b1 u1,Value.str b2 u2)] ∧ a1 = a2))) _
  case turn =>
   rintro ⟨y,x⟩ rest b s' ⟨hb',rfl,hz⟩
   rcases hz with hz | ⟨hz,he⟩
   ·injection hz with hyx hrest
    injection hyx with h1 h2
    subst h1 h2
    refine wpAny_bind (wpAny_eqBool_str ?_)
    by_cases he : a1 = a2
    ·rw [decide_eq_true he]
     wp_walk
     exact ⟨rfl,rfl,.inr ⟨hrest,he⟩⟩
    ·rw [decide_eq_false he]
     wp_walk using str_rich_lt
     refine ⟨_,rfl,?_⟩
     unfold tupV at h
     rw [if_neg he] at h
     exact h
   ·injection hz with hyx hrest
    injection hyx with h1 h2
    subst h1 h2
    refine wpAny_bind (wpAny_eqBool_str ?_)
    rw [decide_eq_false (hne he)]
    wp_walk using str_rich_lt
    refine ⟨_,rfl,?_⟩
    unfold tupV at h
    rw [if_pos he] at h
    exact h
  case fin =>
   rintro ⟨b1,b2⟩ s' ⟨hb',rfl,hz⟩
   rcases hz with hz | ⟨hz,_⟩ <;> cases hz
  case h =>
   exact ⟨rfl,rfl,.inl rfl⟩
 | le =>
  wp_walk using AutoSeq1.wpAny_loadPart' hl,AutoSeq1.wpAny_loadPart' hb,wpAny_forIn_list _ (fun rest b s' => b.1 = none ∧ s' = ⟨hp,g,d,tk,os⟩ ∧ (rest = [(Value.str a1 t1,Value.str a2 t2),(Value.str b1 u1,Value.str b2 u2)] ∨ (rest = [(Value.str b1 u1,Value.str b2 u2)] ∧ a1 = a2))) _
  case turn =>
   rintro ⟨y,x⟩ rest b s' ⟨hb',rfl,hz⟩
   rcases hz with hz | ⟨hz,he⟩
   ·injection hz with hyx hrest
    injection hyx with h1 h2
    subst h1 h2
    refine wpAny_bind (wpAny_eqBool_str ?_)
    by_cases he : a1 = a2
    ·rw [decide_eq_true he]
     wp_walk
     exact ⟨rfl,rfl,.inr ⟨hrest,he⟩⟩
    ·rw [decide_eq_false he]
     wp_walk using str_rich_le
     refine ⟨_,rfl,?_⟩
     unfold tupV at h
     rw [if_neg he] at h
     exact h
   ·injection hz with hyx hrest
    injection hyx with h1 h2
    subst h1 h2
    refine wpAny_bind (wpAny_eqBool_str ?_)
    rw [decide_eq_false (hne he)]
    wp_walk using str_rich_le
    refine ⟨_,rfl,?_⟩
    unfold tupV at h
    rw [if_pos he] at h
    exact h
  case fin =>
   rintro ⟨b1,b2⟩ s' ⟨hb',rfl,hz⟩
   rcases hz with hz | ⟨hz,_⟩ <;> cases hz
  case h =>
   exact ⟨rfl,rfl,.inl rfl⟩
 | gt =>
  wp_walk using AutoSeq1.wpAny_loadPart' hl,AutoSeq1.wpAny_loadPart' hb,wpAny_forIn_list _ (fun rest b s' => b.1 = none ∧ s' = ⟨hp,g,d,tk,os⟩ ∧ (rest = [(Value.str a1 t1,Value.str a2 t2),(Value.str b1 u1,Value.str b2 u2)] ∨ (rest = [(Value.str b1 u1,Value.str b2 u2)] ∧ a1 = a2))) _
  case turn =>
   rintro ⟨y,x⟩ rest b s' ⟨hb',rfl,hz⟩
   rcases hz with hz | ⟨hz,he⟩
   ·injection hz with hyx hrest
    injection hyx with h1 h2
    subst h1 h2
    refine wpAny_bind (wpAny_eqBool_str ?_)
    by_cases he : a1 = a2
    ·rw [decide_eq_true he]
     wp_walk
     exact ⟨rfl,rfl,.inr ⟨hrest,he⟩⟩
    ·rw [decide_eq_false he]
     wp_walk using str_rich_gt
     refine ⟨_,rfl,?_⟩
     unfold tupV at h
     rw [if_neg he] at h
     exact h
   ·injection hz with hyx hrest
    injection hyx with h1 h2
    subst h1 h2
    refine wpAny_bind (wpAny_eqBool_str ?_)
    rw [decide_eq_false (hne he)]
    wp_walk using str_rich_gt
    refine ⟨_,rfl,?_⟩
    unfold tupV at h
    rw [if_pos he] at h
    exact h
  case fin =>
   rintro ⟨b1,b2⟩ s' ⟨hb',rfl,hz⟩
   rcases hz with hz | ⟨hz,_⟩ <;> cases hz
  case h =>
   exact ⟨rfl,rfl,.inl rfl⟩
 | ge =>
  wp_walk using AutoSeq1.wpAny_loadPart' hl,AutoSeq1.wpAny_loadPart' hb,wpAny_forIn_list _ (fun rest b s' => b.1 = none ∧ s' = ⟨hp,g,d,tk,os⟩ ∧ (rest = [(Value.str a1 t1,Value.str a2 t2),(Value.str b1 u1,Value.str b2 u2)] ∨ (rest = [(Value.str b1 u1,Value.str b2 u2)] ∧ a1 = a2))) _
  case turn =>
   rintro ⟨y,x⟩ rest b s' ⟨hb',rfl,hz⟩
   rcases hz with hz | ⟨hz,he⟩
   ·injection hz with hyx hrest
    injection hyx with h1 h2
    subst h1 h2
    refine wpAny_bind (wpAny_eqBool_str ?_)
    by_cases he : a1 = a2
    ·rw [decide_eq_true he]
     wp_walk
     exact ⟨rfl,rfl,.inr ⟨hrest,he⟩⟩
    ·rw [decide_eq_false he]
     wp_walk using str_rich_ge
     refine ⟨_,rfl,?_⟩
     unfold tupV at h
     rw [if_neg he] at h
     exact h
   ·injection hz with hyx hrest
    injection hyx with h1 h2
    subst h1 h2
    refine wpAny_bind (wpAny_eqBool_str ?_)
    rw [decide_eq_false (hne he)]
    wp_walk using str_rich_ge
    refine ⟨_,rfl,?_⟩
    unfold tupV at h
    rw [if_pos he] at h
    exact h
  case fin =>
   rintro ⟨b1,b2⟩ s' ⟨hb',rfl,hz⟩
   rcases hz with hz | ⟨hz,_⟩ <;> cases hz
  case h =>
   exact ⟨rfl,rfl,.inl rfl⟩
end
end Mine
end
section
namespace Mine
noncomputable def sSign : Str := ⟨#[95,108,97,119,95,115,105,103,110,46,60,108,111,99,97,108,115,62,46]⟩
noncomputable def forS (fr it : Nat) : Code := forOf (top 24) 0 it (envOf (top 24) fr 233 232 sSign)
noncomputable def nOne : Str := ⟨#[111,110,101]⟩
noncomputable def nTwo : Str := ⟨#[116,119,111]⟩
noncomputable def nK : Str := ⟨#[107]⟩
noncomputable def frS2 (h : Nat → Int) (q : Nat → Nat) (a b : Nat) : Obj := { cls := .type "frame",data := .dict #[de (h 0) nOne (q 0) (.ref a),de (h 1) nTwo (q 1) (.ref b)] 2 }
noncomputable def frS3 (h : Nat → Int) (q : Nat → Nat) (a b : Nat) (k : Nat) (tk : Nat) : Obj := { cls := .type "frame",data := .dict #[de (h 0) nOne (q 0) (.ref a),de (h 1) nTwo (q 1) (.ref b),de (h 2) nK (q 2) (.int (.ofNat k) tk)] 3 }
noncomputable def sgLoopX (fr it a b : Nat) (F0 : Obj) (i r : Nat) (xs : List Value) (ea : Nat) (ys : List Value) (eb : Nat) (res : (Nat → Nat) → Result) (F1 : (Nat → Nat) → Obj) (I1 : (Nat → Nat) → Obj) : G.XC :=
 {code := forS fr it,pre := [(fr,F0),(it,rniO i r),(a,lst xs ea),(b,lst ys eb)],res := res,upd := fun ω => [(fr,F1 ω),(it,I1 ω)],news := fun _ => [],dm := 870,um := 7400 }
end Mine
end
section
namespace Mine.G
noncomputable abbrev lsC' : Value := .type "list"
noncomputable def hK (w : World) (h : Nat → Int) : Nat → Int
 | 2 => PyData.keyHash w.params nK
 | j => h j
noncomputable def qK (q : Nat → Nat) (t : Nat) : Nat → Nat
 | 2 => t
 | j => q j
noncomputable def tpSE0 : List Tk := (cat tp71 (cat tp67 [.go,(.ctr 3 [] []),.stop]))
noncomputable def tpSE1 : List Tk := (cat tp71 [d 0,d 0,d 2,d 2,d 2,.go,d 2,(.ctr 1 [.old 2] []),d 0,d 0,d 2,d 2,d 2,.go,d 2,(.ctr 2 [.old 2] []),.go,(.ctr 3 [] []),.stop])
noncomputable def tpSN0 : List Tk := (cat tp71 (cat tp67 (cat [.go,(.ctr 3 [] [])] (cat tp67 [.go,(.ctr 4 [] []),.go,.go]))))
noncomputable def tpSN1 : List Tk := (cat tp71 (cat tp67 (cat [.go,(.ctr 3 [] [])] (cat tp67 [.go,(.ctr 4 [] [])]))))
noncomputable def z_sgE2 (w : World) (n t fr it a1 a2 i r e1 e2 : Nat) (h : Nat → Int) (q : Nat → Nat) (xs ys : List Value) : Rslt :=
 ⟨.tail (forS fr it) Sem.pure,n,0,t,2,[],[frS3 (hK w h) (qK q (t + 1)) a1 a2 i t,rniO (i + 1) r,lst xs e1,lst ys e2],[]⟩
theorem sgE2 {w : World} {n t fr it a1 a2 i r e1 e2 tx ty tk tk2 k x y : Nat} {om : Om} {h : Nat → Int} {q : Nat → Nat} {xs ys : List Value} :
  chk [] (runC PySem.W.Fast.mineEnt1 (vw w n t [fr,it,a1,a2] (fun _ => [rnextC it i r,getC a1 e1 lsC' none xs (.ofNat i) t (.int (.ofNat x) tx),getC a2 e2 lsC' none ys (.ofNat i) t (.int (.ofNat y) ty),icmpC .ne (.ofNat x) tx (.ofNat y) ty false]) (fun _ => []) om 880 7500) 100 (forS fr it) false tpSE0 [frS2 h q a1 a2,rniO i (r + 1),lst xs e1,lst ys e2]) (z_sgE2 w n t fr it a1 a2 i r e1 e2 h q xs ys) := by
 delta chk
 apply w1 (w := w) <;> kernel_rfl
noncomputable def z_sgE2s (w : World) (n t fr it a1 i r e1 : Nat) (h : Nat → Int) (q : Nat → Nat) (xs : List Value) : Rslt :=
 ⟨.tail (forS fr it) Sem.pure,n,0,t,2,[],[frS3 (hK w h) (qK q (t + 1)) a1 a1 i t,rniO (i + 1) r,lst xs e1],[]⟩
theorem sgE2s {w : World} {n t fr it a1 a2 i r e1 e2 tx ty tk tk2 k x y : Nat} {om : Om} {h : Nat → Int} {q : Nat → Nat} {xs ys : List Value} :
  chk [] (runC PySem.W.Fast.mineEnt1 (vw w n t [fr,it,a1] (fun _ => [rnextC it i r,getC a1 e1 lsC' none xs (.ofNat i) t (.int (.ofNat x) tx),getC a1 e1 lsC' none xs (.ofNat i) t (.int (.ofNat y) ty),icmpC .ne (.ofNat x) tx (.ofNat y) ty false]) (fun _ => []) om 880 7500) 100 (forS fr it) false tpSE1 [frS2 h q a1 a1,rniO i (r + 1),lst xs e1]) (z_sgE2s w n t fr it a1 i r e1 h q xs) := by
 delta chk
 apply w1 (w := w) <;> kernel_rfl
noncomputable def z_sgG2 (w : World) (n t a1 a2 i r e1 e2 : Nat) (h : Nat → Int) (q : Nat → Nat) (xs ys : List Value) : Rslt :=
 ⟨.fin (.ok (.ret (.int 1 (t + 2)))),n,0,t,3,[],[frS3 (hK w h) (qK q (t + 1)) a1 a2 i t,rniO (i + 1) r,lst xs e1,lst ys e2],[]⟩
theorem sgG2 {w : World} {n t fr it a1 a2 i r e1 e2 tx ty tk tk2 k x y : Nat} {om : Om} {h : Nat → Int} {q : Nat → Nat} {xs ys : List Value} :
  chk [] (runC PySem.W.Fast.mineEnt1 (vw w n t [fr,it,a1,a2] (fun _ => [rnextC it i r,getC a1 e1 lsC' none xs (.ofNat i) t (.int (.ofNat x) tx),getC a2 e2 lsC' none ys (.ofNat i) t (.int (.ofNat y) ty),icmpC .ne (.ofNat x) tx (.ofNat y) ty true,icmpC .gt (.ofNat x) tx (.ofNat y) ty true]) (fun _ => []) om 880 7500) 100 (forS fr it) false tpSN1 [frS2 h q a1 a2,rniO i (r + 1),lst xs e1,lst ys e2]) (z_sgG2 w n t a1 a2 i r e1 e2 h q xs ys) := by
 delta chk
 apply w1 (w := w) <;> kernel_rfl
noncomputable def z_sgL2 (w : World) (n t a1 a2 i r e1 e2 : Nat) (h : Nat → Int) (q : Nat → Nat) (xs ys : List Value) : Rslt :=
 ⟨.fin (.ok (.ret (.int (-1) (t + 3)))),n,0,t,4,[],[frS3 (hK w h) (qK q (t + 1)) a1 a2 i t,rniO (i + 1) r,lst xs e1,lst ys e2],[]⟩
theorem sgL2 {w : World} {n t fr it a1 a2 i r e1 e2 tx ty tk tk2 k x y : Nat} {om : Om} {h : Nat → Int} {q : Nat → Nat} {xs ys : List Value} :
  chk [] (runC PySem.W.Fast.mineEnt1 (vw w n t [fr,it,a1,a2] (fun _ => [rnextC it i r,getC a1 e1 lsC' none xs (.ofNat i) t (.int (.ofNat x) tx),getC a2 e2 lsC' none ys (.ofNat i) t (.int (.ofNat y) ty),icmpC .ne (.ofNat x) tx (.ofNat y) ty true,icmpC .gt (.ofNat x) tx (.ofNat y) ty false]) (fun _ => []) om 880 7500) 100 (forS fr it) false tpSN0 [frS2 h q a1 a2,rniO i (r + 1),lst xs e1,lst ys e2]) (z_sgL2 w n t a1 a2 i r e1 e2 h q xs ys) := by
 delta chk
 apply w1 (w := w) <;> kernel_rfl
noncomputable def z_sgE3 (w : World) (n t fr it a1 a2 i r e1 e2 tk2 : Nat) (h : Nat → Int) (q : Nat → Nat) (xs ys : List Value) : Rslt :=
 ⟨.tail (forS fr it) Sem.pure,n,0,t,2,[],[frS3 (hK w h) (qK q tk2) a1 a2 i t,rniO (i + 1) r,lst xs e1,lst ys e2],[]⟩
theorem sgE3 {w : World} {n t fr it a1 a2 i r e1 e2 tx ty tk tk2 k x y : Nat} {om : Om} {h : Nat → Int} {q : Nat → Nat} {xs ys : List Value} :
  chk [] (runC PySem.W.Fast.mineEnt1 (vw w n t [fr,it,a1,a2] (fun _ => [rnextC it i r,getC a1 e1 lsC' none xs (.ofNat i) t (.int (.ofNat x) tx),getC a2 e2 lsC' none ys (.ofNat i) t (.int (.ofNat y) ty),icmpC .ne (.ofNat x) tx (.ofNat y) ty false]) (fun _ => []) om 880 7500) 100 (forS fr it) false tpSE0 [frS3 (hK w h) (qK q tk2) a1 a2 k tk,rniO i (r + 1),lst xs e1,lst ys e2]) (z_sgE3 w n t fr it a1 a2 i r e1 e2 tk2 h q xs ys) := by
 delta chk
 apply w1 (w := w) <;> kernel_rfl
noncomputable def z_sgE3s (w : World) (n t fr it a1 i r e1 tk2 : Nat) (h : Nat → Int) (q : Nat → Nat) (xs : List Value) : Rslt :=
 ⟨.tail (forS fr it) Sem.pure,n,0,t,2,[],[frS3 (hK w h) (qK q tk2) a1 a1 i t,rniO (i + 1) r,lst xs e1],[]⟩
theorem sgE3s {w : World} {n t fr it a1 a2 i r e1 e2 tx ty tk tk2 k x y : Nat} {om : Om} {h : Nat → Int} {q : Nat → Nat} {xs ys : List Value} :
  chk [] (runC PySem.W.Fast.mineEnt1 (vw w n t [fr,it,a1] (fun _ => [rnextC it i r,getC a1 e1 lsC' none xs (.ofNat i) t (.int (.ofNat x) tx),getC a1 e1 lsC' none xs (.ofNat i) t (.int (.ofNat y) ty),icmpC .ne (.ofNat x) tx (.ofNat y) ty false]) (fun _ => []) om 880 7500) 100 (forS fr it) false tpSE1 [frS3 (hK w h) (qK q tk2) a1 a1 k tk,rniO i (r + 1),lst xs e1]) (z_sgE3s w n t fr it a1 i r e1 tk2 h q xs) := by
 delta chk
 apply w1 (w := w) <;> kernel_rfl
noncomputable def z_sgG3 (w : World) (n t a1 a2 i r e1 e2 tk2 : Nat) (h : Nat → Int) (q : Nat → Nat) (xs ys : List Value) : Rslt :=
 ⟨.fin (.ok (.ret (.int 1 (t + 2)))),n,0,t,3,[],[frS3 (hK w h) (qK q tk2) a1 a2 i t,rniO (i + 1) r,lst xs e1,lst ys e2],[]⟩
theorem sgG3 {w : World} {n t fr it a1 a2 i r e1 e2 tx ty tk tk2 k x y : Nat} {om : Om} {h : Nat → Int} {q : Nat → Nat} {xs ys : List Value} :
  chk [] (runC PySem.W.Fast.mineEnt1 (vw w n t [fr,it,a1,a2] (fun _ => [rnextC it i r,getC a1 e1 lsC' none xs (.ofNat i) t (.int (.ofNat x) tx),getC a2 e2 lsC' none ys (.ofNat i) t (.int (.ofNat y) ty),icmpC .ne (.ofNat x) tx (.ofNat y) ty true,icmpC .gt (.ofNat x) tx (.ofNat y) ty true]) (fun _ => []) om 880 7500) 100 (forS fr it) false tpSN1 [frS3 (hK w h) (qK q tk2) a1 a2 k tk,rniO i (r + 1),lst xs e1,lst ys e2]) (z_sgG3 w n t a1 a2 i r e1 e2 tk2 h q xs ys) := by
 delta chk
 apply w1 (w := w) <;> kernel_rfl
noncomputable def z_sgL3 (w : World) (n t a1 a2 i r e1 e2 tk2 : Nat) (h : Nat → Int) (q : Nat → Nat) (xs ys : List Value) : Rslt :=
 ⟨.fin (.ok (.ret (.int (-1) (t + 3)))),n,0,t,4,[],[frS3 (hK w h) (qK q tk2) a1 a2 i t,rniO (i + 1) r,lst xs e1,lst ys e2],[]⟩
theorem sgL3 {w : World} {n t fr it a1 a2 i r e1 e2 tx ty tk tk2 k x y : Nat} {om : Om} {h : Nat → Int} {q : Nat → Nat} {xs ys : List Value} :
  chk [] (runC PySem.W.Fast.mineEnt1 (vw w n t [fr,it,a1,a2] (fun _ => [rnextC it i r,getC a1 e1 lsC' none xs (.ofNat i) t (.int (.ofNat x) tx),getC a2 e2 lsC' none ys (.ofNat i) t (.int (.ofNat y) ty),icmpC .ne (.ofNat x) tx (.ofNat y) ty true,icmpC .gt (.ofNat x) tx (.ofNat y) ty false]) (fun _ => []) om 880 7500) 100 (forS fr it) false tpSN0 [frS3 (hK w h) (qK q tk2) a1 a2 k tk,rniO i (r + 1),lst xs e1,lst ys e2]) (z_sgL3 w n t a1 a2 i r e1 e2 tk2 h q xs ys) := by
 delta chk
 apply w1 (w := w) <;> kernel_rfl
noncomputable def tpSEnd : List Tk := [d 0,.go,d 0,(.ctr 0 [.old 0] []),o 1,.go]
theorem sgEnd {w : World} {n t fr it i : Nat} {om : Om} : chk [] (runC PySem.W.Fast.mineEnt1 (vw w n t [it] (fun _ => [rendC it i]) (fun _ => []) om 880 7500) 100 (forS fr it) false tpSEnd [rniO i 0])
   ⟨.fin (.ok .next),n,2,t,0,[],[rniO i 0],[]⟩ := by
 delta chk
 apply w1 (w := w) <;> kernel_rfl
end Mine.G
end
section
namespace Mine
section
variable {w : World} {c : Cx} {i : Nat} {sl : List Slot} {k tk gv tn : Nat} {gx gk : List Nat} {eg : Nat} {tv : List Value} {et : Nat} {s : Shared} {A : Around} {Q : Result → Shared → Prop}
theorem forD_ok {fr it : Nat} : okCode (forD fr it) = true := by kernel_rfl
theorem St.turn9 (I : St w c i sl k tk gv tn gx gk eg tv et s) {s' : Shared} {k' tk' : Nat} (hk : ∀ (b : Nat) o,s.heap.get? b = some o → b ∉ [c.fr,c.it] → s'.heap.get? b = some o)
  (hf : ∃ o,s'.heap.get? c.fr = some o ∧ FrAt c gv tn (k' : Int) tk' o) (hi : s'.heap.get? c.it = some (itO (.ref c.N) (i + 1))) (h3 : k' < 3) : St w c (i + 1) sl k' tk' gv tn gx gk eg tv et s' := by
 have nd := I.nd6
 simp only [List.nodup_cons,List.mem_cons,List.not_mem_nil,or_false,not_or,not_false_eq_true,List.nodup_nil,and_true] at nd
 obtain ⟨⟨a1,a2,a3,a4,a5⟩,⟨b1,b2,b3,b4⟩,⟨c1,c2,c3⟩,⟨d1,d2⟩,e1⟩ := nd
 have off : ∀ b : Nat,b ∉ c.fx sl → b ∉ [c.fr,c.it] := fun b hb h => hb (List.mem_append_left _ (in26 h))
 have offS : ∀ S ∈ sl,S.a ∉ [c.fr,c.it] ∧ S.dd ∉ [c.fr,c.it] := by
  intro S hS
  have dj := (List.nodup_append.mp I.nodup).2.2
  have m1 : S.a ∈ sl.flatMap fun S => [S.a,S.dd] := List.mem_flatMap.mpr ⟨S,hS,by simp⟩
  have m2 : S.dd ∈ sl.flatMap fun S => [S.a,S.dd] := List.mem_flatMap.mpr ⟨S,hS,by simp⟩
  constructor
  ·intro h
   exact dj S.a (in26 h) S.a m1 rfl
  ·intro h
   exact dj S.dd (in26 h) S.dd m2 rfl
 have hp : ∀ x k t,s.heap.get? x = some (piece k t) → s'.heap.get? x = some (piece k t) := by
  intro x k t h
  refine hk x _ h fun hm => ?_
  simp only [List.mem_cons,List.not_mem_nil,or_false] at hm
  obtain ⟨o,ho,hfr⟩ := I.frame
  rcases hm with rfl | rfl
  ·rw [h] at ho
   cases ho
   rcases hfr with ⟨_,_,q⟩ | ⟨_,_,_,_,_,_,q⟩ <;> exact absurd (congrArg Obj.cls q) (by simp [piece,fr7,fr9])
  ·have := I.iter
   rw [h] at this
   exact absurd (congrArg Obj.cls (Option.some.inj this)) (by simp [piece,itO])
 exact
    {lit := fun a o h => hk a o (I.lit a o h) (fun hm => by
      have h0 := I.offLit (b := a) (List.mem_append_left _ (in26 hm))
      rw [h0] at h; cases h)
     frame := hf,iter := hi
     nums := hk _ _ I.nums (off2 a2 b1)
     heaps := hk _ _ I.heaps (off2 a3 b2)
     rows := hk _ _ I.rows (off2 a4 b3)
     firsts := hk _ _ I.firsts (off2 a5 b4)
     slots := fun S hS => by
      have X := I.slots S hS
      exact ⟨hk _ _ X.inst (offS S hS).1,hk _ _ X.dct (offS S hS).2,hk _ _ X.row (off _ (I.offr S hS)),X.pcs.mono hp,X.rint,X.lowp,X.fb⟩
     len3 := I.len3,turn := h3
     gave := hk _ _ I.gave (off _ I.offg)
     gpcs := I.gpcs.mono hp
     taken := hk _ _ I.taken (off _ I.offt)
     tints := I.tints,nodup := I.nodup,offr := I.offr,offg := I.offg,offt := I.offt,low := I.low,lowr := I.lowr,lowg := I.lowg,lowt := I.lowt,lowgx := I.lowgx
     lens := fun S hS => Nat.le_succ_of_le (I.lens S hS),leng := Nat.le_succ_of_le I.leng
     kept := fun p hp => hk _ _ (I.kept p hp) (off _ (I.offx p hp)),offx := I.offx }
theorem step9 (I : St w c i sl k tk gv tn gx gk eg tv et s) (hd : A.depth ≤ 500) (hu : A.units ≤ 5000) (hh : A.handled = none) {x : Int} {tx : Nat} (hx : c.nums[i]? = some (.int x tx)) (h9 : x.fmod 10 = 9)
  (q : ∀ s' tk',St w c (i + 1) sl ((k + 1) % 3) tk' gv tn gx gk eg tv et s' → (AllBare s.gens → AllBare s'.gens) → s'.os = s.os → codeAny (model prg w) A (forD c.fr c.it) Q s') : codeAny (model prg w) A (forD c.fr c.it) Q s := by
 have nd := I.nd6
 have nd3 : [c.fr,c.it,c.N].Nodup := nd.sublist (.cons_cons _ (.cons_cons _ (.cons_cons _ (List.nil_sublist _))))
 have off3 : ∀ a ∈ [c.fr,c.it,c.N],lkQ w.params a = none := fun a h => I.offLit (List.mem_append_left _ (in36 h))
 have hk3 : ((k : Int) + 1).fmod 3 = (((k + 1) % 3 : Nat) : Int) := by
  have := I.turn
  have : k = 0 ∨ k = 1 ∨ k = 2 := by lia
  rcases this with rfl | rfl | rfl <;> decide
 have hlt : (k + 1) % 3 < 3 := Nat.mod_lt _ (by decide)
 have CO : ∀ C ∈ [nxt c.it c.N c.eN i c.nums x tx,modC x tx 10 (s.toks + 1) 9,modC ((k : Int) + 1) (s.toks + 9) 3 (s.toks + 10) (((k + 1) % 3 : Nat) : Int)],CtrOk w C := by
  intro C hC
  revert C
  refine ac ?_ (ac ?_ (ac ?_ (an)))
  ·exact next_ok hx
  ·exact mod_ok (by decide) h9
  ·exact mod_ok (by decide) hk3
 obtain ⟨o,ho,hf⟩ := I.frame
 have fin : ∀ (f0 f1 : Obj) (x' : Rslt) (s' : Shared),s.heap.get? c.fr = some f0 → FrAt c gv tn (((k + 1) % 3 : Nat) : Int) (s.toks + 11) f1 → Start w s.heap.objs.size s.toks [c.fr,c.it,c.N] [f0,itO (.ref c.N) i,lst c.nums c.eN] s →
   x'.U = [f1,itO (.ref c.N) (i + 1),lst c.nums c.eN] → Behind s s' s.heap.objs.size s.toks [c.fr,c.it,c.N] [] x' → codeAny (model prg w) A (forD c.fr c.it) Q s' := by
  intro f0 f1 x' s' h0 h1 S hU B
  refine q s' _ (I.turn9 (fun b o hb hn => B.but S (Ch := [c.fr,c.it]) ?_ hb hn) ⟨f1,B.old 0 _ _ rfl (by rw [hU]; rfl),h1⟩ (B.old 1 _ _ rfl (by rw [hU]; rfl)) hlt) B.bare B.os
  rw [hU]
  exact ⟨.inl (by simp),.inl (by simp),.inr rfl,trivial⟩
 have start : ∀ f0,s.heap.get? c.fr = some f0 → Start w s.heap.objs.size s.toks [c.fr,c.it,c.N] [f0,itO (.ref c.N) i,lst c.nums c.eN] s := by
  intro f0 h0
  refine start_of nd3 off3 rfl I.lit ?_
  intro p hp
  revert p
  refine zc ?_ (zc ?_ (zc ?_ (zn)))
  ·exact h0
  ·exact I.iter
  ·exact I.nums
 rcases hf with ⟨h,qq,rfl⟩ | ⟨h,qq,x0,tx0,d0,td0,rfl⟩
 ·have h1 := turn9a (w := w) (n := s.heap.objs.size) (t := s.toks) (fr := c.fr) (it := c.it) (N := c.N) (H := c.H) (R := c.R) (F := c.F) (gv := gv) (tn := tn) (i := i) (e := c.eN) (tk := tk) (tx := tx) (h := h) (q := qq) (k := (k : Int)) (x := x) (nums := c.nums) (k' := (((k + 1) % 3 : Nat) : Int))
  refine run_code (start _ ho) CO hd hu hh forD_ok (by decide) h1 fun s' B => ⟨rfl,?_⟩
  exact fin _ _ _ s' ho (.inr ⟨_,_,_,_,_,_,rfl⟩) (start _ ho) rfl B
 ·have h1 := turn9b (w := w) (n := s.heap.objs.size) (t := s.toks) (fr := c.fr) (it := c.it) (N := c.N) (H := c.H) (R := c.R) (F := c.F) (gv := gv) (tn := tn) (i := i) (e := c.eN) (tk := tk) (tx := tx) (h := h) (q := qq) (k := (k : Int)) (x := x) (nums := c.nums) (k' := (((k + 1) % 3 : Nat) : Int)) (x0 := x0) (d0 := d0) (tx0 := tx0) (td0 := td0)
  refine run_code (start _ ho) CO hd hu hh forD_ok (by decide) h1 fun s' B => ⟨rfl,?_⟩
  exact fin _ _ _ s' ho (.inr ⟨_,_,_,_,_,_,rfl⟩) (start _ ho) rfl B
end
end Mine
end
section
namespace Mine
theorem three {α : Type} {l : List α} (h : l.length = 3) : ∃ a b c,l = [a,b,c] := by
 match l,h with
 | [a,b,c],_ => exact ⟨a,b,c,rfl⟩
section
variable {w : World} {c : Cx} {i : Nat} {sl : List Slot} {k tk gv tn : Nat} {gx gk : List Nat} {eg : Nat} {tv : List Value} {et : Nat} {s : Shared} {A : Around} {Q : Result → Shared → Prop}
theorem apart (nd : (c.fx sl).Nodup) {j k : Nat} {T S : Slot} (hj : sl[j]? = some T) (hk : sl[k]? = some S) (hne : j ≠ k) : T.a ≠ S.a ∧ T.a ≠ S.dd ∧ T.dd ≠ S.a ∧ T.dd ≠ S.dd := by
 have n2 := (List.nodup_append.mp nd).2.1
 clear nd
 induction sl generalizing j k with
 | nil => simp at hj
 | cons X r ih =>
  simp only [List.flatMap_cons] at n2
  have z := List.nodup_append.mp n2
  have far : ∀ (m : Nat) (Y : Slot),r[m]? = some Y → X.a ≠ Y.a ∧ X.a ≠ Y.dd ∧ X.dd ≠ Y.a ∧ X.dd ≠ Y.dd := by
   intro m Y hY
   have hm : Y ∈ r := List.mem_of_getElem? hY
   have m1 : Y.a ∈ r.flatMap fun S => [S.a,S.dd] := List.mem_flatMap.mpr ⟨Y,hm,by simp⟩
   have m2 : Y.dd ∈ r.flatMap fun S => [S.a,S.dd] := List.mem_flatMap.mpr ⟨Y,hm,by simp⟩
   exact ⟨z.2.2 X.a (by simp) _ m1,z.2.2 X.a (by simp) _ m2,z.2.2 X.dd (by simp) _ m1,z.2.2 X.dd (by simp) _ m2⟩
  cases j with
  | zero =>
   cases k with
   | zero => exact (hne rfl).elim
   | succ k =>
    simp only [List.getElem?_cons_zero,List.getElem?_cons_succ,Option.some.injEq] at hj hk
    subst hj
    exact far k S hk
  | succ j =>
   cases k with
   | zero =>
    simp only [List.getElem?_cons_zero,List.getElem?_cons_succ,Option.some.injEq] at hj hk
    subst hk
    obtain ⟨p1,p2,p3,p4⟩ := far j T hj
    exact ⟨p1.symm,p3.symm,p2.symm,p4.symm⟩
   | succ k =>
    simp only [List.getElem?_cons_succ] at hj hk
    exact ih hj hk (fun q => hne (by rw [q])) z.2.1
theorem fx_set {S S' : Slot} (hS : sl[k]? = some S) (ha : S'.a = S.a) (hd : S'.dd = S.dd) : c.fx (sl.set k S') = c.fx sl := by
 unfold Cx.fx
 congr 1
 induction sl generalizing k with
 | nil => simp at hS
 | cons X r ih =>
  cases k with
  | zero =>
   simp only [List.getElem?_cons_zero,Option.some.injEq] at hS
   subst hS
   simp [ha,hd]
  | succ k =>
   simp only [List.getElem?_cons_succ] at hS
   simp only [List.set_cons_succ,List.flatMap_cons,ih hS]
theorem map_a {S S' : Slot} (hS : sl[k]? = some S) (ha : S'.a = S.a) : ((sl.set k S').map fun S => Value.ref S.a) = sl.map fun S => Value.ref S.a := by
 induction sl generalizing k with
 | nil => rfl
 | cons X r ih =>
  cases k with
  | zero =>
   simp only [List.getElem?_cons_zero,Option.some.injEq] at hS
   subst hS
   simp [ha]
  | succ k =>
   simp only [List.getElem?_cons_succ] at hS
   simp only [List.set_cons_succ,List.map_cons,ih hS]
theorem St.step (I : St w c i sl k tk gv tn gx gk eg tv et s) {s' : Shared} {S S' : Slot} {tk' gv' tn' : Nat} {gx' gk' : List Nat} {eg' : Nat} {tv' : List Value} {et' : Nat} (hS : sl[k]? = some S) (ha : S'.a = S.a) (hdd : S'.dd = S.dd)
  (hk : ∀ (b : Nat) o,s.heap.get? b = some o → b ∉ [c.fr,c.it,c.R,c.F,S.a,S.dd] → s'.heap.get? b = some o)
  (hf : ∃ o,s'.heap.get? c.fr = some o ∧ FrAt c gv' tn' (k : Int) tk' o) (hi : s'.heap.get? c.it = some (itO (.ref c.N) (i + 1)))
  (hR : s'.heap.get? c.R = some (lst ((sl.set k S').map fun S => .ref S.r) c.eR)) (hF : s'.heap.get? c.F = some (lst ((sl.set k S').map fun S => .int S.f S.fu) c.eF))
  (hS' : SlotAt s'.heap S') (hg : s'.heap.get? gv' = some (lst (refs gx') eg')) (hgp : Pcs s'.heap gx' gk') (ht : s'.heap.get? tn' = some (lst tv' et')) (hti : Ints tv' gk')
  (or : S'.r ∉ c.fx sl) (og : gv' ∉ c.fx sl) (ot : tn' ∉ c.fx sl) (lr : 281 ≤ S'.r) (lg : 281 ≤ gv') (lt : 281 ≤ tn') (ln : S'.xs.length ≤ 2 + (i + 1)) (lgx : gx'.length ≤ 2 + (i + 1)) (lwx : ∀ x ∈ gx',281 ≤ x) :
  St w c (i + 1) (sl.set k S') k tk' gv' tn' gx' gk' eg' tv' et' s' := by
 have nd := I.nd6
 simp only [List.nodup_cons,List.mem_cons,List.not_mem_nil,or_false,not_or,not_false_eq_true,List.nodup_nil,and_true] at nd
 obtain ⟨⟨a1,a2,a3,a4,a5⟩,⟨b1,b2,b3,b4⟩,⟨c1,c2,c3⟩,⟨d1,d2⟩,e1⟩ := nd
 have hmS : S ∈ sl := List.mem_of_getElem? hS
 have dj := (List.nodup_append.mp I.nodup).2.2
 have far : ∀ T ∈ sl,∀ b : Nat,b ∈ [c.fr,c.it,c.N,c.H,c.R,c.F] → b ≠ T.a ∧ b ≠ T.dd := by
  intro T hT b hb
  exact ⟨dj b hb T.a (List.mem_flatMap.mpr ⟨T,hT,by simp⟩),dj b hb T.dd (List.mem_flatMap.mpr ⟨T,hT,by simp⟩)⟩
 have inFx : ∀ b : Nat,b ∈ [c.fr,c.it,c.R,c.F,S.a,S.dd] → b ∈ c.fx sl := by
  intro b hb
  revert b
  refine ac ?_ (ac ?_ (ac ?_ (ac ?_ (ac ?_ (ac ?_ (an))))))
  ·exact List.mem_append_left _ (by simp)
  ·exact List.mem_append_left _ (by simp)
  ·exact List.mem_append_left _ (by simp)
  ·exact List.mem_append_left _ (by simp)
  ·exact (St.mem2 hmS).1
  ·exact (St.mem2 hmS).2
 have fxs := fx_set (c := c) hS ha hdd
 have X := I.slots S hmS
 have hp : ∀ x k t,s.heap.get? x = some (piece k t) → s'.heap.get? x = some (piece k t) := by
  intro x k t h
  refine hk x _ h fun hm => ?_
  simp only [List.mem_cons,List.not_mem_nil,or_false] at hm
  obtain ⟨o,ho,hfr⟩ := I.frame
  rcases hm with rfl | rfl | rfl | rfl | rfl | rfl
  ·rw [h] at ho
   cases ho
   rcases hfr with ⟨_,_,q⟩ | ⟨_,_,_,_,_,_,q⟩ <;> exact absurd (congrArg Obj.cls q) (by simp [piece,fr7,fr9])
  ·have z := I.iter
   rw [h] at z
   exact absurd (congrArg Obj.cls (Option.some.inj z)) (by simp [piece,itO])
  ·have z := I.rows
   rw [h] at z
   exact absurd (congrArg Obj.cls (Option.some.inj z)) (by simp [piece,lst])
  ·have z := I.firsts
   rw [h] at z
   exact absurd (congrArg Obj.cls (Option.some.inj z)) (by simp [piece,lst])
  ·have z := X.inst
   rw [h] at z
   exact absurd (congrArg Obj.cls (Option.some.inj z)) (by simp [piece,inst])
  ·have z := X.dct
   rw [h] at z
   exact absurd (congrArg Obj.cls (Option.some.inj z)) (by simp [piece,dct])
 have cases' : ∀ T ∈ sl.set k S',T = S' ∨ ∃ j,j ≠ k ∧ sl[j]? = some T := by
  intro T hT
  obtain ⟨j,hj⟩ := List.getElem?_of_mem hT
  rw [List.getElem?_set] at hj
  split at hj
  ·split at hj
   ·exact .inl (Option.some.inj hj).symm
   ·cases hj
  ·rename_i q
   exact .inr ⟨j,Ne.symm q,hj⟩
 exact
    {lit := fun a o h => hk a o (I.lit a o h) (fun hm => by
      have h0 := I.offLit (b := a) (inFx a hm)
      rw [h0] at h; cases h)
     frame := hf,iter := hi
     nums := hk _ _ I.nums (off6 a2 b1 (Ne.symm c2) (Ne.symm c3) (far S hmS c.N (by simp)).1 (far S hmS c.N (by simp)).2)
     heaps := by
      rw [map_a hS ha]
      exact hk _ _ I.heaps (off6 a3 b2 (Ne.symm d1) (Ne.symm d2) (far S hmS c.H (by simp)).1 (far S hmS c.H (by simp)).2)
     rows := hR,firsts := hF
     slots := fun T hT => by
      rcases cases' T hT with rfl | ⟨j,hj,hT⟩
      ·exact hS'
      ·have Y := I.slots T (List.mem_of_getElem? hT)
       obtain ⟨p1,p2,p3,p4⟩ := apart I.nodup hT hS hj
       have q1 := fun b hb => far T (List.mem_of_getElem? hT) b hb
       have f1 := q1 c.fr (by simp)
       have f2 := q1 c.it (by simp)
       have f3 := q1 c.R (by simp)
       have f4 := q1 c.F (by simp)
       exact ⟨hk _ _ Y.inst (off6 f1.1 f2.1 f3.1 f4.1 p1 p2),hk _ _ Y.dct (off6 f1.2 f2.2 f3.2 f4.2 p3 p4),hk _ _ Y.row (fun hm => I.offr T (List.mem_of_getElem? hT) (inFx _ hm)),Y.pcs.mono hp,Y.rint,Y.lowp,Y.fb⟩
     len3 := by rw [List.length_set]; exact I.len3
     turn := I.turn
     gave := hg,gpcs := hgp,taken := ht,tints := hti
     nodup := by rw [fxs]; exact I.nodup
     offr := fun T hT => by
      rw [fxs]
      rcases cases' T hT with rfl | ⟨j,hj,hT⟩
      ·exact or
      ·exact I.offr T (List.mem_of_getElem? hT)
     offg := by rw [fxs]; exact og
     offt := by rw [fxs]; exact ot
     low := by rw [fxs]; exact I.low
     lowr := fun T hT => by
      rcases cases' T hT with rfl | ⟨j,hj,hT⟩
      ·exact lr
      ·exact I.lowr T (List.mem_of_getElem? hT)
     lowg := lg,lowt := lt,lowgx := lwx
     lens := fun T hT => by
      rcases cases' T hT with rfl | ⟨j,hj,hT⟩
      ·exact ln
      ·exact Nat.le_succ_of_le (I.lens T (List.mem_of_getElem? hT))
     leng := lgx
     kept := fun p hp => hk _ _ (I.kept p hp) fun hm => I.offx p hp (inFx _ hm)
     offx := fun p hp => by rw [fxs]; exact I.offx p hp }
end
end Mine
end
section
namespace Mine
theorem turnPa {w : World} {n t fr it N H R F gv tn i e tk tx kd : Nat} {h : Nat → Int} {q : Nat → Nat} {k x : Int} {nums : List Value} {hs rs : List Value} {eh er : Nat} {a dd r : Nat} {g1 f1 : Int} {t1 u e1 : Nat} {xs : List Value} {ea : Nat} {row : List Value} {rs' : Nat → List Value} {el : Nat} (hkd : kd < 6) :
  chk [13,15] (runC (vw w n t [fr,it,N,H,R,dd,a,r] [nxt it N e i nums x tx,modC x tx 10 (t + 1) kd,getC H eh lsC none hs k tk (.ref a),pushC kd (t + 2) dd a (dct g1 t1 f1 u e1) xs ea,getC R er lsC none rs k tk (.ref r),addC r (n + 14) el 0 row [.int kd (t + 2)] (row ++ [.int kd (t + 2)]),setC R er lsC none rs k tk (.ref (n + 15)) (rs' (n + 15))] 500 5000) 400 (forD fr it) false tpP0 [fr7 h q H R F N gv tn k tk,itO (.ref N) i,lst nums e,lst hs eh,lst rs er,dct g1 t1 f1 u e1,inst dd xs ea,lst row el])
   ⟨.tail (forD fr it) Sem.pure,16,24,[some (piece kd (t + (7 + 2 * kd))),some (lst (row ++ [.int kd (t + 2)]) 0)],[fr9 (hx w h) (qx t q) H R F N gv tn k tk x tx kd (t + 2),itO (.ref N) (i + 1),lst nums e,lst hs eh,lst (rs' (n + 15)) er,dct g1 t1 f1 u e1,inst dd (xs ++ [.ref (n + 13)]) (ea + 1),lst row el]⟩ := by
 have : kd = 0 ∨ kd = 1 ∨ kd = 2 ∨ kd = 3 ∨ kd = 4 ∨ kd = 5 := by lia
 rcases this with rfl | rfl | rfl | rfl | rfl | rfl
 ·exact turnP0a (ef := 0) (fs := []) (rs' := rs')
 ·exact turnP1a (ef := 0) (fs := []) (rs' := rs')
 ·exact turnP2a (ef := 0) (fs := []) (rs' := rs')
 ·exact turnP3a (ef := 0) (fs := []) (rs' := rs')
 ·exact turnP4a (ef := 0) (fs := []) (rs' := rs')
 ·exact turnP5a (ef := 0) (fs := []) (rs' := rs')
theorem turnPb {w : World} {n t fr it N H R F gv tn i e tk tx kd : Nat} {h : Nat → Int} {q : Nat → Nat} {k x : Int} {nums : List Value} {hs rs : List Value} {eh er : Nat} {a dd r : Nat} {g1 f1 : Int} {t1 u e1 : Nat} {xs : List Value} {ea : Nat} {row : List Value} {rs' : Nat → List Value} {el : Nat} {x0 d0 : Int} {tx0 td0 : Nat} (hkd : kd < 6) :
  chk [13,15] (runC (vw w n t [fr,it,N,H,R,dd,a,r] [nxt it N e i nums x tx,modC x tx 10 (t + 1) kd,getC H eh lsC none hs k tk (.ref a),pushC kd (t + 2) dd a (dct g1 t1 f1 u e1) xs ea,getC R er lsC none rs k tk (.ref r),addC r (n + 14) el 0 row [.int kd (t + 2)] (row ++ [.int kd (t + 2)]),setC R er lsC none rs k tk (.ref (n + 15)) (rs' (n + 15))] 500 5000) 400 (forD fr it) false tpP0 [fr9 h q H R F N gv tn k tk x0 tx0 d0 td0,itO (.ref N) i,lst nums e,lst hs eh,lst rs er,dct g1 t1 f1 u e1,inst dd xs ea,lst row el])
   ⟨.tail (forD fr it) Sem.pure,16,24,[some (piece kd (t + (7 + 2 * kd))),some (lst (row ++ [.int kd (t + 2)]) 0)],[fr9 h q H R F N gv tn k tk x tx kd (t + 2),itO (.ref N) (i + 1),lst nums e,lst hs eh,lst (rs' (n + 15)) er,dct g1 t1 f1 u e1,inst dd (xs ++ [.ref (n + 13)]) (ea + 1),lst row el]⟩ := by
 have : kd = 0 ∨ kd = 1 ∨ kd = 2 ∨ kd = 3 ∨ kd = 4 ∨ kd = 5 := by lia
 rcases this with rfl | rfl | rfl | rfl | rfl | rfl
 ·exact turnP0b (ef := 0) (fs := []) (rs' := rs')
 ·exact turnP1b (ef := 0) (fs := []) (rs' := rs')
 ·exact turnP2b (ef := 0) (fs := []) (rs' := rs')
 ·exact turnP3b (ef := 0) (fs := []) (rs' := rs')
 ·exact turnP4b (ef := 0) (fs := []) (rs' := rs')
 ·exact turnP5b (ef := 0) (fs := []) (rs' := rs')
end Mine
end
section
namespace Mine
theorem start_two {w : World} {L : List Nat} {U : List Obj} {s : Shared} (hL : L.Nodup) (hlow : ∀ a ∈ L,281 ≤ a) (hlen : U.length = L.length)
  (hl : ∀ a o,lkQ w.params a = some o → s.heap.get? a = some o) (hp : ∀ p ∈ L.zip U,s.heap.get? p.1 = some p.2) : Start w s.heap.objs.size s.toks L U s :=
 start_of hL (fun a ha => lkQ_low (hlow a ha)) hlen hl hp
theorem refs_snoc (xs : List Nat) (x : Nat) : refs (xs ++ [x]) = refs xs ++ [.ref x] := by simp [refs]
theorem refs_length (xs : List Nat) : (refs xs).length = xs.length := by simp [refs]
theorem Ints.length {rv : List Value} {ks : List Nat} (h : Ints rv ks) : rv.length = ks.length := All2.length h
theorem Pcs.length {h : Heap} {xs ks : List Nat} (P : Pcs h xs ks) : xs.length = ks.length := All2.length P
theorem pair_ne {S : Slot} : ∀ {l : List Slot},S ∈ l → (l.flatMap fun S => [S.a,S.dd]).Nodup → S.a ≠ S.dd
 | [],h,_ => by cases h
 | Y :: q,h,hn => by
  simp only [List.flatMap_cons] at hn
  have z := List.nodup_append.mp hn
  rcases List.mem_cons.mp h with rfl | h'
  ·simpa using z.1
  ·exact pair_ne h' z.2.1
section
variable {w : World} {c : Cx} {i : Nat} {sl : List Slot} {k tk gv tn : Nat} {gx gk : List Nat} {eg : Nat} {tv : List Value} {et : Nat} {s : Shared} {A : Around} {Q : Result → Shared → Prop}
theorem St.nd8 (I : St w c i sl k tk gv tn gx gk eg tv et s) {S : Slot} (hS : S ∈ sl) : [c.fr,c.it,c.N,c.H,c.R,c.F,S.dd,S.a].Nodup := by
 have nd := I.nodup
 unfold Cx.fx at nd
 have n1 := (List.nodup_append.mp nd).1
 have n2 := (List.nodup_append.mp nd).2.1
 have dj := (List.nodup_append.mp nd).2.2
 have hne := pair_ne hS n2
 have far : ∀ b : Nat,b ∈ [c.fr,c.it,c.N,c.H,c.R,c.F] → b ≠ S.a ∧ b ≠ S.dd := fun b hb =>
  ⟨dj b hb S.a (List.mem_flatMap.mpr ⟨S,hS,by simp⟩),dj b hb S.dd (List.mem_flatMap.mpr ⟨S,hS,by simp⟩)⟩
 have h2 : [S.dd,S.a].Nodup := by simp [Ne.symm hne]
 have : [c.fr,c.it,c.N,c.H,c.R,c.F,S.dd,S.a] = [c.fr,c.it,c.N,c.H,c.R,c.F] ++ [S.dd,S.a] := rfl
 rw [this]
 refine List.nodup_append.mpr ⟨n1,h2,?_⟩
 intro a ha b hb
 revert b
 refine ac ?_ (ac ?_ (an))
 ·exact (far a ha).2
 ·exact (far a ha).1
theorem St.in8 {S : Slot} (hS : S ∈ sl) {b : Nat} (h : b ∈ [c.fr,c.it,c.N,c.H,c.R,c.F,S.dd,S.a]) : b ∈ c.fx sl := by
 have e : [c.fr,c.it,c.N,c.H,c.R,c.F,S.dd,S.a] = [c.fr,c.it,c.N,c.H,c.R,c.F] ++ [S.dd,S.a] := rfl
 rw [e] at h
 rcases List.mem_append.mp h with h | h
 ·exact St.mem6 h
 ·simp only [List.mem_cons,List.not_mem_nil,or_false] at h
  rcases h with rfl | rfl
  ·exact (St.mem2 hS).2
  ·exact (St.mem2 hS).1
theorem St.ndx (I : St w c i sl k tk gv tn gx gk eg tv et s) {S : Slot} (hS : S ∈ sl) {x : Nat} (hx : x ∉ c.fx sl) {L : List Nat} (hL : List.Sublist L [c.fr,c.it,c.N,c.H,c.R,c.F,S.dd,S.a]) : (L ++ [x]).Nodup := by
 refine List.nodup_append.mpr ⟨(I.nd8 hS).sublist hL,by simp,?_⟩
 intro a ha b hb
 rw [List.mem_singleton] at hb
 subst hb
 intro e
 subst e
 exact hx (St.in8 hS (hL.subset ha))
theorem St.lowx (I : St w c i sl k tk gv tn gx gk eg tv et s) {S : Slot} (hS : S ∈ sl) {x : Nat} (hx : 281 ≤ x) {L : List Nat} (hL : List.Sublist L [c.fr,c.it,c.N,c.H,c.R,c.F,S.dd,S.a]) : ∀ b ∈ L ++ [x],281 ≤ b := by
 intro b hb
 rcases List.mem_append.mp hb with hb | hb
 ·exact I.low b (St.in8 hS (hL.subset hb))
 ·rw [List.mem_singleton] at hb; subst hb; exact hx
theorem getR (hS : sl[k]? = some S) (f : Slot → Value) : (sl.map f)[((k : Nat) : Int).toNat]? = some (f S) := by
 rw [Int.toNat_natCast,List.getElem?_map,hS]; rfl
theorem kLow (h : k < 3) : ((k : Nat) : Int) < 2 ^ 63 := by
 have h1 : ((k : Nat) : Int) < 3 := by lia
 exact Int.lt_of_lt_of_le h1 (by decide)
theorem set_same {α : Type} {l : List α} {k : Nat} {v : α} (h : l[k]? = some v) : l.set k v = l := by
 apply List.ext_getElem?
 intro j
 rw [List.getElem?_set]
 by_cases q : k = j
 ·subst q
  have := (List.getElem?_eq_some_iff.mp h).1
  rw [if_pos rfl,if_pos this,h]
 ·rw [if_neg q]
theorem map_set (f : Slot → Value) (S' : Slot) : (sl.set k S').map f = (sl.map f).set k (f S') := by
 rw [List.map_set]
theorem St.alive (I : St w c i sl k tk gv tn gx gk eg tv et s) {b : Nat} (hm : b ∈ c.fx sl) : ∃ o,s.heap.get? b = some o ∧ o.cls ≠ .type "tuple" := by
 unfold Cx.fx at hm
 rcases List.mem_append.mp hm with hm | hm
 ·simp only [List.mem_cons,List.not_mem_nil,or_false] at hm
  rcases hm with e | e | e | e | e | e <;> rw [e]
  ·obtain ⟨o,ho,hfr⟩ := I.frame
   refine ⟨o,ho,?_⟩
   rcases hfr with ⟨_,_,rfl⟩ | ⟨_,_,_,_,_,_,rfl⟩ <;> simp [fr7,fr9]
  ·exact ⟨_,I.iter,by simp [itO]⟩
  ·exact ⟨_,I.nums,by simp [lst]⟩
  ·exact ⟨_,I.heaps,by simp [lst]⟩
  ·exact ⟨_,I.rows,by simp [lst]⟩
  ·exact ⟨_,I.firsts,by simp [lst]⟩
 ·obtain ⟨T,hT,hm⟩ := List.mem_flatMap.mp hm
  simp only [List.mem_cons,List.not_mem_nil,or_false] at hm
  rcases hm with e | e <;> rw [e]
  ·exact ⟨_,(I.slots T hT).inst,by simp [inst]⟩
  ·exact ⟨_,(I.slots T hT).dct,by simp [dct]⟩
theorem St.new (I : St w c i sl k tk gv tn gx gk eg tv et s) (j : Nat) : s.heap.objs.size + j ∉ c.fx sl := by
 intro hm
 obtain ⟨o,ho,_⟩ := I.alive hm
 have : @LT.lt Nat _ (s.heap.objs.size + j) s.heap.objs.size := Heap.lt_size ho
 lia
theorem St.noPiece (I : St w c i sl k tk gv tn gx gk eg tv et s) {x kk t : Nat} (h : s.heap.get? x = some (piece kk t)) : x ∉ c.fx sl := by
 intro hm
 obtain ⟨o,ho,hc⟩ := I.alive hm
 rw [h] at ho
 cases ho
 exact hc rfl
theorem stepP (I : St w c i sl k tk gv tn gx gk eg tv et s) (hn : c.nums.length ≤ 12) (hd : A.depth ≤ 500) (hu : A.units ≤ 5000) (hh : A.handled = none) {x : Int} {tx : Nat} (hx : c.nums[i]? = some (.int x tx)) {kd : Nat} (hkd : kd < 6) (h9 : x.fmod 10 = (kd : Int))
  (q : ∀ s' sl',St w c (i + 1) sl' k tk gv tn gx gk eg tv et s' → (AllBare s.gens → AllBare s'.gens) → s'.os = s.os → codeAny (model prg w) A (forD c.fr c.it) Q s') : codeAny (model prg w) A (forD c.fr c.it) Q s := by
 have hi : i < 12 := by
  have := (List.getElem?_eq_some_iff.mp hx).1
  lia
 have hk3 := I.turn
 obtain ⟨S,hSk⟩ : ∃ S,sl[k]? = some S := ⟨sl[k]'(by rw [I.len3]; exact hk3),List.getElem?_eq_getElem _⟩
 have hS : S ∈ sl := List.mem_of_getElem? hSk
 have X := I.slots S hS
 have hlen := I.lens S hS
 have nd8 := I.nd8 hS
 have hsub : List.Sublist [c.fr,c.it,c.N,c.H,c.R,S.dd,S.a] [c.fr,c.it,c.N,c.H,c.R,c.F,S.dd,S.a] := by
  repeat (first | exact List.Sublist.refl _ | apply List.Sublist.cons_cons | apply List.Sublist.cons)
 have nd := I.ndx hS (I.offr S hS) hsub
 have hlow := I.lowx hS (I.lowr S hS) hsub
 have hne : S.dd ≠ S.a := by
  have := (nd8.sublist (l₁ := [S.dd,S.a]) (by repeat (first | exact List.Sublist.refl _ | apply List.Sublist.cons)))
  simpa using this
 have hR : S.r ≠ s.heap.objs.size + 14 := by
  have : @LT.lt Nat _ S.r s.heap.objs.size := Heap.lt_size X.row
  lia
 have len1 : (refs S.xs).length ≤ 1000 := by rw [refs_length]; lia
 have len2 : S.rv.length ≤ 300 := by
  have e1 := X.rint.length
  have e2 := X.pcs.length
  lia
 have hsl : sl.length = 3 := I.len3
 let S' : Slot := { S with xs := S.xs ++ [s.heap.objs.size + 13],ea := S.ea + 1,r := s.heap.objs.size + 15,rv := S.rv ++ [.int (kd : Int) (s.toks + 2)],er := 0,ks := S.ks ++ [kd] }
 let rs' : Nat → List Value := fun v => (sl.map fun S => Value.ref S.r).set k (.ref v)
 have CO : ∀ C ∈ [nxt c.it c.N c.eN i c.nums x tx,modC x tx 10 (s.toks + 1) kd,getC c.H c.eH lsC none (sl.map fun S => .ref S.a) k tk (.ref S.a),pushC kd (s.toks + 2) S.dd S.a (dct S.g1 S.t1 S.f S.u S.e1) (refs S.xs) S.ea,getC c.R c.eR lsC none (sl.map fun S => .ref S.r) k tk (.ref S.r),addC S.r (s.heap.objs.size + 14) S.er 0 S.rv [.int kd (s.toks + 2)] (S.rv ++ [.int kd (s.toks + 2)]),setC c.R c.eR lsC none (sl.map fun S => .ref S.r) k tk (.ref (s.heap.objs.size + 15)) (rs' (s.heap.objs.size + 15))],CtrOk w C := by
  intro C hC
  revert C
  refine ac ?_ (ac ?_ (ac ?_ (ac ?_ (ac ?_ (ac ?_ (ac ?_ (an)))))))
  ·exact next_ok hx
  ·exact mod_ok (by decide) h9
  ·exact get_ok (by lia) (kLow hk3) (getR hSk _)
  ·exact push_ok hkd len1 (I.low _ (St.mem2 hS).2) (I.low _ (St.mem2 hS).1) hne
  ·exact get_ok (by lia) (kLow hk3) (getR hSk _)
  ·exact add_ok len2 (by simp) rfl
  ·exact set_ok (by lia) (kLow hk3) (by simp [hsl]; lia) (by simp [rs'])
 obtain ⟨o,ho,hf⟩ := I.frame
 have fin : ∀ (f0 f1 : Obj) (x' : Rslt) (s' : Shared),s.heap.get? c.fr = some f0 → FrAt c gv tn (k : Int) tk f1 → Start w s.heap.objs.size s.toks [c.fr,c.it,c.N,c.H,c.R,S.dd,S.a,S.r] [f0,itO (.ref c.N) i,lst c.nums c.eN,lst (sl.map fun S => .ref S.a) c.eH,lst (sl.map fun S => .ref S.r) c.eR,dct S.g1 S.t1 S.f S.u S.e1,inst S.dd (refs S.xs) S.ea,lst S.rv S.er] s →
   x'.U = [f1,itO (.ref c.N) (i + 1),lst c.nums c.eN,lst (sl.map fun S => .ref S.a) c.eH,lst (rs' (s.heap.objs.size + 15)) c.eR,dct S.g1 S.t1 S.f S.u S.e1,inst S.dd (refs S.xs ++ [.ref (s.heap.objs.size + 13)]) (S.ea + 1),lst S.rv S.er] →
   x'.T = [some (piece kd (s.toks + (7 + 2 * kd))),some (lst (S.rv ++ [.int kd (s.toks + 2)]) 0)] →
   Behind s s' s.heap.objs.size s.toks [c.fr,c.it,c.N,c.H,c.R,S.dd,S.a,S.r] [13,15] x' → codeAny (model prg w) A (forD c.fr c.it) Q s' := by
  intro f0 f1 x' s' h0 h1 St0 hU hT B
  have keep : ∀ (b : Nat) o,s.heap.get? b = some o → b ∉ [c.fr,c.it,c.R,c.F,S.a,S.dd] → s'.heap.get? b = some o := by
   intro b o hb hn
   refine B.but St0 (Ch := [c.fr,c.it,c.R,S.a]) ?_ hb (fun hm => hn (in46 hm))
   rw [hU]
   exact ⟨.inl (by simp),.inl (by simp),.inr rfl,.inr rfl,.inl (by simp),.inr rfl,.inl (by simp),.inr rfl,trivial⟩
  have fxin : ∀ b : Nat,b ∉ c.fx sl → b ∉ [c.fr,c.it,c.R,c.F,S.a,S.dd] := fun b hb hm => hb (St.in8 hS (in68 hm))
  have new13 := B.own 0 13 (piece kd (s.toks + (7 + 2 * kd))) rfl (by rw [hT]; rfl)
  have new15 := B.own 1 15 (lst (S.rv ++ [.int kd (s.toks + 2)]) 0) rfl (by rw [hT]; rfl)
  have hp : ∀ x k t,s.heap.get? x = some (piece k t) → s'.heap.get? x = some (piece k t) := fun x k t h => keep x _ h (fxin x (I.noPiece h))
  refine q s' (sl.set k S') (I.step hSk rfl rfl keep ⟨f1,B.old 0 _ _ rfl (by rw [hU]; rfl),h1⟩ (B.old 1 _ _ rfl (by rw [hU]; rfl)) ?_ ?_ ?_ (keep _ _ I.gave (fxin _ I.offg)) (I.gpcs.mono hp) (keep _ _ I.taken (fxin _ I.offt)) I.tints (I.new 15) I.offg I.offt ?_ I.lowg I.lowt ?_ ?_ I.lowgx) B.bare B.os
  ·rw [map_set]
   exact B.old 4 _ _ rfl (by rw [hU]; rfl)
  ·have e : (sl.set k S').map (fun S => Value.int S.f S.fu) = sl.map fun S => Value.int S.f S.fu := by
    rw [map_set]
    refine set_same ?_
    rw [List.getElem?_map,hSk]; rfl
   rw [e]
   refine B.but St0 (Ch := [c.fr,c.it,c.R,S.a]) ?_ I.firsts (nd8F nd8)
   rw [hU]
   exact ⟨.inl (by simp),.inl (by simp),.inr rfl,.inr rfl,.inl (by simp),.inr rfl,.inl (by simp),.inr rfl,trivial⟩
  ·refine ⟨?_,B.old 5 _ _ rfl (by rw [hU]; rfl),new15.2,?_,?_,?_,X.fb⟩
   ·show s'.heap.get? S.a = some (inst S.dd (refs (S.xs ++ [s.heap.objs.size + 13])) (S.ea + 1))
    rw [refs_snoc]
    exact B.old 6 _ _ rfl (by rw [hU]; rfl)
   ·exact All2.append (X.pcs.mono hp) (.cons ⟨hkd,_,new13.2⟩ .nil)
   ·exact All2.append X.rint (.cons ⟨_,rfl⟩ .nil)
   ·intro x hx
    rcases List.mem_append.mp hx with h | h
    ·exact X.lowp x h
    ·rw [List.mem_singleton] at h
     have := I.low _ (St.mem2 hS).1
     have h2 : @LT.lt Nat _ S.a s.heap.objs.size := Heap.lt_size X.inst
     lia
  ·show 281 ≤ s.heap.objs.size + 15
   have := I.low _ (St.mem2 hS).1
   have h2 : @LT.lt Nat _ S.a s.heap.objs.size := Heap.lt_size X.inst
   lia
  ·show (S.xs ++ _).length ≤ _
   rw [List.length_append,List.length_singleton]
   lia
  ·have := I.leng
   lia
 have start : ∀ f0,s.heap.get? c.fr = some f0 → Start w s.heap.objs.size s.toks [c.fr,c.it,c.N,c.H,c.R,S.dd,S.a,S.r] [f0,itO (.ref c.N) i,lst c.nums c.eN,lst (sl.map fun S => .ref S.a) c.eH,lst (sl.map fun S => .ref S.r) c.eR,dct S.g1 S.t1 S.f S.u S.e1,inst S.dd (refs S.xs) S.ea,lst S.rv S.er] s := by
  intro f0 h0
  refine start_two nd hlow rfl I.lit ?_
  intro p hp
  revert p
  refine zc ?_ (zc ?_ (zc ?_ (zc ?_ (zc ?_ (zc ?_ (zc ?_ (zc ?_ (zn))))))))
  ·exact h0
  ·exact I.iter
  ·exact I.nums
  ·exact I.heaps
  ·exact I.rows
  ·exact X.dct
  ·exact X.inst
  ·exact X.row
 rcases hf with ⟨h,qq,rfl⟩ | ⟨h,qq,x0,tx0,d0,td0,rfl⟩
 ·refine run_code (start _ ho) CO hd hu hh forD_ok (by decide) (turnPa hkd) fun s' B => ⟨rfl,?_⟩
  exact fin _ _ _ s' ho (.inr ⟨_,_,_,_,_,_,rfl⟩) (start _ ho) rfl rfl B
 ·refine run_code (start _ ho) CO hd hu hh forD_ok (by decide) (turnPb hkd) fun s' B => ⟨rfl,?_⟩
  exact fin _ _ _ s' ho (.inr ⟨_,_,_,_,_,_,rfl⟩) (start _ ho) rfl rfl B
end
end Mine
end
section
namespace Mine.G
structure Mv (L : List Nat) (s s' : Shared) : Prop where
 grow : s.heap.objs.size ≤ s'.heap.objs.size
 keep : ∀ (b : Nat) o,s.heap.get? b = some o → b ∉ L → s'.heap.get? b = some o
 bare : AllBare s.gens → AllBare s'.gens
 os : s'.os = s.os
theorem Mv.refl {L : List Nat} {s : Shared} : Mv L s s := ⟨Nat.le_refl _,fun _ _ h _ => h,id,rfl⟩
theorem Mv.trans {L : List Nat} {a b c : Shared} (x : Mv L a b) (y : Mv L b c) : Mv L a c :=
 ⟨Nat.le_trans x.grow y.grow,fun i o h n => y.keep i o (x.keep i o h n) n,fun h => y.bare (x.bare h),y.os.trans x.os⟩
theorem Mv.mono {L L' : List Nat} {a b : Shared} (x : Mv L a b) (h : ∀ i ∈ L,i ∈ L') : Mv L' a b := ⟨x.grow,fun i o e n => x.keep i o e (fun m => n (h i m)),x.bare,x.os⟩
theorem Behind.still {s s' : Shared} {L : List Nat} {x : Rslt} (B : Behind s s' L x) {b : Nat} {o : Obj} (hb : s.heap.get? b = some o) (h : ∀ i : Nat,L[i]? = some b → x.U[i]? = some o) : s'.heap.get? b = some o := by
 by_cases q : b ∈ L
 ·obtain ⟨i,hi⟩ := List.getElem?_of_mem q
  exact B.old i b o hi (h i hi)
 ·exact B.keep b o hb q
theorem Behind.but {s s' : Shared} {n t : Nat} {L : List Nat} {U : List Obj} {x : Rslt} (B : Behind s s' L x) {w : World} (S : Start w n t L U s) {Ch : List Nat} (h : sameBut Ch L U x.U) : Mv Ch s s' := by
 refine ⟨B.grow,fun b o hb hn => ?_,B.bare,B.os⟩
 refine B.still hb fun i hi => ?_
 have hlt : i < U.length := by
  rw [S.len]
  exact (List.getElem?_eq_some_iff.mp hi).1
 have h1 : U[i]? = some U[i] := List.getElem?_eq_getElem hlt
 have h2 := S.old i b _ hi h1
 have h3 : U[i] = o := Option.some.inj (h2.symm.trans hb)
 exact sameBut_get h i b o hi hn (by rw [h1,h3])
noncomputable abbrev Lit (w : World) (s : Shared) : Prop := ∀ a o,lkQ w.params a = some o → s.heap.get? a = some o
theorem Mv.lit {w : World} {L : List Nat} {s s' : Shared} (x : Mv L s s') (h : Lit w s) (hL : ∀ b ∈ L,281 ≤ b) : Lit w s' := fun a o e => x.keep a o (h a o e) fun m => by
 rw [lkQ_low (hL a m)] at e; cases e
noncomputable def sgnF (ks ls : List Nat) : Nat → Nat → Option Bool
 | _,0 => none
 | i,r + 1 => match ks[i]?,ls[i]? with
  | some x,some y => if x = y then sgnF ks ls (i + 1) r else some (decide (x > y))
  | _,_ => none
noncomputable def FrS (w : World) (h : Nat → Int) (q : Nat → Nat) (a1 a2 : Nat) (o : Obj) : Prop := o = frS2 h q a1 a2 ∨ ∃ k tk t2,o = frS3 (hK w h) (qK q t2) a1 a2 k tk
structure SgSt (w : World) (h : Nat → Int) (q : Nat → Nat) (fr it a1 a2 : Nat) (xs : List Value) (e1 : Nat) (ys : List Value) (e2 : Nat) (i r : Nat) (s : Shared) : Prop where
 lit : Lit w s
 frame : ∃ o,s.heap.get? fr = some o ∧ FrS w h q a1 a2 o
 iter : s.heap.get? it = some (rniO i r)
 l1 : s.heap.get? a1 = some (lst xs e1)
 l2 : s.heap.get? a2 = some (lst ys e2)
 nd : [fr,it,a1].Nodup
 nd2 : [fr,it,a2].Nodup
 low : ∀ b ∈ [fr,it,a1,a2],281 ≤ b
theorem forS_ok {fr it : Nat} : okCode (forS fr it) = true := by kernel_rfl
theorem Ints.at {rv : List Value} {ks : List Nat} (h : Ints rv ks) : ∀ {i x : Nat},ks[i]? = some x → ∃ t,rv[i]? = some (.int (.ofNat x) t) := by
 induction h with
 | nil => intro i x e; simp at e
 | cons a _ ih =>
  intro i x e
  cases i with
  | zero =>
   simp only [List.getElem?_cons_zero,Option.some.injEq] at e
   subst e
   obtain ⟨t,rfl⟩ := a
   exact ⟨t,rfl⟩
  | succ i => simpa using ih (by simpa using e)
section
variable {w : World} {h : Nat → Int} {q : Nat → Nat} {fr it a1 a2 : Nat} {xs ys : List Value} {e1 e2 : Nat} {ks ls : List Nat} {A : Around}
theorem SgSt.step {i r : Nat} {s s' : Shared} (I : SgSt w h q fr it a1 a2 xs e1 ys e2 i (r + 1) s) (m : Mv [fr,it] s s') {o : Obj} (hf : s'.heap.get? fr = some o) (hF : FrS w h q a1 a2 o) (hi : s'.heap.get? it = some (rniO (i + 1) r)) : SgSt w h q fr it a1 a2 xs e1 ys e2 (i + 1) r s' := by
 have n1 := I.nd
 have n2 := I.nd2
 simp only [List.nodup_cons,List.mem_cons,List.not_mem_nil,or_false,not_or,not_false_eq_true,List.nodup_nil,and_true] at n1 n2
 exact ⟨m.lit I.lit (fun b hb => I.low b (by simp at hb ⊢; lia)),⟨o,hf,hF⟩,hi,m.keep _ _ I.l1 (by simp; lia),m.keep _ _ I.l2 (by simp; lia),I.nd,I.nd2,I.low⟩
theorem SgSt.start {i r : Nat} {s : Shared} (I : SgSt w h q fr it a1 a2 xs e1 ys e2 i r s) {f0 : Obj} (h0 : s.heap.get? fr = some f0) (hne : a1 ≠ a2) : Start w s.heap.objs.size s.toks [fr,it,a1,a2] [f0,rniO i r,lst xs e1,lst ys e2] s := by
 refine start_two ?_ I.low rfl I.lit ?_
 ·have n1 := I.nd
  have n2 := I.nd2
  simp only [List.nodup_cons,List.mem_cons,List.not_mem_nil,or_false,not_or,not_false_eq_true,List.nodup_nil,and_true] at n1 n2 ⊢
  lia
 ·intro p hp
  revert p
  refine zc ?_ (zc ?_ (zc ?_ (zc ?_ (zn))))
  ·exact h0
  ·exact I.iter
  ·exact I.l1
  ·exact I.l2
theorem SgSt.startS {i r : Nat} {s : Shared} (I : SgSt w h q fr it a1 a1 xs e1 xs e1 i r s) {f0 : Obj} (h0 : s.heap.get? fr = some f0) : Start w s.heap.objs.size s.toks [fr,it,a1] [f0,rniO i r,lst xs e1] s := by
 refine start_two I.nd (fun b hb => I.low b (by simp at hb ⊢; lia)) rfl I.lit ?_
 intro p hp
 revert p
 refine zc ?_ (zc ?_ (zc ?_ (zn)))
 ·exact h0
 ·exact I.iter
 ·exact I.l1
noncomputable def sgRes (D : Option Bool) (tok : Nat) : Result := match D with
 | none => .ok .next
 | some true => .ok (.ret (.int 1 tok))
 | some false => .ok (.ret (.int (-1) tok))
noncomputable def SgEnd (w : World) (h : Nat → Int) (q : Nat → Nat) (fr it a1 a2 : Nat) (D : Option Bool) (z : Bool) (s : Shared) (res : Result) (s' : Shared) : Prop :=
 ∃ tok i' r' o,res = sgRes D tok ∧ s'.heap.get? fr = some o ∧ s'.heap.get? it = some (rniO i' r') ∧ Mv [fr,it] s s' ∧
  (z = false → ∃ k tk t2,o = frS3 (hK w h) (qK q t2) a1 a2 k tk) ∧ (z = true → s.heap.get? fr = some o)
variable (hd : A.depth ≤ 870) (hu : A.units ≤ 7400) (hh : A.handled = none) (X : Ints xs ks) (Y : Ints ys ls) (hsame : a1 = a2 → xs = ys ∧ e1 = e2 ∧ ks = ls)
include hd hu hh X Y hsame
theorem sgLoop : ∀ (r i : Nat) (s : Shared),SgSt w h q fr it a1 a2 xs e1 ys e2 i r s → i + r ≤ ks.length → i + r ≤ ls.length → i + r ≤ 1000 → codeAny (model prg w) A (forS fr it) (SgEnd w h q fr it a1 a2 (sgnF ks ls i r) (r == 0) s) s := by
 intro r
 induction r with
 | zero =>
  intro i s I _ _ _
  have S : Start w s.heap.objs.size s.toks [it] [rniO i 0] s := by
   refine start_two (by simp) (fun b hb => I.low b (by simp at hb ⊢; lia)) rfl I.lit ?_
   intro p hp
   simp only [List.zip_cons_cons,List.zip_nil_right,List.mem_cons,List.not_mem_nil,or_false] at hp
   subst hp; exact I.iter
  refine run_codeE ent1_ok entQ1_eq S (fun _ C hC => ?_) (xs := fun _ => []) (fun _ => an) (by lia) (by lia) hh forS_ok (by decide) (by decide) (fun _ => sgEnd) fun om s' B => ?_
  ·rw [List.mem_singleton] at hC; subst hC; exact rend_ok
  ·obtain ⟨o,ho,hF⟩ := I.frame
   have m := B.but S (Ch := []) ⟨.inr rfl,trivial⟩
   exact ⟨0,i,0,o,rfl,m.keep _ _ ho (by simp),m.keep _ _ I.iter (by simp),m.mono (by simp),(fun q => by cases q),fun _ => ho⟩
 | succ r ih =>
  intro i s I hk hl h1000
  refine (fun H => H _ fun _ _ h => h : (∀ Q : Result → Shared → Prop,(∀ r' s',SgEnd w h q fr it a1 a2 (sgnF ks ls i (r + 1)) (r + 1 == 0) s r' s' → Q r' s') → codeAny (model prg w) A (forS fr it) Q s) → _) fun Q fQ => ?_
  have hik : i < ks.length := by lia
  have hil : i < ls.length := by lia
  obtain ⟨tx,hx⟩ := Ints.at X (List.getElem?_eq_getElem hik)
  obtain ⟨ty,hy⟩ := Ints.at Y (List.getElem?_eq_getElem hil)
  have hi63 : (Int.ofNat i) < 2 ^ 63 := by
   have : ((i : Nat) : Int) < 2000 := by lia
   exact Int.lt_of_lt_of_le this (by decide)
  have hge : (0 : Int) ≤ .ofNat i := Int.natCast_nonneg i
  have hD : sgnF ks ls i (r + 1) = if ks[i] = ls[i] then sgnF ks ls (i + 1) r else some (decide (ks[i] > ls[i])) := by
   show (match ks[i]?,ls[i]? with | some x,some y => _ | _,_ => _) = _
   rw [List.getElem?_eq_getElem hik,List.getElem?_eq_getElem hil]
  obtain ⟨o,ho,hF⟩ := I.frame
  have on : ∀ s',Mv [fr,it] s s' → (∃ k tk t2,s'.heap.get? fr = some (frS3 (hK w h) (qK q t2) a1 a2 k tk)) → s'.heap.get? it = some (rniO (i + 1) r) → ks[i] = ls[i] → codeAny (model prg w) A (forS fr it) Q s' := by
   intro s' m ⟨k,tk,t2,hf⟩ hi he
   refine codeAny_mono (ih (i + 1) s' (I.step m hf (.inr ⟨k,tk,t2,rfl⟩) hi) (by lia) (by lia) (by lia)) ?_
   rintro res s'' ⟨tok,i',r',o',e0,e1,e2,e3,e4,e5⟩
   refine fQ _ _ ?_
   rw [hD,if_pos he]
   refine ⟨tok,i',r',o',e0,e1,e2,m.trans e3,fun _ => ?_,fun q => by cases q⟩
   cases hz : (r == 0) with
   | false => exact e4 hz
   | true =>
    have e5 := e5 hz
    rw [hf] at e5
    exact ⟨k,tk,t2,(Option.some.inj e5).symm⟩
  by_cases hab : a1 = a2
  ·obtain ⟨rfl,rfl,rfl⟩ := hsame hab
   subst hab
   have S := I.startS ho
   have hy' : ty = tx := by
    rw [hx] at hy
    injection hy with hy; injection hy with _ hy; exact hy.symm
   subst hy'
   have CO : ∀ C ∈ [rnextC it i r,getC a1 e1 lsC' none xs (.ofNat i) s.toks (.int (.ofNat ks[i]) ty),getC a1 e1 lsC' none xs (.ofNat i) s.toks (.int (.ofNat ks[i]) ty),icmpC .ne (.ofNat ks[i]) ty (.ofNat ks[i]) ty false],CtrOk w C := by
    intro C hC
    revert C
    refine ac ?_ (ac ?_ (ac ?_ (ac ?_ (an))))
    ·exact rnext_ok
    ·exact get_ok hge hi63 hx
    ·exact get_ok hge hi63 hx
    ·exact icmp_ok (by simp [ICmp.val])
   rcases hF with rfl | ⟨k,tk,t2,rfl⟩
   ·exact run_codeE ent1_ok entQ1_eq S (fun _ => CO) (xs := fun _ => []) (fun _ => an) (by lia) (by lia) hh forS_ok (by decide) (by decide) (fun om => sgE2s (w := w) (n := s.heap.objs.size) (t := s.toks) (fr := fr) (it := it) (a1 := a1) (i := i) (r := r) (e1 := e1) (tx := ty) (ty := ty) (x := ks[i]) (y := ks[i]) (om := om) (h := h) (q := q) (xs := xs) (tk := 0) (k := 0) (tk2 := 0) (a2 := 0) (e2 := 0) (ys := [])) fun om s' B => ⟨rfl,on s' (B.but S (Ch := [fr,it]) ⟨.inl (by simp),.inl (by simp),.inr rfl,trivial⟩) ⟨i,_,_,B.old 0 _ _ rfl rfl⟩ (B.old 1 _ _ rfl rfl) rfl⟩
   ·exact run_codeE ent1_ok entQ1_eq S (fun _ => CO) (xs := fun _ => []) (fun _ => an) (by lia) (by lia) hh forS_ok (by decide) (by decide) (fun om => sgE3s (w := w) (n := s.heap.objs.size) (t := s.toks) (fr := fr) (it := it) (a1 := a1) (i := i) (r := r) (e1 := e1) (tx := ty) (ty := ty) (x := ks[i]) (y := ks[i]) (om := om) (h := h) (q := q) (xs := xs) (tk := tk) (k := k) (tk2 := t2) (a2 := 0) (e2 := 0) (ys := [])) fun om s' B => ⟨rfl,on s' (B.but S (Ch := [fr,it]) ⟨.inl (by simp),.inl (by simp),.inr rfl,trivial⟩) ⟨i,_,_,B.old 0 _ _ rfl rfl⟩ (B.old 1 _ _ rfl rfl) rfl⟩
  ·have S := I.start ho hab
   by_cases he : ks[i] = ls[i]
   ·have CO : ∀ C ∈ [rnextC it i r,getC a1 e1 lsC' none xs (.ofNat i) s.toks (.int (.ofNat ks[i]) tx),getC a2 e2 lsC' none ys (.ofNat i) s.toks (.int (.ofNat ls[i]) ty),icmpC .ne (.ofNat ks[i]) tx (.ofNat ls[i]) ty false],CtrOk w C := by
     intro C hC
     revert C
     refine ac ?_ (ac ?_ (ac ?_ (ac ?_ (an))))
     ·exact rnext_ok
     ·exact get_ok hge hi63 hx
     ·exact get_ok hge hi63 hy
     ·exact icmp_ok (by simp [ICmp.val,he])
    rcases hF with rfl | ⟨k,tk,t2,rfl⟩
    ·exact run_codeE ent1_ok entQ1_eq S (fun _ => CO) (xs := fun _ => []) (fun _ => an) (by lia) (by lia) hh forS_ok (by decide) (by decide) (fun om => sgE2 (w := w) (n := s.heap.objs.size) (t := s.toks) (fr := fr) (it := it) (a1 := a1) (a2 := a2) (i := i) (r := r) (e1 := e1) (e2 := e2) (tx := tx) (ty := ty) (x := ks[i]) (y := ls[i]) (om := om) (h := h) (q := q) (xs := xs) (ys := ys) (tk := 0) (k := 0) (tk2 := 0)) fun om s' B => ⟨rfl,on s' (B.but S (Ch := [fr,it]) ⟨.inl (by simp),.inl (by simp),.inr rfl,.inr rfl,trivial⟩) ⟨i,_,_,B.old 0 _ _ rfl rfl⟩ (B.old 1 _ _ rfl rfl) he⟩
    ·exact run_codeE ent1_ok entQ1_eq S (fun _ => CO) (xs := fun _ => []) (fun _ => an) (by lia) (by lia) hh forS_ok (by decide) (by decide) (fun _ => sgE3) fun om s' B => ⟨rfl,on s' (B.but S (Ch := [fr,it]) ⟨.inl (by simp),.inl (by simp),.inr rfl,.inr rfl,trivial⟩) ⟨i,_,_,B.old 0 _ _ rfl rfl⟩ (B.old 1 _ _ rfl rfl) he⟩
   ·have CO : ∀ g,decide (ks[i] > ls[i]) = g → ∀ C ∈ [rnextC it i r,getC a1 e1 lsC' none xs (.ofNat i) s.toks (.int (.ofNat ks[i]) tx),getC a2 e2 lsC' none ys (.ofNat i) s.toks (.int (.ofNat ls[i]) ty),icmpC .ne (.ofNat ks[i]) tx (.ofNat ls[i]) ty true,icmpC .gt (.ofNat ks[i]) tx (.ofNat ls[i]) ty g],CtrOk w C := by
     intro g hg C hC
     revert C
     refine ac ?_ (ac ?_ (ac ?_ (ac ?_ (ac ?_ (an)))))
     ·exact rnext_ok
     ·exact get_ok hge hi63 hx
     ·exact get_ok hge hi63 hy
     ·exact icmp_ok (by
       have : (Int.ofNat ks[i]) ≠ (Int.ofNat ls[i]) := fun e => he (Int.ofNat.inj e)
       simp only [ICmp.val,bne_iff_ne]; exact this)
     ·exact icmp_ok (by
       rw [← hg]
       show decide (Int.ofNat ks[i] > Int.ofNat ls[i]) = _
       rw [decide_eq_decide]
       exact Int.ofNat_lt)
    have fin : ∀ g tok s',decide (ks[i] > ls[i]) = g → Mv [fr,it] s s' → (∃ k tk t2,s'.heap.get? fr = some (frS3 (hK w h) (qK q t2) a1 a2 k tk)) → s'.heap.get? it = some (rniO (i + 1) r) → Q (sgRes (some g) tok) s' := by
     intro g tok s' hg m ⟨k,tk,t2,hf⟩ hi
     refine fQ _ _ ?_
     rw [hD,if_neg he,hg]
     exact ⟨tok,_,_,_,rfl,hf,hi,m,fun _ => ⟨k,tk,t2,rfl⟩,fun q => by cases q⟩
    cases hg : decide (ks[i] > ls[i]) with
    | true =>
     rcases hF with rfl | ⟨k,tk,t2,rfl⟩
     ·exact run_codeE ent1_ok entQ1_eq S (fun _ => CO true hg) (xs := fun _ => []) (fun _ => an) (by lia) (by lia) hh forS_ok (by decide) (by decide) (fun om => sgG2 (w := w) (n := s.heap.objs.size) (t := s.toks) (fr := fr) (it := it) (a1 := a1) (a2 := a2) (i := i) (r := r) (e1 := e1) (e2 := e2) (tx := tx) (ty := ty) (x := ks[i]) (y := ls[i]) (om := om) (h := h) (q := q) (xs := xs) (ys := ys) (tk := 0) (k := 0) (tk2 := 0)) fun om s' B => fin true (s.toks + 2) s' hg (B.but S (Ch := [fr,it]) ⟨.inl (by simp),.inl (by simp),.inr rfl,.inr rfl,trivial⟩) ⟨i,_,_,B.old 0 _ _ rfl rfl⟩ (B.old 1 _ _ rfl rfl)
     ·exact run_codeE ent1_ok entQ1_eq S (fun _ => CO true hg) (xs := fun _ => []) (fun _ => an) (by lia) (by lia) hh forS_ok (by decide) (by decide) (fun _ => sgG3) fun om s' B => fin true (s.toks + 2) s' hg (B.but S (Ch := [fr,it]) ⟨.inl (by simp),.inl (by simp),.inr rfl,.inr rfl,trivial⟩) ⟨i,_,_,B.old 0 _ _ rfl rfl⟩ (B.old 1 _ _ rfl rfl)
    | false =>
     rcases hF with rfl | ⟨k,tk,t2,rfl⟩
     ·exact run_codeE ent1_ok entQ1_eq S (fun _ => CO false hg) (xs := fun _ => []) (fun _ => an) (by lia) (by lia) hh forS_ok (by decide) (by decide) (fun om => sgL2 (w := w) (n := s.heap.objs.size) (t := s.toks) (fr := fr) (it := it) (a1 := a1) (a2 := a2) (i := i) (r := r) (e1 := e1) (e2 := e2) (tx := tx) (ty := ty) (x := ks[i]) (y := ls[i]) (om := om) (h := h) (q := q) (xs := xs) (ys := ys) (tk := 0) (k := 0) (tk2 := 0)) fun om s' B => fin false (s.toks + 3) s' hg (B.but S (Ch := [fr,it]) ⟨.inl (by simp),.inl (by simp),.inr rfl,.inr rfl,trivial⟩) ⟨i,_,_,B.old 0 _ _ rfl rfl⟩ (B.old 1 _ _ rfl rfl)
     ·exact run_codeE ent1_ok entQ1_eq S (fun _ => CO false hg) (xs := fun _ => []) (fun _ => an) (by lia) (by lia) hh forS_ok (by decide) (by decide) (fun _ => sgL3) fun om s' B => fin false (s.toks + 3) s' hg (B.but S (Ch := [fr,it]) ⟨.inl (by simp),.inl (by simp),.inr rfl,.inr rfl,trivial⟩) ⟨i,_,_,B.old 0 _ _ rfl rfl⟩ (B.old 1 _ _ rfl rfl)
end
end Mine.G
end
section
namespace Mine.G
noncomputable def hS2 (w : World) : Nat → Int
 | 0 => PyData.keyHash w.params nOne
 | 1 => PyData.keyHash w.params nTwo
 | _ => 0
noncomputable def qS2 (t : Nat) : Nat → Nat
 | 0 => t
 | 1 => t + 1
 | _ => 0
noncomputable def F1a (w : World) (t a1 a2 : Nat) : (Nat → Nat) → Obj := fun _ => frS2 (hS2 w) (qS2 t) a1 a2
noncomputable def F1b (w : World) (t a1 a2 : Nat) : (Nat → Nat) → Obj := fun ω => frS3 (hK w (hS2 w)) (qK (qS2 t) (ω 4)) a1 a2 (ω 2) (ω 3)
noncomputable def I1 : (Nat → Nat) → Obj := fun ω => rniO (ω 5) (ω 6)
noncomputable abbrev csS (n t a1 a2 e1 e2 l1 l2 : Nat) (xs ys : List Value) (c : Bool) (m tm : Nat) (g1 g2 : Bool) (om : Om) : List Ctr := [lenB a1 e1 xs l1,lenB a2 e2 ys l2,icmpC .lt (.ofNat l2) (t + 5) (.ofNat l1) (t + 3) c,rniC (n + 6) m (t + 6) tm (t + 7),icmpC .gt (.ofNat l1) (om 0 1 + 1) (.ofNat l2) (om 0 1 + 3) g1,icmpC .lt (.ofNat l1) (om 0 1 + 5) (.ofNat l2) (om 0 1 + 7) g2]
noncomputable def tpS_Ga : List Tk := (cat tp34 (cat [o 3,o 3,o 3] (cat tp16 (cat tp35 (cat tp22 [.go,(.ctr 4 [] [])])))))
noncomputable def z_sg_Ga (e1 e2 : Nat) (om : Om) (xs ys : List Value) : Rslt :=
 ⟨.fin (.ok (.ret (.int 1 (om 0 1 + 4)))),om 0 0,0,om 0 1,5,[],[lst xs e1,lst ys e2],[]⟩
theorem sg_Ga {w : World} {b g1 g2 : Bool} {n t a1 a2 e1 e2 l1 l2 : Nat} {sg : Int} {om : Om} {xs ys : List Value} :
  chk [] (runC PySem.W.Fast.mineEnt1 (vw (W1 b w) n t [a1,a2] (fun om => csS n t a1 a2 e1 e2 l1 l2 xs ys true l2 (t + 5) true false om) (fun _ => [sgLoopX n (n + 7) a1 a2 (frS2 (hS2 (W1 b w)) (qS2 t) a1 a2) 0 l2 xs e1 ys e2 (fun _ => .ok .next) (F1a (W1 b w) t a1 a2) I1]) om 850 7200) 400 (.call (.ref 233) ⟨[.ref a1,.ref a2],[]⟩) true tpS_Ga [lst xs e1,lst ys e2]) (z_sg_Ga e1 e2 om xs ys) := by
 unfold chk
 cases b <;> kernel_rfl
noncomputable def tpS_La : List Tk := (cat tp72 [.go,.go])
noncomputable def z_sg_La (e1 e2 : Nat) (om : Om) (xs ys : List Value) : Rslt :=
 ⟨.fin (.ok (.ret (.int (-1) (om 0 1 + 9)))),om 0 0,0,om 0 1,10,[],[lst xs e1,lst ys e2],[]⟩
theorem sg_La {w : World} {b g1 g2 : Bool} {n t a1 a2 e1 e2 l1 l2 : Nat} {sg : Int} {om : Om} {xs ys : List Value} :
  chk [] (runC PySem.W.Fast.mineEnt1 (vw (W1 b w) n t [a1,a2] (fun om => csS n t a1 a2 e1 e2 l1 l2 xs ys false l1 (t + 3) false true om) (fun _ => [sgLoopX n (n + 7) a1 a2 (frS2 (hS2 (W1 b w)) (qS2 t) a1 a2) 0 l1 xs e1 ys e2 (fun _ => .ok .next) (F1a (W1 b w) t a1 a2) I1]) om 850 7200) 400 (.call (.ref 233) ⟨[.ref a1,.ref a2],[]⟩) true tpS_La [lst xs e1,lst ys e2]) (z_sg_La e1 e2 om xs ys) := by
 unfold chk
 cases b <;> kernel_rfl
noncomputable def tpS_Ea : List Tk := (tp72)
noncomputable def z_sg_Ea (e1 e2 : Nat) (om : Om) (xs ys : List Value) : Rslt :=
 ⟨.fin (.ok (.ret (.int 0 (om 0 1 + 8)))),om 0 0,0,om 0 1,9,[],[lst xs e1,lst ys e2],[]⟩
theorem sg_Ea {w : World} {b g1 g2 : Bool} {n t a1 a2 e1 e2 l1 l2 : Nat} {sg : Int} {om : Om} {xs ys : List Value} :
  chk [] (runC PySem.W.Fast.mineEnt1 (vw (W1 b w) n t [a1,a2] (fun om => csS n t a1 a2 e1 e2 l1 l2 xs ys false l1 (t + 3) false false om) (fun _ => [sgLoopX n (n + 7) a1 a2 (frS2 (hS2 (W1 b w)) (qS2 t) a1 a2) 0 l1 xs e1 ys e2 (fun _ => .ok .next) (F1a (W1 b w) t a1 a2) I1]) om 850 7200) 400 (.call (.ref 233) ⟨[.ref a1,.ref a2],[]⟩) true tpS_Ea [lst xs e1,lst ys e2]) (z_sg_Ea e1 e2 om xs ys) := by
 unfold chk
 cases b <;> kernel_rfl
noncomputable def tpS_Sa : List Tk := (cat [l,l] (cat tp7 (cat [l,.go,l,l,l,l] (cat tp48 (cat tp29 (cat tp16 (cat tp30 (cat [(.xctr 0 [.own 0,.own 7,.old 0,.old 0] [.own 0,.own 7])] (cat tp48 (cat [.go,(.ctr 4 [] [])] (cat tp48 [.go,(.ctr 5 [] [])])))))))))))
noncomputable def z_sg_Sa (e1 : Nat) (om : Om) (xs : List Value) : Rslt :=
 ⟨.fin (.ok (.ret (.int 0 (om 0 1 + 8)))),om 0 0,0,om 0 1,9,[],[lst xs e1],[]⟩
theorem sg_Sa {w : World} {b g1 g2 : Bool} {n t a1 a2 e1 e2 l1 l2 : Nat} {sg : Int} {om : Om} {xs ys : List Value} :
  chk [] (runC PySem.W.Fast.mineEnt1 (vw (W1 b w) n t [a1] (fun om => csS n t a1 a1 e1 e1 l1 l1 xs xs false l1 (t + 3) false false om) (fun _ => [sgLoopX n (n + 7) a1 a1 (frS2 (hS2 (W1 b w)) (qS2 t) a1 a1) 0 l1 xs e1 xs e1 (fun _ => .ok .next) (F1a (W1 b w) t a1 a1) I1]) om 850 7200) 400 (.call (.ref 233) ⟨[.ref a1,.ref a1],[]⟩) true tpS_Sa [lst xs e1]) (z_sg_Sa e1 om xs) := by
 unfold chk
 cases b <;> kernel_rfl
noncomputable def tpS_Gb : List Tk := (cat tp34 (cat [o 3,o 3,o 3] (cat tp16 (cat tp35 (cat tp22 [.go,(.ctr 4 [] [])])))))
noncomputable def z_sg_Gb (e1 e2 : Nat) (om : Om) (xs ys : List Value) : Rslt :=
 ⟨.fin (.ok (.ret (.int 1 (om 0 1 + 4)))),om 0 0,0,om 0 1,5,[],[lst xs e1,lst ys e2],[]⟩
theorem sg_Gb {w : World} {b g1 g2 : Bool} {n t a1 a2 e1 e2 l1 l2 : Nat} {sg : Int} {om : Om} {xs ys : List Value} :
  chk [] (runC PySem.W.Fast.mineEnt1 (vw (W1 b w) n t [a1,a2] (fun om => csS n t a1 a2 e1 e2 l1 l2 xs ys true l2 (t + 5) true false om) (fun _ => [sgLoopX n (n + 7) a1 a2 (frS2 (hS2 (W1 b w)) (qS2 t) a1 a2) 0 l2 xs e1 ys e2 (fun _ => .ok .next) (F1b (W1 b w) t a1 a2) I1]) om 850 7200) 400 (.call (.ref 233) ⟨[.ref a1,.ref a2],[]⟩) true tpS_Gb [lst xs e1,lst ys e2]) (z_sg_Gb e1 e2 om xs ys) := by
 unfold chk
 cases b <;> kernel_rfl
noncomputable def tpS_Lb : List Tk := (cat tp72 [.go,.go])
noncomputable def z_sg_Lb (e1 e2 : Nat) (om : Om) (xs ys : List Value) : Rslt :=
 ⟨.fin (.ok (.ret (.int (-1) (om 0 1 + 9)))),om 0 0,0,om 0 1,10,[],[lst xs e1,lst ys e2],[]⟩
theorem sg_Lb {w : World} {b g1 g2 : Bool} {n t a1 a2 e1 e2 l1 l2 : Nat} {sg : Int} {om : Om} {xs ys : List Value} :
  chk [] (runC PySem.W.Fast.mineEnt1 (vw (W1 b w) n t [a1,a2] (fun om => csS n t a1 a2 e1 e2 l1 l2 xs ys false l1 (t + 3) false true om) (fun _ => [sgLoopX n (n + 7) a1 a2 (frS2 (hS2 (W1 b w)) (qS2 t) a1 a2) 0 l1 xs e1 ys e2 (fun _ => .ok .next) (F1b (W1 b w) t a1 a2) I1]) om 850 7200) 400 (.call (.ref 233) ⟨[.ref a1,.ref a2],[]⟩) true tpS_Lb [lst xs e1,lst ys e2]) (z_sg_Lb e1 e2 om xs ys) := by
 unfold chk
 cases b <;> kernel_rfl
noncomputable def tpS_Eb : List Tk := (tp72)
noncomputable def z_sg_Eb (e1 e2 : Nat) (om : Om) (xs ys : List Value) : Rslt :=
 ⟨.fin (.ok (.ret (.int 0 (om 0 1 + 8)))),om 0 0,0,om 0 1,9,[],[lst xs e1,lst ys e2],[]⟩
theorem sg_Eb {w : World} {b g1 g2 : Bool} {n t a1 a2 e1 e2 l1 l2 : Nat} {sg : Int} {om : Om} {xs ys : List Value} :
  chk [] (runC PySem.W.Fast.mineEnt1 (vw (W1 b w) n t [a1,a2] (fun om => csS n t a1 a2 e1 e2 l1 l2 xs ys false l1 (t + 3) false false om) (fun _ => [sgLoopX n (n + 7) a1 a2 (frS2 (hS2 (W1 b w)) (qS2 t) a1 a2) 0 l1 xs e1 ys e2 (fun _ => .ok .next) (F1b (W1 b w) t a1 a2) I1]) om 850 7200) 400 (.call (.ref 233) ⟨[.ref a1,.ref a2],[]⟩) true tpS_Eb [lst xs e1,lst ys e2]) (z_sg_Eb e1 e2 om xs ys) := by
 unfold chk
 cases b <;> kernel_rfl
noncomputable def tpS_Sb : List Tk := (cat [l,l] (cat tp7 (cat [l,.go,l,l,l,l] (cat tp48 (cat tp29 (cat tp16 (cat tp30 (cat [(.xctr 0 [.own 0,.own 7,.old 0,.old 0] [.own 0,.own 7])] (cat tp48 (cat [.go,(.ctr 4 [] [])] (cat tp48 [.go,(.ctr 5 [] [])])))))))))))
noncomputable def z_sg_Sb (e1 : Nat) (om : Om) (xs : List Value) : Rslt :=
 ⟨.fin (.ok (.ret (.int 0 (om 0 1 + 8)))),om 0 0,0,om 0 1,9,[],[lst xs e1],[]⟩
theorem sg_Sb {w : World} {b g1 g2 : Bool} {n t a1 a2 e1 e2 l1 l2 : Nat} {sg : Int} {om : Om} {xs ys : List Value} :
  chk [] (runC PySem.W.Fast.mineEnt1 (vw (W1 b w) n t [a1] (fun om => csS n t a1 a1 e1 e1 l1 l1 xs xs false l1 (t + 3) false false om) (fun _ => [sgLoopX n (n + 7) a1 a1 (frS2 (hS2 (W1 b w)) (qS2 t) a1 a1) 0 l1 xs e1 xs e1 (fun _ => .ok .next) (F1b (W1 b w) t a1 a1) I1]) om 850 7200) 400 (.call (.ref 233) ⟨[.ref a1,.ref a1],[]⟩) true tpS_Sb [lst xs e1]) (z_sg_Sb e1 om xs) := by
 unfold chk
 cases b <;> kernel_rfl
noncomputable def tpS_X1 : List Tk := (cat tp34 (cat [o 3,o 3,o 3] (cat tp16 tp35)))
noncomputable def z_sg_X1 (e1 e2 : Nat) (sg : Int) (om : Om) (xs ys : List Value) : Rslt :=
 ⟨.fin (.ok (.ret (.int sg (om 0 7)))),om 0 0,0,om 0 1,0,[],[lst xs e1,lst ys e2],[]⟩
theorem sg_X1 {w : World} {b g1 g2 : Bool} {n t a1 a2 e1 e2 l1 l2 : Nat} {sg : Int} {om : Om} {xs ys : List Value} :
  chk [] (runC PySem.W.Fast.mineEnt1 (vw (W1 b w) n t [a1,a2] (fun om => csS n t a1 a2 e1 e2 l1 l2 xs ys true l2 (t + 5) g1 g2 om) (fun _ => [sgLoopX n (n + 7) a1 a2 (frS2 (hS2 (W1 b w)) (qS2 t) a1 a2) 0 l2 xs e1 ys e2 (fun ω => .ok (.ret (.int sg (ω 7)))) (F1b (W1 b w) t a1 a2) I1]) om 850 7200) 400 (.call (.ref 233) ⟨[.ref a1,.ref a2],[]⟩) true tpS_X1 [lst xs e1,lst ys e2]) (z_sg_X1 e1 e2 sg om xs ys) := by
 unfold chk
 cases b <;> kernel_rfl
noncomputable def tpS_X0 : List Tk := (cat tp34 (cat tp16 tp35))
noncomputable def z_sg_X0 (e1 e2 : Nat) (sg : Int) (om : Om) (xs ys : List Value) : Rslt :=
 ⟨.fin (.ok (.ret (.int sg (om 0 7)))),om 0 0,0,om 0 1,0,[],[lst xs e1,lst ys e2],[]⟩
theorem sg_X0 {w : World} {b g1 g2 : Bool} {n t a1 a2 e1 e2 l1 l2 : Nat} {sg : Int} {om : Om} {xs ys : List Value} :
  chk [] (runC PySem.W.Fast.mineEnt1 (vw (W1 b w) n t [a1,a2] (fun om => csS n t a1 a2 e1 e2 l1 l2 xs ys false l1 (t + 3) g1 g2 om) (fun _ => [sgLoopX n (n + 7) a1 a2 (frS2 (hS2 (W1 b w)) (qS2 t) a1 a2) 0 l1 xs e1 ys e2 (fun ω => .ok (.ret (.int sg (ω 7)))) (F1b (W1 b w) t a1 a2) I1]) om 850 7200) 400 (.call (.ref 233) ⟨[.ref a1,.ref a2],[]⟩) true tpS_X0 [lst xs e1,lst ys e2]) (z_sg_X0 e1 e2 sg om xs ys) := by
 unfold chk
 cases b <;> kernel_rfl
end Mine.G
end
section
namespace Mine.G
theorem xc_drop {w : World} {C : XC} (h : XOk w C) (hu : ∀ ω,C.upd ω = C.pre) : XOk w { C with upd := fun _ => [] } := by
 intro A s hd hun hh hl hp
 refine codeAny_mono (h A s hd hun hh hl hp) ?_
 rintro r s' ⟨ω,e,k1,k2,k0,k3,k4,k5,k6,k7⟩
 refine ⟨ω,e,k1,k2,k0,(fun p hp => by cases hp),k4,fun b o hb _ => ?_,k6,k7⟩
 by_cases q : ∀ p ∈ C.upd ω,p.1 ≠ b
 ·exact k5 b o hb q
 ·simp only [Classical.not_forall] at q
  obtain ⟨p,hm,hb'⟩ := q
  have hb' : p.1 = b := Classical.byContradiction hb'
  have z := k3 p hm
  rw [hu] at hm
  have y := hp p hm
  rw [hb'] at z y
  rw [hb] at y
  rw [z,← Option.some.inj y]
theorem xc_pre {w : World} {C : XC} {P : List (Addr × Obj)} (h : XOk w C) (hs : ∀ p ∈ C.pre,p ∈ P) : XOk w { C with pre := P } := fun A s hd hun hh hl hp => h A s hd hun hh hl fun p m => hp p (hs p m)
noncomputable def pk (f : Nat → Nat) (sz tk : Nat) : Nat → Nat
 | 0 => sz
 | 1 => tk
 | n => f n
section
variable {w : World} {h : Nat → Int} {q : Nat → Nat} {fr it a1 a2 m : Nat} {xs ys : List Value} {e1 e2 : Nat} {ks ls : List Nat}
theorem sgLoopX_ok (X : Ints xs ks) (Y : Ints ys ls) (hsame : a1 = a2 → xs = ys ∧ e1 = e2 ∧ ks = ls) (nd : [fr,it,a1].Nodup) (nd2 : [fr,it,a2].Nodup) (low : ∀ b ∈ [fr,it,a1,a2],281 ≤ b) (hk : m ≤ ks.length) (hl : m ≤ ls.length) (hm : m ≤ 1000)
  {res : (Nat → Nat) → Result} {F1 I1 : (Nat → Nat) → Obj} (hres : ∀ ω,res ω = sgRes (sgnF ks ls 0 m) (ω 7)) (hI : I1 = G.I1)
  (hF : (m = 0 ∧ ∀ ω,F1 ω = frS2 h q a1 a2) ∨ (m ≠ 0 ∧ ∀ ω,F1 ω = frS3 (hK w h) (qK q (ω 4)) a1 a2 (ω 2) (ω 3))) :
  XOk w (sgLoopX fr it a1 a2 (frS2 h q a1 a2) 0 m xs e1 ys e2 res F1 I1) := by
 intro A s hd hu hh hlit hp
 have I : SgSt w h q fr it a1 a2 xs e1 ys e2 0 m s := ⟨hlit,⟨_,hp (fr,frS2 h q a1 a2) m0,.inl rfl⟩,hp (it,rniO 0 m) m1,hp (a1,lst xs e1) m2,hp (a2,lst ys e2) m3,nd,nd2,low⟩
 refine codeAny_mono (sgLoop hd hu hh X Y hsame m 0 s I (by lia) (by lia) (by lia)) ?_
 rintro r s' ⟨tok,i',r',o,e0,g1,g2,mv,hf1,hf2⟩
 obtain ⟨k,tk,t2,ho⟩ : ∃ k tk t2,F1 (pk (fun | 2 => k | 3 => tk | 4 => t2 | 5 => i' | 6 => r' | 7 => tok | _ => 0) s'.heap.objs.size s'.toks) = o := by
  rcases hF with ⟨h0,hF⟩ | ⟨h0,hF⟩
  ·subst h0
   refine ⟨0,0,0,?_⟩
   rw [hF]
   have h2 := hf2 rfl
   have := hp (fr,frS2 h q a1 a2) m0
   rw [h2] at this
   exact (Option.some.inj this).symm
  ·obtain ⟨k,tk,t2,rfl⟩ := hf1 (by simpa using h0)
   exact ⟨k,tk,t2,by rw [hF]; rfl⟩
 refine ⟨pk (fun | 2 => k | 3 => tk | 4 => t2 | 5 => i' | 6 => r' | 7 => tok | _ => 0) s'.heap.objs.size s'.toks,?_,rfl,rfl,mv.grow,?_,(fun p hp => by cases hp),?_,mv.bare,mv.os⟩
 ·show r = res _
  rw [hres]; exact e0
 ·intro p hp
  have hp : p ∈ [(fr,F1 (pk (fun | 2 => k | 3 => tk | 4 => t2 | 5 => i' | 6 => r' | 7 => tok | _ => 0) s'.heap.objs.size s'.toks)),(it,I1 (pk (fun | 2 => k | 3 => tk | 4 => t2 | 5 => i' | 6 => r' | 7 => tok | _ => 0) s'.heap.objs.size s'.toks))] := hp
  simp only [List.mem_cons,List.not_mem_nil,or_false] at hp
  rcases hp with rfl | rfl
  ·rw [ho]; exact g1
  ·rw [hI]; exact g2
 ·intro b o' hb hn
  refine mv.keep b o' hb fun hm => ?_
  simp only [List.mem_cons,List.not_mem_nil,or_false] at hm
  rcases hm with rfl | rfl
  ·exact hn _ (List.mem_cons_self ..) rfl
  ·exact hn _ (List.mem_cons_of_mem _ (List.mem_cons_self ..)) rfl
end
end Mine.G
end
section
namespace Mine.G
noncomputable def sgn (ks ls : List Nat) : Int := match sgnF ks ls 0 (min ks.length ls.length) with
 | some true => 1
 | some false => -1
 | none => if ks.length > ls.length then 1 else if ks.length < ls.length then -1 else 0
noncomputable def signX (a1 a2 : Nat) (xs : List Value) (e1 : Nat) (ys : List Value) (e2 : Nat) (sg : Int) : XC :=
 {code := .call (.ref 233) ⟨[.ref a1,.ref a2],[]⟩,pre := [(a1,lst xs e1),(a2,lst ys e2)],res := fun ω => .ok (.ret (.int sg (ω 2))),upd := fun _ => [],news := fun _ => [],dm := 850,um := 7200 }
theorem sgnF_same (ks : List Nat) : ∀ r i,sgnF ks ks i r = none
 | 0,i => rfl
 | r + 1,i => by
  show (match ks[i]?,ks[i]? with | some x,some y => _ | _,_ => _) = _
  cases ks[i]? with
  | none => rfl
  | some x => simp [sgnF_same ks r]
section
variable {w : World} {a1 a2 : Nat} {xs ys : List Value} {e1 e2 : Nat} {ks ls : List Nat}
theorem sign_case {l1 l2 m i : Nat} {tm : Nat → Nat} {c g1 g2 : Bool} {res : (Nat → Nat) → Result} {F1 : World → Nat → (Nat → Nat) → Obj} {sg : Int} {tok : Om → Nat} {tp : List Tk} (hne : a1 ≠ a2) (h1 : 281 ≤ a1) (h2 : 281 ≤ a2)
  (H : ∀ b n t om,chk [] (runC PySem.W.Fast.mineEnt1 (vw (W1 b w) n t [a1,a2] (fun om => csS n t a1 a2 e1 e2 l1 l2 xs ys c m (tm t) g1 g2 om) (fun _ => [sgLoopX n (n + 7) a1 a2 (frS2 (hS2 (W1 b w)) (qS2 t) a1 a2) 0 m xs e1 ys e2 res (F1 (W1 b w) t) I1]) om 850 7200) 400 (.call (.ref 233) ⟨[.ref a1,.ref a2],[]⟩) true tp [lst xs e1,lst ys e2])
   ⟨.fin (.ok (.ret (.int sg (tok om)))),om 0 0,0,om 0 1,i,[],[lst xs e1,lst ys e2],[]⟩)
  (cso : ∀ n t om,∀ C ∈ csS n t a1 a2 e1 e2 l1 l2 xs ys c m (tm t) g1 g2 om,CtrOk w C)
  (loop : ∀ n t : Nat,(∀ a ∈ [a1,a2],(a : Nat) < n) → XOk w (sgLoopX n (n + 7) a1 a2 (frS2 (hS2 w) (qS2 t) a1 a2) 0 m xs e1 ys e2 res (F1 w t) I1)) : XOk w (signX a1 a2 xs e1 ys e2 sg) := by
 have hL : [a1,a2].Nodup := by simp [hne]
 have hoff : ∀ a ∈ [a1,a2],lkQ w.params a = none := by
  intro a ha
  revert a
  refine ac ?_ (ac ?_ (an)) <;> exact lkQ_low (by assumption)
 have z := mk_xok (w := w) (fun _ => ent1_ok) entQ1_eq (code := .call (.ref 233) ⟨[.ref a1,.ref a2],[]⟩) (L := [a1,a2]) (U := [lst xs e1,lst ys e2]) (res := fun ω => .ok (.ret (.int sg (ω 2)))) (U' := fun _ => [lst xs e1,lst ys e2]) (news := fun _ => []) (ks := []) (dm := 850) (um := 7200) (N := 400) (e := true) (tp := tp)
  (cs := fun _ n t om => csS n t a1 a2 e1 e2 l1 l2 xs ys c m (tm t) g1 g2 om) (xs := fun w n t _ => [sgLoopX n (n + 7) a1 a2 (frS2 (hS2 w) (qS2 t) a1 a2) 0 m xs e1 ys e2 res (F1 w t) I1])
  (ω := fun n t om => fun | 0 => om 0 0 | 1 => om 0 1 + i | _ => tok om) (x := fun _ n t om => ⟨.fin (.ok (.ret (.int sg (tok om)))),om 0 0,0,om 0 1,i,[],[lst xs e1,lst ys e2],[]⟩)
  hL hoff rfl (fun _ => rfl) rfl (by decide) (by decide) (fun n t om _ => cso n t om) (fun n t om hlow C hC => ?_) H (fun n t om => ⟨rfl,rfl,rfl,rfl,fun p hp => by cases hp⟩)
 ·exact xc_drop z fun ω => rfl
 ·rw [List.mem_singleton] at hC
  subst hC
  exact loop n t hlow
theorem sign_two (X : Ints xs ks) (Y : Ints ys ls) (hne : a1 ≠ a2) (h1 : 281 ≤ a1) (h2 : 281 ≤ a2) (hk : ks.length ≤ 1000) (hl : ls.length ≤ 1000) : XOk w (signX a1 a2 xs e1 ys e2 (sgn ks ls)) := by
 have lx : xs.length = ks.length := X.length
 have ly : ys.length = ls.length := Y.length
 have loop : ∀ (n t m : Nat) (res : (Nat → Nat) → Result) (F1 : (Nat → Nat) → Obj),(∀ a ∈ [a1,a2],(a : Nat) < n) → m ≤ ks.length → m ≤ ls.length → (∀ ω,res ω = sgRes (sgnF ks ls 0 m) (ω 7)) → ((m = 0 ∧ ∀ ω,F1 ω = frS2 (hS2 w) (qS2 t) a1 a2) ∨ (m ≠ 0 ∧ ∀ ω,F1 ω = frS3 (hK w (hS2 w)) (qK (qS2 t) (ω 4)) a1 a2 (ω 2) (ω 3))) →
   XOk w (sgLoopX n (n + 7) a1 a2 (frS2 (hS2 w) (qS2 t) a1 a2) 0 m xs e1 ys e2 res F1 I1) := by
  intro n t m res F1 hlow hm1 hm2 hres hF
  have l1 := hlow a1 (by simp)
  have l2 := hlow a2 (by simp)
  refine sgLoopX_ok X Y (fun q => absurd q hne) ?_ ?_ ?_ hm1 hm2 (by lia) hres rfl hF
  ·simp; lia
  ·simp; lia
  ·intro b hb
   simp only [List.mem_cons,List.not_mem_nil,or_false] at hb
   lia
 have cso : ∀ (n t m tm : Nat) (c g1 g2 : Bool) (om : Om),m ≤ 1000 → decide (ls.length < ks.length) = c → decide (ks.length > ls.length) = g1 → (decide (ks.length < ls.length) = g2) → ∀ C ∈ csS n t a1 a2 e1 e2 ks.length ls.length xs ys c m tm g1 g2 om,CtrOk w C := by
  intro n t m tm c g1 g2 om hm hc hg1 hg2 C hC
  revert C
  refine ac ?_ (ac ?_ (ac ?_ (ac ?_ (ac ?_ (ac ?_ (an))))))
  ·exact lenB_ok lx hk
  ·exact lenB_ok ly hl
  ·exact icmp_ok (by rw [← hc]; show decide ((ls.length : Int) < (ks.length : Int)) = _; rw [decide_eq_decide]; lia)
  ·exact rni_ok hm
  ·exact icmp_ok (by rw [← hg1]; show decide ((ks.length : Int) > (ls.length : Int)) = _; rw [decide_eq_decide]; lia)
  ·exact icmp_ok (by rw [← hg2]; show decide ((ks.length : Int) < (ls.length : Int)) = _; rw [decide_eq_decide]; lia)
 cases hD : sgnF ks ls 0 (min ks.length ls.length) with
 | some g =>
  have hm0 : min ks.length ls.length ≠ 0 := by
   intro q
   rw [q] at hD
   cases hD
  have hsg : sgn ks ls = if g then 1 else -1 := by
   unfold sgn
   rw [hD]
   cases g <;> rfl
  have hres : ∀ ω : Nat → Nat,(Except.ok (.ret (.int (sgn ks ls) (ω 7))) : Result) = sgRes (some g) (ω 7) := by
   intro ω
   rw [hsg]
   cases g <;> rfl
  by_cases hc : ls.length < ks.length
  ·have hmin : min ks.length ls.length = ls.length := by lia
   rw [hmin] at hD hm0
   refine sign_case (tm := fun t => t + 5) (tok := fun om => om 0 7) (F1 := fun w t => F1b w t a1 a2) hne h1 h2 (fun b n t om => sg_X1) (fun n t om => cso n t _ _ _ _ _ om (by lia) (by simp [hc]) rfl rfl) (fun n t hlow => loop n t _ _ _ hlow (by lia) (Nat.le_refl _) (fun ω => by rw [hD]; exact hres ω) (.inr ⟨hm0,fun ω => rfl⟩))
  ·have hmin : min ks.length ls.length = ks.length := by lia
   rw [hmin] at hD hm0
   refine sign_case (tm := fun t => t + 3) (tok := fun om => om 0 7) (F1 := fun w t => F1b w t a1 a2) hne h1 h2 (fun b n t om => sg_X0) (fun n t om => cso n t _ _ _ _ _ om (by lia) (by simp [hc]) rfl rfl) (fun n t hlow => loop n t _ _ _ hlow (Nat.le_refl _) (by lia) (fun ω => by rw [hD]; exact hres ω) (.inr ⟨hm0,fun ω => rfl⟩))
 | none =>
  have hsg : sgn ks ls = if ks.length > ls.length then 1 else if ks.length < ls.length then -1 else 0 := by
   unfold sgn
   rw [hD]
  rcases Nat.lt_trichotomy ls.length ks.length with hc | hc | hc
  ·have hmin : min ks.length ls.length = ls.length := by lia
   rw [hmin] at hD
   have e1' : sgn ks ls = 1 := by rw [hsg,if_pos hc]
   rw [e1']
   by_cases hz : ls.length = 0
   ·exact sign_case (tm := fun t => t + 5) (tok := fun om => om 0 1 + 4) (F1 := fun w t => F1a w t a1 a2) hne h1 h2 (fun b n t om => sg_Ga (sg := 0) (g1 := false) (g2 := false)) (fun n t om => cso n t _ _ _ _ _ om (by lia) (by simp [hc]) (by simp; lia) (by simp; lia)) (fun n t hlow => loop n t _ _ _ hlow (by lia) (Nat.le_refl _) (fun ω => by rw [hD]; rfl) (.inl ⟨hz,fun ω => rfl⟩))
   ·exact sign_case (tm := fun t => t + 5) (tok := fun om => om 0 1 + 4) (F1 := fun w t => F1b w t a1 a2) hne h1 h2 (fun b n t om => sg_Gb (sg := 0) (g1 := false) (g2 := false)) (fun n t om => cso n t _ _ _ _ _ om (by lia) (by simp [hc]) (by simp; lia) (by simp; lia)) (fun n t hlow => loop n t _ _ _ hlow (by lia) (Nat.le_refl _) (fun ω => by rw [hD]; rfl) (.inr ⟨hz,fun ω => rfl⟩))
  ·have hmin : min ks.length ls.length = ks.length := by lia
   rw [hmin] at hD
   have e1' : sgn ks ls = 0 := by rw [hsg,if_neg (by lia),if_neg (by lia)]
   rw [e1']
   by_cases hz : ks.length = 0
   ·exact sign_case (tm := fun t => t + 3) (tok := fun om => om 0 1 + 8) (F1 := fun w t => F1a w t a1 a2) hne h1 h2 (fun b n t om => sg_Ea (sg := 0) (g1 := false) (g2 := false)) (fun n t om => cso n t _ _ _ _ _ om (by lia) (by simp; lia) (by simp; lia) (by simp; lia)) (fun n t hlow => loop n t _ _ _ hlow (Nat.le_refl _) (by lia) (fun ω => by rw [hD]; rfl) (.inl ⟨hz,fun ω => rfl⟩))
   ·exact sign_case (tm := fun t => t + 3) (tok := fun om => om 0 1 + 8) (F1 := fun w t => F1b w t a1 a2) hne h1 h2 (fun b n t om => sg_Eb (sg := 0) (g1 := false) (g2 := false)) (fun n t om => cso n t _ _ _ _ _ om (by lia) (by simp; lia) (by simp; lia) (by simp; lia)) (fun n t hlow => loop n t _ _ _ hlow (Nat.le_refl _) (by lia) (fun ω => by rw [hD]; rfl) (.inr ⟨hz,fun ω => rfl⟩))
  ·have hmin : min ks.length ls.length = ks.length := by lia
   rw [hmin] at hD
   have e1' : sgn ks ls = -1 := by rw [hsg,if_neg (by lia),if_pos hc]
   rw [e1']
   by_cases hz : ks.length = 0
   ·exact sign_case (tm := fun t => t + 3) (tok := fun om => om 0 1 + 9) (F1 := fun w t => F1a w t a1 a2) hne h1 h2 (fun b n t om => sg_La (sg := 0) (g1 := false) (g2 := false)) (fun n t om => cso n t _ _ _ _ _ om (by lia) (by simp; lia) (by simp; lia) (by simp; lia)) (fun n t hlow => loop n t _ _ _ hlow (Nat.le_refl _) (by lia) (fun ω => by rw [hD]; rfl) (.inl ⟨hz,fun ω => rfl⟩))
   ·exact sign_case (tm := fun t => t + 3) (tok := fun om => om 0 1 + 9) (F1 := fun w t => F1b w t a1 a2) hne h1 h2 (fun b n t om => sg_Lb (sg := 0) (g1 := false) (g2 := false)) (fun n t om => cso n t _ _ _ _ _ om (by lia) (by simp; lia) (by simp; lia) (by simp; lia)) (fun n t hlow => loop n t _ _ _ hlow (Nat.le_refl _) (by lia) (fun ω => by rw [hD]; rfl) (.inr ⟨hz,fun ω => rfl⟩))
theorem sgn_same : sgn ks ks = 0 := by
 unfold sgn
 rw [sgnF_same]
 simp
theorem sign_one (X : Ints xs ks) (h1 : 281 ≤ a1) (hk : ks.length ≤ 1000) : XOk w (signX a1 a1 xs e1 xs e1 (sgn ks ks)) := by
 have lx : xs.length = ks.length := X.length
 have hL : [a1].Nodup := by simp
 have hoff : ∀ a ∈ [a1],lkQ w.params a = none := by
  intro a ha
  simp only [List.mem_cons,List.not_mem_nil,or_false] at ha
  subst ha
  exact lkQ_low h1
 rw [sgn_same]
 have cso : ∀ (n t : Nat) (om : Om),∀ C ∈ csS n t a1 a1 e1 e1 ks.length ks.length xs xs false ks.length (t + 3) false false om,CtrOk w C := by
  intro n t om C hC
  revert C
  refine ac ?_ (ac ?_ (ac ?_ (ac ?_ (ac ?_ (ac ?_ (an))))))
  ·exact lenB_ok lx hk
  ·exact lenB_ok lx hk
  ·exact icmp_ok (by show decide ((ks.length : Int) < (ks.length : Int)) = _; simp)
  ·exact rni_ok hk
  ·exact icmp_ok (by show decide ((ks.length : Int) > (ks.length : Int)) = _; simp)
  ·exact icmp_ok (by show decide ((ks.length : Int) < (ks.length : Int)) = _; simp)
 have go : ∀ {F1 : World → Nat → (Nat → Nat) → Obj} {tp : List Tk},(∀ w t,(ks.length = 0 ∧ ∀ ω,F1 w t ω = frS2 (hS2 w) (qS2 t) a1 a1) ∨ (ks.length ≠ 0 ∧ ∀ ω,F1 w t ω = frS3 (hK w (hS2 w)) (qK (qS2 t) (ω 4)) a1 a1 (ω 2) (ω 3))) →
   (∀ b n t om,chk [] (runC PySem.W.Fast.mineEnt1 (vw (W1 b w) n t [a1] (fun om => csS n t a1 a1 e1 e1 ks.length ks.length xs xs false ks.length (t + 3) false false om) (fun _ => [sgLoopX n (n + 7) a1 a1 (frS2 (hS2 (W1 b w)) (qS2 t) a1 a1) 0 ks.length xs e1 xs e1 (fun _ => .ok .next) (F1 (W1 b w) t) I1]) om 850 7200) 400 (.call (.ref 233) ⟨[.ref a1,.ref a1],[]⟩) true tp [lst xs e1])
   ⟨.fin (.ok (.ret (.int 0 (om 0 1 + 8)))),om 0 0,0,om 0 1,9,[],[lst xs e1],[]⟩) → XOk w (signX a1 a1 xs e1 xs e1 0) := by
  intro F1 tp hF H
  have z := mk_xok (w := w) (fun _ => ent1_ok) entQ1_eq (code := .call (.ref 233) ⟨[.ref a1,.ref a1],[]⟩) (L := [a1]) (U := [lst xs e1]) (res := fun ω => .ok (.ret (.int 0 (ω 2)))) (U' := fun _ => [lst xs e1]) (news := fun _ => []) (ks := []) (dm := 850) (um := 7200) (N := 400) (e := true) (tp := tp)
   (cs := fun _ n t om => csS n t a1 a1 e1 e1 ks.length ks.length xs xs false ks.length (t + 3) false false om) (xs := fun w n t _ => [sgLoopX n (n + 7) a1 a1 (frS2 (hS2 w) (qS2 t) a1 a1) 0 ks.length xs e1 xs e1 (fun _ => .ok .next) (F1 w t) I1])
   (ω := fun n t om => fun | 0 => om 0 0 | 1 => om 0 1 + 9 | _ => om 0 1 + 8) (x := fun _ n t om => ⟨.fin (.ok (.ret (.int 0 (om 0 1 + 8)))),om 0 0,0,om 0 1,9,[],[lst xs e1],[]⟩)
   hL hoff rfl (fun _ => rfl) rfl (by decide) (by decide) (fun n t om _ => cso n t om) (fun n t om hlow C hC => ?_) H (fun n t om => ⟨rfl,rfl,rfl,rfl,fun p hp => by cases hp⟩)
  ·exact xc_pre (xc_drop z fun ω => rfl) (P := [(a1,lst xs e1),(a1,lst xs e1)]) (by
    intro p hp
    have hp : p ∈ [(a1,lst xs e1)] := hp
    rw [List.mem_singleton] at hp
    subst hp
    simp)
  ·rw [List.mem_singleton] at hC
   subst hC
   have l1 := hlow a1 (by simp)
   refine sgLoopX_ok X X (fun _ => ⟨rfl,rfl,rfl⟩) ?_ ?_ ?_ (Nat.le_refl _) (Nat.le_refl _) hk (fun ω => by rw [sgnF_same]; rfl) rfl (hF w t)
   ·simp; lia
   ·simp; lia
   ·intro b hb
    simp only [List.mem_cons,List.not_mem_nil,or_false] at hb
    lia
 by_cases hz : ks.length = 0
 ·exact go (F1 := fun w t => F1a w t a1 a1) (fun w t => .inl ⟨hz,fun ω => rfl⟩) (fun b n t om => sg_Sa (sg := 0) (g1 := false) (g2 := false) (a2 := 0) (e2 := 0) (l2 := 0) (ys := []))
 ·exact go (F1 := fun w t => F1b w t a1 a1) (fun w t => .inr ⟨hz,fun ω => rfl⟩) (fun b n t om => sg_Sb (sg := 0) (g1 := false) (g2 := false) (a2 := 0) (e2 := 0) (l2 := 0) (ys := []))
end
end Mine.G
end
section
open PySem.Calls PySem.SeqAt
namespace Mine.G
noncomputable def szS (m n : Nat) : Int := if m > n then 1 else if m < n then -1 else 0
noncomputable def sgnI (ks ls : List Nat) (i : Nat) : Int := match sgnF ks ls i (min ks.length ls.length - i) with
 | some true => 1
 | some false => -1
 | none => szS ks.length ls.length
theorem sgnI_zero (ks ls : List Nat) : sgnI ks ls 0 = sgn ks ls := rfl
theorem sgnI_end {ks ls : List Nat} {i : Nat} (h : ks.length ≤ i ∨ ls.length ≤ i) : sgnI ks ls i = szS ks.length ls.length := by
 unfold sgnI
 have : min ks.length ls.length - i = 0 := Nat.sub_eq_zero_of_le (h.elim (Nat.le_trans (Nat.min_le_left ..)) (Nat.le_trans (Nat.min_le_right ..)))
 rw [this]; rfl
theorem sgnI_at {ks ls : List Nat} {i : Nat} (h1 : i < ks.length) (h2 : i < ls.length) : sgnI ks ls i = if ks[i] = ls[i] then sgnI ks ls (i + 1) else if ks[i] > ls[i] then 1 else -1 := by
 obtain ⟨r,hr,hr'⟩ : ∃ r,min ks.length ls.length - i = r + 1 ∧ min ks.length ls.length - (i + 1) = r := ⟨_,(Nat.succ_pred_eq_of_pos (Nat.sub_pos_of_lt (Nat.lt_min.mpr ⟨h1,h2⟩))).symm,rfl⟩
 have hD : sgnF ks ls i (r + 1) = if ks[i] = ls[i] then sgnF ks ls (i + 1) r else some (decide (ks[i] > ls[i])) := by
  show (match ks[i]?,ls[i]? with | some x,some y => _ | _,_ => _) = _
  rw [List.getElem?_eq_getElem h1,List.getElem?_eq_getElem h2]
 unfold sgnI
 rw [hr,hr',hD]
 by_cases he : ks[i] = ls[i]
 ·rw [if_pos he,if_pos he]
 ·rw [if_neg he,if_neg he]
  by_cases hg : ks[i] > ls[i]
  ·rw [if_pos hg,decide_eq_true hg]
  ·rw [if_neg hg,decide_eq_false hg]
inductive COp | lt | le | eq | ne | gt | ge
noncomputable def COp.zv (z : Int) : COp → Bool | .lt => decide (z < 0) | .le => decide (z ≤ 0) | .eq => decide (z = 0) | .ne => decide (z ≠ 0) | .gt => decide (z > 0) | .ge => decide (z ≥ 0)
noncomputable def COp.num : COp → Nat | .lt => 0 | .le => 1 | .eq => 2 | .ne => 3 | .gt => 4 | .ge => 5
noncomputable def COp.op : COp → CmpOp | .lt => .Lt | .le => .LtE | .eq => .Eq | .ne => .NotEq | .gt => .Gt | .ge => .GtE
noncomputable def COp.ez (m n : Nat) : COp → Bool | .lt => decide (m < n) | .le => decide (m ≤ n) | .eq => m == n | .ne => m != n | .gt => decide (m > n) | .ge => decide (m ≥ n)
theorem COp.ez_eq (o : COp) (m n : Nat) : o.zv (szS m n) = o.ez m n := by
 unfold szS COp.zv COp.ez
 rcases Nat.lt_trichotomy m n with q | q | q
 ·have q1 : ¬ m > n := by lia
  cases o <;> simp [q,q1] <;> lia
 ·subst q
  cases o <;> simp
 ·have q1 : ¬ m < n := by lia
  cases o <;> simp [q,q1] <;> lia
noncomputable def COp.ev (k1 k2 : Nat) : COp → Bool | .lt | .le => decide (k1 < k2) | .eq => false | .ne => true | .gt | .ge => decide (k1 > k2)
theorem COp.ev_eq (o : COp) {k1 k2 : Nat} (h : k1 ≠ k2) : o.zv (if k1 > k2 then 1 else -1) = o.ev k1 k2 := by
 unfold COp.zv COp.ev
 by_cases q : k1 > k2
 ·have q1 : ¬ k1 < k2 := by lia
  cases o <;> simp [q,q1]
 ·have q1 : k1 < k2 := by lia
  cases o <;> simp [q,q1]
noncomputable def COp.lid : COp → String | .lt => "list.__lt__" | .le => "list.__le__" | .eq => "list.__eq__" | .ne => "list.__ne__" | .gt => "list.__gt__" | .ge => "list.__ge__"
theorem pair_lt : ∀ k1 < 6,∀ k2 < 6,k1 ≠ k2 → (tabA k1 = tabA k2 → tabB k1 ≠ tabB k2) ∧ tupV (tabA k1) (tabB k1) (tabA k2) (tabB k2) .lt = decide (k1 < k2) ∧ tupV (tabA k1) (tabB k1) (tabA k2) (tabB k2) .le = decide (k1 < k2) ∧
  tupV (tabA k1) (tabB k1) (tabA k2) (tabB k2) .gt = decide (k1 > k2) ∧ tupV (tabA k1) (tabB k1) (tabA k2) (tabB k2) .ge = decide (k1 > k2) := by decide +kernel
theorem pair_eq : ∀ k1 < 6,∀ k2 < 6,(((List.range 2).all fun j => if j = 0 then tabA k1 == tabA k2 else tabB k1 == tabB k2) && (2 == 2)) = (k1 == k2) := by decide +kernel
noncomputable abbrev Pc (s : Shared) (x k : Nat) : Prop := k < 6 ∧ ∃ t,s.heap.get? x = some (piece k t)
theorem isTup {s : Shared} {x k t : Nat} (h : s.heap.get? x = some (piece k t)) : s.heap.IsTuple x #[.str (tabA k) t,.str (tabB k) (t + 1)] := ⟨_,h,rfl,0,rfl⟩
theorem piece_eq {A : Around} {s : Shared} {x y k1 k2 : Nat} (hu : A.units < cLine) (px : Pc s x k1) (py : Pc s y k2) : EqAt A s (.ref x) (.ref y) (k1 == k2) := by
 obtain ⟨h1,t1,g1⟩ := px
 obtain ⟨h2,t2,g2⟩ := py
 by_cases hxy : x = y
 ·subst hxy
  rw [g1] at g2
  have e : k1 = k2 := by
   have q := Option.some.inj g2
   simp only [piece,Obj.mk.injEq,Data.seq.injEq,true_and] at q
   have q := q.1.1
   simp only [Array.mk.injEq,List.cons.injEq,Value.str.injEq] at q
   by_cases e : k1 = k2
   ·exact e
   ·exact absurd q.2.1.1 ((pair_lt k1 h1 k2 h2 e).1 q.1.1)
  rw [e]
  simp only [beq_self_eq_true]
  exact EqAt.same _
 ·have z := RcAt.tuples (A := A) (e := fun j => if j = 0 then tabA k1 == tabA k2 else tabB k1 == tabB k2) (isTup g1) (isTup g2) hu (by
   intro j j1 j2
   have : j = 0 ∨ j = 1 := by
    have : j < 2 := j1
    lia
   rcases this with rfl | rfl
   ·exact EqAt.str_str _ _ _ _
   ·exact EqAt.str_str _ _ _ _)
  have e := pair_eq k1 h1 k2 h2
  have z : RcAt A s (.ref x) (.ref y) (((List.range 2).all fun j => if j = 0 then tabA k1 == tabA k2 else tabB k1 == tabB k2) && (2 == 2)) := z
  rw [e] at z
  exact EqAt.of_refs hxy z
theorem Pcs.at {h : Heap} {xs ks : List Nat} (P : Pcs h xs ks) : ∀ {i x : Nat},xs[i]? = some x → ∃ k,ks[i]? = some k ∧ k < 6 ∧ ∃ t,h.get? x = some (piece k t) := by
 induction P with
 | nil => intro i x e; simp at e
 | cons a _ ih =>
  intro i x e
  cases i with
  | zero =>
   simp only [List.getElem?_cons_zero,Option.some.injEq] at e
   subst e
   exact ⟨_,rfl,a⟩
  | succ i => simpa using ih (by simpa using e)
theorem rich_lt {prog : Program} {w : World} {A : Around} {E : Value → Shared → Prop} {s : Shared} {x y k1 k2 : Nat} {Q : Value → Shared → Prop} (hu : A.units < cLine) (px : Pc s x k1) (py : Pc s y k2) (hne : k1 ≠ k2) (h : Q (.bool (decide (k1 < k2))) s) :
  wpAny (model prog w) A (richCompare .Lt (.ref x) (.ref y)) Q E s := by
 obtain ⟨h1,t1,g1⟩ := px
 obtain ⟨h2,t2,g2⟩ := py
 obtain ⟨p0,p1,p2,p3,p4⟩ := pair_lt k1 h1 k2 h2 hne
 refine richCompare_meets_room (op := .Lt) ⟨_,g1,rfl⟩ ⟨_,g2,rfl⟩ F.slot_tuple_lt F.entry_tuple_lt (F.args_tuple_lt_2 _ _) (tup_meets .lt x y (tabA k1) (tabB k1) (tabA k2) (tabB k2) t1 (t1 + 1) t2 (t2 + 1) p0) ⟨g1,g2,?_⟩ hu
 rw [p1]
 exact ⟨(fun x => nomatch x),h⟩
theorem rich_le {prog : Program} {w : World} {A : Around} {E : Value → Shared → Prop} {s : Shared} {x y k1 k2 : Nat} {Q : Value → Shared → Prop} (hu : A.units < cLine) (px : Pc s x k1) (py : Pc s y k2) (hne : k1 ≠ k2) (h : Q (.bool (decide (k1 < k2))) s) :
  wpAny (model prog w) A (richCompare .LtE (.ref x) (.ref y)) Q E s := by
 obtain ⟨h1,t1,g1⟩ := px
 obtain ⟨h2,t2,g2⟩ := py
 obtain ⟨p0,p1,p2,p3,p4⟩ := pair_lt k1 h1 k2 h2 hne
 refine richCompare_meets_room (op := .LtE) ⟨_,g1,rfl⟩ ⟨_,g2,rfl⟩ F.slot_tuple_le F.entry_tuple_le (F.args_tuple_le_2 _ _) (tup_meets .le x y (tabA k1) (tabB k1) (tabA k2) (tabB k2) t1 (t1 + 1) t2 (t2 + 1) p0) ⟨g1,g2,?_⟩ hu
 rw [p2]
 exact ⟨(fun x => nomatch x),h⟩
theorem rich_gt {prog : Program} {w : World} {A : Around} {E : Value → Shared → Prop} {s : Shared} {x y k1 k2 : Nat} {Q : Value → Shared → Prop} (hu : A.units < cLine) (px : Pc s x k1) (py : Pc s y k2) (hne : k1 ≠ k2) (h : Q (.bool (decide (k1 > k2))) s) :
  wpAny (model prog w) A (richCompare .Gt (.ref x) (.ref y)) Q E s := by
 obtain ⟨h1,t1,g1⟩ := px
 obtain ⟨h2,t2,g2⟩ := py
 obtain ⟨p0,p1,p2,p3,p4⟩ := pair_lt k1 h1 k2 h2 hne
 refine richCompare_meets_room (op := .Gt) ⟨_,g1,rfl⟩ ⟨_,g2,rfl⟩ F.slot_tuple_gt F.entry_tuple_gt (F.args_tuple_gt_2 _ _) (tup_meets .gt x y (tabA k1) (tabB k1) (tabA k2) (tabB k2) t1 (t1 + 1) t2 (t2 + 1) p0) ⟨g1,g2,?_⟩ hu
 rw [p3]
 exact ⟨(fun x => nomatch x),h⟩
theorem rich_ge {prog : Program} {w : World} {A : Around} {E : Value → Shared → Prop} {s : Shared} {x y k1 k2 : Nat} {Q : Value → Shared → Prop} (hu : A.units < cLine) (px : Pc s x k1) (py : Pc s y k2) (hne : k1 ≠ k2) (h : Q (.bool (decide (k1 > k2))) s) :
  wpAny (model prog w) A (richCompare .GtE (.ref x) (.ref y)) Q E s := by
 obtain ⟨h1,t1,g1⟩ := px
 obtain ⟨h2,t2,g2⟩ := py
 obtain ⟨p0,p1,p2,p3,p4⟩ := pair_lt k1 h1 k2 h2 hne
 refine richCompare_meets_room (op := .GtE) ⟨_,g1,rfl⟩ ⟨_,g2,rfl⟩ F.slot_tuple_ge F.entry_tuple_ge (F.args_tuple_ge_2 _ _) (tup_meets .ge x y (tabA k1) (tabB k1) (tabA k2) (tabB k2) t1 (t1 + 1) t2 (t2 + 1) p0) ⟨g1,g2,?_⟩ hu
 rw [p4]
 exact ⟨(fun x => nomatch x),h⟩
theorem loop_op (o : COp) (a b : Addr) (xs ys ks ls : List Nat) (c1 c2 : Value) (n n2 : Nat) (dd dd2 : Option Addr) (k : Nat) :
  ∀ i : Nat,xs.length - i = k → Meets (Builtin.«list.__eq__.loop» ⟨[.ref a,.ref b,rawInt i,rawInt (o.num : Nat)],[]⟩)
   (fun A R s => A.units + 1 < cLine ∧ s.heap.get? a = some { cls := c1,dict := dd,data := .seq (refs xs).toArray n,slots := #[] } ∧ s.heap.get? b = some { cls := c2,dict := dd2,data := .seq (refs ys).toArray n2,slots := #[] } ∧
    Pcs s.heap xs ks ∧ Pcs s.heap ys ls ∧ R (.ok (.ret (.bool (o.zv (sgnI ks ls i))))) s) := by
 have leaf : ∀ {s : Shared},Pcs s.heap xs ks → Pcs s.heap ys ls → ks.length = xs.length ∧ ls.length = ys.length := fun p q => ⟨(All2.length p).symm,(All2.length q).symm⟩
 have stop : ∀ (i : Nat) (prog : Program) (w : World) (A : Around) (R : Result → Shared → Prop) (s : Shared),(xs.length ≤ i ∨ ys.length ≤ i) → s.heap.get? a = some { cls := c1,dict := dd,data := .seq (refs xs).toArray n,slots := #[] } → s.heap.get? b = some { cls := c2,dict := dd2,data := .seq (refs ys).toArray n2,slots := #[] } →
   Pcs s.heap xs ks → Pcs s.heap ys ls → R (.ok (.ret (.bool (o.zv (sgnI ks ls i))))) s → wpAny (model prog w) A.in1 (Builtin.«list.__eq__.loop» ⟨[.ref a,.ref b,rawInt i,rawInt (o.num : Nat)],[]⟩) (fun fin s' => match fin with | .done f => R (.ok f) s' | .again c' => c'.quiet = true ∧ codeAny (model prog w) A c' R s') (fun e s' => R (.error e) s') s := by
  intro i prog w A R s hi hl hb px py h
  obtain ⟨l1,l2⟩ := leaf px py
  rw [sgnI_end (by lia),l1,l2,COp.ez_eq] at h
  delta Builtin.«list.__eq__.loop»
  dsimp only [rawInt]
  split
  rotate_left
  ·rename_i hop
   exact (hop o.op (by cases o <;> rfl)).elim
  rename_i op hop
  have : op = o.op := by cases o <;> exact (Option.some.inj hop).symm
  subst this
  clear hop
  obtain ⟨hp,g,d,tk,os⟩ := s
  wp_walk using AutoSeq1.wpAny_loadPart' hl,AutoSeq1.wpAny_loadPart' hb
  have hnone : (refs xs).toArray[((i : Nat) : Int).toNat]? = none ∨ (refs ys).toArray[((i : Nat) : Int).toNat]? = none := by
   rcases hi with hi | hi
   ·left; simp [refs_length]; lia
   ·right; simp [refs_length]; lia
  have hx : (refs xs).toArray.size = xs.length := by simp [refs_length]
  have hy : (refs ys).toArray.size = ys.length := by simp [refs_length]
  rw [← hx,← hy] at h
  rcases hnone with hn | hn
  ·rw [hn]
   cases (refs ys).toArray[((i : Nat) : Int).toNat]? <;> (wp_walk using AutoSeq1.wpAny_loadPart' hl,AutoSeq1.wpAny_loadPart' hb; cases o <;> exact h)
  ·rw [hn]
   cases (refs xs).toArray[((i : Nat) : Int).toNat]? <;> (wp_walk using AutoSeq1.wpAny_loadPart' hl,AutoSeq1.wpAny_loadPart' hb; cases o <;> exact h)
 induction k with
 | zero =>
  intro i hk prog w A R s ⟨hu,hl,hb,px,py,h⟩
  exact stop i prog w A R s (.inl (by lia)) hl hb px py h
 | succ k ih =>
  intro i hk prog w A R s ⟨hu,hl,hb,px,py,h⟩
  rcases Nat.lt_or_ge i ys.length with hlt2 | hge
  rotate_left
  ·exact stop i prog w A R s (.inr hge) hl hb px py h
  obtain ⟨l1,l2⟩ := leaf px py
  have hlt : i < xs.length := by lia
  obtain ⟨k1,e1,p1,t1,g1⟩ := Pcs.at px (List.getElem?_eq_getElem hlt)
  obtain ⟨k2,e2,p2,t2,g2⟩ := Pcs.at py (List.getElem?_eq_getElem hlt2)
  have hk1 : ks[i]'(by lia) = k1 := by
   have := (List.getElem?_eq_some_iff.mp e1).2
   exact this
  have hk2 : ls[i]'(by lia) = k2 := by
   have := (List.getElem?_eq_some_iff.mp e2).2
   exact this
  rw [sgnI_at (by lia) (by lia),hk1,hk2] at h
  have hu' : A.in1.units < cLine := hu
  have P1 : Pc s xs[i] k1 := ⟨p1,t1,g1⟩
  have P2 : Pc s ys[i] k2 := ⟨p2,t2,g2⟩
  have he := piece_eq hu' P1 P2
  have hi1 : (refs xs).toArray[((i : Nat) : Int).toNat]? = some (.ref xs[i]) := by simp [refs,hlt]
  have hi2 : (refs ys).toArray[((i : Nat) : Int).toNat]? = some (.ref ys[i]) := by simp [refs,hlt2]
  have hc : ((i : Int) + 1) = ((i + 1 : Nat) : Int) := by push_cast; rfl
  delta Builtin.«list.__eq__.loop»
  dsimp only [rawInt]
  split
  rotate_left
  ·rename_i hop
   exact (hop o.op (by cases o <;> rfl)).elim
  rename_i op hop
  have : op = o.op := by cases o <;> exact (Option.some.inj hop).symm
  subst this
  clear hop
  obtain ⟨hp,g,d,tk,os⟩ := s
  wp_walk using AutoSeq1.wpAny_loadPart' hl,AutoSeq1.wpAny_loadPart' hb
  rw [hi1,hi2]
  refine wpAny_bind (he prog w _ _ ?_)
  by_cases hkk : k1 = k2
  ·rw [if_pos hkk] at h
   have : (k1 == k2) = true := by simp [hkk]
   rw [this]
   wp_walk
   rw [hc]
   exact ⟨plainId_quiet MeetsSeq3.plain_eq_loop _,codeAny_builtin MeetsSeq3.entry_eq_loop (by
    rw [Around.under_plainId MeetsSeq3.plain_eq_loop _]
    exact ih (i + 1) (by lia) prog w A R _ ⟨hu,hl,hb,px,py,h⟩)⟩
  ·rw [if_neg hkk,COp.ev_eq o hkk] at h
   have : (k1 == k2) = false := by simp [hkk]
   rw [this]
   wp_walk using AutoSeq1.wpAny_loadPart' hl,AutoSeq1.wpAny_loadPart' hb
   rw [hi1,hi2]
   cases o with
   | lt => exact wpAny_bind (rich_lt hu' P1 P2 hkk (wpAny_pure h))
   | le => exact wpAny_bind (rich_le hu' P1 P2 hkk (wpAny_pure h))
   | gt => exact wpAny_bind (rich_gt hu' P1 P2 hkk (wpAny_pure h))
   | ge => exact wpAny_bind (rich_ge hu' P1 P2 hkk (wpAny_pure h))
   | eq => wp_walk; exact h
   | ne => wp_walk; exact h
end Mine.G
end
section
namespace Mine.G
noncomputable def lkP (PT : Nat → Option Obj) (P : Params) (a : Nat) : Option Obj := match Nat.blt a 281 with
 | true => lkQ P a
 | false => PT a
noncomputable def vwP (PT : Nat → Option Obj) (w : World) (n t : Nat) (L : List Nat) (cs : Om → List Ctr) (xs : Om → List XC) (om : Om) (d u : Nat) : Vw := { prog := prg,w := w,lk := lkP PT w.params,n := n,L := L,t₀ := t,d₀ := d,u₀ := u,ctrs := cs,xcs := xs,om := om }
noncomputable def baseP (PT : Nat → Option Obj) (w : World) : Mine.Vw := { prog := prg,w := w,lk := lkP PT w.params,n := 0,L := [],t₀ := 0,d₀ := 0,u₀ := 0,ctrs := [] }
noncomputable abbrev CtrOkP (PT : Nat → Option Obj) (w : World) (C : Ctr) : Prop := C.Ok (baseP PT w)
noncomputable abbrev XOkP (PT : Nat → Option Obj) (w : World) (C : XC) : Prop := C.Ok (baseP PT w)
theorem lkP_of {PT : Nat → Option Obj} {P : Params} {a : Nat} {o : Obj} (h : lkQ P a = some o) : lkP PT P a = some o := by
 unfold lkP
 cases q : Nat.blt a 281 with
 | true => exact h
 | false =>
  have : 281 ≤ a := by
   rcases Nat.lt_or_ge a 281 with z | z
   ·have := Nat.ble_eq_true_of_le (show a + 1 ≤ 281 from z)
    have e : Nat.blt a 281 = Nat.ble (a + 1) 281 := rfl
    rw [e,this] at q; cases q
   ·exact z
  rw [lkQ_low this] at h; cases h
theorem lkP_low {PT : Nat → Option Obj} {P : Params} {a : Nat} (h : 281 ≤ a) (h2 : PT a = none) : lkP PT P a = none := by
 unfold lkP
 cases q : Nat.blt a 281 with
 | true => have := Nat.le_of_ble_eq_true q; lia
 | false => exact h2
theorem lkP_at {PT : Nat → Option Obj} {P : Params} {a : Nat} {o : Obj} (h : 281 ≤ a) (h2 : PT a = some o) : lkP PT P a = some o := by
 unfold lkP
 cases q : Nat.blt a 281 with
 | true => have := Nat.le_of_ble_eq_true q; lia
 | false => exact h2
theorem ctrP {PT : Nat → Option Obj} {w : World} {C : Ctr} (h : CtrOk w C) : CtrOkP PT w C := fun A s hd hu hh hl hp => h A s hd hu hh (fun a o e => hl a o (lkP_of e)) hp
theorem xcP {PT : Nat → Option Obj} {w : World} {C : XC} (h : XOk w C) : XOkP PT w C := fun A s hd hu hh hl hp => h A s hd hu hh (fun a o e => hl a o (lkP_of e)) hp
structure StartP (PT : Nat → Option Obj) (w : World) (n t : Nat) (L : List Nat) (U : List Obj) (s : Shared) : Prop where
 size : s.heap.objs.size = n
 toks : s.toks = t
 nodup : L.Nodup
 off : ∀ a ∈ L,lkP PT w.params a = none
 old : ∀ (i : Nat) a o,L[i]? = some a → U[i]? = some o → s.heap.get? a = some o
 len : U.length = L.length
 lit : ∀ a o,lkP PT w.params a = some o → s.heap.get? a = some o
theorem startP_of {PT : Nat → Option Obj} {w : World} {L : List Nat} {U : List Obj} {s : Shared} (hL : L.Nodup) (hoff : ∀ a ∈ L,lkP PT w.params a = none) (hlen : U.length = L.length)
  (hl : ∀ a o,lkP PT w.params a = some o → s.heap.get? a = some o) (hp : ∀ p ∈ L.zip U,s.heap.get? p.1 = some p.2) : StartP PT w s.heap.objs.size s.toks L U s :=
 ⟨rfl,rfl,hL,hoff,fun i a o ha ho => hp (a,o) (List.mem_of_getElem? (i := i) (by rw [List.getElem?_zip_eq_some]; exact ⟨ha,ho⟩)),hlen,hl⟩
theorem StartP.low {PT : Nat → Option Obj} {w : World} {L : List Nat} {U : List Obj} {s : Shared} {n t : Nat} (S : StartP PT w n t L U s) : ∀ a ∈ L,(a : Nat) < n := by
 intro a ha
 obtain ⟨i,hi,e⟩ := List.getElem_of_mem ha
 have h1 : L[i]? = some a := by rw [List.getElem?_eq_getElem hi,e]
 have h2 : i < U.length := by rw [S.len]; exact hi
 have this : @LT.lt Nat _ a s.heap.objs.size := Heap.lt_size (S.old i a _ h1 (List.getElem?_eq_getElem h2))
 have hz := S.size
 lia
section
variable {PT : Nat → Option Obj} {w : World} {n t : Nat} {L : List Nat} {cs : Om → List Ctr} {xs : Om → List XC} {om : Om} {dm um : Nat} {U : List Obj} {s : Shared} {A : Around} {Q : Result → Shared → Prop} {E : Value → Shared → Prop}
theorem StartP.ok (S : StartP PT w n t L U s) : VOk (vwP PT w n t L cs xs om dm um) s.heap :=
 ⟨S.size,S.nodup,fun (a : Nat) (ha : a ∈ L) => by
  obtain ⟨i,hi,e⟩ := List.getElem_of_mem ha
  have h1 : L[i]? = some a := by rw [List.getElem?_eq_getElem hi,e]
  have h2 : i < U.length := by rw [S.len]; exact hi
  have := Heap.lt_size (S.old i a _ h1 (List.getElem?_eq_getElem h2))
  have hz := S.size
  show a < n
  have this : @LT.lt Nat _ a s.heap.objs.size := this
  lia,S.off,S.lit⟩
theorem StartP.inv (S : StartP PT w n t L U s) : InvM (vwP PT w n t L cs xs om dm um) s (mem0 (vwP PT w n t L cs xs om dm um) U) s :=
 ⟨S.toks,⟨S.size,Nat.le_add_right ..,(fun j a o e => by cases e),(fun j j' a o o' e => by cases e),(fun a o e => by cases e),S.old,S.lit,fun b o h _ => h,fun _ => ⟨rfl,rfl,rfl,fun j a o e => by cases e⟩⟩,id,rfl,fun _ _ => ⟨rfl,rfl⟩⟩
theorem behind_ofP (S : StartP PT w n t L U s) {ks : List Nat} {x : Rslt} {M : Mem} {s' : Shared} (I : InvM (vwP PT w n t L cs xs om dm um) s M s') (h1 : M.b = x.b) (h2 : M.m = x.m) (h3 : M.tb = x.tb) (h4 : M.i = x.i) (hT : ks.map M.T.get = x.T) (hU : M.U = x.U) (hz : M.fz = x.fz) : Behind s s' L x := by
 have R := I.rep
 have hsz := S.size
 refine ⟨by rw [← h1,← h2]; exact R.size,by rw [← h3,← h4]; exact I.toks,?_,fun i a o ho => ?_,fun a o hm => ?_,fun i a o ha ho => R.old i a o ha (by rw [hU]; exact ho),R.keep,I.bare,I.os⟩
 ·rw [hsz,show s'.heap.objs.size = M.b + M.m from R.size]; exact R.top
 ·rw [← hT,List.getElem?_map] at ho
  cases hk : ks[i]? with
  | none => rw [hk] at ho; cases ho
  | some k =>
   rw [hk] at ho
   have ho : M.T.get k = some (a,o) := by simpa using ho
   obtain ⟨_,y,_,z⟩ := R.own k a o ho
   exact ⟨by rw [hsz]; exact y,z⟩
 ·rw [← hz] at hm
  obtain ⟨y,_,z,_⟩ := R.frz a o hm
  exact ⟨by rw [hsz]; exact y,z⟩
theorem run_codeP {ent entQ : Code → Sem Fin} (EO : EntOk prg w ent) (eq : ent = entQ) {c : Code} {e : Bool} {N : Nat} {tp : List Tk} {ks : List Nat} {x : Om → Rslt} (S : StartP PT w n t L U s) (CO : ∀ om,∀ C ∈ cs om,CtrOkP PT w C) (XO : ∀ om,∀ C ∈ xs om,XOkP PT w C)
  (hd : A.depth ≤ dm) (hu : A.units ≤ um) (hh : A.handled = none) (hok : okCode c = true) (hdm : dm ≤ 900) (hum : um ≤ 9000) (h : ∀ om,chk ks (runC entQ (vwP PT w n t L cs xs om dm um) N c e tp U) (x om))
  (q : ∀ om s',Behind s s' L (x om) → OutV w A Q E (x om).val s') : codeAny (model prg w) A c (fun r s' => wpAny (model prg w) A (Sem.pure r) Q E s') s := by
 subst eq
 let V := vwP PT w n t L cs xs (fun _ _ => 0) dm um
 have key : ∀ t0,(∀ om,∃ a M,run (denote table) ent (V.at_ om) N (.i c [] Sem.pure t0) tp (mem0 V U) = some (a,M) ∧ chk ks (some (a,M)) (x om)) → MeansC prg w A Q E (.i c [] Sem.pure t0) s := by
  intro t0 ht
  refine run_T (V := V) (Q := Q) (E := E) (A := A) EO (StartP.ok S) CO XO hd hu hh N (.i c [] Sem.pure t0) tp (mem0 V U) (fun _ _ => 0) (fun om _ => ?_) (show kOk [] from fun f hf => by cases hf) s (StartP.inv S)
  obtain ⟨a,M,hR,hc⟩ := ht om
  obtain ⟨a',M',hR',h0,h1,h2,h3,h4,h5,h6,h7,g⟩ := chk_elim hc
  cases hR'
  exact ⟨a,M,hR,g,fun s' I => outV_ok (h0 ▸ q om s' (behind_ofP S (cs := cs) (xs := xs) (om := fun _ _ => 0) (dm := dm) (um := um) I h1 h2 h3 h4 h5 h6 h7))⟩
 have get : ∀ om,∃ a M,run (denote table) ent (V.at_ om) N (.i c [] Sem.pure (match e with | true => ent c | false => denote table c)) tp (mem0 V U) = some (a,M) ∧ chk ks (some (a,M)) (x om) := by
  intro om
  have hx := h om
  obtain ⟨a,M,hR,_⟩ := chk_elim hx
  rw [hR] at hx
  refine ⟨a,M,?_,hx⟩
  unfold runC at hR
  rw [← dq_eq] at hR
  exact hR
 cases e with
 | false => exact y_code _ _ _ _ _ _ (key _ get)
 | true =>
  refine y_code _ _ _ _ _ _ (RefO.own (EO _ _ ?_ ?_) (key _ get))
  ·have := (okCode_weight hok).1
   show A.depth + c.weight < 1000
   lia
  ·have := (okCode_weight hok).2
   show A.units + c.cUnits < 9900
   lia
theorem run_codePE {ent entQ : Code → Sem Fin} (EO : EntOk prg w ent) (eq : ent = entQ) {c : Code} {e : Bool} {N : Nat} {tp : List Tk} {ks : List Nat} {x : Om → Rslt} (S : StartP PT w n t L U s) (CO : ∀ om,∀ C ∈ cs om,CtrOkP PT w C) (XO : ∀ om,∀ C ∈ xs om,XOkP PT w C)
  (hd : A.depth ≤ dm) (hu : A.units ≤ um) (hh : A.handled = none) (hok : okCode c = true) (hdm : dm ≤ 900) (hum : um ≤ 9000) (h : ∀ om,chk ks (runC entQ (vwP PT w n t L cs xs om dm um) N c e tp U) (x om))
  (q : ∀ om s',Behind s s' L (x om) → match (x om).val with | .fin r => Q r s' | .tail c' k => k = Sem.pure ∧ codeAny (model prg w) A c' Q s' | .other => False) : codeAny (model prg w) A c Q s := by
 refine codeAny_pure (E := fun _ _ => False) (run_codeP EO eq S CO XO hd hu hh hok hdm hum h fun om s' B => ?_)
 have z := q om s' B
 cases hv : (x om).val with
 | fin r => rw [hv] at z; exact z
 | tail c' k =>
  rw [hv] at z
  exact ⟨z.1,codeAny_mono z.2 fun r s'' h => wpAny_pure h⟩
 | other => rw [hv] at z; exact z.elim
end
theorem mk_okP {PT : Nat → Option Obj} {w : World} {ent entQ : Code → Sem Fin} (EO : ∀ w,EntOk prg w ent) (eq : ent = entQ) {code : Code} {L : List Nat} {U : List Obj} {val : Nat → Nat → Value} {U' : Nat → Nat → List Obj} {ks : List Nat} {T : Nat → Nat → List Obj} {grow toks dm um N : Nat} {e : Bool} {tp : List Tk} {cs : Nat → Nat → List Ctr}
  (hL : L.Nodup) (hoff : ∀ a ∈ L,lkP PT w.params a = none) (hlen : U.length = L.length) (hlen' : ∀ n t,(U' n t).length = L.length) (hok : okCode code = true) (hdm : dm ≤ 900) (hum : um ≤ 9000)
  (CO : ∀ n t,(∀ a ∈ L,(a : Nat) < n) → ∀ C ∈ cs n t,CtrOkP PT w C)
  (h : ∀ b n t om,chk ks (runC entQ (vwP PT (W1 b w) n t L (fun _ => cs n t) (fun _ => []) om dm um) N code e tp U) ⟨.fin (.ok (.ret (val n t))),n,grow,t,toks,(ks.zip (T n t)).map (fun p => some (n + p.1,p.2)),U' n t,[]⟩) :
  CtrOkP PT w (mkC code L U val U' ks T grow toks dm um) := by
 intro A s hd hu hh hl hp
 have S : StartP PT w s.heap.objs.size s.toks L U s := startP_of hL hoff hlen hl hp
 have h1 := h (w.params.followText "special-get-raises") s.heap.objs.size s.toks
 rw [W1_eq] at h1
 refine run_codePE (EO w) eq S (fun _ => CO _ _ S.low) (fun _ => an) hd hu hh hok hdm hum h1 fun om s' B => ?_
 refine ⟨rfl,B.size,B.toks,?_,?_,?_,B.bare,B.os⟩
 ·intro p hp
  obtain ⟨i,hi⟩ := List.getElem?_of_mem hp
  obtain ⟨h1,h2⟩ := List.getElem?_zip_eq_some.mp hi
  exact B.old i p.1 p.2 h1 h2
 ·intro p hp
  obtain ⟨i,hi⟩ := List.getElem?_of_mem hp
  refine (B.own i (s.heap.objs.size + p.1) p.2 ?_).2
  show ((ks.zip (T s.heap.objs.size s.toks)).map _)[i]? = _
  have hi : (ks.zip (T s.heap.objs.size s.toks))[i]? = some p := hi
  rw [List.getElem?_map,hi]; rfl
 ·intro b o hb hn
  refine B.keep b o hb fun hm => ?_
  obtain ⟨i,hi,e⟩ := List.getElem_of_mem hm
  have hi2 : i < (U' s.heap.objs.size s.toks).length := by rw [hlen']; exact hi
  refine hn (b,(U' s.heap.objs.size s.toks)[i]) (List.mem_of_getElem? (i := i) ?_) rfl
  show (L.zip (U' s.heap.objs.size s.toks))[i]? = _
  rw [List.getElem?_zip_eq_some]
  exact ⟨by rw [List.getElem?_eq_getElem hi,e],List.getElem?_eq_getElem hi2⟩
theorem mk_xokP {PT : Nat → Option Obj} {w : World} {ent entQ : Code → Sem Fin} (EO : ∀ w,EntOk prg w ent) (eq : ent = entQ) {code : Code} {L : List Nat} {U : List Obj} {res : (Nat → Nat) → Result} {U' : (Nat → Nat) → List Obj} {news : (Nat → Nat) → List (Nat × Obj)} {ks : List Nat} {dm um N : Nat} {e : Bool} {tp : List Tk} {cs : World → Nat → Nat → Om → List Ctr} {xs : World → Nat → Nat → Om → List XC}
  {ω : Nat → Nat → Om → Nat → Nat} {x : World → Nat → Nat → Om → Rslt}
  (hL : L.Nodup) (hoff : ∀ a ∈ L,lkP PT w.params a = none) (hlen : U.length = L.length) (hlen' : ∀ ω,(U' ω).length = L.length) (hok : okCode code = true) (hdm : dm ≤ 900) (hum : um ≤ 9000)
  (CO : ∀ n t om,(∀ a ∈ L,(a : Nat) < n) → ∀ C ∈ cs w n t om,CtrOkP PT w C) (XO : ∀ n t om,(∀ a ∈ L,(a : Nat) < n) → ∀ C ∈ xs w n t om,XOkP PT w C)
  (h : ∀ b n t om,chk ks (runC entQ (vwP PT (W1 b w) n t L (cs (W1 b w) n t) (xs (W1 b w) n t) om dm um) N code e tp U) (x (W1 b w) n t om))
  (hx : ∀ n t om,(x w n t om).val = .fin (res (ω n t om)) ∧ (x w n t om).b + (x w n t om).m = ω n t om 0 ∧ (x w n t om).tb + (x w n t om).i = ω n t om 1 ∧ (x w n t om).U = U' (ω n t om) ∧
   ∀ p ∈ news (ω n t om),some p ∈ (x w n t om).T ∨ p ∈ (x w n t om).fz) :
  XOkP PT w (mkX code L U res U' news dm um) := by
 intro A s hd hu hh hl hp
 have S : StartP PT w s.heap.objs.size s.toks L U s := startP_of hL hoff hlen hl hp
 have h1 := h (w.params.followText "special-get-raises") s.heap.objs.size s.toks
 rw [W1_eq] at h1
 have low := S.low
 refine run_codePE (EO w) eq S (fun om => CO _ _ om low) (fun om => XO _ _ om low) hd hu hh hok hdm hum h1 fun om s' B => ?_
 obtain ⟨x1,x2,x3,x4,x5⟩ := hx s.heap.objs.size s.toks om
 rw [x1]
 refine ⟨ω s.heap.objs.size s.toks om,rfl,by rw [B.size,x2],by rw [B.toks,x3],by rw [← x2,← B.size]; exact B.grow,?_,?_,?_,B.bare,B.os⟩
 ·intro p hp
  obtain ⟨i,hi⟩ := List.getElem?_of_mem hp
  obtain ⟨h1,h2⟩ := List.getElem?_zip_eq_some.mp hi
  exact B.old i p.1 p.2 h1 (by rw [x4]; exact h2)
 ·intro p hp
  rcases x5 p hp with hq | hq
  ·obtain ⟨i,hi⟩ := List.getElem?_of_mem hq
   exact B.own i p.1 p.2 hi
  ·exact B.frz p.1 p.2 hq
 ·intro b o hb hn
  refine B.keep b o hb fun hm => ?_
  obtain ⟨i,hi,e⟩ := List.getElem_of_mem hm
  have hi2 : i < (U' (ω s.heap.objs.size s.toks om)).length := by rw [hlen']; exact hi
  refine hn (b,(U' (ω s.heap.objs.size s.toks om))[i]) (List.mem_of_getElem? (i := i) ?_) rfl
  show (L.zip (U' (ω s.heap.objs.size s.toks om)))[i]? = _
  rw [List.getElem?_zip_eq_some]
  exact ⟨by rw [List.getElem?_eq_getElem hi,e],List.getElem?_eq_getElem hi2⟩
end Mine.G
end
section
open PySem.Calls PySem.SeqAt
namespace Mine.G
theorem lk101 {w : World} : lkQ w.params 101 = some (k101 w.params) := by
 unfold lkQ
 kernel_rfl
theorem inst_is {prog : Program} {w : World} {A : Around} {E : Value → Shared → Prop} {s : Shared} {Q : Bool → Shared → Prop} {b e : Nat} {d : Option Nat} {xs : List Value} {c : Value} (hc : c = .ref 101 ∨ c = .type "list") (hb : s.heap.get? b = some (sq c d xs e)) (h1 : s.heap.get? 101 = some (k101 w.params)) (h : Q true s) : wpAny (model prog w) A (isInstance (.ref b) (.type "list")) Q E s := by
 rcases hc with rfl | rfl
 ·unfold isInstance
  unfold sq at hb
  wp_walk using AutoSeq1.wpAny_loadPart' hb,AutoSeq1.wpAny_loadPart' h1
  show wpAny _ _ (isSubtype (.ref 101) (.type "list")) Q E s
  unfold isSubtype
  unfold k101 at h1
  wp_walk using AutoSeq1.wpAny_loadPart' h1
  exact h
 ·exact wpAny_isInstance (T := "list") (b := true) ⟨_,hb,rfl⟩ isSubtype_list_list h
theorem sgn_len {ks ls : List Nat} (h : sgn ks ls = 0) : ks.length = ls.length := by
 unfold sgn at h
 cases q : sgnF ks ls 0 (min ks.length ls.length) with
 | some g => rw [q] at h; cases g <;> cases h
 | none =>
  rw [q] at h
  simp only at h
  by_cases h1 : ks.length > ls.length
  ·rw [if_pos h1] at h; cases h
  ·rw [if_neg h1] at h
   by_cases h2 : ks.length < ls.length
   ·rw [if_pos h2] at h; cases h
   ·lia
noncomputable def PcT (PT : Nat → Option Obj) (xs ks : List Nat) : Prop := All2 (fun x k => k < 6 ∧ 281 ≤ x ∧ ∃ t,PT x = some (piece k t)) xs ks
theorem PcT.pcs {PT : Nat → Option Obj} {w : World} {s : Shared} {xs ks : List Nat} (h : PcT PT xs ks) (hl : ∀ a o,lkP PT w.params a = some o → s.heap.get? a = some o) : Pcs s.heap xs ks :=
 All2.mono h fun x k ⟨a,b,t,c⟩ => ⟨a,t,hl x _ (lkP_at b c)⟩
noncomputable def lcmpC (o : COp) (a b : Nat) (c1 : Value) (d1 : Option Nat) (e1 : Nat) (c2 : Value) (d2 : Option Nat) (e2 : Nat) (xs ys : List Nat) (r : Bool) : Ctr :=
 {code := .builtin o.lid ⟨[.ref a,.ref b],[]⟩,pre := [(a,sq c1 d1 (refs xs) e1),(b,sq c2 d2 (refs ys) e2)],val := fun _ _ => .bool r,upd := fun _ _ => [],news := fun _ _ => [],grow := 0,toks := 0,dm := 930,um := 8000 }
section
variable {PT : Nat → Option Obj} {w : World} {a b : Nat} {c1 c2 : Value} {d1 d2 : Option Nat} {e1 e2 : Nat} {xs ys ks ls : List Nat} {r : Bool}
theorem lcmp_op (o : COp) (hc2 : c2 = .ref 101 ∨ c2 = .type "list") (X : PcT PT xs ks) (Y : PcT PT ys ls) : CtrOkP PT w (lcmpC o a b c1 d1 e1 c2 d2 e2 xs ys (COp.zv (sgn ks ls) o)) := by
 intro A s hd hu hh hl hp
 have hl : ∀ a o,lkP PT w.params a = some o → s.heap.get? a = some o := hl
 have ha := hp (a,sq c1 d1 (refs xs) e1) (.head _)
 have hb := hp (b,sq c2 d2 (refs ys) e2) (.tail _ (.head _))
 have h101 := hl 101 _ (lkP_of (PT := PT) (lk101 (w := w)))
 have px := PcT.pcs X hl
 have py := PcT.pcs Y hl
 have hu' : A.in1.units + 1 < cLine := by
  have hu : A.units ≤ 8000 := hu
  show A.units + 1 + 1 < 9900
  lia
 have hin : ∀ {Q : Bool → Shared → Prop} {E : Value → Shared → Prop},Q true s → wpAny (model prg w) A.in1 (isInstance (.ref b) (.type "list")) Q E s := fun h => inst_is hc2 hb h101 h
 unfold sq at ha hb
 have fin : ∀ Q : Result → Shared → Prop,Q (.ok (.ret (.bool (COp.zv (sgn ks ls) o)))) s → (Code.builtin "list.__eq__.loop" ⟨[.ref a,.ref b,rawInt ((0 : Nat) : Int),rawInt (o.num : Nat)],[]⟩).quiet = true ∧ codeAny (model prg w) A (.builtin "list.__eq__.loop" ⟨[.ref a,.ref b,rawInt ((0 : Nat) : Int),rawInt (o.num : Nat)],[]⟩) Q s := fun Q hq =>
  ⟨plainId_quiet MeetsSeq3.plain_eq_loop _,codeAny_builtin MeetsSeq3.entry_eq_loop (by
   rw [Around.under_plainId MeetsSeq3.plain_eq_loop _]
   exact loop_op o a b xs ys ks ls c1 c2 e1 e2 d1 d2 _ 0 rfl prg w A _ s ⟨Nat.lt_of_succ_lt hu',ha,hb,px,py,hq⟩)⟩
 show codeAny (model prg w) A (.builtin o.lid ⟨[.ref a,.ref b],[]⟩) _ s
 generalize hQ : (fun (r : Result) (s' : Shared) => r = (lcmpC o a b c1 d1 e1 c2 d2 e2 xs ys (COp.zv (sgn ks ls) o)).res s.heap.objs.size s.toks ∧ After (lcmpC o a b c1 d1 e1 c2 d2 e2 xs ys (COp.zv (sgn ks ls) o)) s s') = Q
 have done : Q (.ok (.ret (.bool (COp.zv (sgn ks ls) o)))) s := hQ ▸ ⟨rfl,after_id rfl rfl rfl rfl⟩
 clear hQ
 have fin := fin Q done
 have hs : xs.length ≠ ys.length → sgn ks ls ≠ 0 := fun hz q => hz ((All2.length px).trans ((sgn_len q).trans (All2.length py).symm))
 have key : ∀ B,entryFor table o.lid = some B → plainId o.lid = true → wpAny (model prg w) A.in1 (B ⟨[.ref a,.ref b],[]⟩) (fun f s' => match f with | .done f => Q (.ok f) s' | .again c' => c'.quiet = true ∧ codeAny (model prg w) A c' Q s') (fun e s' => Q (.error e) s') s → codeAny (model prg w) A (.builtin o.lid ⟨[.ref a,.ref b],[]⟩) Q s := fun B h1 h2 h3 =>
  codeAny_builtin h1 (by rw [Around.under_plainId h2]; exact h3)
 cases o with
 | lt =>
  refine key _ F.entry_list_lt (by decide +kernel) ?_
  show wpAny (model prg w) A.in1 (isInstance (.ref b) (.type "list") >>= _) _ _ s
  refine wpAny_bind (hin ?_)
  wp_walk using AutoSeq1.wpAny_loadPart' ha,AutoSeq1.wpAny_loadPart' hb
  exact fin
 | le =>
  refine key _ F.entry_list_le (by decide +kernel) ?_
  show wpAny (model prg w) A.in1 (isInstance (.ref b) (.type "list") >>= _) _ _ s
  refine wpAny_bind (hin ?_)
  wp_walk using AutoSeq1.wpAny_loadPart' ha,AutoSeq1.wpAny_loadPart' hb
  exact fin
 | gt =>
  refine key _ F.entry_list_gt (by decide +kernel) ?_
  show wpAny (model prg w) A.in1 (isInstance (.ref b) (.type "list") >>= _) _ _ s
  refine wpAny_bind (hin ?_)
  wp_walk using AutoSeq1.wpAny_loadPart' ha,AutoSeq1.wpAny_loadPart' hb
  exact fin
 | ge =>
  refine key _ F.entry_list_ge (by decide +kernel) ?_
  show wpAny (model prg w) A.in1 (isInstance (.ref b) (.type "list") >>= _) _ _ s
  refine wpAny_bind (hin ?_)
  wp_walk using AutoSeq1.wpAny_loadPart' ha,AutoSeq1.wpAny_loadPart' hb
  exact fin
 | eq =>
  refine key _ F.entry_list_eq (by decide +kernel) ?_
  show wpAny (model prg w) A.in1 (isInstance (.ref b) (.type "list") >>= _) _ _ s
  refine wpAny_bind (hin ?_)
  by_cases hz : xs.length = ys.length
  ·have hne : ¬ ((refs xs).toArray.size != (refs ys).toArray.size) = true := by simp [refs_length,hz]
   wp_walk using AutoSeq1.wpAny_loadPart' ha,AutoSeq1.wpAny_loadPart' hb
   rw [if_neg hne]
   exact wpAny_pure fin
  ·have hne : ((refs xs).toArray.size != (refs ys).toArray.size) = true := by simp [refs_length,hz]
   wp_walk using AutoSeq1.wpAny_loadPart' ha,AutoSeq1.wpAny_loadPart' hb
   rw [if_pos hne]
   have : COp.zv (sgn ks ls) .eq = false := by simp [COp.zv,hs hz]
   rw [this] at done
   exact wpAny_bind (wpAny_rule (wpAny_pure done))
 | ne =>
  refine key _ F.entry_list_ne (by decide +kernel) ?_
  show wpAny (model prg w) A.in1 (isInstance (.ref b) (.type "list") >>= _) _ _ s
  refine wpAny_bind (hin ?_)
  by_cases hz : xs.length = ys.length
  ·have hne : ¬ ((refs xs).toArray.size != (refs ys).toArray.size) = true := by simp [refs_length,hz]
   wp_walk using AutoSeq1.wpAny_loadPart' ha,AutoSeq1.wpAny_loadPart' hb
   rw [if_neg hne]
   exact wpAny_pure fin
  ·have hne : ((refs xs).toArray.size != (refs ys).toArray.size) = true := by simp [refs_length,hz]
   wp_walk using AutoSeq1.wpAny_loadPart' ha,AutoSeq1.wpAny_loadPart' hb
   rw [if_pos hne]
   have : COp.zv (sgn ks ls) .ne = true := by simp [COp.zv,hs hz]
   rw [this] at done
   exact wpAny_bind (wpAny_rule (wpAny_pure done))
end
end Mine.G
end
section
namespace Mine.G
theorem drop_ok {V : Mine.Vw} {C : Ctr} (h : C.Ok V) (hu : ∀ n t,C.upd n t = C.pre) : ({ C with upd := fun _ _ => [] } : Ctr).Ok V := by
 intro A s hd hun hh hl hp
 refine codeAny_mono (h A s hd hun hh hl hp) ?_
 rintro r s' ⟨e,k1,k2,k3,k4,k5,k6,k7⟩
 refine ⟨e,k1,k2,(fun p hp => by cases hp),k4,fun b o hb _ => ?_,k6,k7⟩
 by_cases q : ∀ p ∈ C.upd s.heap.objs.size s.toks,p.1 ≠ b
 ·exact k5 b o hb q
 ·simp only [Classical.not_forall] at q
  obtain ⟨p,hm,hb'⟩ := q
  have hb' : p.1 = b := Classical.byContradiction hb'
  have z := k3 p hm
  rw [hu] at hm
  have y := hp p hm
  rw [hb'] at z y
  rw [hb] at y
  rw [z,← Option.some.inj y]
theorem pre_ok {V : Mine.Vw} {C : Ctr} {P : List (Addr × Obj)} (h : C.Ok V) (hs : ∀ p ∈ C.pre,p ∈ P) : ({ C with pre := P } : Ctr).Ok V := fun A s hd hun hh hl hp => h A s hd hun hh hl fun p m => hp p (hs p m)
noncomputable abbrev acC : Value := .ref 101
noncomputable abbrev acO (d e : Nat) (xs : List Nat) : Obj := sq acC (some d) (refs xs) e
noncomputable def helpC (f a1 a2 d1 e1 d2 e2 : Nat) (xs ys : List Nat) (r : Bool) : Ctr :=
 {code := .call (.ref f) ⟨[.ref a1,.ref a2],[]⟩,pre := [(a1,acO d1 e1 xs),(a2,acO d2 e2 ys)],val := fun _ _ => .bool r,upd := fun _ _ => [],news := fun _ _ => [],grow := 1,toks := 4,dm := 850,um := 7200 }
noncomputable abbrev lc (o : COp) (a1 a2 d1 e1 d2 e2 : Nat) (xs ys : List Nat) (r : Bool) : Ctr := lcmpC o a1 a2 acC (some d1) e1 acC (some d2) e2 xs ys r
noncomputable def tpH0 : List Tk := (cat tp73 (cat [(.ctr 0 [.old 0,.old 1] [])] (cat tp28 (cat [l,l] (cat tp28 [d 0,d 1,d 0,l,l,l,.go,d 0,l,(.ctr 1 [.old 0,.old 1] [])])))))
noncomputable def tpH1 : List Tk := (cat tp73 (cat [(.ctr 0 [.old 0,.old 1] [])] (cat tp28 [l,l,o 0])))
noncomputable def tpH2 : List Tk := (cat tp73 (cat [(.ctr 0 [.old 0,.old 0] [])] (cat tp28 (cat [l,l] (cat tp28 [d 0,d 0,d 0,l,l,l,.go,d 0,l,(.ctr 1 [.old 0,.old 0] [])])))))
noncomputable def tpH3 : List Tk := (cat tp73 (cat [(.ctr 0 [.old 0,.old 0] [])] (cat tp28 [l,l,o 0])))
noncomputable def hcs (os : List COp) (a1 a2 d1 e1 d2 e2 : Nat) (xs ys : List Nat) (z : Int) : List Ctr := os.map fun o => lc o a1 a2 d1 e1 d2 e2 xs ys (COp.zv z o)
noncomputable def Two (f : Nat) (os : List COp) (tp : Int → List Tk) (r : COp) : Prop := ∀ (PT : Nat → Option Obj) (w : World) (b : Bool) (n t a1 a2 d1 e1 d2 e2 : Nat) (om : Om) (xs ys : List Nat) (z : Int),z = 1 ∨ z = 0 ∨ z = -1 →
 chk [] (runC PySem.W.Fast.mineEnt1 (vwP PT (W1 b w) n t [a1,a2] (fun _ => hcs os a1 a2 d1 e1 d2 e2 xs ys z) (fun _ => []) om 850 7200) 200 (.call (.ref f) ⟨[.ref a1,.ref a2],[]⟩) true (tp z) [acO d1 e1 xs,acO d2 e2 ys])
  ⟨.fin (.ok (.ret (.bool (COp.zv z r)))),n,1,t,4,[],[acO d1 e1 xs,acO d2 e2 ys],[]⟩
noncomputable def One (f : Nat) (os : List COp) (tp : List Tk) (r : COp) : Prop := ∀ (PT : Nat → Option Obj) (w : World) (b : Bool) (n t a1 d1 e1 : Nat) (om : Om) (xs : List Nat),
 chk [] (runC PySem.W.Fast.mineEnt1 (vwP PT (W1 b w) n t [a1] (fun _ => hcs os a1 a1 d1 e1 d1 e1 xs xs 0) (fun _ => []) om 850 7200) 200 (.call (.ref f) ⟨[.ref a1,.ref a1],[]⟩) true tp [acO d1 e1 xs])
  ⟨.fin (.ok (.ret (.bool (COp.zv 0 r)))),n,1,t,4,[],[acO d1 e1 xs],[]⟩
section
variable {PT : Nat → Option Obj} {w : World} {a1 a2 d1 e1 d2 e2 : Nat} {xs ys ks ls : List Nat}
theorem help_two {f : Nat} {r : Bool} {cs : List Ctr} {tp : List Tk} (hne : a1 ≠ a2) (l1 : lkP PT w.params a1 = none) (l2 : lkP PT w.params a2 = none) (hcs : ∀ C ∈ cs,CtrOkP PT w C)
  (H : ∀ b n t om,chk [] (runC PySem.W.Fast.mineEnt1 (vwP PT (W1 b w) n t [a1,a2] (fun _ => cs) (fun _ => []) om 850 7200) 200 (.call (.ref f) ⟨[.ref a1,.ref a2],[]⟩) true tp [acO d1 e1 xs,acO d2 e2 ys])
   ⟨.fin (.ok (.ret (.bool r))),n,1,t,4,[],[acO d1 e1 xs,acO d2 e2 ys],[]⟩) : CtrOkP PT w (helpC f a1 a2 d1 e1 d2 e2 xs ys r) := by
 have z := mk_okP (PT := PT) (w := w) (fun _ => ent1_ok) entQ1_eq (code := .call (.ref f) ⟨[.ref a1,.ref a2],[]⟩) (L := [a1,a2]) (U := [acO d1 e1 xs,acO d2 e2 ys]) (val := fun _ _ => .bool r) (U' := fun _ _ => [acO d1 e1 xs,acO d2 e2 ys]) (ks := []) (T := fun _ _ => []) (grow := 1) (toks := 4) (dm := 850) (um := 7200) (N := 200) (e := true) (tp := tp) (cs := fun _ _ => cs)
  (by simp [hne]) (by
   intro a ha
   revert a
   refine ac ?_ (ac ?_ (an)) <;> assumption) rfl (fun _ _ => rfl) rfl (by decide) (by decide) (fun n t _ => hcs) H
 exact drop_ok z fun n t => rfl
theorem help_one {f : Nat} {r : Bool} {cs : List Ctr} {tp : List Tk} (l1 : lkP PT w.params a1 = none) (hcs : ∀ C ∈ cs,CtrOkP PT w C)
  (H : ∀ b n t om,chk [] (runC PySem.W.Fast.mineEnt1 (vwP PT (W1 b w) n t [a1] (fun _ => cs) (fun _ => []) om 850 7200) 200 (.call (.ref f) ⟨[.ref a1,.ref a1],[]⟩) true tp [acO d1 e1 xs])
   ⟨.fin (.ok (.ret (.bool r))),n,1,t,4,[],[acO d1 e1 xs],[]⟩) : CtrOkP PT w (helpC f a1 a1 d1 e1 d1 e1 xs xs r) := by
 have z := mk_okP (PT := PT) (w := w) (fun _ => ent1_ok) entQ1_eq (code := .call (.ref f) ⟨[.ref a1,.ref a1],[]⟩) (L := [a1]) (U := [acO d1 e1 xs]) (val := fun _ _ => .bool r) (U' := fun _ _ => [acO d1 e1 xs]) (ks := []) (T := fun _ _ => []) (grow := 1) (toks := 4) (dm := 850) (um := 7200) (N := 200) (e := true) (tp := tp) (cs := fun _ _ => cs)
  (by simp) (ac l1 an) rfl (fun _ _ => rfl) rfl (by decide) (by decide) (fun n t _ => hcs) H
 refine pre_ok (drop_ok z fun n t => rfl) (P := [(a1,acO d1 e1 xs),(a1,acO d1 e1 xs)]) ?_
 intro p hp
 have hp : p ∈ [(a1,acO d1 e1 xs)] := hp
 rw [List.mem_singleton] at hp
 subst hp; simp
theorem sgn_cases (ks ls : List Nat) : sgn ks ls = 1 ∨ sgn ks ls = 0 ∨ sgn ks ls = -1 := by
 unfold sgn
 cases sgnF ks ls 0 (min ks.length ls.length) with
 | some g => cases g <;> simp
 | none =>
  simp only
  split
  ·simp
  ·split <;> simp
theorem lc_ok (o : COp) (X : PcT PT xs ks) (Y : PcT PT ys ls) {z : Int} {r : Bool} (hz : sgn ks ls = z) (hr : COp.zv z o = r) : CtrOkP PT w (lc o a1 a2 d1 e1 d2 e2 xs ys r) := by
 subst hz hr
 exact lcmp_op o (.inl rfl) X Y
theorem hcs_ok {os : List COp} (X : PcT PT xs ks) (Y : PcT PT ys ls) {z : Int} (hz : sgn ks ls = z) : ∀ C ∈ hcs os a1 a2 d1 e1 d2 e2 xs ys z,CtrOkP PT w C := by
 intro C hC
 obtain ⟨o,_,rfl⟩ := List.mem_map.mp hC
 exact lc_ok o X Y hz rfl
theorem of_two {f : Nat} {os : List COp} {tp : Int → List Tk} {r : COp} (H : Two f os tp r) (X : PcT PT xs ks) (Y : PcT PT ys ls) (hne : a1 ≠ a2) (l1 : lkP PT w.params a1 = none) (l2 : lkP PT w.params a2 = none) : CtrOkP PT w (helpC f a1 a2 d1 e1 d2 e2 xs ys (COp.zv (sgn ks ls) r)) :=
 help_two hne l1 l2 (hcs_ok X Y rfl) fun b n t om => H PT w b n t a1 a2 d1 e1 d2 e2 om xs ys _ (sgn_cases ks ls)
theorem of_one {f : Nat} {os : List COp} {tp : List Tk} {r : COp} (H : One f os tp r) (X : PcT PT xs ks) (l1 : lkP PT w.params a1 = none) : CtrOkP PT w (helpC f a1 a1 d1 e1 d1 e1 xs xs (COp.zv (sgn ks ks) r)) := by
 rw [sgn_same]
 exact help_one l1 (hcs_ok X X sgn_same) fun b n t om => H PT w b n t a1 d1 e1 om xs
theorem two_112 : Two 112 [.lt,.ne] (fun z => bif COp.zv z .lt then tpH1 else tpH0) .gt := by
 intro PT w b n t a1 a2 d1 e1 d2 e2 om xs ys z h
 unfold chk
 rcases h with rfl | rfl | rfl <;> cases b <;> kernel_rfl
theorem one_112 : One 112 [.lt,.ne] tpH2 .gt := by
 intro PT w b n t a1 d1 e1 om xs
 unfold chk
 cases b <;> kernel_rfl
theorem help_112 (X : PcT PT xs ks) (Y : PcT PT ys ls) (hne : a1 ≠ a2) (l1 : lkP PT w.params a1 = none) (l2 : lkP PT w.params a2 = none) : CtrOkP PT w (helpC 112 a1 a2 d1 e1 d2 e2 xs ys (COp.zv (sgn ks ls) .gt)) := of_two two_112 X Y hne l1 l2
theorem help_112_s (X : PcT PT xs ks) (l1 : lkP PT w.params a1 = none) : CtrOkP PT w (helpC 112 a1 a1 d1 e1 d1 e1 xs xs (COp.zv (sgn ks ks) .gt)) := of_one one_112 X l1
theorem two_119 : Two 119 [.lt,.eq] (fun z => bif COp.zv z .lt then tpH1 else tpH0) .le := by
 intro PT w b n t a1 a2 d1 e1 d2 e2 om xs ys z h
 unfold chk
 rcases h with rfl | rfl | rfl <;> cases b <;> kernel_rfl
theorem one_119 : One 119 [.lt,.eq] tpH2 .le := by
 intro PT w b n t a1 d1 e1 om xs
 unfold chk
 cases b <;> kernel_rfl
theorem help_119 (X : PcT PT xs ks) (Y : PcT PT ys ls) (hne : a1 ≠ a2) (l1 : lkP PT w.params a1 = none) (l2 : lkP PT w.params a2 = none) : CtrOkP PT w (helpC 119 a1 a2 d1 e1 d2 e2 xs ys (COp.zv (sgn ks ls) .le)) := of_two two_119 X Y hne l1 l2
theorem help_119_s (X : PcT PT xs ks) (l1 : lkP PT w.params a1 = none) : CtrOkP PT w (helpC 119 a1 a1 d1 e1 d1 e1 xs xs (COp.zv (sgn ks ks) .le)) := of_one one_119 X l1
theorem two_126 : Two 126 [.lt] (fun _ => tpH1) .ge := by
 intro PT w b n t a1 a2 d1 e1 d2 e2 om xs ys z h
 unfold chk
 rcases h with rfl | rfl | rfl <;> cases b <;> kernel_rfl
theorem one_126 : One 126 [.lt] tpH3 .ge := by
 intro PT w b n t a1 d1 e1 om xs
 unfold chk
 cases b <;> kernel_rfl
theorem help_126 (X : PcT PT xs ks) (Y : PcT PT ys ls) (hne : a1 ≠ a2) (l1 : lkP PT w.params a1 = none) (l2 : lkP PT w.params a2 = none) : CtrOkP PT w (helpC 126 a1 a2 d1 e1 d2 e2 xs ys (COp.zv (sgn ks ls) .ge)) := of_two two_126 X Y hne l1 l2
theorem help_126_s (X : PcT PT xs ks) (l1 : lkP PT w.params a1 = none) : CtrOkP PT w (helpC 126 a1 a1 d1 e1 d1 e1 xs xs (COp.zv (sgn ks ks) .ge)) := of_one one_126 X l1
theorem two_133 : Two 133 [.le,.eq] (fun z => bif COp.zv z .le then tpH0 else tpH1) .ge := by
 intro PT w b n t a1 a2 d1 e1 d2 e2 om xs ys z h
 unfold chk
 rcases h with rfl | rfl | rfl <;> cases b <;> kernel_rfl
theorem one_133 : One 133 [.le,.eq] tpH2 .ge := by
 intro PT w b n t a1 d1 e1 om xs
 unfold chk
 cases b <;> kernel_rfl
theorem help_133 (X : PcT PT xs ks) (Y : PcT PT ys ls) (hne : a1 ≠ a2) (l1 : lkP PT w.params a1 = none) (l2 : lkP PT w.params a2 = none) : CtrOkP PT w (helpC 133 a1 a2 d1 e1 d2 e2 xs ys (COp.zv (sgn ks ls) .ge)) := of_two two_133 X Y hne l1 l2
theorem help_133_s (X : PcT PT xs ks) (l1 : lkP PT w.params a1 = none) : CtrOkP PT w (helpC 133 a1 a1 d1 e1 d1 e1 xs xs (COp.zv (sgn ks ks) .ge)) := of_one one_133 X l1
theorem two_140 : Two 140 [.le,.ne] (fun z => bif COp.zv z .le then tpH0 else tpH1) .lt := by
 intro PT w b n t a1 a2 d1 e1 d2 e2 om xs ys z h
 unfold chk
 rcases h with rfl | rfl | rfl <;> cases b <;> kernel_rfl
theorem one_140 : One 140 [.le,.ne] tpH2 .lt := by
 intro PT w b n t a1 d1 e1 om xs
 unfold chk
 cases b <;> kernel_rfl
theorem help_140 (X : PcT PT xs ks) (Y : PcT PT ys ls) (hne : a1 ≠ a2) (l1 : lkP PT w.params a1 = none) (l2 : lkP PT w.params a2 = none) : CtrOkP PT w (helpC 140 a1 a2 d1 e1 d2 e2 xs ys (COp.zv (sgn ks ls) .lt)) := of_two two_140 X Y hne l1 l2
theorem help_140_s (X : PcT PT xs ks) (l1 : lkP PT w.params a1 = none) : CtrOkP PT w (helpC 140 a1 a1 d1 e1 d1 e1 xs xs (COp.zv (sgn ks ks) .lt)) := of_one one_140 X l1
theorem two_147 : Two 147 [.le] (fun _ => tpH1) .gt := by
 intro PT w b n t a1 a2 d1 e1 d2 e2 om xs ys z h
 unfold chk
 rcases h with rfl | rfl | rfl <;> cases b <;> kernel_rfl
theorem one_147 : One 147 [.le] tpH3 .gt := by
 intro PT w b n t a1 d1 e1 om xs
 unfold chk
 cases b <;> kernel_rfl
theorem help_147 (X : PcT PT xs ks) (Y : PcT PT ys ls) (hne : a1 ≠ a2) (l1 : lkP PT w.params a1 = none) (l2 : lkP PT w.params a2 = none) : CtrOkP PT w (helpC 147 a1 a2 d1 e1 d2 e2 xs ys (COp.zv (sgn ks ls) .gt)) := of_two two_147 X Y hne l1 l2
theorem help_147_s (X : PcT PT xs ks) (l1 : lkP PT w.params a1 = none) : CtrOkP PT w (helpC 147 a1 a1 d1 e1 d1 e1 xs xs (COp.zv (sgn ks ks) .gt)) := of_one one_147 X l1
theorem two_154 : Two 154 [.gt,.ne] (fun z => bif COp.zv z .gt then tpH1 else tpH0) .lt := by
 intro PT w b n t a1 a2 d1 e1 d2 e2 om xs ys z h
 unfold chk
 rcases h with rfl | rfl | rfl <;> cases b <;> kernel_rfl
theorem one_154 : One 154 [.gt,.ne] tpH2 .lt := by
 intro PT w b n t a1 d1 e1 om xs
 unfold chk
 cases b <;> kernel_rfl
theorem help_154 (X : PcT PT xs ks) (Y : PcT PT ys ls) (hne : a1 ≠ a2) (l1 : lkP PT w.params a1 = none) (l2 : lkP PT w.params a2 = none) : CtrOkP PT w (helpC 154 a1 a2 d1 e1 d2 e2 xs ys (COp.zv (sgn ks ls) .lt)) := of_two two_154 X Y hne l1 l2
theorem help_154_s (X : PcT PT xs ks) (l1 : lkP PT w.params a1 = none) : CtrOkP PT w (helpC 154 a1 a1 d1 e1 d1 e1 xs xs (COp.zv (sgn ks ks) .lt)) := of_one one_154 X l1
theorem two_161 : Two 161 [.gt,.eq] (fun z => bif COp.zv z .gt then tpH1 else tpH0) .ge := by
 intro PT w b n t a1 a2 d1 e1 d2 e2 om xs ys z h
 unfold chk
 rcases h with rfl | rfl | rfl <;> cases b <;> kernel_rfl
theorem one_161 : One 161 [.gt,.eq] tpH2 .ge := by
 intro PT w b n t a1 d1 e1 om xs
 unfold chk
 cases b <;> kernel_rfl
theorem help_161 (X : PcT PT xs ks) (Y : PcT PT ys ls) (hne : a1 ≠ a2) (l1 : lkP PT w.params a1 = none) (l2 : lkP PT w.params a2 = none) : CtrOkP PT w (helpC 161 a1 a2 d1 e1 d2 e2 xs ys (COp.zv (sgn ks ls) .ge)) := of_two two_161 X Y hne l1 l2
theorem help_161_s (X : PcT PT xs ks) (l1 : lkP PT w.params a1 = none) : CtrOkP PT w (helpC 161 a1 a1 d1 e1 d1 e1 xs xs (COp.zv (sgn ks ks) .ge)) := of_one one_161 X l1
theorem two_168 : Two 168 [.gt] (fun _ => tpH1) .le := by
 intro PT w b n t a1 a2 d1 e1 d2 e2 om xs ys z h
 unfold chk
 rcases h with rfl | rfl | rfl <;> cases b <;> kernel_rfl
theorem one_168 : One 168 [.gt] tpH3 .le := by
 intro PT w b n t a1 d1 e1 om xs
 unfold chk
 cases b <;> kernel_rfl
theorem help_168 (X : PcT PT xs ks) (Y : PcT PT ys ls) (hne : a1 ≠ a2) (l1 : lkP PT w.params a1 = none) (l2 : lkP PT w.params a2 = none) : CtrOkP PT w (helpC 168 a1 a2 d1 e1 d2 e2 xs ys (COp.zv (sgn ks ls) .le)) := of_two two_168 X Y hne l1 l2
theorem help_168_s (X : PcT PT xs ks) (l1 : lkP PT w.params a1 = none) : CtrOkP PT w (helpC 168 a1 a1 d1 e1 d1 e1 xs xs (COp.zv (sgn ks ks) .le)) := of_one one_168 X l1
theorem two_175 : Two 175 [.ge,.eq] (fun z => bif COp.zv z .ge then tpH0 else tpH1) .le := by
 intro PT w b n t a1 a2 d1 e1 d2 e2 om xs ys z h
 unfold chk
 rcases h with rfl | rfl | rfl <;> cases b <;> kernel_rfl
theorem one_175 : One 175 [.ge,.eq] tpH2 .le := by
 intro PT w b n t a1 d1 e1 om xs
 unfold chk
 cases b <;> kernel_rfl
theorem help_175 (X : PcT PT xs ks) (Y : PcT PT ys ls) (hne : a1 ≠ a2) (l1 : lkP PT w.params a1 = none) (l2 : lkP PT w.params a2 = none) : CtrOkP PT w (helpC 175 a1 a2 d1 e1 d2 e2 xs ys (COp.zv (sgn ks ls) .le)) := of_two two_175 X Y hne l1 l2
theorem help_175_s (X : PcT PT xs ks) (l1 : lkP PT w.params a1 = none) : CtrOkP PT w (helpC 175 a1 a1 d1 e1 d1 e1 xs xs (COp.zv (sgn ks ks) .le)) := of_one one_175 X l1
theorem two_182 : Two 182 [.ge,.ne] (fun z => bif COp.zv z .ge then tpH0 else tpH1) .gt := by
 intro PT w b n t a1 a2 d1 e1 d2 e2 om xs ys z h
 unfold chk
 rcases h with rfl | rfl | rfl <;> cases b <;> kernel_rfl
theorem one_182 : One 182 [.ge,.ne] tpH2 .gt := by
 intro PT w b n t a1 d1 e1 om xs
 unfold chk
 cases b <;> kernel_rfl
theorem help_182 (X : PcT PT xs ks) (Y : PcT PT ys ls) (hne : a1 ≠ a2) (l1 : lkP PT w.params a1 = none) (l2 : lkP PT w.params a2 = none) : CtrOkP PT w (helpC 182 a1 a2 d1 e1 d2 e2 xs ys (COp.zv (sgn ks ls) .gt)) := of_two two_182 X Y hne l1 l2
theorem help_182_s (X : PcT PT xs ks) (l1 : lkP PT w.params a1 = none) : CtrOkP PT w (helpC 182 a1 a1 d1 e1 d1 e1 xs xs (COp.zv (sgn ks ks) .gt)) := of_one one_182 X l1
theorem two_189 : Two 189 [.ge] (fun _ => tpH1) .lt := by
 intro PT w b n t a1 a2 d1 e1 d2 e2 om xs ys z h
 unfold chk
 rcases h with rfl | rfl | rfl <;> cases b <;> kernel_rfl
theorem one_189 : One 189 [.ge] tpH3 .lt := by
 intro PT w b n t a1 d1 e1 om xs
 unfold chk
 cases b <;> kernel_rfl
theorem help_189 (X : PcT PT xs ks) (Y : PcT PT ys ls) (hne : a1 ≠ a2) (l1 : lkP PT w.params a1 = none) (l2 : lkP PT w.params a2 = none) : CtrOkP PT w (helpC 189 a1 a2 d1 e1 d2 e2 xs ys (COp.zv (sgn ks ls) .lt)) := of_two two_189 X Y hne l1 l2
theorem help_189_s (X : PcT PT xs ks) (l1 : lkP PT w.params a1 = none) : CtrOkP PT w (helpC 189 a1 a1 d1 e1 d1 e1 xs xs (COp.zv (sgn ks ks) .lt)) := of_one one_189 X l1
end
end Mine.G
end
section
namespace Mine.G
noncomputable def twelveC (a1 a2 d1 e1 d2 e2 : Nat) (xs ys : List Nat) (z : Int) (tz : Nat) : Ctr :=
 {code := .call (.ref 240) ⟨[.ref a1,.ref a2,.int z tz],[]⟩,pre := [(a1,acO d1 e1 xs),(a2,acO d2 e2 ys)],val := fun _ _ => .bool true,upd := fun _ _ => [],news := fun _ _ => [],grow := 49,toks := 79,dm := 830,um := 7100 }
noncomputable def tpT : List Tk := (cat [l,l] (cat tp7 (cat [o 0,o 0,l,.go] (cat tp21 (cat [(.ctr 0 [.old 0,.old 1] [])] (cat tp21 (cat [(.ctr 1 [.old 0,.old 1] [])] (cat tp21 (cat [(.ctr 2 [.old 0,.old 1] [])] (cat tp33 (cat [(.ctr 3 [.old 0,.old 1] [])] (cat tp21 (cat [(.ctr 4 [.old 0,.old 1] [])] (cat tp21 (cat [(.ctr 5 [.old 0,.old 1] [])] (cat tp33 (cat [(.ctr 6 [.old 0,.old 1] [])] (cat tp21 (cat [(.ctr 7 [.old 0,.old 1] [])] (cat tp21 (cat [(.ctr 8 [.old 0,.old 1] [])] (cat tp33 (cat [(.ctr 9 [.old 0,.old 1] [])] (cat tp21 (cat [(.ctr 10 [.old 0,.old 1] [])] (cat tp21 (cat [(.ctr 11 [.old 0,.old 1] [])] (cat tp7 (cat [.go,.go,o 0,o 0,.go,.go,o 0,o 0,.go,.go,o 0,o 0,.go,.go,o 21,o 21,.go,o 21,.go,o 22,.go,o 22] (cat tp31 (cat [o 22,o 17,o 17,o 17,.go,o 17,.go,o 23,o 23] (cat tp49 (cat [o 23] (cat tp49 (cat [o 23] (cat tp49 (cat [o 25] (cat tp7 (cat [o 0,o 4,o 4,.go,o 4,.go,o 26] (cat tp36 (cat tp7 (cat tp36 (cat tp7 (cat tp36 (cat tp7 (cat tp36 (cat [o 28] (cat tp50 (cat [o 18,o 18,o 18,.go,o 18,.go,o 29,o 29] (cat tp51 (cat [o 29] (cat tp51 (cat [o 29] (cat tp51 (cat [o 31] (cat tp7 (cat [o 0,o 8,o 8,.go,o 8,.go,o 32,.go,o 32,.go,o 32,.go,o 32,o 32] (cat tp52 (cat tp52 (cat tp52 (cat [o 8,o 32,o 32,o 34] (cat tp50 (cat [o 19,o 19,o 19,.go,o 19,.go,o 35,o 35] (cat tp53 (cat [o 35] (cat tp53 (cat [o 35] (cat tp53 (cat [o 37] (cat tp7 (cat [o 0,o 12,o 12,.go,o 12,.go,o 38,.go,o 38,.go,o 38,.go,o 38] (cat tp54 (cat tp54 (cat tp54 (cat [o 38,o 12,o 38,o 38,o 40] (cat tp50 (cat [o 20,o 20,o 20,.go,o 20,.go,o 41,o 41] (cat tp55 (cat [o 41] (cat tp55 (cat [o 41] (cat tp55 (cat [o 43] (cat tp7 (cat [o 0,o 16,o 16,.go,o 16,.go,o 44,.go,o 44,.go,o 44,.go,o 44] (cat tp56 (cat tp56 (cat tp56 (cat [o 44,o 16,o 44,o 44,o 46,.go,.go,o 22] (cat tp31 [o 48,.go]))))))))))))))))))))))))))))))))))))))))))))))))))))))))))))))))))))))))))))))))))))))))))
noncomputable abbrev cs12p (a1 a2 d1 e1 d2 e2 : Nat) (xs ys : List Nat) : List Ctr := [helpC 112 a1 a2 d1 e1 d2 e2 xs ys true,helpC 147 a1 a2 d1 e1 d2 e2 xs ys true,helpC 182 a1 a2 d1 e1 d2 e2 xs ys true,helpC 140 a1 a2 d1 e1 d2 e2 xs ys false,helpC 154 a1 a2 d1 e1 d2 e2 xs ys false,helpC 189 a1 a2 d1 e1 d2 e2 xs ys false,helpC 126 a1 a2 d1 e1 d2 e2 xs ys true,helpC 133 a1 a2 d1 e1 d2 e2 xs ys true,helpC 161 a1 a2 d1 e1 d2 e2 xs ys true,helpC 119 a1 a2 d1 e1 d2 e2 xs ys false,helpC 168 a1 a2 d1 e1 d2 e2 xs ys false,helpC 175 a1 a2 d1 e1 d2 e2 xs ys false]
noncomputable def z_tw_p (n t d1 e1 d2 e2 : Nat) (xs ys : List Nat) : Rslt :=
 ⟨.fin (.ok (.ret (.bool true))),n,49,t,79,[],[acO d1 e1 xs,acO d2 e2 ys],[]⟩
theorem tw_p {PT : Nat → Option Obj} {w : World} {n t a1 a2 d1 e1 d2 e2 tz : Nat} {om : Om} {xs ys : List Nat} :
  chk [] (runC PySem.W.Fast.mineEnt1 (vwP PT w n t [a1,a2] (fun _ => cs12p a1 a2 d1 e1 d2 e2 xs ys) (fun _ => []) om 830 7100) 1100 (.call (.ref 240) ⟨[.ref a1,.ref a2,.int (1) tz],[]⟩) true tpT [acO d1 e1 xs,acO d2 e2 ys]) (z_tw_p n t d1 e1 d2 e2 xs ys) := by
 delta chk
 apply w1 (w := w) <;> kernel_rfl
noncomputable abbrev cs12z (a1 a2 d1 e1 d2 e2 : Nat) (xs ys : List Nat) : List Ctr := [helpC 112 a1 a2 d1 e1 d2 e2 xs ys false,helpC 147 a1 a2 d1 e1 d2 e2 xs ys false,helpC 182 a1 a2 d1 e1 d2 e2 xs ys false,helpC 140 a1 a2 d1 e1 d2 e2 xs ys false,helpC 154 a1 a2 d1 e1 d2 e2 xs ys false,helpC 189 a1 a2 d1 e1 d2 e2 xs ys false,helpC 126 a1 a2 d1 e1 d2 e2 xs ys true,helpC 133 a1 a2 d1 e1 d2 e2 xs ys true,helpC 161 a1 a2 d1 e1 d2 e2 xs ys true,helpC 119 a1 a2 d1 e1 d2 e2 xs ys true,helpC 168 a1 a2 d1 e1 d2 e2 xs ys true,helpC 175 a1 a2 d1 e1 d2 e2 xs ys true]
noncomputable def z_tw_z (n t d1 e1 d2 e2 : Nat) (xs ys : List Nat) : Rslt :=
 ⟨.fin (.ok (.ret (.bool true))),n,49,t,79,[],[acO d1 e1 xs,acO d2 e2 ys],[]⟩
theorem tw_z {PT : Nat → Option Obj} {w : World} {n t a1 a2 d1 e1 d2 e2 tz : Nat} {om : Om} {xs ys : List Nat} :
  chk [] (runC PySem.W.Fast.mineEnt1 (vwP PT w n t [a1,a2] (fun _ => cs12z a1 a2 d1 e1 d2 e2 xs ys) (fun _ => []) om 830 7100) 1100 (.call (.ref 240) ⟨[.ref a1,.ref a2,.int (0) tz],[]⟩) true tpT [acO d1 e1 xs,acO d2 e2 ys]) (z_tw_z n t d1 e1 d2 e2 xs ys) := by
 delta chk
 apply w1 (w := w) <;> kernel_rfl
noncomputable abbrev cs12m (a1 a2 d1 e1 d2 e2 : Nat) (xs ys : List Nat) : List Ctr := [helpC 112 a1 a2 d1 e1 d2 e2 xs ys false,helpC 147 a1 a2 d1 e1 d2 e2 xs ys false,helpC 182 a1 a2 d1 e1 d2 e2 xs ys false,helpC 140 a1 a2 d1 e1 d2 e2 xs ys true,helpC 154 a1 a2 d1 e1 d2 e2 xs ys true,helpC 189 a1 a2 d1 e1 d2 e2 xs ys true,helpC 126 a1 a2 d1 e1 d2 e2 xs ys false,helpC 133 a1 a2 d1 e1 d2 e2 xs ys false,helpC 161 a1 a2 d1 e1 d2 e2 xs ys false,helpC 119 a1 a2 d1 e1 d2 e2 xs ys true,helpC 168 a1 a2 d1 e1 d2 e2 xs ys true,helpC 175 a1 a2 d1 e1 d2 e2 xs ys true]
noncomputable def z_tw_m (n t d1 e1 d2 e2 : Nat) (xs ys : List Nat) : Rslt :=
 ⟨.fin (.ok (.ret (.bool true))),n,49,t,79,[],[acO d1 e1 xs,acO d2 e2 ys],[]⟩
theorem tw_m {PT : Nat → Option Obj} {w : World} {n t a1 a2 d1 e1 d2 e2 tz : Nat} {om : Om} {xs ys : List Nat} :
  chk [] (runC PySem.W.Fast.mineEnt1 (vwP PT w n t [a1,a2] (fun _ => cs12m a1 a2 d1 e1 d2 e2 xs ys) (fun _ => []) om 830 7100) 1100 (.call (.ref 240) ⟨[.ref a1,.ref a2,.int (-1) tz],[]⟩) true tpT [acO d1 e1 xs,acO d2 e2 ys]) (z_tw_m n t d1 e1 d2 e2 xs ys) := by
 delta chk
 apply w1 (w := w) <;> kernel_rfl
noncomputable def tpTs : List Tk := (cat [l,l] (cat tp7 (cat [o 0,o 0,l,.go] (cat tp21 (cat [(.ctr 0 [.old 0,.old 0] [])] (cat tp21 (cat [(.ctr 1 [.old 0,.old 0] [])] (cat tp21 (cat [(.ctr 2 [.old 0,.old 0] [])] (cat tp33 (cat [(.ctr 3 [.old 0,.old 0] [])] (cat tp21 (cat [(.ctr 4 [.old 0,.old 0] [])] (cat tp21 (cat [(.ctr 5 [.old 0,.old 0] [])] (cat tp33 (cat [(.ctr 6 [.old 0,.old 0] [])] (cat tp21 (cat [(.ctr 7 [.old 0,.old 0] [])] (cat tp21 (cat [(.ctr 8 [.old 0,.old 0] [])] (cat tp33 (cat [(.ctr 9 [.old 0,.old 0] [])] (cat tp21 (cat [(.ctr 10 [.old 0,.old 0] [])] (cat tp21 (cat [(.ctr 11 [.old 0,.old 0] [])] (cat tp7 (cat [.go,.go,o 0,o 0,.go,.go,o 0,o 0,.go,.go,o 0,o 0,.go,.go,o 21,o 21,.go,o 21,.go,o 22,.go,o 22] (cat tp31 (cat [o 22,o 17,o 17,o 17,.go,o 17,.go,o 23,o 23] (cat tp49 (cat [o 23] (cat tp49 (cat [o 23] (cat tp49 (cat [o 25] (cat tp7 (cat [o 0,o 4,o 4,.go,o 4,.go,o 26] (cat tp36 (cat tp7 (cat tp36 (cat tp7 (cat tp36 (cat tp7 (cat tp36 (cat [o 28] (cat tp50 (cat [o 18,o 18,o 18,.go,o 18,.go,o 29,o 29] (cat tp51 (cat [o 29] (cat tp51 (cat [o 29] (cat tp51 (cat [o 31] (cat tp7 (cat [o 0,o 8,o 8,.go,o 8,.go,o 32,.go,o 32,.go,o 32,.go,o 32,o 32] (cat tp52 (cat tp52 (cat tp52 (cat [o 8,o 32,o 32,o 34] (cat tp50 (cat [o 19,o 19,o 19,.go,o 19,.go,o 35,o 35] (cat tp53 (cat [o 35] (cat tp53 (cat [o 35] (cat tp53 (cat [o 37] (cat tp7 (cat [o 0,o 12,o 12,.go,o 12,.go,o 38,.go,o 38,.go,o 38,.go,o 38] (cat tp54 (cat tp54 (cat tp54 (cat [o 38,o 12,o 38,o 38,o 40] (cat tp50 (cat [o 20,o 20,o 20,.go,o 20,.go,o 41,o 41] (cat tp55 (cat [o 41] (cat tp55 (cat [o 41] (cat tp55 (cat [o 43] (cat tp7 (cat [o 0,o 16,o 16,.go,o 16,.go,o 44,.go,o 44,.go,o 44,.go,o 44] (cat tp56 (cat tp56 (cat tp56 (cat [o 44,o 16,o 44,o 44,o 46,.go,.go,o 22] (cat tp31 [o 48,.go]))))))))))))))))))))))))))))))))))))))))))))))))))))))))))))))))))))))))))))))))))))))))))
noncomputable abbrev cs12s (a1 a2 d1 e1 d2 e2 : Nat) (xs ys : List Nat) : List Ctr := [helpC 112 a1 a1 d1 e1 d1 e1 xs xs false,helpC 147 a1 a1 d1 e1 d1 e1 xs xs false,helpC 182 a1 a1 d1 e1 d1 e1 xs xs false,helpC 140 a1 a1 d1 e1 d1 e1 xs xs false,helpC 154 a1 a1 d1 e1 d1 e1 xs xs false,helpC 189 a1 a1 d1 e1 d1 e1 xs xs false,helpC 126 a1 a1 d1 e1 d1 e1 xs xs true,helpC 133 a1 a1 d1 e1 d1 e1 xs xs true,helpC 161 a1 a1 d1 e1 d1 e1 xs xs true,helpC 119 a1 a1 d1 e1 d1 e1 xs xs true,helpC 168 a1 a1 d1 e1 d1 e1 xs xs true,helpC 175 a1 a1 d1 e1 d1 e1 xs xs true]
noncomputable def z_tw_s (n t d1 e1 : Nat) (xs : List Nat) : Rslt :=
 ⟨.fin (.ok (.ret (.bool true))),n,49,t,79,[],[acO d1 e1 xs],[]⟩
theorem tw_s {PT : Nat → Option Obj} {w : World} {n t a1 a2 d1 e1 d2 e2 tz : Nat} {om : Om} {xs ys : List Nat} :
  chk [] (runC PySem.W.Fast.mineEnt1 (vwP PT w n t [a1] (fun _ => cs12s a1 a2 d1 e1 d2 e2 xs ys) (fun _ => []) om 830 7100) 1100 (.call (.ref 240) ⟨[.ref a1,.ref a1,.int (0) tz],[]⟩) true tpTs [acO d1 e1 xs]) (z_tw_s n t d1 e1 xs) := by
 delta chk
 apply w1 (w := w) <;> kernel_rfl
section
variable {PT : Nat → Option Obj} {w : World} {a1 a2 d1 e1 d2 e2 : Nat} {xs ys ks ls : List Nat}
theorem twelve_two {tz : Nat} (X : PcT PT xs ks) (Y : PcT PT ys ls) (hne : a1 ≠ a2) (l1 : lkP PT w.params a1 = none) (l2 : lkP PT w.params a2 = none) : CtrOkP PT w (twelveC a1 a2 d1 e1 d2 e2 xs ys (sgn ks ls) tz) := by
 have go : ∀ {z : Int} {cs : List Ctr},(∀ C ∈ cs,CtrOkP PT w C) → (∀ b n t om,chk [] (runC PySem.W.Fast.mineEnt1 (vwP PT (W1 b w) n t [a1,a2] (fun _ => cs) (fun _ => []) om 830 7100) 1100 (.call (.ref 240) ⟨[.ref a1,.ref a2,.int z tz],[]⟩) true tpT [acO d1 e1 xs,acO d2 e2 ys])
   ⟨.fin (.ok (.ret (.bool true))),n,49,t,79,[],[acO d1 e1 xs,acO d2 e2 ys],[]⟩) → CtrOkP PT w (twelveC a1 a2 d1 e1 d2 e2 xs ys z tz) := by
  intro z cs hcs H
  have q := mk_okP (PT := PT) (w := w) (fun _ => ent1_ok) entQ1_eq (code := .call (.ref 240) ⟨[.ref a1,.ref a2,.int z tz],[]⟩) (L := [a1,a2]) (U := [acO d1 e1 xs,acO d2 e2 ys]) (val := fun _ _ => .bool true) (U' := fun _ _ => [acO d1 e1 xs,acO d2 e2 ys]) (ks := []) (T := fun _ _ => []) (grow := 49) (toks := 79) (dm := 830) (um := 7100) (N := 1100) (e := true) (tp := tpT) (cs := fun _ _ => cs)
   (by simp [hne]) (by
    intro a ha
    revert a
    refine ac ?_ (ac ?_ (an)) <;> assumption) rfl (fun _ _ => rfl) rfl (by decide) (by decide) (fun n t _ => hcs) H
  exact drop_ok q fun n t => rfl
 rcases sgn_cases ks ls with h | h | h
 ·have e : ∀ C ∈ cs12p a1 a2 d1 e1 d2 e2 xs ys,CtrOkP PT w C := by
   intro C hC
   revert C
   refine ac ?_ (ac ?_ (ac ?_ (ac ?_ (ac ?_ (ac ?_ (ac ?_ (ac ?_ (ac ?_ (ac ?_ (ac ?_ (ac ?_ (an))))))))))))
   ·have q := help_112 (d1 := d1) (e1 := e1) (d2 := d2) (e2 := e2) X Y hne l1 l2
    rw [h] at q
    exact q
   ·have q := help_147 (d1 := d1) (e1 := e1) (d2 := d2) (e2 := e2) X Y hne l1 l2
    rw [h] at q
    exact q
   ·have q := help_182 (d1 := d1) (e1 := e1) (d2 := d2) (e2 := e2) X Y hne l1 l2
    rw [h] at q
    exact q
   ·have q := help_140 (d1 := d1) (e1 := e1) (d2 := d2) (e2 := e2) X Y hne l1 l2
    rw [h] at q
    exact q
   ·have q := help_154 (d1 := d1) (e1 := e1) (d2 := d2) (e2 := e2) X Y hne l1 l2
    rw [h] at q
    exact q
   ·have q := help_189 (d1 := d1) (e1 := e1) (d2 := d2) (e2 := e2) X Y hne l1 l2
    rw [h] at q
    exact q
   ·have q := help_126 (d1 := d1) (e1 := e1) (d2 := d2) (e2 := e2) X Y hne l1 l2
    rw [h] at q
    exact q
   ·have q := help_133 (d1 := d1) (e1 := e1) (d2 := d2) (e2 := e2) X Y hne l1 l2
    rw [h] at q
    exact q
   ·have q := help_161 (d1 := d1) (e1 := e1) (d2 := d2) (e2 := e2) X Y hne l1 l2
    rw [h] at q
    exact q
   ·have q := help_119 (d1 := d1) (e1 := e1) (d2 := d2) (e2 := e2) X Y hne l1 l2
    rw [h] at q
    exact q
   ·have q := help_168 (d1 := d1) (e1 := e1) (d2 := d2) (e2 := e2) X Y hne l1 l2
    rw [h] at q
    exact q
   ·have q := help_175 (d1 := d1) (e1 := e1) (d2 := d2) (e2 := e2) X Y hne l1 l2
    rw [h] at q
    exact q
  rw [h]
  exact go e fun b n t om => tw_p
 ·have e : ∀ C ∈ cs12z a1 a2 d1 e1 d2 e2 xs ys,CtrOkP PT w C := by
   intro C hC
   revert C
   refine ac ?_ (ac ?_ (ac ?_ (ac ?_ (ac ?_ (ac ?_ (ac ?_ (ac ?_ (ac ?_ (ac ?_ (ac ?_ (ac ?_ (an))))))))))))
   ·have q := help_112 (d1 := d1) (e1 := e1) (d2 := d2) (e2 := e2) X Y hne l1 l2
    rw [h] at q
    exact q
   ·have q := help_147 (d1 := d1) (e1 := e1) (d2 := d2) (e2 := e2) X Y hne l1 l2
    rw [h] at q
    exact q
   ·have q := help_182 (d1 := d1) (e1 := e1) (d2 := d2) (e2 := e2) X Y hne l1 l2
    rw [h] at q
    exact q
   ·have q := help_140 (d1 := d1) (e1 := e1) (d2 := d2) (e2 := e2) X Y hne l1 l2
    rw [h] at q
    exact q
   ·have q := help_154 (d1 := d1) (e1 := e1) (d2 := d2) (e2 := e2) X Y hne l1 l2
    rw [h] at q
    exact q
   ·have q := help_189 (d1 := d1) (e1 := e1) (d2 := d2) (e2 := e2) X Y hne l1 l2
    rw [h] at q
    exact q
   ·have q := help_126 (d1 := d1) (e1 := e1) (d2 := d2) (e2 := e2) X Y hne l1 l2
    rw [h] at q
    exact q
   ·have q := help_133 (d1 := d1) (e1 := e1) (d2 := d2) (e2 := e2) X Y hne l1 l2
    rw [h] at q
    exact q
   ·have q := help_161 (d1 := d1) (e1 := e1) (d2 := d2) (e2 := e2) X Y hne l1 l2
    rw [h] at q
    exact q
   ·have q := help_119 (d1 := d1) (e1 := e1) (d2 := d2) (e2 := e2) X Y hne l1 l2
    rw [h] at q
    exact q
   ·have q := help_168 (d1 := d1) (e1 := e1) (d2 := d2) (e2 := e2) X Y hne l1 l2
    rw [h] at q
    exact q
   ·have q := help_175 (d1 := d1) (e1 := e1) (d2 := d2) (e2 := e2) X Y hne l1 l2
    rw [h] at q
    exact q
  rw [h]
  exact go e fun b n t om => tw_z
 ·have e : ∀ C ∈ cs12m a1 a2 d1 e1 d2 e2 xs ys,CtrOkP PT w C := by
   intro C hC
   revert C
   refine ac ?_ (ac ?_ (ac ?_ (ac ?_ (ac ?_ (ac ?_ (ac ?_ (ac ?_ (ac ?_ (ac ?_ (ac ?_ (ac ?_ (an))))))))))))
   ·have q := help_112 (d1 := d1) (e1 := e1) (d2 := d2) (e2 := e2) X Y hne l1 l2
    rw [h] at q
    exact q
   ·have q := help_147 (d1 := d1) (e1 := e1) (d2 := d2) (e2 := e2) X Y hne l1 l2
    rw [h] at q
    exact q
   ·have q := help_182 (d1 := d1) (e1 := e1) (d2 := d2) (e2 := e2) X Y hne l1 l2
    rw [h] at q
    exact q
   ·have q := help_140 (d1 := d1) (e1 := e1) (d2 := d2) (e2 := e2) X Y hne l1 l2
    rw [h] at q
    exact q
   ·have q := help_154 (d1 := d1) (e1 := e1) (d2 := d2) (e2 := e2) X Y hne l1 l2
    rw [h] at q
    exact q
   ·have q := help_189 (d1 := d1) (e1 := e1) (d2 := d2) (e2 := e2) X Y hne l1 l2
    rw [h] at q
    exact q
   ·have q := help_126 (d1 := d1) (e1 := e1) (d2 := d2) (e2 := e2) X Y hne l1 l2
    rw [h] at q
    exact q
   ·have q := help_133 (d1 := d1) (e1 := e1) (d2 := d2) (e2 := e2) X Y hne l1 l2
    rw [h] at q
    exact q
   ·have q := help_161 (d1 := d1) (e1 := e1) (d2 := d2) (e2 := e2) X Y hne l1 l2
    rw [h] at q
    exact q
   ·have q := help_119 (d1 := d1) (e1 := e1) (d2 := d2) (e2 := e2) X Y hne l1 l2
    rw [h] at q
    exact q
   ·have q := help_168 (d1 := d1) (e1 := e1) (d2 := d2) (e2 := e2) X Y hne l1 l2
    rw [h] at q
    exact q
   ·have q := help_175 (d1 := d1) (e1 := e1) (d2 := d2) (e2 := e2) X Y hne l1 l2
    rw [h] at q
    exact q
  rw [h]
  exact go e fun b n t om => tw_m
theorem twelve_one {tz : Nat} (X : PcT PT xs ks) (l1 : lkP PT w.params a1 = none) : CtrOkP PT w (twelveC a1 a1 d1 e1 d1 e1 xs xs (sgn ks ks) tz) := by
 have h := sgn_same (ks := ks)
 have e : ∀ C ∈ cs12s a1 a1 d1 e1 d1 e1 xs xs,CtrOkP PT w C := by
  intro C hC
  revert C
  refine ac ?_ (ac ?_ (ac ?_ (ac ?_ (ac ?_ (ac ?_ (ac ?_ (ac ?_ (ac ?_ (ac ?_ (ac ?_ (ac ?_ (an))))))))))))
  ·have q := help_112_s (d1 := d1) (e1 := e1) X l1
   rw [h] at q
   exact q
  ·have q := help_147_s (d1 := d1) (e1 := e1) X l1
   rw [h] at q
   exact q
  ·have q := help_182_s (d1 := d1) (e1 := e1) X l1
   rw [h] at q
   exact q
  ·have q := help_140_s (d1 := d1) (e1 := e1) X l1
   rw [h] at q
   exact q
  ·have q := help_154_s (d1 := d1) (e1 := e1) X l1
   rw [h] at q
   exact q
  ·have q := help_189_s (d1 := d1) (e1 := e1) X l1
   rw [h] at q
   exact q
  ·have q := help_126_s (d1 := d1) (e1 := e1) X l1
   rw [h] at q
   exact q
  ·have q := help_133_s (d1 := d1) (e1 := e1) X l1
   rw [h] at q
   exact q
  ·have q := help_161_s (d1 := d1) (e1 := e1) X l1
   rw [h] at q
   exact q
  ·have q := help_119_s (d1 := d1) (e1 := e1) X l1
   rw [h] at q
   exact q
  ·have q := help_168_s (d1 := d1) (e1 := e1) X l1
   rw [h] at q
   exact q
  ·have q := help_175_s (d1 := d1) (e1 := e1) X l1
   rw [h] at q
   exact q
 rw [h]
 have q := mk_okP (PT := PT) (w := w) (fun _ => ent1_ok) entQ1_eq (code := .call (.ref 240) ⟨[.ref a1,.ref a1,.int 0 tz],[]⟩) (L := [a1]) (U := [acO d1 e1 xs]) (val := fun _ _ => .bool true) (U' := fun _ _ => [acO d1 e1 xs]) (ks := []) (T := fun _ _ => []) (grow := 49) (toks := 79) (dm := 830) (um := 7100) (N := 1100) (e := true) (tp := tpTs) (cs := fun _ _ => cs12s a1 a1 d1 e1 d1 e1 xs xs)
  (by simp) (ac l1 an) rfl (fun _ _ => rfl) rfl (by decide) (by decide) (fun n t _ => e) (fun b n t om => tw_s)
 refine pre_ok (drop_ok q fun n t => rfl) (P := [(a1,acO d1 e1 xs),(a1,acO d1 e1 xs)]) ?_
 intro p hp
 have hp : p ∈ [(a1,acO d1 e1 xs)] := hp
 rw [List.mem_singleton] at hp
 subst hp; simp
end
end Mine.G
end
section
namespace Mine.G
theorem ctr_mono {PT PT' : Nat → Option Obj} {w : World} {C : Ctr} (h : CtrOkP PT w C) (m : ∀ a o,PT a = some o → PT' a = some o) : CtrOkP PT' w C := by
 intro A s hd hu hh hl hp
 refine h A s hd hu hh (fun a o e => hl a o ?_) hp
 have e : lkP PT w.params a = some o := e
 show lkP PT' w.params a = some o
 unfold lkP at e ⊢
 cases q : Nat.blt a 281 with
 | true => rw [q] at e; exact e
 | false => rw [q] at e; exact m a o e
theorem ctr_told {PT : Nat → Option Obj} {w : World} {C : Ctr} (P : List (Addr × Obj)) (h : CtrOkP PT w C) (hs : ∀ p ∈ C.pre,p ∈ P ∨ lkP PT w.params p.1 = some p.2) : CtrOkP PT w { C with pre := P } := by
 intro A s hd hu hh hl hp
 refine h A s hd hu hh hl fun p m => ?_
 rcases hs p m with q | q
 ·exact hp p q
 ·exact hl _ _ q
theorem xc_told {PT : Nat → Option Obj} {w : World} {C : XC} (P : List (Addr × Obj)) (h : XOkP PT w C) (hs : ∀ p ∈ C.pre,p ∈ P ∨ lkP PT w.params p.1 = some p.2) : XOkP PT w { C with pre := P } := by
 intro A s hd hu hh hl hp
 refine h A s hd hu hh hl fun p m => ?_
 rcases hs p m with q | q
 ·exact hp p q
 ·exact hl _ _ q
structure Sl where
 a : Nat
 dd : Nat
 r : Nat
 ea : Nat
 er : Nat
 xs : List Nat
 rv : List Value
 ks : List Nat
 f : Int
 fu : Nat
 g1 : Int
 t1 : Nat
 u : Nat
 e1 : Nat
noncomputable def sgC (S T : Sl) : XC := { signX S.r T.r S.rv S.er T.rv T.er (sgn S.ks T.ks) with pre := [] }
noncomputable def twC (S T : Sl) (tz : Nat) : Ctr := { twelveC S.a T.a S.dd S.ea T.dd T.ea S.xs T.xs (sgn S.ks T.ks) tz with pre := [] }
structure SlOk (PT PT' : Nat → Option Obj) (S : Sl) : Prop where
 inst : PT' S.a = some (acO S.dd S.ea S.xs)
 row : PT' S.r = some (lst S.rv S.er)
 low : 281 ≤ S.a ∧ 281 ≤ S.r
 none : PT S.a = none
 pcs : PcT PT S.xs S.ks
 rint : Ints S.rv S.ks
 len : S.ks.length ≤ 100
section
variable {PT PT' : Nat → Option Obj} {w : World} {S T : Sl}
theorem sgC_ok (m : ∀ a o,PT a = some o → PT' a = some o) (hS : SlOk PT PT' S) (hT : SlOk PT PT' T) (hsame : S.r = T.r → S.rv = T.rv ∧ S.er = T.er ∧ S.ks = T.ks) : XOkP PT' w (sgC S T) := by
 have base : XOk w (signX S.r T.r S.rv S.er T.rv T.er (sgn S.ks T.ks)) := by
  by_cases e : S.r = T.r
  ·obtain ⟨e1,e2,e3⟩ := hsame e
   rw [← e1,← e2,← e3,← e]
   exact sign_one hS.rint hS.low.2 (by have := hS.len; lia)
  ·exact sign_two hS.rint hT.rint e hS.low.2 hT.low.2 (by have := hS.len; lia) (by have := hT.len; lia)
 refine xc_told [] (xcP base) ?_
 intro p hp
 revert p
 refine ac ?_ (ac ?_ (an))
 ·exact .inr (lkP_at hS.low.2 hS.row)
 ·exact .inr (lkP_at hT.low.2 hT.row)
theorem twC_ok {tz : Nat} (m : ∀ a o,PT a = some o → PT' a = some o) (hS : SlOk PT PT' S) (hT : SlOk PT PT' T) (hsame : S.a = T.a → S.dd = T.dd ∧ S.ea = T.ea ∧ S.xs = T.xs ∧ S.ks = T.ks) : CtrOkP PT' w (twC S T tz) := by
 have base : CtrOkP PT w (twelveC S.a T.a S.dd S.ea T.dd T.ea S.xs T.xs (sgn S.ks T.ks) tz) := by
  by_cases e : S.a = T.a
  ·obtain ⟨e1,e2,e3,e4⟩ := hsame e
   rw [← e1,← e2,← e3,← e4,← e]
   exact twelve_one hS.pcs (lkP_low hS.low.1 hS.none)
  ·exact twelve_two hS.pcs hT.pcs e (lkP_low hS.low.1 hS.none) (lkP_low hT.low.1 hT.none)
 refine ctr_told [] (ctr_mono base m) ?_
 intro p hp
 revert p
 refine ac ?_ (ac ?_ (an))
 ·exact .inr (lkP_at hS.low.1 hS.inst)
 ·exact .inr (lkP_at hT.low.1 hT.inst)
end
end Mine.G
end
section
namespace Mine.G
noncomputable def tpAl : List Tk := (cat [l,l] (cat tp7 (cat [l,.go,l,l,.go,.go,.go,.go,o 1,o 1,.go,o 1,.go,o 1,o 1,o 1,.go,o 1,.go,o 1,o 1,o 1,o 2,.go,o 2,.go,o 2,.go,o 2,o 2,o 2,o 2,o 2,o 2,o 2] (cat tp7 (cat [.go,.go,.go,.go,o 3,o 3,.go,o 3,.go,o 4,.go] (cat tp4 (cat [o 3,o 4,o 4] (cat tp57 (cat [(.xctr 0 [] []),l,(.ctr 0 [] []),.go] (cat tp4 (cat [o 3,o 4,o 4] (cat tp57 (cat [(.xctr 1 [] []),l,(.ctr 1 [] []),.go] (cat tp4 (cat [o 3,o 4,o 4,o 104,.go,.go,o 2,.go,o 2,.go,o 2,o 2,o 2,o 2,o 2,o 2,o 2] (cat tp7 (cat [.go,.go,.go,.go,o 105,o 105,.go,o 105,.go,o 106,.go,o 106,.go,o 106,.go,o 106,o 106,o 105,o 106,o 106] (cat tp57 (cat [(.xctr 2 [] []),l,(.ctr 2 [] []),.go,o 106,.go,o 106,.go,o 106,o 106,o 105,o 106,o 106] (cat tp57 (cat [(.xctr 3 [] []),l,(.ctr 3 [] []),.go,o 106,.go,o 106,.go,o 106,o 106,o 105,o 106,o 106,o 206,.go,.go,o 2,.go,o 2,.go,o 2,o 2,o 2,o 2,o 2,o 2,o 2] (cat tp7 (cat [.go,.go,.go,.go,o 207,o 207,.go,o 207,.go,o 208,.go,o 208,.go,o 208,.go,o 208,o 208,o 207,o 208,o 208] (cat tp57 (cat [(.xctr 4 [] []),l,(.ctr 4 [] []),.go,o 208,.go,o 208,.go,o 208,o 208,o 207,o 208,o 208] (cat tp57 [(.xctr 5 [] []),l,(.ctr 5 [] []),.go,o 208,.go,o 208,.go,o 208,o 208,o 207,o 208,o 208,o 308,.go,.go,o 2,.go,o 2,.go,o 2,o 2,o 2,o 310,.go]))))))))))))))))))))))))))
noncomputable abbrev hsO (S0 S1 S2 : Sl) (e : Nat) : Obj := lst [.ref S0.a,.ref S1.a,.ref S2.a] e
noncomputable abbrev rsO (S0 S1 S2 : Sl) (e : Nat) : Obj := lst [.ref S0.r,.ref S1.r,.ref S2.r] e
noncomputable abbrev alC (S0 S1 S2 : Sl) (om : Om) : List Ctr := [twC S0 S0 (om 0 2),twC S0 S1 (om 1 2),twC S1 S1 (om 2 2),twC S1 S2 (om 3 2),twC S2 S2 (om 4 2),twC S2 S0 (om 5 2)]
noncomputable abbrev alX (S0 S1 S2 : Sl) : List XC := [sgC S0 S0,sgC S0 S1,sgC S1 S1,sgC S1 S2,sgC S2 S2,sgC S2 S0]
noncomputable def z_al_run (eH eR : Nat) (S0 S1 S2 : Sl) (om : Om) : Rslt :=
 ⟨.fin (.ok (.ret (.bool true))),om 5 0,53,om 5 1,79,[],[hsO S0 S1 S2 eH,rsO S0 S1 S2 eR],[]⟩
theorem al_run {PT : Nat → Option Obj} {w : World} {n t H R eH eR : Nat} {S0 S1 S2 : Sl} {om : Om} :
  chk [] (runC PySem.W.Fast.mineEnt1 (vwP PT w n t [H,R] (fun om => alC S0 S1 S2 om) (fun _ => alX S0 S1 S2) om 800 7000) 900 (.call (.ref 269) ⟨[.ref H,.ref R],[]⟩) true tpAl [hsO S0 S1 S2 eH,rsO S0 S1 S2 eR]) (z_al_run eH eR S0 S1 S2 om) := by
 delta chk
 apply w1 (w := w) <;> kernel_rfl
noncomputable def allX (H R eH eR : Nat) (S0 S1 S2 : Sl) : XC :=
 {code := .call (.ref 269) ⟨[.ref H,.ref R],[]⟩,pre := [(H,hsO S0 S1 S2 eH),(R,rsO S0 S1 S2 eR)],res := fun _ => .ok (.ret (.bool true)),upd := fun _ => [],news := fun _ => [],dm := 800,um := 7000 }
theorem xdrop_ok {V : Mine.Vw} {C : XC} (h : C.Ok V) (hu : ∀ ω,C.upd ω = C.pre) : ({ C with upd := fun _ => [] } : XC).Ok V := by
 intro A s hd hun hh hl hp
 refine codeAny_mono (h A s hd hun hh hl hp) ?_
 rintro r s' ⟨ω,e,k1,k2,k0,k3,k4,k5,k6,k7⟩
 refine ⟨ω,e,k1,k2,k0,(fun p hp => by cases hp),k4,fun b o hb _ => ?_,k6,k7⟩
 by_cases q : ∀ p ∈ C.upd ω,p.1 ≠ b
 ·exact k5 b o hb q
 ·simp only [Classical.not_forall] at q
  obtain ⟨p,hm,hb'⟩ := q
  have hb' : p.1 = b := Classical.byContradiction hb'
  have z := k3 p hm
  rw [hu] at hm
  have y := hp p hm
  rw [hb'] at z y
  rw [hb] at y
  rw [z,← Option.some.inj y]
structure Trio (PT PT' : Nat → Option Obj) (S0 S1 S2 : Sl) : Prop where
 m : ∀ a o,PT a = some o → PT' a = some o
 s0 : SlOk PT PT' S0
 s1 : SlOk PT PT' S1
 s2 : SlOk PT PT' S2
 ne01 : S0.a ≠ S1.a
 ne12 : S1.a ≠ S2.a
 ne20 : S2.a ≠ S0.a
 r01 : S0.r = S1.r → S0.rv = S1.rv ∧ S0.er = S1.er ∧ S0.ks = S1.ks
 r12 : S1.r = S2.r → S1.rv = S2.rv ∧ S1.er = S2.er ∧ S1.ks = S2.ks
 r20 : S2.r = S0.r → S2.rv = S0.rv ∧ S2.er = S0.er ∧ S2.ks = S0.ks
section
variable {PT PT' : Nat → Option Obj} {w : World} {S0 S1 S2 : Sl}
theorem Trio.sg (I : Trio PT PT' S0 S1 S2) : ∀ S ∈ [S0,S1,S2],∀ T ∈ [S0,S1,S2],XOkP PT' w (sgC S T) := by
 intro S hS T hT
 simp only [List.mem_cons,List.not_mem_nil,or_false] at hS hT
 have f : ∀ {S T : Sl},(S.r = T.r → S.rv = T.rv ∧ S.er = T.er ∧ S.ks = T.ks) → (T.r = S.r → T.rv = S.rv ∧ T.er = S.er ∧ T.ks = S.ks) := fun h e => by
  obtain ⟨a,b,c⟩ := h e.symm
  exact ⟨a.symm,b.symm,c.symm⟩
 rcases hS with rfl | rfl | rfl <;> rcases hT with rfl | rfl | rfl
 ·exact sgC_ok I.m I.s0 I.s0 fun _ => ⟨rfl,rfl,rfl⟩
 ·exact sgC_ok I.m I.s0 I.s1 I.r01
 ·exact sgC_ok I.m I.s0 I.s2 (f I.r20)
 ·exact sgC_ok I.m I.s1 I.s0 (f I.r01)
 ·exact sgC_ok I.m I.s1 I.s1 fun _ => ⟨rfl,rfl,rfl⟩
 ·exact sgC_ok I.m I.s1 I.s2 I.r12
 ·exact sgC_ok I.m I.s2 I.s0 I.r20
 ·exact sgC_ok I.m I.s2 I.s1 (f I.r12)
 ·exact sgC_ok I.m I.s2 I.s2 fun _ => ⟨rfl,rfl,rfl⟩
theorem all_ok (I : Trio PT PT' S0 S1 S2) {H R eH eR : Nat} (hne : H ≠ R) (l1 : lkP PT' w.params H = none) (l2 : lkP PT' w.params R = none) : XOkP PT' w (allX H R eH eR S0 S1 S2) := by
 have z := mk_xokP (PT := PT') (w := w) (fun _ => ent1_ok) entQ1_eq (code := .call (.ref 269) ⟨[.ref H,.ref R],[]⟩) (L := [H,R]) (U := [hsO S0 S1 S2 eH,rsO S0 S1 S2 eR]) (res := fun _ => .ok (.ret (.bool true))) (U' := fun _ => [hsO S0 S1 S2 eH,rsO S0 S1 S2 eR]) (news := fun _ => []) (ks := []) (dm := 800) (um := 7000) (N := 900) (e := true) (tp := tpAl)
  (cs := fun _ _ _ om => alC S0 S1 S2 om) (xs := fun _ _ _ _ => alX S0 S1 S2) (ω := fun n t om => fun | 0 => om 5 0 + 53 | 1 => om 5 1 + 79 | _ => 0) (x := fun _ n t om => ⟨.fin (.ok (.ret (.bool true))),om 5 0,53,om 5 1,79,[],[hsO S0 S1 S2 eH,rsO S0 S1 S2 eR],[]⟩)
  (by simp [hne]) (by
   intro a ha
   revert a
   refine ac ?_ (ac ?_ (an)) <;> assumption) rfl (fun _ => rfl) rfl (by decide) (by decide) (fun n t om _ C hC => ?_) (fun n t om _ C hC => ?_) (fun b n t om => al_run) (fun n t om => ⟨rfl,rfl,rfl,rfl,fun p hp => by cases hp⟩)
 ·exact xdrop_ok z fun ω => rfl
 ·revert C
  refine ac ?_ (ac ?_ (ac ?_ (ac ?_ (ac ?_ (ac ?_ (an))))))
  ·exact twC_ok I.m I.s0 I.s0 fun _ => ⟨rfl,rfl,rfl,rfl⟩
  ·exact twC_ok I.m I.s0 I.s1 fun q => absurd q I.ne01
  ·exact twC_ok I.m I.s1 I.s1 fun _ => ⟨rfl,rfl,rfl,rfl⟩
  ·exact twC_ok I.m I.s1 I.s2 fun q => absurd q I.ne12
  ·exact twC_ok I.m I.s2 I.s2 fun _ => ⟨rfl,rfl,rfl,rfl⟩
  ·exact twC_ok I.m I.s2 I.s0 fun q => absurd q I.ne20
 ·revert C
  refine ac ?_ (ac ?_ (ac ?_ (ac ?_ (ac ?_ (ac ?_ (an)))))) <;> exact I.sg _ (by simp) _ (by simp)
end
end Mine.G
end
section
namespace Mine.G
noncomputable def Wc (b : Bool) (w : World) : World := { w with params := { w.params with followText := fun s => match Nat.beq (PySem.code s) 2510650655181157320538776789020469319833841985448949215332 with | true => b | false => w.params.followText s } }
theorem Wc_eq (w : World) : Wc (w.params.followText "comprehension-iter-twice") w = w := by
 have e : (fun s => match Nat.beq (PySem.code s) 2510650655181157320538776789020469319833841985448949215332 with | true => w.params.followText "comprehension-iter-twice" | false => w.params.followText s) = w.params.followText := by
  funext s
  cases h : Nat.beq (PySem.code s) 2510650655181157320538776789020469319833841985448949215332 with
  | false => rfl
  | true =>
   have h1 := Nat.eq_of_beq_eq_true h
   have h2 : PySem.code "comprehension-iter-twice" = 2510650655181157320538776789020469319833841985448949215332 := by decide +kernel
   rw [PySem.code_inj _ _ (h1.trans h2.symm)]
 unfold Wc
 rw [e]
noncomputable def cw (w : World) : Bool := w.params.followText "comprehension-iter-twice"
theorem cw_W {b c : Bool} {w : World} : cw (W1 b (Wc c w)) = c := by kernel_rfl
theorem w4 {P : World → Prop} {w : World} (h : ∀ b c,P (W1 b (Wc c w))) : P w := by
 have := h (w.params.followText "special-get-raises") (w.params.followText "comprehension-iter-twice")
 rw [Wc_eq,W1_eq] at this
 exact this
end Mine.G
end
section
namespace Mine.G
noncomputable def sgZ (S T : Sl) (z : Int) : XC := { signX S.r T.r S.rv S.er T.rv T.er z with pre := [] }
noncomputable def placeX (R eR : Nat) (S0 S1 S2 : Sl) (i : Int) (ti : Nat) (p : Int) : XC :=
 {code := .call (.ref 245) ⟨[.ref R,.int i ti],[]⟩,pre := [(R,rsO S0 S1 S2 eR)],res := fun ω => .ok (.ret (.int p (ω 2))),upd := fun _ => [],news := fun _ => [],dm := 800,um := 7000 }
noncomputable def plb (z : Int) (j i : Nat) : Nat := if z < 0 ∨ (z = 0 ∧ j < i) then 1 else 0
noncomputable def plz (i : Nat) (z0 z1 z2 : Int) : Nat := plb z0 0 i + plb z1 1 i + plb z2 2 i
noncomputable def tpPl0 (c : Bool) : List Tk := match c with
 | true => (cat tp18 (cat tp5 (cat tp3 (cat tp3 tp10))))
 | false => (cat tp19 (cat tp5 (cat tp3 (cat tp3 tp10))))
theorem pl_0_zpp {PT : Nat → Option Obj} {w : World} {b c : Bool} {n t R eR ti : Nat} {S0 S1 S2 : Sl} {om : Om} :
  chk [] (runC PySem.W.Fast.mineEnt1 (vwP PT (W1 b (Wc c w)) n t [R] (fun _ => []) (fun _ => [sgZ S0 S0 (0),sgZ S1 S0 (1),sgZ S2 S0 (1)]) om 800 7000) 700 (.call (.ref 245) ⟨[.ref R,.int 0 ti],[]⟩) true (tpPl0 c) [rsO S0 S1 S2 eR])
   ⟨.fin (.ok (.ret (.int 0 (om 2 1 + 16)))),om 2 0,8,om 2 1,17,[],[rsO S0 S1 S2 eR],[]⟩ := by
 unfold chk
 cases b <;> cases c <;> kernel_rfl
noncomputable def tpPl1 (c : Bool) : List Tk := match c with
 | true => (cat tp18 (cat tp5 (cat tp3 (cat tp5 tp10))))
 | false => (cat tp19 (cat tp5 (cat tp3 (cat tp5 tp10))))
theorem pl_0_zpz {PT : Nat → Option Obj} {w : World} {b c : Bool} {n t R eR ti : Nat} {S0 S1 S2 : Sl} {om : Om} :
  chk [] (runC PySem.W.Fast.mineEnt1 (vwP PT (W1 b (Wc c w)) n t [R] (fun _ => []) (fun _ => [sgZ S0 S0 (0),sgZ S1 S0 (1),sgZ S2 S0 (0)]) om 800 7000) 700 (.call (.ref 245) ⟨[.ref R,.int 0 ti],[]⟩) true (tpPl1 c) [rsO S0 S1 S2 eR])
   ⟨.fin (.ok (.ret (.int 0 (om 2 1 + 16)))),om 2 0,8,om 2 1,17,[],[rsO S0 S1 S2 eR],[]⟩ := by
 unfold chk
 cases b <;> cases c <;> kernel_rfl
noncomputable def tpPl2 (c : Bool) : List Tk := match c with
 | true => (cat tp18 (cat tp5 (cat tp3 (cat tp11 tp10))))
 | false => (cat tp19 (cat tp5 (cat tp3 (cat tp11 tp10))))
theorem pl_0_zpm {PT : Nat → Option Obj} {w : World} {b c : Bool} {n t R eR ti : Nat} {S0 S1 S2 : Sl} {om : Om} :
  chk [] (runC PySem.W.Fast.mineEnt1 (vwP PT (W1 b (Wc c w)) n t [R] (fun _ => []) (fun _ => [sgZ S0 S0 (0),sgZ S1 S0 (1),sgZ S2 S0 (-1)]) om 800 7000) 700 (.call (.ref 245) ⟨[.ref R,.int 0 ti],[]⟩) true (tpPl2 c) [rsO S0 S1 S2 eR])
   ⟨.fin (.ok (.ret (.int 1 (om 2 1 + 15)))),om 2 0,8,om 2 1,16,[],[rsO S0 S1 S2 eR],[]⟩ := by
 unfold chk
 cases b <;> cases c <;> kernel_rfl
noncomputable def tpPl3 (c : Bool) : List Tk := match c with
 | true => (cat tp18 (cat tp5 tp37))
 | false => (cat tp19 (cat tp5 tp37))
theorem pl_0_zzp {PT : Nat → Option Obj} {w : World} {b c : Bool} {n t R eR ti : Nat} {S0 S1 S2 : Sl} {om : Om} :
  chk [] (runC PySem.W.Fast.mineEnt1 (vwP PT (W1 b (Wc c w)) n t [R] (fun _ => []) (fun _ => [sgZ S0 S0 (0),sgZ S1 S0 (0),sgZ S2 S0 (1)]) om 800 7000) 700 (.call (.ref 245) ⟨[.ref R,.int 0 ti],[]⟩) true (tpPl3 c) [rsO S0 S1 S2 eR])
   ⟨.fin (.ok (.ret (.int 0 (om 2 1 + 16)))),om 2 0,8,om 2 1,17,[],[rsO S0 S1 S2 eR],[]⟩ := by
 unfold chk
 cases b <;> cases c <;> kernel_rfl
noncomputable def tpPl4 (c : Bool) : List Tk := match c with
 | true => (cat tp18 (cat tp5 tp38))
 | false => (cat tp19 (cat tp5 tp38))
theorem pl_0_zzz {PT : Nat → Option Obj} {w : World} {b c : Bool} {n t R eR ti : Nat} {S0 S1 S2 : Sl} {om : Om} :
  chk [] (runC PySem.W.Fast.mineEnt1 (vwP PT (W1 b (Wc c w)) n t [R] (fun _ => []) (fun _ => [sgZ S0 S0 (0),sgZ S1 S0 (0),sgZ S2 S0 (0)]) om 800 7000) 700 (.call (.ref 245) ⟨[.ref R,.int 0 ti],[]⟩) true (tpPl4 c) [rsO S0 S1 S2 eR])
   ⟨.fin (.ok (.ret (.int 0 (om 2 1 + 16)))),om 2 0,8,om 2 1,17,[],[rsO S0 S1 S2 eR],[]⟩ := by
 unfold chk
 cases b <;> cases c <;> kernel_rfl
noncomputable def tpPl5 (c : Bool) : List Tk := match c with
 | true => (cat tp18 (cat tp5 tp39))
 | false => (cat tp19 (cat tp5 tp39))
theorem pl_0_zzm {PT : Nat → Option Obj} {w : World} {b c : Bool} {n t R eR ti : Nat} {S0 S1 S2 : Sl} {om : Om} :
  chk [] (runC PySem.W.Fast.mineEnt1 (vwP PT (W1 b (Wc c w)) n t [R] (fun _ => []) (fun _ => [sgZ S0 S0 (0),sgZ S1 S0 (0),sgZ S2 S0 (-1)]) om 800 7000) 700 (.call (.ref 245) ⟨[.ref R,.int 0 ti],[]⟩) true (tpPl5 c) [rsO S0 S1 S2 eR])
   ⟨.fin (.ok (.ret (.int 1 (om 2 1 + 15)))),om 2 0,8,om 2 1,16,[],[rsO S0 S1 S2 eR],[]⟩ := by
 unfold chk
 cases b <;> cases c <;> kernel_rfl
noncomputable def tpPl6 (c : Bool) : List Tk := match c with
 | true => (cat tp18 (cat tp5 (cat tp11 (cat tp3 tp10))))
 | false => (cat tp19 (cat tp5 (cat tp11 (cat tp3 tp10))))
theorem pl_0_zmp {PT : Nat → Option Obj} {w : World} {b c : Bool} {n t R eR ti : Nat} {S0 S1 S2 : Sl} {om : Om} :
  chk [] (runC PySem.W.Fast.mineEnt1 (vwP PT (W1 b (Wc c w)) n t [R] (fun _ => []) (fun _ => [sgZ S0 S0 (0),sgZ S1 S0 (-1),sgZ S2 S0 (1)]) om 800 7000) 700 (.call (.ref 245) ⟨[.ref R,.int 0 ti],[]⟩) true (tpPl6 c) [rsO S0 S1 S2 eR])
   ⟨.fin (.ok (.ret (.int 1 (om 2 1 + 15)))),om 2 0,8,om 2 1,16,[],[rsO S0 S1 S2 eR],[]⟩ := by
 unfold chk
 cases b <;> cases c <;> kernel_rfl
noncomputable def tpPl7 (c : Bool) : List Tk := match c with
 | true => (cat tp18 (cat tp5 (cat tp11 (cat tp5 tp10))))
 | false => (cat tp19 (cat tp5 (cat tp11 (cat tp5 tp10))))
theorem pl_0_zmz {PT : Nat → Option Obj} {w : World} {b c : Bool} {n t R eR ti : Nat} {S0 S1 S2 : Sl} {om : Om} :
  chk [] (runC PySem.W.Fast.mineEnt1 (vwP PT (W1 b (Wc c w)) n t [R] (fun _ => []) (fun _ => [sgZ S0 S0 (0),sgZ S1 S0 (-1),sgZ S2 S0 (0)]) om 800 7000) 700 (.call (.ref 245) ⟨[.ref R,.int 0 ti],[]⟩) true (tpPl7 c) [rsO S0 S1 S2 eR])
   ⟨.fin (.ok (.ret (.int 1 (om 2 1 + 15)))),om 2 0,8,om 2 1,16,[],[rsO S0 S1 S2 eR],[]⟩ := by
 unfold chk
 cases b <;> cases c <;> kernel_rfl
noncomputable def tpPl8 (c : Bool) : List Tk := match c with
 | true => (cat tp18 (cat tp5 (cat tp11 (cat tp11 tp10))))
 | false => (cat tp19 (cat tp5 (cat tp11 (cat tp11 tp10))))
theorem pl_0_zmm {PT : Nat → Option Obj} {w : World} {b c : Bool} {n t R eR ti : Nat} {S0 S1 S2 : Sl} {om : Om} :
  chk [] (runC PySem.W.Fast.mineEnt1 (vwP PT (W1 b (Wc c w)) n t [R] (fun _ => []) (fun _ => [sgZ S0 S0 (0),sgZ S1 S0 (-1),sgZ S2 S0 (-1)]) om 800 7000) 700 (.call (.ref 245) ⟨[.ref R,.int 0 ti],[]⟩) true (tpPl8 c) [rsO S0 S1 S2 eR])
   ⟨.fin (.ok (.ret (.int 2 (om 2 1 + 14)))),om 2 0,8,om 2 1,15,[],[rsO S0 S1 S2 eR],[]⟩ := by
 unfold chk
 cases b <;> cases c <;> kernel_rfl
noncomputable def tpPl9 (c : Bool) : List Tk := match c with
 | true => (cat tp18 (cat tp3 tp37))
 | false => (cat tp19 (cat tp3 tp37))
theorem pl_1_pzp {PT : Nat → Option Obj} {w : World} {b c : Bool} {n t R eR ti : Nat} {S0 S1 S2 : Sl} {om : Om} :
  chk [] (runC PySem.W.Fast.mineEnt1 (vwP PT (W1 b (Wc c w)) n t [R] (fun _ => []) (fun _ => [sgZ S0 S1 (1),sgZ S1 S1 (0),sgZ S2 S1 (1)]) om 800 7000) 700 (.call (.ref 245) ⟨[.ref R,.int 1 ti],[]⟩) true (tpPl9 c) [rsO S0 S1 S2 eR])
   ⟨.fin (.ok (.ret (.int 0 (om 2 1 + 16)))),om 2 0,8,om 2 1,17,[],[rsO S0 S1 S2 eR],[]⟩ := by
 unfold chk
 cases b <;> cases c <;> kernel_rfl
noncomputable def tpPl10 (c : Bool) : List Tk := match c with
 | true => (cat tp18 (cat tp3 tp38))
 | false => (cat tp19 (cat tp3 tp38))
theorem pl_1_pzz {PT : Nat → Option Obj} {w : World} {b c : Bool} {n t R eR ti : Nat} {S0 S1 S2 : Sl} {om : Om} :
  chk [] (runC PySem.W.Fast.mineEnt1 (vwP PT (W1 b (Wc c w)) n t [R] (fun _ => []) (fun _ => [sgZ S0 S1 (1),sgZ S1 S1 (0),sgZ S2 S1 (0)]) om 800 7000) 700 (.call (.ref 245) ⟨[.ref R,.int 1 ti],[]⟩) true (tpPl10 c) [rsO S0 S1 S2 eR])
   ⟨.fin (.ok (.ret (.int 0 (om 2 1 + 16)))),om 2 0,8,om 2 1,17,[],[rsO S0 S1 S2 eR],[]⟩ := by
 unfold chk
 cases b <;> cases c <;> kernel_rfl
noncomputable def tpPl11 (c : Bool) : List Tk := match c with
 | true => (cat tp18 (cat tp3 tp39))
 | false => (cat tp19 (cat tp3 tp39))
theorem pl_1_pzm {PT : Nat → Option Obj} {w : World} {b c : Bool} {n t R eR ti : Nat} {S0 S1 S2 : Sl} {om : Om} :
  chk [] (runC PySem.W.Fast.mineEnt1 (vwP PT (W1 b (Wc c w)) n t [R] (fun _ => []) (fun _ => [sgZ S0 S1 (1),sgZ S1 S1 (0),sgZ S2 S1 (-1)]) om 800 7000) 700 (.call (.ref 245) ⟨[.ref R,.int 1 ti],[]⟩) true (tpPl11 c) [rsO S0 S1 S2 eR])
   ⟨.fin (.ok (.ret (.int 1 (om 2 1 + 15)))),om 2 0,8,om 2 1,16,[],[rsO S0 S1 S2 eR],[]⟩ := by
 unfold chk
 cases b <;> cases c <;> kernel_rfl
noncomputable def tpPl12 (c : Bool) : List Tk := match c with
 | true => (cat tp18 (cat tp23 tp37))
 | false => (cat tp19 (cat tp23 tp37))
theorem pl_1_zzp {PT : Nat → Option Obj} {w : World} {b c : Bool} {n t R eR ti : Nat} {S0 S1 S2 : Sl} {om : Om} :
  chk [] (runC PySem.W.Fast.mineEnt1 (vwP PT (W1 b (Wc c w)) n t [R] (fun _ => []) (fun _ => [sgZ S0 S1 (0),sgZ S1 S1 (0),sgZ S2 S1 (1)]) om 800 7000) 700 (.call (.ref 245) ⟨[.ref R,.int 1 ti],[]⟩) true (tpPl12 c) [rsO S0 S1 S2 eR])
   ⟨.fin (.ok (.ret (.int 1 (om 2 1 + 16)))),om 2 0,8,om 2 1,17,[],[rsO S0 S1 S2 eR],[]⟩ := by
 unfold chk
 cases b <;> cases c <;> kernel_rfl
noncomputable def tpPl13 (c : Bool) : List Tk := match c with
 | true => (cat tp18 (cat tp23 tp38))
 | false => (cat tp19 (cat tp23 tp38))
theorem pl_1_zzz {PT : Nat → Option Obj} {w : World} {b c : Bool} {n t R eR ti : Nat} {S0 S1 S2 : Sl} {om : Om} :
  chk [] (runC PySem.W.Fast.mineEnt1 (vwP PT (W1 b (Wc c w)) n t [R] (fun _ => []) (fun _ => [sgZ S0 S1 (0),sgZ S1 S1 (0),sgZ S2 S1 (0)]) om 800 7000) 700 (.call (.ref 245) ⟨[.ref R,.int 1 ti],[]⟩) true (tpPl13 c) [rsO S0 S1 S2 eR])
   ⟨.fin (.ok (.ret (.int 1 (om 2 1 + 16)))),om 2 0,8,om 2 1,17,[],[rsO S0 S1 S2 eR],[]⟩ := by
 unfold chk
 cases b <;> cases c <;> kernel_rfl
noncomputable def tpPl14 (c : Bool) : List Tk := match c with
 | true => (cat tp18 (cat tp23 tp39))
 | false => (cat tp19 (cat tp23 tp39))
theorem pl_1_zzm {PT : Nat → Option Obj} {w : World} {b c : Bool} {n t R eR ti : Nat} {S0 S1 S2 : Sl} {om : Om} :
  chk [] (runC PySem.W.Fast.mineEnt1 (vwP PT (W1 b (Wc c w)) n t [R] (fun _ => []) (fun _ => [sgZ S0 S1 (0),sgZ S1 S1 (0),sgZ S2 S1 (-1)]) om 800 7000) 700 (.call (.ref 245) ⟨[.ref R,.int 1 ti],[]⟩) true (tpPl14 c) [rsO S0 S1 S2 eR])
   ⟨.fin (.ok (.ret (.int 2 (om 2 1 + 15)))),om 2 0,8,om 2 1,16,[],[rsO S0 S1 S2 eR],[]⟩ := by
 unfold chk
 cases b <;> cases c <;> kernel_rfl
noncomputable def tpPl15 (c : Bool) : List Tk := match c with
 | true => (cat tp18 (cat tp11 tp37))
 | false => (cat tp19 (cat tp11 tp37))
theorem pl_1_mzp {PT : Nat → Option Obj} {w : World} {b c : Bool} {n t R eR ti : Nat} {S0 S1 S2 : Sl} {om : Om} :
  chk [] (runC PySem.W.Fast.mineEnt1 (vwP PT (W1 b (Wc c w)) n t [R] (fun _ => []) (fun _ => [sgZ S0 S1 (-1),sgZ S1 S1 (0),sgZ S2 S1 (1)]) om 800 7000) 700 (.call (.ref 245) ⟨[.ref R,.int 1 ti],[]⟩) true (tpPl15 c) [rsO S0 S1 S2 eR])
   ⟨.fin (.ok (.ret (.int 1 (om 2 1 + 15)))),om 2 0,8,om 2 1,16,[],[rsO S0 S1 S2 eR],[]⟩ := by
 unfold chk
 cases b <;> cases c <;> kernel_rfl
noncomputable def tpPl16 (c : Bool) : List Tk := match c with
 | true => (cat tp18 (cat tp11 tp38))
 | false => (cat tp19 (cat tp11 tp38))
theorem pl_1_mzz {PT : Nat → Option Obj} {w : World} {b c : Bool} {n t R eR ti : Nat} {S0 S1 S2 : Sl} {om : Om} :
  chk [] (runC PySem.W.Fast.mineEnt1 (vwP PT (W1 b (Wc c w)) n t [R] (fun _ => []) (fun _ => [sgZ S0 S1 (-1),sgZ S1 S1 (0),sgZ S2 S1 (0)]) om 800 7000) 700 (.call (.ref 245) ⟨[.ref R,.int 1 ti],[]⟩) true (tpPl16 c) [rsO S0 S1 S2 eR])
   ⟨.fin (.ok (.ret (.int 1 (om 2 1 + 15)))),om 2 0,8,om 2 1,16,[],[rsO S0 S1 S2 eR],[]⟩ := by
 unfold chk
 cases b <;> cases c <;> kernel_rfl
noncomputable def tpPl17 (c : Bool) : List Tk := match c with
 | true => (cat tp18 (cat tp11 tp39))
 | false => (cat tp19 (cat tp11 tp39))
theorem pl_1_mzm {PT : Nat → Option Obj} {w : World} {b c : Bool} {n t R eR ti : Nat} {S0 S1 S2 : Sl} {om : Om} :
  chk [] (runC PySem.W.Fast.mineEnt1 (vwP PT (W1 b (Wc c w)) n t [R] (fun _ => []) (fun _ => [sgZ S0 S1 (-1),sgZ S1 S1 (0),sgZ S2 S1 (-1)]) om 800 7000) 700 (.call (.ref 245) ⟨[.ref R,.int 1 ti],[]⟩) true (tpPl17 c) [rsO S0 S1 S2 eR])
   ⟨.fin (.ok (.ret (.int 2 (om 2 1 + 14)))),om 2 0,8,om 2 1,15,[],[rsO S0 S1 S2 eR],[]⟩ := by
 unfold chk
 cases b <;> cases c <;> kernel_rfl
noncomputable def tpPl18 (c : Bool) : List Tk := match c with
 | true => (cat tp18 (cat tp3 tp58))
 | false => (cat tp19 (cat tp3 tp58))
theorem pl_2_ppz {PT : Nat → Option Obj} {w : World} {b c : Bool} {n t R eR ti : Nat} {S0 S1 S2 : Sl} {om : Om} :
  chk [] (runC PySem.W.Fast.mineEnt1 (vwP PT (W1 b (Wc c w)) n t [R] (fun _ => []) (fun _ => [sgZ S0 S2 (1),sgZ S1 S2 (1),sgZ S2 S2 (0)]) om 800 7000) 700 (.call (.ref 245) ⟨[.ref R,.int 2 ti],[]⟩) true (tpPl18 c) [rsO S0 S1 S2 eR])
   ⟨.fin (.ok (.ret (.int 0 (om 2 1 + 16)))),om 2 0,8,om 2 1,17,[],[rsO S0 S1 S2 eR],[]⟩ := by
 unfold chk
 cases b <;> cases c <;> kernel_rfl
noncomputable def tpPl19 (c : Bool) : List Tk := match c with
 | true => (cat tp18 (cat tp3 tp59))
 | false => (cat tp19 (cat tp3 tp59))
theorem pl_2_pzz {PT : Nat → Option Obj} {w : World} {b c : Bool} {n t R eR ti : Nat} {S0 S1 S2 : Sl} {om : Om} :
  chk [] (runC PySem.W.Fast.mineEnt1 (vwP PT (W1 b (Wc c w)) n t [R] (fun _ => []) (fun _ => [sgZ S0 S2 (1),sgZ S1 S2 (0),sgZ S2 S2 (0)]) om 800 7000) 700 (.call (.ref 245) ⟨[.ref R,.int 2 ti],[]⟩) true (tpPl19 c) [rsO S0 S1 S2 eR])
   ⟨.fin (.ok (.ret (.int 1 (om 2 1 + 16)))),om 2 0,8,om 2 1,17,[],[rsO S0 S1 S2 eR],[]⟩ := by
 unfold chk
 cases b <;> cases c <;> kernel_rfl
noncomputable def tpPl20 (c : Bool) : List Tk := match c with
 | true => (cat tp18 (cat tp3 tp60))
 | false => (cat tp19 (cat tp3 tp60))
theorem pl_2_pmz {PT : Nat → Option Obj} {w : World} {b c : Bool} {n t R eR ti : Nat} {S0 S1 S2 : Sl} {om : Om} :
  chk [] (runC PySem.W.Fast.mineEnt1 (vwP PT (W1 b (Wc c w)) n t [R] (fun _ => []) (fun _ => [sgZ S0 S2 (1),sgZ S1 S2 (-1),sgZ S2 S2 (0)]) om 800 7000) 700 (.call (.ref 245) ⟨[.ref R,.int 2 ti],[]⟩) true (tpPl20 c) [rsO S0 S1 S2 eR])
   ⟨.fin (.ok (.ret (.int 1 (om 2 1 + 15)))),om 2 0,8,om 2 1,16,[],[rsO S0 S1 S2 eR],[]⟩ := by
 unfold chk
 cases b <;> cases c <;> kernel_rfl
noncomputable def tpPl21 (c : Bool) : List Tk := match c with
 | true => (cat tp18 (cat tp23 tp58))
 | false => (cat tp19 (cat tp23 tp58))
theorem pl_2_zpz {PT : Nat → Option Obj} {w : World} {b c : Bool} {n t R eR ti : Nat} {S0 S1 S2 : Sl} {om : Om} :
  chk [] (runC PySem.W.Fast.mineEnt1 (vwP PT (W1 b (Wc c w)) n t [R] (fun _ => []) (fun _ => [sgZ S0 S2 (0),sgZ S1 S2 (1),sgZ S2 S2 (0)]) om 800 7000) 700 (.call (.ref 245) ⟨[.ref R,.int 2 ti],[]⟩) true (tpPl21 c) [rsO S0 S1 S2 eR])
   ⟨.fin (.ok (.ret (.int 1 (om 2 1 + 16)))),om 2 0,8,om 2 1,17,[],[rsO S0 S1 S2 eR],[]⟩ := by
 unfold chk
 cases b <;> cases c <;> kernel_rfl
noncomputable def tpPl22 (c : Bool) : List Tk := match c with
 | true => (cat tp18 (cat tp23 tp59))
 | false => (cat tp19 (cat tp23 tp59))
theorem pl_2_zzz {PT : Nat → Option Obj} {w : World} {b c : Bool} {n t R eR ti : Nat} {S0 S1 S2 : Sl} {om : Om} :
  chk [] (runC PySem.W.Fast.mineEnt1 (vwP PT (W1 b (Wc c w)) n t [R] (fun _ => []) (fun _ => [sgZ S0 S2 (0),sgZ S1 S2 (0),sgZ S2 S2 (0)]) om 800 7000) 700 (.call (.ref 245) ⟨[.ref R,.int 2 ti],[]⟩) true (tpPl22 c) [rsO S0 S1 S2 eR])
   ⟨.fin (.ok (.ret (.int 2 (om 2 1 + 16)))),om 2 0,8,om 2 1,17,[],[rsO S0 S1 S2 eR],[]⟩ := by
 unfold chk
 cases b <;> cases c <;> kernel_rfl
noncomputable def tpPl23 (c : Bool) : List Tk := match c with
 | true => (cat tp18 (cat tp23 tp60))
 | false => (cat tp19 (cat tp23 tp60))
theorem pl_2_zmz {PT : Nat → Option Obj} {w : World} {b c : Bool} {n t R eR ti : Nat} {S0 S1 S2 : Sl} {om : Om} :
  chk [] (runC PySem.W.Fast.mineEnt1 (vwP PT (W1 b (Wc c w)) n t [R] (fun _ => []) (fun _ => [sgZ S0 S2 (0),sgZ S1 S2 (-1),sgZ S2 S2 (0)]) om 800 7000) 700 (.call (.ref 245) ⟨[.ref R,.int 2 ti],[]⟩) true (tpPl23 c) [rsO S0 S1 S2 eR])
   ⟨.fin (.ok (.ret (.int 2 (om 2 1 + 15)))),om 2 0,8,om 2 1,16,[],[rsO S0 S1 S2 eR],[]⟩ := by
 unfold chk
 cases b <;> cases c <;> kernel_rfl
noncomputable def tpPl24 (c : Bool) : List Tk := match c with
 | true => (cat tp18 (cat tp11 tp58))
 | false => (cat tp19 (cat tp11 tp58))
theorem pl_2_mpz {PT : Nat → Option Obj} {w : World} {b c : Bool} {n t R eR ti : Nat} {S0 S1 S2 : Sl} {om : Om} :
  chk [] (runC PySem.W.Fast.mineEnt1 (vwP PT (W1 b (Wc c w)) n t [R] (fun _ => []) (fun _ => [sgZ S0 S2 (-1),sgZ S1 S2 (1),sgZ S2 S2 (0)]) om 800 7000) 700 (.call (.ref 245) ⟨[.ref R,.int 2 ti],[]⟩) true (tpPl24 c) [rsO S0 S1 S2 eR])
   ⟨.fin (.ok (.ret (.int 1 (om 2 1 + 15)))),om 2 0,8,om 2 1,16,[],[rsO S0 S1 S2 eR],[]⟩ := by
 unfold chk
 cases b <;> cases c <;> kernel_rfl
noncomputable def tpPl25 (c : Bool) : List Tk := match c with
 | true => (cat tp18 (cat tp11 tp59))
 | false => (cat tp19 (cat tp11 tp59))
theorem pl_2_mzz {PT : Nat → Option Obj} {w : World} {b c : Bool} {n t R eR ti : Nat} {S0 S1 S2 : Sl} {om : Om} :
  chk [] (runC PySem.W.Fast.mineEnt1 (vwP PT (W1 b (Wc c w)) n t [R] (fun _ => []) (fun _ => [sgZ S0 S2 (-1),sgZ S1 S2 (0),sgZ S2 S2 (0)]) om 800 7000) 700 (.call (.ref 245) ⟨[.ref R,.int 2 ti],[]⟩) true (tpPl25 c) [rsO S0 S1 S2 eR])
   ⟨.fin (.ok (.ret (.int 2 (om 2 1 + 15)))),om 2 0,8,om 2 1,16,[],[rsO S0 S1 S2 eR],[]⟩ := by
 unfold chk
 cases b <;> cases c <;> kernel_rfl
noncomputable def tpPl26 (c : Bool) : List Tk := match c with
 | true => (cat tp18 (cat tp11 tp60))
 | false => (cat tp19 (cat tp11 tp60))
theorem pl_2_mmz {PT : Nat → Option Obj} {w : World} {b c : Bool} {n t R eR ti : Nat} {S0 S1 S2 : Sl} {om : Om} :
  chk [] (runC PySem.W.Fast.mineEnt1 (vwP PT (W1 b (Wc c w)) n t [R] (fun _ => []) (fun _ => [sgZ S0 S2 (-1),sgZ S1 S2 (-1),sgZ S2 S2 (0)]) om 800 7000) 700 (.call (.ref 245) ⟨[.ref R,.int 2 ti],[]⟩) true (tpPl26 c) [rsO S0 S1 S2 eR])
   ⟨.fin (.ok (.ret (.int 2 (om 2 1 + 14)))),om 2 0,8,om 2 1,15,[],[rsO S0 S1 S2 eR],[]⟩ := by
 unfold chk
 cases b <;> cases c <;> kernel_rfl
section
variable {PT PT' : Nat → Option Obj} {w : World} {S0 S1 S2 : Sl}
theorem place_case {R eR ti k : Nat} {i p : Int} {xs : List XC} {tp : Bool → List Tk} (l2 : lkP PT' w.params R = none) (hxs : ∀ C ∈ xs,XOkP PT' w C)
  (H : ∀ b c n t om,chk [] (runC PySem.W.Fast.mineEnt1 (vwP PT' (W1 b (Wc c w)) n t [R] (fun _ => []) (fun _ => xs) om 800 7000) 700 (.call (.ref 245) ⟨[.ref R,.int i ti],[]⟩) true (tp c) [rsO S0 S1 S2 eR])
   ⟨.fin (.ok (.ret (.int p (om 2 1 + k)))),om 2 0,8,om 2 1,k + 1,[],[rsO S0 S1 S2 eR],[]⟩) : XOkP PT' w (placeX R eR S0 S1 S2 i ti p) := by
 have z := mk_xokP (PT := PT') (w := w) (fun _ => ent1_ok) entQ1_eq (code := .call (.ref 245) ⟨[.ref R,.int i ti],[]⟩) (L := [R]) (U := [rsO S0 S1 S2 eR]) (res := fun ω => .ok (.ret (.int p (ω 2)))) (U' := fun _ => [rsO S0 S1 S2 eR]) (news := fun _ => []) (ks := []) (dm := 800) (um := 7000) (N := 700) (e := true) (tp := tp (w.params.followText "comprehension-iter-twice"))
  (cs := fun _ _ _ _ => []) (xs := fun _ _ _ _ => xs) (ω := fun n t om => fun | 0 => om 2 0 + 8 | 1 => om 2 1 + (k + 1) | _ => om 2 1 + k) (x := fun _ n t om => ⟨.fin (.ok (.ret (.int p (om 2 1 + k)))),om 2 0,8,om 2 1,k + 1,[],[rsO S0 S1 S2 eR],[]⟩)
  (by simp) (ac l2 an) rfl (fun _ => rfl) rfl (by decide) (by decide) (fun n t om _ C hC => by cases hC) (fun n t om _ => hxs) (fun b n t om => by
   have := H b (w.params.followText "comprehension-iter-twice") n t om
   rw [Wc_eq] at this
   exact this) (fun n t om => ⟨rfl,rfl,rfl,rfl,fun p hp => by cases hp⟩)
 exact xdrop_ok z fun ω => rfl
theorem place_0 (I : Trio PT PT' S0 S1 S2) {R eR ti : Nat} (l2 : lkP PT' w.params R = none) : XOkP PT' w (placeX R eR S0 S1 S2 0 ti (plz 0 (sgn S0.ks S0.ks) (sgn S1.ks S0.ks) (sgn S2.ks S0.ks) : Nat)) := by
 have hs := sgn_same (ks := S0.ks)
 have sg : ∀ S ∈ [S0,S1,S2],∀ T ∈ [S0,S1,S2],∀ z,sgn S.ks T.ks = z → XOkP PT' w (sgZ S T z) := by
  intro S hS T hT z hz
  subst hz
  exact I.sg S hS T hT
 rcases sgn_cases S1.ks S0.ks with h | h | h <;> rcases sgn_cases S2.ks S0.ks with h' | h' | h'
 ·rw [h,h',hs]
  refine place_case (k := 16) l2 (fun C hC => ?_) fun b c n t om => pl_0_zpp
  revert C
  refine ac ?_ (ac ?_ (ac ?_ (an)))
  ·exact sg _ (by simp) _ (by simp) _ hs
  ·exact sg _ (by simp) _ (by simp) _ h
  ·exact sg _ (by simp) _ (by simp) _ h'
 ·rw [h,h',hs]
  refine place_case (k := 16) l2 (fun C hC => ?_) fun b c n t om => pl_0_zpz
  revert C
  refine ac ?_ (ac ?_ (ac ?_ (an)))
  ·exact sg _ (by simp) _ (by simp) _ hs
  ·exact sg _ (by simp) _ (by simp) _ h
  ·exact sg _ (by simp) _ (by simp) _ h'
 ·rw [h,h',hs]
  refine place_case (k := 15) l2 (fun C hC => ?_) fun b c n t om => pl_0_zpm
  revert C
  refine ac ?_ (ac ?_ (ac ?_ (an)))
  ·exact sg _ (by simp) _ (by simp) _ hs
  ·exact sg _ (by simp) _ (by simp) _ h
  ·exact sg _ (by simp) _ (by simp) _ h'
 ·rw [h,h',hs]
  refine place_case (k := 16) l2 (fun C hC => ?_) fun b c n t om => pl_0_zzp
  revert C
  refine ac ?_ (ac ?_ (ac ?_ (an)))
  ·exact sg _ (by simp) _ (by simp) _ hs
  ·exact sg _ (by simp) _ (by simp) _ h
  ·exact sg _ (by simp) _ (by simp) _ h'
 ·rw [h,h',hs]
  refine place_case (k := 16) l2 (fun C hC => ?_) fun b c n t om => pl_0_zzz
  revert C
  refine ac ?_ (ac ?_ (ac ?_ (an)))
  ·exact sg _ (by simp) _ (by simp) _ hs
  ·exact sg _ (by simp) _ (by simp) _ h
  ·exact sg _ (by simp) _ (by simp) _ h'
 ·rw [h,h',hs]
  refine place_case (k := 15) l2 (fun C hC => ?_) fun b c n t om => pl_0_zzm
  revert C
  refine ac ?_ (ac ?_ (ac ?_ (an)))
  ·exact sg _ (by simp) _ (by simp) _ hs
  ·exact sg _ (by simp) _ (by simp) _ h
  ·exact sg _ (by simp) _ (by simp) _ h'
 ·rw [h,h',hs]
  refine place_case (k := 15) l2 (fun C hC => ?_) fun b c n t om => pl_0_zmp
  revert C
  refine ac ?_ (ac ?_ (ac ?_ (an)))
  ·exact sg _ (by simp) _ (by simp) _ hs
  ·exact sg _ (by simp) _ (by simp) _ h
  ·exact sg _ (by simp) _ (by simp) _ h'
 ·rw [h,h',hs]
  refine place_case (k := 15) l2 (fun C hC => ?_) fun b c n t om => pl_0_zmz
  revert C
  refine ac ?_ (ac ?_ (ac ?_ (an)))
  ·exact sg _ (by simp) _ (by simp) _ hs
  ·exact sg _ (by simp) _ (by simp) _ h
  ·exact sg _ (by simp) _ (by simp) _ h'
 ·rw [h,h',hs]
  refine place_case (k := 14) l2 (fun C hC => ?_) fun b c n t om => pl_0_zmm
  revert C
  refine ac ?_ (ac ?_ (ac ?_ (an)))
  ·exact sg _ (by simp) _ (by simp) _ hs
  ·exact sg _ (by simp) _ (by simp) _ h
  ·exact sg _ (by simp) _ (by simp) _ h'
theorem place_1 (I : Trio PT PT' S0 S1 S2) {R eR ti : Nat} (l2 : lkP PT' w.params R = none) : XOkP PT' w (placeX R eR S0 S1 S2 1 ti (plz 1 (sgn S0.ks S1.ks) (sgn S1.ks S1.ks) (sgn S2.ks S1.ks) : Nat)) := by
 have hs := sgn_same (ks := S1.ks)
 have sg : ∀ S ∈ [S0,S1,S2],∀ T ∈ [S0,S1,S2],∀ z,sgn S.ks T.ks = z → XOkP PT' w (sgZ S T z) := by
  intro S hS T hT z hz
  subst hz
  exact I.sg S hS T hT
 rcases sgn_cases S0.ks S1.ks with h | h | h <;> rcases sgn_cases S2.ks S1.ks with h' | h' | h'
 ·rw [h,h',hs]
  refine place_case (k := 16) l2 (fun C hC => ?_) fun b c n t om => pl_1_pzp
  revert C
  refine ac ?_ (ac ?_ (ac ?_ (an)))
  ·exact sg _ (by simp) _ (by simp) _ h
  ·exact sg _ (by simp) _ (by simp) _ hs
  ·exact sg _ (by simp) _ (by simp) _ h'
 ·rw [h,h',hs]
  refine place_case (k := 16) l2 (fun C hC => ?_) fun b c n t om => pl_1_pzz
  revert C
  refine ac ?_ (ac ?_ (ac ?_ (an)))
  ·exact sg _ (by simp) _ (by simp) _ h
  ·exact sg _ (by simp) _ (by simp) _ hs
  ·exact sg _ (by simp) _ (by simp) _ h'
 ·rw [h,h',hs]
  refine place_case (k := 15) l2 (fun C hC => ?_) fun b c n t om => pl_1_pzm
  revert C
  refine ac ?_ (ac ?_ (ac ?_ (an)))
  ·exact sg _ (by simp) _ (by simp) _ h
  ·exact sg _ (by simp) _ (by simp) _ hs
  ·exact sg _ (by simp) _ (by simp) _ h'
 ·rw [h,h',hs]
  refine place_case (k := 16) l2 (fun C hC => ?_) fun b c n t om => pl_1_zzp
  revert C
  refine ac ?_ (ac ?_ (ac ?_ (an)))
  ·exact sg _ (by simp) _ (by simp) _ h
  ·exact sg _ (by simp) _ (by simp) _ hs
  ·exact sg _ (by simp) _ (by simp) _ h'
 ·rw [h,h',hs]
  refine place_case (k := 16) l2 (fun C hC => ?_) fun b c n t om => pl_1_zzz
  revert C
  refine ac ?_ (ac ?_ (ac ?_ (an)))
  ·exact sg _ (by simp) _ (by simp) _ h
  ·exact sg _ (by simp) _ (by simp) _ hs
  ·exact sg _ (by simp) _ (by simp) _ h'
 ·rw [h,h',hs]
  refine place_case (k := 15) l2 (fun C hC => ?_) fun b c n t om => pl_1_zzm
  revert C
  refine ac ?_ (ac ?_ (ac ?_ (an)))
  ·exact sg _ (by simp) _ (by simp) _ h
  ·exact sg _ (by simp) _ (by simp) _ hs
  ·exact sg _ (by simp) _ (by simp) _ h'
 ·rw [h,h',hs]
  refine place_case (k := 15) l2 (fun C hC => ?_) fun b c n t om => pl_1_mzp
  revert C
  refine ac ?_ (ac ?_ (ac ?_ (an)))
  ·exact sg _ (by simp) _ (by simp) _ h
  ·exact sg _ (by simp) _ (by simp) _ hs
  ·exact sg _ (by simp) _ (by simp) _ h'
 ·rw [h,h',hs]
  refine place_case (k := 15) l2 (fun C hC => ?_) fun b c n t om => pl_1_mzz
  revert C
  refine ac ?_ (ac ?_ (ac ?_ (an)))
  ·exact sg _ (by simp) _ (by simp) _ h
  ·exact sg _ (by simp) _ (by simp) _ hs
  ·exact sg _ (by simp) _ (by simp) _ h'
 ·rw [h,h',hs]
  refine place_case (k := 14) l2 (fun C hC => ?_) fun b c n t om => pl_1_mzm
  revert C
  refine ac ?_ (ac ?_ (ac ?_ (an)))
  ·exact sg _ (by simp) _ (by simp) _ h
  ·exact sg _ (by simp) _ (by simp) _ hs
  ·exact sg _ (by simp) _ (by simp) _ h'
theorem place_2 (I : Trio PT PT' S0 S1 S2) {R eR ti : Nat} (l2 : lkP PT' w.params R = none) : XOkP PT' w (placeX R eR S0 S1 S2 2 ti (plz 2 (sgn S0.ks S2.ks) (sgn S1.ks S2.ks) (sgn S2.ks S2.ks) : Nat)) := by
 have hs := sgn_same (ks := S2.ks)
 have sg : ∀ S ∈ [S0,S1,S2],∀ T ∈ [S0,S1,S2],∀ z,sgn S.ks T.ks = z → XOkP PT' w (sgZ S T z) := by
  intro S hS T hT z hz
  subst hz
  exact I.sg S hS T hT
 rcases sgn_cases S0.ks S2.ks with h | h | h <;> rcases sgn_cases S1.ks S2.ks with h' | h' | h'
 ·rw [h,h',hs]
  refine place_case (k := 16) l2 (fun C hC => ?_) fun b c n t om => pl_2_ppz
  revert C
  refine ac ?_ (ac ?_ (ac ?_ (an)))
  ·exact sg _ (by simp) _ (by simp) _ h
  ·exact sg _ (by simp) _ (by simp) _ h'
  ·exact sg _ (by simp) _ (by simp) _ hs
 ·rw [h,h',hs]
  refine place_case (k := 16) l2 (fun C hC => ?_) fun b c n t om => pl_2_pzz
  revert C
  refine ac ?_ (ac ?_ (ac ?_ (an)))
  ·exact sg _ (by simp) _ (by simp) _ h
  ·exact sg _ (by simp) _ (by simp) _ h'
  ·exact sg _ (by simp) _ (by simp) _ hs
 ·rw [h,h',hs]
  refine place_case (k := 15) l2 (fun C hC => ?_) fun b c n t om => pl_2_pmz
  revert C
  refine ac ?_ (ac ?_ (ac ?_ (an)))
  ·exact sg _ (by simp) _ (by simp) _ h
  ·exact sg _ (by simp) _ (by simp) _ h'
  ·exact sg _ (by simp) _ (by simp) _ hs
 ·rw [h,h',hs]
  refine place_case (k := 16) l2 (fun C hC => ?_) fun b c n t om => pl_2_zpz
  revert C
  refine ac ?_ (ac ?_ (ac ?_ (an)))
  ·exact sg _ (by simp) _ (by simp) _ h
  ·exact sg _ (by simp) _ (by simp) _ h'
  ·exact sg _ (by simp) _ (by simp) _ hs
 ·rw [h,h',hs]
  refine place_case (k := 16) l2 (fun C hC => ?_) fun b c n t om => pl_2_zzz
  revert C
  refine ac ?_ (ac ?_ (ac ?_ (an)))
  ·exact sg _ (by simp) _ (by simp) _ h
  ·exact sg _ (by simp) _ (by simp) _ h'
  ·exact sg _ (by simp) _ (by simp) _ hs
 ·rw [h,h',hs]
  refine place_case (k := 15) l2 (fun C hC => ?_) fun b c n t om => pl_2_zmz
  revert C
  refine ac ?_ (ac ?_ (ac ?_ (an)))
  ·exact sg _ (by simp) _ (by simp) _ h
  ·exact sg _ (by simp) _ (by simp) _ h'
  ·exact sg _ (by simp) _ (by simp) _ hs
 ·rw [h,h',hs]
  refine place_case (k := 15) l2 (fun C hC => ?_) fun b c n t om => pl_2_mpz
  revert C
  refine ac ?_ (ac ?_ (ac ?_ (an)))
  ·exact sg _ (by simp) _ (by simp) _ h
  ·exact sg _ (by simp) _ (by simp) _ h'
  ·exact sg _ (by simp) _ (by simp) _ hs
 ·rw [h,h',hs]
  refine place_case (k := 15) l2 (fun C hC => ?_) fun b c n t om => pl_2_mzz
  revert C
  refine ac ?_ (ac ?_ (ac ?_ (an)))
  ·exact sg _ (by simp) _ (by simp) _ h
  ·exact sg _ (by simp) _ (by simp) _ h'
  ·exact sg _ (by simp) _ (by simp) _ hs
 ·rw [h,h',hs]
  refine place_case (k := 14) l2 (fun C hC => ?_) fun b c n t om => pl_2_mmz
  revert C
  refine ac ?_ (ac ?_ (ac ?_ (an)))
  ·exact sg _ (by simp) _ (by simp) _ h
  ·exact sg _ (by simp) _ (by simp) _ h'
  ·exact sg _ (by simp) _ (by simp) _ hs
end
end Mine.G
end
section
namespace Mine.G
noncomputable def cmpL : List Nat → List Nat → Int
 | [],[] => 0
 | [],_ :: _ => -1
 | _ :: _,[] => 1
 | a :: as,b :: bs => if a = b then cmpL as bs else if a > b then 1 else -1
theorem cmpL_nil (xs : List Nat) : cmpL [] xs = szS 0 xs.length := by cases xs <;> simp [cmpL,szS]
theorem cmpL_nil' (xs : List Nat) : cmpL xs [] = szS xs.length 0 := by cases xs <;> simp [cmpL,szS]
theorem sgnI_drop {ks ls : List Nat} : ∀ r i,r = ks.length - i → i ≤ ks.length → i ≤ ls.length → sgnI ks ls i = cmpL (ks.drop i) (ls.drop i) := by
 intro r
 induction r with
 | zero =>
  intro i hr h1 h2
  rw [sgnI_end (.inl (by lia)),List.drop_eq_nil_of_le (show ks.length ≤ i by lia),cmpL_nil,List.length_drop]
  have e1 : ks.length = i := by lia
  rw [e1]
  unfold szS
  split <;> split <;> (try split) <;> (try split) <;> lia
 | succ r ih =>
  intro i hr h1 h2
  have hi : i < ks.length := by lia
  by_cases hl : ls.length ≤ i
  ·rw [sgnI_end (.inr hl),List.drop_eq_nil_of_le hl,cmpL_nil',List.length_drop]
   have e1 : ls.length = i := by lia
   rw [e1]
   unfold szS
   split <;> split <;> (try split) <;> (try split) <;> lia
  ·have hj : i < ls.length := by lia
   rw [sgnI_at hi hj,List.drop_eq_getElem_cons hi,List.drop_eq_getElem_cons hj,cmpL]
   split
   ·exact ih (i + 1) (by lia) (by lia) (by lia)
   ·rfl
theorem sgn_cmpL (ks ls : List Nat) : sgn ks ls = cmpL ks ls := by
 rw [← sgnI_zero,sgnI_drop _ 0 rfl (Nat.zero_le _) (Nat.zero_le _),List.drop_zero,List.drop_zero]
theorem cmpL_anti : ∀ a b,cmpL b a = - cmpL a b := by
 intro a
 induction a with
 | nil => intro b; cases b <;> simp [cmpL]
 | cons x a ih =>
  intro b
  cases b with
  | nil => simp [cmpL]
  | cons y b =>
   simp only [cmpL]
   by_cases h : x = y
   ·rw [if_pos h,if_pos h.symm]; exact ih b
   ·rw [if_neg h,if_neg (Ne.symm h)]
    by_cases g : x > y
    ·rw [if_pos g,if_neg (by lia)]
    ·rw [if_neg g,if_pos (by lia)]; rfl
theorem cmpL_eq : ∀ a b,cmpL a b = 0 → a = b := by
 intro a
 induction a with
 | nil => intro b; cases b <;> simp [cmpL]
 | cons x a ih =>
  intro b
  cases b with
  | nil => simp [cmpL]
  | cons y b =>
   simp only [cmpL]
   by_cases h : x = y
   ·rw [if_pos h]; intro e; rw [h,ih b e]
   ·rw [if_neg h]
    by_cases g : x > y
    ·rw [if_pos g]; intro e; cases e
    ·rw [if_neg g]; intro e; cases e
theorem cmpL_trans : ∀ a b c,cmpL a b = -1 → cmpL b c = -1 → cmpL a c = -1 := by
 intro a
 induction a with
 | nil =>
  intro b c h1 h2
  cases c with
  | nil => cases b with
   | nil => simp [cmpL] at h1
   | cons => simp [cmpL] at h2
  | cons => rfl
 | cons x a ih =>
  intro b c h1 h2
  cases b with
  | nil => simp [cmpL] at h1
  | cons y b =>
   cases c with
   | nil => simp [cmpL] at h2
   | cons z c =>
    simp only [cmpL] at h1 h2 ⊢
    by_cases h : x = y
    ·subst h
     rw [if_pos rfl] at h1
     by_cases g : x = z
     ·rw [if_pos g] at h2 ⊢
      exact ih b c h1 h2
     ·rw [if_neg g] at h2 ⊢; exact h2
    ·rw [if_neg h] at h1
     have hl : ¬ x > y := by intro g; rw [if_pos g] at h1; cases h1
     by_cases g : y = z
     ·subst g
      rw [if_neg h,if_neg hl]
     ·rw [if_neg g] at h2
      have hl2 : ¬ y > z := by intro g; rw [if_pos g] at h2; cases h2
      rw [if_neg (by lia),if_neg (by lia)]
theorem sgn_anti (a b : List Nat) : sgn b a = - sgn a b := by rw [sgn_cmpL,sgn_cmpL,cmpL_anti]
theorem sgn_eq {a b : List Nat} (h : sgn a b = 0) : a = b := cmpL_eq a b (by rw [← sgn_cmpL]; exact h)
theorem sgn_trans {a b c : List Nat} (h1 : sgn a b = -1) (h2 : sgn b c = -1) : sgn a c = -1 := by
 rw [sgn_cmpL] at *
 exact cmpL_trans _ _ _ h1 h2
theorem sgn_trans' {a b c : List Nat} (h1 : sgn a b = 1) (h2 : sgn b c = 1) : sgn a c = 1 := by
 have := sgn_trans (a := c) (b := b) (c := a) (by rw [sgn_anti,h2]) (by rw [sgn_anti,h1])
 rw [sgn_anti,this]; rfl
theorem sgn_same' (a : List Nat) : sgn a a = 0 := sgn_same
noncomputable def weak (p q r : Int) : Bool := (p,q,r) ∈ ([(0,0,0),(0,1,1),(0,-1,-1),(1,1,0),(-1,-1,0),(1,0,-1),(-1,0,1),(1,1,1),(1,1,-1),(1,-1,-1),(-1,1,1),(-1,-1,1),(-1,-1,-1)] : List (Int × Int × Int))
theorem sgn_weak (a b c : List Nat) : weak (sgn a b) (sgn a c) (sgn b c) = true := by
 rcases sgn_cases a b with h1 | h1 | h1
 ·rcases sgn_cases b c with h2 | h2 | h2
  ·have h3 := sgn_trans' h1 h2
   rw [h1,h2,h3]; decide
  ·have := sgn_eq h2
   subst this
   rw [h1,h2]; decide
  ·rcases sgn_cases a c with h3 | h3 | h3 <;> (rw [h1,h2,h3]; decide)
 ·have := sgn_eq h1
  subst this
  rcases sgn_cases a c with h3 | h3 | h3 <;> (rw [h1,h3]; decide)
 ·rcases sgn_cases b c with h2 | h2 | h2
  ·rcases sgn_cases a c with h3 | h3 | h3 <;> (rw [h1,h2,h3]; decide)
  ·have := sgn_eq h2
   subst this
   rw [h1,h2]; decide
  ·have h3 := sgn_trans h1 h2
   rw [h1,h2,h3]; decide
end Mine.G
end
section
namespace Mine.G
noncomputable def orderX (R eR : Nat) (S0 S1 S2 : Sl) (a b c : Int) : XC :=
 {code := .call (.ref 274) ⟨[.ref R],[]⟩,pre := [(R,rsO S0 S1 S2 eR)],res := fun ω => .ok (.ret (.ref (ω 2))),upd := fun _ => [],news := fun ω => [(ω 2,lst [.int a (ω 3),.int b (ω 4),.int c (ω 5)] 3)],dm := 760,um := 6800 }
noncomputable def orXs (R eR : Nat) (S0 S1 S2 : Sl) (p0 p1 p2 : Int) (t : Nat) (om : Om) : List XC :=
 [placeX R eR S0 S1 S2 0 (t + 8) p0,placeX R eR S0 S1 S2 1 (om 0 1) p1,placeX R eR S0 S1 S2 2 (om 1 1) p2,
  placeX R eR S0 S1 S2 0 (om 2 1 + 5) p0,placeX R eR S0 S1 S2 1 (om 3 1) p1,placeX R eR S0 S1 S2 2 (om 4 1) p2,
  placeX R eR S0 S1 S2 0 (om 5 1 + 5) p0,placeX R eR S0 S1 S2 1 (om 6 1) p1,placeX R eR S0 S1 S2 2 (om 7 1) p2]
noncomputable def tpOror_012 (c : Bool) : List Tk := match c with
 | true => (cat tp61 (cat tp74 (cat [.go] (cat tp42 (cat tp75 (cat tp62 (cat tp43 tp76)))))))
 | false => (cat tp63 (cat tp74 (cat tp15 (cat tp42 (cat tp75 (cat tp64 (cat tp43 tp76)))))))
theorem or_012 {PT : Nat → Option Obj} {w : World} {b c : Bool} {n t R eR : Nat} {S0 S1 S2 : Sl} {om : Om} :
  chk [4] (runC PySem.W.Fast.mineEnt1 (vwP PT (W1 b (Wc c w)) n t [R] (fun _ => []) (fun om => orXs R eR S0 S1 S2 0 1 2 t om) om 760 6800) 1000 (.call (.ref 274) ⟨[.ref R],[]⟩) true (tpOror_012 c) [rsO S0 S1 S2 eR])
   ⟨.fin (.ok (.ret (.ref (n + 4)))),om 8 0,4,om 8 1,0,[some (n + 4,lst [.int 0 (t + 8),.int 1 (om 3 1 + 0),.int 2 (om 7 1 + 0)] 3)],[rsO S0 S1 S2 eR],[]⟩ := by
 unfold chk
 cases b <;> cases c <;> kernel_rfl
noncomputable def tpOror_021 (c : Bool) : List Tk := match c with
 | true => (cat tp61 (cat tp74 (cat [.go] (cat tp42 (cat tp77 (cat tp62 (cat tp43 tp78)))))))
 | false => (cat tp63 (cat tp74 (cat tp15 (cat tp42 (cat tp77 (cat tp64 (cat tp43 tp78)))))))
theorem or_021 {PT : Nat → Option Obj} {w : World} {b c : Bool} {n t R eR : Nat} {S0 S1 S2 : Sl} {om : Om} :
  chk [4] (runC PySem.W.Fast.mineEnt1 (vwP PT (W1 b (Wc c w)) n t [R] (fun _ => []) (fun om => orXs R eR S0 S1 S2 0 2 1 t om) om 760 6800) 1000 (.call (.ref 274) ⟨[.ref R],[]⟩) true (tpOror_021 c) [rsO S0 S1 S2 eR])
   ⟨.fin (.ok (.ret (.ref (n + 4)))),om 8 0,4,om 8 1,0,[some (n + 4,lst [.int 0 (t + 8),.int 2 (om 4 1 + 0),.int 1 (om 6 1 + 0)] 3)],[rsO S0 S1 S2 eR],[]⟩ := by
 unfold chk
 cases b <;> cases c <;> kernel_rfl
noncomputable def tpOror_102 (c : Bool) : List Tk := match c with
 | true => (cat tp79 (cat tp80 (cat [.go] (cat tp81 (cat tp62 (cat tp43 tp76))))))
 | false => (cat tp82 (cat tp80 (cat tp15 (cat tp81 (cat tp64 (cat tp43 tp76))))))
theorem or_102 {PT : Nat → Option Obj} {w : World} {b c : Bool} {n t R eR : Nat} {S0 S1 S2 : Sl} {om : Om} :
  chk [4] (runC PySem.W.Fast.mineEnt1 (vwP PT (W1 b (Wc c w)) n t [R] (fun _ => []) (fun om => orXs R eR S0 S1 S2 1 0 2 t om) om 760 6800) 1000 (.call (.ref 274) ⟨[.ref R],[]⟩) true (tpOror_102 c) [rsO S0 S1 S2 eR])
   ⟨.fin (.ok (.ret (.ref (n + 4)))),om 8 0,4,om 8 1,0,[some (n + 4,lst [.int 1 (om 0 1 + 0),.int 0 (om 2 1 + 5),.int 2 (om 7 1 + 0)] 3)],[rsO S0 S1 S2 eR],[]⟩ := by
 unfold chk
 cases b <;> cases c <;> kernel_rfl
noncomputable def tpOror_120 (c : Bool) : List Tk := match c with
 | true => (cat tp79 (cat tp83 (cat [.go] (cat tp81 (cat tp62 (cat tp43 tp78))))))
 | false => (cat tp82 (cat tp83 (cat tp15 (cat tp81 (cat tp64 (cat tp43 tp78))))))
theorem or_120 {PT : Nat → Option Obj} {w : World} {b c : Bool} {n t R eR : Nat} {S0 S1 S2 : Sl} {om : Om} :
  chk [4] (runC PySem.W.Fast.mineEnt1 (vwP PT (W1 b (Wc c w)) n t [R] (fun _ => []) (fun om => orXs R eR S0 S1 S2 1 2 0 t om) om 760 6800) 1000 (.call (.ref 274) ⟨[.ref R],[]⟩) true (tpOror_120 c) [rsO S0 S1 S2 eR])
   ⟨.fin (.ok (.ret (.ref (n + 4)))),om 8 0,4,om 8 1,0,[some (n + 4,lst [.int 2 (om 1 1 + 0),.int 0 (om 2 1 + 5),.int 1 (om 6 1 + 0)] 3)],[rsO S0 S1 S2 eR],[]⟩ := by
 unfold chk
 cases b <;> cases c <;> kernel_rfl
noncomputable def tpOror_201 (c : Bool) : List Tk := match c with
 | true => (cat tp79 (cat tp80 (cat [.go] (cat tp42 (cat tp77 (cat tp62 tp84))))))
 | false => (cat tp82 (cat tp80 (cat tp15 (cat tp42 (cat tp77 (cat tp64 tp84))))))
theorem or_201 {PT : Nat → Option Obj} {w : World} {b c : Bool} {n t R eR : Nat} {S0 S1 S2 : Sl} {om : Om} :
  chk [4] (runC PySem.W.Fast.mineEnt1 (vwP PT (W1 b (Wc c w)) n t [R] (fun _ => []) (fun om => orXs R eR S0 S1 S2 2 0 1 t om) om 760 6800) 1000 (.call (.ref 274) ⟨[.ref R],[]⟩) true (tpOror_201 c) [rsO S0 S1 S2 eR])
   ⟨.fin (.ok (.ret (.ref (n + 4)))),om 8 0,4,om 8 1,0,[some (n + 4,lst [.int 1 (om 0 1 + 0),.int 2 (om 4 1 + 0),.int 0 (om 5 1 + 5)] 3)],[rsO S0 S1 S2 eR],[]⟩ := by
 unfold chk
 cases b <;> cases c <;> kernel_rfl
noncomputable def tpOror_210 (c : Bool) : List Tk := match c with
 | true => (cat tp79 (cat tp83 (cat [.go] (cat tp42 (cat tp75 (cat tp62 tp84))))))
 | false => (cat tp82 (cat tp83 (cat tp15 (cat tp42 (cat tp75 (cat tp64 tp84))))))
theorem or_210 {PT : Nat → Option Obj} {w : World} {b c : Bool} {n t R eR : Nat} {S0 S1 S2 : Sl} {om : Om} :
  chk [4] (runC PySem.W.Fast.mineEnt1 (vwP PT (W1 b (Wc c w)) n t [R] (fun _ => []) (fun om => orXs R eR S0 S1 S2 2 1 0 t om) om 760 6800) 1000 (.call (.ref 274) ⟨[.ref R],[]⟩) true (tpOror_210 c) [rsO S0 S1 S2 eR])
   ⟨.fin (.ok (.ret (.ref (n + 4)))),om 8 0,4,om 8 1,0,[some (n + 4,lst [.int 2 (om 1 1 + 0),.int 1 (om 3 1 + 0),.int 0 (om 5 1 + 5)] 3)],[rsO S0 S1 S2 eR],[]⟩ := by
 unfold chk
 cases b <;> cases c <;> kernel_rfl
section
variable {PT PT' : Nat → Option Obj} {w : World} {S0 S1 S2 : Sl}
theorem order_case {R eR : Nat} {p0 p1 p2 a0 a1 a2 : Int} {k0 k1 k2 : Nat → Om → Nat} {tp : Bool → List Tk} (l2 : lkP PT' w.params R = none)
  (P0 : ∀ ti,XOkP PT' w (placeX R eR S0 S1 S2 0 ti p0)) (P1 : ∀ ti,XOkP PT' w (placeX R eR S0 S1 S2 1 ti p1)) (P2 : ∀ ti,XOkP PT' w (placeX R eR S0 S1 S2 2 ti p2))
  (H : ∀ b c n t om,chk [4] (runC PySem.W.Fast.mineEnt1 (vwP PT' (W1 b (Wc c w)) n t [R] (fun _ => []) (fun om => orXs R eR S0 S1 S2 p0 p1 p2 t om) om 760 6800) 1000 (.call (.ref 274) ⟨[.ref R],[]⟩) true (tp c) [rsO S0 S1 S2 eR])
   ⟨.fin (.ok (.ret (.ref (n + 4)))),om 8 0,4,om 8 1,0,[some (n + 4,lst [.int a0 (k0 t om),.int a1 (k1 t om),.int a2 (k2 t om)] 3)],[rsO S0 S1 S2 eR],[]⟩) : XOkP PT' w (orderX R eR S0 S1 S2 a0 a1 a2) := by
 have z := mk_xokP (PT := PT') (w := w) (fun _ => ent1_ok) entQ1_eq (code := .call (.ref 274) ⟨[.ref R],[]⟩) (L := [R]) (U := [rsO S0 S1 S2 eR]) (res := fun ω => .ok (.ret (.ref (ω 2)))) (U' := fun _ => [rsO S0 S1 S2 eR])
  (news := fun ω => [(ω 2,lst [.int a0 (ω 3),.int a1 (ω 4),.int a2 (ω 5)] 3)]) (ks := [4]) (dm := 760) (um := 6800) (N := 1000) (e := true) (tp := tp (w.params.followText "comprehension-iter-twice"))
  (cs := fun _ _ _ _ => []) (xs := fun _ _ t om => orXs R eR S0 S1 S2 p0 p1 p2 t om) (ω := fun n t om => fun | 0 => om 8 0 + 4 | 1 => om 8 1 + 0 | 2 => n + 4 | 3 => k0 t om | 4 => k1 t om | _ => k2 t om)
  (x := fun _ n t om => ⟨.fin (.ok (.ret (.ref (n + 4)))),om 8 0,4,om 8 1,0,[some (n + 4,lst [.int a0 (k0 t om),.int a1 (k1 t om),.int a2 (k2 t om)] 3)],[rsO S0 S1 S2 eR],[]⟩)
  (by simp) (ac l2 an) rfl (fun _ => rfl) rfl (by decide) (by decide) (fun n t om _ C hC => by cases hC) (fun n t om _ C hC => by
    revert C
    refine ac ?_ (ac ?_ (ac ?_ (ac ?_ (ac ?_ (ac ?_ (ac ?_ (ac ?_ (ac ?_ (an)))))))))
    ·exact P0 _
    ·exact P1 _
    ·exact P2 _
    ·exact P0 _
    ·exact P1 _
    ·exact P2 _
    ·exact P0 _
    ·exact P1 _
    ·exact P2 _) (fun b n t om => by
   have := H b (w.params.followText "comprehension-iter-twice") n t om
   rw [Wc_eq] at this
   exact this) (fun n t om => ⟨rfl,rfl,rfl,rfl,fun p hp => by
    rw [List.mem_singleton] at hp
    subst hp
    exact .inl (List.mem_singleton.mpr rfl)⟩)
 exact xdrop_ok z fun ω => rfl
noncomputable def pls (p q r : Int) : List Nat := [plz 0 0 (-p) (-q),plz 1 p 0 (-r),plz 2 q r 0]
noncomputable def ordOf (p q r : Int) : List Nat := (List.range 3).map fun k => (pls p q r).idxOf k
theorem weak_perm {p q r : Int} (h : weak p q r = true) : (pls p q r,ordOf p q r) ∈ ([([0,1,2],[0,1,2]),([0,2,1],[0,2,1]),([1,0,2],[1,0,2]),([1,2,0],[2,0,1]),([2,0,1],[1,2,0]),([2,1,0],[2,1,0])] : List (List Nat × List Nat)) := by
 have h' := of_decide_eq_true h
 simp only [List.mem_cons,List.not_mem_nil,or_false,Prod.mk.injEq] at h'
 rcases h' with ⟨rfl,rfl,rfl⟩ | ⟨rfl,rfl,rfl⟩ | ⟨rfl,rfl,rfl⟩ | ⟨rfl,rfl,rfl⟩ | ⟨rfl,rfl,rfl⟩ | ⟨rfl,rfl,rfl⟩ | ⟨rfl,rfl,rfl⟩ | ⟨rfl,rfl,rfl⟩ | ⟨rfl,rfl,rfl⟩ | ⟨rfl,rfl,rfl⟩ | ⟨rfl,rfl,rfl⟩ | ⟨rfl,rfl,rfl⟩ | ⟨rfl,rfl,rfl⟩ <;> decide
theorem order_ok (I : Trio PT PT' S0 S1 S2) {R eR : Nat} (l2 : lkP PT' w.params R = none) : ∃ a b c,ordOf (sgn S0.ks S1.ks) (sgn S0.ks S2.ks) (sgn S1.ks S2.ks) = [a,b,c] ∧ XOkP PT' w (orderX R eR S0 S1 S2 a b c) := by
 have W := weak_perm (sgn_weak S0.ks S1.ks S2.ks)
 have P0 := fun ti => place_0 (w := w) (eR := eR) (ti := ti) I l2
 have P1 := fun ti => place_1 (w := w) (eR := eR) (ti := ti) I l2
 have P2 := fun ti => place_2 (w := w) (eR := eR) (ti := ti) I l2
 rw [sgn_same',sgn_anti S0.ks S1.ks,sgn_anti S0.ks S2.ks] at P0
 rw [sgn_same',sgn_anti S1.ks S2.ks] at P1
 rw [sgn_same'] at P2
 generalize sgn S0.ks S1.ks = p at *
 generalize sgn S0.ks S2.ks = q at *
 generalize sgn S1.ks S2.ks = r at *
 simp only [List.mem_cons,List.not_mem_nil,or_false,Prod.mk.injEq] at W
 rcases W with ⟨hp,ho⟩ | ⟨hp,ho⟩ | ⟨hp,ho⟩ | ⟨hp,ho⟩ | ⟨hp,ho⟩ | ⟨hp,ho⟩
 ·simp only [pls,List.cons.injEq,and_true] at hp
  obtain ⟨h0,h1,h2⟩ := hp
  rw [h0] at P0; rw [h1] at P1; rw [h2] at P2
  exact ⟨_,_,_,ho,order_case (k0 := fun t om => t + 8) (k1 := fun t om => om 3 1 + 0) (k2 := fun t om => om 7 1 + 0) l2 P0 P1 P2 fun b c n t om => or_012⟩
 ·simp only [pls,List.cons.injEq,and_true] at hp
  obtain ⟨h0,h1,h2⟩ := hp
  rw [h0] at P0; rw [h1] at P1; rw [h2] at P2
  exact ⟨_,_,_,ho,order_case (k0 := fun t om => t + 8) (k1 := fun t om => om 4 1 + 0) (k2 := fun t om => om 6 1 + 0) l2 P0 P1 P2 fun b c n t om => or_021⟩
 ·simp only [pls,List.cons.injEq,and_true] at hp
  obtain ⟨h0,h1,h2⟩ := hp
  rw [h0] at P0; rw [h1] at P1; rw [h2] at P2
  exact ⟨_,_,_,ho,order_case (k0 := fun t om => om 0 1 + 0) (k1 := fun t om => om 2 1 + 5) (k2 := fun t om => om 7 1 + 0) l2 P0 P1 P2 fun b c n t om => or_102⟩
 ·simp only [pls,List.cons.injEq,and_true] at hp
  obtain ⟨h0,h1,h2⟩ := hp
  rw [h0] at P0; rw [h1] at P1; rw [h2] at P2
  exact ⟨_,_,_,ho,order_case (k0 := fun t om => om 1 1 + 0) (k1 := fun t om => om 2 1 + 5) (k2 := fun t om => om 6 1 + 0) l2 P0 P1 P2 fun b c n t om => or_120⟩
 ·simp only [pls,List.cons.injEq,and_true] at hp
  obtain ⟨h0,h1,h2⟩ := hp
  rw [h0] at P0; rw [h1] at P1; rw [h2] at P2
  exact ⟨_,_,_,ho,order_case (k0 := fun t om => om 0 1 + 0) (k1 := fun t om => om 4 1 + 0) (k2 := fun t om => om 5 1 + 5) l2 P0 P1 P2 fun b c n t om => or_201⟩
 ·simp only [pls,List.cons.injEq,and_true] at hp
  obtain ⟨h0,h1,h2⟩ := hp
  rw [h0] at P0; rw [h1] at P1; rw [h2] at P2
  exact ⟨_,_,_,ho,order_case (k0 := fun t om => om 1 1 + 0) (k1 := fun t om => om 3 1 + 0) (k2 := fun t om => om 5 1 + 5) l2 P0 P1 P2 fun b c n t om => or_210⟩
end
end Mine.G
end
section
namespace Mine.G
noncomputable def evalK {α : Type} (L : Nat → Nat → Bool) : KasT α → α
 | .ret a => a
 | .ask i j k => evalK L (k (L i j))
noncomputable def pathOk {α : Type} (L : Nat → Nat → Bool) : KasT α → Bool
 | .ret _ => true
 | .ask i j k => decide (i < 3) && decide (j < 3) && decide (i ≠ j) && pathOk L (k (L i j))
theorem kas_eval {α : Type} {L : Nat → Nat → Bool} {cmp : Nat → Nat → (Bool → Shared → Prop) → Shared → Prop} {St : Shared → Prop} (h : ∀ i j,i < 3 → j < 3 → i ≠ j → ∀ C s,St s → (∀ s',St s' → C (L i j) s') → cmp i j C s) {G : α → Shared → Prop} :
  ∀ (t : KasT α),pathOk L t = true → ∀ s,St s → (∀ s',St s' → G (evalK L t) s') → t.kasWp cmp G s
 | .ret a,_,s,hs,hg => hg s hs
 | .ask i j k,hp,s,hs,hg => by
  simp only [pathOk,Bool.and_eq_true,decide_eq_true_eq] at hp
  exact h i j hp.1.1.1 hp.1.1.2 hp.1.2 _ s hs fun s' hs' => kas_eval h (k (L i j)) hp.2 s' hs' hg
noncomputable def less (p q r : Int) (i j : Nat) : Bool := match i,j with
 | 0,1 => decide (p < 0) | 0,2 => decide (q < 0) | 1,2 => decide (r < 0) | 1,0 => decide (-p < 0) | 2,0 => decide (-q < 0) | 2,1 => decide (-r < 0) | _,_ => false
theorem sort_law {p q r : Int} (h : weak p q r = true) : pathOk (less p q r) (kas_sort 3) = true ∧ (evalK (less p q r) (kas_sort 3)).toList = ordOf p q r := by
 have h' := of_decide_eq_true h
 simp only [List.mem_cons,List.not_mem_nil,or_false,Prod.mk.injEq] at h'
 rcases h' with ⟨rfl,rfl,rfl⟩ | ⟨rfl,rfl,rfl⟩ | ⟨rfl,rfl,rfl⟩ | ⟨rfl,rfl,rfl⟩ | ⟨rfl,rfl,rfl⟩ | ⟨rfl,rfl,rfl⟩ | ⟨rfl,rfl,rfl⟩ | ⟨rfl,rfl,rfl⟩ | ⟨rfl,rfl,rfl⟩ | ⟨rfl,rfl,rfl⟩ | ⟨rfl,rfl,rfl⟩ | ⟨rfl,rfl,rfl⟩ | ⟨rfl,rfl,rfl⟩ <;> decide +kernel
end Mine.G
end
section
namespace Mine.G
noncomputable def sgI (p q r : Int) (i j : Nat) : Int := match i,j with
 | 0,1 => p | 0,2 => q | 1,2 => r | 1,0 => -p | 2,0 => -q | 2,1 => -r | _,_ => 0
noncomputable def stepL (p q r : Int) (i j : Nat) : Nat := bif decide (sgI p q r j i ≥ 0) then j else i
noncomputable def stepR (p q r : Int) (i j : Nat) : Nat := bif decide (sgI p q r i j ≤ 0) then i else j
theorem red_law {p q r : Int} (h : weak p q r = true) : (ordOf p q r)[2]? = some (stepL p q r (stepL p q r 0 1) 2) ∧ (ordOf p q r)[0]? = some (stepR p q r (stepR p q r 0 1) 2) := by
 have h' := of_decide_eq_true h
 simp only [List.mem_cons,List.not_mem_nil,or_false,Prod.mk.injEq] at h'
 rcases h' with ⟨rfl,rfl,rfl⟩ | ⟨rfl,rfl,rfl⟩ | ⟨rfl,rfl,rfl⟩ | ⟨rfl,rfl,rfl⟩ | ⟨rfl,rfl,rfl⟩ | ⟨rfl,rfl,rfl⟩ | ⟨rfl,rfl,rfl⟩ | ⟨rfl,rfl,rfl⟩ | ⟨rfl,rfl,rfl⟩ | ⟨rfl,rfl,rfl⟩ | ⟨rfl,rfl,rfl⟩ | ⟨rfl,rfl,rfl⟩ | ⟨rfl,rfl,rfl⟩ <;> decide +kernel
theorem less_sgI {p q r : Int} (i j : Nat) (hi : i < 3) (hj : j < 3) (h : i ≠ j) : decide (sgI p q r i j < 0) = less p q r i j := by
 match i,j,hi,hj with
 | 0,1,_,_ => rfl
 | 0,2,_,_ => rfl
 | 1,0,_,_ => rfl
 | 1,2,_,_ => rfl
 | 2,0,_,_ => rfl
 | 2,1,_,_ => rfl
 | 0,0,_,_ => exact absurd rfl h
 | 1,1,_,_ => exact absurd rfl h
 | 2,2,_,_ => exact absurd rfl h
end Mine.G
end
section
namespace Mine
section
variable {w : World} {c : Cx} {i : Nat} {sl : List Slot} {k tk gv tn : Nat} {gx gk : List Nat} {eg : Nat} {tv : List Value} {et : Nat} {s : Shared} {A : Around} {Q : Result → Shared → Prop}
noncomputable abbrev Cx.L8 (c : Cx) (S : Slot) : List Nat := [c.fr,c.it,c.N,c.H,c.R,S.dd,S.a,S.r]
noncomputable abbrev Cx.U8 (c : Cx) (f0 : Obj) (i : Nat) (sl : List Slot) (rs : List Value) (S : Slot) (xs : List Value) (ea : Nat) : List Obj := [f0,itO (.ref c.N) i,lst c.nums c.eN,lst (sl.map fun S => .ref S.a) c.eH,lst rs c.eR,dct S.g1 S.t1 S.f S.u S.e1,inst S.dd xs ea,lst S.rv S.er]
noncomputable abbrev rsOf (sl : List Slot) : List Value := sl.map fun S => .ref S.r
theorem St.start8 (I : St w c i sl k tk gv tn gx gk eg tv et s) {S : Slot} (hS : S ∈ sl) {f0 : Obj} (h0 : s.heap.get? c.fr = some f0) : Start w s.heap.objs.size s.toks (c.L8 S) (c.U8 f0 i sl (rsOf sl) S (refs S.xs) S.ea) s := by
 have X := I.slots S hS
 have hsub : List.Sublist [c.fr,c.it,c.N,c.H,c.R,S.dd,S.a] [c.fr,c.it,c.N,c.H,c.R,c.F,S.dd,S.a] := by
  repeat (first | exact List.Sublist.refl _ | apply List.Sublist.cons_cons | apply List.Sublist.cons)
 refine start_two (I.ndx hS (I.offr S hS) hsub) (I.lowx hS (I.lowr S hS) hsub) rfl I.lit ?_
 intro p hp
 revert p
 refine zc ?_ (zc ?_ (zc ?_ (zc ?_ (zc ?_ (zc ?_ (zc ?_ (zc ?_ (zn))))))))
 ·exact h0
 ·exact I.iter
 ·exact I.nums
 ·exact I.heaps
 ·exact I.rows
 ·exact X.dct
 ·exact X.inst
 ·exact X.row
section
variable {S : Slot} {f0 f1 : Obj} {ks : List Nat} {x' : Rslt} {s' : Shared} {rs' xs' : List Value} {ea' : Nat}
theorem St.keep8 (I : St w c i sl k tk gv tn gx gk eg tv et s) (hS : S ∈ sl) (h0 : s.heap.get? c.fr = some f0) (hU : x'.U = c.U8 f1 (i + 1) sl rs' S xs' ea') (B : Behind s s' s.heap.objs.size s.toks (c.L8 S) ks x') :
  ∀ (b : Nat) o,s.heap.get? b = some o → b ∉ [c.fr,c.it,c.R,S.a] → s'.heap.get? b = some o := by
 intro b o hb hn
 refine B.but (I.start8 hS h0) (Ch := [c.fr,c.it,c.R,S.a]) ?_ hb hn
 rw [hU]
 exact ⟨.inl (by simp),.inl (by simp),.inr rfl,.inr rfl,.inl (by simp),.inr rfl,.inl (by simp),.inr rfl,trivial⟩
theorem St.keepP (I : St w c i sl k tk gv tn gx gk eg tv et s) (hS : S ∈ sl) (h0 : s.heap.get? c.fr = some f0) (hU : x'.U = c.U8 f1 (i + 1) sl rs' S xs' ea') (B : Behind s s' s.heap.objs.size s.toks (c.L8 S) ks x') :
  ∀ x k t,s.heap.get? x = some (piece k t) → s'.heap.get? x = some (piece k t) := fun x k t h =>
 I.keep8 hS h0 hU B x _ h fun hm => I.noPiece h (St.in8 hS (in48 hm))
theorem St.fin8 (I : St w c i sl k tk gv tn gx gk eg tv et s) (hSk : sl[k]? = some S) (h0 : s.heap.get? c.fr = some f0) {xn : List Nat} {j : Nat} (hU : x'.U = c.U8 f1 (i + 1) sl ((rsOf sl).set k (.ref (s.heap.objs.size + j))) S (refs xn) ea')
  (B : Behind s s' s.heap.objs.size s.toks (c.L8 S) ks x') {gv' tn' : Nat} {gx' gk' kn : List Nat} {eg' : Nat} {tv' rv' : List Value} {et' : Nat} (h1 : FrAt c gv' tn' (k : Int) tk f1)
  (hrow : s'.heap.get? (s.heap.objs.size + j) = some (lst rv' 0)) (hp : Pcs s'.heap xn kn) (hr : Ints rv' kn)
  (hg : s'.heap.get? gv' = some (lst (refs gx') eg')) (hgp : Pcs s'.heap gx' gk') (ht : s'.heap.get? tn' = some (lst tv' et')) (hti : Ints tv' gk')
  (og : gv' ∉ c.fx sl) (ot : tn' ∉ c.fx sl) (lg : 281 ≤ gv') (lt : 281 ≤ tn') (ln : xn.length ≤ 2 + (i + 1)) (lgx : gx'.length ≤ 2 + (i + 1)) (lpx : ∀ x ∈ xn,281 ≤ x) (lwx : ∀ x ∈ gx',281 ≤ x) :
  St w c (i + 1) (sl.set k { S with xs := xn,ea := ea',r := s.heap.objs.size + j,rv := rv',er := 0,ks := kn }) k tk gv' tn' gx' gk' eg' tv' et' s' := by
 have hS : S ∈ sl := List.mem_of_getElem? hSk
 have X := I.slots S hS
 have nd8 := I.nd8 hS
 have keep := I.keep8 hS h0 hU B
 refine I.step hSk rfl rfl (fun b o hb hn => keep b o hb fun hm => hn (in46 hm)) ⟨f1,B.old 0 _ _ rfl (by rw [hU]; rfl),h1⟩ (B.old 1 _ _ rfl (by rw [hU]; rfl)) ?_ ?_ ⟨B.old 6 _ _ rfl (by rw [hU]; rfl),B.old 5 _ _ rfl (by rw [hU]; rfl),hrow,hp,hr,lpx,X.fb⟩ hg hgp ht hti (I.new j) og ot ?_ lg lt ln lgx lwx
 ·rw [map_set]
  exact B.old 4 _ _ rfl (by rw [hU]; rfl)
 ·have e : (sl.set k { S with xs := xn,ea := ea',r := s.heap.objs.size + j,rv := rv',er := 0,ks := kn }).map (fun S => Value.int S.f S.fu) = sl.map fun S => Value.int S.f S.fu := by
   rw [map_set]
   refine set_same ?_
   rw [List.getElem?_map,hSk]; rfl
  rw [e]
  exact keep _ _ I.firsts (nd8F nd8)
 ·show 281 ≤ s.heap.objs.size + j
  have := I.low _ (St.mem2 hS).1
  have h2 : @LT.lt Nat _ S.a s.heap.objs.size := Heap.lt_size X.inst
  lia
end
theorem St.slot (I : St w c i sl k tk gv tn gx gk eg tv et s) : ∃ S,sl[k]? = some S :=
 ⟨sl[k]'(by rw [I.len3]; exact I.turn),List.getElem?_eq_getElem _⟩
theorem St.ne (I : St w c i sl k tk gv tn gx gk eg tv et s) {S : Slot} (hS : S ∈ sl) : S.dd ≠ S.a := by
 have := ((I.nd8 hS).sublist (l₁ := [S.dd,S.a]) (by repeat (first | exact List.Sublist.refl _ | apply List.Sublist.cons)))
 simpa using this
theorem slice_init {xs : List Value} : slicePick xs.toArray none (some (-1)) none = xs.dropLast.toArray := by
 have hb : sliceBounds none (some (-1)) none xs.toArray.size = (((0 : Nat) : Int),((xs.length - 1 : Nat) : Int),1) := by
  simp only [sliceBounds]
  simp
  exact bndI _
 rw [pick_one none (some (-1)) xs.toArray 0 (xs.length - 1) hb (by lia) (by simp)]
 simp [List.dropLast_eq_take]
theorem refs_last {xs : List Nat} (h : xs ≠ []) : refs xs = refs xs.dropLast ++ [.ref (xs.getLast h)] := by
 rw [← refs_snoc,List.dropLast_concat_getLast h]
theorem All2.init {α β : Type} {R : α → β → Prop} {l : List α} {m : List β} (h : All2 R l m) : All2 R l.dropLast m.dropLast := by
 rw [List.dropLast_eq_take,List.dropLast_eq_take,← h.length]
 exact h.take _
theorem step6 (I : St w c i sl k tk gv tn gx gk eg tv et s) (hn : c.nums.length ≤ 12) (hd : A.depth ≤ 500) (hu : A.units ≤ 5000) (hh : A.handled = none) {x : Int} {tx : Nat} (hx : c.nums[i]? = some (.int x tx)) (h9 : x.fmod 10 = 6)
  {S : Slot} (hSk : sl[k]? = some S) (hxs : S.xs ≠ [])
  (q : ∀ s' sl',St w c (i + 1) sl' k tk gv tn gx gk eg tv et s' → (AllBare s.gens → AllBare s'.gens) → s'.os = s.os → codeAny (model prg w) A (forD c.fr c.it) Q s') : codeAny (model prg w) A (forD c.fr c.it) Q s := by
 have hi : i < 12 := by
  have := (List.getElem?_eq_some_iff.mp hx).1
  lia
 have hk3 := I.turn
 have hS : S ∈ sl := List.mem_of_getElem? hSk
 have X := I.slots S hS
 have hlen := I.lens S hS
 have e1 := X.rint.length
 have e2 := X.pcs.length
 have CO : ∀ C ∈ [nxt c.it c.N c.eN i c.nums x tx,modC x tx 10 (s.toks + 1) 6,getC c.H c.eH lsC none (sl.map fun S => .ref S.a) k tk (.ref S.a),popM S.dd S.a (dct S.g1 S.t1 S.f S.u S.e1) (refs S.xs.dropLast) (S.xs.getLast hxs) S.ea,getC c.R c.eR lsC none (rsOf sl) k tk (.ref S.r),sliceC S.r (s.heap.objs.size + 6) lsC none S.er S.rv .none (.int (-1) (s.toks + 13)) S.rv.dropLast,setC c.R c.eR lsC none (rsOf sl) k tk (.ref (s.heap.objs.size + 7)) ((rsOf sl).set k (.ref (s.heap.objs.size + 7)))],CtrOk w C := by
  intro C hC
  revert C
  refine ac ?_ (ac ?_ (ac ?_ (ac ?_ (ac ?_ (ac ?_ (ac ?_ (an)))))))
  ·exact next_ok hx
  ·exact mod_ok (by decide) h9
  ·exact get_ok (by lia) (kLow hk3) (getR hSk _)
  ·exact popM_ok (by rw [refs_length,List.length_dropLast]; lia) (I.low _ (St.mem2 hS).2) (I.low _ (St.mem2 hS).1) (I.ne hS)
  ·exact get_ok (by lia) (kLow hk3) (getR hSk _)
  ·exact slice_ok (by lia) .none (.int _ _) slice_init
  ·exact set_ok (by lia) (kLow hk3) (by simp [I.len3]; lia) (by simp)
 have fin : ∀ (f0 f1 : Obj) (x' : Rslt) (s' : Shared),s.heap.get? c.fr = some f0 → FrAt c gv tn (k : Int) tk f1 →
   x'.U = c.U8 f1 (i + 1) sl ((rsOf sl).set k (.ref (s.heap.objs.size + 7))) S (refs S.xs.dropLast) (S.ea + 1) → x'.T = [some (lst S.rv.dropLast 0)] →
   Behind s s' s.heap.objs.size s.toks (c.L8 S) [7] x' → codeAny (model prg w) A (forD c.fr c.it) Q s' := by
  intro f0 f1 x' s' h0 h1 hU hT B
  have keep := I.keep8 hS h0 hU B
  have hp := I.keepP hS h0 hU B
  have off : ∀ b : Nat,b ∉ c.fx sl → b ∉ [c.fr,c.it,c.R,S.a] := fun b hb hm => hb (St.in8 hS (in48 hm))
  refine q s' _ (I.fin8 hSk h0 hU B (kn := S.ks.dropLast) h1 (B.own 0 7 _ rfl (by rw [hT]; rfl)).2 (All2.init (X.pcs.mono hp)) (All2.init X.rint) (keep _ _ I.gave (off _ I.offg)) (I.gpcs.mono hp) (keep _ _ I.taken (off _ I.offt)) I.tints I.offg I.offt I.lowg I.lowt ?_ ?_ (fun x hx => X.lowp x (List.dropLast_subset _ hx)) I.lowgx) B.bare B.os
  ·rw [List.length_dropLast]; lia
  ·have := I.leng; lia
 obtain ⟨o,ho,hf⟩ := I.frame
 have st8 := I.start8 hS ho
 rw [refs_last hxs] at st8
 rcases hf with ⟨h,qq,rfl⟩ | ⟨h,qq,x0,tx0,d0,td0,rfl⟩
 ·have h1 := turn6a (w := w) (n := s.heap.objs.size) (t := s.toks) (fr := c.fr) (it := c.it) (N := c.N) (H := c.H) (R := c.R) (F := c.F) (gv := gv) (tn := tn) (i := i) (e := c.eN) (tk := tk) (tx := tx) (h := h) (q := qq) (k := (k : Int)) (x := x) (nums := c.nums) (hs := sl.map fun S => .ref S.a) (rs := rsOf sl) (eh := c.eH) (er := c.eR) (a := S.a) (dd := S.dd) (r := S.r) (g1 := S.g1) (f1 := S.f) (t1 := S.t1) (u := S.u) (e1 := S.e1) (xs := refs S.xs.dropLast) (ea := S.ea) (row := S.rv) (row' := S.rv.dropLast) (rs' := fun v => (rsOf sl).set k (.ref v)) (el := S.er) (p := S.xs.getLast hxs) (fs := []) (ef := 0)
  refine run_code st8 CO hd hu hh forD_ok (by decide) h1 fun s' B => ⟨rfl,?_⟩
  exact fin _ _ _ s' ho (.inr ⟨_,_,_,_,_,_,rfl⟩) rfl rfl B
 ·have h1 := turn6b (w := w) (n := s.heap.objs.size) (t := s.toks) (fr := c.fr) (it := c.it) (N := c.N) (H := c.H) (R := c.R) (F := c.F) (gv := gv) (tn := tn) (i := i) (e := c.eN) (tk := tk) (tx := tx) (h := h) (q := qq) (k := (k : Int)) (x := x) (nums := c.nums) (hs := sl.map fun S => .ref S.a) (rs := rsOf sl) (eh := c.eH) (er := c.eR) (a := S.a) (dd := S.dd) (r := S.r) (g1 := S.g1) (f1 := S.f) (t1 := S.t1) (u := S.u) (e1 := S.e1) (xs := refs S.xs.dropLast) (ea := S.ea) (row := S.rv) (row' := S.rv.dropLast) (rs' := fun v => (rsOf sl).set k (.ref v)) (el := S.er) (p := S.xs.getLast hxs) (fs := []) (ef := 0) (x0 := x0) (d0 := d0) (tx0 := tx0) (td0 := td0)
  refine run_code st8 CO hd hu hh forD_ok (by decide) h1 fun s' B => ⟨rfl,?_⟩
  exact fin _ _ _ s' ho (.inr ⟨_,_,_,_,_,_,rfl⟩) rfl rfl B
end
end Mine
end
section
namespace Mine
theorem pick_from (xs : List Value) (k : Nat) : slicePick xs.toArray (some (k : Int)) none none = (xs.drop k).toArray := by
 rw [pick_one (some (k : Int)) none xs.toArray (min k xs.length) xs.length (by rw [bounds_from]; simp) (by lia) (by simp)]
 rw [List.take_of_length_le (by simp)]
 rcases Nat.lt_or_ge xs.length k with q | q
 ·rw [Nat.min_eq_right (by lia),List.drop_of_length_le (by simp),List.drop_of_length_le (by lia)]
 ·rw [Nat.min_eq_left q]
theorem bounds_to {n k : Nat} : sliceBounds none (some (k : Int)) none n = (((0 : Nat) : Int),((min k n : Nat) : Int),1) := by
 simp only [sliceBounds]
 simp
 lia
theorem pick_to (xs : List Value) (k : Nat) : slicePick xs.toArray none (some (k : Int)) none = (xs.take k).toArray := by
 rw [pick_one none (some (k : Int)) xs.toArray 0 (min k xs.length) (by rw [bounds_to]; simp) (by lia) (by simp; lia)]
 rw [List.drop_zero,Nat.sub_zero]
 rcases Nat.lt_or_ge xs.length k with q | q
 ·rw [Nat.min_eq_right (by lia),List.take_of_length_le (by simp),List.take_of_length_le (by lia)]
 ·rw [Nat.min_eq_left q]
theorem refs_take (xs : List Nat) (k : Nat) : (refs xs).take k = refs (xs.take k) := by simp [refs]
theorem refs_drop (xs : List Nat) (k : Nat) : (refs xs).drop k = refs (xs.drop k) := by simp [refs]
section
variable {w : World} {c : Cx} {i : Nat} {sl : List Slot} {k tk gv tn : Nat} {gx gk : List Nat} {eg : Nat} {tv : List Value} {et : Nat} {s : Shared} {A : Around} {Q : Result → Shared → Prop}
theorem step60 (I : St w c i sl k tk gv tn gx gk eg tv et s) (hn : c.nums.length ≤ 12) (hd : A.depth ≤ 500) (hu : A.units ≤ 5000) (hh : A.handled = none) {x : Int} {tx : Nat} (hx : c.nums[i]? = some (.int x tx)) (h9 : x.fmod 10 = 6)
  {S : Slot} (hSk : sl[k]? = some S) (hxs : S.xs = [])
  (q : ∀ s' sl',St w c (i + 1) sl' k tk gv tn gx gk eg tv et s' → (AllBare s.gens → AllBare s'.gens) → s'.os = s.os → codeAny (model prg w) A (forD c.fr c.it) Q s') : codeAny (model prg w) A (forD c.fr c.it) Q s := by
 have hi : i < 12 := by
  have := (List.getElem?_eq_some_iff.mp hx).1
  lia
 have hk3 := I.turn
 have hS : S ∈ sl := List.mem_of_getElem? hSk
 have X := I.slots S hS
 have hlen := I.lens S hS
 have e1 := X.rint.length
 have e2 := X.pcs.length
 have hks : S.ks = [] := by
  rw [hxs] at e2
  exact List.length_eq_zero_iff.mp e2.symm
 have hrv : S.rv = [] := by
  rw [hks] at e1
  exact List.length_eq_zero_iff.mp e1
 have CO : ∀ C ∈ [nxt c.it c.N c.eN i c.nums x tx,modC x tx 10 (s.toks + 1) 6,getC c.H c.eH lsC none (sl.map fun S => .ref S.a) k tk (.ref S.a),popM0 S.dd S.a (dct S.g1 S.t1 S.f S.u S.e1) S.ea,getC c.R c.eR lsC none (rsOf sl) k tk (.ref S.r),sliceC S.r (s.heap.objs.size + 5) lsC none S.er S.rv .none (.int (-1) (s.toks + 14)) S.rv.dropLast,setC c.R c.eR lsC none (rsOf sl) k tk (.ref (s.heap.objs.size + 6)) ((rsOf sl).set k (.ref (s.heap.objs.size + 6)))],CtrOk w C := by
  intro C hC
  revert C
  refine ac ?_ (ac ?_ (ac ?_ (ac ?_ (ac ?_ (ac ?_ (ac ?_ (an)))))))
  ·exact next_ok hx
  ·exact mod_ok (by decide) h9
  ·exact get_ok (by lia) (kLow hk3) (getR hSk _)
  ·exact popM0_ok (I.low _ (St.mem2 hS).2) (I.low _ (St.mem2 hS).1) (I.ne hS)
  ·exact get_ok (by lia) (kLow hk3) (getR hSk _)
  ·exact slice_ok (by lia) .none (.int _ _) slice_init
  ·exact set_ok (by lia) (kLow hk3) (by simp [I.len3]; lia) (by simp)
 have fin : ∀ (f0 f1 : Obj) (x' : Rslt) (s' : Shared),s.heap.get? c.fr = some f0 → FrAt c gv tn (k : Int) tk f1 →
   x'.U = c.U8 f1 (i + 1) sl ((rsOf sl).set k (.ref (s.heap.objs.size + 6))) S (refs []) S.ea → x'.T = [some (lst S.rv.dropLast 0)] →
   Behind s s' s.heap.objs.size s.toks (c.L8 S) [6] x' → codeAny (model prg w) A (forD c.fr c.it) Q s' := by
  intro f0 f1 x' s' h0 h1 hU hT B
  have keep := I.keep8 hS h0 hU B
  have hp := I.keepP hS h0 hU B
  have off : ∀ b : Nat,b ∉ c.fx sl → b ∉ [c.fr,c.it,c.R,S.a] := fun b hb hm => hb (St.in8 hS (in48 hm))
  refine q s' _ (I.fin8 hSk h0 hU B (kn := []) h1 (B.own 0 6 _ rfl (by rw [hT]; rfl)).2 .nil (by rw [hrv]; exact .nil) (keep _ _ I.gave (off _ I.offg)) (I.gpcs.mono hp) (keep _ _ I.taken (off _ I.offt)) I.tints I.offg I.offt I.lowg I.lowt ?_ ?_ (fun x hx => nomatch hx) I.lowgx) B.bare B.os
  ·simp
  ·have := I.leng; lia
 obtain ⟨o,ho,hf⟩ := I.frame
 have st8 := I.start8 hS ho
 rw [hxs] at st8
 rcases hf with ⟨h,qq,rfl⟩ | ⟨h,qq,x0,tx0,d0,td0,rfl⟩
 ·have h1 := turn60a (w := w) (n := s.heap.objs.size) (t := s.toks) (fr := c.fr) (it := c.it) (N := c.N) (H := c.H) (R := c.R) (F := c.F) (gv := gv) (tn := tn) (i := i) (e := c.eN) (tk := tk) (tx := tx) (h := h) (q := qq) (k := (k : Int)) (x := x) (nums := c.nums) (hs := sl.map fun S => .ref S.a) (rs := rsOf sl) (eh := c.eH) (er := c.eR) (a := S.a) (dd := S.dd) (r := S.r) (g1 := S.g1) (f1 := S.f) (t1 := S.t1) (u := S.u) (e1 := S.e1) (ea := S.ea) (row := S.rv) (row' := S.rv.dropLast) (rs' := fun v => (rsOf sl).set k (.ref v)) (el := S.er) (fs := []) (ef := 0) (p := 0) (xs := [])
  refine run_code st8 CO hd hu hh forD_ok (by decide) h1 fun s' B => ⟨rfl,?_⟩
  exact fin _ _ _ s' ho (.inr ⟨_,_,_,_,_,_,rfl⟩) rfl rfl B
 ·have h1 := turn60b (w := w) (n := s.heap.objs.size) (t := s.toks) (fr := c.fr) (it := c.it) (N := c.N) (H := c.H) (R := c.R) (F := c.F) (gv := gv) (tn := tn) (i := i) (e := c.eN) (tk := tk) (tx := tx) (h := h) (q := qq) (k := (k : Int)) (x := x) (nums := c.nums) (hs := sl.map fun S => .ref S.a) (rs := rsOf sl) (eh := c.eH) (er := c.eR) (a := S.a) (dd := S.dd) (r := S.r) (g1 := S.g1) (f1 := S.f) (t1 := S.t1) (u := S.u) (e1 := S.e1) (ea := S.ea) (row := S.rv) (row' := S.rv.dropLast) (rs' := fun v => (rsOf sl).set k (.ref v)) (el := S.er) (fs := []) (ef := 0) (p := 0) (x0 := x0) (d0 := d0) (tx0 := tx0) (td0 := td0) (xs := [])
  refine run_code st8 CO hd hu hh forD_ok (by decide) h1 fun s' B => ⟨rfl,?_⟩
  exact fin _ _ _ s' ho (.inr ⟨_,_,_,_,_,_,rfl⟩) rfl rfl B
theorem step7 (I : St w c i sl k tk gv tn gx gk eg tv et s) (hn : c.nums.length ≤ 12) (hd : A.depth ≤ 500) (hu : A.units ≤ 5000) (hh : A.handled = none) {x : Int} {tx : Nat} (hx : c.nums[i]? = some (.int x tx)) (h9 : x.fmod 10 = 7)
  (q : ∀ s' sl' gv' tn' gx' gk' eg' tv' et',St w c (i + 1) sl' k tk gv' tn' gx' gk' eg' tv' et' s' → (AllBare s.gens → AllBare s'.gens) → s'.os = s.os → codeAny (model prg w) A (forD c.fr c.it) Q s') : codeAny (model prg w) A (forD c.fr c.it) Q s := by
 have hi : i < 12 := by
  have := (List.getElem?_eq_some_iff.mp hx).1
  lia
 have hk3 := I.turn
 obtain ⟨S,hSk⟩ := I.slot
 have hS : S ∈ sl := List.mem_of_getElem? hSk
 have X := I.slots S hS
 have hlen := I.lens S hS
 have e1 := X.rint.length
 have e2 := X.pcs.length
 obtain ⟨z,hz4,hz⟩ : ∃ z : Nat,z < 4 ∧ (x.fdiv 10).fmod 4 = (z : Int) := by
  have h0 := Int.fmod_nonneg_of_pos (x.fdiv 10) (show (0 : Int) < 4 by decide)
  have h4 := Int.fmod_lt_of_pos (x.fdiv 10) (show (0 : Int) < 4 by decide)
  exact ⟨((x.fdiv 10).fmod 4).toNat,by lia,by lia⟩
 let ea' := if ((refs S.xs).take z).length = (refs S.xs).length then S.ea else S.ea + 1
 have CO : ∀ C ∈ [nxt c.it c.N c.eN i c.nums x tx,modC x tx 10 (s.toks + 1) 7,getC c.H c.eH lsC none (sl.map fun S => .ref S.a) k tk (.ref S.a),fromM S.dd S.a (dct S.g1 S.t1 S.f S.u S.e1) (z : Int) (s.toks + 10) (refs S.xs) (refs (S.xs.take z)) (refs (S.xs.drop z)) S.ea ea',getC c.R c.eR lsC none (rsOf sl) k tk (.ref S.r),
   modC (x.fdiv 10) (s.toks + 8) 4 (s.toks + 9) (z : Int),modC (x.fdiv 10) (s.toks + 16) 4 (s.toks + 17) (z : Int),sliceC S.r (s.heap.objs.size + 5) lsC none S.er S.rv (.int (z : Int) (s.toks + 18)) .none (S.rv.drop z),modC (x.fdiv 10) (s.toks + 21) 4 (s.toks + 22) (z : Int),sliceC S.r (s.heap.objs.size + 7) lsC none S.er S.rv .none (.int (z : Int) (s.toks + 23)) (S.rv.take z),setC c.R c.eR lsC none (rsOf sl) k tk (.ref (s.heap.objs.size + 8)) ((rsOf sl).set k (.ref (s.heap.objs.size + 8)))],CtrOk w C := by
  intro C hC
  revert C
  refine ac ?_ (ac ?_ (ac ?_ (ac ?_ (ac ?_ (ac ?_ (ac ?_ (ac ?_ (ac ?_ (ac ?_ (ac ?_ (an)))))))))))
  ·exact next_ok hx
  ·exact mod_ok (by decide) h9
  ·exact get_ok (by lia) (kLow hk3) (getR hSk _)
  ·have := fromM_ok (w := w) (dd := S.dd) (a := S.a) (k := z) (tk := s.toks + 10) (hs := S.g1) (t1 := S.t1) (u := S.u) (e1 := S.e1) (f := S.f) (xs := refs S.xs) (e := S.ea) (e' := ea') (by rw [refs_length]; lia) (I.low _ (St.mem2 hS).2) (I.low _ (St.mem2 hS).1) (I.ne hS) rfl
   rw [refs_take,refs_drop] at this
   exact this
  ·exact get_ok (by lia) (kLow hk3) (getR hSk _)
  ·exact mod_ok (by decide) hz
  ·exact mod_ok (by decide) hz
  ·exact slice_ok (by lia) (.int _ _) .none (pick_from _ _)
  ·exact mod_ok (by decide) hz
  ·exact slice_ok (by lia) .none (.int _ _) (pick_to _ _)
  ·exact set_ok (by lia) (kLow hk3) (by simp [I.len3]; lia) (by simp)
 have fin : ∀ (f0 f1 : Obj) (x' : Rslt) (s' : Shared),s.heap.get? c.fr = some f0 → FrAt c (s.heap.objs.size + 2) (s.heap.objs.size + 6) (k : Int) tk f1 →
   x'.U = c.U8 f1 (i + 1) sl ((rsOf sl).set k (.ref (s.heap.objs.size + 8))) S (refs (S.xs.take z)) ea' → x'.T = [some (lst (refs (S.xs.drop z)) 0),some (lst (S.rv.drop z) 0),some (lst (S.rv.take z) 0)] →
   Behind s s' s.heap.objs.size s.toks (c.L8 S) [2,6,8] x' → codeAny (model prg w) A (forD c.fr c.it) Q s' := by
  intro f0 f1 x' s' h0 h1 hU hT B
  have keep := I.keep8 hS h0 hU B
  have hp := I.keepP hS h0 hU B
  have hlo : ∀ j : Nat,281 ≤ s.heap.objs.size + j := by
   intro j
   have := I.low _ (St.mem2 hS).1
   have h2 : @LT.lt Nat _ S.a s.heap.objs.size := Heap.lt_size X.inst
   lia
  refine q s' _ _ _ _ _ _ _ _ (I.fin8 hSk h0 hU B (kn := S.ks.take z) (gk' := S.ks.drop z) h1 (B.own 2 8 _ rfl (by rw [hT]; rfl)).2 ((X.pcs.mono hp).take z) (All2.take X.rint z) (B.own 0 2 _ rfl (by rw [hT]; rfl)).2 ((X.pcs.mono hp).drop z) (B.own 1 6 _ rfl (by rw [hT]; rfl)).2 (All2.drop X.rint z) (I.new 2) (I.new 6) (hlo 2) (hlo 6) ?_ ?_ (fun x hx => X.lowp x (List.mem_of_mem_take hx)) (fun x hx => X.lowp x (List.mem_of_mem_drop hx))) B.bare B.os
  ·rw [List.length_take]; lia
  ·rw [List.length_drop]; lia
 obtain ⟨o,ho,hf⟩ := I.frame
 have st8 := I.start8 hS ho
 rcases hf with ⟨h,qq,rfl⟩ | ⟨h,qq,x0,tx0,d0,td0,rfl⟩
 ·have h1 := turn7a (w := w) (n := s.heap.objs.size) (t := s.toks) (fr := c.fr) (it := c.it) (N := c.N) (H := c.H) (R := c.R) (F := c.F) (gv := gv) (tn := tn) (i := i) (e := c.eN) (tk := tk) (tx := tx) (h := h) (q := qq) (k := (k : Int)) (x := x) (nums := c.nums) (hs := sl.map fun S => .ref S.a) (rs := rsOf sl) (eh := c.eH) (er := c.eR) (a := S.a) (dd := S.dd) (r := S.r) (g1 := S.g1) (f1 := S.f) (t1 := S.t1) (u := S.u) (e1 := S.e1) (xs := refs S.xs) (ea := S.ea) (ea' := ea') (row := S.rv) (row1 := S.rv.take z) (row2 := S.rv.drop z) (xs1 := refs (S.xs.take z)) (xs2 := refs (S.xs.drop z)) (z := (z : Int)) (rs' := fun v => (rsOf sl).set k (.ref v)) (el := S.er) (fs := []) (ef := 0)
  refine run_code st8 CO hd hu hh forD_ok (by decide) h1 fun s' B => ⟨rfl,?_⟩
  exact fin _ _ _ s' ho (.inr ⟨_,_,_,_,_,_,rfl⟩) rfl rfl B
 ·have h1 := turn7b (w := w) (n := s.heap.objs.size) (t := s.toks) (fr := c.fr) (it := c.it) (N := c.N) (H := c.H) (R := c.R) (F := c.F) (gv := gv) (tn := tn) (i := i) (e := c.eN) (tk := tk) (tx := tx) (h := h) (q := qq) (k := (k : Int)) (x := x) (nums := c.nums) (hs := sl.map fun S => .ref S.a) (rs := rsOf sl) (eh := c.eH) (er := c.eR) (a := S.a) (dd := S.dd) (r := S.r) (g1 := S.g1) (f1 := S.f) (t1 := S.t1) (u := S.u) (e1 := S.e1) (xs := refs S.xs) (ea := S.ea) (ea' := ea') (row := S.rv) (row1 := S.rv.take z) (row2 := S.rv.drop z) (xs1 := refs (S.xs.take z)) (xs2 := refs (S.xs.drop z)) (z := (z : Int)) (rs' := fun v => (rsOf sl).set k (.ref v)) (el := S.er) (fs := []) (ef := 0) (x0 := x0) (d0 := d0) (tx0 := tx0) (td0 := td0)
  refine run_code st8 CO hd hu hh forD_ok (by decide) h1 fun s' B => ⟨rfl,?_⟩
  exact fin _ _ _ s' ho (.inr ⟨_,_,_,_,_,_,rfl⟩) rfl rfl B
end
end Mine
end
section
namespace Mine
section
variable {w : World} {c : Cx} {i : Nat} {sl : List Slot} {k tk gv tn : Nat} {gx gk : List Nat} {eg : Nat} {tv : List Value} {et : Nat} {s : Shared} {A : Around} {Q : Result → Shared → Prop}
theorem step8 (I : St w c i sl k tk gv tn gx gk eg tv et s) (hn : c.nums.length ≤ 12) (hd : A.depth ≤ 500) (hu : A.units ≤ 5000) (hh : A.handled = none) {x : Int} {tx : Nat} (hx : c.nums[i]? = some (.int x tx)) (h9 : x.fmod 10 = 8)
  (q : ∀ s' sl',St w c (i + 1) sl' k tk gv tn gx gk eg tv et s' → (AllBare s.gens → AllBare s'.gens) → s'.os = s.os → codeAny (model prg w) A (forD c.fr c.it) Q s') : codeAny (model prg w) A (forD c.fr c.it) Q s := by
 have hi : i < 12 := by
  have := (List.getElem?_eq_some_iff.mp hx).1
  lia
 have hk3 := I.turn
 obtain ⟨S,hSk⟩ := I.slot
 have hS : S ∈ sl := List.mem_of_getElem? hSk
 have X := I.slots S hS
 have hlen := I.lens S hS
 have hleng := I.leng
 have nd8 := I.nd8 hS
 have hsub : List.Sublist [c.fr,c.it,c.N,c.H,c.R,c.F,S.dd,S.a] [c.fr,c.it,c.N,c.H,c.R,c.F,S.dd,S.a] := List.Sublist.refl _
 have nd := I.ndx hS I.offg hsub
 have hlow := I.lowx hS I.lowg hsub
 have nd3 : [S.dd,S.a,gv].Nodup := by
  refine I.ndx hS I.offg (L := [S.dd,S.a]) ?_
  repeat (first | exact List.Sublist.refl _ | apply List.Sublist.cons)
 let ea' := if (refs gx).length = (refs S.xs).length then S.ea else S.ea + 1
 let rs' := (rsOf sl).set k (.ref tn)
 let fs' : Nat → List Value := fun t => (sl.map fun S => Value.int S.f S.fu).set k (.int 0 t)
 have CO : ∀ C ∈ [nxt c.it c.N c.eN i c.nums x tx,modC x tx 10 (s.toks + 1) 8,getC c.H c.eH lsC none (sl.map fun S => .ref S.a) k tk (.ref S.a),resetM S.dd S.a gv (fun _ => dct S.g1 S.t1 S.f S.u S.e1) (fun t => dct S.g1 S.t1 0 (t + 2) S.e1) (refs S.xs) (refs gx) S.ea ea' eg,setC c.R c.eR lsC none (rsOf sl) k tk (.ref tn) rs',setC c.F c.eF lsC none (sl.map fun S => .int S.f S.fu) k tk (.int 0 (s.toks + 13)) (fs' (s.toks + 13))],CtrOk w C := by
  intro C hC
  revert C
  refine ac ?_ (ac ?_ (ac ?_ (ac ?_ (ac ?_ (ac ?_ (an))))))
  ·exact next_ok hx
  ·exact mod_ok (by decide) h9
  ·exact get_ok (by lia) (kLow hk3) (getR hSk _)
  ·exact resetM_ok (by rw [refs_length]; lia) (by rw [refs_length]; lia) (I.low _ (St.mem2 hS).2) (I.low _ (St.mem2 hS).1) I.lowg nd3 rfl
  ·exact set_ok (by lia) (kLow hk3) (by simp [I.len3]; lia) (by simp [rs'])
  ·exact set_ok (by lia) (kLow hk3) (by simp [I.len3]; lia) (by simp [fs'])
 have start : ∀ f0,s.heap.get? c.fr = some f0 → Start w s.heap.objs.size s.toks [c.fr,c.it,c.N,c.H,c.R,c.F,S.dd,S.a,gv] [f0,itO (.ref c.N) i,lst c.nums c.eN,lst (sl.map fun S => .ref S.a) c.eH,lst (rsOf sl) c.eR,lst (sl.map fun S => .int S.f S.fu) c.eF,dct S.g1 S.t1 S.f S.u S.e1,inst S.dd (refs S.xs) S.ea,lst (refs gx) eg] s := by
  intro f0 h0
  refine start_two nd hlow rfl I.lit ?_
  intro p hp
  revert p
  refine zc ?_ (zc ?_ (zc ?_ (zc ?_ (zc ?_ (zc ?_ (zc ?_ (zc ?_ (zc ?_ (zn)))))))))
  ·exact h0
  ·exact I.iter
  ·exact I.nums
  ·exact I.heaps
  ·exact I.rows
  ·exact I.firsts
  ·exact X.dct
  ·exact X.inst
  ·exact I.gave
 have fin : ∀ (f0 f1 : Obj) (x' : Rslt) (s' : Shared),s.heap.get? c.fr = some f0 → FrAt c gv tn (k : Int) tk f1 →
   x'.U = [f1,itO (.ref c.N) (i + 1),lst c.nums c.eN,lst (sl.map fun S => .ref S.a) c.eH,lst rs' c.eR,lst (fs' (s.toks + 13)) c.eF,dct S.g1 S.t1 0 (s.toks + 10) S.e1,inst S.dd (refs gx) ea',lst (refs gx) eg] →
   Behind s s' s.heap.objs.size s.toks [c.fr,c.it,c.N,c.H,c.R,c.F,S.dd,S.a,gv] [] x' → codeAny (model prg w) A (forD c.fr c.it) Q s' := by
  intro f0 f1 x' s' h0 h1 hU B
  have keep : ∀ (b : Nat) o,s.heap.get? b = some o → b ∉ [c.fr,c.it,c.R,c.F,S.a,S.dd] → s'.heap.get? b = some o := by
   intro b o hb hn
   refine B.but (start f0 h0) (Ch := [c.fr,c.it,c.R,c.F,S.a,S.dd]) ?_ hb hn
   rw [hU]
   exact ⟨.inl (by simp),.inl (by simp),.inr rfl,.inr rfl,.inl (by simp),.inl (by simp),.inl (by simp),.inl (by simp),.inr rfl,trivial⟩
  have fxin : ∀ b : Nat,b ∉ c.fx sl → b ∉ [c.fr,c.it,c.R,c.F,S.a,S.dd] := fun b hb hm => hb (St.in8 hS (in68 hm))
  have hp : ∀ x k t,s.heap.get? x = some (piece k t) → s'.heap.get? x = some (piece k t) := fun x k t h => keep x _ h (fxin x (I.noPiece h))
  let S' : Slot := { S with xs := gx,ea := ea',r := tn,rv := tv,er := et,ks := gk,f := 0,u := s.toks + 10,fu := s.toks + 13 }
  refine q s' (sl.set k S') (I.step hSk rfl rfl keep ⟨f1,B.old 0 _ _ rfl (by rw [hU]; rfl),h1⟩ (B.old 1 _ _ rfl (by rw [hU]; rfl)) ?_ ?_ ⟨B.old 7 _ _ rfl (by rw [hU]; rfl),B.old 6 _ _ rfl (by rw [hU]; rfl),keep _ _ I.taken (fxin _ I.offt),I.gpcs.mono hp,I.tints,I.lowgx,(by show (0 : Int) ≤ 0 ∧ (0 : Int) ≤ 4; decide)⟩ (keep _ _ I.gave (fxin _ I.offg)) (I.gpcs.mono hp) (keep _ _ I.taken (fxin _ I.offt)) I.tints I.offt I.offg I.offt I.lowt I.lowg I.lowt ?_ ?_ I.lowgx) B.bare B.os
  ·rw [map_set]
   exact B.old 4 _ _ rfl (by rw [hU]; rfl)
  ·rw [map_set]
   exact B.old 5 _ _ rfl (by rw [hU]; rfl)
  ·show gx.length ≤ _
   lia
  ·lia
 obtain ⟨o,ho,hf⟩ := I.frame
 rcases hf with ⟨h,qq,rfl⟩ | ⟨h,qq,x0,tx0,d0,td0,rfl⟩
 ·have h1 := turn8a (w := w) (n := s.heap.objs.size) (t := s.toks) (fr := c.fr) (it := c.it) (N := c.N) (H := c.H) (R := c.R) (F := c.F) (gv := gv) (tn := tn) (i := i) (e := c.eN) (tk := tk) (tx := tx) (h := h) (q := qq) (k := (k : Int)) (x := x) (nums := c.nums) (hs := sl.map fun S => .ref S.a) (rs := rsOf sl) (fs := sl.map fun S => .int S.f S.fu) (eh := c.eH) (er := c.eR) (ef := c.eF) (a := S.a) (dd := S.dd) (r := 0) (g1 := S.g1) (f1 := S.f) (t1 := S.t1) (u := S.u) (e1 := S.e1) (xs := refs S.xs) (ea := S.ea) (ys := refs gx) (rs' := rs') (fs' := fs') (ea' := ea') (eg := eg)
  refine run_code (start _ ho) CO hd hu hh forD_ok (by decide) h1 fun s' B => ⟨rfl,?_⟩
  exact fin _ _ _ s' ho (.inr ⟨_,_,_,_,_,_,rfl⟩) rfl B
 ·have h1 := turn8b (w := w) (n := s.heap.objs.size) (t := s.toks) (fr := c.fr) (it := c.it) (N := c.N) (H := c.H) (R := c.R) (F := c.F) (gv := gv) (tn := tn) (i := i) (e := c.eN) (tk := tk) (tx := tx) (h := h) (q := qq) (k := (k : Int)) (x := x) (nums := c.nums) (hs := sl.map fun S => .ref S.a) (rs := rsOf sl) (fs := sl.map fun S => .int S.f S.fu) (eh := c.eH) (er := c.eR) (ef := c.eF) (a := S.a) (dd := S.dd) (r := 0) (g1 := S.g1) (f1 := S.f) (t1 := S.t1) (u := S.u) (e1 := S.e1) (xs := refs S.xs) (ea := S.ea) (ys := refs gx) (rs' := rs') (fs' := fs') (ea' := ea') (eg := eg) (x0 := x0) (d0 := d0) (tx0 := tx0) (td0 := td0)
  refine run_code (start _ ho) CO hd hu hh forD_ok (by decide) h1 fun s' B => ⟨rfl,?_⟩
  exact fin _ _ _ s' ho (.inr ⟨_,_,_,_,_,_,rfl⟩) rfl B
theorem loopD : ∀ (m : Nat) {i : Nat} {sl : List Slot} {k tk gv tn : Nat} {gx gk : List Nat} {eg : Nat} {tv : List Value} {et : Nat} {s : Shared} (I : St w c i sl k tk gv tn gx gk eg tv et s) (hm : c.nums.length - i = m) (hn : c.nums.length ≤ 12) (hi : i ≤ c.nums.length) (hd : A.depth ≤ 500) (hu : A.units ≤ 5000) (hh : A.handled = none) (hx : ∀ v ∈ c.nums,∃ x t,v = .int x t)
  (q : ∀ s',(∃ i sl k tk gv tn gx gk eg tv et s'',i ≤ 12 ∧ St w c i sl k tk gv tn gx gk eg tv et s'' ∧ (AllBare s.gens → AllBare s''.gens) ∧ s''.os = s.os ∧ (∀ (b : Nat) o,s''.heap.get? b = some o → b ≠ c.it → s'.heap.get? b = some o) ∧ s''.heap.objs.size ≤ s'.heap.objs.size ∧ (AllBare s''.gens → AllBare s'.gens) ∧ s'.os = s''.os) → Q (.ok .next) s'),codeAny (model prg w) A (forD c.fr c.it) Q s := by
 intro m
 induction m with
 | zero =>
  intro i sl k tk gv tn gx gk eg tv et s I hm hn hi hd hu hh hx q
  have nd : [c.it,c.N].Nodup := by
   have := I.nd6.sublist (l₁ := [c.it,c.N]) (by repeat (first | exact List.Sublist.nil_sublist _ | exact List.nil_sublist _ | apply List.Sublist.cons_cons | apply List.Sublist.cons))
   exact this
  have st : Start w s.heap.objs.size s.toks [c.it,c.N] [itO (.ref c.N) i,lst c.nums c.eN] s := by
   refine start_two nd (fun a ha => I.low a (List.mem_append_left _ (in26' ha))) rfl I.lit ?_
   intro p hp
   revert p
   refine zc ?_ (zc ?_ (zn))
   ·exact I.iter
   ·exact I.nums
  have CO : ∀ C ∈ [endC c.it c.N c.eN i lsC none c.nums],CtrOk w C := by
   intro C hC
   rw [List.mem_singleton] at hC
   subst hC
   exact end_ok (by lia)
  refine run_code st CO hd hu hh forD_ok (by decide) runE fun s' B => ?_
  refine q s' ⟨i,sl,k,tk,gv,tn,gx,gk,eg,tv,et,s,by lia,I,id,rfl,fun b o hb hne => ?_,by rw [B.size]; lia,B.bare,B.os⟩
  exact B.but st (Ch := [c.it]) ⟨.inl (by simp),.inr rfl,trivial⟩ hb (by simpa using hne)
 | succ m ih =>
  intro i sl k tk gv tn gx gk eg tv et s I hm hn hi hd hu hh hx q
  have hlt : i < c.nums.length := by lia
  obtain ⟨x,tx,hv⟩ := hx _ (List.getElem_mem hlt)
  have hx0 : c.nums[i]? = some (.int x tx) := by rw [List.getElem?_eq_getElem hlt,hv]
  have h0 := Int.fmod_nonneg_of_pos x (show (0 : Int) < 10 by decide)
  have h10 := Int.fmod_lt_of_pos x (show (0 : Int) < 10 by decide)
  have on : ∀ {k' tk' gv' tn' : Nat} {gx' gk' : List Nat} {eg' : Nat} {tv' : List Value} {et' : Nat} (s' : Shared) (sl' : List Slot),St w c (i + 1) sl' k' tk' gv' tn' gx' gk' eg' tv' et' s' → (AllBare s.gens → AllBare s'.gens) → s'.os = s.os → codeAny (model prg w) A (forD c.fr c.it) Q s' := by
   intro k' tk' gv' tn' gx' gk' eg' tv' et' s' sl' I' hb ho
   refine ih I' (by lia) hn (by lia) hd hu hh hx fun s1 hs => ?_
   obtain ⟨i1,sl1,k1,tk1,gv1,tn1,gx1,gk1,eg1,tv1,et1,s2,r1,r2,r3,r4,r5⟩ := hs
   exact q s1 ⟨i1,sl1,k1,tk1,gv1,tn1,gx1,gk1,eg1,tv1,et1,s2,r1,r2,fun z => r3 (hb z),r4.trans ho,r5⟩
  by_cases c6 : x.fmod 10 < 6
  ·exact stepP I hn hd hu hh hx0 (kd := (x.fmod 10).toNat) (by lia) (by lia) fun s' sl' I' => on s' sl' I'
  ·have : x.fmod 10 = 6 ∨ x.fmod 10 = 7 ∨ x.fmod 10 = 8 ∨ x.fmod 10 = 9 := by lia
   rcases this with h | h | h | h
   ·obtain ⟨S,hSk⟩ := I.slot
    by_cases hxs : S.xs = []
    ·exact step60 I hn hd hu hh hx0 h hSk hxs fun s' sl' I' => on s' sl' I'
    ·exact step6 I hn hd hu hh hx0 h hSk hxs fun s' sl' I' => on s' sl' I'
   ·exact step7 I hn hd hu hh hx0 h fun s' sl' _ _ _ _ _ _ _ I' => on s' sl' I'
   ·exact step8 I hn hd hu hh hx0 h fun s' sl' I' => on s' sl' I'
   ·exact step9 I hd hu hh hx0 h fun s' _ I' => on s' sl I'
end
end Mine
end
section
namespace Mine
noncomputable abbrev fx0 (N H R F : Nat) (sl : List Slot) : List Nat := [N,H,R,F] ++ sl.flatMap fun S => [S.a,S.dd]
structure DIn (w : World) (N H R F eN eH eR eF : Nat) (nums : List Value) (sl : List Slot) (ex : List (Nat × Obj)) (s : Shared) : Prop where
 lit : ∀ a o,lkQ w.params a = some o → s.heap.get? a = some o
 nums : s.heap.get? N = some (lst nums eN)
 heaps : s.heap.get? H = some (lst (sl.map fun S => .ref S.a) eH)
 rows : s.heap.get? R = some (lst (sl.map fun S => .ref S.r) eR)
 firsts : s.heap.get? F = some (lst (sl.map fun S => .int S.f S.fu) eF)
 slots : ∀ S ∈ sl,SlotAt s.heap S
 len3 : sl.length = 3
 nodup : (fx0 N H R F sl).Nodup
 offr : ∀ S ∈ sl,S.r ∉ fx0 N H R F sl
 low : ∀ b ∈ fx0 N H R F sl,281 ≤ b
 lowr : ∀ S ∈ sl,281 ≤ S.r
 kept : ∀ p ∈ ex,s.heap.get? p.1 = some p.2
 offx : ∀ p ∈ ex,p.1 ∉ fx0 N H R F sl
noncomputable def DOut (w : World) (N H R F eN eH eR eF : Nat) (nums : List Value) (ex : List (Nat × Obj)) (s : Shared) (r : Result) (s' : Shared) : Prop :=
 r = .ok (.ret .none) ∧ (∃ sl,DIn w N H R F eN eH eR eF nums sl ex s' ∧ ∀ S ∈ sl,S.xs.length ≤ 14) ∧ (AllBare s.gens → AllBare s'.gens) ∧ s'.os = s.os
theorem deeds_okC {H R F N : Nat} : okCode (.call (.ref 226) ⟨[.ref H,.ref R,.ref F,.ref N],[]⟩) = true := by kernel_rfl
section
variable {w : World} {A : Around} {N H R F eN eH eR eF : Nat} {nums : List Value} {sl : List Slot} {ex : List (Nat × Obj)} {s : Shared}
theorem DIn.lt (I : DIn w N H R F eN eH eR eF nums sl ex s) : ∀ b ∈ fx0 N H R F sl,(b : Nat) < s.heap.objs.size := by
 intro b hb
 rcases List.mem_append.mp hb with h | h
 ·simp only [List.mem_cons,List.not_mem_nil,or_false] at h
  rcases h with rfl | rfl | rfl | rfl
  ·exact Heap.lt_size I.nums
  ·exact Heap.lt_size I.heaps
  ·exact Heap.lt_size I.rows
  ·exact Heap.lt_size I.firsts
 ·obtain ⟨S,hS,hb⟩ := List.mem_flatMap.mp h
  simp only [List.mem_cons,List.not_mem_nil,or_false] at hb
  rcases hb with rfl | rfl
  ·exact Heap.lt_size (I.slots S hS).inst
  ·exact Heap.lt_size (I.slots S hS).dct
theorem deeds_ok (I : DIn w N H R F eN eH eR eF nums sl ex s) (hlen : ∀ S ∈ sl,S.xs.length ≤ 2) (hn : nums.length ≤ 12) (hx : ∀ v ∈ nums,∃ x t,v = .int x t) (hd : A.depth ≤ 400) (hu : A.units ≤ 4000) (hh : A.handled = none) :
  codeAny (model prg w) A (.call (.ref 226) ⟨[.ref H,.ref R,.ref F,.ref N],[]⟩) (DOut w N H R F eN eH eR eF nums ex s) s := by
 have lt := I.lt
 have S0 : Start w s.heap.objs.size s.toks [N] [lst nums eN] s := by
  refine start_of (by simp) (fun b hb => by rw [List.mem_singleton] at hb; subst hb; exact lkQ_low (I.low b (by simp))) rfl I.lit ?_
  intro p hp
  simp only [List.zip_cons_cons,List.zip_nil_right,List.mem_cons,List.not_mem_nil,or_false] at hp
  subst hp; exact I.nums
 refine codeAny_pure (E := fun _ _ => False) (code_stop (Q := DOut w N H R F eN eH eR eF nums ex s) S0 (fun C hC => by cases hC) hd hu hh deeds_okC (by decide) runA fun om κ k₀ M hRun Hd s1 B => ?_)
 have g1 : s1.heap.objs.size = s.heap.objs.size + 4 := B.size
 have o0 := (B.own 0 0 _ rfl rfl).2
 have o1 := (B.own 1 1 _ rfl rfl).2
 have o2 := (B.own 2 2 _ rfl rfl).2
 have o3 := (B.own 3 3 _ rfl rfl).2
 have keep1 : ∀ (b : Nat) o,s.heap.get? b = some o → s1.heap.get? b = some o := fun b o h => B.still h fun j hj => by
  match j with
  | 0 =>
   simp at hj
   subst hj
   rw [I.nums] at h
   cases h; rfl
  | j + 1 => simp at hj
 have hN : 281 ≤ N ∧ N < s.heap.objs.size := ⟨I.low N (by simp),lt N (by simp)⟩
 let c : Cx := { fr := s.heap.objs.size,it := s.heap.objs.size + 3,N := N,H := H,R := R,F := F,eN := eN,eH := eH,eR := eR,eF := eF,nums := nums,ex := ex }
 have fxe : ∀ sl,c.fx sl = [s.heap.objs.size,s.heap.objs.size + 3] ++ fx0 N H R F sl := fun _ => rfl
 have out : ∀ b : Nat,b < s.heap.objs.size → b ∉ fx0 N H R F sl → b ∉ c.fx sl := by
  intro b hb hn hm
  rw [fxe] at hm
  rcases List.mem_append.mp hm with h | h
  ·simp only [List.mem_cons,List.not_mem_nil,or_false] at h; lia
  ·exact hn h
 have new : ∀ j : Nat,j = 1 ∨ j = 2 → s.heap.objs.size + j ∉ c.fx sl := by
  intro j hj hm
  rw [fxe] at hm
  rcases List.mem_append.mp hm with h | h
  ·simp only [List.mem_cons,List.not_mem_nil,or_false] at h; lia
  ·have := lt _ h; lia
 have T0 : St w c 0 sl 0 (s.toks + 6) (s.heap.objs.size + 1) (s.heap.objs.size + 2) [] [] 0 [] 0 s1 :=
  {lit := fun a o h => keep1 a o (I.lit a o h)
   frame := ⟨_,o0,.inl ⟨_,_,rfl⟩⟩,iter := o3,nums := keep1 _ _ I.nums,heaps := keep1 _ _ I.heaps,rows := keep1 _ _ I.rows,firsts := keep1 _ _ I.firsts
   slots := fun S hS => ⟨keep1 _ _ (I.slots S hS).inst,keep1 _ _ (I.slots S hS).dct,keep1 _ _ (I.slots S hS).row,(I.slots S hS).pcs.mono fun x k t h => keep1 _ _ h,(I.slots S hS).rint,(I.slots S hS).lowp,(I.slots S hS).fb⟩
   len3 := I.len3,turn := by lia,gave := o1,gpcs := .nil,taken := o2,tints := .nil
   nodup := by
    rw [fxe,List.nodup_append]
    refine ⟨by simp,I.nodup,fun a ha b hb hab => ?_⟩
    subst hab
    have := lt _ hb
    simp only [List.mem_cons,List.not_mem_nil,or_false] at ha
    lia
   offr := fun S hS => out _ (Heap.lt_size (I.slots S hS).row) (I.offr S hS)
   offg := new 1 (.inl rfl),offt := new 2 (.inr rfl)
   low := fun b hb => by
    rw [fxe] at hb
    rcases List.mem_append.mp hb with h | h
    ·simp only [List.mem_cons,List.not_mem_nil,or_false] at h; lia
    ·exact I.low b h
   lowr := I.lowr,lowg := by lia,lowt := by lia,lowgx := fun x hx => nomatch hx
   lens := fun S hS => hlen S hS,leng := by simp
   kept := fun p hp => keep1 _ _ (I.kept p hp)
   offx := fun p hp => out _ (Heap.lt_size (I.kept p hp)) (I.offx p hp) }
 refine loopD (c := c) _ T0 rfl hn (Nat.zero_le _) (by have := Hd.depth; lia) (by have := Hd.units; lia) Hd.handled hx fun s2 hs2 => ?_
 obtain ⟨i,sl',k,tk,gv,tn,gx,gk,eg,tv,et,s'',hi,T,b1,os1,kp,gr,b2,os2⟩ := hs2
 have hit : c.it ∈ c.fx sl' := by rw [fxe]; simp [c]
 have low := T.low
 have lit2 : ∀ a o,lkQ w.params a = some o → s2.heap.get? a = some o := fun a o h => kp a o (T.lit a o h) fun e => by
  rw [e,lkQ_low (low _ hit)] at h; cases h
 have S2 : Start w s2.heap.objs.size s2.toks [] [] s2 := start_of (by simp) (fun b hb => by cases hb) rfl lit2 fun p hp => by simp at hp
 have h2 := runB (om0 := om) (w := w) (n := s.heap.objs.size) (t := s.toks) (n' := s2.heap.objs.size) (t' := s2.toks) (H := H) (R := R) (F := F) (N := N) (e := eN) (nums := nums)
 rw [hRun] at h2
 refine stop_out S2 (fun C hC => by cases hC) hd hu hh Hd.ok h2 fun s3 B3 => ?_
 have kk : ∀ (b : Nat) o,s''.heap.get? b = some o → b ≠ c.it → s3.heap.get? b = some o := fun b o h hb => B3.keep b o (kp b o h hb) (by simp)
 have nd : ([s.heap.objs.size,s.heap.objs.size + 3] ++ fx0 N H R F sl').Nodup := by rw [← fxe]; exact T.nodup
 have nit : ∀ b ∈ fx0 N H R F sl',b ≠ c.it := fun b hb e => (List.nodup_append.mp nd).2.2 c.it (by simp [c]) b hb e.symm
 have sub : ∀ b ∈ fx0 N H R F sl',b ∈ c.fx sl' := fun b hb => by rw [fxe]; exact List.mem_append_right _ hb
 have ninr : ∀ b : Nat,b ∉ c.fx sl' → b ≠ c.it := fun b hb e => hb (by rw [e]; exact hit)
 have m1 : ∀ S ∈ sl',S.a ∈ fx0 N H R F sl' ∧ S.dd ∈ fx0 N H R F sl' := fun S hS => ⟨List.mem_append_right _ (List.mem_flatMap.mpr ⟨S,hS,by simp⟩),List.mem_append_right _ (List.mem_flatMap.mpr ⟨S,hS,by simp⟩)⟩
 refine ⟨rfl,⟨sl',?_,fun S hS => by have := T.lens S hS; lia⟩,fun h => B3.bare (b2 (b1 (B.bare h))),by rw [B3.os,os2,os1,B.os]⟩
 exact
  {lit := fun a o h => B3.keep a o (lit2 a o h) (by simp)
   nums := kk _ _ T.nums (nit _ (by simp)),heaps := kk _ _ T.heaps (nit _ (by simp)),rows := kk _ _ T.rows (nit _ (by simp)),firsts := kk _ _ T.firsts (nit _ (by simp))
   slots := fun S hS => by
    have X := T.slots S hS
    refine ⟨kk _ _ X.inst (nit _ (m1 S hS).1),kk _ _ X.dct (nit _ (m1 S hS).2),kk _ _ X.row (ninr _ (T.offr S hS)),X.pcs.mono fun x k t h => kk _ _ h fun e => ?_,X.rint,X.lowp,X.fb⟩
    subst e
    have z := T.iter
    rw [h] at z
    exact absurd (congrArg Obj.cls (Option.some.inj z)) (by simp [piece,itO])
   len3 := T.len3,nodup := (List.nodup_append.mp nd).2.1
   offr := fun S hS hm => T.offr S hS (sub _ hm)
   low := fun b hb => low b (sub b hb),lowr := T.lowr
   kept := fun p hp => kk _ _ (T.kept p hp) (ninr _ (T.offx p hp))
   offx := fun p hp hm => T.offx p hp (sub _ hm) }
end
end Mine
end
section
namespace Mine.G
section
variable {α β γ : Type} {M : Model} {A : Around} {c : Code}
theorem Ref.ite {p : Prop} [Decidable p] {a' a b' b : Sem α} (h : Ref M A a' a) (g : Ref M A b' b) : Ref M A (if p then a' else b') (if p then a else b) := by split <;> assumption
noncomputable def buildF (name qual : Str) (given : List Value) (kw : List (Str × Value)) (body : List Stmt) (scope : Scope) (statics : List Str) (firstLine : Nat) (env : Env) (pos : Pos) (tp : Option Value) : Sem Unit → Sem Value := by
 refine kst (@Sem.bind = @Sem.bind) ((?k : (F : Sem Unit → Sem Value) → F enterFrame = buildClass name qual given kw body scope statics firstLine env pos tp → Sem Unit → Sem Value) ?F ?h) bind_refl
 case k => exact fun F _ => F
 case h =>
  delta buildClass
  generalize enterFrame = X
  exact rfl
noncomputable def buildN (name qual : Str) (given : List Value) (kw : List (Str × Value)) (body : List Stmt) (scope : Scope) (statics : List Str) (firstLine : Nat) (env : Env) (pos : Pos) (tp : Option Value) : Sem Value := buildF name qual given kw body scope statics firstLine env pos tp enterN
noncomputable def appl {γ σ : Type} (B : γ → σ) (v : γ) : σ := B v
theorem applE {γ σ : Type} {B : γ → σ} {v : γ} {b : σ} (h : B v = b) : appl B v = b := h
theorem Ref.via1 {γ : Type} {v' v : α → Sem β} {B' B : (α → Sem β) → Sem γ} {T' T : Sem γ} (e' : appl B' v' = T') (e : appl B v = T) (main : ∀ j' j : α → Sem β,(∀ a,Ref M A (j' a) (j a)) → Ref M A (B' j') (B j)) (h : ∀ a,Ref M A (v' a) (v a)) : Ref M A T' T := by
 subst e' e; exact main _ _ h
theorem Ref.via2 {δ γ : Type} {v' v : α → δ → Sem β} {B' B : (α → δ → Sem β) → Sem γ} {T' T : Sem γ} (e' : appl B' v' = T') (e : appl B v = T) (main : ∀ j' j : α → δ → Sem β,(∀ a b,Ref M A (j' a b) (j a b)) → Ref M A (B' j') (B j)) (h : ∀ a b,Ref M A (v' a b) (v a b)) : Ref M A T' T := by
 subst e' e; exact main _ _ h
local macro_rules | `(tactic| walk_at "ref step") => `(tactic| first | with_unfolding_none exact Ref.refl _ | with_unfolding_none apply_assumption | (extract_lets -merge -useContext +onlyGivenNames j'; refine Rev.to ?_; extract_lets -merge -useContext +onlyGivenNames j; refine Rev.back ?_; have e : j' = j := (by with_unfolding_none rfl); clear_value j'; subst e) | (refine Ref.via1 (α := Unit) (β := Value) (B' := ?B') (B := ?B) (v' := ?v') (v := ?v) ?e' ?e ?main ?h; (case e' => (extract_lets -merge -useContext +onlyGivenNames j; refine Eq.trans (b := appl ?B' j) ?_ ?_; (exact rfl); (clear_value j; refine applE ?_; exact rfl))); (case e => (extract_lets -merge -useContext +onlyGivenNames j; refine Eq.trans (b := appl ?B j) ?_ ?_; (exact rfl); (clear_value j; refine applE ?_; exact rfl))); (case' main => intro j' j hj); (case' h => intro x0)) | (refine Ref.via1 (α := Value) (β := Value) (B' := ?B') (B := ?B) (v' := ?v') (v := ?v) ?e' ?e ?main ?h; (case e' => (extract_lets -merge -useContext +onlyGivenNames j; refine Eq.trans (b := appl ?B' j) ?_ ?_; (exact rfl); (clear_value j; refine applE ?_; exact rfl))); (case e => (extract_lets -merge -useContext +onlyGivenNames j; refine Eq.trans (b := appl ?B j) ?_ ?_; (exact rfl); (clear_value j; refine applE ?_; exact rfl))); (case' main => intro j' j hj); (case' h => intro x0)) | (refine Ref.via1 (α := Option Addr) (β := Value) (B' := ?B') (B := ?B) (v' := ?v') (v := ?v) ?e' ?e ?main ?h; (case e' => (extract_lets -merge -useContext +onlyGivenNames j; refine Eq.trans (b := appl ?B' j) ?_ ?_; (exact rfl); (clear_value j; refine applE ?_; exact rfl))); (case e => (extract_lets -merge -useContext +onlyGivenNames j; refine Eq.trans (b := appl ?B j) ?_ ?_; (exact rfl); (clear_value j; refine applE ?_; exact rfl))); (case' main => intro j' j hj); (case' h => intro x0)) | (refine Ref.via2 (α := Unit) (β := Value) (δ := Value) (B' := ?B') (B := ?B) (v' := ?v') (v := ?v) ?e' ?e ?main ?h; (case e' => (extract_lets -merge -useContext +onlyGivenNames j; refine Eq.trans (b := appl ?B' j) ?_ ?_; (exact rfl); (clear_value j; refine applE ?_; exact rfl))); (case e => (extract_lets -merge -useContext +onlyGivenNames j; refine Eq.trans (b := appl ?B j) ?_ ?_; (exact rfl); (clear_value j; refine applE ?_; exact rfl))); (case' main => intro j' j hj); (case' h => intro x0 x1)) | with_reducible refine Ref.bind (Ref.enter (by assumption)) fun _ => ?_ | with_unfolding_none refine Ref.bind (Ref.refl _) fun _ => ?_ | with_reducible refine Ref.bind (by with_reducible apply_assumption) fun _ => ?_ | with_reducible refine Ref.holding ?_ | with_reducible refine Ref.onRaise ?_ | with_reducible refine Ref.ite ?_ ?_ | split)
theorem Ref.build (hd : A.depth < recursionLimit) {name qual : Str} {given : List Value} {kw : List (Str × Value)} {body : List Stmt} {scope : Scope} {statics : List Str} {firstLine : Nat} {env : Env} {pos : Pos} {tp : Option Value} :
  Ref M A (buildN name qual given kw body scope statics firstLine env pos tp) (buildClass name qual given kw body scope statics firstLine env pos tp) := by
 rw [show buildClass name qual given kw body scope statics firstLine env pos tp = buildF name qual given kw body scope statics firstLine env pos tp enterFrame from rfl]
 delta buildN buildF kst
 dsimp (config := { zeta := false,zetaHave := false }) only
 repeat' walk_at "ref step"
noncomputable def classP (name : Str) (bases : List Expr) (keywords : List Keyword) (body : List Stmt) (decorators : List Expr) (scope : Scope) (x1 : Option Scope) (bind : Str) (statics : List Str) (pos : Pos) (env : Env) :
  {F : (List Value → List (Str × Value) → Sem Value) → Sem Flow // ∀ X,(∀ p k,X p k = buildClass name (qualnameIn env name bind) p k body scope statics (firstLineOf decorators pos) env pos none) → exec (.ClassDef name bases keywords body decorators [] scope x1 bind statics pos) env = F X } := by
 refine ⟨?_,?_⟩
 rotate_left
 ·intro X hX
  rewrite [arm_exec_ClassDef]
  simp only [← hX]
  exact rfl
noncomputable def classF (name : Str) (bases : List Expr) (keywords : List Keyword) (body : List Stmt) (decorators : List Expr) (scope : Scope) (x1 : Option Scope) (bind : Str) (statics : List Str) (pos : Pos) (env : Env) : (List Value → List (Str × Value) → Sem Value) → Sem Flow :=
 (classP name bases keywords body decorators scope x1 bind statics pos env).1
theorem classF_eq {name : Str} {bases : List Expr} {keywords : List Keyword} {body : List Stmt} {decorators : List Expr} {scope : Scope} {x1 : Option Scope} {bind : Str} {statics : List Str} {pos : Pos} {env : Env} :
  exec (.ClassDef name bases keywords body decorators [] scope x1 bind statics pos) env = classF name bases keywords body decorators scope x1 bind statics pos env fun p k => buildClass name (qualnameIn env name bind) p k body scope statics (firstLineOf decorators pos) env pos none :=
 (classP name bases keywords body decorators scope x1 bind statics pos env).2 _ fun _ _ => rfl
noncomputable def execC (st : Stmt) (env : Env) : Sem Flow := match st with
 | .ClassDef name bases keywords body decorators [] scope x1 bind statics pos => classF name bases keywords body decorators scope x1 bind statics pos env fun p k => buildN name (qualnameIn env name bind) p k body scope statics (firstLineOf decorators pos) env pos none
 | st => exec2 st env
theorem RefO.execC_2 (hu : A.units < cLine) {body : List Stmt} {env env' : Env} {st : Stmt} (h : G.execC st env' = G.exec2 st env') : RefO M A (.func body env) (G.execC st env') (exec st env') := by
 rw [h]; exact RefO.exec2 hu
theorem RefO.execC (hd : A.depth < recursionLimit) (hu : A.units < cLine) {body : List Stmt} {env env' : Env} {st : Stmt} : RefO M A (.func body env) (execC st env') (exec st env') := by
 cases st
 case ClassDef name bases keywords body decorators tp scope x1 bind statics pos =>
  cases tp
  case nil =>
   show RefO _ _ _ (classF name bases keywords body decorators scope x1 bind statics pos env' fun p k => buildN name (qualnameIn env' name bind) p k body scope statics (firstLineOf decorators pos) env' pos none) _
   rw [classF_eq]
   delta classF classP
   dsimp only
   refine Ref.toO ?_
   with_reducible refine Ref.bind (Ref.refl _) fun decos => ?_
   with_reducible refine Ref.bind (Ref.refl _) fun _ => ?_
   with_reducible refine Ref.bind (Ref.refl _) fun _ => ?_
   with_reducible refine Ref.bind (Ref.holding ?_) fun _ => ?_
   ·with_reducible refine Ref.bind (Ref.refl _) fun _ => ?_
    with_reducible refine Ref.bind (Ref.refl _) fun _ => ?_
    with_reducible refine Ref.holding ?_
    with_reducible exact Ref.build hd
   ·with_reducible exact Ref.refl _
  all_goals exact RefO.execC_2 hu rfl
 all_goals exact RefO.execC_2 hu rfl
noncomputable def execsC : List Stmt → Env → Sem Flow
 | [],_ => pure .next
 | s :: rest,env => do
  let f ← execC s env
  match f with
  | .next => execsC rest env
  | f => pure f
theorem RefO.execsC (hd : A.depth < recursionLimit) (hu : A.units < cLine) {body : List Stmt} {env env' : Env} : ∀ {b : List Stmt},RefO M A (.func body env) (execsC b env') (execs b env')
 | [] => RefO.refl _
 | s :: rest => RefO.bind (RefO.execC hd hu) fun f => by
  cases f with
  | next => exact RefO.execsC hd hu
  | _ => exact RefO.refl _
end
noncomputable def ent2 : Code → Sem Fin
 | .func body env => do
  point
  let f ← (execsC body env).onRaise (leaving env)
  match f with
  | .ret v => ret v
  | _ => ret .none
 | c => entTree c
theorem ent2_ok {w : World} : EntOk prg w ent2 := by
 intro A c hd hu
 cases c with
 | func body env => exact RefO.bind (RefO.refl _) fun _ => RefO.bind (RefO.onRaise (RefO.execsC hd hu)) fun f => RefO.refl _
 | _ => exact RefO.ent hd
end Mine.G
end
section
namespace Mine.G
noncomputable def RefA {α : Type} (t' t : Sem α) : Prop := ∀ M A,Ref M A t' t
section
variable {α β : Type}
theorem RefA.refl (t : Sem α) : RefA t t := fun _ _ => Ref.refl t
theorem RefA.bind {m : Sem α} {f' f : α → Sem β} (h : ∀ a,RefA (f' a) (f a)) : RefA (m >>= f') (m >>= f) := fun M A => Ref.bind (Ref.refl _) fun a => h a M A
noncomputable def onSome (t : α → Sem β) : Option α → Sem β
 | some a => t a
 | none => unsupported "onSome"
noncomputable def onNone (t : Sem β) : Option α → Sem β
 | some _ => unsupported "onNone"
 | none => t
noncomputable def onRef (t : Addr → Sem β) : Value → Sem β
 | .ref a => t a
 | _ => unsupported "onRef"
noncomputable def onType (t : String → Sem β) : Value → Sem β
 | .type a => t a
 | _ => unsupported "onType"
noncomputable def mirr (t : Unit → Sem β) : Sem β := t ()
theorem RefA.unsup {e : String} {t : Sem α} : RefA (unsupported e) t := fun _ _ => Ref.unsup
theorem RefA.some {m : Sem (Option α)} {t' : α → Sem β} {f : Option α → Sem β} (h : ∀ a,RefA (t' a) (f (some a))) : RefA (m >>= onSome t') (m >>= f) :=
 RefA.bind fun x => by cases x <;> first | exact h _ | exact RefA.unsup
theorem RefA.none {m : Sem (Option α)} {t' : Sem β} {f : Option α → Sem β} (h : RefA t' (f none)) : RefA (m >>= onNone t') (m >>= f) :=
 RefA.bind fun x => by cases x <;> first | exact h | exact RefA.unsup
theorem RefA.ref {m : Sem Value} {t' : Addr → Sem β} {f : Value → Sem β} (h : ∀ a,RefA (t' a) (f (.ref a))) : RefA (m >>= onRef t') (m >>= f) :=
 RefA.bind fun x => by cases x <;> first | exact h _ | exact RefA.unsup
theorem RefA.type {m : Sem Value} {t' : String → Sem β} {f : Value → Sem β} (h : ∀ a,RefA (t' a) (f (.type a))) : RefA (m >>= onType t') (m >>= f) :=
 RefA.bind fun x => by cases x <;> first | exact h _ | exact RefA.unsup
theorem RefA.dum {t' : Unit → Sem β} {t : Sem β} (h : ∀ u,RefA (t' u) t) : RefA (mirr t') t := h ()
noncomputable def onSome2 (t : Option α → α → Sem β) : Option α → Sem β
 | some a => t (some a) a
 | none => unsupported "onSome"
theorem RefA.some2 {m : Sem (Option α)} {t' : Option α → α → Sem β} {f : Option α → Sem β} (h : ∀ o a,RefA (t' o a) (f (Option.some a))) : RefA (m >>= onSome2 t') (m >>= f) :=
 RefA.bind fun x => by cases x <;> first | exact h _ _ | exact RefA.unsup
noncomputable def onRef2 (t : Value → Addr → Sem β) : Value → Sem β
 | .ref a => t (.ref a) a
 | _ => unsupported "onRef"
theorem RefA.ref2 {m : Sem Value} {t' : Value → Addr → Sem β} {f : Value → Sem β} (h : ∀ v a,RefA (t' v a) (f (.ref a))) : RefA (m >>= onRef2 t') (m >>= f) :=
 RefA.bind fun x => by cases x <;> first | exact h _ _ | exact RefA.unsup
theorem RefA.ifN {p : Prop} [Decidable p] {y' x y : Sem α} (h : RefA y' y) : RefA (if p then unsupported "ifN" else y') (if p then x else y) := by
 split
 ·exact RefA.unsup
 ·exact h
theorem RefA.ifY {p : Prop} [Decidable p] {x' x y : Sem α} (h : RefA x' x) : RefA (if p then x' else unsupported "ifY") (if p then x else y) := by
 split
 ·exact h
 ·exact RefA.unsup
end
theorem RefA.pure {α β : Type} {a : α} {f : α → Sem β} {t' : Sem β} (h : RefA t' (f a)) : RefA t' (pure a >>= f) := h
noncomputable def tnewQ (mn : String) (nameV : Value) (b ns : Addr) : { T : Sem Fin // RefA T (Builtin.«type.__new__» ⟨[.type mn,nameV,.ref b,.ref ns],[]⟩) } := by
 apply Subtype.mk
 ·delta Builtin.«type.__new__»
  show RefA _ _
  apply RefA.some2
  intro _
  intro name
  apply RefA.bind
  intro x
  apply RefA.ifN
  apply RefA.dum
  intro _
  apply RefA.bind
  intro x
  apply RefA.ifN
  apply RefA.dum
  intro _
  apply RefA.dum
  intro _
  apply RefA.bind
  intro given
  apply RefA.dum
  intro _
  apply RefA.ifN
  apply RefA.dum
  intro _
  apply RefA.dum
  intro _
  apply RefA.bind
  intro u
  apply RefA.dum
  intro _
  apply RefA.type
  intro winner
  apply RefA.dum
  intro _
  apply RefA.ifN
  apply RefA.dum
  intro _
  apply RefA.bind
  intro u
  apply RefA.dum
  intro _
  apply RefA.bind
  intro extended
  apply RefA.ifN
  apply RefA.dum
  intro _
  apply RefA.bind
  intro stored
  apply RefA.bind
  intro walk
  apply RefA.ifY
  apply RefA.pure
  apply RefA.dum
  intro _
  apply RefA.dum
  intro _
  apply RefA.bind
  intro slots
  apply RefA.dum
  intro _
  apply RefA.ref
  intro ns2
  apply RefA.ifN
  apply RefA.dum
  intro _
  apply RefA.dum
  intro _
  apply RefA.bind
  intro u
  apply RefA.dum
  intro _
  apply RefA.dum
  intro _
  apply RefA.ifN
  apply RefA.some
  intro qn
  apply RefA.some
  intro q
  apply RefA.some2
  intro _
  intro qs
  apply RefA.none
  apply RefA.dum
  intro _
  apply RefA.dum
  intro _
  apply RefA.bind
  intro a
  apply RefA.dum
  intro _
  apply RefA.ifY
  apply RefA.bind
  intro u
  apply RefA.bind
  intro u
  rw [show (Option.orElse (some qn) fun _ => some nameV) = some qn from rfl]
  apply RefA.bind
  intro u
  apply RefA.dum
  intro _
  apply RefA.bind
  intro u
  apply RefA.none
  apply RefA.dum
  intro _
  apply RefA.bind
  intro u
  apply RefA.dum
  intro _
  apply RefA.none
  apply RefA.dum
  intro _
  apply RefA.dum
  intro _
  apply RefA.none
  apply RefA.dum
  intro _
  apply RefA.none
  apply RefA.bind
  intro lin
  apply RefA.pure
  apply RefA.dum
  intro _
  dsimp (config := { zeta := false,zetaHave := false }) only
  rw [List.filter_cons_of_neg (p := fun x => x != Value.ref a) (a := Value.ref a) (l := lin) (by simp)]
  exact RefA.refl _
theorem denote_builtin {id : String} {args : Args} {b : Builtin} (h : entryFor table id = some b) : denote table (.builtin id args) = b args := by
 show (match entryFor table id with | some b => b args | none => unsupported ((withoutEnding? id "#data").getD id)) = _
 rw [h]
theorem entry_tnew : entryFor table "type.__new__" = some Builtin.«type.__new__» := entryFor_of_tree (by kernel_rfl)
noncomputable def tnewN (mn : String) (nameV : Value) (b ns : Addr) : Sem Fin := (tnewQ mn nameV b ns).1
noncomputable def ent3 : Code → Sem Fin
 | .builtin id ⟨[.type mn,nameV,.ref b,.ref ns],[]⟩ => cond (id == "type.__new__") (tnewN mn nameV b ns) (unsupported "ent3")
 | c => ent2 c
theorem ent3_2 {w : World} {A : Around} {c : Code} (hd : A.depth < recursionLimit) (hu : A.units < cLine) (h : ent3 c = ent2 c) : RefO (model prg w) A c (ent3 c) (denote table c) := by
 rw [h]; exact ent2_ok A c hd hu
theorem ent3_ok {w : World} : EntOk prg w ent3 := by
 intro A c hd hu
 cases c
 case builtin id args =>
  rcases args with ⟨ps,kw⟩
  cases ps
  case cons v1 t =>
   cases v1
   case type mn =>
    cases t
    case cons nameV t =>
     cases t
     case cons v3 t =>
      cases v3
      case ref b =>
       cases t
       case cons v4 t =>
        cases v4
        case ref ns =>
         cases t
         case nil =>
          cases kw
          case nil =>
           show RefO _ _ _ (cond (id == "type.__new__") (tnewN mn nameV b ns) (unsupported "ent3")) _
           cases h : id == "type.__new__" with
           | true =>
            refine Ref.toO ?_
            rw [beq_iff_eq.mp h,denote_builtin entry_tnew]
            exact (tnewQ mn nameV b ns).2 _ _
           | false => exact RefO.unsup
          all_goals exact ent3_2 hd hu rfl
         all_goals exact ent3_2 hd hu rfl
        all_goals exact ent3_2 hd hu rfl
       all_goals exact ent3_2 hd hu rfl
      all_goals exact ent3_2 hd hu rfl
     all_goals exact ent3_2 hd hu rfl
    all_goals exact ent3_2 hd hu rfl
   all_goals exact ent3_2 hd hu rfl
  all_goals exact ent3_2 hd hu rfl
 all_goals exact ent3_2 hd hu rfl
lay_quick ent3
theorem ent3_r : ent3 = ent3 := rfl
name_quick mineEnt3 for ent3 by ent3_r
theorem entQ3_eq : ent3 = PySem.W.Fast.mineEnt3 := PySem.W.Fast.mineEnt3_eq
end Mine.G
end
section
namespace Mine.G
noncomputable def supO (a b c : Value) : Obj := { cls := .type "super",data := .fields #[a,b,c] }
noncomputable def clsO (cd : ClassData) (sl : List (Option Value)) : Obj := { cls := .type "type",data := .cls cd,slots := sl.toArray }
theorem entry_supInit : entryFor table "super.__init__" = some Builtin.«super.__init__» := entryFor_of_tree (by kernel_rfl)
theorem entry_supGet : entryFor table "super.__getattribute__" = some Builtin.«super.__getattribute__» := entryFor_of_tree (by kernel_rfl)
noncomputable def supInitC (a k : Nat) (cd : ClassData) (sl : List (Option Value)) : Ctr :=
 {code := .builtin "super.__init__" ⟨[.ref a,.ref k,.ref k],[]⟩,pre := [(a,supO .none .none .none),(k,clsO cd sl)],val := fun _ _ => .none,upd := fun _ _ => [(a,supO (.ref k) (.ref k) (.ref k))],news := fun _ _ => [],grow := 0,toks := 0,dm := 930,um := 8000 }
theorem supInit_ok {w : World} {a k : Nat} {cd : ClassData} {sl : List (Option Value)} {l : List Value} (hm : cd.mro = .ref k :: l) (hak : a ≠ k) : CtrOk w (supInitC a k cd sl) := by
 intro A s hd hu hh hl hp
 have pa : s.heap.get? a = some (supO .none .none .none) := hp (a,supO .none .none .none) (.head _)
 have pk : s.heap.get? k = some (clsO cd sl) := hp (k,clsO cd sl) (.tail _ (.head _))
 obtain ⟨h,g,d',t,os⟩ := s
 dsimp only at pa pk
 refine codeAny_builtin entry_supInit ?_
 have L1 : Looks (model prg w) h (isType (.ref k)) true := (Looks.ld pk).andThen .now
 have L0 : Looks (model prg w) h (mroOf (.ref k)) (.ref k :: l) := by
  have : Looks (model prg w) h (mroOf (.ref k)) cd.mro := ((Looks.ld (part := none) pk).andThen .now).andThen .now
  rwa [hm] at this
 have L2 : Looks (model prg w) h (isSubtype (.ref k) (.ref k)) true := by
  refine L0.andThen ?_
  show Looks _ _ (pure ((Value.ref k :: l : List Value).contains (.ref k))) true
  rw [List.contains_cons,beq_self_eq_true,Bool.true_or]
  exact .now
 unfold Builtin.«super.__init__»
 show wpAny (model prg w) _ _ _ _ _
 repeat lk
 let f (i : Nat) : Obj → Obj := Obj.mapFields fun x => x.setIfInBounds i (Value.ref k)
 let h1 := h.update a (f 0)
 let h2 := h1.update a (f 1)
 let h3 := h2.update a (f 2)
 have g1 : h1.get? a = some (supO (.ref k) .none .none) := Heap.get?_update_self (f 0) pa rfl
 have g2 : h2.get? a = some (supO (.ref k) (.ref k) .none) := Heap.get?_update_self (f 1) g1 rfl
 have g3 : h3.get? a = some (supO (.ref k) (.ref k) (.ref k)) := Heap.get?_update_self (f 2) g2 rfl
 show wpAny (model prg w) _ (update a (f 0)) _ _ _
 refine wpAny_update pa ?_
 refine wpAny_bind (wpAny_setField g1 rfl (by simp) ?_)
 refine wpAny_bind (wpAny_setField g2 rfl (by simp) ?_)
 have s1 : Heap.SameBut a h h1 := Heap.SameBut.update ..
 have s2 : Heap.SameBut a h1 h2 := Heap.SameBut.update ..
 have s3 : Heap.SameBut a h2 h3 := Heap.SameBut.update ..
 refine wpAny_pure ⟨rfl,?_,rfl,?_,(fun p hp => nomatch hp),?_,id,rfl⟩
 ·show h3.objs.size = h.objs.size + 0
  exact s3.1.trans (s2.1.trans s1.1)
 ·intro p hp
  simp only [supInitC,List.mem_cons,List.not_mem_nil,or_false] at hp
  subst hp
  exact g3
 ·intro b o hb hq
  have hne : a ≠ b := hq (a,supO (.ref k) (.ref k) (.ref k)) (.head _)
  exact (s3.2 b hne.symm).trans ((s2.2 b hne.symm).trans ((s1.2 b hne.symm).trans hb))
theorem lk2 (P : Params) : lkQ P 2 = some (k2 P) := by kernel_rfl
theorem k2_any (P : Params) : nsLook (Str.ofString "thirdparty.any") (k2 P) = pure none := by kernel_rfl
noncomputable def nIS : Str := Str.ofString "__init_subclass__"
noncomputable def bmO (k : Nat) : Obj := { cls := .type "builtin_function_or_method",data := .fields #[.builtin "object.__init_subclass__",.ref k] }
theorem lkP_none {P : Params} {k : Nat} (h : 281 ≤ k) : lkP (fun _ => none) P k = none := by
 unfold lkP
 cases q : Nat.blt k 281 with
 | true =>
  have := (Nat.blt_eq ▸ q : k < 281)
  lia
 | false => rfl
theorem lkP_lowN {P : Params} {b : Nat} {o : Obj} (e : lkP (fun _ => none) P b = some o) : lkQ P b = some o := by
 unfold lkP at e
 cases q : Nat.blt b 281 with
 | true => rw [q] at e; exact e
 | false => rw [q] at e; cases e
noncomputable abbrev clsK (k : Nat) (cd : ClassData) (sl : List (Option Value)) : Obj := clsO { cd with mro := [.ref k,.type "object"] } sl
noncomputable def z_cmg_run (n t k : Nat) (cd : ClassData) (sl : List (Option Value)) : Rslt :=
 ⟨.fin (.ok (.ret (.ref n))),n,1,t,0,[some (n,bmO k)],[clsK k cd sl],[]⟩
theorem cmg_run {PT : Nat → Option Obj} {w : World} {n t k : Nat} {cd : ClassData} {sl : List (Option Value)} {om : Om} :
  chk [0] (runC PySem.W.Fast.mineEnt1 (vwP PT w n t [k] (fun _ => []) (fun _ => []) om 900 8000) 50 (.call (.builtin "classmethod_descriptor.__get__") ⟨[.builtin "object.__init_subclass__",.none,.ref k],[]⟩) false [.go,d 0,d 0] [clsK k cd sl]) (z_cmg_run n t k cd sl) := by
 delta chk
 apply w1 (w := w) <;> kernel_rfl
theorem cmg_okC {k : Nat} : okCode (.call (.builtin "classmethod_descriptor.__get__") ⟨[.builtin "object.__init_subclass__",.none,.ref k],[]⟩) = true := by kernel_rfl
noncomputable def supGetC (a k tn : Nat) (cd : ClassData) (sl : List (Option Value)) : Ctr :=
 {code := .builtin "super.__getattribute__" ⟨[.ref a,.str nIS tn],[]⟩,pre := [(a,supO (.ref k) (.ref k) (.ref k)),(k,clsK k cd sl)],val := fun n _ => .ref n,upd := fun _ _ => [],news := fun _ _ => [(0,bmO k)],grow := 1,toks := 0,dm := 880,um := 7800 }
theorem str_cmg : (toString "classmethod_descriptor" ++ toString "." ++ toString (Str.ofString "__get__").toString) = "classmethod_descriptor.__get__" := by kernel_rfl
theorem str_ois : (toString "object" ++ toString "." ++ toString nIS.toString) = "object.__init_subclass__" := by kernel_rfl
theorem supGet_ok {w : World} {a k tn : Nat} {cd : ClassData} {sl : List (Option Value)} (h281 : 281 ≤ k) : CtrOk w (supGetC a k tn cd sl) := by
 intro A s hd hu hh hl hp
 have pa : s.heap.get? a = some (supO (.ref k) (.ref k) (.ref k)) := hp (a,supO (.ref k) (.ref k) (.ref k)) (.head _)
 have pk : s.heap.get? k = some (clsK k cd sl) := hp (k,clsK k cd sl) (.tail _ (.head _))
 obtain ⟨h,g,d',t,os⟩ := s
 dsimp only at pa pk
 refine codeAny_builtin entry_supGet ?_
 have L0 : Looks (model prg w) h (mroOf (.ref k)) [.ref k,.type "object"] := ((Looks.ld (part := none) pk).andThen .now).andThen .now
 have pS : h.get? cStatics = some (k2 w.params) := hl 2 _ (lk2 _)
 have L3 : Looks (model prg w) h (nsLook (Str.ofString "thirdparty.any") (k2 w.params)) none := Looks.of_pure (k2_any _)
 have f0 := looks_field (M := model prg w) pa 0 (v := .ref k) rfl
 have f1 := looks_field (M := model prg w) pa 1 (v := .ref k) rfl
 have f2 := looks_field (M := model prg w) pa 2 (v := .ref k) rfl
 unfold Builtin.«super.__getattribute__»
 show wpAny (model prg w) _ _ _ _ _
 iterate 41 lk
 try dsimp only
 rw [show List.drop 1 (List.dropWhile (fun x => x != Value.ref k) [Value.ref k,.type "object"]) = [.type "object"] from by simp]
 repeat (first | with_reducible refine wpAny_call ?_ | lk)
 rw [str_cmg,str_ois,beq_self_eq_true,if_pos rfl]
 have h1 := fun om : Om => cmg_run (PT := fun _ => none) (w := w) (n := h.objs.size) (t := t) (k := k) (cd := cd) (sl := sl) (om := om)
 have S : StartP (fun _ => none) w h.objs.size t [k] [clsK k cd sl] ⟨h,g,d',t,os⟩ := by
  refine startP_of (by simp) (fun b hb => ?_) rfl (fun b o e => hl b o ?_) ?_
  ·rw [List.mem_singleton] at hb
   subst hb
   exact lkP_none h281
  ·exact lkP_lowN e
  ·intro p hp
   simp only [List.zip_cons_cons,List.zip_nil_right,List.mem_cons,List.not_mem_nil,or_false] at hp
   subst hp
   exact pk
 have hw : (Code.builtin "super.__getattribute__" ⟨[.ref a,.str nIS tn],[]⟩).weight ≤ 1 := Nat.le_of_ble_eq_true rfl
 have hc : (Code.builtin "super.__getattribute__" ⟨[.ref a,.str nIS tn],[]⟩).cUnits ≤ 10 := Nat.le_of_ble_eq_true rfl
 refine run_codePE ent1_ok entQ1_eq S (fun _ => an) (fun _ => an) ?_ ?_ hh cmg_okC (by decide) (by decide) h1 fun om s1 B => ?_
 ·have hd : A.depth ≤ 880 := hd
  show A.depth + (Code.builtin "super.__getattribute__" ⟨[.ref a,.str nIS tn],[]⟩).weight ≤ 900
  lia
 ·have hu : A.units ≤ 7800 := hu
  show A.units + (Code.builtin "super.__getattribute__" ⟨[.ref a,.str nIS tn],[]⟩).cUnits ≤ 8000
  lia
 ·have bs := B.size
  have bt := B.toks
  have bn := B.own 0 _ _ rfl
  have bk : ∀ b o,h.get? b = some o → s1.heap.get? b = some o := fun b o e => B.still e fun j hj => by
   match j with
   | 0 =>
    simp at hj
    subst hj
    have : h.get? k = some o := e
    rw [pk] at this
    cases this; rfl
   | j + 1 => simp at hj
  have bb := B.bare
  have bo := B.os
  obtain ⟨h2,g2,d2,t2,os2⟩ := s1
  show wpAny (model prg w) _ _ _ _ _
  repeat lk
  refine ⟨rfl,bs,bt,(fun p hp => nomatch hp),?_,fun b o e _ => bk b o e,bb,bo⟩
  intro p hp
  simp only [supGetC,List.mem_cons,List.not_mem_nil,or_false] at hp
  subst hp
  exact bn.2
end Mine.G
end
section
namespace Mine.G
noncomputable def lnewC (f : Int) (tk : Nat) : Ctr :=
 {code := .builtin "list.__new__" ⟨[.ref 101,.int f tk],[]⟩,pre := [],val := fun n _ => .ref (n + 1),upd := fun _ _ => [],news := fun n _ => [(0,{ cls := .type "dict",data := .dict #[] 0 }),(1,inst n [] 0)],grow := 2,toks := 0,dm := 930,um := 8000 }
theorem lnew_ok {w : World} {f : Int} {tk : Nat} : CtrOk w (lnewC f tk) := by
 intro A s hd hu hh hl hp
 have p101 : s.heap.get? 101 = some (k101 w.params) := hl 101 _ lk101
 refine codeAny_builtin_stack F.entry_list_new rfl fun p st => ?_
 have hown := owner_list_new
 obtain ⟨hp0,g,d',tk0,os⟩ := s
 dsimp only at p101
 have L1 : Looks (model prg w) hp0 (isType (.ref 101)) true := (Looks.ld p101).andThen .now
 have L2 : Looks (model prg w) hp0 (mroOf (.ref 101)) [.ref 101,.type "list",.type "object"] := ((Looks.ld (part := none) p101).andThen .now).andThen .now
 have L3 : Looks (model prg w) hp0 (isSubtype (.ref 101) (.type "list")) true := by
  refine L2.andThen ?_
  show Looks _ _ (pure (([.ref 101,.type "list",.type "object"] : List Value).contains (.type "list"))) true
  exact Looks.of_pure (by kernel_rfl)
 show wpAny (model prg w) _ _ _ _ _
 simp only [hown]
 repeat lk
 refine nd_load (Heap.get?_push_of_some _ (Heap.get?_push_of_some _ p101)) ?_
 repeat lk
 have e0 : ((hp0.push { cls := .type "dict",data := .dict #[] }).push { cls := .ref 101,dict := some hp0.objs.size,data := .seq #[] }).get? hp0.objs.size = some { cls := .type "dict",data := .dict #[] } := by heap_get
 have e1 : ((hp0.push { cls := .type "dict",data := .dict #[] }).push { cls := .ref 101,dict := some hp0.objs.size,data := .seq #[] }).get? (hp0.objs.size + 1) = some { cls := .ref 101,dict := some hp0.objs.size,data := .seq #[] } := by heap_get
 have hz : (hp0.push { cls := .type "dict",data := .dict #[] }).objs.size = hp0.objs.size + 1 := by rw [Heap.size_push]
 refine ⟨by rw [hz]; rfl,?_,rfl,(fun p hp => nomatch hp),?_,fun b o h _ => Heap.get?_push_of_some _ (Heap.get?_push_of_some _ h),id,rfl⟩
 ·show ((hp0.push { cls := .type "dict",data := .dict #[] }).push { cls := .ref 101,dict := some hp0.objs.size,data := .seq #[] }).objs.size = hp0.objs.size + 2
  rw [Heap.size_push,Heap.size_push]
 ·intro p hp
  revert p
  refine ac ?_ (ac ?_ (an))
  ·exact e0
  ·exact e1
end Mine.G
end
section
namespace Mine.G
noncomputable def nInit : Str := Str.ofString "_initial_size"
noncomputable def dB (P : Params) (t : Nat) (f : Int) (u : Nat) : Obj := dct (PyData.keyHash P nInit) (t + 5) f u 1
noncomputable def csB2 (P : Params) (n t : Nat) (f : Int) (u k1 k2 tk1 tk2 : Nat) : List Ctr := [lnewC f u,pushC k1 tk1 (n + 1) (n + 2) (dB P t f u) [] 0,pushC k2 tk2 (n + 1) (n + 2) (dB P t f u) [.ref (n + 20)] 1]
noncomputable def csB1 (P : Params) (n t : Nat) (f : Int) (u k1 tk1 : Nat) : List Ctr := [lnewC f u,pushC k1 tk1 (n + 1) (n + 2) (dB P t f u) [] 0]
end Mine.G
end
section
namespace Mine.G
noncomputable def tpB2 : List Tk := (cat [l,l] (cat tp7 (cat [l,.go,l,o 0,l,l,.go,l,l,.go,l,.go,l,l,l,.go,l,l,l,l,l,l,l,(.ctr 0 [] []),o 2,l,o 2,l,l,l,l,.ent,l,l,l,o 3,o 3,o 3,o 3,l,.ent,o 3,o 3,o 2,l,l,l,.go,o 2,l,.go,o 2,l,o 2,l,l,l,o 2,l,o 1,o 1,o 1,l,l,l,l,l,o 3,l,.go,.go,l,.go,.go,o 4,o 4,.go,o 4,.go,l,o 2,o 2,l] (cat tp47 (cat [o 4,o 4,o 4] (cat tp4 (cat [o 4,l,l,.go,.go,o 2,l,o 5,.go,o 5,.go,o 2,o 2,o 2,o 2] (cat tp28 (cat [d 0,d 0,.go,d 0] (cat tp68 (cat [o 6,.go,o 6,o 6,d 0,o 6,o 6] (cat tp33 (cat [(.ctr 1 [.own 1,.own 2] [.own 1,.own 2])] (cat tp68 (cat [o 6,o 6,d 0,o 6,o 6] (cat tp33 (cat [(.ctr 2 [.own 1,.own 2] [.own 1,.own 2])] (cat tp68 [o 6,o 6,d 0,o 6,o 6,o 36,.go,o 0]))))))))))))))))))
noncomputable def tpB1 : List Tk := (cat [l,l] (cat tp7 (cat [l,.go,l,o 0,l,l,.go,l,l,.go,l,.go,l,l,l,.go,l,l,l,l,l,l,l,(.ctr 0 [] []),o 2,l,o 2,l,l,l,l,.ent,l,l,l,o 3,o 3,o 3,o 3,l,.ent,o 3,o 3,o 2,l,l,l,.go,o 2,l,.go,o 2,l,o 2,l,l,l,o 2,l,o 1,o 1,o 1,l,l,l,l,l,o 3,l,.go,.go,l,.go,.go,o 4,o 4,.go,o 4,.go,l,o 2,o 2,l] (cat tp47 (cat [o 4,o 4,o 4] (cat tp4 (cat [o 4,l,l,.go,.go,o 2,l,o 5,.go,o 5,.go,o 2,o 2,o 2,o 2] (cat tp28 (cat [d 0,d 0,.go,d 0] (cat tp68 (cat [o 6,.go,o 6,o 6,d 0,o 6,o 6] (cat tp33 (cat [(.ctr 1 [.own 1,.own 2] [.own 1,.own 2])] (cat tp68 [o 6,o 6,d 0,o 6,o 6,o 22,.go,o 0]))))))))))))))
noncomputable def z_begunA (w : World) (n t u tk1 tk2 : Nat) : Rslt :=
 ⟨.fin (.ok (.ret (.ref (n + 281 + 2)))),n + 281,37,t,48,[some (n + 281 + 1,dB w.params t 0 u),some (n + 281 + 2,inst (n + 281 + 1) [.ref (n + 281 + 20),.ref (n + 281 + 34)] 2),some (n + 281 + 20,piece 2 (t + 15)),some (n + 281 + 34,piece 4 (t + 39))],[lst [.int 2 tk1,.int 4 tk2] 0],[]⟩
theorem begunA {PT : Nat → Option Obj} {w : World} {n t R u tk1 tk2 : Nat} {om : Om} :
  chk [1,2,20,34] (runC PySem.W.Fast.mineEnt1 (vwP PT w (n + 281) t [R] (fun _ => csB2 w.params (n + 281) t 0 u 2 4 tk1 tk2) (fun _ => []) om 850 6900) 400 (.call (.ref 262) ⟨[.int 0 u,.ref R],[]⟩) true tpB2 [lst [.int 2 tk1,.int 4 tk2] 0]) (z_begunA w n t u tk1 tk2) := by
 delta chk
 apply w1 (w := w) <;> kernel_rfl
noncomputable def z_begunB (w : World) (n t u tk1 tk2 : Nat) : Rslt :=
 ⟨.fin (.ok (.ret (.ref (n + 281 + 2)))),n + 281,37,t,48,[some (n + 281 + 1,dB w.params t 1 u),some (n + 281 + 2,inst (n + 281 + 1) [.ref (n + 281 + 20),.ref (n + 281 + 34)] 2),some (n + 281 + 20,piece 2 (t + 15)),some (n + 281 + 34,piece 1 (t + 33))],[lst [.int 2 tk1,.int 1 tk2] 0],[]⟩
theorem begunB {PT : Nat → Option Obj} {w : World} {n t R u tk1 tk2 : Nat} {om : Om} :
  chk [1,2,20,34] (runC PySem.W.Fast.mineEnt1 (vwP PT w (n + 281) t [R] (fun _ => csB2 w.params (n + 281) t 1 u 2 1 tk1 tk2) (fun _ => []) om 850 6900) 400 (.call (.ref 262) ⟨[.int 1 u,.ref R],[]⟩) true tpB2 [lst [.int 2 tk1,.int 1 tk2] 0]) (z_begunB w n t u tk1 tk2) := by
 delta chk
 apply w1 (w := w) <;> kernel_rfl
noncomputable def z_begunC (w : World) (n t u tk1 : Nat) : Rslt :=
 ⟨.fin (.ok (.ret (.ref (n + 281 + 2)))),n + 281,23,t,28,[some (n + 281 + 1,dB w.params t 4 u),some (n + 281 + 2,inst (n + 281 + 1) [.ref (n + 281 + 20)] 1),some (n + 281 + 20,piece 2 (t + 15))],[lst [.int 2 tk1] 0],[]⟩
theorem begunC {PT : Nat → Option Obj} {w : World} {n t R u tk1 : Nat} {om : Om} :
  chk [1,2,20] (runC PySem.W.Fast.mineEnt1 (vwP PT w (n + 281) t [R] (fun _ => csB1 w.params (n + 281) t 4 u 2 tk1) (fun _ => []) om 850 6900) 400 (.call (.ref 262) ⟨[.int 4 u,.ref R],[]⟩) true tpB1 [lst [.int 2 tk1] 0]) (z_begunC w n t u tk1) := by
 delta chk
 apply w1 (w := w) <;> kernel_rfl
end Mine.G
end
section
namespace Mine.G
theorem beg_okC {f : Int} {u R : Nat} : okCode (.call (.ref 262) ⟨[.int f u,.ref R],[]⟩) = true := by kernel_rfl
theorem csB2_ok {PT : Nat → Option Obj} {w : World} {n t u k1 k2 tk1 tk2 : Nat} {f : Int} (h1 : k1 < 6) (h2 : k2 < 6) (hn : 281 ≤ n) : ∀ C ∈ csB2 w.params n t f u k1 k2 tk1 tk2,CtrOkP PT w C := by
 intro C hC
 revert C
 refine ac ?_ (ac ?_ (ac ?_ (an)))
 ·exact ctrP lnew_ok
 ·exact ctrP (push_ok h1 (by simp) (by lia) (by lia) (by lia))
 ·exact ctrP (push_ok h2 (by simp) (by lia) (by lia) (by lia))
theorem csB1_ok {PT : Nat → Option Obj} {w : World} {n t u k1 tk1 : Nat} {f : Int} (h1 : k1 < 6) (hn : 281 ≤ n) : ∀ C ∈ csB1 w.params n t f u k1 tk1,CtrOkP PT w C := by
 intro C hC
 revert C
 refine ac ?_ (ac ?_ (an))
 ·exact ctrP lnew_ok
 ·exact ctrP (push_ok h1 (by simp) (by lia) (by lia) (by lia))
noncomputable def begAC (P : Params) (R u tk1 tk2 : Nat) : Ctr :=
 {code := .call (.ref 262) ⟨[.int 0 u,.ref R],[]⟩,pre := [(R,lst [.int 2 tk1,.int 4 tk2] 0)],val := fun n _ => .ref (n + 2),upd := fun _ _ => [],news := fun n t => [(1,dB P t 0 u),(2,inst (n + 1) [.ref (n + 20),.ref (n + 34)] 2),(20,piece 2 (t + 15)),(34,piece 4 (t + 39))],grow := 37,toks := 48,dm := 850,um := 6900 }
theorem begA_ok {PT : Nat → Option Obj} {w : World} {R u tk1 tk2 : Nat} (h281 : 281 ≤ R) (off : lkP PT w.params R = none) : CtrOkP PT w (begAC w.params R u tk1 tk2) := by
 intro A s hd hu hh hl hp
 have pR : s.heap.get? R = some (lst [.int 2 tk1,.int 4 tk2] 0) := hp (R,_) (.head _)
 have hlt : @LT.lt Nat _ R s.heap.objs.size := Heap.lt_size pR
 have S : StartP PT w s.heap.objs.size s.toks [R] [lst [.int 2 tk1,.int 4 tk2] 0] s := by
  refine startP_of (by simp) (fun b hb => by rw [List.mem_singleton] at hb; subst hb; exact off) rfl hl ?_
  intro p hp
  simp only [List.zip_cons_cons,List.zip_nil_right,List.mem_cons,List.not_mem_nil,or_false] at hp
  subst hp; exact pR
 obtain ⟨n',hn'⟩ := Nat.exists_eq_add_of_le' (show 281 ≤ s.heap.objs.size by lia)
 have h1 := fun om : Om => begunA (PT := PT) (w := w) (n := n') (t := s.toks) (R := R) (u := u) (tk1 := tk1) (tk2 := tk2) (om := om)
 simp only [z_begunA,← hn'] at h1
 refine run_codePE ent1_ok entQ1_eq S (fun om => csB2_ok (by lia) (by lia) (by lia)) (fun _ => an) (dm := 850) (um := 6900) hd hu hh beg_okC (by decide) (by decide) h1 fun om s1 B => ⟨rfl,B.size,B.toks,(fun p hp => nomatch hp),?_,fun b o e _ => B.still e fun j hj => ?_,B.bare,B.os⟩
 ·intro p hp'
  revert p
  refine ac ?_ (ac ?_ (ac ?_ (ac ?_ (an))))
  ·exact (B.own 0 _ _ rfl).2
  ·exact (B.own 1 _ _ rfl).2
  ·exact (B.own 2 _ _ rfl).2
  ·exact (B.own 3 _ _ rfl).2
 ·match j with
  | 0 => simp at hj; subst hj; rw [pR] at e; cases e; rfl
  | j + 1 => simp at hj
noncomputable def begBC (P : Params) (R u tk1 tk2 : Nat) : Ctr :=
 {code := .call (.ref 262) ⟨[.int 1 u,.ref R],[]⟩,pre := [(R,lst [.int 2 tk1,.int 1 tk2] 0)],val := fun n _ => .ref (n + 2),upd := fun _ _ => [],news := fun n t => [(1,dB P t 1 u),(2,inst (n + 1) [.ref (n + 20),.ref (n + 34)] 2),(20,piece 2 (t + 15)),(34,piece 1 (t + 33))],grow := 37,toks := 48,dm := 850,um := 6900 }
theorem begB_ok {PT : Nat → Option Obj} {w : World} {R u tk1 tk2 : Nat} (h281 : 281 ≤ R) (off : lkP PT w.params R = none) : CtrOkP PT w (begBC w.params R u tk1 tk2) := by
 intro A s hd hu hh hl hp
 have pR : s.heap.get? R = some (lst [.int 2 tk1,.int 1 tk2] 0) := hp (R,_) (.head _)
 have hlt : @LT.lt Nat _ R s.heap.objs.size := Heap.lt_size pR
 have S : StartP PT w s.heap.objs.size s.toks [R] [lst [.int 2 tk1,.int 1 tk2] 0] s := by
  refine startP_of (by simp) (fun b hb => by rw [List.mem_singleton] at hb; subst hb; exact off) rfl hl ?_
  intro p hp
  simp only [List.zip_cons_cons,List.zip_nil_right,List.mem_cons,List.not_mem_nil,or_false] at hp
  subst hp; exact pR
 obtain ⟨n',hn'⟩ := Nat.exists_eq_add_of_le' (show 281 ≤ s.heap.objs.size by lia)
 have h1 := fun om : Om => begunB (PT := PT) (w := w) (n := n') (t := s.toks) (R := R) (u := u) (tk1 := tk1) (tk2 := tk2) (om := om)
 simp only [z_begunB,← hn'] at h1
 refine run_codePE ent1_ok entQ1_eq S (fun om => csB2_ok (by lia) (by lia) (by lia)) (fun _ => an) (dm := 850) (um := 6900) hd hu hh beg_okC (by decide) (by decide) h1 fun om s1 B => ⟨rfl,B.size,B.toks,(fun p hp => nomatch hp),?_,fun b o e _ => B.still e fun j hj => ?_,B.bare,B.os⟩
 ·intro p hp'
  revert p
  refine ac ?_ (ac ?_ (ac ?_ (ac ?_ (an))))
  ·exact (B.own 0 _ _ rfl).2
  ·exact (B.own 1 _ _ rfl).2
  ·exact (B.own 2 _ _ rfl).2
  ·exact (B.own 3 _ _ rfl).2
 ·match j with
  | 0 => simp at hj; subst hj; rw [pR] at e; cases e; rfl
  | j + 1 => simp at hj
noncomputable def begCC (P : Params) (R u tk1 : Nat) : Ctr :=
 {code := .call (.ref 262) ⟨[.int 4 u,.ref R],[]⟩,pre := [(R,lst [.int 2 tk1] 0)],val := fun n _ => .ref (n + 2),upd := fun _ _ => [],news := fun n t => [(1,dB P t 4 u),(2,inst (n + 1) [.ref (n + 20)] 1),(20,piece 2 (t + 15))],grow := 23,toks := 28,dm := 850,um := 6900 }
theorem begC_ok {PT : Nat → Option Obj} {w : World} {R u tk1 : Nat} (h281 : 281 ≤ R) (off : lkP PT w.params R = none) : CtrOkP PT w (begCC w.params R u tk1) := by
 intro A s hd hu hh hl hp
 have pR : s.heap.get? R = some (lst [.int 2 tk1] 0) := hp (R,_) (.head _)
 have hlt : @LT.lt Nat _ R s.heap.objs.size := Heap.lt_size pR
 have S : StartP PT w s.heap.objs.size s.toks [R] [lst [.int 2 tk1] 0] s := by
  refine startP_of (by simp) (fun b hb => by rw [List.mem_singleton] at hb; subst hb; exact off) rfl hl ?_
  intro p hp
  simp only [List.zip_cons_cons,List.zip_nil_right,List.mem_cons,List.not_mem_nil,or_false] at hp
  subst hp; exact pR
 obtain ⟨n',hn'⟩ := Nat.exists_eq_add_of_le' (show 281 ≤ s.heap.objs.size by lia)
 have h1 := fun om : Om => begunC (PT := PT) (w := w) (n := n') (t := s.toks) (R := R) (u := u) (tk1 := tk1) (om := om)
 simp only [z_begunC,← hn'] at h1
 refine run_codePE ent1_ok entQ1_eq S (fun om => csB1_ok (by lia) (by lia)) (fun _ => an) (dm := 850) (um := 6900) hd hu hh beg_okC (by decide) (by decide) h1 fun om s1 B => ⟨rfl,B.size,B.toks,(fun p hp => nomatch hp),?_,fun b o e _ => B.still e fun j hj => ?_,B.bare,B.os⟩
 ·intro p hp'
  revert p
  refine ac ?_ (ac ?_ (ac ?_ (an)))
  ·exact (B.own 0 _ _ rfl).2
  ·exact (B.own 1 _ _ rfl).2
  ·exact (B.own 2 _ _ rfl).2
 ·match j with
  | 0 => simp at hj; subst hj; rw [pR] at e; cases e; rfl
  | j + 1 => simp at hj
end Mine.G
end
section
namespace Mine.G
noncomputable def runK (entQ : Code → Sem Fin) (V : Vw) (n : Nat) (R : RunR) (r : Result) (tp : List Tk) (U : List Obj) : RunR := match R with
 | some (.at_ _ κ k₀,_) => back (run dq entQ V n) κ k₀ r tp (mem0 V U)
 | _ => none
noncomputable def seeC (ks : List Nat) : RunR → Option ((Code × Nat × Bool) × Rslt × List Ob)
 | some (.at_ c κ _,M) => some ((c,κ.length,κ.all fun f => okCode f.1),⟨.other,M.b,M.m,M.tb,M.i,ks.map M.T.get,M.U,M.fz⟩,M.ob.map (·.1))
 | _ => none
noncomputable def chkS (ks : List Nat) (R : RunR) (c : Code) (len : Nat) (x : Rslt) : Prop := seeC ks R = some ((c,len,true),x,seeR R)
theorem chkS_elim {ks : List Nat} {R : RunR} {c : Code} {len : Nat} {x : Rslt} (h : chkS ks R c len x) :
  ∃ κ k₀ M,R = some (.at_ c κ k₀,M) ∧ κ.length = len ∧ kOk κ ∧ M.b = x.b ∧ M.m = x.m ∧ M.tb = x.tb ∧ M.i = x.i ∧ ks.map M.T.get = x.T ∧ M.U = x.U ∧ M.fz = x.fz ∧ good M := by
 unfold chkS at h
 cases R with
 | none => cases h
 | some r =>
  obtain ⟨a,M⟩ := r
  cases a with
  | fin r => cases h
  | at_ c' κ k₀ =>
   simp only [seeC,seeR,Option.some.injEq,Prod.mk.injEq] at h
   obtain ⟨⟨rfl,h1,h2⟩,rfl,h7⟩ := h
   exact ⟨κ,k₀,M,rfl,h1,fun f hf => List.all_eq_true.mp h2 f hf,rfl,rfl,rfl,rfl,rfl,rfl,rfl,good_of h7⟩
structure Held (w : World) (A : Around) (κ : List Frm) (len : Nat) : Prop where
 ok : kOk κ
 depth : (ar A κ).depth ≤ A.depth + len
 units : (ar A κ).units ≤ A.units + 3 * len
 handled : (ar A κ).handled = none
theorem held_of {w : World} {A : Around} {κ : List Frm} (h : kOk κ) (hh : A.handled = none) : Held w A κ κ.length := by
 obtain ⟨x,y,z⟩ := ar_le' (V := vwP (fun _ => none) w 0 0 [] (fun _ => []) (fun _ => []) (fun _ _ => 0) A.depth A.units) (A := A) (Nat.le_refl A.depth) (Nat.le_refl A.units) hh h
 exact ⟨h,x,y,z⟩
section
variable {PT : Nat → Option Obj} {w : World} {n t : Nat} {L : List Nat} {cs : Om → List Ctr} {xs : Om → List XC} {dm um : Nat} {U : List Obj} {s : Shared} {A : Around} {Q : Result → Shared → Prop} {E : Value → Shared → Prop}
theorem from_codeP {ent entQ : Code → Sem Fin} (EO : EntOk prg w ent) (eq : ent = entQ) {c : Code} {e : Bool} {N : Nat} {tp : List Tk} (S : StartP PT w n t L U s) (CO : ∀ om,∀ C ∈ cs om,CtrOkP PT w C) (XO : ∀ om,∀ C ∈ xs om,XOkP PT w C)
  (hd : A.depth ≤ dm) (hu : A.units ≤ um) (hh : A.handled = none) (hok : okCode c = true) (hdm : dm ≤ 900) (hum : um ≤ 9000)
  (h : ∀ om,∃ a M,runC entQ (vwP PT w n t L cs xs om dm um) N c e tp U = some (a,M) ∧ good M ∧ ∀ s',InvM (vwP PT w n t L cs xs (fun _ _ => 0) dm um) s M s' → OutOk prg w A Q E a s') :
  codeAny (model prg w) A c (fun r s' => wpAny (model prg w) A (Sem.pure r) Q E s') s := by
 subst eq
 let V := vwP PT w n t L cs xs (fun _ _ => 0) dm um
 have key : ∀ t0,(∀ om,∃ a M,run (denote table) ent (V.at_ om) N (.i c [] Sem.pure t0) tp (mem0 V U) = some (a,M) ∧ good M ∧ ∀ s',InvM V s M s' → OutOk prg w A Q E a s') → MeansC prg w A Q E (.i c [] Sem.pure t0) s := by
  intro t0 ht
  exact run_T (V := V) (Q := Q) (E := E) (A := A) EO (StartP.ok S) CO XO hd hu hh N (.i c [] Sem.pure t0) tp (mem0 V U) (fun _ _ => 0) (fun om _ => ht om) (show kOk [] from fun f hf => by cases hf) s (StartP.inv S)
 have get : ∀ om,∃ a M,run (denote table) ent (V.at_ om) N (.i c [] Sem.pure (match e with | true => ent c | false => denote table c)) tp (mem0 V U) = some (a,M) ∧ good M ∧ ∀ s',InvM V s M s' → OutOk prg w A Q E a s' := by
  intro om
  obtain ⟨a,M,hR,g⟩ := h om
  refine ⟨a,M,?_,g⟩
  unfold runC at hR
  rw [← dq_eq] at hR
  exact hR
 cases e with
 | false => exact y_code _ _ _ _ _ _ (key _ get)
 | true =>
  refine y_code _ _ _ _ _ _ (RefO.own (EO _ _ ?_ ?_) (key _ get))
  ·have := (okCode_weight hok).1
   show A.depth + c.weight < 1000
   lia
  ·have := (okCode_weight hok).2
   show A.units + c.cUnits < 9900
   lia
theorem from_stopP {ent entQ : Code → Sem Fin} (EO : EntOk prg w ent) (eq : ent = entQ) {c : Code} {κ : List Frm} {k₀ : Result → Sem Result} {M0 : Mem} {r : Result} {N : Nat} {tp : List Tk} (S : StartP PT w n t L U s) (CO : ∀ om,∀ C ∈ cs om,CtrOkP PT w C) (XO : ∀ om,∀ C ∈ xs om,XOkP PT w C)
  (hd : A.depth ≤ dm) (hu : A.units ≤ um) (hh : A.handled = none) (hk : kOk κ)
  (h : ∀ om,∃ a M,runK entQ (vwP PT w n t L cs xs om dm um) N (some (.at_ c κ k₀,M0)) r tp U = some (a,M) ∧ good M ∧ ∀ s',InvM (vwP PT w n t L cs xs (fun _ _ => 0) dm um) s M s' → OutOk prg w A Q E a s') : en prg w A Q E k₀ κ r s := by
 subst eq
 let V := vwP PT w n t L cs xs (fun _ _ => 0) dm um
 refine back_T (V := V) (Q := Q) (E := E) (A := A) (run_T (V := V) (Q := Q) (E := E) (A := A) EO (StartP.ok S) CO XO hd hu hh N) (om₀ := fun _ _ => 0) (tp := tp) (M := mem0 V U) (fun om _ => ?_) hk s (StartP.inv S)
 obtain ⟨a,M,hR,g⟩ := h om
 refine ⟨a,M,?_,g⟩
 unfold runK at hR
 rw [← dq_eq] at hR
 exact hR
theorem stop_outP {ent entQ : Code → Sem Fin} (EO : EntOk prg w ent) (eq : ent = entQ) {c : Code} {κ : List Frm} {k₀ : Result → Sem Result} {M0 : Mem} {r : Result} {N : Nat} {tp : List Tk} {ks : List Nat} {x : Om → Rslt} (S : StartP PT w n t L U s) (CO : ∀ om,∀ C ∈ cs om,CtrOkP PT w C) (XO : ∀ om,∀ C ∈ xs om,XOkP PT w C)
  (hd : A.depth ≤ dm) (hu : A.units ≤ um) (hh : A.handled = none) (hk : kOk κ) (h : ∀ om,chk ks (runK entQ (vwP PT w n t L cs xs om dm um) N (some (.at_ c κ k₀,M0)) r tp U) (x om))
  (q : ∀ om s',Behind s s' L (x om) → OutV w A Q E (x om).val s') : en prg w A Q E k₀ κ r s :=
 from_stopP EO eq S CO XO hd hu hh hk fun om => by
  obtain ⟨a,M,hR,h0,h1,h2,h3,h4,h5,h6,h7,g⟩ := chk_elim (h om)
  exact ⟨a,M,hR,g,fun s' I => outV_ok (h0 ▸ q om s' (behind_ofP S (cs := cs) (xs := xs) (om := fun _ _ => 0) (dm := dm) (um := um) I h1 h2 h3 h4 h5 h6 h7))⟩
theorem code_stopP {ent entQ : Code → Sem Fin} (EO : EntOk prg w ent) (eq : ent = entQ) {c : Code} {c' : Om → Code} {e : Bool} {N : Nat} {tp : List Tk} {ks : List Nat} {len : Nat} {x : Om → Rslt} (S : StartP PT w n t L U s) (CO : ∀ om,∀ C ∈ cs om,CtrOkP PT w C) (XO : ∀ om,∀ C ∈ xs om,XOkP PT w C)
  (hd : A.depth ≤ dm) (hu : A.units ≤ um) (hh : A.handled = none) (hok : okCode c = true) (hdm : dm ≤ 900) (hum : um ≤ 9000) (h : ∀ om,chkS ks (runC entQ (vwP PT w n t L cs xs om dm um) N c e tp U) (c' om) len (x om))
  (q : ∀ om κ k₀ M,runC entQ (vwP PT w n t L cs xs om dm um) N c e tp U = some (.at_ (c' om) κ k₀,M) → Held w A κ len → ∀ s',Behind s s' L (x om) → codeAny (model prg w) (ar A κ) (c' om) (en prg w A Q E k₀ κ) s') :
  codeAny (model prg w) A c (fun r s' => wpAny (model prg w) A (Sem.pure r) Q E s') s :=
 from_codeP EO eq S CO XO hd hu hh hok hdm hum fun om => by
  obtain ⟨κ,k₀,M,hR,hl,hk,h1,h2,h3,h4,h5,h6,h7,g⟩ := chkS_elim (h om)
  subst hl
  exact ⟨_,M,hR,g,fun s' I => q om κ k₀ M hR (held_of hk hh) s' (behind_ofP S (cs := cs) (xs := xs) (om := fun _ _ => 0) (dm := dm) (um := um) I h1 h2 h3 h4 h5 h6 h7)⟩
theorem stop_stopP {ent entQ : Code → Sem Fin} (EO : EntOk prg w ent) (eq : ent = entQ) {c : Code} {c' : Om → Code} {κ : List Frm} {k₀ : Result → Sem Result} {M0 : Mem} {r : Result} {N : Nat} {tp : List Tk} {ks : List Nat} {len : Nat} {x : Om → Rslt} (S : StartP PT w n t L U s) (CO : ∀ om,∀ C ∈ cs om,CtrOkP PT w C) (XO : ∀ om,∀ C ∈ xs om,XOkP PT w C)
  (hd : A.depth ≤ dm) (hu : A.units ≤ um) (hh : A.handled = none) (hk : kOk κ) (h : ∀ om,chkS ks (runK entQ (vwP PT w n t L cs xs om dm um) N (some (.at_ c κ k₀,M0)) r tp U) (c' om) len (x om))
  (q : ∀ om κ' k₀' M,runK entQ (vwP PT w n t L cs xs om dm um) N (some (.at_ c κ k₀,M0)) r tp U = some (.at_ (c' om) κ' k₀',M) → Held w A κ' len → ∀ s',Behind s s' L (x om) → codeAny (model prg w) (ar A κ') (c' om) (en prg w A Q E k₀' κ') s') : en prg w A Q E k₀ κ r s :=
 from_stopP EO eq S CO XO hd hu hh hk fun om => by
  obtain ⟨κ',k₀',M,hR,hl,hk',h1,h2,h3,h4,h5,h6,h7,g⟩ := chkS_elim (h om)
  subst hl
  exact ⟨_,M,hR,g,fun s' I => q om κ' k₀' M hR (held_of hk' hh) s' (behind_ofP S (cs := cs) (xs := xs) (om := fun _ _ => 0) (dm := dm) (um := um) I h1 h2 h3 h4 h5 h6 h7)⟩
end
end Mine.G
end
section
theorem Mine.G.eval_r : @PySem.eval = @PySem.eval := rfl
lay_quick PySem.eval
name_quick mineEval for PySem.eval by Mine.G.eval_r
namespace Mine.G
theorem Behind.butP {s s' : Shared} {n t : Nat} {L : List Nat} {U : List Obj} {x : Rslt} (B : Behind s s' L x) {PT : Nat → Option Obj} {w : World} (S : StartP PT w n t L U s) {Ch : List Nat} (h : sameBut Ch L U x.U) : Mv Ch s s' := by
 refine ⟨B.grow,fun b o hb hn => ?_,B.bare,B.os⟩
 refine B.still hb fun i hi => ?_
 have hlt : i < U.length := by
  rw [S.len]
  exact (List.getElem?_eq_some_iff.mp hi).1
 have h1 : U[i]? = some U[i] := List.getElem?_eq_getElem hlt
 have h3 : U[i] = o := Option.some.inj ((S.old i b _ hi h1).symm.trans hb)
 exact sameBut_get h i b o hi hn (by rw [h1,h3])
theorem Mv.all {s s' : Shared} (m : Mv [] s s') : ∀ b o,s.heap.get? b = some o → s'.heap.get? b = some o := fun b o h => m.keep b o h (fun x => nomatch x)
noncomputable def inc : Nat → List Nat → Prop
 | _,[] => True
 | a,b :: l => a < b ∧ inc b l
theorem inc_pw : ∀ {l : List Nat} {a : Nat},inc a l → (a :: l).Pairwise (· < ·)
 | [],_,_ => .cons (fun _ h => nomatch h) .nil
 | b :: l,a,h => by
  have ih := inc_pw h.2
  refine .cons (fun x hx => ?_) ih
  rcases List.mem_cons.mp hx with rfl | hx
  ·exact h.1
  ·exact Nat.lt_trans h.1 (List.rel_of_pairwise_cons ih hx)
theorem nd_perm {a : Nat} {l p : List Nat} (h : inc a l) (hp : p.Nodup) {N : Nat} (hN : (a :: l).length = N) (hb : ∀ i ∈ p,i < N) : (p.map fun i => (a :: l).getD i 0).Nodup := by
 have hs := List.pairwise_iff_getElem.mp (inc_pw h)
 refine List.pairwise_map.mpr (List.Pairwise.imp_of_mem ?_ hp)
 intro i j hi hj ne e
 subst hN
 have bi := hb i hi
 have bj := hb j hj
 rw [List.getD_eq_getElem?_getD,List.getD_eq_getElem?_getD,List.getElem?_eq_getElem bi,List.getElem?_eq_getElem bj] at e
 rcases Nat.lt_or_gt_of_ne ne with q | q
 ·exact Nat.ne_of_lt (hs i j bi bj q) e
 ·exact Nat.ne_of_lt (hs j i bj bi q) e.symm
theorem nd2 {n m : Nat} {l k : List Nat} (hl : l.Nodup) (hk : k.Nodup) (h : ∀ i ∈ l,n + i < m) : (l.map (n + ·) ++ k.map (m + ·)).Nodup := by
 refine List.nodup_append.mpr ⟨List.pairwise_map.mpr (List.Pairwise.imp (fun ne e => ne (Nat.add_left_cancel e)) hl),List.pairwise_map.mpr (List.Pairwise.imp (fun ne e => ne (Nat.add_left_cancel e)) hk),fun a ha b hb e => ?_⟩
 obtain ⟨i,hi,rfl⟩ := List.mem_map.mp ha
 obtain ⟨j,_,rfl⟩ := List.mem_map.mp hb
 exact Nat.ne_of_lt (Nat.lt_of_lt_of_le (h i hi) (Nat.le_add_right m j)) e
theorem nd3 {n : Nat} {l k : List Nat} (hl : l.Nodup) (hk : k.Nodup) (h : ∀ j ∈ k,j < n) : (l.map (n + ·) ++ k).Nodup := by
 refine List.nodup_append.mpr ⟨List.pairwise_map.mpr (List.Pairwise.imp (fun ne e => ne (Nat.add_left_cancel e)) hl),hk,fun a ha b hb e => ?_⟩
 obtain ⟨i,hi,rfl⟩ := List.mem_map.mp ha
 exact Nat.ne_of_gt (Nat.lt_of_lt_of_le (h b hb) (Nat.le_add_right n i)) e
theorem XC.after1 {C : XC} {ω : Nat → Nat} {s s' : Shared} {a : Nat} {o : Obj} (hu : C.upd ω = [(a,o)]) (hn : C.news ω = []) (h0 : s'.heap.objs.size = ω 0) (h1 : s'.toks = ω 1) (hs : s.heap.objs.size ≤ s'.heap.objs.size) (ha : s'.heap.get? a = some o)
  (hk : ∀ (b : Nat) o',s.heap.get? b = some o' → b ≠ a → s'.heap.get? b = some o') (hb : AllBare s.gens → AllBare s'.gens) (ho : s'.os = s.os) : AfterX C ω s s' := by
 refine ⟨h0,h1,h0 ▸ hs,?_,?_,?_,hb,ho⟩
 ·rw [hu]; exact ac ha an
 ·rw [hn]; exact an
 ·rw [hu]
  exact fun b o' h q => hk b o' h fun e => q _ (.head _) e.symm
theorem codeAny_ret {p : Program} {w : World} {A : Around} {e : Expr} {pos : Pos} {env : Env} {R : Result → Shared → Prop} {s : Shared} (h : wpAny (model p w) (A.deeper env) (eval e env) (fun v s' => R (.ok (.ret v)) s') (fun _ _ => False) s) : codeAny (model p w) A (.func [.Return (some e) pos] env) R s :=
 codeAny_func (wpAny_mono (wpAny_execs_cons (wpAny_Return_some h)) (fun _ _ h => h) fun _ _ h => h.elim)
theorem XC.ok_of {V : Mine.Vw} {C : XC} (H : ∀ (A : Around) (s : Shared) (Q : Result → Shared → Prop),A.depth ≤ C.dm → A.units ≤ C.um → A.handled = none → (∀ a o,V.lk a = some o → s.heap.get? a = some o) → (∀ p ∈ C.pre,s.heap.get? p.1 = some p.2) →
  (∀ ω s',AfterX C ω s s' → Q (C.res ω) s') → codeAny (model V.prog V.w) A C.code Q s) : C.Ok V := fun A s hd hu hh hl hp => H A s _ hd hu hh hl hp fun ω _ h => ⟨ω,rfl,h⟩
noncomputable abbrev RunT (α : Type) := Option (Out α × Mem)
structure RsltT (α : Type) where
 val : Option α
 b : Nat
 m : Nat
 tb : Nat
 i : Nat
 T : List (Option (Addr × Obj))
 U : List Obj
 fz : List (Addr × Obj)
section
variable {α : Type}
noncomputable def vtOf : Out α → Option α
 | .fin v => some v
 | _ => none
noncomputable def seeLT (ks : List Nat) : RunT α → Option (RsltT α × List Ob)
 | none => none
 | some (a,M) => some (⟨vtOf a,M.b,M.m,M.tb,M.i,ks.map M.T.get,M.U,M.fz⟩,M.ob.map (·.1))
noncomputable def seeRT : RunT α → List Ob
 | none => []
 | some (_,M) => M.ob.map (·.2)
noncomputable def chkT (ks : List Nat) (R : RunT α) (x : RsltT α) : Prop := seeLT ks R = some (x,seeRT R)
theorem chkT_elim {ks : List Nat} {R : RunT α} {x : RsltT α} (h : chkT ks R x) : ∃ a M,R = some (a,M) ∧ x.val = vtOf a ∧ M.b = x.b ∧ M.m = x.m ∧ M.tb = x.tb ∧ M.i = x.i ∧ ks.map M.T.get = x.T ∧ M.U = x.U ∧ M.fz = x.fz ∧ good M := by
 unfold chkT at h
 cases R with
 | none => cases h
 | some r =>
  obtain ⟨a,M⟩ := r
  simp only [seeLT,seeRT,Option.some.injEq,Prod.mk.injEq] at h
  obtain ⟨hx,hob⟩ := h
  subst hx
  exact ⟨a,M,rfl,rfl,rfl,rfl,rfl,rfl,rfl,rfl,rfl,good_of hob⟩
noncomputable def runT (entQ : Code → Sem Fin) (V : Vw) (n : Nat) (t : Sem α) (tp : List Tk) (U : List Obj) : RunT α := run dq entQ V n (.b t) tp (mem0 V U)
section
variable {PT : Nat → Option Obj} {w : World} {n t : Nat} {L : List Nat} {cs : Om → List Ctr} {xs : Om → List XC} {om : Om} {dm um : Nat} {U : List Obj} {s : Shared} {A : Around} {Q : α → Shared → Prop} {E : Value → Shared → Prop}
noncomputable def toR (x : RsltT α) : Rslt := ⟨.other,x.b,x.m,x.tb,x.i,x.T,x.U,x.fz⟩
theorem run_treeP {ent entQ : Code → Sem Fin} (EO : EntOk prg w ent) (eq : ent = entQ) {tr : Sem α} {N : Nat} {tp : List Tk} {ks : List Nat} {x : Om → RsltT α} (S : StartP PT w n t L U s) (CO : ∀ om,∀ C ∈ cs om,CtrOkP PT w C) (XO : ∀ om,∀ C ∈ xs om,XOkP PT w C)
  (hd : A.depth ≤ dm) (hu : A.units ≤ um) (hh : A.handled = none) (h : ∀ om,chkT ks (runT entQ (vwP PT w n t L cs xs om dm um) N tr tp U) (x om))
  (q : ∀ om s',Behind s s' L (toR (x om)) → ((∀ om,cs om = []) → (∀ om,xs om = []) → s'.gens = s.gens ∧ s'.drawn = s.drawn) → ∃ v,(x om).val = some v ∧ Q v s') : wpAny (model prg w) A tr Q E s := by
 subst eq
 let V := vwP PT w n t L cs xs (fun _ _ => 0) dm um
 have key : MeansC prg w A Q E (.b tr) s := by
  refine run_T (V := V) (Q := Q) (E := E) (A := A) EO (StartP.ok S) CO XO hd hu hh N (.b tr) tp (mem0 V U) (fun _ _ => 0) (fun om _ => ?_) trivial s (StartP.inv S)
  have hx := h om
  obtain ⟨a,M,hR,h0,h1,h2,h3,h4,h5,h6,h7,g⟩ := chkT_elim hx
  unfold runT at hR
  rw [← dq_eq] at hR
  refine ⟨a,M,hR,g,fun s' I => ?_⟩
  obtain ⟨v,hv,hQ⟩ := q om s' (behind_ofP S (x := toR (x om)) (cs := cs) (xs := xs) (om := fun _ _ => 0) (dm := dm) (um := um) I h1 h2 h3 h4 h5 h6 h7) I.calm
  rw [h0] at hv
  cases a with
  | fin v' => cases hv; exact hQ
  | at_ c κ k₀ => cases hv
 exact key
end
end
end Mine.G
end
section
namespace Mine.G
noncomputable abbrev lenM : Stmt := meth 3 4
noncomputable def sLen : Str := ⟨#[95,65,99,99,117,109,117,108,97,116,111,114,46,95,95,108,101,110,95,95,46,60,108,111,99,97,108,115,62,46]⟩
noncomputable def nSelf : Str := ⟨#[115,101,108,102]⟩
noncomputable def lenEnv (n : Nat) : Env := envOf lenM n 68 67 sLen
noncomputable def lenF (n : Nat) : Code := .func (bodyOf lenM) (lenEnv n)
noncomputable def retOf : List Stmt → Expr
 | .Return (some e) _ :: _ => e
 | _ => .Constant .none 0 ⟨0,0,0,0⟩
noncomputable def argOf : Expr → Nat → Expr
 | .Call _ as _ _,i => as.getD i (.Constant .none 0 ⟨0,0,0,0⟩)
 | e,_ => e
noncomputable def frSelf (w : World) (t a : Nat) : Obj := { cls := .type "frame",data := .dict #[de (PyData.keyHash w.params nSelf) nSelf t (.ref a)] 1 }
end Mine.G
end
section
open PySem.Calls
namespace Mine.G
noncomputable def tpLenH : List Tk := [l,l,o 0,o 0,l,.stop]
noncomputable def z_len_head (w : World) (n t a dd e : Nat) (xs : List Value) : Rslt :=
 ⟨.tail (lenF n) Sem.pure,n,1,t,1,[some (n,frSelf w t a)],[inst dd xs e],[]⟩
theorem len_head {PT : Nat → Option Obj} {w : World} {n t a dd e : Nat} {xs : List Value} {om : Om} :
  chk [0] (runC PySem.W.Fast.mineEnt1 (vwP PT w n t [a] (fun _ => []) (fun _ => []) om 850 7000) 100 (.call (.ref 68) ⟨[.ref a],[]⟩) true tpLenH [inst dd xs e]) (z_len_head w n t a dd e xs) := by
 delta chk
 apply w1 (w := w) <;> kernel_rfl
noncomputable def tpAttr : List Tk := ([d 0,d 1,l,l,l,l,l,l,.go,d 1,l,.go,d 1,l,l,l,d 1,d 1,l,d 2])
noncomputable def z_len_attr (w : World) (n t a dd e tf tg u eu : Nat) (f g : Int) (xs : List Value) : RsltT Value :=
 ⟨some (.int f u),n,0,t,1,[],[frSelf w tf a,inst dd xs e,dct g tg f u eu],[]⟩
theorem len_attr {PT : Nat → Option Obj} {w : World} {n t fr a dd e tf tg u eu : Nat} {f g : Int} {xs : List Value} {om : Om} :
  chkT [] (runT PySem.W.Fast.mineEnt1 (vwP PT w n t [fr,a,dd] (fun _ => []) (fun _ => []) om 860 7100) 100 (PySem.W.Fast.mineEval (argOf (retOf (bodyOf lenM)) 1) (lenEnv fr)) tpAttr [frSelf w tf a,inst dd xs e,dct g tg f u eu]) (z_len_attr w n t a dd e tf tg u eu f g xs) := by
 delta chkT
 apply w1 (w := w) <;> kernel_rfl
noncomputable def tpIter : List Tk := ([d 0,l,l,l,d 0,l,l,l,.go,d 0,l,.go,o 0])
noncomputable def litO (a : Nat) : Obj := { cls := .type "list_iterator",data := .fields #[.ref a,.int 0 0] }
noncomputable def z_iter_run (n t a dd e : Nat) (xs : List Value) : RsltT Value :=
 ⟨some (.ref n),n,1,t,0,[some (n,litO a)],[inst dd xs e],[]⟩
theorem iter_run {PT : Nat → Option Obj} {w : World} {n t a dd e : Nat} {xs : List Value} {om : Om} :
  chkT [0] (runT PySem.W.Fast.mineEnt1 (vwP PT w n t [a] (fun _ => []) (fun _ => []) om 860 7100) 100 (pyIter (.ref a)) tpIter [inst dd xs e]) (z_iter_run n t a dd e xs) := by
 delta chkT
 apply w1 (w := w) <;> kernel_rfl
end Mine.G
end
section
open PySem.Calls
namespace Mine.G
noncomputable def Seqd (h : Heap) (a : Nat) (items : Array Value) : Prop := ∃ ob n,h.get? a = some ob ∧ ob.data = .seq items n
section
variable {prog : Program} {w : World} {A : Around} {E : Value → Shared → Prop} {s : Shared}
theorem next_item {it l : Nat} {i : Nat} {items : Array Value} {x : Value} {Q : Option Value → Shared → Prop} (hit : s.heap.IsListIter it l i) (hl : Seqd s.heap l items) (hx : items[i]? = some x)
  (hQ : ∀ h',h'.IsListIter it l (i + 1) → Heap.SameBut it s.heap h' → Q (some x) { s with heap := h' }) : wpAny (model prog w) A (pyNext (.ref it)) Q E s := by
 obtain ⟨ob,ho,hc,hd⟩ := id hit
 obtain ⟨ol,nl,hol,hdl⟩ := hl
 unfold pyNext
 refine wpAny_bind (wpAny_attempt (wpAny_callSpecial?_slot (name := Str.ofString "__next__") hit.typeIs slot_listiter_next (wpAny_call_entry slot_listiter_next hit.typeIs entry_listiter_next ?_ (args_listiter_next _))))
 show wpAny _ _ (field (.ref it) 0 >>= _) _ _ s
 refine wpAny_bind (wpAny_field ho hd (x := .ref l) rfl ?_)
 show wpAny _ _ (if (Value.ref l == Value.none) = true then _ else _) _ _ s
 rw [if_neg (show ¬ ((Value.ref l == Value.none) = true) from Bool.false_ne_true)]
 show wpAny _ _ (field (.ref it) 1 >>= _) _ _ s
 refine wpAny_bind (wpAny_field ho hd (x := .int i 0) rfl ?_)
 show wpAny _ _ (seqItems? (.ref l) >>= _) _ _ s
 refine wpAny_bind (wpAny_seqItems hol hdl ?_)
 simp only [Int.toNat_natCast,hx]
 refine wpAny_bind (wpAny_setField ho hd (by simp) (wpAny_pure ⟨x,rfl,wpAny_pure (hQ _ ?_ (Heap.SameBut.update ..))⟩))
 exact ⟨_,Heap.get?_update_self _ ho (Obj.isFreed_of_fields (Obj.data_mapFields hd _)),(Obj.cls_mapFields ..).trans hc,by rw [Obj.data_mapFields hd]; simp [rawInt]⟩
theorem next_end {it l : Nat} {i : Nat} {items : Array Value} {Q : Option Value → Shared → Prop} (hh : A.handled = none) (hit : s.heap.IsListIter it l i) (hl : Seqd s.heap l items) (hx : items[i]? = none)
  (hQ : ∀ h',Heap.ExtBut it s.heap h' → Q none { s with heap := h' }) : wpAny (model prog w) A (pyNext (.ref it)) Q E s := by
 obtain ⟨ob,ho,hc,hd⟩ := id hit
 obtain ⟨ol,nl,hol,hdl⟩ := hl
 unfold pyNext
 refine wpAny_bind (wpAny_attempt (wpAny_callSpecial?_slot (name := Str.ofString "__next__") hit.typeIs slot_listiter_next (wpAny_call_entry slot_listiter_next hit.typeIs entry_listiter_next ?_ (args_listiter_next _))))
 show wpAny _ _ (field (.ref it) 0 >>= _) _ _ s
 refine wpAny_bind (wpAny_field ho hd (x := .ref l) rfl ?_)
 show wpAny _ _ (if (Value.ref l == Value.none) = true then _ else _) _ _ s
 rw [if_neg (show ¬ ((Value.ref l == Value.none) = true) from Bool.false_ne_true)]
 show wpAny _ _ (field (.ref it) 1 >>= _) _ _ s
 refine wpAny_bind (wpAny_field ho hd (x := .int i 0) rfl ?_)
 show wpAny _ _ (seqItems? (.ref l) >>= _) _ _ s
 refine wpAny_bind (wpAny_seqItems hol hdl ?_)
 simp only [Int.toNat_natCast,hx]
 refine wpAny_bind (wpAny_rule (wpAny_bind (wpAny_setField ho hd (by simp) ?_)))
 show wpAny _ _ (newExc (.type "StopIteration") [] >>= _) _ _ _
 refine wpAny_bind ?_
 simp only [newExc,newTuple]
 refine wpAny_bind (wpAny_newObj_type ?_ (by size_fits))
 refine wpAny_bind (m := firstArgMember _ _) (wpAny_of_eq (a := Value.none) (by first | rfl | (simp only [firstArgMember]; rfl)) ?_)
 refine wpAny_newObj_type ?_ (by size_fits)
 simp only [raiseNew]
 refine wpAny_bind (wpAny_handled ?_)
 rw [show A.in1.handled = none from hh]
 refine wpAny_bind (wpAny_pure (wpAny_throw ?_))
 refine wpAny_bind (wpAny_isInstance (T := "StopIteration") (b := true) ⟨_,Heap.get?_push_size _ rfl,rfl⟩ isSubtype_stop ?_)
 exact wpAny_pure (hQ _ (((Heap.SameBut.update ..).extBut.push _).push _))
theorem Seqd.extBut {h h' : Heap} {a b : Nat} {items : Array Value} (x : Seqd h a items) (hs : Heap.ExtBut b h h') (hab : a ≠ b) : Seqd h' a items := let ⟨ob,n,ho,r⟩ := x; ⟨ob,n,hs a ob hab ho,r⟩
end
theorem walksInst {prog : Program} {w : World} {A : Around} (hh : A.handled = none) (I ax : Nat) (hne : ax ≠ I) (items : Array Value) (Ts : Nat → Addr) (vals : Nat → Array Value)
  (hit : ∀ j,j < items.size → items[j]? = some (.ref (Ts j))) (hTI : ∀ j,j < items.size → Ts j ≠ I) :
  WalksU prog w A I (I :: ax :: (List.range items.size).map Ts) [I] items.size (fun j v => j < items.size ∧ v = vals j)
   (fun j h => h.IsListIter I ax j ∧ Seqd h ax items ∧ ∀ k,k < items.size → h.IsTuple (Ts k) (vals k))
   (fun j T h => (j < items.size ∧ T = Ts j) ∧ h.IsListIter I ax (j + 1) ∧ Seqd h ax items ∧ ∀ k,k < items.size → h.IsTuple (Ts k) (vals k)) where
 sub := fun b hb => by simp at hb; simp [hb]
 frame := fun _ _ _ st hk => ⟨st.1.at fun o e => hk I (by simp) o e,(let ⟨ob,n,e,r⟩ := st.2.1; ⟨ob,n,hk ax (by simp) ob e,r⟩),
  fun k hk' => (st.2.2 k hk').at fun o e => hk (Ts k) (List.mem_cons_of_mem _ (List.mem_cons_of_mem _ (List.mem_map.mpr ⟨k,List.mem_range.mpr hk',rfl⟩))) o e⟩
 item := fun i s Q E hi st hQ => by
  refine next_item st.1 st.2.1 (x := .ref (Ts i)) (hit i hi) fun h' hit' hs' => ?_
  have tup : ∀ k,k < items.size → h'.IsTuple (Ts k) (vals k) := fun k hk' => (st.2.2 k hk').extBut hs'.extBut (hTI k hk')
  exact hQ (Ts i) (vals i) h' s.toks ⟨hi,rfl⟩ (tup i hi) ⟨⟨hi,rfl⟩,hit',st.2.1.extBut hs'.extBut hne,tup⟩ fun b o hb e => hs'.extBut b o (fun h => hb (by simp [h])) e
 go := fun _ _ _ _ _ s Q _ hm hQ => wpAny_letOwnedTupleGo_listiter hm.2.1 (hQ s.heap hm.2 fun _ _ _ e => e)
 apart := fun j T _ hm hmem => by
  rcases List.mem_cons.mp hmem with e | e
  ·exact hTI j hm.1.1 (hm.1.2 ▸ e)
  ·cases e
 done := fun s Q E st hQ => next_end hh st.1 st.2.1 (by simp) fun h' he' => hQ h' s.toks fun b o hb e => he' b o (fun h => hb (by simp [h])) e
 self := fun _ _ _ _ st hQ => wpAny_pyIter_listiter st.1 hQ
theorem ns_of {h : Heap} {a : Nat} {ob : Obj} {es : Array DictEntry} {ep : Nat} (hg : h.get? a = some ob) (hd : ob.data = .dict es ep) (hs : (es.toList.all fun e => match e.key with | .str _ _ => true | _ => false) = true) : h.Ns a (nsFind es) := by
 refine ⟨ob,es,ep,hg,hd,fun e he => ?_,fun _ => rfl⟩
 have := List.all_eq_true.mp hs e (Array.mem_toList_iff.mpr he)
 cases hk : e.key with
 | str n t => exact ⟨n,t,rfl⟩
 | _ => rw [hk] at this; cases this
theorem entEs (P : Params) : (match (k0 P).data with | .dict es _ => es.toList.all (fun e => match e.key with | .str _ _ => true | _ => false) | _ => false) = true := by kernel_rfl
theorem ent3s (P : Params) : (match (k3 P).data with | .dict es _ => es.toList.all (fun e => match e.key with | .str _ _ => true | _ => false) | _ => false) = true := by kernel_rfl
noncomputable def esOf (ob : Obj) : Array DictEntry := match ob.data with | .dict es _ => es | _ => #[]
theorem k0_len (P : Params) : nsFind (esOf (k0 P)) ⟨#[108,101,110]⟩ = some (.builtin "len") := by kernel_rfl
theorem k0_sum (P : Params) : nsFind (esOf (k0 P)) ⟨#[115,117,109]⟩ = some (.builtin "sum") := by kernel_rfl
theorem k3_len (P : Params) : nsFind (esOf (k3 P)) ⟨#[108,101,110]⟩ = none := by kernel_rfl
theorem k3_sum (P : Params) : nsFind (esOf (k3 P)) ⟨#[115,117,109]⟩ = none := by kernel_rfl
end Mine.G
end
section
open PySem.Calls
namespace Mine.G
theorem args_sum2 (a b : Value) : argsOk "sum" ⟨[a,b],[]⟩ := by unfold argsOk; kernel_rfl
noncomputable def shv (f : Int) (val : Nat → Int) : Nat → Int
 | 0 => f
 | j + 1 => val j
theorem preSum_shv (f : Int) (val : Nat → Int) : ∀ n,preSum (shv f val) (n + 1) = f + preSum val n
 | 0 => by simp [preSum,shv]
 | n + 1 => by
  have ih := preSum_shv f val n
  have e1 : preSum (shv f val) (n + 1 + 1) = preSum (shv f val) (n + 1) + val n := rfl
  have e2 : preSum val (n + 1) = preSum val n + val n := rfl
  rw [e1,e2,ih]; lia
noncomputable def ShP (P : Nat → Value → Prop) : Nat → Value → Prop
 | 0,_ => False
 | j + 1,v => P j v
noncomputable def ShS (St : Nat → Shared → Prop) : Nat → Shared → Prop
 | 0,_ => False
 | j + 1,s => St j s
section
variable {prog : Program} {w : World} {A : Around} {E : Value → Shared → Prop} {s : Shared} {I : Nat} {fp wr : List Addr} {G : Array GenState → Array GenState → Prop} {n : Nat} {P : Nat → Value → Prop} {St : Nat → Shared → Prop}
theorem shW (W : WalksS prog w A I fp wr G n P St) : WalksS prog w A I fp wr G (n + 1) (ShP P) (ShS St) where
 sub := W.sub
 grefl := W.grefl
 gtrans := W.gtrans
 frame := fun i s h' tk st ht hk => by
  cases i with
  | zero => exact st
  | succ i => exact W.frame i s h' tk st ht hk
 item := fun i s Q E hi st hQ => by
  cases i with
  | zero => exact st.elim
  | succ i => exact W.item i s Q E (by lia) st hQ
 done := W.done
 self := fun i s Q E st hQ => by
  cases i with
  | zero => exact st.elim
  | succ i => exact W.self i s Q E st hQ
theorem call_sum_start {f : Int} {tf : Nat} {val : Nat → Int} {Q : Value → Shared → Prop} (W : WalksS prog w A.in1 I fp wr G n P St) (hst : St 0 s) (hfp : ∀ b ∈ fp,b < s.heap.objs.size) (hval : ∀ i v,P i v → ∃ t,v = .int (val i) t)
  (hQ : ∀ s' t',Moved wr G s s' → Q (.int (f + preSum val n) t') s') : wpAny (model prog w) A (call (.builtin "sum") [.ref I,.int f tf]) Q E s := by
 refine call_function_tree F.kind_sum F.plain_sum F.entry_sum (args_sum2 _ _) ?_
 unfold Builtin.«sum»
 show wpAny _ _ (ite (2 + 0 > 2) _ _) _ _ _
 rw [if_neg (by decide)]
 refine wpAny_bind (wpAny_of_eq (show Builtin.Builtins.bindParams "sum" ["start"] 0 ⟨[.int f tf],[]⟩ = pure [some (.int f tf)] from rfl) ?_)
 refine wpAny_bind (W.self 0 s _ _ hst ?_)
 have hSf : s.heap.objs.size ∉ fp := fun hm => Nat.lt_irrefl _ (hfp _ hm)
 have hval' : ∀ i v,ShP P i v → ∃ t,v = .int (shv f val i) t := fun i v h => by
  cases i with
  | zero => exact h.elim
  | succ i => exact hval i v h
 have e1 : preSum (shv f val) 1 = f := by rw [preSum_shv]; simp [preSum]
 show wpAny _ _ (if _ = true then _ else _) _ _ _
 split
 ·refine wpAny_bind (wpAny_rule (wpAny_bind (wpAny_mkInt (wpAny_bind (wpAny_pure ?_)))))
  simp only [List.forIn_cons,List.forIn_nil]
  refine wpAny_bind (wpAny_bind (wpAny_bind (wpAny_isInstance (T := "int") (b := false) (typeIs_int _ _ _) PySem.sub_int_str ?_)))
  rw [if_neg Bool.false_ne_true]
  refine wpAny_pure (wpAny_bind (wpAny_bind (wpAny_isInstance (T := "int") (b := false) (typeIs_int _ _ _) PySem.sub_int_bytes ?_)))
  rw [if_neg Bool.false_ne_true]
  refine wpAny_pure (wpAny_bind (wpAny_bind (wpAny_isInstance (T := "int") (b := false) (typeIs_int _ _ _) PySem.sub_int_bytearray ?_)))
  rw [if_neg Bool.false_ne_true]
  refine wpAny_pure (wpAny_pure ?_)
  refine wpAny_bind (wpAny_newObj_type ?_)
  refine wpAny_pure ⟨plainId_quiet F.plain_sum_loop _,codeAny_sum_loopAnyS (shW W) (shv f val) hval' s.heap.objs.size hSf n 1 _ s.toks 0 0 (.inl rfl) (by lia) (by lia)
   (W.frame 0 s _ _ hst (by first | exact Nat.le_refl _ | exact Nat.le_succ _ | lia) fun b _ o e => Heap.get?_push_of_some _ e) ?_ fun s' t' hm => ?_⟩
  ·rw [e1]; exact Heap.get?_push_size _ rfl
  ·rw [preSum_shv]
   exact hQ s' t' (hm.drop_new (by first | exact Nat.le_refl _ | exact Nat.le_succ _ | lia))
 ·refine wpAny_bind (wpAny_pure ?_)
  simp only [List.forIn_cons,List.forIn_nil]
  refine wpAny_bind (wpAny_bind (wpAny_bind (wpAny_isInstance (T := "int") (b := false) (typeIs_int _ _ _) PySem.sub_int_str ?_)))
  rw [if_neg Bool.false_ne_true]
  refine wpAny_pure (wpAny_bind (wpAny_bind (wpAny_isInstance (T := "int") (b := false) (typeIs_int _ _ _) PySem.sub_int_bytes ?_)))
  rw [if_neg Bool.false_ne_true]
  refine wpAny_pure (wpAny_bind (wpAny_bind (wpAny_isInstance (T := "int") (b := false) (typeIs_int _ _ _) PySem.sub_int_bytearray ?_)))
  rw [if_neg Bool.false_ne_true]
  refine wpAny_pure (wpAny_pure ?_)
  refine wpAny_bind (wpAny_newObj_type ?_)
  refine wpAny_pure ⟨plainId_quiet F.plain_sum_loop _,codeAny_sum_loopAnyS (shW W) (shv f val) hval' s.heap.objs.size hSf n 1 _ tf 0 2 (.inr rfl) (by lia) (by lia)
   (W.frame 0 s _ _ hst (by first | exact Nat.le_refl _ | exact Nat.le_succ _ | lia) fun b _ o e => Heap.get?_push_of_some _ e) ?_ fun s' t' hm => ?_⟩
  ·rw [e1]; exact Heap.get?_push_size _ rfl
  ·rw [preSum_shv]
   exact hQ s' t' (hm.drop_new (by first | exact Nat.le_refl _ | exact Nat.le_succ _ | lia))
end
end Mine.G
end
section
open PySem.Calls
namespace Mine.G
noncomputable def genElt : Expr → Expr
 | .GeneratorExp e _ _ _ => e
 | e => e
noncomputable def genSc : Expr → Scope
 | .GeneratorExp _ _ sc _ => sc
 | _ => { kind := .function,names := [],isGenerator := false,isCoroutine := false }
noncomputable def tb (ps : List Value) : Obj := { cls := .none,data := .fields ps.toArray }
noncomputable abbrev lenG : Expr := argOf (retOf (bodyOf lenM)) 0
noncomputable def nFws : Str := ⟨#[102,119,115]⟩
noncomputable def nPart : Str := ⟨#[112,97,114,116]⟩
noncomputable def nSum : Str := ⟨#[115,117,109]⟩
noncomputable def nLen : Str := ⟨#[108,101,110]⟩
theorem lenBody : ∃ p1 p2 p3,bodyOf lenM = [.Return (some (.Call (.Name nSum p1) [lenG,argOf (retOf (bodyOf lenM)) 1] [] p2)) p3] := ⟨_,_,_,rfl⟩
theorem lenGen : ∃ pa pb pt pi pos,lenG = .GeneratorExp (genElt lenG) [⟨.Tuple [.Name nFws pa,.Name nPart pb] 0 pt,.Name nSelf pi,[],0⟩] (genSc lenG) pos ∧ pos.line = 26 ∧ pos.col = 19 := ⟨_,_,_,_,_,rfl,rfl,rfl⟩
theorem lenElt : ∃ q1 q2 q3 q4 q5 q6 q7,genElt lenG = .BinOp (.Call (.Name nLen q1) [.Name nFws q2] [] q3) .Add (.Call (.Name nLen q4) [.Name nPart q5] [] q6) q7 := ⟨_,_,_,_,_,_,_,rfl⟩
theorem callWith_b1 {M : Model} {A : Around} {E : Value → Shared → Prop} {s : Shared} {pos : Pos} {id : String} {t : Sem Value} {Q : Value → Shared → Prop} (h : wpAny M A t (fun v s₁ => wpAny M A (call (.builtin id) [v]) Q E s₁) E s) : wpAny M A (callWith pos (.builtin id) [] [(false,t)] []) Q E s :=
 callWith_builtin rfl (evalArgs_plain (spliced_cons (wpAny_mono h (fun v s₁ h₁ => spliced_nil h₁) fun _ _ e => e)))
theorem callWith_b2 {M : Model} {A : Around} {E : Value → Shared → Prop} {s : Shared} {pos : Pos} {id : String} {t u : Sem Value} {Q : Value → Shared → Prop} (h : wpAny M A t (fun v s₁ => wpAny M A u (fun v' s₂ => wpAny M A (call (.builtin id) [v,v']) Q E s₂) E s₁) E s) : wpAny M A (callWith pos (.builtin id) [] [(false,t),(false,u)] []) Q E s :=
 callWith_builtin rfl (evalArgs_plain (spliced_cons (wpAny_mono h (fun v s₁ h₁ => spliced_cons (wpAny_mono h₁ (fun v' s₂ h₂ => spliced_nil h₂) fun _ _ e => e)) fun _ _ e => e)))
theorem name_b {prog : Program} {w : World} {A : Around} {E : Value → Shared → Prop} {s : Shared} {P : Params} {env : Env} {x : Str} {p : Pos} {v : Value} {Q : Value → Shared → Prop} (hk : env.scope.kind = .function) (hx : env.kindOf x = some .globalImplicit) (hg : env.globals = 3) (hb : env.builtins = 0)
  (h3 : s.heap.get? 3 = some (k3 P)) (h0 : s.heap.get? 0 = some (k0 P)) (n3 : nsFind (esOf (k3 P)) x = none) (n0 : nsFind (esOf (k0 P)) x = some v) (hd : (x == ("__debug__" : Str)) = false) (h : Q v s) : wpAny (model prog w) A (eval (.Name x p) env) Q E s := by
 refine Name_function_global hk hx (loadGlobal_builtin (mg := nsFind (esOf (k3 P))) (mb := nsFind (esOf (k0 P))) ?_ n3 ?_ n0 h) hd
 ·rw [hg]; exact ns_of h3 rfl (ent3s P)
 ·rw [hb]; exact ns_of h0 rfl (entEs P)
theorem len_elt {prog : Program} {w : World} {A : Around} {E : Value → Shared → Prop} {s : Shared} {P : Params} {C : Nat} {code : Value} {n : Nat} {m : Str → Option Value} {x y : Str} {tx ty : Nat}
  (h3 : s.heap.get? 3 = some (k3 P)) (h0 : s.heap.get? 0 = some (k0 P)) (hn : s.heap.Ns C m) (hx : m nFws = some (.str x tx)) (hy : m nPart = some (.str y ty)) (fx : x.length < 100) (fy : y.length < 100) :
  wpAny (model prog w) A (eval (genElt lenG) (genEnv (genSc lenG) [] C code builtinsNs (lenEnv n))) (fun v s' => (∃ t,v = .int ((x.length : Int) + (y.length : Int)) t) ∧ Keeps s s') E s := by
 obtain ⟨q1,q2,q3,q4,q5,q6,q7,he⟩ := lenElt
 rw [he]
 refine wpAny_BinOp ?_
 refine wpAny_Call_NameR (name_b (P := P) rfl rfl rfl rfl h3 h0 (k3_len P) (k0_len P) rfl ?_)
 refine callWith_b1 (wpAny_Name (wpAny_loadName_local rfl rfl hn hx ?_) rfl)
 refine PySem.P.len_str (by lia) ?_
 refine wpAny_Call_NameR (name_b (P := P) rfl rfl rfl rfl h3 h0 (k3_len P) (k0_len P) rfl ?_)
 refine callWith_b1 (wpAny_Name (wpAny_loadName_local rfl rfl hn hy ?_) rfl)
 refine PySem.P.len_str (by lia) ?_
 refine wpAny_add_int ?_
 exact ⟨⟨_,rfl⟩,s.heap,_,rfl,fun _ _ e => e⟩
end Mine.G
end
section
open PySem.Calls
namespace Mine.G
noncomputable def lenX (a dd e : Nat) (xs : List Nat) (g1 : Int) (tg : Nat) (f : Int) (u eu : Nat) (ps : List Value) (ps' : (Nat → Nat) → List Value) (sum : Int) : XC :=
 {code := .call (.ref 68) ⟨[.ref a],[]⟩,pre := [(a,inst dd (refs xs) e),(dd,dct g1 tg f u eu),(63,tb ps)],res := fun ω => .ok (.ret (.int sum (ω 2))),upd := fun ω => [(63,tb (ps' ω))],news := fun _ => [],dm := 840,um := 6900 }
noncomputable def pcLen (k : Nat) : Nat := (tabA k).length + (tabB k).length
noncomputable def sumLen : List Nat → Int
 | [] => 0
 | k :: ks => pcLen k + sumLen ks
theorem pcLen_lt : ∀ k < 6,(tabA k).length < 100 ∧ (tabB k).length < 100 := by decide +kernel
theorem All2.at_ {α β : Type} {R : α → β → Prop} {l : List α} {m : List β} (h : All2 R l m) : ∀ (i : Nat) (a : α),l[i]? = some a → ∃ b,m[i]? = some b ∧ R a b := by
 induction h with
 | nil => intro i a e; simp at e
 | cons r _ ih =>
  intro i a e
  cases i with
  | zero => simp at e; subst e; exact ⟨_,by simp,r⟩
  | succ i => simpa using ih i a (by simpa using e)
section
variable {PT : Nat → Option Obj} {w : World} {xs ks : List Nat}
theorem pcs_toks (X : PcT PT xs ks) : ∃ tk : Nat → Nat,∀ j,j < xs.length → ks.getD j 0 < 6 ∧ 281 ≤ xs.getD j 0 ∧ PT (xs.getD j 0) = some (piece (ks.getD j 0) (tk j)) := by
 have h : ∀ j,∃ t,j < xs.length → ks.getD j 0 < 6 ∧ 281 ≤ xs.getD j 0 ∧ PT (xs.getD j 0) = some (piece (ks.getD j 0) t) := by
  intro j
  by_cases hj : j < xs.length
  ·obtain ⟨b,hb,h1,h2,t,h3⟩ := All2.at_ X j xs[j] (List.getElem?_eq_getElem hj)
   refine ⟨t,fun _ => ?_⟩
   rw [List.getD_eq_getElem?_getD,List.getD_eq_getElem?_getD,hb,List.getElem?_eq_getElem hj]
   exact ⟨h1,h2,h3⟩
  ·exact ⟨0,fun h => absurd h hj⟩
 exact ⟨fun j => (h j).choose,fun j => (h j).choose_spec⟩
theorem sumLen_pre (X : PcT PT xs ks) : preSum (fun j => (pcLen (ks.getD j 0) : Int)) xs.length = sumLen ks := by
 have key : ∀ (ks : List Nat),preSum (fun j => (pcLen (ks.getD j 0) : Int)) ks.length = sumLen ks := by
  intro ks
  induction ks with
  | nil => rfl
  | cons k ks ih =>
   have h : ∀ n,preSum (fun j => (pcLen ((k :: ks).getD j 0) : Int)) (n + 1) = pcLen k + preSum (fun j => (pcLen (ks.getD j 0) : Int)) n := by
    intro n
    induction n with
    | zero => simp [preSum]
    | succ n ihn =>
     show preSum (fun j => (pcLen ((k :: ks).getD j 0) : Int)) (n + 1) + pcLen ((k :: ks).getD (n + 1) 0) = _
     rw [ihn]
     show _ = (pcLen k : Int) + (preSum _ n + pcLen (ks.getD n 0))
     simp only [List.getD_cons_succ]
     lia
   rw [List.length_cons,h,ih]; rfl
 have hl : xs.length = ks.length := All2.length X
 rw [hl]; exact key ks
theorem passing_all (n : Nat) : passing (fun _ => true) n 0 = List.range n := by
 unfold passing
 simp
theorem k63_first {M : Model} {A : Around} {E : Value → Shared → Prop} {s : Shared} {Q : Value → Shared → Prop} {n : Nat} {pos : Pos} {q : Str} {sc : Scope} {Pm : Params} (hl : pos.line = 26) (hc : pos.col = 19)
  (h67 : s.heap.get? 67 = some (k67 Pm)) (h63 : s.heap.get? 63 = some (tb []))
  (hQ : ∀ (v : Value) c' h' tk,Heap.ExtBut 63 s.heap h' → s.heap.objs.size ≤ h'.objs.size → h'.get? 63 = some (tb [rawInt 26,rawInt 19,.ref c']) → Q v { s with heap := h',toks := tk }) :
  wpAny M A (genexprCode (lenEnv n) pos q sc) Q E s := by
 refine wpAny_genexprCodeX (c := 67) (P := 63) (ps := #[]) rfl ⟨_,_,_,_,_,_,_,_,_,_,h67,rfl,rfl,rfl,rfl,rfl,rfl,h63,rfl,trivial,by decide⟩ ⟨⟨_,_,h67,rfl,rfl,rfl⟩,h63⟩ rfl fun c' h' tk hx hge hlt hcode hrec htab _ => ?_
 have := htab.2
 rw [hl,hc] at this
 exact hQ _ c' h' tk hx (Nat.le_trans hge (Nat.le_of_lt hlt)) this
theorem k63_later {M : Model} {A : Around} {E : Value → Shared → Prop} {s : Shared} {Q : Value → Shared → Prop} {n c' : Nat} {pos : Pos} {q : Str} {sc : Scope} {Pm : Params} (hl : pos.line = 26) (hc : pos.col = 19)
  (h67 : s.heap.get? 67 = some (k67 Pm)) (h63 : s.heap.get? 63 = some (tb [rawInt 26,rawInt 19,.ref c'])) (hQ : ∀ v,Q v s) : wpAny M A (genexprCode (lenEnv n) pos q sc) Q E s := by
 unfold genexprCode codeAt
 rw [show (lenEnv n).code = .ref 67 from rfl,if_neg (show ¬ ((Value.ref 67 == Value.none) = true) from Bool.false_ne_true)]
 refine wpAny_bind (wpAny_fieldsOf h67 rfl ?_)
 show wpAny _ _ (fieldsOf (.ref 63) >>= _) _ _ _
 refine wpAny_bind (wpAny_fieldsOf h63 rfl ?_)
 have : codeAmong pos (#[rawInt 26,rawInt 19,Value.ref c'] : Array Value).toList = some (.ref c') := by
  simp [codeAmong,hl,hc,rawInt]
 show wpAny _ _ (match codeAmong pos (#[rawInt 26,rawInt 19,Value.ref c'] : Array Value).toList with | some c => _ | _ => _) _ _ _
 rw [this]
 exact wpAny_pure (hQ _)
end
end Mine.G
end
section
open PySem.Calls
namespace Mine.G
theorem inst_ne_dct {s : Shared} {a dd e1 eu tg u : Nat} {xs : List Value} {g1 f : Int} (h1 : s.heap.get? a = some (inst dd xs e1)) (h2 : s.heap.get? dd = some (dct g1 tg f u eu)) : dd ≠ a := by
 intro h
 subst h
 rw [h1] at h2
 cases h2
theorem k3_bi (P : Params) : nsFind (esOf (k3 P)) "__builtins__" = some (.ref 4) := by kernel_rfl
variable {PT : Nat → Option Obj} {w : World} {xs ks : List Nat}
theorem len_ok {a dd e : Nat} {g1 f : Int} {tg u eu : Nat} {ps : List Value} {ps2 : Nat → List Value} (X : PcT PT xs ks) (ha : lkP PT w.params a = none) (hd1 : lkP PT w.params dd = none)
  (HG : ∀ {A : Around} {E : Value → Shared → Prop} {s : Shared} {Q : Value → Shared → Prop} {n : Nat} {pos : Pos} {q : Str} {sc : Scope},pos.line = 26 → pos.col = 19 → s.heap.get? 67 = some (k67 w.params) → s.heap.get? 63 = some (tb ps) →
   (∀ (v : Value) c' h' tk,Heap.ExtBut 63 s.heap h' → s.heap.objs.size ≤ h'.objs.size → h'.get? 63 = some (tb (ps2 c')) → Q v { s with heap := h',toks := tk }) → wpAny (model prg w) A (genexprCode (lenEnv n) pos q sc) Q E s) :
  XOkP PT w (lenX a dd e xs g1 tg f u eu ps (fun ω => ps2 (ω 3)) (f + sumLen ks)) := by
 refine XC.ok_of fun A s Q hd hu hh hl hp hQ => ?_
 have q1 : s.heap.get? a = some (inst dd (refs xs) e) := hp (a,inst dd (refs xs) e) m0
 have q2 : s.heap.get? dd = some (dct g1 tg f u eu) := hp (dd,dct g1 tg f u eu) m1
 have q3 : s.heap.get? 63 = some (tb ps) := hp (63,tb ps) m2
 have ne := inst_ne_dct q1 q2
 have S1 : StartP PT w s.heap.objs.size s.toks [a] [inst dd (refs xs) e] s := startP_of (by simp) (ac ha an) rfl hl (zc q1 zn)
 refine run_codePE ent1_ok entQ1_eq S1 (fun _ => an) (fun _ => an) (Nat.le_trans hd (show 840 ≤ 850 by decide)) (Nat.le_trans hu (show 6900 ≤ 7000 by decide)) hh rfl (by decide) (by decide) (fun _ => len_head) fun om s1 B1 => ⟨rfl,?_⟩
 have f1 : s1.heap.get? s.heap.objs.size = some (frSelf w s.toks a) := (B1.own 0 s.heap.objs.size _ rfl).2
 have a1 : s1.heap.get? a = some (inst dd (refs xs) e) := B1.old 0 a _ rfl rfl
 have d1 : s1.heap.get? dd = some (dct g1 tg f u eu) := B1.keep dd _ q2 (by simpa using ne)
 have t1 : s1.heap.get? 63 = some (tb ps) := B1.keep 63 _ q3 (by
  intro hm
  rw [List.mem_singleton] at hm
  rw [← hm,q3] at q1; cases q1)
 have l1 : ∀ b o,lkP PT w.params b = some o → s1.heap.get? b = some o := fun b o h => B1.keep b o (hl b o h) (by
  intro hm
  rw [List.mem_singleton] at hm
  rw [hm,ha] at h; cases h)
 show codeAny (model prg w) A (.func (bodyOf lenM) (lenEnv s.heap.objs.size)) _ s1
 obtain ⟨p1,p2,p3,hb⟩ := lenBody
 rw [hb]
 have g3 : ∀ s : Shared,(∀ b o,lkP PT w.params b = some o → s.heap.get? b = some o) → s.heap.get? 3 = some (k3 w.params) := fun s h => h 3 _ (lkP_of rfl)
 have g0 : ∀ s : Shared,(∀ b o,lkP PT w.params b = some o → s.heap.get? b = some o) → s.heap.get? 0 = some (k0 w.params) := fun s h => h 0 _ (lkP_of rfl)
 refine codeAny_ret (wpAny_Call_NameR (name_b (P := w.params) rfl rfl rfl rfl (g3 _ l1) (g0 _ l1) (k3_sum _) (k0_sum _) rfl ?_))
 show wpAny _ _ (callWith _ (.builtin "sum") [] [(false,eval lenG (lenEnv s.heap.objs.size)),(false,eval (argOf (retOf (bodyOf lenM)) 1) (lenEnv s.heap.objs.size))] []) _ _ _
 refine callWith_b2 ?_
 obtain ⟨pa,pb,pt,pi,pos,hg,hl26,hc19⟩ := lenGen
 rw [hg]
 have nfr : s1.heap.Ns s.heap.objs.size (nsFind (esOf (frSelf w s.toks a))) := ns_of f1 rfl rfl
 refine wpAny_GeneratorExp_walksQTD (cl := []) (show (A.deeper _).handled = none from hh) rfl rfl (by decide) rfl rfl rfl (by decide) rfl (show A.depth + 1 < 1000 by have : A.depth ≤ 840 := hd; lia) ?_ (fun _ => rfl)
 refine wpAny_Name (wpAny_loadName_local rfl rfl nfr (v := .ref a) rfl ?_) rfl
 have S2 : StartP PT w s1.heap.objs.size s1.toks [a] [inst dd (refs xs) e] s1 := startP_of (by simp) (ac ha an) rfl l1 (zc a1 zn)
 refine run_treeP ent1_ok entQ1_eq S2 (fun _ => an) (fun _ => an) (show A.depth + 1 ≤ 860 by have : A.depth ≤ 840 := hd; lia) (show A.units + 3 ≤ 7100 by have : A.units ≤ 6900 := hu; lia) hh (fun _ => iter_run) fun om2 s2 B2 K2 => ⟨_,rfl,?_⟩
 have f2 : s2.heap.get? s.heap.objs.size = some (frSelf w s.toks a) := B2.keep _ _ f1 (by
  intro hm
  rw [List.mem_singleton] at hm
  rw [hm,a1] at f1; cases f1)
 have a2 : s2.heap.get? a = some (inst dd (refs xs) e) := B2.old 0 a _ rfl rfl
 have i2 : s2.heap.get? s1.heap.objs.size = some (litO a) := (B2.own 0 s1.heap.objs.size _ rfl).2
 have d2 : s2.heap.get? dd = some (dct g1 tg f u eu) := B2.keep dd _ d1 (by simpa using ne)
 have t2 : s2.heap.get? 63 = some (tb ps) := B2.keep 63 _ t1 (by
  intro hm
  rw [List.mem_singleton] at hm
  rw [← hm,t1] at a1; cases a1)
 have l2 : ∀ b o,lkP PT w.params b = some o → s2.heap.get? b = some o := fun b o h => B2.keep b o (l1 b o h) (by
  intro hm
  rw [List.mem_singleton] at hm
  rw [hm,ha] at h; cases h)
 have nl : ∀ s : Shared,(∀ b o,lkP PT w.params b = some o → s.heap.get? b = some o) → s.heap.NoLimit := fun s h => ⟨_,ns_of (h 2 _ (lkP_of rfl)) rfl rfl,rfl⟩
 refine ⟨nl _ l2,HG hl26 hc19 (l2 67 _ (lkP_of rfl)) t2 fun code c' h3 tk3 x3 z3 t3 => ?_⟩
 have l3 : ∀ b o,lkP PT w.params b = some o → h3.get? b = some o := fun b o h => x3 b o (by
  intro hb
  rw [hb,show lkP PT w.params 63 = none from rfl] at h; cases h) (l2 b o h)
 have n63 : ∀ b o,s2.heap.get? b = some o → o ≠ tb ps → h3.get? b = some o := fun b o h hne => x3 b o (by
  intro hb
  rw [hb,t2] at h; cases h; exact hne rfl) h
 have f3 : h3.get? s.heap.objs.size = some (frSelf w s.toks a) := n63 _ _ f2 (by intro h; cases h)
 have a3 : h3.get? a = some (inst dd (refs xs) e) := n63 _ _ a2 (by intro h; cases h)
 have i3 : h3.get? s1.heap.objs.size = some (litO a) := n63 _ _ i2 (by intro h; cases h)
 have d3 : h3.get? dd = some (dct g1 tg f u eu) := n63 _ _ d2 (by intro h; cases h)
 refine wpAny_builtinsFor (m := nsFind (esOf (k3 w.params))) (bm := 4) (ns_of (l3 3 _ (lkP_of rfl)) rfl (ent3s _)) (k3_bi _) (by decide) (l3 4 (k4 w.params) (lkP_of rfl)) rfl rfl rfl ?_
 obtain ⟨tk,htk⟩ := pcs_toks X
 have lt3 : ∀ {b o},h3.get? b = some o → b < h3.objs.size := fun h => Heap.lt_size h
 have hT : ∀ j,j < xs.length → s1.heap.get? (xs.getD j 0) = some (piece (ks.getD j 0) (tk j)) := fun j hj => l1 _ _ (lkP_at (htk j hj).2.1 (htk j hj).2.2)
 have hT3 : ∀ j,j < xs.length → h3.get? (xs.getD j 0) = some (piece (ks.getD j 0) (tk j)) := fun j hj => l3 _ _ (lkP_at (htk j hj).2.1 (htk j hj).2.2)
 have hne : a ≠ s1.heap.objs.size := fun h => absurd (Heap.lt_size a1) (by rw [h]; exact Nat.lt_irrefl _)
 have hsz : (refs xs).toArray.size = xs.length := by simp [refs]
 have hit : ∀ j,j < (refs xs).toArray.size → (refs xs).toArray[j]? = some (.ref (xs.getD j 0)) := fun j hj => by
  rw [hsz] at hj
  simp [refs,hj]
 have hTI : ∀ j,j < (refs xs).toArray.size → xs.getD j 0 ≠ s1.heap.objs.size := fun j hj h => by
  rw [hsz] at hj
  have := Heap.lt_size (hT j hj)
  rw [h] at this
  exact absurd this (Nat.lt_irrefl _)
 refine ⟨s1.heap.objs.size,_,_,_,_,_,_,fun _ => true,fun i y => ∃ t,y = .int (pcLen (ks.getD i 0)) t,rfl,
  fun A' hA => walksInst hA s1.heap.objs.size a hne (refs xs).toArray (fun j => xs.getD j 0) (fun j => #[.str (tabA (ks.getD j 0)) (tk j),.str (tabB (ks.getD j 0)) (tk j + 1)]) hit hTI,
  fun i v hv => ⟨_,_,hv.2⟩,⟨⟨_,i3,rfl,rfl⟩,⟨_,_,a3,rfl⟩,fun k hk => ⟨_,hT3 k (by rw [hsz] at hk; exact hk),rfl,_,rfl⟩⟩,?_,nl _ l3,?_,?_,?_⟩
 ·intro b hb
  show b < h3.objs.size
  rcases List.mem_cons.mp hb with rfl | hb
  ·exact lt3 i3
  ·rcases List.mem_cons.mp hb with rfl | hb
   ·exact lt3 a3
   ·obtain ⟨j,hj,rfl⟩ := List.mem_map.mp hb
    rw [List.mem_range,hsz] at hj
    exact lt3 (hT3 j hj)
 ·intro hm
  rw [List.mem_singleton] at hm
  have z := l1 2 _ (lkP_of rfl)
  exact absurd (Heap.lt_size z) (by rw [show (2 : Nat) = cStatics from rfl,hm]; exact Nat.lt_irrefl _)
 ·intro href hhref
  have kp : ∀ (t : Shared),(∀ b ∈ List.range h3.objs.size,b ∉ [s1.heap.objs.size] → ∀ o,href.get? b = some o → t.heap.get? b = some o) → ∀ b o,lkP PT w.params b = some o → t.heap.get? b = some o := fun t hk b o h =>
   hk b (List.mem_range.mpr (lt3 (l3 b o h))) (fun hm => by
    rw [List.mem_singleton] at hm
    exact absurd (Heap.lt_size (l1 b o h)) (by rw [hm]; exact Nat.lt_irrefl _)) o (hhref b o (l3 b o h))
  refine ⟨fun A' E' i va vb t m₂ _ _ _ _ _ _ _ _ => wpAny_pure ⟨rfl,t.heap,t.toks,rfl,fun _ _ e => e⟩,fun A' E' i va vb t m₂ hA' _ _ hP _ hn hxa hxb hk => ?_⟩
  obtain ⟨hi,hv⟩ := hP
  rw [hsz] at hi
  have hkk := kp t hk
  have hv' : va = .str (tabA (ks.getD i 0)) (tk i) ∧ vb = .str (tabB (ks.getD i 0)) (tk i + 1) := by
   have := congrArg Array.toList hv
   simpa using this
  obtain ⟨rfl,rfl⟩ := hv'
  refine wpAny_mono (len_elt (P := w.params) (code := code) (n := s.heap.objs.size) (g3 _ hkk) (g0 _ hkk) hn hxa hxb (pcLen_lt _ (htk i hi).1).1 (pcLen_lt _ (htk i hi).1).2) (fun y s' h => ?_) fun _ _ e => e
  obtain ⟨⟨t',ht'⟩,hK⟩ := h
  refine ⟨⟨t',?_⟩,hK⟩
  rw [ht']
  unfold pcLen
  rw [Int.natCast_add]
 ·intro a5 h5 tk5 gs hgb hag hsz5 hk5 Wg hat
  have f5 := hk5 _ _ f3
  have a5' := hk5 _ _ a3
  have d5 := hk5 _ _ d3
  have l5 : ∀ b o,lkP PT w.params b = some o → h5.get? b = some o := fun b o h => hk5 b o (l3 b o h)
  have nfa : s.heap.objs.size ≠ a := fun h => by rw [← h,f5] at a5'; cases a5'
  have nfd : s.heap.objs.size ≠ dd := fun h => by
   rw [← h,f5] at d5
   have := congrArg Obj.cls (Option.some.inj d5)
   simp [frSelf,dct] at this
  have nff : lkP PT w.params s.heap.objs.size = none := by
   cases hx : lkP PT w.params s.heap.objs.size with
   | none => rfl
   | some o => exact absurd (Heap.lt_size (hl _ _ hx)) (Nat.lt_irrefl _)
  have S5 : StartP PT w h5.objs.size tk5 [s.heap.objs.size,a,dd] [frSelf w s.toks a,inst dd (refs xs) e,dct g1 tg f u eu] ({ s2 with gens := s2.gens.push gs,toks := tk5,heap := h5 } : Shared) :=
   startP_of (PT := PT) (w := w) (L := [s.heap.objs.size,a,dd]) (U := [frSelf w s.toks a,inst dd (refs xs) e,dct g1 tg f u eu]) (s := { s2 with gens := s2.gens.push gs,toks := tk5,heap := h5 }) (by simp [nfa,nfd,Ne.symm ne]) (by
    intro b hb
    revert b
    refine ac ?_ (ac ?_ (ac ?_ (an)))
    ·exact nff
    ·exact ha
    ·exact hd1) rfl l5 (by
    intro p hp'
    simp only [List.zip_cons_cons,List.zip_nil_right,List.mem_cons,List.not_mem_nil,or_false] at hp'
    rcases hp' with rfl | rfl | rfl
    ·exact f5
    ·exact a5'
    ·exact d5)
  have h6 := fun om : Om => len_attr (PT := PT) (w := w) (n := h5.objs.size) (t := tk5) (fr := s.heap.objs.size) (a := a) (dd := dd) (e := e) (tf := s.toks) (tg := tg) (u := u) (eu := eu) (f := f) (g := g1) (xs := refs xs) (om := om)
  rw [← PySem.W.Fast.mineEval_eq] at h6
  refine run_treeP ent1_ok entQ1_eq S5 (fun _ => an) (fun _ => an) (show A.depth + 1 ≤ 860 by have : A.depth ≤ 840 := hd; lia) (show A.units + 3 ≤ 7100 by have : A.units ≤ 6900 := hu; lia) hh h6 fun om6 s6 B6 K6 => ⟨_,rfl,?_⟩
  obtain ⟨K7,K8⟩ := K6 (fun _ => rfl) (fun _ => rfl)
  have keep6 : ∀ b o,h5.get? b = some o → s6.heap.get? b = some o := by
   intro b o h
   by_cases h1 : b = s.heap.objs.size
   ·subst h1; rw [f5] at h; cases h; exact B6.old 0 _ _ rfl rfl
   ·by_cases h2 : b = a
    ·subst h2; rw [a5'] at h; cases h; exact B6.old 1 _ _ rfl rfl
    ·by_cases h3 : b = dd
     ·subst h3; rw [d5] at h; cases h; exact B6.old 2 _ _ rfl rfl
     ·exact B6.keep b o h (by simp [h1,h2,h3])
  have e6 : s6 = { ({ s2 with gens := s2.gens.push gs,toks := tk5,heap := h5 } : Shared) with heap := s6.heap,toks := s6.toks } := by
   have ho := B6.os
   cases s6
   simp only at K7 K8 ho
   subst K7 K8 ho
   rfl
  have W1' := WalksS.in4_1 (A := A.deeper (lenEnv s.heap.objs.size)) Wg
  have st6 := Wg.frame 0 _ s6.heap s6.toks hat (by have := B6.toks; have h' : s6.toks = tk5 + 1 := this; rw [h']; exact Nat.le_succ _) (fun b hb o h => keep6 b o h)
  rw [← e6] at st6
  have hz6 : h5.objs.size ≤ s6.heap.objs.size := B6.grow
  have val : ∀ (i : Nat) (v : Value),(∃ j,(passing (fun _ => true) (refs xs).toArray.size 0)[i]? = some j ∧ ∃ t,v = .int (pcLen (ks.getD j 0)) t) → ∃ t,v = .int ((fun j => (pcLen (ks.getD j 0) : Int)) i) t := by
   rintro i v ⟨j,hj,t,ht⟩
   rw [passing_all] at hj
   have := List.getElem?_eq_some_iff.mp hj
   obtain ⟨h',h''⟩ := this
   rw [List.getElem_range] at h''
   subst h''
   exact ⟨t,ht⟩
  refine call_sum_start W1' st6 (fun b hb => ?_) val fun s7 t7 hm => ?_
  ·refine Nat.lt_of_lt_of_le ?_ hz6
   rw [hsz5]
   rcases List.mem_cons.mp hb with rfl | hb
   ·exact Nat.lt_succ_self _
   ·rcases List.mem_cons.mp hb with rfl | hb
    ·exact Nat.lt_succ_of_lt hag
    ·exact Nat.lt_succ_of_lt (Nat.lt_trans (List.mem_range.mp hb) hag)
  ·have hn5 : s1.heap.objs.size ≤ s2.heap.objs.size := B2.grow
   have hs1 : s.heap.objs.size ≤ s1.heap.objs.size := B1.grow
   have hz3 : s2.heap.objs.size ≤ h3.objs.size := z3
   have offw : ∀ b,b < s.heap.objs.size → b ∉ (h3.objs.size :: [s1.heap.objs.size] : List Nat) := fun b hb hm => by
    simp only [List.mem_cons,List.not_mem_nil,or_false] at hm
    have hb : @LT.lt Nat _ b s.heap.objs.size := hb
    rcases hm with h | h <;> lia
   have k7 : ∀ b o,s.heap.get? b = some o → b ≠ 63 → s7.heap.get? b = some o := by
    intro b o h h63
    have h1' : s1.heap.get? b = some o := by
     by_cases h2 : b = a
     ·subst h2; rw [q1] at h; cases h; exact a1
     ·exact B1.keep b o h (by simpa using h2)
    have h2' : s2.heap.get? b = some o := by
     by_cases h2 : b = a
     ·subst h2; rw [q1] at h; cases h; exact a2
     ·exact B2.keep b o h1' (by simpa using h2)
    exact hm.heap b o (offw b (Heap.lt_size h)) (keep6 b o (hk5 b o (x3 b o h63 h2')))
   have t7' : s7.heap.get? 63 = some (tb (ps2 c')) := hm.heap 63 _ (offw 63 (Heap.lt_size q3)) (keep6 63 _ (hk5 63 _ t3))
   obtain ⟨og,nm,qn,hog,_⟩ := hat.1
   have hag' : @LT.lt Nat _ h3.objs.size a5 := hag
   have g7 : s7.heap.get? a5 = some og := hm.heap a5 og (by
    intro hm'
    simp only [List.mem_cons,List.not_mem_nil,or_false] at hm'
    rcases hm' with h | h
    ·exact absurd (show @Eq Nat a5 h3.objs.size from h) (Nat.ne_of_gt hag')
    ·have h' : @Eq Nat a5 s1.heap.objs.size := h
     lia) (keep6 a5 og hog)
   have hlt7 : @LT.lt Nat _ a5 s7.heap.objs.size := Heap.lt_size g7
   show Q (.ok (.ret (.int (f + preSum _ _) t7))) s7
   rw [passing_all,List.length_range,hsz,sumLen_pre X]
   refine hQ (fun | 0 => s7.heap.objs.size | 1 => s7.toks | 2 => t7 | _ => c') s7 (XC.after1 (a := 63) (o := tb (ps2 c')) rfl rfl rfl rfl ?_ t7' (fun b o h h6 => k7 b o h h6) ?_ ?_)
   ·show s.heap.objs.size ≤ s7.heap.objs.size
    have h' : @LE.le Nat _ s.heap.objs.size a5 := by lia
    exact Nat.le_trans h' (Nat.le_of_lt hlt7)
   ·intro hb'
    have b2 := B2.bare (B1.bare hb')
    have b5 : AllBare (s2.gens.push gs) := AllBare.push b2 hgb
    refine AllBare.moved (a := s6.gens) ?_ hm.gens
    rw [K7]; exact b5
   ·show s7.os = s.os
    rw [hm.os,B6.os]
    show s2.os = s.os
    rw [B2.os,B1.os]
end Mine.G
end
section
open PySem.Calls
namespace Mine.G
noncomputable abbrev strM : Stmt := meth 3 5
noncomputable def sStr : Str := ⟨#[95,65,99,99,117,109,117,108,97,116,111,114,46,95,95,115,116,114,95,95,46,60,108,111,99,97,108,115,62,46]⟩
noncomputable def nEmpty : Str := ⟨#[69,77,80,84,89,83,84,82,73,78,71]⟩
noncomputable def nJoin : Str := ⟨#[106,111,105,110]⟩
noncomputable def strEnv (n : Nat) : Env := envOf strM n 75 74 sStr
noncomputable def strF (n : Nat) : Code := .func (bodyOf strM) (strEnv n)
noncomputable abbrev strG : Expr := argOf (retOf (bodyOf strM)) 0
theorem strBody : ∃ p1 p2 p3 p4,bodyOf strM = [.Return (some (.Call (.Attribute (.Name nEmpty p1) nJoin p2) [strG] [] p3)) p4] ∧ (p2.endLine == p3.line) = true := ⟨_,_,_,_,rfl,rfl⟩
theorem strGen : ∃ pa pb pt pi pos,strG = .GeneratorExp (genElt strG) [⟨.Tuple [.Name nFws pa,.Name nPart pb] 0 pt,.Name nSelf pi,[],0⟩] (genSc strG) pos ∧ pos.line = 29 ∧ pos.col = 32 := ⟨_,_,_,_,_,rfl,rfl,rfl⟩
theorem strElt : ∃ q1 q2 q3 q4 q5 q6,genElt strG = .Call (.Attribute (.Name nEmpty q1) nJoin q2) [.Tuple [.Name nFws q3,.Name nPart q4] 0 q5] [] q6 ∧ (q2.endLine == q6.line) = true := ⟨_,_,_,_,_,_,rfl,rfl⟩
theorem k3_empty (P : Params) : nsFind (esOf (k3 P)) nEmpty = some (.str emp 196) := by kernel_rfl
theorem name_g {prog : Program} {w : World} {A : Around} {E : Value → Shared → Prop} {s : Shared} {P : Params} {env : Env} {x : Str} {p : Pos} {v : Value} {Q : Value → Shared → Prop} (hk : env.scope.kind = .function) (hx : env.kindOf x = some .globalImplicit) (hg : env.globals = 3)
  (h3 : s.heap.get? 3 = some (k3 P)) (n3 : nsFind (esOf (k3 P)) x = some v) (hd : (x == ("__debug__" : Str)) = false) (h : Q v s) : wpAny (model prog w) A (eval (.Name x p) env) Q E s := by
 refine Name_function_global hk hx (loadGlobal_global (mg := nsFind (esOf (k3 P))) ?_ n3 h) hd
 rw [hg]; exact ns_of h3 rfl (ent3s P)
noncomputable def txt1 (x y : Str) : Str := Txt.join emp [x,y]
theorem callWith_s1 {M : Model} {A : Around} {E : Value → Shared → Prop} {s : Shared} {pos : Pos} {id : String} {ov : Value} {t : Sem Value} {Q : Value → Shared → Prop} (h : wpAny M A t (fun v s₁ => wpAny M A (call (.builtin id) [ov,v]) Q E s₁) E s) : wpAny M A (callWith pos (.builtin id) [ov] [(false,t)] []) Q E s :=
 callWith_builtin rfl (evalArgs_plain (spliced_cons (wpAny_mono h (fun v s₁ h₁ => spliced_nil h₁) fun _ _ e => e)))
theorem str_elt {prog : Program} {w : World} {A : Around} {E : Value → Shared → Prop} {s : Shared} {P : Params} {C : Nat} {code : Value} {n : Nat} {m : Str → Option Value} {x y : Str} {tx ty : Nat}
  (h3 : s.heap.get? 3 = some (k3 P)) (hn : s.heap.Ns C m) (hx : m nFws = some (.str x tx)) (hy : m nPart = some (.str y ty)) (fx : x.length < 100) (fy : y.length < 100) :
  wpAny (model prog w) A (eval (genElt strG) (genEnv (genSc strG) [] C code builtinsNs (strEnv n))) (fun v s' => (∃ t,v = .str (txt1 x y) t) ∧ Keeps s s') E s := by
 obtain ⟨q1,q2,q3,q4,q5,q6,he,hq⟩ := strElt
 rw [he]
 refine Call_method1 rfl rfl hq ?_
 refine name_g (P := P) rfl rfl rfl h3 (k3_empty P) rfl ?_
 refine ⟨"str",_,F.plainAttrs_str,F.slot_str_join,F.type_str_join,typeIs_str _ _ _,(fun _ e => nomatch e),callWith_s1 ?_⟩
 show wpAny _ _ (standAt _ >>= fun _ => spliced [(false,eval (.Name nFws q3) _),(false,eval (.Name nPart q4) _)] >>= newTuple) _ _ _
 refine wpAny_bind (wpAny_standAt (wpAny_bind (spliced_cons (wpAny_Name (wpAny_loadName_local rfl rfl hn hx (spliced_cons (wpAny_Name (wpAny_loadName_local rfl rfl hn hy (spliced_nil ?_)) rfl))) rfl))))
 refine wpAny_newTuple ?_
 refine join_tuple (items := #[.str x tx,.str y ty]) (ys := [x,y]) ⟨_,Heap.get?_push_size _ rfl,rfl,_,rfl⟩ (.cons _ _ (.cons _ _ .nil)) (by have he : emp.length = 0 := rfl; simp [he]; lia) fun t' k => ?_
 exact ⟨⟨t',rfl⟩,_,_,rfl,fun b o e => Heap.get?_push_of_some _ e⟩
end Mine.G
end
section
open PySem.Calls
namespace Mine.G
noncomputable def strX (a dd e : Nat) (xs : List Nat) (ps : List Value) (ps' : (Nat → Nat) → List Value) (t : Str) : XC :=
 {code := .call (.ref 75) ⟨[.ref a],[]⟩,pre := [(a,inst dd (refs xs) e),(70,tb ps)],res := fun ω => .ok (.ret (.str t (ω 2))),upd := fun ω => [(70,tb (ps' ω))],news := fun _ => [],dm := 840,um := 6900 }
noncomputable def tx (k : Nat) : Str := txt1 (tabA k) (tabB k)
noncomputable def txt (ks : List Nat) : Str := Txt.join emp (ks.map tx)
theorem tx_lt : ∀ k < 6,(tx k).length < 100 := by decide +kernel
noncomputable def z_str_head (w : World) (n t a dd e : Nat) (xs : List Value) : Rslt :=
 ⟨.tail (strF n) Sem.pure,n,1,t,1,[some (n,frSelf w t a)],[inst dd xs e],[]⟩
theorem str_head {PT : Nat → Option Obj} {w : World} {n t a dd e : Nat} {xs : List Value} {om : Om} :
  chk [0] (runC PySem.W.Fast.mineEnt1 (vwP PT w n t [a] (fun _ => []) (fun _ => []) om 850 7000) 100 (.call (.ref 75) ⟨[.ref a],[]⟩) true tpLenH [inst dd xs e]) (z_str_head w n t a dd e xs) := by
 delta chk
 apply w1 (w := w) <;> kernel_rfl
theorem k70_first {M : Model} {A : Around} {E : Value → Shared → Prop} {s : Shared} {Q : Value → Shared → Prop} {n : Nat} {pos : Pos} {q : Str} {sc : Scope} {Pm : Params} (hl : pos.line = 29) (hc : pos.col = 32)
  (h74 : s.heap.get? 74 = some (k74 Pm)) (h70 : s.heap.get? 70 = some (tb []))
  (hQ : ∀ (v : Value) c' h' tk,Heap.ExtBut 70 s.heap h' → s.heap.objs.size ≤ h'.objs.size → h'.get? 70 = some (tb [rawInt 29,rawInt 32,.ref c']) → Q v { s with heap := h',toks := tk }) :
  wpAny M A (genexprCode (strEnv n) pos q sc) Q E s := by
 refine wpAny_genexprCodeX (c := 74) (P := 70) (ps := #[]) rfl ⟨_,_,_,_,_,_,_,_,_,_,h74,rfl,rfl,rfl,rfl,rfl,rfl,h70,rfl,trivial,by decide⟩ ⟨⟨_,_,h74,rfl,rfl,rfl⟩,h70⟩ rfl fun c' h' tk hx hge hlt hcode hrec htab _ => ?_
 have := htab.2
 rw [hl,hc] at this
 exact hQ _ c' h' tk hx (Nat.le_trans hge (Nat.le_of_lt hlt)) this
theorem k70_later {M : Model} {A : Around} {E : Value → Shared → Prop} {s : Shared} {Q : Value → Shared → Prop} {n c' : Nat} {pos : Pos} {q : Str} {sc : Scope} {Pm : Params} (hl : pos.line = 29) (hc : pos.col = 32)
  (h74 : s.heap.get? 74 = some (k74 Pm)) (h70 : s.heap.get? 70 = some (tb [rawInt 29,rawInt 32,.ref c'])) (hQ : ∀ v,Q v s) : wpAny M A (genexprCode (strEnv n) pos q sc) Q E s := by
 unfold genexprCode codeAt
 rw [show (strEnv n).code = .ref 74 from rfl,if_neg (show ¬ ((Value.ref 74 == Value.none) = true) from Bool.false_ne_true)]
 refine wpAny_bind (wpAny_fieldsOf h74 rfl ?_)
 show wpAny _ _ (fieldsOf (.ref 70) >>= _) _ _ _
 refine wpAny_bind (wpAny_fieldsOf h70 rfl ?_)
 have : codeAmong pos (#[rawInt 29,rawInt 32,Value.ref c'] : Array Value).toList = some (.ref c') := by
  simp [codeAmong,hl,hc,rawInt]
 show wpAny _ _ (match codeAmong pos (#[rawInt 29,rawInt 32,Value.ref c'] : Array Value).toList with | some c => _ | _ => _) _ _ _
 rw [this]
 exact wpAny_pure (hQ _)
theorem strs_map {vs : List (Str × Tok)} {f : Nat → Str} {n : Nat} (h : ItemsOf (fun j y => ∃ t,y = .str (f j) t) (strValues vs).toArray n) : vs.map (·.1) = (List.range n).map f := by
 obtain ⟨h1,h2⟩ := h
 have hl : vs.length = n := by
  have : (strValues vs).length = n := by simpa using h1
  rw [← this]
  simp [strValues]
 refine List.ext_getElem (by simp [hl]) fun j hj hj' => ?_
 have hj2 : j < vs.length := by simpa using hj
 obtain ⟨t,ht⟩ := h2 j (.str vs[j].1 vs[j].2) (by simp [strValues,hj2])
 simp only [List.getElem_map,List.getElem_range]
 exact (Value.str.inj ht).1
variable {PT : Nat → Option Obj} {w : World} {xs ks : List Nat}
theorem str_ok {a dd e : Nat} {ps : List Value} {ps2 : Nat → List Value} (X : PcT PT xs ks) (ha : lkP PT w.params a = none) (hks : ks.length ≤ 100)
  (HG : ∀ {A : Around} {E : Value → Shared → Prop} {s : Shared} {Q : Value → Shared → Prop} {n : Nat} {pos : Pos} {q : Str} {sc : Scope},pos.line = 29 → pos.col = 32 → s.heap.get? 74 = some (k74 w.params) → s.heap.get? 70 = some (tb ps) →
   (∀ (v : Value) c' h' tk,Heap.ExtBut 70 s.heap h' → s.heap.objs.size ≤ h'.objs.size → h'.get? 70 = some (tb (ps2 c')) → Q v { s with heap := h',toks := tk }) → wpAny (model prg w) A (genexprCode (strEnv n) pos q sc) Q E s) :
  XOkP PT w (strX a dd e xs ps (fun ω => ps2 (ω 3)) (txt ks)) := by
 refine XC.ok_of fun A s Q hd hu hh hl hp hQ => ?_
 have q1 : s.heap.get? a = some (inst dd (refs xs) e) := hp (a,inst dd (refs xs) e) m0
 have q3 : s.heap.get? 70 = some (tb ps) := hp (70,tb ps) m1
 have S1 : StartP PT w s.heap.objs.size s.toks [a] [inst dd (refs xs) e] s := startP_of (by simp) (ac ha an) rfl hl (zc q1 zn)
 refine run_codePE ent1_ok entQ1_eq S1 (fun _ => an) (fun _ => an) (Nat.le_trans hd (show 840 ≤ 850 by decide)) (Nat.le_trans hu (show 6900 ≤ 7000 by decide)) hh rfl (by decide) (by decide) (fun _ => str_head) fun om s1 B1 => ⟨rfl,?_⟩
 have f1 : s1.heap.get? s.heap.objs.size = some (frSelf w s.toks a) := (B1.own 0 s.heap.objs.size _ rfl).2
 have a1 : s1.heap.get? a = some (inst dd (refs xs) e) := B1.old 0 a _ rfl rfl
 have t1 : s1.heap.get? 70 = some (tb ps) := B1.keep 70 _ q3 (by
  intro hm
  rw [List.mem_singleton] at hm
  rw [← hm,q3] at q1; cases q1)
 have l1 : ∀ b o,lkP PT w.params b = some o → s1.heap.get? b = some o := fun b o h => B1.keep b o (hl b o h) (by
  intro hm
  rw [List.mem_singleton] at hm
  rw [hm,ha] at h; cases h)
 show codeAny (model prg w) A (.func (bodyOf strM) (strEnv s.heap.objs.size)) _ s1
 obtain ⟨p1,p2,p3,p4,hb,hq4⟩ := strBody
 rw [hb]
 have g3 : ∀ s : Shared,(∀ b o,lkP PT w.params b = some o → s.heap.get? b = some o) → s.heap.get? 3 = some (k3 w.params) := fun s h => h 3 _ (lkP_of rfl)
 refine codeAny_ret (Call_method1 rfl rfl hq4 (name_g (P := w.params) rfl rfl rfl (g3 _ l1) (k3_empty _) rfl ?_))
 refine ⟨"str",_,F.plainAttrs_str,F.slot_str_join,F.type_str_join,typeIs_str _ _ _,(fun _ e => nomatch e),callWith_s1 ?_⟩
 obtain ⟨pa,pb,pt,pi,pos,hg,hl26,hc19⟩ := strGen
 rw [hg]
 have nfr : s1.heap.Ns s.heap.objs.size (nsFind (esOf (frSelf w s.toks a))) := ns_of f1 rfl rfl
 refine wpAny_GeneratorExp_walksQTD (cl := []) (show (A.deeper _).handled = none from hh) rfl rfl (by decide) rfl rfl rfl (by decide) rfl (show A.depth + 1 < 1000 by have : A.depth ≤ 840 := hd; lia) ?_ (fun _ => rfl)
 refine wpAny_Name (wpAny_loadName_local rfl rfl nfr (v := .ref a) rfl ?_) rfl
 have S2 : StartP PT w s1.heap.objs.size s1.toks [a] [inst dd (refs xs) e] s1 := startP_of (by simp) (ac ha an) rfl l1 (zc a1 zn)
 refine run_treeP ent1_ok entQ1_eq S2 (fun _ => an) (fun _ => an) (show A.depth + 1 ≤ 860 by have : A.depth ≤ 840 := hd; lia) (show A.units + 3 ≤ 7100 by have : A.units ≤ 6900 := hu; lia) hh (fun _ => iter_run) fun om2 s2 B2 K2 => ⟨_,rfl,?_⟩
 have f2 : s2.heap.get? s.heap.objs.size = some (frSelf w s.toks a) := B2.keep _ _ f1 (by
  intro hm
  rw [List.mem_singleton] at hm
  rw [hm,a1] at f1; cases f1)
 have a2 : s2.heap.get? a = some (inst dd (refs xs) e) := B2.old 0 a _ rfl rfl
 have i2 : s2.heap.get? s1.heap.objs.size = some (litO a) := (B2.own 0 s1.heap.objs.size _ rfl).2
 have t2 : s2.heap.get? 70 = some (tb ps) := B2.keep 70 _ t1 (by
  intro hm
  rw [List.mem_singleton] at hm
  rw [← hm,t1] at a1; cases a1)
 have l2 : ∀ b o,lkP PT w.params b = some o → s2.heap.get? b = some o := fun b o h => B2.keep b o (l1 b o h) (by
  intro hm
  rw [List.mem_singleton] at hm
  rw [hm,ha] at h; cases h)
 have nl : ∀ s : Shared,(∀ b o,lkP PT w.params b = some o → s.heap.get? b = some o) → s.heap.NoLimit := fun s h => ⟨_,ns_of (h 2 _ (lkP_of rfl)) rfl rfl,rfl⟩
 refine ⟨nl _ l2,HG hl26 hc19 (l2 74 _ (lkP_of rfl)) t2 fun code c' h3 tk3 x3 z3 t3 => ?_⟩
 have l3 : ∀ b o,lkP PT w.params b = some o → h3.get? b = some o := fun b o h => x3 b o (by
  intro hb
  rw [hb,show lkP PT w.params 70 = none from rfl] at h; cases h) (l2 b o h)
 have n70 : ∀ b o,s2.heap.get? b = some o → o ≠ tb ps → h3.get? b = some o := fun b o h hne => x3 b o (by
  intro hb
  rw [hb,t2] at h; cases h; exact hne rfl) h
 have f3 : h3.get? s.heap.objs.size = some (frSelf w s.toks a) := n70 _ _ f2 (by intro h; cases h)
 have a3 : h3.get? a = some (inst dd (refs xs) e) := n70 _ _ a2 (by intro h; cases h)
 have i3 : h3.get? s1.heap.objs.size = some (litO a) := n70 _ _ i2 (by intro h; cases h)
 refine wpAny_builtinsFor (m := nsFind (esOf (k3 w.params))) (bm := 4) (ns_of (l3 3 _ (lkP_of rfl)) rfl (ent3s _)) (k3_bi _) (by decide) (l3 4 (k4 w.params) (lkP_of rfl)) rfl rfl rfl ?_
 obtain ⟨tk,htk⟩ := pcs_toks X
 have lt3 : ∀ {b o},h3.get? b = some o → b < h3.objs.size := fun h => Heap.lt_size h
 have hT : ∀ j,j < xs.length → s1.heap.get? (xs.getD j 0) = some (piece (ks.getD j 0) (tk j)) := fun j hj => l1 _ _ (lkP_at (htk j hj).2.1 (htk j hj).2.2)
 have hT3 : ∀ j,j < xs.length → h3.get? (xs.getD j 0) = some (piece (ks.getD j 0) (tk j)) := fun j hj => l3 _ _ (lkP_at (htk j hj).2.1 (htk j hj).2.2)
 have hne : a ≠ s1.heap.objs.size := fun h => absurd (Heap.lt_size a1) (by rw [h]; exact Nat.lt_irrefl _)
 have hsz : (refs xs).toArray.size = xs.length := by simp [refs]
 have hit : ∀ j,j < (refs xs).toArray.size → (refs xs).toArray[j]? = some (.ref (xs.getD j 0)) := fun j hj => by
  rw [hsz] at hj
  simp [refs,hj]
 have hTI : ∀ j,j < (refs xs).toArray.size → xs.getD j 0 ≠ s1.heap.objs.size := fun j hj h => by
  rw [hsz] at hj
  have := Heap.lt_size (hT j hj)
  rw [h] at this
  exact absurd this (Nat.lt_irrefl _)
 refine ⟨s1.heap.objs.size,_,_,_,_,_,_,fun _ => true,fun i y => ∃ t,y = .str (tx (ks.getD i 0)) t,rfl,
  fun A' hA => walksInst hA s1.heap.objs.size a hne (refs xs).toArray (fun j => xs.getD j 0) (fun j => #[.str (tabA (ks.getD j 0)) (tk j),.str (tabB (ks.getD j 0)) (tk j + 1)]) hit hTI,
  fun i v hv => ⟨_,_,hv.2⟩,⟨⟨_,i3,rfl,rfl⟩,⟨_,_,a3,rfl⟩,fun k hk => ⟨_,hT3 k (by rw [hsz] at hk; exact hk),rfl,_,rfl⟩⟩,?_,nl _ l3,?_,?_,?_⟩
 ·intro b hb
  show b < h3.objs.size
  rcases List.mem_cons.mp hb with rfl | hb
  ·exact lt3 i3
  ·rcases List.mem_cons.mp hb with rfl | hb
   ·exact lt3 a3
   ·obtain ⟨j,hj,rfl⟩ := List.mem_map.mp hb
    rw [List.mem_range,hsz] at hj
    exact lt3 (hT3 j hj)
 ·intro hm
  rw [List.mem_singleton] at hm
  have z := l1 2 _ (lkP_of rfl)
  exact absurd (Heap.lt_size z) (by rw [show (2 : Nat) = cStatics from rfl,hm]; exact Nat.lt_irrefl _)
 ·intro href hhref
  have kp : ∀ (t : Shared),(∀ b ∈ List.range h3.objs.size,b ∉ [s1.heap.objs.size] → ∀ o,href.get? b = some o → t.heap.get? b = some o) → ∀ b o,lkP PT w.params b = some o → t.heap.get? b = some o := fun t hk b o h =>
   hk b (List.mem_range.mpr (lt3 (l3 b o h))) (fun hm => by
    rw [List.mem_singleton] at hm
    exact absurd (Heap.lt_size (l1 b o h)) (by rw [hm]; exact Nat.lt_irrefl _)) o (hhref b o (l3 b o h))
  refine ⟨fun A' E' i va vb t m₂ _ _ _ _ _ _ _ _ => wpAny_pure ⟨rfl,t.heap,t.toks,rfl,fun _ _ e => e⟩,fun A' E' i va vb t m₂ hA' _ _ hP _ hn hxa hxb hk => ?_⟩
  obtain ⟨hi,hv⟩ := hP
  rw [hsz] at hi
  have hkk := kp t hk
  have hv' : va = .str (tabA (ks.getD i 0)) (tk i) ∧ vb = .str (tabB (ks.getD i 0)) (tk i + 1) := by
   have := congrArg Array.toList hv
   simpa using this
  obtain ⟨rfl,rfl⟩ := hv'
  exact str_elt (P := w.params) (code := code) (n := s.heap.objs.size) (g3 _ hkk) hn hxa hxb (pcLen_lt _ (htk i hi).1).1 (pcLen_lt _ (htk i hi).1).2
 ·intro a5 h5 tk5 gs hgb hag hsz5 hk5 Wg hat
  have hl5 : xs.length = ks.length := All2.length X
  refine SC.joinGen (WalksS.in4_2 (A := A.deeper (strEnv s.heap.objs.size)) Wg) (fun i s st => st.1.typeIs) hat (fun b hb => ?_) List.mem_cons_self ?_ (fun s7 vs hm hI => ?_) ?_
  ·show b < h5.objs.size
   rw [hsz5]
   rcases List.mem_cons.mp hb with rfl | hb
   ·exact Nat.lt_succ_self _
   ·rcases List.mem_cons.mp hb with rfl | hb
    ·exact Nat.lt_succ_of_lt hag
    ·exact Nat.lt_succ_of_lt (Nat.lt_trans (List.mem_range.mp hb) hag)
  ·rintro i v ⟨j,hj,t,ht⟩
   exact ⟨_,_,ht⟩
  ·have hI' : ItemsOf (fun j y => ∃ t,y = .str (tx (ks.getD j 0)) t) (strValues vs).toArray xs.length := by
    refine ⟨by rw [hI.1,passing_all,List.length_range,hsz],fun j v hv => ?_⟩
    obtain ⟨i,hi,t,ht⟩ := hI.2 j v hv
    rw [passing_all] at hi
    obtain ⟨h',h''⟩ := List.getElem?_eq_some_iff.mp hi
    rw [List.getElem_range] at h''
    subst h''
    exact ⟨t,ht⟩
   have ht := strs_map hI'
   have ht' : (List.range xs.length).map (fun j => tx (ks.getD j 0)) = ks.map tx := by
    rw [hl5]
    refine List.ext_getElem (by simp) fun j hj hj' => ?_
    have : j < ks.length := by simpa using hj'
    simp [this]
   rw [ht,ht']
   refine ⟨joinOk_of (by
    have hs : ∀ ks : List Nat,(∀ k ∈ ks,k < 6) → ((ks.map tx).map (·.length)).sum ≤ 100 * ks.length := by
     intro ks
     induction ks with
     | nil => intro _; simp
     | cons k ks ih =>
      intro h
      have h1 := tx_lt k (h k (by simp))
      have h2 := ih fun k' hk' => h k' (by simp [hk'])
      simp only [List.map_cons,List.sum_cons,List.length_cons]
      simp only [List.map_map] at h2 ⊢
      lia
    have h1 := hs ks (by
     intro k hk
     obtain ⟨i,hi,e⟩ := List.getElem_of_mem hk
     have := (htk i (by lia)).1
     simpa [hi,e] using this)
    have he : emp.length = 0 := rfl
    rw [he]
    lia),fun t7 kt => ?_⟩
   have hn5 : s1.heap.objs.size ≤ s2.heap.objs.size := B2.grow
   have hs1 : s.heap.objs.size ≤ s1.heap.objs.size := B1.grow
   have hz3 : s2.heap.objs.size ≤ h3.objs.size := z3
   have offw : ∀ b,b < s.heap.objs.size → b ∉ (h3.objs.size :: [s1.heap.objs.size] : List Nat) := fun b hb hm => by
    simp only [List.mem_cons,List.not_mem_nil,or_false] at hm
    have hb : @LT.lt Nat _ b s.heap.objs.size := hb
    rcases hm with h | h <;> lia
   have k7 : ∀ b o,s.heap.get? b = some o → b ≠ 70 → s7.heap.get? b = some o := by
    intro b o h h70
    have h1' : s1.heap.get? b = some o := by
     by_cases h2 : b = a
     ·subst h2; rw [q1] at h; cases h; exact a1
     ·exact B1.keep b o h (by simpa using h2)
    have h2' : s2.heap.get? b = some o := by
     by_cases h2 : b = a
     ·subst h2; rw [q1] at h; cases h; exact a2
     ·exact B2.keep b o h1' (by simpa using h2)
    exact hm.heap b o (offw b (Heap.lt_size h)) (hk5 b o (x3 b o h70 h2'))
   have t7' : s7.heap.get? 70 = some (tb (ps2 c')) := hm.heap 70 _ (offw 70 (Heap.lt_size q3)) (hk5 70 _ t3)
   obtain ⟨og,nm,qn,hog,_⟩ := hat.1
   have hag' : @LT.lt Nat _ h3.objs.size a5 := hag
   have g7 : s7.heap.get? a5 = some og := hm.heap a5 og (by
    intro hm'
    simp only [List.mem_cons,List.not_mem_nil,or_false] at hm'
    rcases hm' with h | h
    ·exact absurd (show @Eq Nat a5 h3.objs.size from h) (Nat.ne_of_gt hag')
    ·have h' : @Eq Nat a5 s1.heap.objs.size := h
     lia) hog
   have hlt7 : @LT.lt Nat _ a5 s7.heap.objs.size := Heap.lt_size g7
   refine hQ (fun | 0 => s7.heap.objs.size | 1 => kt | 2 => t7 | _ => c') _ (XC.after1 (a := 70) (o := tb (ps2 c')) rfl rfl rfl rfl ?_ t7' (fun b o h h6 => k7 b o h h6) ?_ ?_)
   ·show s.heap.objs.size ≤ s7.heap.objs.size
    have h' : @LE.le Nat _ s.heap.objs.size a5 := by lia
    exact Nat.le_trans h' (Nat.le_of_lt hlt7)
   ·intro hb'
    have b2 := B2.bare (B1.bare hb')
    have b5 : AllBare (s2.gens.push gs) := AllBare.push b2 hgb
    exact AllBare.moved b5 hm.gens
   ·show s7.os = s.os
    rw [hm.os]
    show s2.os = s.os
    rw [B2.os,B1.os]
  ·rw [passing_all,List.length_range,hsz,hl5]
   exact Nat.le_trans hks (by decide)
end Mine.G
end
section
namespace Mine
noncomputable def appL (a e : Nat) (c : Value) (dd : Option Nat) (xs : List Value) (v : Value) : Ctr :=
 {code := .builtin "list.append" ⟨[.ref a,v],[]⟩,pre := [(a,sq c dd xs e)],val := fun _ _ => .none,upd := fun _ _ => [(a,sq c dd (xs ++ [v]) (e + 1))],news := fun _ _ => [],grow := 0,toks := 0,dm := 950,um := 8000 }
theorem appL_ok {V : Vw} {a e : Nat} {c : Value} {dd : Option Nat} {xs : List Value} {v : Value} (hx : xs.length ≤ 1000) : (appL a e c dd xs v).Ok V := by
 intro A s hd hu hh hl hp
 have ho := hp _ (List.mem_singleton_self _)
 refine codeAny_builtin entry_list_append ?_
 have hz' : (xs.toArray.push v).size ≤ sizeLine + 1 := by rw [Array.size_push]; simp only [List.size_toArray,sizeLine_eq]; lia
 have hz : xs.toArray.size ≤ sizeLine := by simp only [List.size_toArray,sizeLine_eq]; lia
 wp_walk using (wpAny_updateSeq ho rfl (hz := hz) (_hz' := hz'))
 refine ⟨rfl,?_⟩
 have e : Obj.mapSeq (fun x => x.push v) (sq c dd xs e) = sq c dd (xs ++ [v]) (e + 1) := by
  simp only [sq,Obj.mapSeq]
  simp
 exact after_upd ho (by rw [e]; rfl) rfl rfl (by rw [e]; rfl) rfl
noncomputable def elOf : Expr → Nat → Expr
 | .List es _,i => es.getD i (.Constant .none 0 ⟨0,0,0,0⟩)
 | e,_ => e
noncomputable def cScope : Expr → Scope
 | .ListComp _ _ sc _ => sc
 | _ => { kind := .function,names := [],isGenerator := false,isCoroutine := false }
noncomputable def cEnv (e : Expr) (C fr c : Nat) (q : Str) : Env := { scope := cScope e,locals := C,globals := 3,cells := [],qual := q,func := none,code := .ref c,frame := some fr,builtins := 0 }
noncomputable def cS (e : Expr) (it acc : Nat) (env : Env) : Code := .compStart e 0 (.ref it) (.ref acc) env
noncomputable def cL (e : Expr) (it acc : Nat) (env : Env) : Code := .compLoop e 0 (.ref it) (.ref acc) env
noncomputable def dcO (es : List DictEntry) (ep : Nat) : Obj := { cls := .type "dict",data := .dict es.toArray ep }
noncomputable def sLook : Str := ⟨#[95,108,97,119,95,108,111,111,107,46,60,108,111,99,97,108,115,62,46]⟩
noncomputable abbrev lookE : Expr := elOf (G.retOf (bodyOf (top 27))) 0
noncomputable abbrev lookEnv (C fr : Nat) : Env := cEnv lookE C fr 249 sLook
end Mine
end
section
namespace Mine.G
noncomputable def tpCs (c : Bool) : List Tk := match c with
 | true => [.stop]
 | false => [d 0,d 0,.go,d 0,.go,d 0,.stop]
theorem cLook_start {PT : Nat → Option Obj} {w : World} {c : Bool} {n t it a acc C fr i : Nat} {om : Om} (hc : c = cw w) :
  chk [] (runC PySem.W.Fast.mineEnt1 (vwP PT w n t [it] (fun _ => []) (fun _ => []) om 870 7400) 100 (cS lookE it acc (lookEnv C fr)) false (tpCs c) [itO (.ref a) i])
   ⟨.tail (cL lookE it acc (lookEnv C fr)) Sem.pure,n,0,t,0,[],[itO (.ref a) i],[]⟩ := by
 delta chk
 revert hc
 apply w4 (w := w)
 intro b c' hc
 cases hc.trans cw_W
 cases b <;> cases c <;> kernel_rfl
noncomputable def oneD (w : World) (q x : Nat) : Obj := dcO [de (PyData.keyHash w.params nOne) nOne q (.ref x)] 1
noncomputable def tpCt : List Tk := [d 0,.go,d 0,(.ctr 0 [.old 0,.old 1] [.old 0]),d 3,d 3,d 3,.go,d 2,(.ctr 1 [.old 2] [.old 2]),.stop]
noncomputable abbrev csL (it a acc i e ea dd x : Nat) (xs ys : List Value) : List Ctr := [nextC it a e i (.ref 101) (some dd) xs (.ref x),appL acc ea (.type "list") none ys (.ref x)]
noncomputable def z_cLook_first (w : World) (n t it a acc C fr i e ea dd x : Nat) (xs ys : List Value) : Rslt :=
 ⟨.tail (cL lookE it acc (lookEnv C fr)) Sem.pure,n,0,t,1,[],[itO (.ref a) (i + 1),inst dd xs e,lst (ys ++ [.ref x]) (ea + 1),oneD w t x],[]⟩
theorem cLook_first {PT : Nat → Option Obj} {w : World} {n t it a acc C fr i e ea dd x : Nat} {xs ys : List Value} {om : Om} :
  chk [] (runC PySem.W.Fast.mineEnt1 (vwP PT w n t [it,a,acc,C] (fun _ => csL it a acc i e ea dd x xs ys) (fun _ => []) om 870 7400) 100 (cL lookE it acc (lookEnv C fr)) false tpCt [itO (.ref a) i,inst dd xs e,lst ys ea,dcO [] 0]) (z_cLook_first w n t it a acc C fr i e ea dd x xs ys) := by
 delta chk
 apply w1 (w := w) <;> kernel_rfl
noncomputable def z_cLook_later (w : World) (n t it a acc C fr i e ea dd x q : Nat) (xs ys : List Value) : Rslt :=
 ⟨.tail (cL lookE it acc (lookEnv C fr)) Sem.pure,n,0,t,1,[],[itO (.ref a) (i + 1),inst dd xs e,lst (ys ++ [.ref x]) (ea + 1),oneD w q x],[]⟩
theorem cLook_later {PT : Nat → Option Obj} {w : World} {n t it a acc C fr i e ea dd x q y : Nat} {xs ys : List Value} {om : Om} :
  chk [] (runC PySem.W.Fast.mineEnt1 (vwP PT w n t [it,a,acc,C] (fun _ => csL it a acc i e ea dd x xs ys) (fun _ => []) om 870 7400) 100 (cL lookE it acc (lookEnv C fr)) false tpCt [itO (.ref a) i,inst dd xs e,lst ys ea,oneD w q y]) (z_cLook_later w n t it a acc C fr i e ea dd x q xs ys) := by
 delta chk
 apply w1 (w := w) <;> kernel_rfl
noncomputable def tpCe : List Tk := [d 0,.go,d 0,(.ctr 0 [.old 0,.old 1] [.old 0]),o 1]
noncomputable def z_cLook_end (n t i e dd : Nat) (xs : List Value) : Rslt :=
 ⟨.fin (.ok .next),n,2,t,0,[],[itE i,inst dd xs e],[]⟩
theorem cLook_end {PT : Nat → Option Obj} {w : World} {n t it a acc C fr i e dd : Nat} {xs : List Value} {om : Om} :
  chk [] (runC PySem.W.Fast.mineEnt1 (vwP PT w n t [it,a] (fun _ => [endC it a e i (.ref 101) (some dd) xs]) (fun _ => []) om 870 7400) 100 (cL lookE it acc (lookEnv C fr)) false tpCe [itO (.ref a) i,inst dd xs e]) (z_cLook_end n t i e dd xs) := by
 delta chk
 apply w1 (w := w) <;> kernel_rfl
theorem cLook_okS {it acc C fr : Nat} : okCode (cS lookE it acc (lookEnv C fr)) = true := by kernel_rfl
theorem cLook_okL {it acc C fr : Nat} : okCode (cL lookE it acc (lookEnv C fr)) = true := by kernel_rfl
end Mine.G
end
section
namespace Mine.G
noncomputable def esW (w : World) (q x : Nat) : Nat → Array DictEntry
 | 0 => #[]
 | _ => #[de (PyData.keyHash w.params nOne) nOne q (.ref x)]
noncomputable def epW : Nat → Nat
 | 0 => 0
 | _ => 1
noncomputable def dcW (w : World) (z q x : Nat) : Obj := { cls := .type "dict",data := .dict (esW w q x z) (epW z) }
noncomputable def compX (w : World) (z it a acc C fr dd e : Nat) (xs : List Nat) : XC :=
 {code := cS lookE it acc (lookEnv C fr),pre := [(it,itO (.ref a) 0),(a,inst dd (refs xs) e),(acc,lst [] 0),(C,dcO [] 0)],res := fun _ => .ok .next,
  upd := fun ω => [(it,itE xs.length),(acc,lst (refs xs) xs.length),(C,dcW w z (ω 3) (ω 4))],news := fun _ => [],dm := 860,um := 7300 }
section
variable {PT : Nat → Option Obj} {w : World} {it a acc C fr dd e : Nat} {xs : List Nat} {A : Around}
structure CpSt (PT : Nat → Option Obj) (w : World) (it a acc C dd e : Nat) (xs : List Nat) (i : Nat) (s : Shared) : Prop where
 lit : ∀ b o,lkP PT w.params b = some o → s.heap.get? b = some o
 iter : s.heap.get? it = some (itO (.ref a) i)
 inst : s.heap.get? a = some (inst dd (refs xs) e)
 acc : s.heap.get? acc = some (lst ((refs xs).take i) i)
 ns : (i = 0 ∧ s.heap.get? C = some (dcO [] 0)) ∨ (0 < i ∧ ∃ q x,s.heap.get? C = some (oneD w q x))
variable (nd : [it,a,acc,C].Nodup) (off : ∀ b ∈ [it,a,acc,C],lkP PT w.params b = none)
include nd off
theorem CpSt.start {i : Nat} {s : Shared} (I : CpSt PT w it a acc C dd e xs i s) {D : Obj} (hD : s.heap.get? C = some D) : StartP PT w s.heap.objs.size s.toks [it,a,acc,C] [itO (.ref a) i,Mine.inst dd (refs xs) e,lst ((refs xs).take i) i,D] s := by
 refine startP_of nd off rfl I.lit ?_
 intro p hp
 revert p
 refine zc ?_ (zc ?_ (zc ?_ (zc ?_ (zn))))
 ·exact I.iter
 ·exact I.inst
 ·exact I.acc
 ·exact hD
variable (hd : A.depth ≤ 870) (hu : A.units ≤ 7400) (hh : A.handled = none) (hx : xs.length ≤ 1000)
include hd hu hh hx
theorem cp_loop : ∀ (r i : Nat) (s : Shared),i + r = xs.length → CpSt PT w it a acc C dd e xs i s → codeAny (model prg w) A (cL lookE it acc (lookEnv C fr))
  (fun res s' => res = .ok .next ∧ s'.heap.get? it = some (itE xs.length) ∧ s'.heap.get? acc = some (lst (refs xs) xs.length) ∧ ((xs.length = 0 ∧ s'.heap.get? C = some (dcO [] 0)) ∨ (0 < xs.length ∧ ∃ q x,s'.heap.get? C = some (oneD w q x))) ∧ Mv [it,acc,C] s s') s := by
 have hlen : (refs xs).length = xs.length := by simp [refs]
 have nd' := nd
 simp only [List.nodup_cons,List.mem_cons,List.not_mem_nil,or_false,not_or,not_false_eq_true,List.nodup_nil,and_true] at nd'
 intro r
 induction r with
 | zero =>
  intro i s hi I
  have hi' : i = xs.length := by lia
  have S : StartP PT w s.heap.objs.size s.toks [it,a] [itO (.ref a) i,Mine.inst dd (refs xs) e] s := by
   refine startP_of (by simp; lia) (fun b hb => off b (by simp at hb ⊢; lia)) rfl I.lit ?_
   intro p hp
   revert p
   refine zc ?_ (zc ?_ (zn))
   ·exact I.iter
   ·exact I.inst
  refine run_codePE ent1_ok entQ1_eq S (fun _ D hC => ?_) (xs := fun _ => []) (fun _ D hC => by cases hC) hd hu hh cLook_okL (by decide) (by decide) (fun _ => cLook_end) fun om s' B => ?_
  ·rw [List.mem_singleton] at hC
   subst hC
   exact ctrP (end_ok (by rw [hlen]; lia))
  ·have mk := B.butP S (Ch := [it]) ⟨.inl m0,.inr rfl,trivial⟩
   have k : ∀ b o,s.heap.get? b = some o → b ≠ it → s'.heap.get? b = some o := fun b o h hb => mk.keep b o h fun x => hb (List.mem_singleton.mp x)
   refine ⟨rfl,by rw [← hi']; exact B.old 0 it _ rfl rfl,k _ _ (by rw [I.acc,hi',List.take_of_length_le (by rw [hlen]; lia)]) (Ne.symm nd'.1.2.1),?_,B.grow,fun b o h hn => k b o h (by simp at hn; exact hn.1),B.bare,B.os⟩
   rcases I.ns with ⟨h0,h⟩ | ⟨h0,q,x,h⟩
   ·exact .inl ⟨by lia,k _ _ h (Ne.symm nd'.1.2.2)⟩
   ·exact .inr ⟨by lia,q,x,k _ _ h (Ne.symm nd'.1.2.2)⟩
 | succ r ih =>
  intro i s hi I
  have hlt : i < xs.length := by lia
  have hv : (refs xs)[i]? = some (.ref xs[i]) := by simp [refs,hlt]
  have htk : (refs xs).take (i + 1) = (refs xs).take i ++ [.ref xs[i]] := by
   rw [List.take_add_one,hv]; rfl
  have CO : ∀ D ∈ csL it a acc i e i dd xs[i] (refs xs) ((refs xs).take i),CtrOkP PT w D := by
   intro D hD
   simp only [csL,List.mem_cons,List.not_mem_nil,or_false] at hD
   rcases hD with rfl | rfl
   ·exact ctrP (next_ok hv)
   ·exact appL_ok (by rw [List.length_take,hlen]; lia)
  have next : ∀ s' : Shared,s'.heap.get? it = some (itO (.ref a) (i + 1)) → s'.heap.get? acc = some (lst ((refs xs).take i ++ [.ref xs[i]]) (i + 1)) → (∃ q x,s'.heap.get? C = some (oneD w q x)) → Mv [it,acc,C] s s' →
    codeAny (model prg w) A (cL lookE it acc (lookEnv C fr)) (fun res s' => res = .ok .next ∧ s'.heap.get? it = some (itE xs.length) ∧ s'.heap.get? acc = some (lst (refs xs) xs.length) ∧ ((xs.length = 0 ∧ s'.heap.get? C = some (dcO [] 0)) ∨ (0 < xs.length ∧ ∃ q x,s'.heap.get? C = some (oneD w q x))) ∧ Mv [it,acc,C] s s') s' := by
   intro s' h1 h2 h3 m
   refine codeAny_mono (ih (i + 1) s' (by lia) ⟨fun b o h => m.keep b o (I.lit b o h) fun hm => ?_,h1,m.keep _ _ I.inst (by simp; lia),by rw [htk]; exact h2,.inr ⟨Nat.succ_pos _,h3⟩⟩) ?_
   ·rw [off b (by simp at hm ⊢; lia)] at h; cases h
   ·rintro res s'' ⟨e1,e2,e3,e4,m'⟩
    exact ⟨e1,e2,e3,e4,m.trans m'⟩
  have mvOf : ∀ {s' : Shared} {x : Rslt},Behind s s' [it,a,acc,C] x → x.U[1]? = some (Mine.inst dd (refs xs) e) → Mv [it,acc,C] s s' := by
   intro s' x B hU
   refine ⟨B.grow,fun b o h hn => ?_,B.bare,B.os⟩
   simp at hn
   refine B.still h fun j hj => ?_
   match j with
   | 0 => simp at hj; lia
   | 1 =>
    simp at hj
    subst hj
    rw [I.inst] at h
    cases h; exact hU
   | 2 => simp at hj; lia
   | 3 => simp at hj; lia
   | j + 4 => simp at hj
  rcases I.ns with ⟨hi0,hC⟩ | ⟨_,q,y,hC⟩
  ·have S := I.start nd off hC
   refine run_codePE ent1_ok entQ1_eq S (fun _ => CO) (xs := fun _ => []) (fun _ D hC => by cases hC) hd hu hh cLook_okL (by decide) (by decide) (fun _ => cLook_first) fun om s' B => ⟨rfl,?_⟩
   exact next s' (B.old 0 it _ rfl rfl) (B.old 2 acc _ rfl rfl) ⟨_,_,B.old 3 C _ rfl rfl⟩ (mvOf B rfl)
  ·have S := I.start nd off hC
   refine run_codePE ent1_ok entQ1_eq S (fun _ => CO) (xs := fun _ => []) (fun _ D hC => by cases hC) hd hu hh cLook_okL (by decide) (by decide) (fun _ => cLook_later) fun om s' B => ⟨rfl,?_⟩
   exact next s' (B.old 0 it _ rfl rfl) (B.old 2 acc _ rfl rfl) ⟨_,_,B.old 3 C _ rfl rfl⟩ (mvOf B rfl)
end
section
variable {PT : Nat → Option Obj} {w : World} {it a acc C fr dd e : Nat} {xs : List Nat}
theorem comp_ok (nd : [it,a,acc,C].Nodup) (off : ∀ b ∈ [it,a,acc,C],lkP PT w.params b = none) (hx : xs.length ≤ 1000) : XOkP PT w (compX w (min 1 xs.length) it a acc C fr dd e xs) := by
 refine XC.ok_of fun A s Q hd hu hh hl hp hQ => ?_
 have hd : A.depth ≤ 860 := hd
 have hu : A.units ≤ 7300 := hu
 have nd' := nd
 simp only [List.nodup_cons,List.mem_cons,List.not_mem_nil,or_false,not_or,not_false_eq_true,List.nodup_nil,and_true] at nd'
 have p1 : s.heap.get? it = some (itO (.ref a) 0) := hp (it,itO (.ref a) 0) (.head _)
 have p2 : s.heap.get? a = some (inst dd (refs xs) e) := hp (a,inst dd (refs xs) e) (.tail _ (.head _))
 have p3 : s.heap.get? acc = some (lst [] 0) := hp (acc,lst [] 0) (.tail _ (.tail _ (.head _)))
 have p4 : s.heap.get? C = some (dcO [] 0) := hp (C,dcO [] 0) (.tail _ (.tail _ (.tail _ (.head _))))
 have S : StartP PT w s.heap.objs.size s.toks [it] [itO (.ref a) 0] s := by
  refine startP_of (by simp) (fun b hb => off b (by simp at hb ⊢; lia)) rfl hl ?_
  intro p hp
  simp only [List.zip_cons_cons,List.zip_nil_right,List.mem_cons,List.not_mem_nil,or_false] at hp
  subst hp; exact p1
 refine run_codePE ent1_ok entQ1_eq S (fun _ D hC => by cases hC) (fun _ D hC => by cases hC) (by lia) (by lia) hh cLook_okS (by decide) (by decide) (fun _ => cLook_start rfl) fun om s1 B => ⟨rfl,?_⟩
 have k1 := (B.butP S (Ch := []) ⟨.inr rfl,trivial⟩).all
 refine codeAny_mono (cp_loop nd off (by lia) (by lia) hh hx xs.length 0 s1 (by lia) ⟨fun b o h => k1 b o (hl b o h),k1 _ _ p1,k1 _ _ p2,k1 _ _ p3,.inl ⟨rfl,k1 _ _ p4⟩⟩) ?_
 rintro res s2 ⟨rfl,e1,e2,e3,m⟩
 have key : ∃ q x,s2.heap.get? C = some (dcW w (min 1 xs.length) q x) := by
  rcases e3 with ⟨h0,h⟩ | ⟨h0,q,x,h⟩
  ·rw [h0]; exact ⟨0,0,h⟩
  ·rw [show min 1 xs.length = 1 by lia]; exact ⟨q,x,h⟩
 obtain ⟨q,x,hC⟩ := key
 refine hQ (fun | 0 => s2.heap.objs.size | 1 => s2.toks | 3 => q | _ => x) _ ⟨rfl,rfl,Nat.le_trans B.grow m.grow,?_,?_,?_,fun h => m.bare (B.bare h),m.os.trans B.os⟩
 ·intro p hp
  rw [show (compX w (min 1 xs.length) it a acc C fr dd e xs).upd _ = [(it,itE xs.length),(acc,lst (refs xs) xs.length),(C,dcW w (min 1 xs.length) q x)] from rfl] at hp
  revert p
  refine ac ?_ (ac ?_ (ac ?_ (an)))
  ·exact e1
  ·exact e2
  ·exact hC
 ·intro p hp'; cases hp'
 ·intro b o h hn
  rw [show (compX w (min 1 xs.length) it a acc C fr dd e xs).upd _ = [(it,itE xs.length),(acc,lst (refs xs) xs.length),(C,dcW w (min 1 xs.length) q x)] from rfl] at hn
  refine m.keep b o (k1 b o h) ?_
  intro hm
  simp only [List.mem_cons,List.not_mem_nil,or_false] at hm
  rcases hm with h | h | h
  ·exact hn _ (List.mem_cons_self ..) h.symm
  ·exact hn _ (List.mem_cons_of_mem _ (List.mem_cons_self ..)) h.symm
  ·exact hn _ (List.mem_cons_of_mem _ (List.mem_cons_of_mem _ (List.mem_cons_self ..))) h.symm
end
end Mine.G
end
section
namespace Mine.G
noncomputable def strP2 (v : Value) : { F : Sem Unit → Sem Value // ∀ X,X = cRoomFor "str" [v] → Builtin.Str.strOf v = F X } := by
 refine ⟨?_,?_⟩
 rotate_left
 ·intro X hX
  unfold Builtin.Str.strOf
  simp only [← hX]
  exact rfl
noncomputable def strN (v : Value) : Sem Value := (strP2 v).1 (pure ())
theorem Ref.str {M : Model} {A : Around} (hu : A.units < cLine) {a : Nat} : Ref M A (strN (.ref a)) (Builtin.Str.strOf (.ref a)) := by
 rw [(strP2 _).2 _ rfl]
 unfold strN strP2
 dsimp only
 exact Ref.bind (Ref.room hu) fun _ => Ref.refl _
theorem entry_str_new : entryFor table "str.__new__" = some Builtin.«str.__new__» := entryFor_of_fast (by kernel_rfl)
theorem str_new_tree (a : Nat) : Builtin.«str.__new__» ⟨[.type "str",.ref a],[]⟩ = (do let r ← Builtin.Str.strOf (.ref a); ret r) := by
 rfl
end Mine.G
end
section
namespace Mine.G
noncomputable def strNewX (a dd e : Nat) (xs : List Nat) (ps : List Value) (ps' : (Nat → Nat) → List Value) (t : Str) : XC :=
 {code := .builtin "str.__new__" ⟨[.type "str",.ref a],[]⟩,pre := [(a,inst dd (refs xs) e),(70,tb ps)],res := fun ω => .ok (.ret (.str t (ω 2))),upd := fun ω => [(70,tb (ps' ω))],news := fun _ => [],dm := 820,um := 6800 }
noncomputable def tpStrN : List Tk := [d 0,l,l,l,l,(.xctr 0 [.old 0,.old 1] [.old 1])]
noncomputable def z_strN_run (dd e : Nat) (xs : List Nat) (ps' : (Nat → Nat) → List Value) (tt : Str) (om : Om) : RsltT Value :=
 ⟨some (.str tt (om 0 2)),om 0 0,0,om 0 1,0,[],[inst dd (refs xs) e,tb (ps' (om 0))],[]⟩
theorem strN_run {PT : Nat → Option Obj} {w : World} {n t a dd e : Nat} {xs : List Nat} {ps : List Value} {ps' : (Nat → Nat) → List Value} {tt : Str} {om : Om} :
  chkT [] (runT PySem.W.Fast.mineEnt1 (vwP PT w n t [a,70] (fun _ => []) (fun _ => [strX a dd e xs ps ps' tt]) om 830 6810) 100 (strN (.ref a)) tpStrN [inst dd (refs xs) e,tb ps]) (z_strN_run dd e xs ps' tt om) := by
 delta chkT
 apply w1 (w := w) <;> kernel_rfl
theorem Ref.any {α : Type} {M : Model} {A : Around} {t' t : Sem α} {Q : α → Shared → Prop} {E : Value → Shared → Prop} {s : Shared} (h : Ref M A t' t) (x : wpAny M A t' Q E s) : wpAny M A t Q E s := fun Γ p hΓ => h Γ hΓ _ _ _ _ (x Γ p hΓ)
theorem strNew_ok {PT : Nat → Option Obj} {w : World} {a dd e : Nat} {xs : List Nat} {ps : List Value} {ps' : (Nat → Nat) → List Value} {t : Str} (ha : lkP PT w.params a = none) (hne : a ≠ 70) (H : XOkP PT w (strX a dd e xs ps ps' t)) : XOkP PT w (strNewX a dd e xs ps ps' t) := by
 refine XC.ok_of fun A s Q hd hu hh hl hp hQ => ?_
 have hd : A.depth ≤ 820 := hd
 have hu : A.units ≤ 6800 := hu
 have p1 : s.heap.get? a = some (inst dd (refs xs) e) := hp (a,inst dd (refs xs) e) (.head _)
 have p2 : s.heap.get? 70 = some (tb ps) := hp (70,tb ps) (.tail _ (.head _))
 have S : StartP PT w s.heap.objs.size s.toks [a,70] [inst dd (refs xs) e,tb ps] s := by
  refine startP_of (by simpa using hne) (fun b hb => ?_) rfl hl ?_
  ·simp only [List.mem_cons,List.not_mem_nil,or_false] at hb
   rcases hb with rfl | rfl
   ·exact ha
   ·rfl
  ·intro p hp
   simp only [List.zip_cons_cons,List.zip_nil_right,List.mem_cons,List.not_mem_nil,or_false] at hp
   rcases hp with rfl | rfl
   ·exact p1
   ·exact p2
 have h1 := fun om : Om => strN_run (PT := PT) (w := w) (n := s.heap.objs.size) (t := s.toks) (a := a) (dd := dd) (e := e) (xs := xs) (ps := ps) (ps' := ps') (tt := t) (om := om)
 refine codeAny_builtin entry_str_new ?_
 show wpAny _ _ (Builtin.«str.__new__» ⟨[.type "str",.ref a],[]⟩) _ _ s
 rw [str_new_tree]
 have hw : (Code.builtin "str.__new__" ⟨[.type "str",.ref a],[]⟩).weight ≤ 1 := Nat.le_of_ble_eq_true rfl
 have hc : (Code.builtin "str.__new__" ⟨[.type "str",.ref a],[]⟩).cUnits ≤ 10 := Nat.le_of_ble_eq_true rfl
 have hd1 : (A.under (.builtin "str.__new__" ⟨[.type "str",.ref a],[]⟩)).depth ≤ 830 := by
  show A.depth + (Code.builtin "str.__new__" ⟨[.type "str",.ref a],[]⟩).weight ≤ 830
  lia
 have hu1 : (A.under (.builtin "str.__new__" ⟨[.type "str",.ref a],[]⟩)).units ≤ 6810 := by
  show A.units + (Code.builtin "str.__new__" ⟨[.type "str",.ref a],[]⟩).cUnits ≤ 6810
  lia
 refine wpAny_bind (Ref.any (Ref.str (by
  have : cLine = 9900 := rfl
  lia)) ?_)
 refine run_treeP ent1_ok entQ1_eq S (cs := fun _ => []) (fun _ => an) (xs := fun _ => [strX a dd e xs ps ps' t]) (fun om C hC => by
  rw [List.mem_singleton] at hC
  subst hC; exact H) hd1 hu1 hh h1 fun om s1 B K => ⟨_,rfl,?_⟩
 refine wpAny_pure (hQ (fun | 0 => om 0 0 | 1 => om 0 1 | i => om 0 i) _ ⟨?_,?_,?_,?_,?_,?_,B.bare,B.os⟩)
 ·exact B.size
 ·exact B.toks
 ·have := B.grow
  have h : s1.heap.objs.size = om 0 0 := B.size
  rw [h] at this; exact this
 ·intro p hp'
  have e2 : (strNewX a dd e xs ps ps' t).upd (fun | 0 => om 0 0 | 1 => om 0 1 | i => om 0 i) = [(70,tb (ps' (om 0)))] := by
   show [(70,tb (ps' _))] = _
   congr 4
   funext i
   match i with
   | 0 => rfl
   | 1 => rfl
   | i + 2 => rfl
  rw [e2,List.mem_singleton] at hp'
  subst hp'
  exact B.old 1 70 _ rfl rfl
 ·intro p hp'; cases hp'
 ·intro b o h hn
  exact (B.butP S (Ch := [70]) ⟨.inr rfl,.inl m0,trivial⟩).keep b o h fun x => absurd (List.mem_singleton.mp x) (fun e => hn _ (List.mem_singleton.mpr rfl) e.symm)
end Mine.G
end
section
namespace Mine.G
noncomputable def lenHX (a dd e : Nat) (xs : List Nat) (g1 : Int) (tg : Nat) (f : Int) (u eu : Nat) (ps : List Value) (ps' : (Nat → Nat) → List Value) (sum : Int) : XC :=
 {code := .builtin "len" ⟨[.ref a],[]⟩,pre := [(a,inst dd (refs xs) e),(dd,dct g1 tg f u eu),(63,tb ps)],res := fun ω => .ok (.ret (.int sum (ω 2))),upd := fun ω => [(63,tb (ps' ω))],news := fun _ => [],dm := 820,um := 6800 }
noncomputable def tpLenN : List Tk := [d 0,l,l,l,l,(.xctr 0 [.old 0,.old 1,.old 2] [.old 2])]
noncomputable def z_lenN_run (dd e tg u eu : Nat) (g1 f z : Int) (xs : List Nat) (ps' : (Nat → Nat) → List Value) (om : Om) : RsltT (Option Value) :=
 ⟨some (some (.int z (om 0 2))),om 0 0,0,om 0 1,0,[],[inst dd (refs xs) e,dct g1 tg f u eu,tb (ps' (om 0))],[]⟩
theorem lenN_run {PT : Nat → Option Obj} {w : World} {n t a dd e tg u eu : Nat} {g1 f z : Int} {xs : List Nat} {ps : List Value} {ps' : (Nat → Nat) → List Value} {om : Om} :
  chkT [] (runT PySem.W.Fast.mineEnt1 (vwP PT w n t [a,dd,63] (fun _ => []) (fun _ => [lenX a dd e xs g1 tg f u eu ps ps' z]) om 830 6810) 100 (callSpecial? (.ref a) "__len__") tpLenN [inst dd (refs xs) e,dct g1 tg f u eu,tb ps]) (z_lenN_run dd e tg u eu g1 f z xs ps' om) := by
 delta chkT
 apply w1 (w := w) <;> kernel_rfl
theorem lenH_ok {PT : Nat → Option Obj} {w : World} {a dd e tg u eu : Nat} {g1 f z : Int} {xs : List Nat} {ps : List Value} {ps' : (Nat → Nat) → List Value} (ha : lkP PT w.params a = none) (hd1 : lkP PT w.params dd = none) (hne : a ≠ 63) (hne2 : dd ≠ 63) (hps : ∀ ω ω' : Nat → Nat,ω 3 = ω' 3 → ps' ω = ps' ω') (hz : 0 ≤ z) (hz2 : z < 100000)
  (H : XOkP PT w (lenX a dd e xs g1 tg f u eu ps ps' z)) : XOkP PT w (lenHX a dd e xs g1 tg f u eu ps (fun ω => ps' ω) z) := by
 refine XC.ok_of fun A s Q hd hu hh hl hp hQ => ?_
 have hd : A.depth ≤ 820 := hd
 have hu : A.units ≤ 6800 := hu
 have p1 : s.heap.get? a = some (inst dd (refs xs) e) := hp (a,inst dd (refs xs) e) (.head _)
 have p2 : s.heap.get? dd = some (dct g1 tg f u eu) := hp (dd,dct g1 tg f u eu) (.tail _ (.head _))
 have p3 : s.heap.get? 63 = some (tb ps) := hp (63,tb ps) (.tail _ (.tail _ (.head _)))
 have ne := inst_ne_dct p1 p2
 have S : StartP PT w s.heap.objs.size s.toks [a,dd,63] [inst dd (refs xs) e,dct g1 tg f u eu,tb ps] s := by
  refine startP_of (by simp [Ne.symm ne,hne,hne2]) (fun b hb => ?_) rfl hl ?_
  ·revert b
   refine ac ?_ (ac ?_ (ac ?_ (an)))
   ·exact ha
   ·exact hd1
   ·rfl
  ·intro p hp
   revert p
   refine zc ?_ (zc ?_ (zc ?_ (zn)))
   ·exact p1
   ·exact p2
   ·exact p3
 have h1 := fun om : Om => lenN_run (PT := PT) (w := w) (n := s.heap.objs.size) (t := s.toks) (a := a) (dd := dd) (e := e) (tg := tg) (u := u) (eu := eu) (g1 := g1) (f := f) (z := z) (xs := xs) (ps := ps) (ps' := ps') (om := om)
 refine codeAny_builtin entry_len ?_
 have hw : (Code.builtin "len" ⟨[.ref a],[]⟩).weight ≤ 1 := Nat.le_of_ble_eq_true rfl
 have hc : (Code.builtin "len" ⟨[.ref a],[]⟩).cUnits ≤ 10 := Nat.le_of_ble_eq_true rfl
 have hd1 : (A.under (.builtin "len" ⟨[.ref a],[]⟩)).depth ≤ 830 := by
  show A.depth + (Code.builtin "len" ⟨[.ref a],[]⟩).weight ≤ 830
  lia
 have hu1 : (A.under (.builtin "len" ⟨[.ref a],[]⟩)).units ≤ 6810 := by
  show A.units + (Code.builtin "len" ⟨[.ref a],[]⟩).cUnits ≤ 6810
  lia
 show wpAny _ _ (Builtin.«len» ⟨[.ref a],[]⟩) _ _ s
 unfold Builtin.«len»
 refine wpAny_bind (wpAny_of_eq (a := .ref a) rfl ?_)
 refine wpAny_bind (run_treeP ent1_ok entQ1_eq S (cs := fun _ => []) (fun _ => an) (xs := fun _ => [lenX a dd e xs g1 tg f u eu ps ps' z]) (fun om C hC => by
  rw [List.mem_singleton] at hC
  subst hC; exact H) hd1 hu1 hh h1 fun om s1 B K => ⟨_,rfl,?_⟩)
 refine wpAny_bind (wpAny_holding (wpAny_of_eq (a := z) rfl ?_))
 refine wpAny_bind (wpAny_letGo ?_)
 rw [if_neg (by lia),if_neg (by lia)]
 refine wpAny_bind (wpAny_mkInt (wpAny_pure ?_))
 show Q (.ok (.ret (.int z s1.toks))) _
 rw [show s1.toks = om 0 1 from B.toks]
 refine hQ (fun | 0 => om 0 0 | 1 => om 0 1 + 1 | 2 => om 0 1 | i => om 0 i) _ ⟨?_,?_,?_,?_,?_,?_,B.bare,B.os⟩
 ·exact B.size
 ·rfl
 ·have := B.grow
  have h : s1.heap.objs.size = om 0 0 := B.size
  rw [h] at this; exact this
 ·intro p hp'
  have e2 : (lenHX a dd e xs g1 tg f u eu ps (fun ω => ps' ω) z).upd (fun | 0 => om 0 0 | 1 => om 0 1 + 1 | 2 => om 0 1 | i => om 0 i) = [(63,tb (ps' (fun | 0 => om 0 0 | 1 => om 0 1 + 1 | 2 => om 0 1 | i => om 0 i)))] := rfl
  rw [e2,List.mem_singleton] at hp'
  subst hp'
  have := B.old 2 63 _ rfl rfl
  have e3 : ps' (om 0) = ps' (fun | 0 => om 0 0 | 1 => om 0 1 + 1 | 2 => om 0 1 | i => om 0 i) := hps _ _ rfl
  rw [e3] at this
  exact this
 ·intro p hp'; cases hp'
 ·intro b o h hn
  exact (B.butP S (Ch := [63]) ⟨.inr rfl,.inr rfl,.inl m0,trivial⟩).keep b o h fun x => absurd (List.mem_singleton.mp x) (fun e => hn _ (List.mem_singleton.mpr rfl) e.symm)
end Mine.G
end
section
namespace Mine.G
noncomputable def tpLook0 : List Tk := (cat [l,l,o 0,o 0,l,.go] (cat tp85 (cat [.go,d 0,l,.go,o 1,(.xctr 0 [.own 1,.old 0,.own 2,.own 3] [.own 1,.own 2,.own 3]),o 3] (cat tp85 [d 0,l,l,l,l,d 0,d 1,l,.ent,l,l,o 4,o 4,l,.ent,l,l,l,l,l,o 4,l,.go,.go,l,.go,.go,o 5,o 5,.go,o 5,.go,l,d 0,d 0,l,o 5,o 5,o 5,o 5,o 5,o 5,o 5,o 5,.go,o 5,.go,o 5,o 5,o 5,l,l,.go,.go,d 0,l,o 6,.go,o 6,(.ctr 0 [.old 0] []),l,l,o 0,.go,.go,.go,(.xctr 1 [.old 0,.old 3] [.old 3]),.go,.go,l,l,o 0,.go,(.xctr 2 [.old 0,.old 1,.old 2] [.old 2])]))))
noncomputable def tpLook1 : List Tk := (cat [l,l,o 0,o 0,l,.go] (cat tp85 (cat [.go,d 0,l,.go,o 1,(.xctr 0 [.own 1,.old 0,.own 2,.own 3] [.own 1,.own 2,.own 3]),o 3,o 3,o 3] (cat tp85 [d 0,l,l,l,l,d 0,d 1,l,.ent,l,l,o 4,o 4,l,.ent,l,l,l,l,l,o 4,l,.go,.go,l,.go,.go,o 5,o 5,.go,o 5,.go,l,d 0,d 0,l,o 5,o 5,o 5,o 5,o 5,o 5,o 5,o 5,.go,o 5,.go,o 5,o 5,o 5,l,l,.go,.go,d 0,l,o 6,.go,o 6,(.ctr 0 [.old 0] []),l,l,o 0,.go,.go,.go,(.xctr 1 [.old 0,.old 3] [.old 3]),.go,.go,l,l,o 0,.go,(.xctr 2 [.old 0,.old 1,.old 2] [.old 2])]))))
noncomputable def lookX (a dd e : Nat) (xs : List Nat) (g1 : Int) (tg : Nat) (f : Int) (u eu : Nat) (p63 p70 : List Value) (q63 q70 : Nat → List Value) (tt : Str) (z : Int) : XC :=
 {code := .call (.ref 250) ⟨[.ref a],[]⟩,pre := [(a,inst dd (refs xs) e),(dd,dct g1 tg f u eu),(63,tb p63),(70,tb p70)],res := fun ω => .ok (.ret (.ref (ω 2))),upd := fun ω => [(63,tb (q63 (ω 7))),(70,tb (q70 (ω 8)))],
  news := fun ω => [(ω 3,lst (refs xs) xs.length),(ω 2,lst [.ref (ω 3),.int (refs xs).length (ω 4),.str tt (ω 5),.int z (ω 6)] 0)],dm := 790,um := 6600 }
noncomputable abbrev csLook (a dd e : Nat) (xs : List Nat) : List Ctr := [lenC a dd e (refs xs)]
noncomputable abbrev xsLook (w : World) (zz n a dd e : Nat) (xs : List Nat) (g1 : Int) (tg : Nat) (f : Int) (u eu : Nat) (p63 p70 : List Value) (q63 q70 : Nat → List Value) (tt : Str) (z : Int) : List XC :=
 [compX w zz (n + 1) a (n + 2) (n + 3) n dd e xs,strNewX a dd e xs p70 (fun ω => q70 (ω 3)) tt,lenHX a dd e xs g1 tg f u eu p63 (fun ω => q63 (ω 3)) z]
noncomputable def z_look (n dd e tg u eu : Nat) (g1 f z : Int) (xs : List Nat) (q63 q70 : Nat → List Value) (tt : Str) (om : Om) : Rslt :=
 ⟨.fin (.ok (.ret (.ref (om 2 0)))),om 2 0,1,om 2 1,0,[some (n + 2,lst (refs xs) xs.length),some (om 2 0,lst [.ref (n + 2),.int (refs xs).length (om 0 1 + 2),.str tt (om 1 2),.int z (om 2 2)] 0)],
    [inst dd (refs xs) e,dct g1 tg f u eu,tb (q63 (om 2 3)),tb (q70 (om 1 3))],[]⟩
theorem look_run0 {PT : Nat → Option Obj} {w : World} {n t a dd e tg u eu : Nat} {g1 f z : Int} {xs : List Nat} {p63 p70 : List Value} {q63 q70 : Nat → List Value} {tt : Str} {om : Om} :
  chk [2,7] (runC PySem.W.Fast.mineEnt1 (vwP PT w n t [a + 281,dd,63,70] (fun _ => csLook (a + 281) dd e xs) (fun _ => xsLook w 0 n (a + 281) dd e xs g1 tg f u eu p63 p70 q63 q70 tt z) om 790 6600) 400 (.call (.ref 250) ⟨[.ref (a + 281)],[]⟩) true tpLook0 [inst dd (refs xs) e,dct g1 tg f u eu,tb p63,tb p70]) (z_look n dd e tg u eu g1 f z xs q63 q70 tt om) := by
 delta chk
 apply w1 (w := w) <;> kernel_rfl
theorem look_run1 {PT : Nat → Option Obj} {w : World} {n t a dd e tg u eu : Nat} {g1 f z : Int} {xs : List Nat} {p63 p70 : List Value} {q63 q70 : Nat → List Value} {tt : Str} {om : Om} :
  chk [2,7] (runC PySem.W.Fast.mineEnt1 (vwP PT w n t [a + 281,dd,63,70] (fun _ => csLook (a + 281) dd e xs) (fun _ => xsLook w 1 n (a + 281) dd e xs g1 tg f u eu p63 p70 q63 q70 tt z) om 790 6600) 400 (.call (.ref 250) ⟨[.ref (a + 281)],[]⟩) true tpLook1 [inst dd (refs xs) e,dct g1 tg f u eu,tb p63,tb p70]) (z_look n dd e tg u eu g1 f z xs q63 q70 tt om) := by
 delta chk
 apply w1 (w := w) <;> kernel_rfl
end Mine.G
end
section
namespace Mine.G
variable {PT : Nat → Option Obj} {w : World} {xs ks : List Nat}
theorem told_lt {s : Shared} (hl : ∀ b o,lkP PT w.params b = some o → s.heap.get? b = some o) {b : Nat} (h : s.heap.objs.size ≤ b) : lkP PT w.params b = none := by
 cases hx : lkP PT w.params b with
 | none => rfl
 | some o => exact absurd (Heap.lt_size (hl _ _ hx)) (Nat.not_lt.mpr h)
theorem look_ok {a dd e tg u eu : Nat} {g1 f z : Int} {p63 p70 : List Value} {q63 q70 : Nat → List Value} {tt : Str} (hx : xs.length ≤ 1000) (h281 : 281 ≤ a) (hdd : 281 ≤ dd) (ha : lkP PT w.params a = none) (hd1 : lkP PT w.params dd = none)
  (hz : 0 ≤ z) (hz2 : z < 100000) (H70 : XOkP PT w (strX a dd e xs p70 (fun ω => q70 (ω 3)) tt)) (H63 : XOkP PT w (lenX a dd e xs g1 tg f u eu p63 (fun ω => q63 (ω 3)) z)) : XOkP PT w (lookX a dd e xs g1 tg f u eu p63 p70 q63 q70 tt z) := by
 obtain ⟨a',rfl⟩ := Nat.exists_eq_add_of_le' h281
 refine XC.ok_of fun A s Q hd hu hh hl hp hQ => ?_
 have hd : A.depth ≤ 790 := hd
 have hu : A.units ≤ 6600 := hu
 have p1 : s.heap.get? (a' + 281) = some (inst dd (refs xs) e) := hp (a' + 281,inst dd (refs xs) e) (.head _)
 have p2 : s.heap.get? dd = some (dct g1 tg f u eu) := hp (dd,dct g1 tg f u eu) (.tail _ (.head _))
 have p3 : s.heap.get? 63 = some (tb p63) := hp (63,tb p63) (.tail _ (.tail _ (.head _)))
 have p4 : s.heap.get? 70 = some (tb p70) := hp (70,tb p70) (.tail _ (.tail _ (.tail _ (.head _))))
 have ne := inst_ne_dct p1 p2
 have S : StartP PT w s.heap.objs.size s.toks [a' + 281,dd,63,70] [inst dd (refs xs) e,dct g1 tg f u eu,tb p63,tb p70] s := by
  refine startP_of (by simp [Ne.symm ne]; lia) (fun b hb => ?_) rfl hl ?_
  ·revert b
   refine ac ?_ (ac ?_ (ac ?_ (ac ?_ (an))))
   ·exact ha
   ·exact hd1
   ·rfl
   ·rfl
  ·intro p hp
   revert p
   refine zc ?_ (zc ?_ (zc ?_ (zc ?_ (zn))))
   ·exact p1
   ·exact p2
   ·exact p3
   ·exact p4
 have hlen : (refs xs).length = xs.length := by simp [refs]
 have hlt : @LT.lt Nat _ (a' + 281) s.heap.objs.size := Heap.lt_size p1
 have CO : ∀ C ∈ csLook (a' + 281) dd e xs,CtrOkP PT w C := by
  intro C hC
  rw [List.mem_singleton] at hC
  subst hC
  exact ctrP Mine.len_ok
 have XO : ∀ C ∈ xsLook w (min 1 xs.length) s.heap.objs.size (a' + 281) dd e xs g1 tg f u eu p63 p70 q63 q70 tt z,XOkP PT w C := by
  intro C hC
  revert C
  refine ac ?_ (ac ?_ (ac ?_ (an)))
  ·refine comp_ok (by simp; lia) (fun b hb => ?_) hx
   revert b
   refine ac ?_ (ac ?_ (ac ?_ (ac ?_ (an))))
   ·exact told_lt hl (by lia)
   ·exact ha
   ·exact told_lt hl (by lia)
   ·exact told_lt hl (by lia)
  ·exact strNew_ok ha (by lia) H70
  ·exact lenH_ok ha hd1 (by lia) (by lia) (fun ω ω' h => by show q63 _ = q63 _; rw [h]) hz hz2 H63
 have key : ∀ (N : Nat) (tp : List Tk),(∀ om : Om,chk [2,7] (runC PySem.W.Fast.mineEnt1 (vwP PT w s.heap.objs.size s.toks [a' + 281,dd,63,70] (fun _ => csLook (a' + 281) dd e xs) (fun _ => xsLook w (min 1 xs.length) s.heap.objs.size (a' + 281) dd e xs g1 tg f u eu p63 p70 q63 q70 tt z) om 790 6600) N (.call (.ref 250) ⟨[.ref (a' + 281)],[]⟩) true tp [inst dd (refs xs) e,dct g1 tg f u eu,tb p63,tb p70])
   (z_look s.heap.objs.size dd e tg u eu g1 f z xs q63 q70 tt om)) →
   codeAny (model prg w) A (lookX (a' + 281) dd e xs g1 tg f u eu p63 p70 q63 q70 tt z).code Q s := by
  intro N tp h1
  refine run_codePE ent1_ok entQ1_eq S (fun _ => CO) (fun _ => XO) hd hu hh rfl (by decide) (by decide) h1 fun om s1 B => ?_
  refine hQ (fun | 0 => om 2 0 + 1 | 1 => om 2 1 | 2 => om 2 0 | 3 => s.heap.objs.size + 2 | 4 => om 0 1 + 2 | 5 => om 1 2 | 6 => om 2 2 | 7 => om 2 3 | _ => om 1 3) _ ⟨B.size,B.toks,?_,?_,?_,?_,B.bare,B.os⟩
  ·have := B.grow
   have h : s1.heap.objs.size = om 2 0 + 1 := B.size
   rw [h] at this; exact this
  ·intro p hp'
   revert p
   refine ac ?_ (ac ?_ (an))
   ·exact B.old 2 63 _ rfl rfl
   ·exact B.old 3 70 _ rfl rfl
  ·intro p hp'
   revert p
   refine ac ?_ (ac ?_ (an))
   ·exact B.own 0 _ _ rfl
   ·exact B.own 1 _ _ rfl
  ·intro b o h hn
   refine (B.butP S (Ch := [63,70]) ⟨.inr rfl,.inr rfl,.inl m0,.inl m1,trivial⟩).keep b o h fun x => ?_
   rcases List.mem_cons.mp x with e | x
   ·exact hn (63,tb (q63 (om 2 3))) m0 e.symm
   ·exact hn (70,tb (q70 (om 1 3))) m1 (List.mem_singleton.mp x).symm
 rcases Nat.eq_zero_or_pos xs.length with h0 | h0
 ·refine key 400 tpLook0 fun om => ?_
  rw [show min 1 xs.length = 0 by lia]
  exact look_run0
 ·refine key 400 tpLook1 fun om => ?_
  rw [show min 1 xs.length = 1 by lia]
  exact look_run1
end Mine.G
end
section
namespace Mine
noncomputable def sDue : Str := ⟨#[95,108,97,119,95,100,117,101,46,60,108,111,99,97,108,115,62,46]⟩
noncomputable def asgOf : List Stmt → Nat → Expr
 | .Assign _ e _ :: _,0 => e
 | _ :: r,n + 1 => asgOf r n
 | _,_ => .Constant .none 0 ⟨0,0,0,0⟩
noncomputable abbrev dueE1 : Expr := asgOf (bodyOf (top 28)) 0
noncomputable abbrev dueE2 : Expr := match asgOf (bodyOf (top 28)) 1 with | .Call _ as _ _ => as.getD 0 (.Constant .none 0 ⟨0,0,0,0⟩) | e => e
noncomputable abbrev dueEnv1 (C fr : Nat) : Env := cEnv dueE1 C fr 254 sDue
noncomputable abbrev dueEnv2 (C fr : Nat) : Env := cEnv dueE2 C fr 254 sDue
noncomputable def nPlace : Str := ⟨#[112,108,97,99,101]⟩
noncomputable def plD (w : World) (q : Nat) (v : Value) : Obj := dcO [de (PyData.keyHash w.params nPlace) nPlace q v] 1
end Mine
end
section
namespace Mine.G
noncomputable def tpDu1 : List Tk := ([d 0,.go,d 0,(.ctr 0 [.old 0,.old 1] [.old 0]),d 3,d 3,l,l,.ent,l,l,l,.go,d 3,o 7,o 7,o 7,.go,o 7,.go,o 7,.go,.go,d 2,(.ctr 1 [.old 2] [.old 2]),.stop])
noncomputable abbrev lsC : Value := .type "list"
noncomputable abbrev csDu (it r acc er i ea k tk x : Nat) (rv ys : List Value) : List Ctr := [nextC it r er i lsC none rv (.int (.ofNat k) tk),appL acc ea lsC none ys (.ref x)]
noncomputable def du1R (PT : Nat → Option Obj) (w : World) (n t it r acc C fr i er ea tk x : Nat) (rv ys : List Value) (D : Obj) (om : Om) : RunR :=
 runC PySem.W.Fast.mineEnt1 (vwP PT w n t [it,r,acc,C] (fun _ => csDu it r acc er i ea x tk (n + (1 + x)) rv ys) (fun _ => []) om 860 7300) 100 (cL dueE1 it acc (dueEnv1 C fr)) false tpDu1 [itO (.ref r) i,lst rv er,lst ys ea,D]
noncomputable def du1Z (w : World) (n t it r acc C fr i er ea tk x q : Nat) (rv ys : List Value) : Rslt :=
 ⟨.tail (cL dueE1 it acc (dueEnv1 C fr)) Sem.pure,n,8,t,13,[some (n + (1 + x),piece x (t + (1 + 2 * x)))],[itO (.ref r) (i + 1),lst rv er,lst (ys ++ [.ref (n + (1 + x))]) (ea + 1),plD w q (.int (.ofNat x) tk)],[]⟩
theorem six {P : Nat → Prop} (h0 : P 0) (h1 : P 1) (h2 : P 2) (h3 : P 3) (h4 : P 4) (h5 : P 5) : ∀ x,x < 6 → P x
 | 0,_ => h0
 | 1,_ => h1
 | 2,_ => h2
 | 3,_ => h3
 | 4,_ => h4
 | 5,_ => h5
theorem du1_f {PT : Nat → Option Obj} {w : World} {n t it r acc C fr i er ea tk : Nat} {rv ys : List Value} {om : Om} : ∀ x,x < 6 → chk [1 + x] (du1R PT w n t it r acc C fr i er ea tk x rv ys (dcO [] 0) om) (du1Z w n t it r acc C fr i er ea tk x t rv ys) := by
 delta chk
 apply six <;> apply w1 (w := w) <;> kernel_rfl
theorem du1_l {PT : Nat → Option Obj} {w : World} {n t it r acc C fr i er ea tk q k0 tk0 : Nat} {rv ys : List Value} {om : Om} : ∀ x,x < 6 → chk [1 + x] (du1R PT w n t it r acc C fr i er ea tk x rv ys (plD w q (.int (.ofNat k0) tk0)) om) (du1Z w n t it r acc C fr i er ea tk x q rv ys) := by
 delta chk
 apply six <;> apply w1 (w := w) <;> kernel_rfl
end Mine.G
end
section
namespace Mine.G
theorem du1_start {PT : Nat → Option Obj} {w : World} {c : Bool} {n t it a acc C fr i : Nat} {om : Om} (hc : c = cw w) :
  chk [] (runC PySem.W.Fast.mineEnt1 (vwP PT w n t [it] (fun _ => []) (fun _ => []) om 860 7300) 100 (cS dueE1 it acc (dueEnv1 C fr)) false (tpCs c) [itO (.ref a) i])
   ⟨.tail (cL dueE1 it acc (dueEnv1 C fr)) Sem.pure,n,0,t,0,[],[itO (.ref a) i],[]⟩ := by
 delta chk
 revert hc
 apply w4 (w := w)
 intro b c' hc
 cases hc.trans cw_W
 cases b <;> cases c <;> kernel_rfl
theorem du1_end {PT : Nat → Option Obj} {w : World} {n t it r acc C fr i er : Nat} {rv : List Value} {om : Om} :
  chk [] (runC PySem.W.Fast.mineEnt1 (vwP PT w n t [it,r] (fun _ => [endC it r er i lsC none rv]) (fun _ => []) om 860 7300) 100 (cL dueE1 it acc (dueEnv1 C fr)) false tpCe [itO (.ref r) i,lst rv er])
   ⟨.fin (.ok .next),n,2,t,0,[],[itE i,lst rv er],[]⟩ := by
 delta chk
 apply w1 (w := w) <;> kernel_rfl
theorem du1_okS {it acc C fr : Nat} : okCode (cS dueE1 it acc (dueEnv1 C fr)) = true := by kernel_rfl
theorem du1_okL {it acc C fr : Nat} : okCode (cL dueE1 it acc (dueEnv1 C fr)) = true := by kernel_rfl
theorem pcs_keep {h h' : Heap} {ps ks : List Nat} {n0 : Nat} (X : Pcs h ps ks) (hn : ∀ p ∈ ps,n0 ≤ p) (k : ∀ (p : Nat) o,n0 ≤ p → h.get? p = some o → h'.get? p = some o) : Pcs h' ps ks := by
 induction X with
 | nil => exact .nil
 | cons a _ ih =>
  obtain ⟨a1,t,a2⟩ := a
  exact .cons ⟨a1,t,k _ _ (hn _ (by simp)) a2⟩ (ih fun p hp => hn p (by simp [hp]))
section
variable {PT : Nat → Option Obj} {w : World} {it r acc C fr er : Nat} {rv : List Value} {ks : List Nat} {A : Around} {n0 : Nat}
end
noncomputable def PlO (w : World) (i : Nat) (D : Obj) : Prop := (i = 0 ∧ D = dcO [] 0) ∨ (0 < i ∧ ∃ q k tk,D = plD w q (.int (.ofNat k) tk))
noncomputable def PlAt (w : World) (C i : Nat) (h : Heap) : Prop := ∃ D,h.get? C = some D ∧ PlO w i D
theorem PlAt.keep {w : World} {C i : Nat} {h h' : Heap} (H : PlAt w C i h) (k : ∀ o,h.get? C = some o → h'.get? C = some o) : PlAt w C i h' := by
 obtain ⟨D,h,o⟩ := H
 exact ⟨D,k _ h,o⟩
section
variable {PT : Nat → Option Obj} {w : World} {it r acc C fr er : Nat} {rv : List Value} {ks : List Nat} {A : Around} {n0 : Nat}
structure DuSt (PT : Nat → Option Obj) (w : World) (it r acc C er n0 : Nat) (rv : List Value) (ks : List Nat) (i : Nat) (ps : List Nat) (s : Shared) : Prop where
 lit : ∀ b o,lkP PT w.params b = some o → s.heap.get? b = some o
 iter : s.heap.get? it = some (itO (.ref r) i)
 row : s.heap.get? r = some (lst rv er)
 accu : s.heap.get? acc = some (lst (refs ps) i)
 ns : PlAt w C i s.heap
 pcs : Pcs s.heap ps (ks.take i)
 new : ∀ p ∈ ps,n0 ≤ p
 size : n0 ≤ s.heap.objs.size
 four : it < n0 ∧ r < n0 ∧ acc < n0 ∧ C < n0
noncomputable def DuEnd (w : World) (it acc C n0 : Nat) (ks : List Nat) (s : Shared) (res : Result) (s' : Shared) : Prop :=
 res = .ok .next ∧ ∃ ps,s'.heap.get? it = some (itE ks.length) ∧ s'.heap.get? acc = some (lst (refs ps) ks.length) ∧ Pcs s'.heap ps ks ∧ (∀ p ∈ ps,n0 ≤ p) ∧
  PlAt w C ks.length s'.heap ∧ Mv [it,acc,C] s s'
variable (nd : [it,r,acc,C].Nodup) (off : ∀ b ∈ [it,r,acc,C],lkP PT w.params b = none) (X : Ints rv ks) (k6 : ∀ k ∈ ks,k < 6) (hd : A.depth ≤ 860) (hu : A.units ≤ 7300) (hh : A.handled = none) (hx : ks.length ≤ 1000)
include nd off X k6 hd hu hh hx
theorem du1_loop : ∀ (m i : Nat) (ps : List Nat) (s : Shared),i + m = ks.length → DuSt PT w it r acc C er n0 rv ks i ps s → codeAny (model prg w) A (cL dueE1 it acc (dueEnv1 C fr)) (DuEnd w it acc C n0 ks s) s := by
 have hlen : rv.length = ks.length := All2.length X
 have nd' := nd
 simp only [List.nodup_cons,List.mem_cons,List.not_mem_nil,or_false,not_or,not_false_eq_true,List.nodup_nil,and_true] at nd'
 intro m
 induction m with
 | zero =>
  intro i ps s hi I
  have hi' : i = ks.length := by lia
  have S : StartP PT w s.heap.objs.size s.toks [it,r] [itO (.ref r) i,lst rv er] s := by
   refine startP_of (by simp; lia) (fun b hb => off b (by simp at hb ⊢; lia)) rfl I.lit ?_
   intro p hp
   revert p
   refine zc ?_ (zc ?_ (zn))
   ·exact I.iter
   ·exact I.row
  refine run_codePE ent1_ok entQ1_eq S (fun _ D hC => ?_) (xs := fun _ => []) (fun _ D hC => by cases hC) hd hu hh du1_okL (by decide) (by decide) (fun _ => du1_end) fun om s' B => ?_
  ·rw [List.mem_singleton] at hC
   subst hC
   exact ctrP (end_ok (by rw [hlen]; lia))
  ·have mk := B.butP S (Ch := [it]) ⟨.inl m0,.inr rfl,trivial⟩
   have k : ∀ b o,s.heap.get? b = some o → b ≠ it → s'.heap.get? b = some o := fun b o h hb => mk.keep b o h fun x => hb (List.mem_singleton.mp x)
   have f4 := I.four
   refine ⟨rfl,ps,by rw [← hi']; exact B.old 0 it _ rfl rfl,k _ _ (by rw [← hi']; exact I.accu) (Ne.symm nd'.1.2.1),?_,I.new,?_,B.grow,fun b o h hn => k b o h (by simp at hn; exact hn.1),B.bare,B.os⟩
   ·have hp := I.pcs
    rw [hi',List.take_length] at hp
    refine pcs_keep hp I.new fun p o hp' ho => k p o ho ?_
    intro h
    have h' : @Eq Nat p it := h
    have hp2 : @LE.le Nat _ n0 p := hp'
    have h4 : @LT.lt Nat _ it n0 := f4.1
    lia
   ·exact hi' ▸ I.ns.keep fun o h => k _ _ h (Ne.symm nd'.1.2.2)
 | succ m ih =>
  intro i ps s hi I
  have hlt : i < ks.length := by lia
  obtain ⟨tk,hv⟩ := Ints.at X (List.getElem?_eq_getElem hlt)
  have hx6 : ks[i] < 6 := k6 _ (List.getElem_mem hlt)
  have hpl : ps.length = i := by
   have := All2.length I.pcs
   rw [this,List.length_take]; lia
  have htk : ks.take (i + 1) = ks.take i ++ [ks[i]] := by
   rw [List.take_add_one,List.getElem?_eq_getElem hlt]; rfl
  generalize hxe : ks[i] = x at hv hx6 htk
  have CO : ∀ D ∈ csDu it r acc er i i x tk (s.heap.objs.size + (1 + x)) rv (refs ps),CtrOkP PT w D := by
   intro D hD
   simp only [csDu,List.mem_cons,List.not_mem_nil,or_false] at hD
   rcases hD with rfl | rfl
   ·exact ctrP (next_ok hv)
   ·exact appL_ok (by simp [refs]; lia)
  have f4 := I.four
  have step : ∀ (D : Obj) (q : Nat),s.heap.get? C = some D → (∀ om : Om,chk [1 + x] (du1R PT w s.heap.objs.size s.toks it r acc C fr i er i tk x rv (refs ps) D om) (du1Z w s.heap.objs.size s.toks it r acc C fr i er i tk x q rv (refs ps))) →
    codeAny (model prg w) A (cL dueE1 it acc (dueEnv1 C fr)) (DuEnd w it acc C n0 ks s) s := by
   intro D q hC h1
   have S : StartP PT w s.heap.objs.size s.toks [it,r,acc,C] [itO (.ref r) i,lst rv er,lst (refs ps) i,D] s := by
    refine startP_of nd off rfl I.lit ?_
    intro p hp
    revert p
    refine zc ?_ (zc ?_ (zc ?_ (zc ?_ (zn))))
    ·exact I.iter
    ·exact I.row
    ·exact I.accu
    ·exact hC
   refine run_codePE ent1_ok entQ1_eq S (fun _ => CO) (xs := fun _ => []) (fun _ D hC => by cases hC) hd hu hh du1_okL (by decide) (by decide) h1 fun om s' B => ⟨rfl,?_⟩
   have m' : Mv [it,acc,C] s s' := B.butP S ⟨.inl m0,.inr rfl,.inl m1,.inl m2,trivial⟩
   have kn : ∀ (p : Nat) o,n0 ≤ p → s.heap.get? p = some o → s'.heap.get? p = some o := fun p o hp ho => m'.keep p o ho (by
    obtain ⟨f1,f2,f3,f5⟩ := f4
    simp; lia)
   have new := (B.own 0 (s.heap.objs.size + (1 + x)) _ rfl).2
   refine codeAny_mono (ih (i + 1) (ps ++ [s.heap.objs.size + (1 + x)]) s' (by lia) ⟨fun b o h => m'.keep b o (I.lit b o h) fun hm => ?_,B.old 0 it _ rfl rfl,m'.keep _ _ I.row (by simp; lia),?_,⟨_,B.old 3 C _ rfl rfl,.inr ⟨Nat.succ_pos _,q,x,tk,rfl⟩⟩,?_,?_,Nat.le_trans I.size B.grow,I.four⟩) ?_
   ·rw [off b (by simp at hm ⊢; lia)] at h; cases h
   ·have := B.old 2 acc _ rfl rfl
    rw [this]
    simp [refs]
   ·rw [htk]
    exact All2.append (pcs_keep I.pcs I.new kn) (.cons ⟨hx6,_,new⟩ .nil)
   ·intro p hp
    rw [List.mem_append] at hp
    rcases hp with hp | hp
    ·exact I.new p hp
    ·rw [List.mem_singleton] at hp
     have := I.size
     lia
   ·rintro res s'' ⟨e1,ps',e2,e3,e4,e5,e6,m''⟩
    exact ⟨e1,ps',e2,e3,e4,e5,e6,m'.trans m''⟩
  obtain ⟨D,hC,⟨hi0,rfl⟩ | ⟨_,q,k0,tk0,rfl⟩⟩ := I.ns
  ·exact step _ s.toks hC fun om => du1_f x hx6
  ·exact step _ q hC fun om => du1_l x hx6
end
end Mine.G
end
section
namespace Mine.G
noncomputable def catS : Nat → Str
 | 0 => emp | 1 => sB | 2 => sa | 3 => sb | 4 => sB | _ => ⟨#[32,97]⟩
theorem catS_tx : ∀ k < 6,catS k = tx k := by decide +kernel
noncomputable def fpD (w : World) (q1 q2 : Nat) (a b : Str) (ta tb' : Nat) : Obj := dcO [de (PyData.keyHash w.params nFws) nFws q1 (.str a ta),de (PyData.keyHash w.params nPart) nPart q2 (.str b tb')] 2
noncomputable abbrev csDv (it P acc eP i ea p tok k : Nat) (pv ys : List Value) : List Ctr := [nextC it P eP i lsC none pv (.ref p),appL acc ea lsC none ys (.str (catS k) tok)]
noncomputable def tpDv0 : List Tk := (cat [d 0,.go,d 0,(.ctr 0 [.old 0,.old 1] [.old 0]),d 0] (cat tp69 [o 0,o 0,.go,o 0,.go,o 0,o 0,d 4,o 0,o 0,o 0,.go,o 0,.go,o 0,o 0,d 4,o 0,o 0,o 0,.go,o 0,.go,o 0,o 0,d 4,o 0,o 0,o 2,d 3,d 3,d 3,d 3,d 3,d 3,.go,.go,.go,d 2,(.ctr 1 [.old 2] [.old 2]),.stop]))
noncomputable def catT (x tp t : Nat) : Nat := match x with | 4 => tp | 5 => t + 2 | _ => tp + 1
noncomputable def catK : Nat → Nat | 5 => 3 | _ => 2
noncomputable def du2R (PT : Nat → Option Obj) (w : World) (n t it P acc C fr i eP ea p tp x : Nat) (pv ys : List Value) (D : Obj) (om : Om) : RunR :=
 runC PySem.W.Fast.mineEnt1 (vwP PT w n t [it,P,acc,C,p] (fun _ => csDv it P acc eP i ea p (catT x tp t) x pv ys) (fun _ => []) om 860 7300) 150 (cL dueE2 it acc (dueEnv2 C fr)) false tpDv0 [itO (.ref P) i,lst pv eP,lst ys ea,D,piece x tp]
noncomputable def du2Z (w : World) (n t it P acc C fr i eP ea tp x q1 q2 : Nat) (pv ys : List Value) : Rslt :=
 ⟨.tail (cL dueE2 it acc (dueEnv2 C fr)) Sem.pure,n,3,t,catK x,[],[itO (.ref P) (i + 1),lst pv eP,lst (ys ++ [.str (catS x) (catT x tp t)]) (ea + 1),fpD w q1 q2 (tabA x) (tabB x) tp (tp + 1),piece x tp],[]⟩
theorem du2_f {PT : Nat → Option Obj} {w : World} {n t it P acc C fr i eP ea p tp : Nat} {pv ys : List Value} {om : Om} : ∀ x,x < 6 → chk [] (du2R PT w n t it P acc C fr i eP ea p tp x pv ys (dcO [] 0) om) (du2Z w n t it P acc C fr i eP ea tp x t (t + 1) pv ys) := by
 delta chk
 apply six <;> apply w1 (w := w) <;> kernel_rfl
theorem du2_l {PT : Nat → Option Obj} {w : World} {n t it P acc C fr i eP ea p tp q1 q2 ta0 tb0 : Nat} {a0 b0 : Str} {pv ys : List Value} {om : Om} : ∀ x,x < 6 → chk [] (du2R PT w n t it P acc C fr i eP ea p tp x pv ys (fpD w q1 q2 a0 b0 ta0 tb0) om) (du2Z w n t it P acc C fr i eP ea tp x q1 q2 pv ys) := by
 delta chk
 apply six <;> apply w1 (w := w) <;> kernel_rfl
theorem du2_start {PT : Nat → Option Obj} {w : World} {c : Bool} {n t it a acc C fr i : Nat} {om : Om} (hc : c = cw w) :
  chk [] (runC PySem.W.Fast.mineEnt1 (vwP PT w n t [it] (fun _ => []) (fun _ => []) om 860 7300) 100 (cS dueE2 it acc (dueEnv2 C fr)) false (tpCs c) [itO (.ref a) i])
   ⟨.tail (cL dueE2 it acc (dueEnv2 C fr)) Sem.pure,n,0,t,0,[],[itO (.ref a) i],[]⟩ := by
 delta chk
 revert hc
 apply w4 (w := w)
 intro b c' hc
 cases hc.trans cw_W
 cases b <;> cases c <;> kernel_rfl
theorem du2_end {PT : Nat → Option Obj} {w : World} {n t it r acc C fr i er : Nat} {rv : List Value} {om : Om} :
  chk [] (runC PySem.W.Fast.mineEnt1 (vwP PT w n t [it,r] (fun _ => [endC it r er i lsC none rv]) (fun _ => []) om 860 7300) 100 (cL dueE2 it acc (dueEnv2 C fr)) false tpCe [itO (.ref r) i,lst rv er])
   ⟨.fin (.ok .next),n,2,t,0,[],[itE i,lst rv er],[]⟩ := by
 delta chk
 apply w1 (w := w) <;> kernel_rfl
theorem du2_okS {it acc C fr : Nat} : okCode (cS dueE2 it acc (dueEnv2 C fr)) = true := by kernel_rfl
theorem du2_okL {it acc C fr : Nat} : okCode (cL dueE2 it acc (dueEnv2 C fr)) = true := by kernel_rfl
end Mine.G
end
section
namespace Mine.G
noncomputable def FpO (w : World) (i : Nat) (D : Obj) : Prop := (i = 0 ∧ D = dcO [] 0) ∨ (0 < i ∧ ∃ q1 q2 a b ta tb',D = fpD w q1 q2 a b ta tb')
noncomputable def FpAt (w : World) (C i : Nat) (h : Heap) : Prop := ∃ D,h.get? C = some D ∧ FpO w i D
theorem FpAt.keep {w : World} {C i : Nat} {h h' : Heap} (H : FpAt w C i h) (k : ∀ o,h.get? C = some o → h'.get? C = some o) : FpAt w C i h' := by
 obtain ⟨D,h,o⟩ := H
 exact ⟨D,k _ h,o⟩
noncomputable def SV (vs : List Value) (ks : List Nat) : Prop := All2 (fun v k => ∃ t,v = .str (catS k) t) vs ks
section
variable {PT : Nat → Option Obj} {w : World} {it P acc C fr eP : Nat} {ps ks : List Nat} {A : Around}
structure DvSt (PT : Nat → Option Obj) (w : World) (it P acc C eP : Nat) (ps ks : List Nat) (i : Nat) (vs : List Value) (s : Shared) : Prop where
 lit : ∀ b o,lkP PT w.params b = some o → s.heap.get? b = some o
 iter : s.heap.get? it = some (itO (.ref P) i)
 row : s.heap.get? P = some (lst (refs ps) eP)
 accu : s.heap.get? acc = some (lst vs i)
 ns : FpAt w C i s.heap
 pcs : Pcs s.heap ps ks
 txts : SV vs (ks.take i)
noncomputable def DvEnd (w : World) (it acc C : Nat) (ks : List Nat) (s : Shared) (res : Result) (s' : Shared) : Prop :=
 res = .ok .next ∧ ∃ vs,s'.heap.get? it = some (itE ks.length) ∧ s'.heap.get? acc = some (lst vs ks.length) ∧ SV vs ks ∧
  FpAt w C ks.length s'.heap ∧ Mv [it,acc,C] s s'
variable (nd : [it,P,acc,C].Nodup) (off : ∀ b ∈ [it,P,acc,C],lkP PT w.params b = none) (offp : ∀ p ∈ ps,lkP PT w.params p = none ∧ p ∉ [it,P,acc,C]) (hd : A.depth ≤ 860) (hu : A.units ≤ 7300) (hh : A.handled = none) (hx : ks.length ≤ 1000)
include nd off offp hd hu hh hx
theorem du2_loop : ∀ (m i : Nat) (vs : List Value) (s : Shared),i + m = ks.length → DvSt PT w it P acc C eP ps ks i vs s → codeAny (model prg w) A (cL dueE2 it acc (dueEnv2 C fr)) (DvEnd w it acc C ks s) s := by
 have nd' := nd
 simp only [List.nodup_cons,List.mem_cons,List.not_mem_nil,or_false,not_or,not_false_eq_true,List.nodup_nil,and_true] at nd'
 intro m
 induction m with
 | zero =>
  intro i vs s hi I
  have hi' : i = ks.length := by lia
  have hlp : ps.length = ks.length := All2.length I.pcs
  have S : StartP PT w s.heap.objs.size s.toks [it,P] [itO (.ref P) i,lst (refs ps) eP] s := by
   refine startP_of (by simp; lia) (fun b hb => off b (by simp at hb ⊢; lia)) rfl I.lit ?_
   intro p hp
   revert p
   refine zc ?_ (zc ?_ (zn))
   ·exact I.iter
   ·exact I.row
  refine run_codePE ent1_ok entQ1_eq S (fun _ D hC => ?_) (xs := fun _ => []) (fun _ D hC => by cases hC) hd hu hh du2_okL (by decide) (by decide) (fun _ => du2_end) fun om s' B => ?_
  ·rw [List.mem_singleton] at hC
   subst hC
   exact ctrP (end_ok (by simp [refs]; lia))
  ·have mk := B.butP S (Ch := [it]) ⟨.inl m0,.inr rfl,trivial⟩
   have k : ∀ b o,s.heap.get? b = some o → b ≠ it → s'.heap.get? b = some o := fun b o h hb => mk.keep b o h fun x => hb (List.mem_singleton.mp x)
   have hs := I.txts
   rw [hi',List.take_length] at hs
   refine ⟨rfl,vs,by rw [← hi']; exact B.old 0 it _ rfl rfl,k _ _ (by rw [← hi']; exact I.accu) (Ne.symm nd'.1.2.1),hs,hi' ▸ I.ns.keep fun o h => k _ _ h (Ne.symm nd'.1.2.2),B.grow,fun b o h hn => k b o h (by simp at hn; exact hn.1),B.bare,B.os⟩
 | succ m ih =>
  intro i vs s hi I
  have hlt : i < ks.length := by lia
  have hlp : ps.length = ks.length := All2.length I.pcs
  have hltp : i < ps.length := by lia
  obtain ⟨x0,hx0,hx6,tp,hpc⟩ := All2.at_ I.pcs i ps[i] (List.getElem?_eq_getElem hltp)
  have hvl : vs.length = i := by
   have := All2.length I.txts
   rw [this,List.length_take]; lia
  have htk : ks.take (i + 1) = ks.take i ++ [x0] := by
   rw [List.take_add_one,hx0]; rfl
  obtain ⟨op,npm⟩ := offp ps[i] (List.getElem_mem hltp)
  have hv : (refs ps)[i]? = some (.ref ps[i]) := by simp [refs,hltp]
  generalize ps[i] = p at hpc op npm hv
  generalize x0 = x at hx6 htk hpc
  have CO : ∀ x tok,∀ D ∈ csDv it P acc eP i i p tok x (refs ps) vs,CtrOkP PT w D := by
   intro x tok D hD
   simp only [csDv,List.mem_cons,List.not_mem_nil,or_false] at hD
   rcases hD with rfl | rfl
   ·exact ctrP (next_ok hv)
   ·exact appL_ok (by lia)
  have step : ∀ (D : Obj) (q1 q2 : Nat),s.heap.get? C = some D → (∀ om : Om,chk [] (du2R PT w s.heap.objs.size s.toks it P acc C fr i eP i p tp x (refs ps) vs D om) (du2Z w s.heap.objs.size s.toks it P acc C fr i eP i tp x q1 q2 (refs ps) vs)) →
    codeAny (model prg w) A (cL dueE2 it acc (dueEnv2 C fr)) (DvEnd w it acc C ks s) s := by
   intro D q1 q2 hC h1
   have S : StartP PT w s.heap.objs.size s.toks [it,P,acc,C,p] [itO (.ref P) i,lst (refs ps) eP,lst vs i,D,piece x tp] s := by
    simp only [List.mem_cons,List.not_mem_nil,or_false,not_or] at npm
    refine startP_of ?_ (fun b hb => ?_) rfl I.lit ?_
    ·simp only [List.nodup_cons,List.mem_cons,List.not_mem_nil,or_false,not_or,not_false_eq_true,List.nodup_nil,and_true]
     lia
    ·revert b
     refine ac ?_ (ac ?_ (ac ?_ (ac ?_ (ac ?_ (an)))))
     ·exact off _ (by simp)
     ·exact off _ (by simp)
     ·exact off _ (by simp)
     ·exact off _ (by simp)
     ·exact op
    ·intro p' hp
     revert p'
     refine zc ?_ (zc ?_ (zc ?_ (zc ?_ (zc ?_ (zn)))))
     ·exact I.iter
     ·exact I.row
     ·exact I.accu
     ·exact hC
     ·exact hpc
   refine run_codePE ent1_ok entQ1_eq S (fun _ => CO x _) (xs := fun _ => []) (fun _ D hC => by cases hC) hd hu hh du2_okL (by decide) (by decide) h1 fun om s' B => ⟨rfl,?_⟩
   have m' : Mv [it,acc,C] s s' := B.butP S ⟨.inl m0,.inr rfl,.inl m1,.inl m2,.inr rfl,trivial⟩
   have kp : ∀ (ps' ks' : List Nat),(∀ p ∈ ps',p ∉ [it,P,acc,C]) → Pcs s.heap ps' ks' → Pcs s'.heap ps' ks' := by
    intro ps' ks' hn hp
    induction hp with
    | nil => exact .nil
    | cons a _ ih2 =>
     obtain ⟨a1,t,a2⟩ := a
     refine .cons ⟨a1,t,m'.keep _ _ a2 ?_⟩ (ih2 fun p hp => hn p (by simp [hp]))
     have := hn _ (List.mem_cons_self ..)
     simp only [List.mem_cons,List.not_mem_nil,or_false,not_or] at this ⊢
     exact ⟨this.1,this.2.2.1,this.2.2.2⟩
   refine codeAny_mono (ih (i + 1) (vs ++ [.str (catS x) (catT x tp s.toks)]) s' (by lia) ⟨fun b o h => m'.keep b o (I.lit b o h) fun hm => ?_,B.old 0 it _ rfl rfl,m'.keep _ _ I.row (by simp; lia),B.old 2 acc _ rfl rfl,⟨_,B.old 3 C _ rfl rfl,.inr ⟨Nat.succ_pos _,q1,q2,_,_,_,_,rfl⟩⟩,kp _ _ (fun p hp => (offp p hp).2) I.pcs,?_⟩) ?_
   ·rw [off b (by simp at hm ⊢; lia)] at h; cases h
   ·rw [htk]
    exact All2.append I.txts (.cons ⟨_,rfl⟩ .nil)
   ·rintro res s'' ⟨e1,vs',e2,e3,e4,e5,m''⟩
    exact ⟨e1,vs',e2,e3,e4,e5,m'.trans m''⟩
  obtain ⟨D,hC,⟨hi0,rfl⟩ | ⟨_,q1,q2,a0,b0,ta0,tb0,rfl⟩⟩ := I.ns
  ·exact step _ s.toks (s.toks + 1) hC fun om => du2_f x hx6
  ·exact step _ q1 q2 hC fun om => du2_l x hx6
end
end Mine.G
end
section
namespace Mine.G
noncomputable def addI (x : Int) (tx : Nat) (y : Int) (ty : Nat) : Ctr :=
 {code := .builtin "int.__add__" ⟨[.int x tx,.int y ty],[]⟩,pre := [],val := fun _ t => .int (x + y) t,upd := fun _ _ => [],news := fun _ _ => [],grow := 0,toks := 1,dm := 950,um := 8000 }
theorem addI_ok {w : World} {x y : Int} {tx ty : Nat} : CtrOk w (addI x tx y ty) := by
 intro A s hd hu hh hl hp
 exact codeAny_builtin PySem.entry_int_add (by wp_walk; exact ⟨rfl,after_none (C := addI x tx y ty) rfl rfl rfl⟩)
noncomputable def lenS (x : Str) (tx : Nat) (m : Nat) : Ctr :=
 {code := .builtin "len" ⟨[.str x tx],[]⟩,pre := [],val := fun _ t => .int (.ofNat m) (t + 1),upd := fun _ _ => [],news := fun _ _ => [],grow := 0,toks := 2,dm := 940,um := 8000 }
theorem lenS_ok {w : World} {x : Str} {tx m : Nat} (h : x.length = m) (hm : m ≤ 100000) : CtrOk w (lenS x tx m) := by
 intro A s hd hu hh hl hp
 refine codeAny_builtin entry_len ?_
 show wpAny _ _ (Builtin.«len» ⟨[.str x tx],[]⟩) _ _ s
 unfold Builtin.«len»
 refine wpAny_bind (m := oneArg "len" _) (wpAny_pure ?_)
 refine wpAny_bind (m := callSpecial? (.str x tx) (Str.ofString "__len__")) (wpAny_callSpecial?_slot (name := Str.ofString "__len__") (typeIs_str _ _ _) F.slot_str_len (call_gives F.slot_str_len (typeIs_str _ _ _) F.entry_str_len (F.args_str_len_1 _) (gives_str_len x tx) ?_))
 show wpAny _ _ _ _ _ { s with toks := s.toks + 1 }
 refine wpAny_bind (wpAny_holding (wpAny_pure ?_))
 refine wpAny_bind (wpAny_letGo ?_)
 show wpAny _ _ (if (x.length : Int) < 0 then _ else _) _ _ _
 rw [if_neg (by lia)]
 show wpAny _ _ (if (x.length : Int) ≥ 2 ^ 63 then _ else _) _ _ _
 rw [if_neg (by lia)]
 refine wpAny_bind (wpAny_mkInt (wpAny_pure ⟨?_,after_none (C := lenS x tx m) rfl rfl rfl⟩))
 subst h
 rfl
noncomputable def joinX (acc e : Nat) (tx : Nat) (vs : List Value) (t : Str) : XC :=
 {code := .builtin "str.join" ⟨[.str emp tx,.ref acc],[]⟩,pre := [(acc,lst vs e)],res := fun ω => .ok (.ret (.str t (ω 2))),upd := fun _ => [],news := fun _ => [],dm := 940,um := 8000 }
theorem joinX_ok {PT : Nat → Option Obj} {w : World} {acc e tx : Nat} {vs : List Value} {ys : List Str} (hs : StrsAre vs ys) (hok : (ys.map (·.length)).sum ≤ 1000000) : XOkP PT w (joinX acc e tx vs (Txt.join emp ys)) := by
 intro A s hd hu hh hl hp
 have p1 : s.heap.get? acc = some (lst vs e) := hp (acc,lst vs e) (.head _)
 obtain ⟨l,hv,ht⟩ := strsAre_values hs
 have hok' := joinOk_of (sep := emp) (ys := ys) (by
  have he : emp.length = 0 := rfl
  rw [he]; lia)
 subst ht
 unfold JoinOk at hok'
 rw [Bool.not_eq_true'] at hok'
 have hL : s.heap.IsList acc (strValues l).toArray := by
  rw [hv] at p1
  exact ⟨_,p1,rfl,e,rfl⟩
 let Qj : Value → Shared → Prop := fun v s' => (∃ t',v = .str (Txt.join emp (l.map (·.1))) t') ∧ ∃ k,s' = { s with toks := k }
 have key : codeAny (model prg w) A (.builtin "str.join" ⟨[.str emp tx,.ref acc],[]⟩) (wants Qj (fun _ _ => False)) s :=
  code_meets F.slot_str_join.plain F.entry_str_join (meets_str_join_list emp tx acc l hok') ⟨hL,post_join l ⟨joinFit_length hok',fun t' k => ⟨⟨t',rfl⟩,k,rfl⟩⟩⟩
 refine codeAny_mono key ?_
 intro r s' hr
 cases r with
 | error e => exact hr.elim
 | ok f =>
  cases f with
  | ret v =>
   obtain ⟨⟨t',rfl⟩,k,rfl⟩ := hr
   refine ⟨fun | 0 => s.heap.objs.size | 1 => k | _ => t',rfl,rfl,rfl,Nat.le_refl _,?_,?_,fun b o h _ => h,id,rfl⟩
   ·intro p hp'; cases hp'
   ·intro p hp'; cases hp'
  | _ => exact hr.elim
end Mine.G
end
section
namespace Mine.G
noncomputable def nRow : Str := ⟨#[114,111,119]⟩
noncomputable def nFirst : Str := ⟨#[102,105,114,115,116]⟩
noncomputable def nPieces : Str := ⟨#[112,105,101,99,101,115]⟩
noncomputable def nText : Str := ⟨#[116,101,120,116]⟩
noncomputable def dueFr (w : World) (t R : Nat) (f : Int) (tf : Nat) : Obj := { cls := .type "frame",data := .dict #[de (PyData.keyHash w.params nRow) nRow t (.ref R),de (PyData.keyHash w.params nFirst) nFirst (t + 1) (.int f tf)] 2 }
noncomputable def tpDueA : List Tk := (cat [l,l] (cat tp7 [l,.go,o 0,d 0,d 0,.go,d 0,.go,o 1,.stop]))
noncomputable def dueRA (PT : Nat → Option Obj) (w : World) (n t R er tf : Nat) (f : Int) (rv : List Value) (om : Om) : RunR :=
 runC PySem.W.Fast.mineEnt1 (vwP PT w n t [R] (fun _ => []) (fun _ => []) om 820 7000) 100 (.call (.ref 255) ⟨[.ref R,.int f tf],[]⟩) true tpDueA [lst rv er]
noncomputable def z_dueA (w : World) (n t R er tf : Nat) (f : Int) (rv : List Value) : Rslt :=
 ⟨.other,n,4,t,2,[some (n,dueFr w t R f tf),some (n + 1,itO (.ref R) 0),some (n + 2,lst [] 0),some (n + 3,dcO [] 0)],[lst rv er],[]⟩
theorem dueA {PT : Nat → Option Obj} {w : World} {n t R er tf : Nat} {f : Int} {rv : List Value} {om : Om} :
  chkS [0,1,2,3] (dueRA PT w n t R er tf f rv om) (cS dueE1 (n + 1) (n + 2) (dueEnv1 (n + 3) n)) 1 (z_dueA w n t R er tf f rv) := by
 delta chkS
 apply w1 (w := w) <;> kernel_rfl
end Mine.G
end
section
namespace Mine.G
noncomputable def dueFr3 (w : World) (t R : Nat) (f : Int) (tf t2 P : Nat) : Obj := { cls := .type "frame",data := .dict #[de (PyData.keyHash w.params nRow) nRow t (.ref R),de (PyData.keyHash w.params nFirst) nFirst (t + 1) (.int f tf),de (PyData.keyHash w.params nPieces) nPieces t2 (.ref P)] 3 }
noncomputable def tpDueB0 : List Tk := [d 0,d 0,d 2,d 0,d 1,d 1,.go,d 1,.go,o 0,.stop]
noncomputable def tpDueB1 : List Tk := ([d 0,d 0,d 2,d 2,d 2,d 0,d 1,d 1,.go,d 1,.go,o 0,.stop])
noncomputable def dueRB (tp : List Tk) (D : Obj) (PT : Nat → Option Obj) (w : World) (n t R er tf : Nat) (f : Int) (rv : List Value) (om : Om) (PT2 : Nat → Option Obj) (n2 t2 ep : Nat) (ys : List Value) (om2 : Om) : RunR :=
 runK PySem.W.Fast.mineEnt1 (vwP PT2 w n2 t2 [n,n + 2,n + 3] (fun _ => []) (fun _ => []) om2 820 7000) 100 (dueRA PT w n t R er tf f rv om) (.ok .next) tp [dueFr w t R f tf,lst ys ep,D]
noncomputable def z_dueB (w : World) (n t R tf n2 t2 ep : Nat) (f : Int) (ys : List Value) (D : Obj) : Rslt :=
 ⟨.other,n2,3,t2,2,[some (n2,itO (.ref (n + 2)) 0),some (n2 + 1,lst [] 0),some (n2 + 2,dcO [] 0)],[dueFr3 w t R f tf t2 (n + 2),lst ys ep,D],[]⟩
theorem dueB0 {PT PT2 : Nat → Option Obj} {w : World} {n t R er tf n2 t2 ep : Nat} {f : Int} {rv ys : List Value} {om om2 : Om} :
  chkS [0,1,2] (dueRB tpDueB0 (dcO [] 0) PT w n t R er tf f rv om PT2 n2 t2 ep ys om2) (cS dueE2 n2 (n2 + 1) (dueEnv2 (n2 + 2) n)) 1 (z_dueB w n t R tf n2 t2 ep f ys (dcO [] 0)) := by
 delta chkS
 apply w1 (w := w) <;> kernel_rfl
theorem dueB1 {PT PT2 : Nat → Option Obj} {w : World} {n t R er tf n2 t2 ep q k tk : Nat} {f : Int} {rv ys : List Value} {om om2 : Om} :
  chkS [0,1,2] (dueRB tpDueB1 (plD w q (.int (.ofNat k) tk)) PT w n t R er tf f rv om PT2 n2 t2 ep ys om2) (cS dueE2 n2 (n2 + 1) (dueEnv2 (n2 + 2) n)) 1 (z_dueB w n t R tf n2 t2 ep f ys (dcO [] 2)) := by
 delta chkS
 apply w1 (w := w) <;> kernel_rfl
end Mine.G
end
section
namespace Mine.G
noncomputable def dueFr4 (w : World) (t R : Nat) (f : Int) (tf t2 P tk : Nat) (T : Str) (tt : Nat) : Obj := { cls := .type "frame",data := .dict #[de (PyData.keyHash w.params nRow) nRow t (.ref R),de (PyData.keyHash w.params nFirst) nFirst (t + 1) (.int f tf),de (PyData.keyHash w.params nPieces) nPieces t2 (.ref P),de (PyData.keyHash w.params nText) nText tk (.str T tt)] 4 }
noncomputable def tpDueC0 : List Tk := ([d 2,d 2,.go,(.xctr 0 [.old 1] []),d 0,d 0,d 0,l,l,d 0,.go,(.ctr 0 [.old 3] []),d 0,d 0,l,l,d 0,.go,(.ctr 1 [] []),.go,(.ctr 2 [] [])])
noncomputable def tpDueC1 : List Tk := ([d 2,d 2,d 2,d 2,d 2,d 2,.go,(.xctr 0 [.old 1] []),d 0,d 0,d 0,l,l,d 0,.go,(.ctr 0 [.old 3] []),d 0,d 0,l,l,d 0,.go,(.ctr 1 [] []),.go,(.ctr 2 [] [])])
noncomputable abbrev csDw (R er m k tf : Nat) (f : Int) (rv : List Value) (T : Str) (om : Om) : List Ctr := [lenB R er rv m,lenS T (om 0 2) k,addI f tf (.ofNat k) (om 0 1 + 4)]
noncomputable def dueRC (tpB : List Tk) (D : Obj) (tpC : List Tk) (D2 : Obj) (PT : Nat → Option Obj) (w : World) (n t R er tf : Nat) (f : Int) (rv : List Value) (om : Om) (PT2 : Nat → Option Obj) (n2 t2 ep : Nat) (ys : List Value) (om2 : Om) (PT3 : Nat → Option Obj) (n3 t3 e2 m k : Nat) (vs : List Value) (T : Str) (om3 : Om) : RunR :=
 runK PySem.W.Fast.mineEnt1 (vwP PT3 w n3 t3 [n,n2 + 1,n2 + 2,R] (csDw R er m k tf f rv T) (fun _ => [joinX (n2 + 1) e2 (t2 + 1) vs T]) om3 820 7000) 200 (dueRB tpB D PT w n t R er tf f rv om PT2 n2 t2 ep ys om2) (.ok .next) tpC [dueFr3 w t R f tf t2 (n + 2),lst vs e2,D2,lst rv er]
noncomputable def z_dueC (w : World) (n t R er tf t2 e2 m k : Nat) (f : Int) (rv vs : List Value) (T : Str) (D : Obj) (om3 : Om) : Rslt :=
 ⟨.fin (.ok (.ret (.ref (om3 0 0)))),om3 0 0,1,om3 0 1,6,[some (om3 0 0,lst [.ref (n + 2),.int (.ofNat m) (om3 0 1 + 2),.str T (om3 0 2),.int (f + .ofNat k) (om3 0 1 + 5)] 0)],[dueFr4 w t R f tf t2 (n + 2) (om3 0 1) T (om3 0 2),lst vs e2,D,lst rv er],[]⟩
theorem dueC0 {PT PT2 PT3 : Nat → Option Obj} {w : World} {n t R er tf n2 t2 ep n3 t3 e2 m k : Nat} {f : Int} {rv ys vs : List Value} {T : Str} {om om2 om3 : Om} :
  chk [0] (dueRC tpDueB0 (dcO [] 0) tpDueC0 (dcO [] 0) PT w n t R er tf f rv om PT2 n2 t2 ep ys om2 PT3 n3 t3 e2 m k vs T om3) (z_dueC w n t R er tf t2 e2 m k f rv vs T (dcO [] 0) om3) := by
 delta chk
 apply w1 (w := w) <;> kernel_rfl
theorem dueC1 {PT PT2 PT3 : Nat → Option Obj} {w : World} {n t R er tf n2 t2 ep n3 t3 e2 m k q k1 tk1 q1 q2 ta tb' : Nat} {sa' sb' : Str} {f : Int} {rv ys vs : List Value} {T : Str} {om om2 om3 : Om} :
  chk [0] (dueRC tpDueB1 (plD w q (.int (.ofNat k1) tk1)) tpDueC1 (fpD w q1 q2 sa' sb' ta tb') PT w n t R er tf f rv om PT2 n2 t2 ep ys om2 PT3 n3 t3 e2 m k vs T om3) (z_dueC w n t R er tf t2 e2 m k f rv vs T (dcO [] 4) om3) := by
 delta chk
 apply w1 (w := w) <;> kernel_rfl
end Mine.G
end
section
namespace Mine.G
section
variable {PT : Nat → Option Obj} {w : World} {it r acc C fr er : Nat} {rv : List Value} {ks : List Nat} {A : Around} {n0 : Nat} {s : Shared}
theorem du1_all (nd : [it,r,acc,C].Nodup) (off : ∀ b ∈ [it,r,acc,C],lkP PT w.params b = none) (X : Ints rv ks) (k6 : ∀ k ∈ ks,k < 6) (hd : A.depth ≤ 860) (hu : A.units ≤ 7300) (hh : A.handled = none) (hx : ks.length ≤ 1000)
  (I : DuSt PT w it r acc C er n0 rv ks 0 [] s) : codeAny (model prg w) A (cS dueE1 it acc (dueEnv1 C fr)) (DuEnd w it acc C n0 ks s) s := by
 have S : StartP PT w s.heap.objs.size s.toks [it] [itO (.ref r) 0] s := by
  refine startP_of (by simp) (fun b hb => off b (by simp at hb ⊢; omega)) rfl I.lit ?_
  intro p hp
  simp only [List.zip_cons_cons,List.zip_nil_right,List.mem_cons,List.not_mem_nil,or_false] at hp
  subst hp; exact I.iter
 refine run_codePE ent1_ok entQ1_eq S (fun _ D hC => by cases hC) (fun _ D hC => by cases hC) hd hu hh du1_okS (by decide) (by decide) (fun _ => du1_start rfl) fun om s1 B => ⟨rfl,?_⟩
 have k1 := (B.butP S (Ch := []) ⟨.inr rfl,trivial⟩).all
 refine codeAny_mono (du1_loop nd off X k6 hd hu hh hx ks.length 0 [] s1 (by omega) ⟨fun b o h => k1 b o (I.lit b o h),k1 _ _ I.iter,k1 _ _ I.row,k1 _ _ I.accu,?_,?_,I.new,Nat.le_trans I.size B.grow,I.four⟩) ?_
 ·exact I.ns.keep fun o h => k1 _ _ h
 ·exact .nil
 ·rintro res s2 ⟨e1,ps,e2,e3,e4,e5,e6,m⟩
  exact ⟨e1,ps,e2,e3,e4,e5,e6,⟨Nat.le_trans B.grow m.grow,fun b o h hn => m.keep b o (k1 b o h) hn,fun h => m.bare (B.bare h),m.os.trans B.os⟩⟩
theorem du2_all {P eP : Nat} {ps : List Nat} (nd : [it,P,acc,C].Nodup) (off : ∀ b ∈ [it,P,acc,C],lkP PT w.params b = none) (offp : ∀ p ∈ ps,lkP PT w.params p = none ∧ p ∉ [it,P,acc,C]) (hd : A.depth ≤ 860) (hu : A.units ≤ 7300) (hh : A.handled = none) (hx : ks.length ≤ 1000)
  (I : DvSt PT w it P acc C eP ps ks 0 [] s) : codeAny (model prg w) A (cS dueE2 it acc (dueEnv2 C fr)) (DvEnd w it acc C ks s) s := by
 have S : StartP PT w s.heap.objs.size s.toks [it] [itO (.ref P) 0] s := by
  refine startP_of (by simp) (fun b hb => off b (by simp at hb ⊢; omega)) rfl I.lit ?_
  intro p hp
  simp only [List.zip_cons_cons,List.zip_nil_right,List.mem_cons,List.not_mem_nil,or_false] at hp
  subst hp; exact I.iter
 refine run_codePE ent1_ok entQ1_eq S (fun _ D hC => by cases hC) (fun _ D hC => by cases hC) hd hu hh du2_okS (by decide) (by decide) (fun _ => du2_start rfl) fun om s1 B => ⟨rfl,?_⟩
 have k1 := (B.butP S (Ch := []) ⟨.inr rfl,trivial⟩).all
 refine codeAny_mono (du2_loop nd off offp hd hu hh hx ks.length 0 [] s1 (by omega) ⟨fun b o h => k1 b o (I.lit b o h),k1 _ _ I.iter,k1 _ _ I.row,k1 _ _ I.accu,?_,All2.mono I.pcs fun x k ⟨a,t,b⟩ => ⟨a,t,k1 _ _ b⟩,.nil⟩) ?_
 ·exact I.ns.keep fun o h => k1 _ _ h
 ·rintro res s2 ⟨e1,vs,e2,e3,e4,e5,m⟩
  exact ⟨e1,vs,e2,e3,e4,e5,⟨Nat.le_trans B.grow m.grow,fun b o h hn => m.keep b o (k1 b o h) hn,fun h => m.bare (B.bare h),m.os.trans B.os⟩⟩
end
end Mine.G
end
section
namespace Mine.G
noncomputable def DueRes (ks : List Nat) (f : Int) (s : Shared) (r : Result) (s' : Shared) : Prop :=
 ∃ (q P a b c : Nat) (ps : List Nat),r = .ok (.ret (.ref q)) ∧ s.heap.objs.size ≤ q ∧ s.heap.objs.size ≤ P ∧ (∀ p ∈ ps,s.heap.objs.size ≤ p) ∧
  s'.heap.get? q = some (lst [.ref P,.int (.ofNat ks.length) a,.str (txt ks) b,.int (f + sumLen ks) c] 0) ∧ s'.heap.get? P = some (lst (refs ps) ks.length) ∧ Pcs s'.heap ps ks ∧ Mv [] s s'
theorem SV.are {vs : List Value} {ks : List Nat} (h : SV vs ks) : StrsAre vs (ks.map catS) := by
 induction h with
 | nil => exact .nil
 | cons a _ ih =>
  obtain ⟨t,rfl⟩ := a
  exact .cons _ _ ih
theorem cat_txt {ks : List Nat} (k6 : ∀ k ∈ ks,k < 6) : Txt.join emp (ks.map catS) = txt ks := by
 unfold txt
 congr 1
 exact List.map_congr_left fun k hk => catS_tx k (k6 k hk)
theorem pcs_keep2 {h h' : Heap} {ps ks : List Nat} (X : Pcs h ps ks) (k : ∀ p ∈ ps,∀ o,h.get? p = some o → h'.get? p = some o) : Pcs h' ps ks := by
 induction X with
 | nil => exact .nil
 | cons a _ ih =>
  obtain ⟨a1,t,a2⟩ := a
  exact .cons ⟨a1,t,k _ (by simp) _ a2⟩ (ih fun p hp => k p (by simp [hp]))
theorem tx_len : ∀ k < 6,(tx k).length = pcLen k ∧ (tx k).length ≤ 1000 := by decide +kernel
theorem txt_len (ks : List Nat) : (txt ks).length = ((ks.map tx).map (·.length)).sum := by
 have h := size_glued emp (ks.map tx)
 have e : emp.length = 0 := rfl
 rw [e,Nat.mul_zero,Nat.add_zero] at h
 exact h
theorem sum_pc : ∀ ks : List Nat,(∀ k ∈ ks,k < 6) → ((((ks.map tx).map (·.length)).sum : Nat) : Int) = sumLen ks ∧ ((ks.map tx).map (·.length)).sum ≤ 1000 * ks.length
 | [],_ => ⟨rfl,Nat.le_refl _⟩
 | k :: ks,h => by
  obtain ⟨h1,h2⟩ := sum_pc ks fun x hx => h x (by simp [hx])
  obtain ⟨g1,g2⟩ := tx_len k (h k (by simp))
  simp only [List.map_cons,List.sum_cons,List.length_cons,sumLen]
  refine ⟨?_,by lia⟩
  rw [← h1,← g1]; lia
section
variable {PT : Nat → Option Obj} {w : World} {R er tf : Nat} {f : Int} {rv : List Value} {ks : List Nat} {A : Around} {s : Shared}
theorem due_ok (hd : A.depth ≤ 800) (hu : A.units ≤ 6900) (hh : A.handled = none) (hl : ∀ b o,lkP PT w.params b = some o → s.heap.get? b = some o) (off : lkP PT w.params R = none) (hR : s.heap.get? R = some (lst rv er)) (X : Ints rv ks) (k6 : ∀ k ∈ ks,k < 6) (hks : ks.length ≤ 100) :
  codeAny (model prg w) A (.call (.ref 255) ⟨[.ref R,.int f tf],[]⟩) (DueRes ks f s) s := by
 have S : StartP PT w s.heap.objs.size s.toks [R] [lst rv er] s := by
  refine startP_of (by simp) (fun b hb => by simp at hb; subst hb; exact off) rfl hl ?_
  intro p hp
  simp only [List.zip_cons_cons,List.zip_nil_right,List.mem_cons,List.not_mem_nil,or_false] at hp
  subst hp; exact hR
 have hRlt : @LT.lt Nat _ R s.heap.objs.size := Heap.lt_size hR
 refine codeAny_pure (E := fun _ _ => False) (code_stopP (Q := DueRes ks f s) ent1_ok entQ1_eq S (fun _ D hC => by cases hC) (fun _ D hC => by cases hC) (by lia) (by lia) hh rfl (by decide) (by decide) (fun _ => dueA) fun om κ k₀ M hRun H s1 B1 => ?_)
 have hRun : dueRA PT w s.heap.objs.size s.toks R er tf f rv om = some (.at_ (cS dueE1 (s.heap.objs.size + 1) (s.heap.objs.size + 2) (dueEnv1 (s.heap.objs.size + 3) s.heap.objs.size)) κ k₀,M) := hRun
 have g1 : s1.heap.objs.size = s.heap.objs.size + 4 := B1.size
 have b0 := (B1.own 0 _ _ rfl).2
 have b1 := (B1.own 1 _ _ rfl).2
 have b2 := (B1.own 2 _ _ rfl).2
 have b3 := (B1.own 3 _ _ rfl).2
 have bR := B1.old 0 R _ rfl rfl
 have k1 := (B1.butP S (Ch := []) ⟨.inr rfl,trivial⟩).all
 have l1 : ∀ b o,lkP PT w.params b = some o → s1.heap.get? b = some o := fun b o h => k1 b o (hl b o h)
 have offn : ∀ b,s.heap.objs.size ≤ b → lkP PT w.params b = none := fun b h => told_lt hl h
 refine codeAny_mono (du1_all (A := ar A κ) (n0 := s1.heap.objs.size) (er := er) (rv := rv) (ks := ks) (r := R) (PT := PT) (by simp; lia) (fun b hb => ?_) X k6 (by have := H.depth; lia) (by have := H.units; lia) H.handled (by lia) ⟨l1,b1,bR,b2,⟨_,b3,.inl ⟨rfl,rfl⟩⟩,.nil,(fun p hp => nomatch hp),Nat.le_refl _,?_⟩) ?_
 ·revert b
  refine ac ?_ (ac ?_ (ac ?_ (ac ?_ (an))))
  ·exact offn _ (by lia)
  ·exact off
  ·exact offn _ (by lia)
  ·exact offn _ (by lia)
 ·rw [g1]; lia
 ·rintro res s2 ⟨rfl,ps,e1,e2,e3,e4,e5,m2⟩
  have f4 : ∀ b,b < s.heap.objs.size + 1 → b ∉ [s.heap.objs.size + 1,s.heap.objs.size + 2,s.heap.objs.size + 3] := fun b hb => by simp; lia
  have k2 : ∀ (b : Nat) o,s.heap.get? b = some o → s2.heap.get? b = some o := fun b o h => m2.keep b o (k1 b o h) (f4 b (by have : @LT.lt Nat _ b s.heap.objs.size := Heap.lt_size h; lia))
  have c0 := m2.keep _ _ b0 (f4 _ (by lia))
  have l2 : ∀ b o,lkP PT w.params b = some o → s2.heap.get? b = some o := fun b o h => k2 b o (hl b o h)
  have g2 : s.heap.objs.size + 4 ≤ s2.heap.objs.size := by have := m2.grow; lia
  have offn2 : ∀ b,s.heap.objs.size ≤ b → lkP PT w.params b = none := offn
  have SB : ∀ D,s2.heap.get? (s.heap.objs.size + 3) = some D → StartP PT w s2.heap.objs.size s2.toks [s.heap.objs.size,s.heap.objs.size + 2,s.heap.objs.size + 3] [dueFr w s.toks R f tf,lst (refs ps) ks.length,D] s2 := by
   intro D hD
   refine startP_of (by simp) (fun b hb => ?_) rfl l2 ?_
   ·revert b
    refine ac ?_ (ac ?_ (ac ?_ (an))) <;> exact offn _ (by lia)
   ·intro p hp
    revert p
    refine zc ?_ (zc ?_ (zc ?_ (zn)))
    ·exact c0
    ·exact e2
    ·exact hD
  have stageB : ∀ (D D' : Obj) (tpB tpC : List Tk),s2.heap.get? (s.heap.objs.size + 3) = some D →
    (∀ om2 : Om,chkS [0,1,2] (dueRB tpB D PT w s.heap.objs.size s.toks R er tf f rv om PT s2.heap.objs.size s2.toks ks.length (refs ps) om2) (cS dueE2 s2.heap.objs.size (s2.heap.objs.size + 1) (dueEnv2 (s2.heap.objs.size + 2) s.heap.objs.size)) 1
     (z_dueB w s.heap.objs.size s.toks R tf s2.heap.objs.size s2.toks ks.length f (refs ps) D')) →
    (∀ (om2 : Om) (D2 : Obj) (n3 t3 : Nat) (vs : List Value) (T : Str) (k : Nat),FpO w ks.length D2 → ∃ D3,∀ om3 : Om,
     chk [0] (dueRC tpB D tpC D2 PT w s.heap.objs.size s.toks R er tf f rv om PT s2.heap.objs.size s2.toks ks.length (refs ps) om2 PT n3 t3 ks.length ks.length k vs T om3)
      (z_dueC w s.heap.objs.size s.toks R er tf s2.toks ks.length ks.length k f rv vs T D3 om3)) →
    en prg w A (DueRes ks f s) (fun _ _ => False) k₀ κ (.ok .next) s2 := by
   intro D D' tpB tpC hD hB hC
   have hB' : ∀ om2 : Om,chkS [0,1,2] (runK PySem.W.Fast.mineEnt1 (vwP PT w s2.heap.objs.size s2.toks [s.heap.objs.size,s.heap.objs.size + 2,s.heap.objs.size + 3] (fun _ => []) (fun _ => []) om2 820 7000) 100 (some (.at_ (cS dueE1 (s.heap.objs.size + 1) (s.heap.objs.size + 2) (dueEnv1 (s.heap.objs.size + 3) s.heap.objs.size)) κ k₀,M)) (.ok .next) tpB [dueFr w s.toks R f tf,lst (refs ps) ks.length,D]) _ 1 _ := fun om2 => by
    have := hB om2
    unfold dueRB at this
    rw [hRun] at this
    exact this
   refine stop_stopP ent1_ok entQ1_eq (SB D hD) (fun _ D hC => by cases hC) (fun _ D hC => by cases hC) (by lia) (by lia) hh H.ok hB' fun om2 κ2 k02 M2 hRun2 H2 s3 B3 => ?_
   have hRun2' : dueRB tpB D PT w s.heap.objs.size s.toks R er tf f rv om PT s2.heap.objs.size s2.toks ks.length (refs ps) om2 = some (.at_ (cS dueE2 s2.heap.objs.size (s2.heap.objs.size + 1) (dueEnv2 (s2.heap.objs.size + 2) s.heap.objs.size)) κ2 k02,M2) := by
    unfold dueRB
    rw [hRun]
    exact hRun2
   have g3 : s3.heap.objs.size = s2.heap.objs.size + 3 := B3.size
   have c3 := B3.old 0 _ _ rfl rfl
   have p3 := B3.old 1 _ _ rfl rfl
   have w0 := (B3.own 0 _ _ rfl).2
   have w1 := (B3.own 1 _ _ rfl).2
   have w2 := (B3.own 2 _ _ rfl).2
   have k3 : ∀ (b : Nat) o,s2.heap.get? b = some o → b ∉ [s.heap.objs.size,s.heap.objs.size + 2,s.heap.objs.size + 3] → s3.heap.get? b = some o := fun b o h hn => B3.keep b o h hn
   have hps : ∀ p ∈ ps,s.heap.objs.size + 4 ≤ p ∧ p < s2.heap.objs.size := by
    intro p hp
    refine ⟨by have := e4 p hp; lia,?_⟩
    obtain ⟨j,hj,hje⟩ := List.getElem_of_mem hp
    obtain ⟨b,_,_,t,ht⟩ := All2.at_ e3 j p (by rw [List.getElem?_eq_getElem hj,hje])
    exact Heap.lt_size ht
   have P3 : Pcs s3.heap ps ks := pcs_keep e3 (n0 := s.heap.objs.size + 4) (fun p hp => (hps p hp).1) fun p o hp ho => k3 p o ho (by simp; lia)
   have l3 : ∀ b o,lkP PT w.params b = some o → s3.heap.get? b = some o := fun b o h => k3 b o (l2 b o h) (fun hm => by
    have : s.heap.objs.size ≤ b := by simp at hm; lia
    rw [offn b this] at h; cases h)
   refine codeAny_mono (du2_all (A := ar A κ2) (PT := PT) (ks := ks) (ps := ps) (eP := ks.length) (P := s.heap.objs.size + 2) (by simp; lia) (fun b hb => ?_) (fun p hp => ?_) (by have := H2.depth; lia) (by have := H2.units; lia) H2.handled (by lia) ⟨l3,w0,p3,w1,⟨_,w2,.inl ⟨rfl,rfl⟩⟩,P3,.nil⟩) ?_
   ·revert b
    refine ac ?_ (ac ?_ (ac ?_ (ac ?_ (an)))) <;> exact offn _ (by lia)
   ·have := hps p hp
    exact ⟨offn _ (by lia),by simp; lia⟩
   ·rintro res s4 ⟨rfl,vs,d1,d2,d3,d4,m4⟩
    obtain ⟨D2,hD2,hc⟩ := d4
    have m4k : ∀ (b : Nat) o,s3.heap.get? b = some o → @LT.lt Nat _ b s2.heap.objs.size → s4.heap.get? b = some o := fun b o h hb => m4.keep b o h (by simp; lia)
    have f4' := m4k _ _ c3 (by lia)
    have p4 := m4k _ _ p3 (by lia)
    have keep4 : ∀ b o,s.heap.get? b = some o → s4.heap.get? b = some o := fun b o h => by
     have hb : @LT.lt Nat _ b s.heap.objs.size := Heap.lt_size h
     exact m4k _ _ (k3 b o (k2 b o h) (by simp; lia)) (by lia)
    have l4 : ∀ b o,lkP PT w.params b = some o → s4.heap.get? b = some o := fun b o h => keep4 b o (hl b o h)
    have g4 : @LE.le Nat _ s3.heap.objs.size s4.heap.objs.size := m4.grow
    have SC : StartP PT w s4.heap.objs.size s4.toks [s.heap.objs.size,s2.heap.objs.size + 1,s2.heap.objs.size + 2,R] [dueFr3 w s.toks R f tf s2.toks (s.heap.objs.size + 2),lst vs ks.length,D2,lst rv er] s4 := by
     refine startP_of ?_ (fun b hb => ?_) rfl l4 ?_
     ·simp only [List.nodup_cons,List.mem_cons,List.not_mem_nil,or_false,not_or,not_false_eq_true,List.nodup_nil,and_true]
      lia
     ·revert b
      refine ac ?_ (ac ?_ (ac ?_ (ac ?_ (an))))
      ·exact offn _ (by lia)
      ·exact offn _ (by lia)
      ·exact offn _ (by lia)
      ·exact off
     ·intro p hp
      revert p
      refine zc ?_ (zc ?_ (zc ?_ (zc ?_ (zn))))
      ·exact f4'
      ·exact d2
      ·exact hD2
      ·exact keep4 _ _ hR
    obtain ⟨D3,hch⟩ := hC om2 D2 s4.heap.objs.size s4.toks vs (txt ks) (txt ks).length hc
    obtain ⟨hs1,hs2⟩ := sum_pc ks k6
    have htl := txt_len ks
    have hch' : ∀ om3 : Om,chk [0] (runK PySem.W.Fast.mineEnt1 (vwP PT w s4.heap.objs.size s4.toks [s.heap.objs.size,s2.heap.objs.size + 1,s2.heap.objs.size + 2,R] (csDw R er ks.length (txt ks).length tf f rv (txt ks)) (fun _ => [joinX (s2.heap.objs.size + 1) ks.length (s2.toks + 1) vs (txt ks)]) om3 820 7000) 200 (some (.at_ (cS dueE2 s2.heap.objs.size (s2.heap.objs.size + 1) (dueEnv2 (s2.heap.objs.size + 2) s.heap.objs.size)) κ2 k02,M2)) (.ok .next) tpC [dueFr3 w s.toks R f tf s2.toks (s.heap.objs.size + 2),lst vs ks.length,D2,lst rv er]) _ := fun om3 => by
     have := hch om3
     unfold dueRC at this
     rw [hRun2'] at this
     exact this
    refine stop_outP ent1_ok entQ1_eq SC (fun om3 C hCm => ?_) (fun om3 C hCm => ?_) (by lia) (by lia) hh H2.ok hch' fun om3 s5 B5 => ?_
    ·simp only [csDw,List.mem_cons,List.not_mem_nil,or_false] at hCm
     rcases hCm with rfl | rfl | rfl
     ·exact ctrP (lenB_ok (All2.length X) (by lia))
     ·exact ctrP (lenS_ok rfl (by lia))
     ·exact ctrP addI_ok
    ·simp only [List.mem_cons,List.not_mem_nil,or_false] at hCm
     subst hCm
     have hj := joinX_ok (PT := PT) (w := w) (acc := s2.heap.objs.size + 1) (e := ks.length) (tx := s2.toks + 1) (SV.are d3) (by
      rw [List.map_congr_left fun k hk => catS_tx k (k6 k hk)]
      lia)
     rw [cat_txt k6] at hj
     exact hj
    ·have q5 := B5.own 0 _ _ rfl
     have keep5 : ∀ (b : Nat) o,s4.heap.get? b = some o → b ≠ s.heap.objs.size → @LT.lt Nat _ b s2.heap.objs.size → s5.heap.get? b = some o := fun b o h h1 h2 => by
      by_cases hbR : b = R
      ·subst hbR
       have : s4.heap.get? b = some (lst rv er) := keep4 _ _ hR
       rw [this] at h
       cases h
       exact B5.old 3 _ _ rfl rfl
      ·refine B5.keep b o h ?_
       simp only [List.mem_cons,List.not_mem_nil,or_false,not_or]
       refine ⟨h1,?_,?_,hbR⟩
       ·show @Ne Nat _ _; lia
       ·show @Ne Nat _ _; lia
     refine ⟨om3 0 0,s.heap.objs.size + 2,om3 0 1 + 2,om3 0 2,om3 0 1 + 5,ps,rfl,?_,by lia,?_,?_,?_,?_,?_⟩
     ·have : @LE.le Nat _ s4.heap.objs.size (om3 0 0) := q5.1
      lia
     ·intro p hp
      have := hps p hp
      lia
     ·have := q5.2
      rw [hs1.symm,← htl]
      exact this
     ·exact keep5 _ _ p4 (by show @Ne Nat _ _; lia) (by lia)
     ·refine pcs_keep2 P3 fun p hp o ho => ?_
      obtain ⟨h1,h2⟩ := hps p hp
      exact keep5 p o (m4k p o ho h2) (by show @Ne Nat _ _; lia) h2
     ·refine ⟨?_,fun b o h _ => ?_,fun h => B5.bare (m4.bare (B3.bare (m2.bare (B1.bare h)))),?_⟩
      ·have : @LE.le Nat _ s4.heap.objs.size s5.heap.objs.size := B5.grow
       lia
      ·have hb : @LT.lt Nat _ b s.heap.objs.size := Heap.lt_size h
       exact keep5 b o (keep4 b o h) (by show @Ne Nat _ _; lia) (by lia)
      ·rw [B5.os,m4.os,B3.os,m2.os,B1.os]
  obtain ⟨D,hD,⟨h0,rfl⟩ | ⟨h0,q,k1',tk1,rfl⟩⟩ := e5
  ·refine stageB (dcO [] 0) (dcO [] 0) tpDueB0 tpDueC0 hD (fun _ => dueB0) fun om2 D2 n3 t3 vs T k hc => ?_
   rcases hc with ⟨_,rfl⟩ | ⟨h1,_⟩
   ·exact ⟨_,fun om3 => dueC0⟩
   ·lia
  ·refine stageB _ (dcO [] 2) tpDueB1 tpDueC1 hD (fun _ => dueB1) fun om2 D2 n3 t3 vs T k hc => ?_
   rcases hc with ⟨h1,_⟩ | ⟨_,q1,q2,a,b,ta,tb',rfl⟩
   ·lia
   ·exact ⟨_,fun om3 => dueC1⟩
end
end Mine.G
end
section
namespace Mine.G
noncomputable def iaddC (a b ea eb : Nat) (v : Value) : Ctr :=
 {code := .builtin "list.__iadd__" ⟨[.ref a,.ref b],[]⟩,pre := [(a,lst [] ea),(b,lst [v] eb)],val := fun _ _ => .ref a,upd := fun _ _ => [(a,lst [v] (ea + 1))],news := fun _ _ => [],grow := 0,toks := 0,dm := 940,um := 8000 }
theorem iadd_ok {w : World} {a b ea eb : Nat} {v : Value} : CtrOk w (iaddC a b ea eb v) := by
 intro A s hd hu hh hl hp
 have pa : s.heap.get? a = some (lst [] ea) := hp (a,lst [] ea) (.head _)
 have pb : s.heap.get? b = some (lst [v] eb) := hp (b,lst [v] eb) (.tail _ (.head _))
 have key := code_meets (prog := prg) (w := w) (A := A) (R := fun r s' => r = (iaddC a b ea eb v).res s.heap.objs.size s.toks ∧ After (iaddC a b ea eb v) s s') PySem.F.plain_list_iadd PySem.F.entry_list_iadd (PySem.AutoSeq1.list___iadd___list_list_0 a #[] ea b #[v] eb (by simp) (by simp [sizeLine_eq])) ⟨pa,pb,rfl,?_⟩
 ·exact key
 ·exact after_upd pa rfl rfl rfl rfl rfl
noncomputable def kD (n t : Nat) : ClassData := { name := Str.ofString "K",bases := [.type "object"],mro := [],ns := n + 59,qualname := Str.ofString "cmp_to_key.<locals>.K",hasDict := false,slotNames := [Str.ofString "obj"] }
noncomputable def kS (n t : Nat) : List (Option Value) := [some (.ref (n + 2)),none,some (.str (Str.ofString "K") t),some (.str (Str.ofString "cmp_to_key.<locals>.K") (t + 9)),some (.builtin "object.__new__"),some (.bool false)]
noncomputable abbrev csK (n t : Nat) : List Ctr := [iaddC (n + 58) (n + 9) 0 0 (.str (Str.ofString "obj") (t + 15)),supInitC (n + 62) (n + 60) { kD n t with mro := [.ref (n + 60),.type "object"] } (kS n t),supGetC (n + 62) (n + 60) (t + 76) (kD n t) (kS n t)]
end Mine.G
end
section
namespace Mine.G
noncomputable def dueE (ks : List Nat) (m : Nat) (ω : Nat → Nat) (j : Nat) : Nat × Obj := if j < m then (ω (7 + 2 * j),piece (ks.getD j 0) (ω (8 + 2 * j))) else (ω 3,lst (refs ((List.range m).map fun j => ω (7 + 2 * j))) m)
noncomputable def dueX (R : Nat) (f : Int) (tf m : Nat) (ks : List Nat) (T : Str) (g : Int) : XC :=
 {code := .call (.ref 255) ⟨[.ref R,.int f tf],[]⟩,pre := [],res := fun ω => .ok (.ret (.ref (ω 2))),upd := fun _ => [],
  news := fun ω => [(ω 2,lst [.ref (ω 3),.int (.ofNat m) (ω 4),.str T (ω 5),.int g (ω 6)] 0),(ω 3,lst (refs ((List.range m).map fun j => ω (7 + 2 * j))) m),
   dueE ks m ω 0,dueE ks m ω 1,dueE ks m ω 2,dueE ks m ω 3,dueE ks m ω 4,dueE ks m ω 5,dueE ks m ω 6,dueE ks m ω 7,dueE ks m ω 8,dueE ks m ω 9,dueE ks m ω 10,dueE ks m ω 11,dueE ks m ω 12,dueE ks m ω 13],dm := 800,um := 6900 }
theorem Pcs.toks {h : Heap} {xs ks : List Nat} (X : Pcs h xs ks) : ∃ tk : Nat → Nat,∀ j,j < ks.length → h.get? (xs.getD j 0) = some (piece (ks.getD j 0) (tk j)) := by
 have hl := All2.length X
 have key : ∀ j,∃ t,j < ks.length → h.get? (xs.getD j 0) = some (piece (ks.getD j 0) t) := by
  intro j
  by_cases hj : j < ks.length
  ·obtain ⟨b,hb,h1,t,h3⟩ := All2.at_ X j (xs.getD j 0) (by rw [List.getElem?_eq_getElem (by lia),List.getD_eq_getElem?_getD,List.getElem?_eq_getElem (by lia)]; rfl)
   refine ⟨t,fun _ => ?_⟩
   rw [List.getD_eq_getElem?_getD (l := ks),hb]
   exact h3
  ·exact ⟨0,fun h => absurd h hj⟩
 exact ⟨fun j => (key j).choose,fun j hj => (key j).choose_spec hj⟩
theorem dueX_ok {PT : Nat → Option Obj} {w : World} {R er tf : Nat} {f : Int} {rv : List Value} {ks : List Nat} (hR : lkP PT w.params R = some (lst rv er)) (h281 : 281 ≤ R) (X : Ints rv ks) (k6 : ∀ k ∈ ks,k < 6) (hks : ks.length ≤ 14) :
  XOkP PT w (dueX R f tf ks.length ks (txt ks) (f + sumLen ks)) := by
 intro A s hd hu hh hl hp
 have off : lkP (fun _ => none) w.params R = none := by
  unfold lkP
  cases q : Nat.blt R 281 with
  | true =>
   have := (Nat.blt_eq ▸ q : R < 281)
   lia
  | false => rfl
 refine codeAny_mono (due_ok (PT := fun _ => none) hd hu hh (fun b o e => hl b o ?_) off (hl _ _ hR) X k6 (by lia)) ?_
 ·show lkP PT w.params b = some o
  have e : lkP (fun _ => none) w.params b = some o := e
  unfold lkP at e ⊢
  cases q : Nat.blt b 281 with
  | true => rw [q] at e; exact e
  | false => rw [q] at e; cases e
 ·rintro r s' ⟨q,P,a,b,c,ps,rfl,hq,hP,hps,g1,g2,P3,m⟩
  obtain ⟨tk,ht⟩ := Pcs.toks P3
  have hl' : ps.length = ks.length := All2.length P3
  let ω : Nat → Nat := fun
   | 0 => s'.heap.objs.size | 1 => s'.toks | 2 => q | 3 => P | 4 => a | 5 => b | 6 => c
   | i + 7 => if i % 2 = 0 then ps.getD (i / 2) 0 else tk (i / 2)
  have w1 : ∀ j,ω (7 + 2 * j) = ps.getD j 0 := by
   intro j
   rw [show 7 + 2 * j = 2 * j + 7 from by lia]
   show (if (2 * j) % 2 = 0 then ps.getD (2 * j / 2) 0 else tk (2 * j / 2)) = _
   rw [if_pos (by lia),show 2 * j / 2 = j from by lia]
  have w2 : ∀ j,ω (8 + 2 * j) = tk j := by
   intro j
   rw [show 8 + 2 * j = (2 * j + 1) + 7 from by lia]
   show (if (2 * j + 1) % 2 = 0 then ps.getD ((2 * j + 1) / 2) 0 else tk ((2 * j + 1) / 2)) = _
   rw [if_neg (by lia),show (2 * j + 1) / 2 = j from by lia]
  have hmap : (List.range ks.length).map (fun j => ω (7 + 2 * j)) = ps := by
   apply List.ext_getElem
   ·simp [hl']
   ·intro i h1 h2
    simp only [List.getElem_map,List.getElem_range]
    rw [w1,List.getD_eq_getElem?_getD,List.getElem?_eq_getElem h2]; rfl
  have e1 : ∀ j,s.heap.objs.size ≤ (dueE ks ks.length ω j).1 ∧ s'.heap.get? (dueE ks ks.length ω j).1 = some (dueE ks ks.length ω j).2 := by
   intro j
   unfold dueE
   by_cases hj : j < ks.length
   ·rw [if_pos hj]
    refine ⟨?_,?_⟩
    ·show s.heap.objs.size ≤ ω (7 + 2 * j)
     rw [w1]
     refine hps _ ?_
     rw [List.getD_eq_getElem?_getD,List.getElem?_eq_getElem (by lia)]
     exact List.getElem_mem _
    ·show s'.heap.get? (ω (7 + 2 * j)) = some (piece (ks.getD j 0) (ω (8 + 2 * j)))
     rw [w1,w2]
     exact ht j hj
   ·rw [if_neg hj,hmap]
    exact ⟨hP,g2⟩
  refine ⟨ω,rfl,rfl,rfl,m.grow,(fun p hp => nomatch hp),?_,fun b o h _ => m.keep b o h (by simp),m.bare,m.os⟩
  intro p hp
  revert p
  refine ac ?_ (ac ?_ (ac ?_ (ac ?_ (ac ?_ (ac ?_ (ac ?_ (ac ?_ (ac ?_ (ac ?_ (ac ?_ (ac ?_ (ac ?_ (ac ?_ (ac ?_ (ac ?_ (an))))))))))))))))
  ·exact ⟨hq,g1⟩
  ·refine ⟨hP,?_⟩
   show s'.heap.get? P = _
   rw [hmap]; exact g2
  all_goals exact e1 _
end Mine.G
end
section
namespace Mine.G
noncomputable def mdO (k t : Nat) : Obj := { cls := .type "member_descriptor",data := .fields #[.str (Str.ofString "obj") t,.ref k,.builtin "proto.slot",.builtin "proto.slot#set",.int 0 0] }
noncomputable def kIn (k dx : Nat) (v : Option Value) : Obj := { cls := .ref k,dict := some dx,data := .plain,slots := match v with | some v => #[some v] | none => #[] }
noncomputable abbrev kCls (n t : Nat) : Obj := clsK (n + 60) (kD n t) (kS n t)
noncomputable def mgetC (p x dx n t tp : Nat) (v : Value) : Ctr :=
 {code := .call (.builtin "member_descriptor.__get__") ⟨[.ref p,.ref x,.ref (n + 60)],[]⟩,pre := [(p,mdO (n + 60) tp),(n + 60,kCls n t),(x,kIn (n + 60) dx (some v)),(dx,dcO [] 0)],val := fun _ _ => v,upd := fun _ _ => [],news := fun _ _ => [],grow := 0,toks := 0,dm := 900,um := 8000 }
theorem slot_frag {h : Heap} {p n t tp : Nat} (hp : h.get? p = some (mdO (n + 60) tp)) (hk : h.get? (n + 60) = some (kCls n t)) :
  Frag.In [(p,mdO (n + 60) tp),(n + 60,kCls n t)] h ∧ slotIn [(p,mdO (n + 60) tp),(n + 60,kCls n t)] p (n + 60) = some 0 := by
 have hne : n + 60 ≠ p := fun e => by
  rw [e] at hk
  rw [hp] at hk
  exact absurd (congrArg (fun o : Option Obj => o.map (·.cls)) hk) (by simp [mdO,clsO])
 have l1 : List.lookup p [(p,mdO (n + 60) tp),(n + 60,kCls n t)] = some (mdO (n + 60) tp) := by simp [List.lookup]
 have l2 : List.lookup (n + 60) [(p,mdO (n + 60) tp),(n + 60,kCls n t)] = some (kCls n t) := by
  have : (n + 60 == p) = false := by simpa using hne
  simp [List.lookup,this]
 refine ⟨fun a o e => ?_,?_⟩
 ·by_cases h1 : a = p
  ·subst h1
   rw [l1] at e; cases e; exact hp
  ·by_cases h2 : a = n + 60
   ·subst h2
    rw [l2] at e; cases e; exact hk
   ·have e1 : (a == p) = false := by simpa using h1
    have e2 : (a == n + 60) = false := by simpa using h2
    simp [List.lookup,e1,e2] at e
 ·have r1 : recIn [(p,mdO (n + 60) tp),(n + 60,kCls n t)] p "member_descriptor" = some [.str (Str.ofString "obj") tp,.ref (n + 60),.builtin "proto.slot",.builtin "proto.slot#set",.int 0 0] := by
   unfold recIn
   rw [l1]
   rfl
  have r2 : clsIn [(p,mdO (n + 60) tp),(n + 60,kCls n t)] (n + 60) = some { kD n t with mro := [.ref (n + 60),.type "object"] } := by
   unfold clsIn
   rw [l2]
   rfl
  unfold slotIn
  rw [r1,r2]
  dsimp only
  rw [if_pos]
  ·rfl
  ·simp [kD]
theorem mget_ok {w : World} {p x dx n t tp : Nat} {v : Value} : CtrOk w (mgetC p x dx n t tp v) := by
 intro A s hd hu hh hl hp
 have pp : s.heap.get? p = some (mdO (n + 60) tp) := hp (p,_) (.head _)
 have pk : s.heap.get? (n + 60) = some (kCls n t) := hp (n + 60,_) (.tail _ (.head _))
 have px : s.heap.get? x = some (kIn (n + 60) dx (some v)) := hp (x,_) (.tail _ (.tail _ (.head _)))
 have pd : s.heap.get? dx = some (dcO [] 0) := hp (dx,_) (.tail _ (.tail _ (.tail _ (.head _))))
 obtain ⟨X,hs⟩ := slot_frag pp pk
 have I : PySem.W.InstAt s.heap x (kIn (n + 60) dx (some v)) (n + 60) (some (dcO [] 0)) := ⟨px,rfl,rfl,pd⟩
 exact slot_get X I hs rfl ⟨rfl,after_none (C := mgetC p x dx n t tp v) rfl rfl rfl⟩
noncomputable def msetC (p x dx n t tp : Nat) (v : Value) : Ctr :=
 {code := .call (.builtin "member_descriptor.__set__") ⟨[.ref p,.ref x,v],[]⟩,pre := [(p,mdO (n + 60) tp),(n + 60,kCls n t),(x,kIn (n + 60) dx none),(dx,dcO [] 0)],val := fun _ _ => .none,upd := fun _ _ => [(x,kIn (n + 60) dx (some v))],news := fun _ _ => [],grow := 0,toks := 0,dm := 900,um := 8000 }
theorem mset_ok {w : World} {p x dx n t tp : Nat} {v : Value} : CtrOk w (msetC p x dx n t tp v) := by
 intro A s hd hu hh hl hp
 have pp : s.heap.get? p = some (mdO (n + 60) tp) := hp (p,_) (.head _)
 have pk : s.heap.get? (n + 60) = some (kCls n t) := hp (n + 60,_) (.tail _ (.head _))
 have px : s.heap.get? x = some (kIn (n + 60) dx none) := hp (x,_) (.tail _ (.tail _ (.head _)))
 have pd : s.heap.get? dx = some (dcO [] 0) := hp (dx,_) (.tail _ (.tail _ (.tail _ (.head _))))
 obtain ⟨X,hs⟩ := slot_frag pp pk
 obtain ⟨m,tn,owner,behind,tb',d',sl,cd,ho,hc,hm,hb,hi⟩ := slot_of X hs
 have I : PySem.W.InstAt s.heap x (kIn (n + 60) dx none) (n + 60) (some (dcO [] 0)) := ⟨px,rfl,rfl,pd⟩
 obtain ⟨hh',g,dr,tk,os⟩ := s
 have L0 := I.type (M := model prg w)
 have L1 := looks_mroIn (M := model prg w) X hm
 have L2 : Looks (model prg w) hh' (Builtin.Slots.slotNamesOf (.ref (n + 60))) cd.slotNames := (looks_clsIn X hc).andThen .now
 dsimp only at ho px L0 L1
 have f0 := looks_field (M := model prg w) ho 0 (v := .str m tn) rfl
 have f1 := looks_field (M := model prg w) ho 1 (v := owner) rfl
 have f3 := looks_field (M := model prg w) ho 3 (v := .builtin "proto.slot#set") rfl
 have f4 := looks_field (M := model prg w) ho 4 (v := .int behind tb') rfl
 have f5 : Looks (model prg w) hh' (Builtin.Getset_descriptor.descrItself (.ref p)) [.ref p] := ((Looks.ld (part := none) ho).andThen .now).andThen (Looks.of_pure (by kernel_rfl))
 show codeAny (model prg w) A (.call (.builtin "member_descriptor.__set__") ⟨[.ref p,.ref x,v],[]⟩) _ _
 refine codeAny_call_builtin KF.slot_mset.plain KF.entry_mset (KF.slot_mset.check _ _ _ _ _ _ _ _ ⟨_,ho,rfl⟩ (KF.args_mset _ _ _) ?_)
 unfold Builtin.«member_descriptor.__set__» Builtin.Getset_descriptor.descrSet Builtin.Getset_descriptor.descrStoreThrough Builtin.Getset_descriptor.descrCheckInstance Builtin.Getset_descriptor.descrNameAndClass isInstance
 repeat lk
 refine ⟨Code.quiet_builtin _ (by decide +kernel),codeAny_builtin KF.entry_slotset ?_⟩
 unfold Builtin.«proto.slot#set» Builtin.Slots.target
 repeat lk
 rw [if_neg hb]
 refine wpAny_pure (wpAny_bind ?_)
 rw [← hi]
 unfold setSlotAt
 dsimp only
 rw [if_neg (by rw [sizeLine_eq]; lia)]
 exact wpAny_updatePart px (wpAny_pure ⟨rfl,after_upd (C := msetC p x dx n t tp v) px rfl rfl rfl rfl rfl⟩)
end Mine.G
end
section
namespace Mine.G
noncomputable def kMeth (j : Nat) : Stmt := match nth (bodyOf (top 17)) 0 with
 | .ClassDef _ _ _ b .. => nth b j
 | s => s
noncomputable def lawN : Value := .str (Str.ofString "law_ij0103_01") 426
noncomputable def kInitO (n : Nat) : Obj := { cls := .type "function",data := .func (fn (kMeth 2) (Str.ofString "__init__") (Str.ofString "cmp_to_key.<locals>.K.__init__") [] .none lawN (.ref (n + 15)) .none) }
noncomputable def kLtO (n : Nat) : Obj := { cls := .type "function",data := .func (fn (kMeth 3) (Str.ofString "__lt__") (Str.ofString "cmp_to_key.<locals>.K.__lt__") [(Str.ofString "mycmp",n + 1)] .none lawN (.ref (n + 23)) (.ref (n + 17))) }
noncomputable def codeO (nm qn : String) (t j line argn fl a b c dd e : Nat) : Obj :=
 {cls := .type "code",data := .fields #[.str (Str.ofString nm) t,.str (Str.ofString qn) (t + 1),.str (Str.ofString "/claim/cut.py") (t + 2),.int line 0,.int argn 0,.int 0 0,.int 0 0,.int fl 0,.ref a,.bool true,.int 181 0,.ref b,.none,.ref c,.ref dd,.ref e,.int (t + j) 0,.int line 0,.str (Str.ofString "/claim/cut.py") (t + j + 1)] }
noncomputable def kC15 (n t : Nat) : Obj := codeO "__init__" "cmp_to_key.<locals>.K.__init__" (t + 17) 5 109 2 19 (n + 10) (n + 11) (n + 12) (n + 13) (n + 14)
noncomputable def kC23 (n t : Nat) : Obj := codeO "__lt__" "cmp_to_key.<locals>.K.__lt__" (t + 25) 6 112 2 19 (n + 18) (n + 19) (n + 20) (n + 21) (n + 22)
noncomputable def dS (P : Params) (nm : String) (t : Nat) (v : Value) : DictEntry := ⟨PyData.keyHash P (Str.ofString nm),.str (Str.ofString nm) t,v⟩
noncomputable def kNs (P : Params) (n t : Nat) : Obj := { cls := .type "dict",data := .dict #[dS P "__module__" (t + 8) (.str (Str.ofString "cpy313.functools") (t + 13)),dS P "__firstlineno__" (t + 12) (.int 105 (t + 11)),dS P "__slots__" (t + 16) (.ref (n + 9)),dS P "__init__" (t + 24) (.ref (n + 16)),dS P "__lt__" (t + 33) (.ref (n + 24)),
 dS P "__gt__" (t + 42) (.ref (n + 32)),dS P "__eq__" (t + 51) (.ref (n + 40)),dS P "__le__" (t + 60) (.ref (n + 48)),dS P "__ge__" (t + 69) (.ref (n + 56)),dS P "__hash__" (t + 70) .none,dS P "__static_attributes__" (t + 72) (.ref (n + 57)),dS P "obj" (t + 74) (.ref (n + 61)),dS P "__doc__" (t + 75) .none] 3 }
noncomputable def cellO (v : Nat) : Obj := { cls := .type "cell",data := .cell (some (.ref v)) }
noncomputable def tpK : List Tk := (cat [l,l,o 1,o 1,l,.ent,l,l,l,.go,.go,.go,.go,.go,o 3,.go,o 4,l,d 0,d 0,d 0,d 0,l,l,l,l,o 4,o 4,l] (cat tp47 (cat tp47 (cat [o 4,.go,o 4,o 4] (cat tp47 (cat tp70 (cat tp70 (cat tp70 (cat tp70 (cat tp70 (cat [o 7,o 6,o 6,o 6,o 6,l,l,l] (cat tp47 (cat tp47 (cat [o 4,.go,.go,.go,.ent,o 2,o 4,o 2,o 4,o 4,o 9,.go,(.ctr 0 [.own 58,.own 9] [.own 58]),o 58,o 59,o 59,o 59,o 60,o 60,o 60,o 59,o 59,o 59,o 59,o 59,o 59,o 59,o 60,o 60,o 60,o 60,o 60,o 60,o 60,o 59,o 59,o 59,o 59,o 59,o 60,o 60,o 60,o 60,o 59,o 59,o 59,o 59,o 59,o 59,o 59,o 9,o 16,o 24,o 32,o 40,o 48,o 56,o 57,o 61,.go,.go,o 60,.go,.go,o 62,o 62,.go,o 62,(.ctr 1 [.own 62,.own 60] [.own 62]),o 62,.go,o 62,(.ctr 2 [.own 62,.own 60] []),.go,o 63,o 60,o 60,o 60,o 60,.go,o 60,o 60,.go,o 60,.go] tp28))))))))))))))
noncomputable def kTs (P : Params) (lam n t : Nat) : List Obj := [cellO lam,kC15 n t,kInitO n,kC23 n t,kLtO n,kNs P n t,kCls n t,mdO (n + 60) (t + 73)]
noncomputable def z_ctk (w : World) (n t lam : Nat) (lo : Obj) : Rslt :=
 ⟨.fin (.ok (.ret (.ref (n + 60)))),n,64,t,78,([1,15,16,23,24,59,60,61].zip (kTs w.params lam n t)).map (fun p => some (n + p.1,p.2)),[tb [.int 105 0,.int 4 0,.ref (n + 7)],lo],[]⟩
theorem ctk {PT : Nat → Option Obj} {w : World} {n t lam : Nat} {lo : Obj} {om : Om} :
  chk [1,15,16,23,24,59,60,61] (runC PySem.W.Fast.mineEnt3 (vwP PT w n t [191,lam] (fun _ => csK n t) (fun _ => []) om 820 7000) 600 (.call (.ref 196) ⟨[.ref lam],[]⟩) true tpK [tb [],lo]) (z_ctk w n t lam lo) := by
 delta chk
 apply w1 (w := w) <;> kernel_rfl
end Mine.G
end
section
namespace Mine.G
noncomputable def nScript : Str := Str.ofString "script"
noncomputable def nHeaps : Str := Str.ofString "heaps"
noncomputable def lawFr (P : Params) (n t : Nat) : Obj := { cls := .type "frame",data := .dict #[de (PyData.keyHash P nScript) nScript t (.ref 280),de (PyData.keyHash P nHeaps) nHeaps (t + 141) (.ref (n + 108))] 2 }
noncomputable def csA (P : Params) (n t es : Nat) (sv nv : List Value) : List Ctr := [begAC P (n + 8) (t + 9) (t + 10) (t + 11),begBC P (n + 46) (t + 60) (t + 61) (t + 62),begCC P (n + 84) (t + 111) (t + 112),sliceC 280 (n + 109) lsC none es sv .none (.int 12 (t + 142)) nv]
noncomputable def tpLawA : List Tk := ([l,l,o 0,o 0,l,.ent,o 1,o 1,o 2,o 2,l,l,(.ctr 0 [.own 8] []),l,l,(.ctr 1 [.own 46] []),l,l,(.ctr 2 [.own 84] []),o 0,o 0,l,o 0,o 1,o 2,o 0,d 0,d 0,d 0,.go,d 0,(.ctr 3 [.old 0,.own 109] []),l,.stop])
noncomputable def lawRA (PT : Nat → Option Obj) (w : World) (n t es : Nat) (sv nv : List Value) (om : Om) : RunR :=
 runC PySem.W.Fast.mineEnt1 (vwP PT w n t [280] (fun _ => csA w.params n t es sv nv) (fun _ => []) om 830 6800) 200 (.call (.ref 279) ⟨[.ref 280],[]⟩) true tpLawA [lst sv es]
noncomputable def lawTA (P : Params) (n t : Nat) (nv : List Value) : List (Option (Nat × Obj)) :=
 [some (n,lawFr P n t),some (n + 1,cellO (n + 6)),some (n + 2,cellO (n + 7)),some (n + 3,lst [.int 2 (t + 1),.int 4 (t + 2)] 0),some (n + 4,lst [.int 2 (t + 3),.int 1 (t + 4)] 0),some (n + 5,lst [.int 2 (t + 5)] 0),
  some (n + 6,lst [.ref (n + 3),.ref (n + 4),.ref (n + 5)] 0),some (n + 7,lst [.int 0 (t + 6),.int 1 (t + 7),.int 4 (t + 8)] 0),
  some (n + 10,dB P (t + 12) 0 (t + 9)),some (n + 11,inst (n + 10) [.ref (n + 29),.ref (n + 43)] 2),some (n + 29,piece 2 (t + 27)),some (n + 43,piece 4 (t + 51)),
  some (n + 48,dB P (t + 63) 1 (t + 60)),some (n + 49,inst (n + 48) [.ref (n + 67),.ref (n + 81)] 2),some (n + 67,piece 2 (t + 78)),some (n + 81,piece 1 (t + 96)),
  some (n + 86,dB P (t + 113) 4 (t + 111)),some (n + 87,inst (n + 86) [.ref (n + 105)] 1),some (n + 105,piece 2 (t + 128)),
  some (n + 108,lst [.ref (n + 11),.ref (n + 49),.ref (n + 87)] 0),some (n + 110,lst nv 0)]
noncomputable def rsA (P : Params) (n t es : Nat) (sv nv : List Value) : Rslt :=
 ⟨.other,n,111,t,143,lawTA P n t nv,[lst sv es],[]⟩
theorem lawA {PT : Nat → Option Obj} {w : World} {n t es : Nat} {sv nv : List Value} {om : Om} :
  chkS [0,1,2,3,4,5,6,7,10,11,29,43,48,49,67,81,86,87,105,108,110] (lawRA PT w n t es sv nv om) (.call (.ref 226) ⟨[.ref (n + 108),.ref (n + 6),.ref (n + 7),.ref (n + 110)],[]⟩) 1
   (rsA w.params n t es sv nv) := by
 delta chkS
 apply w1 (w := w) <;> kernel_rfl
end Mine.G
end
section
namespace Mine.G
noncomputable def keyC (P : Params) (lam : Nat) (lo : Obj) : Ctr :=
 {code := .call (.ref 196) ⟨[.ref lam],[]⟩,pre := [(191,tb []),(lam,lo)],val := fun n _ => .ref (n + 60),upd := fun n _ => [(191,tb [.int 105 0,.int 4 0,.ref (n + 7)])],
  news := fun n t => [(1,cellO lam),(15,kC15 n t),(16,kInitO n),(23,kC23 n t),(24,kLtO n),(59,kNs P n t),(60,kCls n t),(61,mdO (n + 60) (t + 73))],grow := 64,toks := 78,dm := 820,um := 7000 }
theorem key_okC {lam : Nat} : okCode (.call (.ref 196) ⟨[.ref lam],[]⟩) = true := by kernel_rfl
theorem lk279 {P : Params} : lkQ P 279 = some (k279 P) := by kernel_rfl
theorem key_ok {PT : Nat → Option Obj} {w : World} {lam : Nat} {lo : Obj} (hlo : lo ≠ tb []) (hno : lkP PT w.params lam ≠ some lo) : CtrOkP PT w (keyC w.params lam lo) := by
 intro A s hd hu hh hl hp
 have p1 : s.heap.get? 191 = some (tb []) := hp (191,tb []) (.head _)
 have p2 : s.heap.get? lam = some lo := hp (lam,lo) (.tail _ (.head _))
 have hlt : @LT.lt Nat _ lam s.heap.objs.size := Heap.lt_size p2
 have hbig : @LT.lt Nat _ 279 s.heap.objs.size := Heap.lt_size (hl 279 _ (lkP_of (PT := PT) lk279))
 have hoff : lkP PT w.params lam = none := by
  cases hx : lkP PT w.params lam with
  | none => rfl
  | some o =>
   have := hl _ _ hx
   rw [p2] at this
   exact absurd (this ▸ hx) hno
 have hne : lam ≠ 191 := fun e => by
  subst e
  rw [p1] at p2
  exact hlo (Option.some.inj p2).symm
 have S : StartP PT w s.heap.objs.size s.toks [191,lam] [tb [],lo] s := by
  refine startP_of (by simp [Ne.symm hne]) (fun b hb => ?_) rfl hl ?_
  ·revert b
   refine ac ?_ (ac ?_ (an))
   ·rfl
   ·exact hoff
  ·intro p hp
   revert p
   refine zc ?_ (zc ?_ (zn))
   ·exact p1
   ·exact p2
 refine run_codePE ent3_ok entQ3_eq S (fun om C hC => ?_) (fun _ => an) (dm := 820) (um := 7000) hd hu hh key_okC (by decide) (by decide) (fun _ => ctk) fun om s1 B => ⟨rfl,?_⟩
 ·revert C
  refine ac ?_ (ac ?_ (ac ?_ (an)))
  ·exact ctrP iadd_ok
  ·exact ctrP (supInit_ok rfl (by lia))
  ·exact ctrP (supGet_ok (by lia))
 ·refine ⟨B.size,B.toks,?_,?_,?_,B.bare,B.os⟩
  ·intro p hp'
   simp only [keyC,List.mem_cons,List.not_mem_nil,or_false] at hp'
   subst hp'
   exact B.old 0 191 _ rfl rfl
  ·intro p hp'
   revert p
   refine ac ?_ (ac ?_ (ac ?_ (ac ?_ (ac ?_ (ac ?_ (ac ?_ (ac ?_ (an))))))))
   ·exact (B.own 0 _ _ rfl).2
   ·exact (B.own 1 _ _ rfl).2
   ·exact (B.own 2 _ _ rfl).2
   ·exact (B.own 3 _ _ rfl).2
   ·exact (B.own 4 _ _ rfl).2
   ·exact (B.own 5 _ _ rfl).2
   ·exact (B.own 6 _ _ rfl).2
   ·exact (B.own 7 _ _ rfl).2
  ·intro b o hb hq
   by_cases h : b = 191
   ·exact absurd h.symm (hq (191,_) (.head _))
   ·by_cases h2 : b = lam
    ·subst h2
     rw [p2] at hb
     cases hb
     exact B.old 1 b _ rfl rfl
    ·exact B.keep b o hb (by simp [h,h2])
end Mine.G
end
section
namespace Mine.G
noncomputable def tpKi : List Tk := (cat [d 0,d 1] (cat tp7 [l,.go,o 0,o 0,d 5,d 3,d 3,d 2,.go,d 5,d 3,.go,d 5,d 3,d 5,d 3,d 3,d 2,d 4,d 4,(.ctr 0 [.old 4,.old 3,.old 5,.old 6] [.old 5])]))
noncomputable def z_kInit_run (w : World) (n t nn tt dx h : Nat) : Rslt :=
 ⟨.fin (.ok (.ret .none)),nn,1,tt,3,[],[kInitO n,kC15 n t,kNs w.params n t,kCls n t,mdO (n + 60) (t + 73),kIn (n + 60) dx (some (.ref h)),dcO [] 0],[]⟩
theorem kInit_run {PT : Nat → Option Obj} {w : World} {n t nn tt x dx h : Nat} {om : Om} :
  chk [] (runC PySem.W.Fast.mineEnt1 (vwP PT w nn tt [n + 16,n + 15,n + 59,n + 60,n + 61,x,dx] (fun _ => [msetC (n + 61) x dx n t (t + 73) (.ref h)]) (fun _ => []) om 800 6800) 100 (.call (.ref (n + 16)) ⟨[.ref x,.ref h],[]⟩) true tpKi
    [kInitO n,kC15 n t,kNs w.params n t,kCls n t,mdO (n + 60) (t + 73),kIn (n + 60) dx none,dcO [] 0]) (z_kInit_run w n t nn tt dx h) := by
 delta chk
 apply w1 (w := w) <;> kernel_rfl
end Mine.G
end
section
namespace Mine.G
noncomputable def asgV : Stmt → Expr
 | .Assign _ e _ => e
 | _ => .Name (Str.ofString "x") ⟨0,0,0,0⟩
noncomputable def arg0 : Expr → Expr
 | .Call _ (a :: _) _ _ => a
 | e => e
noncomputable def kw0 : Expr → Expr
 | .Call _ _ (k :: _) _ => k.value
 | e => e
noncomputable def lamFn (e : Expr) (code : Nat) : FuncData := match e with
 | .Lambda a b s _ => { name := Str.ofString "<lambda>",qualname := Str.ofString "law.<locals>.<lambda>",params := a,body := .expr b,scope := s,globals := 3,closure := [],defaults := .none,kwdefaults := .none,pyModule := .str (Str.ofString "law_ij0103_01") 426,code := .ref code }
 | _ => default
noncomputable def lamE (j : Nat) : Expr := match j with
 | 6 => arg0 (kw0 (asgV (nth (bodyOf (top 32)) 6)))
 | j => arg0 (asgV (nth (bodyOf (top 32)) j))
noncomputable def lamO (j code : Nat) : Obj := { cls := .type "function",data := .func (lamFn (lamE j) code) }
noncomputable def hlpC (f a1 a2 : Nat) (r : Bool) : Ctr := { code := .call (.ref f) ⟨[.ref a1,.ref a2],[]⟩,pre := [],val := fun _ _ => .bool r,upd := fun _ _ => [],news := fun _ _ => [],grow := 1,toks := 4,dm := 850,um := 7200 }
noncomputable def bz : Bool → Int
 | true => 1
 | false => 0
structure CodeAt where
 t : Nat
 a : Nat
 b : Nat
 c : Nat
 dd : Nat
 e : Nat
noncomputable def lcO (line : Nat) (q : CodeAt) : Obj := codeO "<lambda>" "law.<locals>.<lambda>" q.t 5 line 2 19 q.a q.b q.c q.dd q.e
noncomputable def tpLam : List Tk := (cat [d 0,d 1] (cat tp7 (cat [l,.go] (cat tp21 (cat [(.ctr 0 [] [])] (cat tp21 [(.ctr 1 [] []),.go,.go]))))))
theorem lam_run {PT : Nat → Option Obj} {w : World} {b r1 r2 : Bool} {n t lam lc u v : Nat} {q : CodeAt} {om : Om} :
  chk [] (runC PySem.W.Fast.mineEnt1 (vwP PT (W1 b w) n t [lam,lc] (fun _ => [hlpC 147 u v r1,hlpC 189 u v r2]) (fun _ => []) om 820 7000) 100 (.call (.ref lam) ⟨[.ref u,.ref v],[]⟩) true tpLam [lamO 6 lc,lcO 214 q])
   ⟨.fin (.ok (.ret (.int (bz r1 - bz r2) (t + 10)))),n,3,t,11,[],[lamO 6 lc,lcO 214 q],[]⟩ := by
 unfold chk
 cases b <;> cases r1 <;> cases r2 <;> kernel_rfl
noncomputable def lamC (lam u v : Nat) (z : Int) : Ctr := { code := .call (.ref lam) ⟨[.ref u,.ref v],[]⟩,pre := [],val := fun _ t => .int z (t + 10),upd := fun _ _ => [],news := fun _ _ => [],grow := 3,toks := 11,dm := 820,um := 7000 }
theorem lam_okC {lam u v : Nat} : okCode (.call (.ref lam) ⟨[.ref u,.ref v],[]⟩) = true := by kernel_rfl
noncomputable def lamCp (lam lc : Nat) (q : CodeAt) (u v : Nat) (z : Int) : Ctr := { lamC lam u v z with pre := [(lam,lamO 6 lc),(lc,lcO 214 q)] }
theorem lamCp_ok {PT : Nat → Option Obj} {w : World} {lam lc u v : Nat} {q : CodeAt} {r1 r2 : Bool} (h1 : CtrOkP PT w (hlpC 147 u v r1)) (h2 : CtrOkP PT w (hlpC 189 u v r2)) (hne : lam ≠ lc)
  (off : lkP PT w.params lam = none) (off2 : lkP PT w.params lc = none) : CtrOkP PT w (lamCp lam lc q u v (bz r1 - bz r2)) := by
 have z := mk_okP (PT := PT) (w := w) (fun _ => ent1_ok) entQ1_eq (code := .call (.ref lam) ⟨[.ref u,.ref v],[]⟩) (L := [lam,lc]) (U := [lamO 6 lc,lcO 214 q]) (val := fun _ t => .int (bz r1 - bz r2) (t + 10)) (U' := fun _ _ => [lamO 6 lc,lcO 214 q]) (ks := []) (T := fun _ _ => []) (grow := 3) (toks := 11) (dm := 820) (um := 7000)
  (cs := fun _ _ => [hlpC 147 u v r1,hlpC 189 u v r2]) (by simpa using hne) (by
   intro a ha
   revert a
   refine ac ?_ (ac ?_ (an)) <;> assumption) rfl (fun _ _ => rfl) lam_okC (by decide) (by decide) (fun _ _ _ C hC => by
   revert C
   refine ac ?_ (ac ?_ (an)) <;> assumption) (fun b n t om => lam_run)
 exact drop_ok z fun n t => rfl
end Mine.G
end
section
namespace Mine.G
noncomputable def iaddL (a b ea eb : Nat) (x y z : Value) : Ctr :=
 {code := .builtin "list.__iadd__" ⟨[.ref a,.ref b],[]⟩,pre := [(a,lst [] ea),(b,lst [x,y,z] eb)],val := fun _ _ => .ref a,upd := fun _ _ => [(a,lst [x,y,z] (ea + 1))],news := fun _ _ => [],grow := 0,toks := 0,dm := 940,um := 8000 }
theorem iaddL_ok {w : World} {a b ea eb : Nat} {x y z : Value} : CtrOk w (iaddL a b ea eb x y z) := by
 intro A s hd hu hh hl hp
 have pa : s.heap.get? a = some (lst [] ea) := hp (a,lst [] ea) (.head _)
 have pb : s.heap.get? b = some (lst [x,y,z] eb) := hp (b,lst [x,y,z] eb) (.tail _ (.head _))
 have key := code_meets (prog := prg) (w := w) (A := A) (R := fun r s' => r = (iaddL a b ea eb x y z).res s.heap.objs.size s.toks ∧ After (iaddL a b ea eb x y z) s s') PySem.F.plain_list_iadd PySem.F.entry_list_iadd (PySem.AutoSeq1.list___iadd___list_list_0 a #[] ea b #[x,y,z] eb (by simp) (by simp [sizeLine_eq])) ⟨pa,pb,rfl,?_⟩
 ·exact key
 ·exact after_upd pa rfl rfl rfl rfl rfl
end Mine.G
end
section
namespace Mine.G
noncomputable def nDue : Str := Str.ofString "due"
noncomputable def lawFr2 (P : Params) (n t dq td : Nat) : Obj := { cls := .type "frame",data := .dict #[de (PyData.keyHash P nScript) nScript t (.ref 280),de (PyData.keyHash P nHeaps) nHeaps (t + 141) (.ref (n + 108)),de (PyData.keyHash P nDue) nDue td (.ref dq)] 3 }
noncomputable abbrev rvL (S0 S1 S2 : Sl) : List Value := [.ref S0.r,.ref S1.r,.ref S2.r]
noncomputable abbrev fvL (S0 S1 S2 : Sl) : List Value := [.int S0.f S0.fu,.int S1.f S1.fu,.int S2.f S2.fu]
noncomputable def csBl (P : Params) (n eH eR eF : Nat) (S0 S1 S2 T0 T1 T2 : Sl) (a b c : Int) (om : Om) : List Ctr :=
 [getC (n + 6) eR lsC none (rvL S0 S1 S2) a (om 1 3) (.ref T0.r),getC (n + 7) eF lsC none (fvL S0 S1 S2) a (om 1 3) (.int T0.f T0.fu),getC (n + 6) eR lsC none (rvL S0 S1 S2) b (om 1 4) (.ref T1.r),getC (n + 7) eF lsC none (fvL S0 S1 S2) b (om 1 4) (.int T1.f T1.fu),
  getC (n + 6) eR lsC none (rvL S0 S1 S2) c (om 1 5) (.ref T2.r),getC (n + 7) eF lsC none (fvL S0 S1 S2) c (om 1 5) (.int T2.f T2.fu),keyC P (om 4 0 + 8) (lamO 6 (om 4 0 + 7)),iaddL (om 4 0 + 73) (n + 108) 0 eH (.ref S0.a) (.ref S1.a) (.ref S2.a)]
noncomputable abbrev dueS (T : Sl) : XC := dueX T.r T.f T.fu T.ks.length T.ks (txt T.ks) (T.f + sumLen T.ks)
noncomputable def xsBl (n eH eR : Nat) (S0 S1 S2 T0 T1 T2 : Sl) (a b c : Int) : List XC := [allX (n + 108) (n + 6) eH eR S0 S1 S2,orderX (n + 6) eR S0 S1 S2 a b c,dueS T0,dueS T1,dueS T2]
noncomputable def tpLawB (c : Bool) : List Tk := match c with
 | true => (cat [l,d 0,d 1,l,(.xctr 0 [.old 3,.old 4] []),l,d 1,l,(.xctr 1 [.old 4] []),z 0,z 0,.go,z 0,.go,o 0,.go,.go] (cat tp65 (cat [(.ctr 0 [.old 4] [])] (cat tp66 (cat [(.ctr 1 [.old 5] []),l,(.xctr 2 [] [])] (cat tp86 (cat [(.ctr 2 [.old 4] [])] (cat tp66 (cat [(.ctr 3 [.old 5] []),l,(.xctr 3 [] [])] (cat tp86 (cat [(.ctr 4 [.old 4] [])] (cat tp66 (cat [(.ctr 5 [.old 5] []),l,(.xctr 4 [] []),.go,o 1,.go,o 1,o 1,o 1,.go] (cat tp45 [o 4,d 0,d 0,o 2,o 2,o 2,l,l,d 0,l,l,d 7,d 7,d 7,d 7,l,l,l,l,(.ctr 6 [.old 6,.own 11] [.old 6]),.go,.go,.go,(.ctr 7 [.own 76,.old 3] [.own 76]),o 76,.go,o 77,.stop]))))))))))))))
 | false => (cat [l,d 0,d 1,l,(.xctr 0 [.old 3,.old 4] []),l,d 1,l,(.xctr 1 [.old 4] []),z 0,z 0,.go,z 0,.go,o 0,.go,o 0,o 0,.go,o 0,.go,o 0,.go] (cat tp65 (cat [(.ctr 0 [.old 4] [])] (cat tp66 (cat [(.ctr 1 [.old 5] []),l,(.xctr 2 [] [])] (cat tp86 (cat [(.ctr 2 [.old 4] [])] (cat tp66 (cat [(.ctr 3 [.old 5] []),l,(.xctr 3 [] [])] (cat tp86 (cat [(.ctr 4 [.old 4] [])] (cat tp66 (cat [(.ctr 5 [.old 5] []),l,(.xctr 4 [] []),.go,o 1,.go,o 1,o 1,o 1,.go] (cat tp45 [o 4,d 0,d 0,o 2,o 2,o 2,l,l,d 0,l,l,d 7,d 7,d 7,d 7,l,l,l,l,(.ctr 6 [.old 6,.own 11] [.old 6]),.go,.go,.go,(.ctr 7 [.own 76,.old 3] [.own 76]),o 76,.go,o 77,.stop]))))))))))))))
noncomputable def Lb (n : Nat) : List Nat := [n,n + 1,n + 2,n + 108,n + 6,n + 7,191,276]
noncomputable def Ub (P : Params) (n t eH eR eF : Nat) (S0 S1 S2 : Sl) : List Obj := [lawFr P n t,cellO (n + 6),cellO (n + 7),hsO S0 S1 S2 eH,rsO S0 S1 S2 eR,lst (fvL S0 S1 S2) eF,tb [],tb []]
noncomputable def lawKB (cc : Bool) (R : RunR) (w : World) (n t : Nat) (PT2 : Nat → Option Obj) (n2 t2 eH eR eF : Nat) (S0 S1 S2 T0 T1 T2 : Sl) (a b c : Int) (om2 : Om) : RunR :=
 runK PySem.W.Fast.mineEnt1 (vwP PT2 w n2 t2 (Lb n) (csBl w.params n eH eR eF S0 S1 S2 T0 T1 T2 a b c) (fun _ => xsBl n eH eR S0 S1 S2 T0 T1 T2 a b c) om2 740 6500) 400 R (.ok (.ret .none)) (tpLawB cc)
  (Ub w.params n t eH eR eF S0 S1 S2)
noncomputable def lawRB (cc : Bool) (PT : Nat → Option Obj) (w : World) (n t es : Nat) (sv nv : List Value) (om : Om) (PT2 : Nat → Option Obj) (n2 t2 eH eR eF : Nat) (S0 S1 S2 T0 T1 T2 : Sl) (a b c : Int) (om2 : Om) : RunR :=
 lawKB cc (lawRA PT w n t es sv nv om) w n t PT2 n2 t2 eH eR eF S0 S1 S2 T0 T1 T2 a b c om2
noncomputable def lawTB (P : Params) (S0 S1 S2 : Sl) (om : Om) : List (Option (Nat × Obj)) :=
 let k := om 4 0 + 9
 let tk := om 4 1 + 8
 let lam := om 4 0 + 8
 [some (om 1 0 + 1,lst [.ref (om 2 2),.ref (om 3 2),.ref (om 4 2)] 3),some (om 4 0 + 7,lcO 214 ⟨om 4 1 + 1,om 4 0 + 2,om 4 0 + 3,om 4 0 + 4,om 4 0 + 5,om 4 0 + 6⟩),some (lam,lamO 6 (om 4 0 + 7)),
  some (k + 1,cellO lam),some (k + 15,kC15 k tk),some (k + 16,kInitO k),some (k + 23,kC23 k tk),some (k + 24,kLtO k),some (k + 59,kNs P k tk),some (k + 60,kCls k tk),some (k + 61,mdO (k + 60) (tk + 73)),
  some (om 4 0 + 74,lst [.ref S0.a,.ref S1.a,.ref S2.a] 0)]
noncomputable def rsB (P : Params) (n t eH eR eF : Nat) (S0 S1 S2 T0 T1 T2 : Sl) (a b c : Int) (om2 : Om) : Rslt :=
 ⟨.other,om2 4 0,75,om2 4 1,86,lawTB P S0 S1 S2 om2,[lawFr2 P n t (om2 1 0 + 1) (om2 4 1),cellO (n + 6),cellO (n + 7),hsO S0 S1 S2 eH,rsO S0 S1 S2 eR,lst (fvL S0 S1 S2) eF,tb [.int 105 0,.int 4 0,.ref (om2 4 0 + 9 + 7)],tb [.int 214 0,.int 42 0,.ref (om2 4 0 + 7)]],
    (om2 1 2,lst [.int a (om2 1 3),.int b (om2 1 4),.int c (om2 1 5)] 3) :: ((dueS T0).news (om2 2) ++ ((dueS T1).news (om2 3) ++ (dueS T2).news (om2 4)))⟩
theorem lawB {PT PT2 : Nat → Option Obj} {w : World} {cc : Bool} {n t es n2 t2 eH eR eF : Nat} {sv nv : List Value} {S0 S1 S2 T0 T1 T2 : Sl} {a b c : Int} {om om2 : Om} (hc : cc = cw w) :
  chkS [1,10,11,13,27,28,35,36,71,72,73,77] (lawRB cc PT w n t es sv nv om PT2 n2 t2 eH eR eF S0 S1 S2 T0 T1 T2 a b c om2)
   (.builtin "list.sort" ⟨[.ref (om2 4 0 + 74)],[(Str.ofString "key",.ref (om2 4 0 + 9 + 60))]⟩) 2
   (rsB w.params n t eH eR eF S0 S1 S2 T0 T1 T2 a b c om2) := by
 delta chkS
 revert hc
 apply w4 (w := w)
 intro b c hc
 cases hc.trans cw_W
 cases b <;> cases cc <;> kernel_rfl
theorem lawB2 {PT PT2 : Nat → Option Obj} {w : World} {cc : Bool} {n t es n2 t2 eH eR eF : Nat} {sv nv : List Value} {S0 S1 S2 T0 T1 T2 : Sl} {a b c : Int} {om om2 : Om} {R : RunR} (hc : cc = cw w) (hR : lawRA PT w n t es sv nv om = R) :
  chkS [1,10,11,13,27,28,35,36,71,72,73,77] (lawKB cc R w n t PT2 n2 t2 eH eR eF S0 S1 S2 T0 T1 T2 a b c om2)
   (.builtin "list.sort" ⟨[.ref (om2 4 0 + 74)],[(Str.ofString "key",.ref (om2 4 0 + 9 + 60))]⟩) 2
   (rsB w.params n t eH eR eF S0 S1 S2 T0 T1 T2 a b c om2) := hR ▸ lawB (PT := PT) hc
end Mine.G
end
section
namespace Mine.G
noncomputable def tpLr : List Tk := (cat [d 0,d 1] (cat tp7 (cat [l,.go] (cat tp21 [(.ctr 0 [] []),o 0]))))
noncomputable def lamR (lam u v r : Nat) : Ctr := { code := .call (.ref lam) ⟨[.ref u,.ref v],[]⟩,pre := [],val := fun _ _ => .ref r,upd := fun _ _ => [],news := fun _ _ => [],grow := 2,toks := 6,dm := 820,um := 7000 }
noncomputable def z_lam7_run (r : Bool) (n t lc u v : Nat) (q : CodeAt) : Rslt :=
 ⟨.fin (.ok (.ret (.ref (bif r then v else u)))),n,2,t,6,[],[lamO 7 lc,lcO 215 q],[]⟩
theorem lam7_run {PT : Nat → Option Obj} {w : World} {b r : Bool} {n t lam lc u v : Nat} {q : CodeAt} {om : Om} :
  chk [] (runC PySem.W.Fast.mineEnt1 (vwP PT (W1 b w) n t [lam,lc] (fun _ => [hlpC 133 v u r]) (fun _ => []) om 820 7000) 100 (.call (.ref lam) ⟨[.ref u,.ref v],[]⟩) true tpLr [lamO 7 lc,lcO 215 q]) (z_lam7_run r n t lc u v q) := by
 unfold chk
 cases b <;> cases r <;> kernel_rfl
noncomputable def z_lam8_run (r : Bool) (n t lc u v : Nat) (q : CodeAt) : Rslt :=
 ⟨.fin (.ok (.ret (.ref (bif r then u else v)))),n,2,t,6,[],[lamO 8 lc,lcO 216 q],[]⟩
theorem lam8_run {PT : Nat → Option Obj} {w : World} {b r : Bool} {n t lam lc u v : Nat} {q : CodeAt} {om : Om} :
  chk [] (runC PySem.W.Fast.mineEnt1 (vwP PT (W1 b w) n t [lam,lc] (fun _ => [hlpC 168 u v r]) (fun _ => []) om 820 7000) 100 (.call (.ref lam) ⟨[.ref u,.ref v],[]⟩) true tpLr [lamO 8 lc,lcO 216 q]) (z_lam8_run r n t lc u v q) := by
 unfold chk
 cases b <;> cases r <;> kernel_rfl
noncomputable def lamRp (lam lc : Nat) (l1 l2 : Obj) (u v r : Nat) : Ctr := { lamR lam u v r with pre := [(lam,l1),(lc,l2)] }
theorem lamRp_ok {PT : Nat → Option Obj} {w : World} {lam lc u v x : Nat} {c : Ctr} {l1 l2 : Obj} (h1 : CtrOkP PT w c) (hne : lam ≠ lc) (off : lkP PT w.params lam = none) (off2 : lkP PT w.params lc = none)
  (run : ∀ b n t om,chk [] (runC PySem.W.Fast.mineEnt1 (vwP PT (W1 b w) n t [lam,lc] (fun _ => [c]) (fun _ => []) om 820 7000) 100 (.call (.ref lam) ⟨[.ref u,.ref v],[]⟩) true tpLr [l1,l2]) ⟨.fin (.ok (.ret (.ref x))),n,2,t,6,[],[l1,l2],[]⟩) :
  CtrOkP PT w (lamRp lam lc l1 l2 u v x) := by
 have z := mk_okP (PT := PT) (w := w) (fun _ => ent1_ok) entQ1_eq (code := .call (.ref lam) ⟨[.ref u,.ref v],[]⟩) (L := [lam,lc]) (U := [l1,l2]) (val := fun _ _ => .ref x) (U' := fun _ _ => [l1,l2]) (ks := []) (T := fun _ _ => []) (grow := 2) (toks := 6) (dm := 820) (um := 7000)
  (cs := fun _ _ => [c]) (by simpa using hne) (by
   intro a ha
   revert a
   refine ac ?_ (ac ?_ (an)) <;> assumption) rfl (fun _ _ => rfl) lam_okC (by decide) (by decide) (fun _ _ _ C hC => by
   rw [List.mem_singleton] at hC
   subst hC; exact h1) run
 exact drop_ok z fun n t => rfl
noncomputable def tpRed : List Tk := (cat [l,l,l] (cat tp7 (cat [o 0,o 0,l,.go,l,l,o 0,.go,.go,d 2,d 2,.go,d 2,.go,o 1] (cat tp28 (cat [l,l,l,o 0,.go,.go,o 1,o 1,.go,o 1,.go,o 1,o 1,d 2,o 1,o 1] (cat tp28 (cat [o 1,o 1,.go,o 1,.go,o 1,.go,o 1,.go,o 1,.go,o 1,o 1,d 2,o 1,o 1] (cat tp7 (cat [o 0,d 0,(.ctr 0 [.old 0,.old 1] []),o 0,o 0,.go,o 1,.go,o 1,.go,o 1,o 1,d 2,o 1,o 1] (cat tp7 [o 0,d 0,(.ctr 1 [.old 0,.old 1] []),o 0,o 0,.go,o 1,.go,o 1,.go,o 1,o 1,d 2,o 1,o 1,o 7,.go,o 0]))))))))))
noncomputable def z_red_run (n t eH h0 h1 h2 m2 : Nat) (lo : FuncData) (l2 : Obj) : Rslt :=
 ⟨.fin (.ok (.ret (.ref m2))),n,8,t,21,[],[{ cls := .type "function",data := .func lo },l2,lst [.ref h0,.ref h1,.ref h2] eH],[]⟩
theorem red_run {PT : Nat → Option Obj} {w : World} {n t lam lc H eH h0 h1 h2 m1 m2 : Nat} {lo : FuncData} {l2 : Obj} {om : Om} :
  chk [] (runC PySem.W.Fast.mineEnt1 (vwP PT w n t [lam,lc,H] (fun _ => [lamRp lam lc { cls := .type "function",data := .func lo } l2 h0 h1 m1,lamRp lam lc { cls := .type "function",data := .func lo } l2 m1 h2 m2]) (fun _ => []) om 780 6800) 400 (.call (.ref 205) ⟨[.ref lam,.ref H],[]⟩) true tpRed [{ cls := .type "function",data := .func lo },l2,lst [.ref h0,.ref h1,.ref h2] eH]) (z_red_run n t eH h0 h1 h2 m2 lo l2) := by
 delta chk
 apply w1 (w := w) <;> kernel_rfl
noncomputable def redC (lam lc : Nat) (lo : FuncData) (l2 : Obj) (H eH h0 h1 h2 m2 : Nat) : Ctr :=
 {code := .call (.ref 205) ⟨[.ref lam,.ref H],[]⟩,pre := [(lam,{ cls := .type "function",data := .func lo }),(lc,l2),(H,lst [.ref h0,.ref h1,.ref h2] eH)],val := fun _ _ => .ref m2,upd := fun _ _ => [],news := fun _ _ => [],grow := 8,toks := 21,dm := 780,um := 6800 }
theorem red_okC {lam H : Nat} : okCode (.call (.ref 205) ⟨[.ref lam,.ref H],[]⟩) = true := by kernel_rfl
theorem red_ok {PT : Nat → Option Obj} {w : World} {lam lc H eH h0 h1 h2 m1 m2 : Nat} {lo : FuncData} {l2 : Obj} (nd : [lam,lc,H].Nodup) (off : ∀ a ∈ [lam,lc,H],lkP PT w.params a = none)
  (c1 : CtrOkP PT w (lamRp lam lc { cls := .type "function",data := .func lo } l2 h0 h1 m1)) (c2 : CtrOkP PT w (lamRp lam lc { cls := .type "function",data := .func lo } l2 m1 h2 m2)) : CtrOkP PT w (redC lam lc lo l2 H eH h0 h1 h2 m2) := by
 have z := mk_okP (PT := PT) (w := w) (fun _ => ent1_ok) entQ1_eq (code := .call (.ref 205) ⟨[.ref lam,.ref H],[]⟩) (L := [lam,lc,H]) (U := [{ cls := .type "function",data := .func lo },l2,lst [.ref h0,.ref h1,.ref h2] eH]) (val := fun _ _ => .ref m2) (U' := fun _ _ => [{ cls := .type "function",data := .func lo },l2,lst [.ref h0,.ref h1,.ref h2] eH]) (ks := []) (T := fun _ _ => []) (grow := 8) (toks := 21) (dm := 780) (um := 6800)
  (cs := fun _ _ => [lamRp lam lc { cls := .type "function",data := .func lo } l2 h0 h1 m1,lamRp lam lc { cls := .type "function",data := .func lo } l2 m1 h2 m2]) nd off rfl (fun _ _ => rfl) red_okC (by decide) (by decide) (fun _ _ _ C hC => by
   revert C
   refine ac ?_ (ac ?_ (an)) <;> assumption) (fun b n t om => red_run)
 exact drop_ok z fun n t => rfl
end Mine.G
end
section
namespace Mine.G
noncomputable def nRanked : Str := Str.ofString "ranked"
noncomputable def nLast : Str := Str.ofString "last"
noncomputable def nLeast : Str := Str.ofString "least"
noncomputable def lawFr3 (P : Params) (n t dq td L tr x2 x0 : Nat) : Obj := { cls := .type "frame",data := .dict #[de (PyData.keyHash P nScript) nScript t (.ref 280),de (PyData.keyHash P nHeaps) nHeaps (t + 141) (.ref (n + 108)),de (PyData.keyHash P nDue) nDue td (.ref dq),
 de (PyData.keyHash P nRanked) nRanked tr (.ref L),de (PyData.keyHash P nLast) nLast (tr + 29) (.ref x2),de (PyData.keyHash P nLeast) nLeast (tr + 58) (.ref x0)] 6 }
noncomputable def t63 (c : Nat) : List Value := [rawInt 26,rawInt 19,.ref c]
noncomputable def t70 (c : Nat) : List Value := [rawInt 29,rawInt 32,.ref c]
noncomputable def lkT (T : Sl) (p63 p70 : List Value) (q63 q70 : Nat → List Value) : XC := { lookX T.a T.dd T.ea T.xs T.g1 T.t1 T.f T.u T.e1 p63 p70 q63 q70 (txt T.ks) (T.f + sumLen T.ks) with pre := [(63,tb p63),(70,tb p70)] }
noncomputable abbrev lkL (T : Sl) (om : Om) : XC := lkT T (t63 (om 0 7)) (t70 (om 0 8)) (fun _ => t63 (om 0 7)) (fun _ => t70 (om 0 8))
noncomputable def xsC (T0 T1 T2 : Sl) (om : Om) : List XC := [lkT T0 [] [] t63 t70,lkL T1 om,lkL T2 om,lkL T2 om,lkL T0 om]
noncomputable def csC (n n3 t3 eH : Nat) (S0 S1 S2 T0 T2 : Sl) : List Ctr :=
 [redC (n3 + 6) (n3 + 5) (lamFn (lamE 7) (n3 + 5)) (lcO 215 ⟨t3 + 1,n3,n3 + 1,n3 + 2,n3 + 3,n3 + 4⟩) (n + 108) eH S0.a S1.a S2.a T2.a,
  redC (n3 + 21) (n3 + 20) (lamFn (lamE 8) (n3 + 20)) (lcO 216 ⟨t3 + 30,n3 + 15,n3 + 16,n3 + 17,n3 + 18,n3 + 19⟩) (n + 108) eH S0.a S1.a S2.a T0.a]
noncomputable def tpLawC (c : Bool) : List Tk := match c with
 | true => (cat tp87 (cat [(.ctr 0 [.own 6,.own 5,.old 1] [])] (cat tp87 (cat [(.ctr 1 [.own 21,.own 20,.old 1] []),d 0,d 0,d 0,d 0,d 0,d 2,o 30,d 2,.go,d 2,.go,o 30,d 2,o 30,o 31,o 31,.go,o 31,.go,o 32,.go,.go,o 32,.go,o 32,.go,o 32,o 32,o 31,o 32,o 32,o 34,o 34,l,o 34,l,(.xctr 0 [.old 5,.old 6] [.old 5,.old 6])] (cat tp46 (cat [(.xctr 1 [.old 5,.old 6] [.old 5,.old 6])] (cat tp46 (cat [(.xctr 2 [.old 5,.old 6] [.old 5,.old 6])] (cat tp46 (cat [(.xctr 3 [.old 5,.old 6] [.old 5,.old 6])] (cat tp46 (cat [(.xctr 4 [.old 5,.old 6] [.old 5,.old 6])] (cat tp32 (cat [o 32,o 32,o 36,o 34,o 34,o 34,d 0,d 0] (cat tp69 (cat [d 4,d 0] (cat tp69 [d 4,d 4,o 37,d 4,.go,d 4,.go,o 37,d 4,o 37,o 33,o 38,o 33,.go,o 33,.stop])))))))))))))))))
 | false => (cat tp87 (cat [(.ctr 0 [.own 6,.own 5,.old 1] [])] (cat tp87 (cat [(.ctr 1 [.own 21,.own 20,.old 1] []),d 0,d 0,d 0,d 0,d 0,d 2,o 30,d 2,.go,d 2,.go,o 30,d 2,o 30,o 31,o 31,.go,o 31,.go,o 32,.go,o 32,o 32,.go,o 32,.go,o 32,.go,o 32,.go,o 32,.go,o 32,o 32,o 31,o 32,o 32,o 34,o 34,l,o 34,l,(.xctr 0 [.old 5,.old 6] [.old 5,.old 6])] (cat tp46 (cat [(.xctr 1 [.old 5,.old 6] [.old 5,.old 6])] (cat tp46 (cat [(.xctr 2 [.old 5,.old 6] [.old 5,.old 6])] (cat tp46 (cat [(.xctr 3 [.old 5,.old 6] [.old 5,.old 6])] (cat tp46 (cat [(.xctr 4 [.old 5,.old 6] [.old 5,.old 6])] (cat tp32 (cat [o 32,o 32,o 36,o 34,o 34,o 34,d 0,d 0] (cat tp69 (cat [d 4,d 0] (cat tp69 [d 4,d 4,o 37,d 4,.go,d 4,.go,o 37,d 4,o 37,o 33,o 38,o 33,.go,o 33,.stop])))))))))))))))))
noncomputable def lawRC (cc : Bool) (R : RunR) (w : World) (n t : Nat) (PT3 : Nat → Option Obj) (n3 t3 eH eL : Nat) (S0 S1 S2 T0 T1 T2 : Sl) (D td L lc6 q0 q1 q2 : Nat) (om3 : Om) : RunR :=
 runK PySem.W.Fast.mineEnt1 (vwP PT3 w n3 t3 [n,n + 108,L,276,D,63,70] (fun _ => csC n n3 t3 eH S0 S1 S2 T0 T2) (xsC T0 T1 T2) om3 740 6500) 500 R (.ok (.ret .none)) (tpLawC cc)
  [lawFr2 w.params n t D td,hsO S0 S1 S2 eH,lst [.ref T0.a,.ref T1.a,.ref T2.a] eL,tb [.int 214 0,.int 42 0,.ref lc6],lst [.ref q0,.ref q1,.ref q2] 3,tb [],tb []]
noncomputable def rsC (P : Params) (n t n3 t3 eH eL : Nat) (S0 S1 S2 T0 T1 T2 : Sl) (D td La lc6 q0 q1 q2 : Nat) (om3 : Om) : Rslt :=
 ⟨.other,om3 4 0,4,om3 4 1,2,[some (n3 + 33,lst [.ref (om3 0 2),.ref (om3 1 2),.ref (om3 2 2),.ref (om3 3 2),.ref (om3 4 2)] 5),some (om3 4 0 + 3,lst [.ref q0,.ref q1,.ref q2,.ref q2,.ref q0] 0)],
    [lawFr3 P n t D td La t3 T2.a T0.a,hsO S0 S1 S2 eH,lst [.ref T0.a,.ref T1.a,.ref T2.a] eL,tb [.int 214 0,.int 42 0,.ref lc6,.int 215 0,.int 18 0,.ref (n3 + 5),.int 216 0,.int 19 0,.ref (n3 + 20)],lst [.ref q0,.ref q1,.ref q2] 3,tb (t63 (om3 0 7)),tb (t70 (om3 0 8))],
    (lkT T0 [] [] t63 t70).news (om3 0) ++ ((lkL T1 om3).news (om3 1) ++ ((lkL T2 om3).news (om3 2) ++ ((lkL T2 om3).news (om3 3) ++ (lkL T0 om3).news (om3 4))))⟩
theorem lawC {PT PT2 PT3 : Nat → Option Obj} {w : World} {cc : Bool} {n t es n2 t2 n3 t3 eH eR eF eL : Nat} {sv nv : List Value} {S0 S1 S2 T0 T1 T2 : Sl} {a b c : Int} {D td lc6 q0 q1 q2 : Nat} {om om2 om3 : Om} (hc : cc = cw w) :
  chkS [33,38] (lawRC cc (lawRB cc PT w n t es sv nv om PT2 n2 t2 eH eR eF S0 S1 S2 T0 T1 T2 a b c om2) w n t PT3 n3 t3 eH eL S0 S1 S2 T0 T1 T2 D td (om2 4 0 + 74) lc6 q0 q1 q2 om3)
   (.builtin "list.__eq__" ⟨[.ref (n3 + 33),.ref (om3 4 0 + 3)],[]⟩) 1
   (rsC w.params n t n3 t3 eH eL S0 S1 S2 T0 T1 T2 D td (om2 4 0 + 74) lc6 q0 q1 q2 om3) := by
 delta chkS
 revert hc
 apply w4 (w := w)
 intro b c hc
 cases hc.trans cw_W
 cases b <;> cases cc <;> kernel_rfl
end Mine.G
end
section
open PySem.Calls PySem.SeqAt
namespace Mine.G
theorem eqC {A : Around} {s : Shared} {b : Bool} {x y : Value} {xs ys : List Value} (h : EqAt A s x y b) (t : ∀ j (h1 : j < xs.length) (h2 : j < ys.length),EqAt A s xs[j] ys[j] b) : ∀ j (h1 : j < (x :: xs).length) (h2 : j < (y :: ys).length),EqAt A s (x :: xs)[j] (y :: ys)[j] b
 | 0,_,_ => h
 | j + 1,h1,h2 => t j (Nat.lt_of_succ_lt_succ h1) (Nat.lt_of_succ_lt_succ h2)
theorem eqN {A : Around} {s : Shared} {b : Bool} {ys : List Value} : ∀ j (h1 : j < ([] : List Value).length) (h2 : j < ys.length),EqAt A s ([] : List Value)[j] ys[j] b := fun _ h1 => absurd h1 (Nat.not_lt_zero _)
section
variable {A : Around} {s : Shared}
theorem eq_lists {l b e1 e2 : Nat} {xs ys : List Value} (hu : A.units < cLine) (hl : s.heap.get? l = some (lst xs e1)) (hb : s.heap.get? b = some (lst ys e2)) (hsz : xs.length = ys.length)
  (he : ∀ j (h1 : j < xs.length) (h2 : j < ys.length),EqAt A.in1 s xs[j] ys[j] true) : EqAt A s (.ref l) (.ref b) true := by
 by_cases h : l = b
 ·subst h; exact EqAt.same _
 ·have z := RcAt.lists (A := A) (e := fun _ => true) (items := xs.toArray) (items2 := ys.toArray) ⟨_,hl,rfl,e1,rfl⟩ ⟨_,hb,rfl,e2,rfl⟩ (by simpa using hsz) hu (fun j h1 h2 => by simpa using he j (by simpa using h1) (by simpa using h2))
  rw [show ((List.range xs.toArray.size).all fun _ => true) = true by simp] at z
  exact EqAt.of_refs h z
theorem eq_int {a : Int} {t u : Nat} : EqAt A s (.int a t) (.int a u) true := by
 have z := EqAt.int_int (A := A) (s := s) a t a u
 rwa [beq_self_eq_true] at z
theorem eq_str {a : Str} {t u : Nat} : EqAt A s (.str a t) (.str a u) true := by
 have z := EqAt.str_str (A := A) (s := s) a t a u
 rwa [beq_self_eq_true] at z
theorem eq_row {p1 p2 r1 r2 e1 e2 f1 f2 a b c a' b' c' m : Nat} {T : Str} {g : Int} {xs ys ks : List Nat} (hu : A.units + 10 < cLine) (hr1 : s.heap.get? r1 = some (lst [.ref p1,.int (.ofNat m) a,.str T b,.int g c] e1)) (hr2 : s.heap.get? r2 = some (lst [.ref p2,.int (.ofNat m) a',.str T b',.int g c'] e2))
  (hp1 : s.heap.get? p1 = some (lst (refs xs) f1)) (hp2 : s.heap.get? p2 = some (lst (refs ys) f2)) (X : Pcs s.heap xs ks) (Y : Pcs s.heap ys ks) : EqAt A s (.ref r1) (.ref r2) true := by
 have i1 : A.in1.units = A.units + 1 := rfl
 have i2 : A.in1.in1.units = A.units + 1 + 1 := rfl
 have i3 : A.in1.in1.in1.units = A.units + 1 + 1 + 1 := rfl
 have lx : xs.length = ks.length := All2.length X
 have ly : ys.length = ks.length := All2.length Y
 refine eq_lists (by lia) hr1 hr2 rfl (eqC ?_ (eqC eq_int (eqC eq_str (eqC eq_int eqN))))
 refine eq_lists (by lia) hp1 hp2 (by simp [refs,lx,ly]) fun i g1 g2 => ?_
 simp only [refs,List.length_map] at g1 g2
 obtain ⟨k,hk,px⟩ := All2.at_ X i xs[i] (List.getElem?_eq_getElem g1)
 obtain ⟨k',hk',py⟩ := All2.at_ Y i ys[i] (List.getElem?_eq_getElem g2)
 rw [hk] at hk'
 cases hk'
 have z := piece_eq (A := A.in1.in1) (x := xs[i]) (y := ys[i]) (by lia) px py
 rw [beq_self_eq_true] at z
 simpa [refs] using z
theorem eq_code {w : World} {l b e1 e2 : Nat} {xs ys : List Value} (hl : s.heap.get? l = some (lst xs e1)) (hb : s.heap.get? b = some (lst ys e2)) (hsz : xs.length = ys.length)
  (he : ∀ j (h1 : j < xs.length) (h2 : j < ys.length),EqAt A.in1 s xs[j] ys[j] true) : codeAny (model prg w) A (.builtin "list.__eq__" ⟨[.ref l,.ref b],[]⟩) (fun r s' => r = .ok (.ret (.bool true)) ∧ s' = s) s := by
 refine code_meets (show plainId "list.__eq__" = true by decide +kernel) F.entry_list_eq (list_eqAt l b xs.toArray ys.toArray e1 e2 none none #[] #[] (by simpa using hsz) fun _ => true) ⟨hl,hb,fun j h1 h2 => by simpa using he j (by simpa using h1) (by simpa using h2),?_⟩
 rw [show ((List.range xs.toArray.size).all fun _ => true) = true by simp]
 exact ⟨rfl,rfl⟩
end
end Mine.G
end
section
namespace Mine.G
theorem lawD {PT PT2 PT3 PT4 : Nat → Option Obj} {w : World} {cc : Bool} {n t es n2 t2 n3 t3 n4 t4 eH eR eF eL : Nat} {sv nv : List Value} {S0 S1 S2 T0 T1 T2 : Sl} {a b c : Int} {D td lc6 q0 q1 q2 : Nat} {om om2 om3 om4 : Om} (hc : cc = cw w) :
  chk [] (runK PySem.W.Fast.mineEnt1 (vwP PT4 w n4 t4 [] (fun _ => []) (fun _ => []) om4 740 6500) 20 (lawRC cc (lawRB cc PT w n t es sv nv om PT2 n2 t2 eH eR eF S0 S1 S2 T0 T1 T2 a b c om2) w n t PT3 n3 t3 eH eL S0 S1 S2 T0 T1 T2 D td (om2 4 0 + 74) lc6 q0 q1 q2 om3) (.ok (.ret (.bool true))) [] [])
   ⟨.fin (.ok (.ret (.bool true))),n4,0,t4,0,[],[],[]⟩ := by
 delta chk
 revert hc
 apply w4 (w := w)
 intro b c hc
 cases hc.trans cw_W
 cases b <;> cases cc <;> kernel_rfl
end Mine.G
end
section
namespace Mine.G
theorem xc_mono {PT PT' : Nat → Option Obj} {w : World} {C : XC} (h : XOkP PT w C) (m : ∀ a o,PT a = some o → PT' a = some o) : XOkP PT' w C := by
 intro A s hd hu hh hl hp
 refine h A s hd hu hh (fun a o e => hl a o ?_) hp
 have e : lkP PT w.params a = some o := e
 show lkP PT' w.params a = some o
 unfold lkP at e ⊢
 cases q : Nat.blt a 281 with
 | true => rw [q] at e; exact e
 | false => rw [q] at e; exact m a o e
structure Acc (PT PT' : Nat → Option Obj) (S : Sl) : Prop where
 ok : SlOk PT PT' S
 dct : PT' S.dd = some (dct S.g1 S.t1 S.f S.u S.e1)
 lowd : 281 ≤ S.dd
 noned : PT S.dd = none
 fb : 0 ≤ S.f ∧ S.f ≤ 4
 len14 : S.ks.length ≤ 14
 k6 : ∀ k ∈ S.ks,k < 6
theorem sumLen_nn : ∀ ks,0 ≤ sumLen ks
 | [] => Int.le_refl 0
 | k :: ks => by
  have := sumLen_nn ks
  show 0 ≤ (pcLen k : Int) + sumLen ks
  lia
theorem sumLen_le : ∀ ks,(∀ k ∈ ks,k < 6) → sumLen ks ≤ 200 * ks.length
 | [],_ => by show (0 : Int) ≤ _; simp
 | k :: ks,h => by
  have := sumLen_le ks fun k hk => h k (List.mem_cons_of_mem _ hk)
  have h2 := pcLen_lt k (h k (List.mem_cons_self ..))
  show (pcLen k : Int) + sumLen ks ≤ 200 * ((k :: ks).length : Nat)
  have e : pcLen k = (tabA k).length + (tabB k).length := rfl
  simp only [List.length_cons]
  lia
section
variable {PT PT' : Nat → Option Obj} {w : World} {T : Sl}
theorem lk_told (m : ∀ a o,PT a = some o → PT' a = some o) (X : Acc PT PT' T) {p63 p70 : List Value} {q63 q70 : Nat → List Value}
  (H70 : XOkP PT w (strX T.a T.dd T.ea T.xs p70 (fun ω => q70 (ω 3)) (txt T.ks))) (H63 : XOkP PT w (lenX T.a T.dd T.ea T.xs T.g1 T.t1 T.f T.u T.e1 p63 (fun ω => q63 (ω 3)) (T.f + sumLen T.ks))) : XOkP PT' w (lkT T p63 p70 q63 q70) := by
 have hl := All2.length X.ok.pcs
 have h14 := X.len14
 have s1 := sumLen_nn T.ks
 have s2 := sumLen_le T.ks X.k6
 have z := look_ok (by lia) X.ok.low.1 X.lowd (lkP_low X.ok.low.1 X.ok.none) (lkP_low X.lowd X.noned) (by have := X.fb; lia) (by have := X.fb; lia) H70 H63
 refine xc_told [(63,tb p63),(70,tb p70)] (xc_mono z m) ?_
 intro p hp
 revert p
 refine ac ?_ (ac ?_ (ac ?_ (ac ?_ (an))))
 ·exact .inr (lkP_at X.ok.low.1 X.ok.inst)
 ·exact .inr (lkP_at X.lowd X.dct)
 ·exact .inl (by simp)
 ·exact .inl (by simp)
theorem lkF_ok (m : ∀ a o,PT a = some o → PT' a = some o) (X : Acc PT PT' T) : XOkP PT' w (lkT T [] [] t63 t70) := by
 have h14 := X.len14
 exact lk_told m X (str_ok X.ok.pcs (lkP_low X.ok.low.1 X.ok.none) (by lia) fun hl hc h1 h2 hQ => k70_first hl hc h1 h2 hQ)
  (len_ok X.ok.pcs (lkP_low X.ok.low.1 X.ok.none) (lkP_low X.lowd X.noned) fun hl hc h1 h2 hQ => k63_first hl hc h1 h2 hQ)
theorem lkL_ok (m : ∀ a o,PT a = some o → PT' a = some o) (X : Acc PT PT' T) {om : Om} : XOkP PT' w (lkL T om) := by
 have h14 := X.len14
 exact lk_told m X (str_ok (ps2 := fun _ => t70 (om 0 8)) X.ok.pcs (lkP_low X.ok.low.1 X.ok.none) (by lia) fun hl hc h1 h2 hQ => k70_later hl hc h1 h2 fun v => hQ v 0 _ _ (fun _ _ _ h => h) (Nat.le_refl _) h2)
  (len_ok (ps2 := fun _ => t63 (om 0 7)) X.ok.pcs (lkP_low X.ok.low.1 X.ok.none) (lkP_low X.lowd X.noned) fun hl hc h1 h2 hQ => k63_later hl hc h1 h2 fun v => hQ v 0 _ _ (fun _ _ _ h => h) (Nat.le_refl _) h2)
end
structure Told (PT PT' : Nat → Option Obj) (S : Nat → Sl) : Prop where
 tr : Trio PT PT' (S 0) (S 1) (S 2)
 acc : ∀ i,i < 3 → Acc PT PT' (S i)
section
variable {PT PT' : Nat → Option Obj} {w : World} {S : Nat → Sl}
theorem Told.ne (I : Told PT PT' S) {i j : Nat} (hi : i < 3) (hj : j < 3) (h : i ≠ j) : (S i).a ≠ (S j).a := by
 have h1 := I.tr.ne01
 have h2 := I.tr.ne12
 have h3 := I.tr.ne20
 match i,j,hi,hj with
 | 0,1,_,_ => exact h1
 | 0,2,_,_ => exact h3.symm
 | 1,2,_,_ => exact h2
 | 1,0,_,_ => exact h1.symm
 | 2,0,_,_ => exact h3
 | 2,1,_,_ => exact h2.symm
 | 0,0,_,_ => exact absurd rfl h
 | 1,1,_,_ => exact absurd rfl h
 | 2,2,_,_ => exact absurd rfl h
noncomputable abbrev sP (S : Nat → Sl) : Int := sgn (S 0).ks (S 1).ks
noncomputable abbrev sQ (S : Nat → Sl) : Int := sgn (S 0).ks (S 2).ks
noncomputable abbrev sR (S : Nat → Sl) : Int := sgn (S 1).ks (S 2).ks
noncomputable abbrev sG (S : Nat → Sl) (i j : Nat) : Int := sgI (sP S) (sQ S) (sR S) i j
theorem sG_eq {i j : Nat} (hi : i < 3) (hj : j < 3) (h : i ≠ j) : sG S i j = sgn (S i).ks (S j).ks := by
 match i,j,hi,hj with
 | 0,1,_,_ => rfl
 | 0,2,_,_ => rfl
 | 1,2,_,_ => rfl
 | 1,0,_,_ => exact (sgn_anti _ _).symm
 | 2,0,_,_ => exact (sgn_anti _ _).symm
 | 2,1,_,_ => exact (sgn_anti _ _).symm
 | 0,0,_,_ => exact absurd rfl h
 | 1,1,_,_ => exact absurd rfl h
 | 2,2,_,_ => exact absurd rfl h
theorem hlp_told {S T : Sl} {f : Nat} {r : Bool} (m : ∀ a o,PT a = some o → PT' a = some o) (hS : SlOk PT PT' S) (hT : SlOk PT PT' T) (base : CtrOkP PT w (helpC f S.a T.a S.dd S.ea T.dd T.ea S.xs T.xs r)) : CtrOkP PT' w (hlpC f S.a T.a r) := by
 refine ctr_told [] (ctr_mono base m) ?_
 intro p hp
 revert p
 refine ac ?_ (ac ?_ (an))
 ·exact .inr (lkP_at hS.low.1 hS.inst)
 ·exact .inr (lkP_at hT.low.1 hT.inst)
theorem Told.h147 (I : Told PT PT' S) {i j : Nat} (hi : i < 3) (hj : j < 3) (h : i ≠ j) : CtrOkP PT' w (hlpC 147 (S i).a (S j).a (decide (sG S i j > 0))) := by
 rw [sG_eq hi hj h]
 have X := (I.acc i hi).ok
 have Y := (I.acc j hj).ok
 exact hlp_told I.tr.m X Y (help_147 X.pcs Y.pcs (I.ne hi hj h) (lkP_low X.low.1 X.none) (lkP_low Y.low.1 Y.none))
theorem Told.h189 (I : Told PT PT' S) {i j : Nat} (hi : i < 3) (hj : j < 3) (h : i ≠ j) : CtrOkP PT' w (hlpC 189 (S i).a (S j).a (decide (sG S i j < 0))) := by
 rw [sG_eq hi hj h]
 have X := (I.acc i hi).ok
 have Y := (I.acc j hj).ok
 exact hlp_told I.tr.m X Y (help_189 X.pcs Y.pcs (I.ne hi hj h) (lkP_low X.low.1 X.none) (lkP_low Y.low.1 Y.none))
theorem Told.h133 (I : Told PT PT' S) {i j : Nat} (hi : i < 3) (hj : j < 3) (h : i ≠ j) : CtrOkP PT' w (hlpC 133 (S i).a (S j).a (decide (sG S i j ≥ 0))) := by
 rw [sG_eq hi hj h]
 have X := (I.acc i hi).ok
 have Y := (I.acc j hj).ok
 exact hlp_told I.tr.m X Y (help_133 X.pcs Y.pcs (I.ne hi hj h) (lkP_low X.low.1 X.none) (lkP_low Y.low.1 Y.none))
theorem Told.h168 (I : Told PT PT' S) {i j : Nat} (hi : i < 3) (hj : j < 3) (h : i ≠ j) : CtrOkP PT' w (hlpC 168 (S i).a (S j).a (decide (sG S i j ≤ 0))) := by
 rw [sG_eq hi hj h]
 have X := (I.acc i hi).ok
 have Y := (I.acc j hj).ok
 exact hlp_told I.tr.m X Y (help_168 X.pcs Y.pcs (I.ne hi hj h) (lkP_low X.low.1 X.none) (lkP_low Y.low.1 Y.none))
theorem Told.lam6 (I : Told PT PT' S) {i j lam lc : Nat} {q : CodeAt} (hi : i < 3) (hj : j < 3) (h : i ≠ j) (hne : lam ≠ lc) (off : lkP PT' w.params lam = none) (off2 : lkP PT' w.params lc = none) : CtrOkP PT' w (lamCp lam lc q (S i).a (S j).a (sG S i j)) := by
 have z := lamCp_ok (q := q) (I.h147 (w := w) hi hj h) (I.h189 (w := w) hi hj h) hne off off2
 have e : bz (decide (sG S i j > 0)) - bz (decide (sG S i j < 0)) = sG S i j := by
  rw [sG_eq hi hj h]
  rcases sgn_cases (S i).ks (S j).ks with h | h | h <;> rw [h] <;> rfl
 rw [e] at z
 exact z
theorem Told.lam7 (I : Told PT PT' S) {i j lam lc : Nat} {q : CodeAt} (hi : i < 3) (hj : j < 3) (h : i ≠ j) (hne : lam ≠ lc) (off : lkP PT' w.params lam = none) (off2 : lkP PT' w.params lc = none) : CtrOkP PT' w (lamRp lam lc (lamO 7 lc) (lcO 215 q) (S i).a (S j).a (S (stepL (sP S) (sQ S) (sR S) i j)).a) := by
 have e : (S (stepL (sP S) (sQ S) (sR S) i j)).a = bif decide (sG S j i ≥ 0) then (S j).a else (S i).a := by
  unfold stepL
  cases decide (sG S j i ≥ 0) <;> rfl
 rw [e]
 exact lamRp_ok (I.h133 (w := w) hj hi h.symm) hne off off2 fun b n t om => lam7_run
theorem Told.lam8 (I : Told PT PT' S) {i j lam lc : Nat} {q : CodeAt} (hi : i < 3) (hj : j < 3) (h : i ≠ j) (hne : lam ≠ lc) (off : lkP PT' w.params lam = none) (off2 : lkP PT' w.params lc = none) : CtrOkP PT' w (lamRp lam lc (lamO 8 lc) (lcO 216 q) (S i).a (S j).a (S (stepR (sP S) (sQ S) (sR S) i j)).a) := by
 have e : (S (stepR (sP S) (sQ S) (sR S) i j)).a = bif decide (sG S i j ≤ 0) then (S i).a else (S j).a := by
  unfold stepR
  cases decide (sG S i j ≤ 0) <;> rfl
 rw [e]
 exact lamRp_ok (I.h168 (w := w) hi hj h) hne off off2 fun b n t om => lam8_run
theorem stepL_01 {p q r : Int} : stepL p q r 0 1 = 0 ∨ stepL p q r 0 1 = 1 := by
 unfold stepL
 cases decide (sgI p q r 1 0 ≥ 0) <;> simp
theorem stepR_01 {p q r : Int} : stepR p q r 0 1 = 0 ∨ stepR p q r 0 1 = 1 := by
 unfold stepR
 cases decide (sgI p q r 0 1 ≤ 0) <;> simp
theorem Told.red7 (I : Told PT PT' S) {lam lc H eH : Nat} {q : CodeAt} {c : Nat} (hc : (ordOf (sP S) (sQ S) (sR S))[2]? = some c) (nd : [lam,lc,H].Nodup) (off : ∀ a ∈ [lam,lc,H],lkP PT' w.params a = none) :
  CtrOkP PT' w (redC lam lc (lamFn (lamE 7) lc) (lcO 215 q) H eH (S 0).a (S 1).a (S 2).a (S c).a) := by
 have R := (red_law (sgn_weak (S 0).ks (S 1).ks (S 2).ks)).1
 rw [hc] at R
 have hne : lam ≠ lc := fun e => by subst e; simp at nd
 have z := red_ok (PT := PT') (w := w) (eH := eH) nd off (I.lam7 (w := w) (q := q) (i := 0) (j := 1) (by lia) (by lia) (by lia) hne (off _ (by simp)) (off _ (by simp)))
  (I.lam7 (w := w) (q := q) (i := stepL (sP S) (sQ S) (sR S) 0 1) (j := 2) (by rcases stepL_01 (p := sP S) (q := sQ S) (r := sR S) with h | h <;> lia) (by lia) (by rcases stepL_01 (p := sP S) (q := sQ S) (r := sR S) with h | h <;> lia) hne (off _ (by simp)) (off _ (by simp)))
 rw [← Option.some.inj R] at z
 exact z
theorem Told.red8 (I : Told PT PT' S) {lam lc H eH : Nat} {q : CodeAt} {c : Nat} (hc : (ordOf (sP S) (sQ S) (sR S))[0]? = some c) (nd : [lam,lc,H].Nodup) (off : ∀ a ∈ [lam,lc,H],lkP PT' w.params a = none) :
  CtrOkP PT' w (redC lam lc (lamFn (lamE 8) lc) (lcO 216 q) H eH (S 0).a (S 1).a (S 2).a (S c).a) := by
 have R := (red_law (sgn_weak (S 0).ks (S 1).ks (S 2).ks)).2
 rw [hc] at R
 have hne : lam ≠ lc := fun e => by subst e; simp at nd
 have z := red_ok (PT := PT') (w := w) (eH := eH) nd off (I.lam8 (w := w) (q := q) (i := 0) (j := 1) (by lia) (by lia) (by lia) hne (off _ (by simp)) (off _ (by simp)))
  (I.lam8 (w := w) (q := q) (i := stepR (sP S) (sQ S) (sR S) 0 1) (j := 2) (by rcases stepR_01 (p := sP S) (q := sQ S) (r := sR S) with h | h <;> lia) (by lia) (by rcases stepR_01 (p := sP S) (q := sQ S) (r := sR S) with h | h <;> lia) hne (off _ (by simp)) (off _ (by simp)))
 rw [← Option.some.inj R] at z
 exact z
end
end Mine.G
end
section
open PySem.Calls PySem.SeqAt
namespace Mine.G
theorem lkP_bare {P : Params} {a : Nat} {o : Obj} (h : lkP (fun _ => none) P a = some o) : lkQ P a = some o := by
 unfold lkP at h
 cases q : Nat.blt a 281 with
 | true => rw [q] at h; exact h
 | false => rw [q] at h; cases h
section
variable {w : World} {A : Around} {Q : Result → Shared → Prop} {E : Value → Shared → Prop}
theorem st_d {R3 : RunR} {c : Code} {κ : List Frm} {k₀ : Result → Sem Result} {M : Mem} {s : Shared} (hR : R3 = some (.at_ c κ k₀,M))
  (hD : ∀ n4 t4 om4,chk [] (runK PySem.W.Fast.mineEnt1 (vwP (fun _ => none) w n4 t4 [] (fun _ => []) (fun _ => []) om4 740 6500) 20 R3 (.ok (.ret (.bool true))) [] []) ⟨.fin (.ok (.ret (.bool true))),n4,0,t4,0,[],[],[]⟩)
  (hd : A.depth ≤ 740) (hu : A.units ≤ 6500) (hh : A.handled = none) (hk : kOk κ) (lit : ∀ a o,lkQ w.params a = some o → s.heap.get? a = some o) (q : ∀ s',Mv [] s s' → Q (.ok (.ret (.bool true))) s') : en prg w A Q E k₀ κ (.ok (.ret (.bool true))) s := by
 subst hR
 have S : StartP (fun _ => none) w s.heap.objs.size s.toks [] [] s := startP_of (by simp) (fun b hb => by cases hb) rfl (fun a o h => lit a o (lkP_bare h)) fun p hp => by simp at hp
 exact stop_outP ent1_ok entQ1_eq S (fun _ => an) (fun _ => an) hd hu hh hk (hD _ _) fun om s' B => q s' ⟨B.grow,fun b o h _ => B.keep b o h (by simp),B.bare,B.os⟩
noncomputable def TabAt (s : Shared) (P : Nat) : Prop := ∃ ps,s.heap.get? P = some (tb ps)
noncomputable def DueAt (h : Heap) (T : Sl) (q : Nat) : Prop := ∃ p ps a b c,h.get? q = some (lst [.ref p,.int (.ofNat T.ks.length) a,.str (txt T.ks) b,.int (T.f + sumLen T.ks) c] 0) ∧ h.get? p = some (lst (refs ps) T.ks.length) ∧ Pcs h ps T.ks
theorem DueAt.mono {h h' : Heap} {T : Sl} {q : Nat} (D : DueAt h T q) (k : ∀ (b : Nat) o,h.get? b = some o → (o.cls = .type "list" ∨ o.cls = .type "tuple") → h'.get? b = some o) : DueAt h' T q := by
 obtain ⟨p,ps,a,b,c,h1,h2,h3⟩ := D
 exact ⟨p,ps,a,b,c,k _ _ h1 (.inl rfl),k _ _ h2 (.inl rfl),h3.mono fun x k' t e => k _ _ e (.inr rfl)⟩
theorem eq_look {s : Shared} {T : Sl} {p r q f1 e1 a b c : Nat} (hu : A.units + 10 < cLine) (X : Pcs s.heap T.xs T.ks) (hp : s.heap.get? p = some (lst (refs T.xs) f1)) (hr : s.heap.get? r = some (lst [.ref p,.int (refs T.xs).length a,.str (txt T.ks) b,.int (T.f + sumLen T.ks) c] e1)) (D : DueAt s.heap T q) : EqAt A s (.ref r) (.ref q) true := by
 obtain ⟨p',ps,a',b',c',h1,h2,h3⟩ := D
 have hl : (refs T.xs).length = T.ks.length := by
  have : T.xs.length = T.ks.length := All2.length X
  simp [refs,this]
 rw [hl] at hr
 exact eq_row hu hr h1 hp h2 X h3
theorem st_c {PT PT' : Nat → Option Obj} {S : Nat → Sl} (I : Told PT PT' S) {R2 : RunR} {c0 : Code} {κ : List Frm} {k₀ : Result → Sem Result} {M : Mem} {s : Shared} {cc : Bool} {n t D td La lc6 q0 q1 q2 eH eL a b c : Nat}
  (ho : ordOf (sP S) (sQ S) (sR S) = [a,b,c]) (ha : a < 3) (hb : b < 3) (hc : c < 3) (hR : R2 = some (.at_ c0 κ k₀,M))
  (hC : ∀ n3 t3 om3,chkS [33,38] (lawRC cc R2 w n t PT' n3 t3 eH eL (S 0) (S 1) (S 2) (S a) (S b) (S c) D td La lc6 q0 q1 q2 om3) (.builtin "list.__eq__" ⟨[.ref (n3 + 33),.ref (om3 4 0 + 3)],[]⟩) 1
   (rsC w.params n t n3 t3 eH eL (S 0) (S 1) (S 2) (S a) (S b) (S c) D td La lc6 q0 q1 q2 om3))
  (hD : ∀ n3 t3 om3 n4 t4 om4,chk [] (runK PySem.W.Fast.mineEnt1 (vwP (fun _ => none) w n4 t4 [] (fun _ => []) (fun _ => []) om4 740 6500) 20 (lawRC cc R2 w n t PT' n3 t3 eH eL (S 0) (S 1) (S 2) (S a) (S b) (S c) D td La lc6 q0 q1 q2 om3) (.ok (.ret (.bool true))) [] []) ⟨.fin (.ok (.ret (.bool true))),n4,0,t4,0,[],[],[]⟩)
  (hd : A.depth ≤ 730) (hu : A.units ≤ 6400) (hh : A.handled = none) (hk : kOk κ) (lit : ∀ a o,lkP PT' w.params a = some o → s.heap.get? a = some o)
  (off : ∀ x ∈ [n,n + 108,La,D],lkP PT' w.params x = none) (nd : [n,n + 108,La,276,D,63,70].Nodup)
  (pn : s.heap.get? n = some (lawFr2 w.params n t D td)) (pH : s.heap.get? (n + 108) = some (hsO (S 0) (S 1) (S 2) eH)) (pL : s.heap.get? La = some (lst [.ref (S a).a,.ref (S b).a,.ref (S c).a] eL))
  (p276 : s.heap.get? 276 = some (tb [.int 214 0,.int 42 0,.ref lc6])) (pD : s.heap.get? D = some (lst [.ref q0,.ref q1,.ref q2] 3)) (p63 : s.heap.get? 63 = some (tb [])) (p70 : s.heap.get? 70 = some (tb []))
  (d0 : DueAt s.heap (S a) q0) (d1 : DueAt s.heap (S b) q1) (d2 : DueAt s.heap (S c) q2) (hQ : ∀ s',Mv [n,276,63,70] s s' → TabAt s' 276 → TabAt s' 63 → TabAt s' 70 → Q (.ok (.ret (.bool true))) s') : en prg w A Q E k₀ κ (.ok (.ret .none)) s := by
 subst hR
 have hlt : @LT.lt Nat _ (n + 108) s.heap.objs.size := Heap.lt_size pH
 have fresh : ∀ b,s.heap.objs.size ≤ b → lkP PT' w.params b = none := fun b hb => told_lt lit hb
 have St : StartP PT' w s.heap.objs.size s.toks [n,n + 108,La,276,D,63,70] [lawFr2 w.params n t D td,hsO (S 0) (S 1) (S 2) eH,lst [.ref (S a).a,.ref (S b).a,.ref (S c).a] eL,tb [.int 214 0,.int 42 0,.ref lc6],lst [.ref q0,.ref q1,.ref q2] 3,tb [],tb []] s := by
  refine startP_of nd (fun x hx => ?_) rfl lit ?_
  ·revert x
   refine ac ?_ (ac ?_ (ac ?_ (ac ?_ (ac ?_ (ac ?_ (ac ?_ (an)))))))
   ·exact off _ (by simp)
   ·exact off _ (by simp)
   ·exact off _ (by simp)
   ·rfl
   ·exact off _ (by simp)
   ·rfl
   ·rfl
  ·intro p hp
   revert p
   refine zc ?_ (zc ?_ (zc ?_ (zc ?_ (zc ?_ (zc ?_ (zc ?_ (zn)))))))
   ·exact pn
   ·exact pH
   ·exact pL
   ·exact p276
   ·exact pD
   ·exact p63
   ·exact p70
 have X0 := I.acc a ha
 have X1 := I.acc b hb
 have X2 := I.acc c hc
 refine stop_stopP ent1_ok entQ1_eq St (fun om C hC => ?_) (fun om C hC => ?_) (dm := 740) (um := 6500) (by lia) (by lia) hh hk (hC _ _) fun om κ' k₀' M' hR' Hd s5 B => ?_
 ·revert C
  refine ac ?_ (ac ?_ (an))
  ·refine I.red7 (by rw [ho]; rfl) (by simp; lia) fun x hx => ?_
   revert x
   refine ac ?_ (ac ?_ (ac ?_ (an)))
   ·exact fresh _ (by lia)
   ·exact fresh _ (by lia)
   ·exact off _ (by simp)
  ·refine I.red8 (by rw [ho]; rfl) (by simp; lia) fun x hx => ?_
   revert x
   refine ac ?_ (ac ?_ (ac ?_ (an)))
   ·exact fresh _ (by lia)
   ·exact fresh _ (by lia)
   ·exact off _ (by simp)
 ·revert C
  refine ac ?_ (ac ?_ (ac ?_ (ac ?_ (ac ?_ (an)))))
  ·exact lkF_ok I.tr.m X0
  ·exact lkL_ok I.tr.m X1
  ·exact lkL_ok I.tr.m X2
  ·exact lkL_ok I.tr.m X2
  ·exact lkL_ok I.tr.m X0
 ·have mv : Mv [n,276,63,70] s s5 := B.butP St ⟨.inl m0,.inr rfl,.inr rfl,.inl m1,.inr rfl,.inl m2,.inl m3,trivial⟩
  have keep := mv.keep
  have kl : ∀ (x : Nat) o,s.heap.get? x = some o → (o.cls = .type "list" ∨ o.cls = .type "tuple") → s5.heap.get? x = some o := by
   intro x o h hc
   refine keep x o h fun hm => ?_
   simp only [List.mem_cons,List.not_mem_nil,or_false] at hm
   rcases hm with rfl | rfl | rfl | rfl
   ·rw [pn] at h; cases h; rcases hc with h | h <;> simp [lawFr2] at h
   ·rw [p276] at h; cases h; rcases hc with h | h <;> simp [tb] at h
   ·rw [p63] at h; cases h; rcases hc with h | h <;> simp [tb] at h
   ·rw [p70] at h; cases h; rcases hc with h | h <;> simp [tb] at h
  have lit5 : ∀ a o,lkP PT' w.params a = some o → s5.heap.get? a = some o := by
   intro x o h
   refine keep x o (lit x o h) fun hm => ?_
   simp only [List.mem_cons,List.not_mem_nil,or_false] at hm
   rcases hm with rfl | rfl | rfl | rfl
   ·rw [off _ (by simp)] at h; cases h
   ·have : lkP PT' w.params 276 = none := rfl
    rw [this] at h; cases h
   ·have : lkP PT' w.params 63 = none := rfl
    rw [this] at h; cases h
   ·have : lkP PT' w.params 70 = none := rfl
    rw [this] at h; cases h
  have pc : ∀ {T : Sl},Acc PT PT' T → Pcs s5.heap T.xs T.ks := fun X => PcT.pcs (w := w) X.ok.pcs fun a o h => lit5 a o (by
   unfold lkP at h ⊢
   cases q : Nat.blt a 281 with
   | true => rw [q] at h; exact h
   | false => rw [q] at h; exact I.tr.m a o h)
  have hl := (B.own 0 _ _ rfl).2
  have hr := (B.own 1 _ _ rfl).2
  have fz : ∀ (i x : Nat) o,((lkT (S a) [] [] t63 t70).news (om 0) ++ ((lkL (S b) om).news (om 1) ++ ((lkL (S c) om).news (om 2) ++ ((lkL (S c) om).news (om 3) ++ (lkL (S a) om).news (om 4)))))[i]? = some (x,o) → s5.heap.get? x = some o :=
   fun i x o h => (B.frz x o (List.mem_of_getElem? h)).2
  have hu5 : (ar A κ').in1.units + 10 < cLine := by
   have h1 := Hd.units
   have h2 : (ar A κ').in1.units = (ar A κ').units + 1 := rfl
   have h3 : cLine = 9900 := rfl
   lia
  have e0 := d0.mono kl
  have e1 := d1.mono kl
  have e2 := d2.mono kl
  refine codeAny_mono (eq_code hl hr rfl (eqC ?_ (eqC ?_ (eqC ?_ (eqC ?_ (eqC ?_ eqN)))))) fun r s' h => ?_
  ·exact eq_look hu5 (pc X0) (fz 0 _ _ rfl) (fz 1 _ _ rfl) e0
  ·exact eq_look hu5 (pc X1) (fz 2 _ _ rfl) (fz 3 _ _ rfl) e1
  ·exact eq_look hu5 (pc X2) (fz 4 _ _ rfl) (fz 5 _ _ rfl) e2
  ·exact eq_look hu5 (pc X2) (fz 6 _ _ rfl) (fz 7 _ _ rfl) e2
  ·exact eq_look hu5 (pc X0) (fz 8 _ _ rfl) (fz 9 _ _ rfl) e0
  ·obtain ⟨rfl,rfl⟩ := h
   exact st_d hR' (hD _ _ om) (by lia) (by lia) hh Hd.ok (fun a o h => lit5 a o (lkP_of h)) fun s' m => hQ s' (mv.trans (m.mono (by simp))) ⟨_,m.keep _ _ (B.old 3 _ _ rfl rfl) (by simp)⟩ ⟨_,m.keep _ _ (B.old 5 _ _ rfl rfl) (by simp)⟩ ⟨_,m.keep _ _ (B.old 6 _ _ rfl rfl) (by simp)⟩
end
end Mine.G
end
section
namespace Mine.G
noncomputable def tpKl : List Tk := (cat [d 0,d 1] (cat tp7 [l,.go,d 2,o 0,d 6,d 4,d 4,d 3,.go,d 6,d 4,d 4,d 3,d 5,d 5,d 4,d 4,d 3,(.ctr 0 [.old 5,.old 4,.old 6,.old 7] []),o 0,d 8,d 4,d 4,d 3,.go,d 8,d 4,d 4,d 3,d 5,d 5,d 4,d 4,d 3,(.ctr 1 [.old 5,.old 4,.old 8,.old 9] []),d 10,(.ctr 2 [.old 10,.old 11] []),.go,.go]))
noncomputable abbrev kLtU (P : Params) (n t lam lc k1 d1 k2 d2 u v : Nat) (q : CodeAt) : List Obj := [kLtO n,kC23 n t,cellO lam,kNs P n t,kCls n t,mdO (n + 60) (t + 73),kIn (n + 60) d1 (some (.ref u)),dcO [] 0,kIn (n + 60) d2 (some (.ref v)),dcO [] 0,lamO 6 lc,lcO 214 q]
noncomputable def z_kLt_run (w : World) (n t nn tt k1 d1 k2 d2 u v lam lc : Nat) (q : CodeAt) (z : Int) : Rslt :=
 ⟨.fin (.ok (.ret (.bool (decide (z < 0))))),nn,4,tt,16,[],kLtU w.params n t lam lc k1 d1 k2 d2 u v q,[]⟩
theorem kLt_run {PT : Nat → Option Obj} {w : World} {n t nn tt k1 d1 k2 d2 u v lam lc : Nat} {q : CodeAt} {z : Int} {om : Om} :
  chk [] (runC PySem.W.Fast.mineEnt1 (vwP PT w nn tt [n + 24,n + 23,n + 1,n + 59,n + 60,n + 61,k1,d1,k2,d2,lam,lc] (fun _ => [mgetC (n + 61) k1 d1 n t (t + 73) (.ref u),mgetC (n + 61) k2 d2 n t (t + 73) (.ref v),lamCp lam lc q u v z]) (fun _ => []) om 790 6700) 100 (.call (.ref (n + 24)) ⟨[.ref k1,.ref k2],[]⟩) true tpKl
    (kLtU w.params n t lam lc k1 d1 k2 d2 u v q)) (z_kLt_run w n t nn tt k1 d1 k2 d2 u v lam lc q z) := by
 delta chk
 apply w1 (w := w) <;> kernel_rfl
end Mine.G
end
section
namespace Mine.G
noncomputable def kF (P : Params) (n t : Nat) : Frag := [(n + 60,kCls n t),(n + 59,kNs P n t),(n + 16,kInitO n)]
section
variable {P : Params} {n t : Nat}
theorem kF60 : (kF P n t).lookup (n + 60) = some (kCls n t) := by simp [kF,List.lookup]
theorem kF59 : (kF P n t).lookup (n + 59) = some (kNs P n t) := by
 have h : (n + 59 == n + 60) = false := by simp
 simp [kF,List.lookup,h]
theorem kF16 : (kF P n t).lookup (n + 16) = some (kInitO n) := by
 have h : (n + 16 == n + 60) = false := by simp
 have h' : (n + 16 == n + 59) = false := by simp
 simp [kF,List.lookup,h,h']
theorem kF_in {h : Heap} (h1 : h.get? (n + 60) = some (kCls n t)) (h2 : h.get? (n + 59) = some (kNs P n t)) (h3 : h.get? (n + 16) = some (kInitO n)) : (kF P n t).In h := by
 intro a o e
 by_cases q1 : a = n + 60
 ·subst q1; rw [kF60] at e; cases e; exact h1
 ·by_cases q2 : a = n + 59
  ·subst q2; rw [kF59] at e; cases e; exact h2
  ·by_cases q3 : a = n + 16
   ·subst q3; rw [kF16] at e; cases e; exact h3
   ·have e1 : (a == n + 60) = false := by simpa using q1
    have e2 : (a == n + 59) = false := by simpa using q2
    have e3 : (a == n + 16) = false := by simpa using q3
    simp [kF,List.lookup,e1,e2,e3] at e
theorem kF_typ : typeIn (kF P n t) (.ref (n + 60)) = some (.type "type") := by
 unfold typeIn
 dsimp only
 rw [kF60]
 rfl
theorem kF_makes : makesIn (kF P n t) (n + 60) = true := by
 have hs : specialIn (kF P n t) (.ref (n + 60)) "__call__" = some (some (.builtin "type.__call__")) := by
  unfold specialIn
  rw [kF_typ]
  show fastLookup "type" (Str.ofString "__call__") = _
  kernel_rfl
 have hi : instIn (kF P n t) (.ref (n + 60)) (.type "type") = some true := by
  unfold instIn
  rw [kF_typ]
  show subIn (kF P n t) (.type "type") (.type "type") = _
  kernel_rfl
 unfold makesIn
 rw [kF60]
 delta kCls clsK clsO
 dsimp only
 rw [hs,hi]
 simp [kD,kS]
theorem kF_init : findIn (kF P n t) (.ref (n + 60)) "__init__" = some (some (.ref (n + 16))) := by
 have e1 : ownIn (kF P n t) "__init__" (.ref (n + 60)) = some (some (.ref (n + 16))) := by
  unfold ownIn
  dsimp only
  rw [kF60]
  show nsIn (kF P n t) (n + 59) "__init__" = _
  unfold nsIn
  rw [kF59]
  kernel_rfl
 unfold findIn
 dsimp only
 rw [kF60]
 show alongIn (kF P n t) "__init__" [.ref (n + 60),.type "object"] = _
 unfold alongIn
 rw [e1]
theorem kF_fn : typeIn (kF P n t) (.ref (n + 16)) = some (.type "function") := by
 unfold typeIn
 dsimp only
 rw [kF16]
 rfl
end
noncomputable def kNewC (P : Params) (n t h : Nat) : Ctr :=
 {code := .call (.ref (n + 60)) ⟨[.ref h],[]⟩,pre := [(n + 16,kInitO n),(n + 15,kC15 n t),(n + 59,kNs P n t),(n + 60,kCls n t),(n + 61,mdO (n + 60) (t + 73))],val := fun m _ => .ref (m + 1),upd := fun _ _ => [],
  news := fun m _ => [(0,dcO [] 0),(1,kIn (n + 60) m (some (.ref h)))],grow := 3,toks := 3,dm := 790,um := 6700 }
theorem kInit_okC {n x h : Nat} : okCode (.call (.ref (n + 16)) ⟨[.ref x,.ref h],[]⟩) = true := by kernel_rfl
theorem kNew_ok {PT : Nat → Option Obj} {w : World} {n t h : Nat} (hn : 281 ≤ n) (off : ∀ i,i = 15 ∨ i = 16 ∨ i = 59 ∨ i = 60 ∨ i = 61 → lkP PT w.params (n + i) = none) : CtrOkP PT w (kNewC w.params n t h) := by
 intro A s hd hu hh hl hp
 have p16 : s.heap.get? (n + 16) = some (kInitO n) := hp (n + 16,_) (.head _)
 have p15 : s.heap.get? (n + 15) = some (kC15 n t) := hp (n + 15,_) (.tail _ (.head _))
 have p59 : s.heap.get? (n + 59) = some (kNs w.params n t) := hp (n + 59,_) (.tail _ (.tail _ (.head _)))
 have p60 : s.heap.get? (n + 60) = some (kCls n t) := hp (n + 60,_) (.tail _ (.tail _ (.tail _ (.head _))))
 have p61 : s.heap.get? (n + 61) = some (mdO (n + 60) (t + 73)) := hp (n + 61,_) (.tail _ (.tail _ (.tail _ (.tail _ (.head _)))))
 have X := kF_in (P := w.params) (t := t) p60 p59 p16
 have l16 : @LT.lt Nat _ (n + 16) s.heap.objs.size := Heap.lt_size p16
 have l61 : @LT.lt Nat _ (n + 61) s.heap.objs.size := Heap.lt_size p61
 obtain ⟨hp0,g,d',t0,os⟩ := s
 dsimp only at p16 p15 p59 p60 p61 X l16 l61 hl
 have Y := makes_of (M := model prg w) X kF_makes
 let s2 : Shared := ⟨(hp0.push emptyDict).push (instObj (n + 60) hp0.objs.size),g,d',t0,os⟩
 have k2 : ∀ b o,hp0.get? b = some o → s2.heap.get? b = some o := fun b o e => Heap.get?_push_of_some _ (Heap.get?_push_of_some _ e)
 have sz2 : s2.heap.objs.size = hp0.objs.size + 2 := by simp [s2,Heap.size_push]
 have x2 : s2.heap.get? (hp0.objs.size + 1) = some (kIn (n + 60) hp0.objs.size none) := by
  have e : ((hp0.push emptyDict).push (instObj (n + 60) hp0.objs.size)).get? (hp0.objs.size + 1) = some (instObj (n + 60) hp0.objs.size) := by heap_get
  exact e
 have d2 : s2.heap.get? hp0.objs.size = some (dcO [] 0) := by
  have e : ((hp0.push emptyDict).push (instObj (n + 60) hp0.objs.size)).get? hp0.objs.size = some emptyDict := by heap_get
  exact e
 refine make_core Y (looks_findIn X kF_init) (fun self => bind_fn X self kF_fn) (.inl rfl) ?_
 have S : StartP PT w s2.heap.objs.size s2.toks [n + 16,n + 15,n + 59,n + 60,n + 61,hp0.objs.size + 1,hp0.objs.size] [kInitO n,kC15 n t,kNs w.params n t,kCls n t,mdO (n + 60) (t + 73),kIn (n + 60) hp0.objs.size none,dcO [] 0] s2 := by
  refine startP_of ?_ (fun b hb => ?_) rfl (fun b o e => k2 b o (hl b o e)) ?_
  ·exact nd2 (l := [16,15,59,60,61]) (k := [1,0]) (by decide) (by decide) fun i hi => by
    have := (by decide : ∀ i ∈ [16,15,59,60,61],i ≤ 61) i hi
    lia
  ·revert b
   refine ac ?_ (ac ?_ (ac ?_ (ac ?_ (ac ?_ (ac ?_ (ac ?_ (an)))))))
   ·exact off 16 (by simp)
   ·exact off 15 (by simp)
   ·exact off 59 (by simp)
   ·exact off 60 (by simp)
   ·exact off 61 (by simp)
   ·exact told_lt (s := ⟨hp0,g,d',t0,os⟩) hl (Nat.le_succ _)
   ·exact told_lt (s := ⟨hp0,g,d',t0,os⟩) hl (Nat.le_refl _)
  ·intro p hp
   revert p
   refine zc ?_ (zc ?_ (zc ?_ (zc ?_ (zc ?_ (zc ?_ (zc ?_ (zn)))))))
   ·exact k2 _ _ p16
   ·exact k2 _ _ p15
   ·exact k2 _ _ p59
   ·exact k2 _ _ p60
   ·exact k2 _ _ p61
   ·exact x2
   ·exact d2
 refine run_codePE ent1_ok entQ1_eq S (fun om C hC => ?_) (fun _ => an) ?_ ?_ hh kInit_okC (by decide) (by decide) (fun _ => kInit_run) fun om s3 B => ?_
 ·rw [List.mem_singleton] at hC
  subst hC
  exact ctrP mset_ok
 ·have hd : A.depth ≤ 790 := hd
  show A.depth + (Code.builtin "type.__call__" ⟨[.ref (n + 60),.ref h],[]⟩).weight ≤ 800
  have : (Code.builtin "type.__call__" ⟨[.ref (n + 60),.ref h],[]⟩).weight ≤ 2 := Nat.le_of_ble_eq_true rfl
  lia
 ·have hu : A.units ≤ 6700 := hu
  show A.units + (Code.builtin "type.__call__" ⟨[.ref (n + 60),.ref h],[]⟩).cUnits ≤ 6800
  have : (Code.builtin "type.__call__" ⟨[.ref (n + 60),.ref h],[]⟩).cUnits ≤ 20 := Nat.le_of_ble_eq_true rfl
  lia
 ·have bs : s3.heap.objs.size = hp0.objs.size + 3 := by
   have := B.size
   rw [sz2] at this
   exact this
  refine ⟨rfl,rfl,bs,B.toks,(fun p hp => nomatch hp),?_,fun b o e _ => ?_,B.bare,B.os⟩
  ·intro p hp
   revert p
   refine ac ?_ (ac ?_ (an))
   ·exact B.old 6 _ _ rfl rfl
   ·exact B.old 5 _ _ rfl rfl
  ·have hb : @LT.lt Nat _ b hp0.objs.size := Heap.lt_size e
   refine B.still (k2 b o e) fun j hj => ?_
   have e' : hp0.get? b = some o := e
   match j with
   | 0 => simp at hj; subst hj; rw [p16] at e'; cases e'; rfl
   | 1 => simp at hj; subst hj; rw [p15] at e'; cases e'; rfl
   | 2 => simp at hj; subst hj; rw [p59] at e'; cases e'; rfl
   | 3 => simp at hj; subst hj; rw [p60] at e'; cases e'; rfl
   | 4 => simp at hj; subst hj; rw [p61] at e'; cases e'; rfl
   | 5 =>
    simp at hj
    have : @Eq Nat (hp0.objs.size + 1) b := hj
    lia
   | 6 =>
    simp at hj
    have : @Eq Nat hp0.objs.size b := hj
    lia
   | j + 7 => simp at hj
end Mine.G
end
section
namespace Mine.G
noncomputable def kG (P : Params) (n t : Nat) : Frag := [(n + 60,kCls n t),(n + 59,kNs P n t),(n + 24,kLtO n)]
section
variable {P : Params} {n t : Nat}
theorem kG60 : (kG P n t).lookup (n + 60) = some (kCls n t) := by simp [kG]
theorem kG59 : (kG P n t).lookup (n + 59) = some (kNs P n t) := by
 have h : (n + 59 == n + 60) = false := by simp
 simp [kG,List.lookup,h]
theorem kG24 : (kG P n t).lookup (n + 24) = some (kLtO n) := by
 have h : (n + 24 == n + 60) = false := by simp
 have h' : (n + 24 == n + 59) = false := by simp
 simp [kG,List.lookup,h,h']
theorem kG_in {h : Heap} (h1 : h.get? (n + 60) = some (kCls n t)) (h2 : h.get? (n + 59) = some (kNs P n t)) (h3 : h.get? (n + 24) = some (kLtO n)) : (kG P n t).In h := by
 intro a o e
 by_cases q1 : a = n + 60
 ·subst q1; rw [kG60] at e; cases e; exact h1
 ·by_cases q2 : a = n + 59
  ·subst q2; rw [kG59] at e; cases e; exact h2
  ·by_cases q3 : a = n + 24
   ·subst q3; rw [kG24] at e; cases e; exact h3
   ·have e1 : (a == n + 60) = false := by simpa using q1
    have e2 : (a == n + 59) = false := by simpa using q2
    have e3 : (a == n + 24) = false := by simpa using q3
    simp [kG,List.lookup,e1,e2,e3] at e
theorem kG_lt : findIn (kG P n t) (.ref (n + 60)) "__lt__" = some (some (.ref (n + 24))) := by
 have e1 : ownIn (kG P n t) "__lt__" (.ref (n + 60)) = some (some (.ref (n + 24))) := by
  unfold ownIn
  dsimp only
  rw [kG60]
  show nsIn (kG P n t) (n + 59) "__lt__" = _
  unfold nsIn
  rw [kG59]
  kernel_rfl
 unfold findIn
 dsimp only
 rw [kG60]
 show alongIn (kG P n t) "__lt__" [.ref (n + 60),.type "object"] = _
 unfold alongIn
 rw [e1]
theorem kG_fn : isFn (kG P n t) (.ref (n + 24)) = true := by
 unfold isFn typeIn
 dsimp only
 rw [kG24]
 kernel_rfl
end
theorem kLt_okC {n x h : Nat} : okCode (.call (.ref (n + 24)) ⟨[.ref x,.ref h],[]⟩) = true := by kernel_rfl
structure KSt (PT : Nat → Option Obj) (w : World) (n t lam lc : Nat) (q : CodeAt) (s : Shared) : Prop where
 lit : ∀ b o,lkP PT w.params b = some o → s.heap.get? b = some o
 k24 : s.heap.get? (n + 24) = some (kLtO n)
 k23 : s.heap.get? (n + 23) = some (kC23 n t)
 k1 : s.heap.get? (n + 1) = some (cellO lam)
 k59 : s.heap.get? (n + 59) = some (kNs w.params n t)
 k60 : s.heap.get? (n + 60) = some (kCls n t)
 k61 : s.heap.get? (n + 61) = some (mdO (n + 60) (t + 73))
 k16 : s.heap.get? (n + 16) = some (kInitO n)
 k15 : s.heap.get? (n + 15) = some (kC15 n t)
 lam : s.heap.get? lam = some (lamO 6 lc)
 lc : s.heap.get? lc = some (lcO 214 q)
theorem ask_ok {PT : Nat → Option Obj} {w : World} {A : Around} {n t lam lc k1 d1 k2 d2 u v : Nat} {q : CodeAt} {z : Int} {s : Shared} (hd : A.depth ≤ 780) (hu : A.units ≤ 6600) (hh : A.handled = none) (T : KSt PT w n t lam lc q s)
  (off : ∀ i,i < 64 → lkP PT w.params (n + i) = none) (offl : lkP PT w.params lam = none) (offc : lkP PT w.params lc = none) (hl : lam < n) (hlc : lc < lam) (e1 : s.heap.get? k1 = some (kIn (n + 60) d1 (some (.ref u)))) (f1 : s.heap.get? d1 = some (dcO [] 0)) (e2 : s.heap.get? k2 = some (kIn (n + 60) d2 (some (.ref v)))) (f2 : s.heap.get? d2 = some (dcO [] 0))
  (nd : [k1,d1,k2,d2].Nodup) (hk : ∀ x ∈ [k1,d1,k2,d2],n + 64 ≤ x ∧ lkP PT w.params x = none) (CL : CtrOkP PT w (lamCp lam lc q u v z)) {C : Bool → Shared → Prop} (hC : ∀ s',Mv [] s s' → C (decide (z < 0)) s') :
  wpAny (model prg w) A (keyLt' oneType' (.ref k1) (.ref k2)) C (fun _ _ => False) s := by
 have X := kG_in (P := w.params) (t := t) T.k60 T.k59 T.k24
 rw [keyLt'_oneType,oneLt'_eq]
 simp only [if_true]
 have hcl : cLine = 9900 := rfl
 refine wpAny_bind (wpAny_cRoomFor (by lia) ?_)
 have I : PySem.W.InstAt s.heap k1 (kIn (n + 60) d1 (some (.ref u))) (n + 60) (some (dcO [] 0)) := ⟨e1,rfl,rfl,f1⟩
 have S : StartP PT w s.heap.objs.size s.toks [n + 24,n + 23,n + 1,n + 59,n + 60,n + 61,k1,d1,k2,d2,lam,lc] (kLtU w.params n t lam lc k1 d1 k2 d2 u v q) s := by
  have hk1 := hk k1 (by simp)
  have hk2 := hk d1 (by simp)
  have hk3 := hk k2 (by simp)
  have hk4 := hk d2 (by simp)
  refine startP_of ?_ (fun b hb => ?_) rfl T.lit ?_
  ·show ([24,23,1,59,60,61].map (n + ·) ++ ([k1,d1,k2,d2] ++ [lam,lc])).Nodup
   have hc : ∀ b ∈ [lam,lc],b < n := ac hl (ac (Nat.lt_trans hlc hl) an)
   refine List.nodup_append.mpr ⟨List.Pairwise.map (R := fun a b : Nat => a ≠ b) (S := fun a b : Nat => a ≠ b) (n + ·) (fun _ _ h e => h (Nat.add_left_cancel e)) (by decide),List.nodup_append.mpr ⟨nd,List.nodup_cons.mpr ⟨fun h => ?_,List.Pairwise.cons (fun _ h => nomatch h) .nil⟩,fun a ha b hb e => ?_⟩,fun a ha b hb e => ?_⟩
   ·exact Nat.ne_of_lt hlc (List.mem_singleton.mp h).symm
   ·have := (hk a ha).1
    have := hc b hb
    lia
   ·obtain ⟨i,hi,rfl⟩ := List.mem_map.mp ha
    have : i < 64 := (by decide : ∀ i ∈ [24,23,1,59,60,61],i < 64) i hi
    rcases List.mem_append.mp hb with hb | hb
    ·have := (hk b hb).1
     lia
    ·have := hc b hb
     lia
  ·revert b
   refine ac ?_ (ac ?_ (ac ?_ (ac ?_ (ac ?_ (ac ?_ (ac ?_ (ac ?_ (ac ?_ (ac ?_ (ac ?_ (ac ?_ (an))))))))))))
   ·exact off 24 (by lia)
   ·exact off 23 (by lia)
   ·exact off 1 (by lia)
   ·exact off 59 (by lia)
   ·exact off 60 (by lia)
   ·exact off 61 (by lia)
   ·exact hk1.2
   ·exact hk2.2
   ·exact hk3.2
   ·exact hk4.2
   ·exact offl
   ·exact offc
  ·intro p hp
   revert p
   refine zc ?_ (zc ?_ (zc ?_ (zc ?_ (zc ?_ (zc ?_ (zc ?_ (zc ?_ (zc ?_ (zc ?_ (zc ?_ (zc ?_ (zn))))))))))))
   ·exact T.k24
   ·exact T.k23
   ·exact T.k1
   ·exact T.k59
   ·exact T.k60
   ·exact T.k61
   ·exact e1
   ·exact f1
   ·exact e2
   ·exact f2
   ·exact T.lam
   ·exact T.lc
 refine wpAny_bind (ifBound_K X I kG_lt kG_fn (wpAny_call ?_))
 refine run_codePE ent1_ok entQ1_eq S (fun om C hC => ?_) (fun _ => an) (by lia) (by lia) hh kLt_okC (by decide) (by decide) (fun om => kLt_run (PT := PT) (w := w) (n := n) (t := t) (nn := s.heap.objs.size) (tt := s.toks) (k1 := k1) (d1 := d1) (k2 := k2) (d2 := d2) (u := u) (v := v) (lam := lam) (lc := lc) (q := q) (z := z) (om := om)) fun om s3 B => ?_
 ·revert C
  refine ac ?_ (ac ?_ (ac ?_ (an)))
  ·exact ctrP mget_ok
  ·exact ctrP mget_ok
  ·exact CL
 ·have keep := (B.butP S (Ch := []) ⟨.inr rfl,.inr rfl,.inr rfl,.inr rfl,.inr rfl,.inr rfl,.inr rfl,.inr rfl,.inr rfl,.inr rfl,.inr rfl,.inr rfl, trivial⟩).all
  have fin := hC s3 ⟨B.grow,fun b o h _ => keep b o h,B.bare,B.os⟩
  show wpAny (model prg w) A _ _ _ s3
  exact wpAny_truthy_bool fin
end Mine.G
end
section
namespace Mine.G
theorem KSt.keep {PT : Nat → Option Obj} {w : World} {n t lam lc : Nat} {q : CodeAt} {L : List Nat} {s s' : Shared} (T : KSt PT w n t lam lc q s) (m : Mv L s s') (h1 : ∀ i,i < 64 → n + i ∉ L) (h2 : lam ∉ L) (h4 : lc ∉ L) (h3 : ∀ b ∈ L,lkP PT w.params b = none) : KSt PT w n t lam lc q s' where
 lit := fun b o e => m.keep b o (T.lit b o e) fun hb => by rw [h3 b hb] at e; cases e
 k24 := m.keep _ _ T.k24 (h1 24 (by lia))
 k23 := m.keep _ _ T.k23 (h1 23 (by lia))
 k1 := m.keep _ _ T.k1 (h1 1 (by lia))
 k59 := m.keep _ _ T.k59 (h1 59 (by lia))
 k60 := m.keep _ _ T.k60 (h1 60 (by lia))
 k61 := m.keep _ _ T.k61 (h1 61 (by lia))
 k16 := m.keep _ _ T.k16 (h1 16 (by lia))
 k15 := m.keep _ _ T.k15 (h1 15 (by lia))
 lam := m.keep _ _ T.lam h2
 lc := m.keep _ _ T.lc h4
structure KInv (n : Nat) (hs : Nat → Nat) (a kS e1 : Nat) (s : Shared) (i : Nat) (κ : Nat → Nat) (s' : Shared) : Prop where
 ks : ∃ e,s'.heap.get? kS = some (lst ((List.range i).map fun j => .ref (κ j)) e)
 low : ∀ j,j < i → kS + 2 ≤ κ j
 inst : ∀ j,j < i → s'.heap.get? (κ j) = some (kIn (n + 60) (κ j - 1) (some (.ref (hs j))))
 dict : ∀ j,j < i → s'.heap.get? (κ j - 1) = some (dcO [] 0)
 gap : ∀ j j',j < j' → j' < i → κ j + 2 ≤ κ j'
 aa : s'.heap.get? a = some (lst [] e1)
 mv : Mv [a] s s'
section
variable {PT : Nat → Option Obj} {w : World} {A : Around} {n t lam lc a kS e1 : Nat} {q : CodeAt} {hs : Nat → Nat} {s s' : Shared}
theorem key_step {i : Nat} {κ : Nat → Nat} (hd : A.depth ≤ 780) (hu : A.units ≤ 6600) (hh : A.handled = none) (J : KInv n hs a kS e1 s i κ s') (T : KSt PT w n t lam lc q s) (hn : 281 ≤ n) (off : ∀ i,i < 64 → lkP PT w.params (n + i) = none) (hlam : lam < n) (hlc : lc < lam)
  (ha : n + 64 ≤ a) (offa : lkP PT w.params a = none) (hak : a < kS) (hks : s.heap.objs.size < kS + 1) (hs3 : i < 3) :
  wpAny (model prg w) A (call (.ref (n + 60)) [.ref (hs i)]) (fun v s'' => v = .ref (s'.heap.objs.size + 1) ∧ s''.heap.get? (s'.heap.objs.size + 1) = some (kIn (n + 60) s'.heap.objs.size (some (.ref (hs i)))) ∧ s''.heap.get? s'.heap.objs.size = some (dcO [] 0) ∧
   Mv [] s' s'' ∧ s''.heap.objs.size = s'.heap.objs.size + 3) (fun _ _ => False) s' := by
 have T' : KSt PT w n t lam lc q s' := T.keep J.mv (fun i hi => by simp; lia) (by simp; lia) (by simp; lia) (fun b hb => by rw [List.mem_singleton] at hb; subst hb; exact offa)
 refine wpAny_call (codeAny_mono (kNew_ok (t := t) (h := hs i) hn (fun i hi => off i (by lia)) A s' (by show A.depth ≤ 790; lia) (by show A.units ≤ 6700; lia) hh T'.lit ?_) ?_)
 ·intro p hp
  revert p
  refine ac ?_ (ac ?_ (ac ?_ (ac ?_ (ac ?_ (an)))))
  ·exact T'.k16
  ·exact T'.k15
  ·exact T'.k59
  ·exact T'.k60
  ·exact T'.k61
 ·rintro r s'' ⟨rfl,q1,q2,q3,q4,q5,q6,q7⟩
  have n0 := q4 (0,dcO [] 0) (.head _)
  have n1 := q4 (1,kIn (n + 60) s'.heap.objs.size (some (.ref (hs i)))) (.tail _ (.head _))
  have q1 : s''.heap.objs.size = s'.heap.objs.size + 3 := q1
  exact ⟨rfl,n1,n0,⟨by lia,fun b o e _ => q5 b o e (fun p hp => nomatch hp),q6,q7⟩,q1⟩
theorem key_push {i : Nat} {κ : Nat → Nat} (J : KInv n hs a kS e1 s i κ s') {s'' : Shared} (hs3 : i < 3) (hak : a < kS) (hsz : kS < s'.heap.objs.size)
  (x1 : s''.heap.get? (s'.heap.objs.size + 1) = some (kIn (n + 60) s'.heap.objs.size (some (.ref (hs i))))) (x2 : s''.heap.get? s'.heap.objs.size = some (dcO [] 0)) (m : Mv [] s' s'') (hks : s.heap.objs.size ≤ kS) :
  KInv n hs a kS e1 s (i + 1) (fun j => if j = i then s'.heap.objs.size + 1 else κ j) { s'' with heap := s''.heap.update kS (Obj.mapSeq (·.push (.ref (s'.heap.objs.size + 1)))) } := by
 obtain ⟨e,hk⟩ := J.ks
 have hk2 : s''.heap.get? kS = some (lst ((List.range i).map fun j => .ref (κ j)) e) := m.keep _ _ hk (by simp)
 have sb := Heap.SameBut.update s''.heap kS (Obj.mapSeq (·.push (.ref (s'.heap.objs.size + 1))))
 have kp : ∀ (b : Nat) o,s'.heap.get? b = some o → b ≠ kS → (s''.heap.update kS (Obj.mapSeq (·.push (.ref (s'.heap.objs.size + 1))))).get? b = some o := fun b o h hb => (sb.2 b hb).trans (m.keep b o h (by simp))
 have lt : ∀ j,j < i → κ j < s'.heap.objs.size := fun j hj => Heap.lt_size (J.inst j hj)
 refine ⟨?_,?_,?_,?_,?_,?_,?_⟩
 ·have hu := get?_update_seq (c := "list") (xs := ((List.range i).map fun j => Value.ref (κ j)).toArray) (n := e) hk2 (·.push (.ref (s'.heap.objs.size + 1)))
  refine ⟨e + 1,hu.trans ?_⟩
  rw [if_neg (by simp)]
  have ea : (((List.range i).map fun j => Value.ref (κ j)).toArray).push (Value.ref (s'.heap.objs.size + 1)) = ((List.range (i + 1)).map fun j => Value.ref (if j = i then s'.heap.objs.size + 1 else κ j)).toArray := by
   rw [List.range_succ,List.map_append,List.push_toArray]
   congr 1
   have : (List.range i).map (fun j => Value.ref (if j = i then s'.heap.objs.size + 1 else κ j)) = (List.range i).map fun j => Value.ref (κ j) :=
    List.map_congr_left fun j hj => by rw [if_neg (Nat.ne_of_lt (List.mem_range.mp hj))]
   rw [this]
   simp
  rw [ea]
  rfl
 ·intro j hj
  by_cases q : j = i
  ·rw [if_pos q]; lia
  ·rw [if_neg q]; exact J.low j (by lia)
 ·intro j hj
  by_cases q : j = i
  ·subst q
   simp only [if_pos]
   exact (sb.2 _ (by show @Ne Nat _ _; lia)).trans x1
  ·have hj' : j < i := by lia
   simp only [if_neg q]
   exact kp _ _ (J.inst j hj') (by have := J.low j hj'; lia)
 ·intro j hj
  by_cases q : j = i
  ·subst q
   simp only [if_pos]
   exact (sb.2 _ (by show @Ne Nat _ _; lia)).trans x2
  ·have hj' : j < i := by lia
   simp only [if_neg q]
   exact kp _ _ (J.dict j hj') (by have := J.low j hj'; lia)
 ·intro j j' h1 h2
  by_cases q : j' = i
  ·subst q
   rw [if_pos rfl,if_neg (by lia)]
   have := lt j (by lia)
   lia
  ·rw [if_neg q,if_neg (by lia)]
   exact J.gap j j' h1 (by lia)
 ·exact kp _ _ J.aa (by lia)
 ·refine ⟨?_,fun b o h hb => ?_,fun h => m.bare (J.mv.bare h),m.os.trans J.mv.os⟩
  ·have e1 : (s''.heap.update kS (Obj.mapSeq (·.push (.ref (s'.heap.objs.size + 1))))).objs.size = s''.heap.objs.size := sb.1
   show s.heap.objs.size ≤ (s''.heap.update kS (Obj.mapSeq (·.push (.ref (s'.heap.objs.size + 1))))).objs.size
   rw [e1]
   exact Nat.le_trans J.mv.grow m.grow
  ·have : @LT.lt Nat _ b s.heap.objs.size := Heap.lt_size h
   exact kp b o (J.mv.keep b o h hb) (by lia)
end
end Mine.G
end
section
namespace Mine.G
section
variable {PT : Nat → Option Obj} {w : World} {A : Around} {n t lam lc a e0 : Nat} {hs : Nat → Nat} {s : Shared} {qc : CodeAt} {p q r : Int} {sg : Nat → Nat → Int}
noncomputable def itemsV (hs : Nat → Nat) : List Value := [.ref (hs 0),.ref (hs 1),.ref (hs 2)]
theorem itemsV_at {i : Nat} {x : Value} (h : (itemsV hs)[i]? = some x) : i < 3 ∧ x = .ref (hs i) := by
 match i with
 | 0 => cases h; exact ⟨by lia,rfl⟩
 | 1 => cases h; exact ⟨by lia,rfl⟩
 | 2 => cases h; exact ⟨by lia,rfl⟩
 | i + 3 => cases h
theorem sort_ok (hd : A.depth ≤ 770) (hu : A.units ≤ 6500) (hh : A.handled = none) (T : KSt PT w n t lam lc qc s) (hn : 281 ≤ n) (off : ∀ i,i < 64 → lkP PT w.params (n + i) = none) (offl : lkP PT w.params lam = none) (offc : lkP PT w.params lc = none) (hlam : lam < n) (hlc : lc < lam)
  (ha : n + 64 ≤ a) (offa : lkP PT w.params a = none) (pa : s.heap.get? a = some (lst (itemsV hs) e0)) (CL : ∀ i j,i < 3 → j < 3 → i ≠ j → CtrOkP PT w (lamCp lam lc qc (hs i) (hs j) (sg i j)))
  (hL : ∀ i j,i < 3 → j < 3 → i ≠ j → decide (sg i j < 0) = less p q r i j) (W : weak p q r = true) :
  codeAny (model prg w) A (.builtin "list.sort" ⟨[.ref a],[(Str.ofString "key",.ref (n + 60))]⟩)
   (fun r' s' => r' = .ok (.ret .none) ∧ (∃ e',s'.heap.get? a = some (lst ((ordOf p q r).map fun i => .ref (hs i)) e')) ∧ Mv [a] s s') s := by
 have hlt : @LT.lt Nat _ a s.heap.objs.size := Heap.lt_size pa
 have s1 := Heap.SameBut.update s.heap a (Obj.mapSeq fun _ => (#[] : Array Value))
 obtain ⟨e1,ho1⟩ : ∃ e1,(s.heap.update a (Obj.mapSeq fun _ => (#[] : Array Value))).get? a = some (seqObj "list" #[] e1) := ⟨_,get?_update_seq (c := "list") (xs := (itemsV hs).toArray) (n := e0) pa (fun _ => #[])⟩
 refine codeAny_builtin F.entry_list_sort ?_
 have hd1 : (A.under (.builtin "list.sort" ⟨[.ref a],[(Str.ofString "key",.ref (n + 60))]⟩)).depth ≤ 780 := by
  show A.depth + (Code.builtin "list.sort" ⟨[.ref a],[(Str.ofString "key",.ref (n + 60))]⟩).weight ≤ 780
  have : (Code.builtin "list.sort" ⟨[.ref a],[(Str.ofString "key",.ref (n + 60))]⟩).weight ≤ 2 := Nat.le_of_ble_eq_true rfl
  lia
 have hu1 : (A.under (.builtin "list.sort" ⟨[.ref a],[(Str.ofString "key",.ref (n + 60))]⟩)).units ≤ 6600 := by
  show A.units + (Code.builtin "list.sort" ⟨[.ref a],[(Str.ofString "key",.ref (n + 60))]⟩).cUnits ≤ 6600
  have : (Code.builtin "list.sort" ⟨[.ref a],[(Str.ofString "key",.ref (n + 60))]⟩).cUnits ≤ 20 := Nat.le_of_ble_eq_true rfl
  lia
 have hh1 : (A.under (.builtin "list.sort" ⟨[.ref a],[(Str.ofString "key",.ref (n + 60))]⟩)).handled = none := hh
 generalize A.under (.builtin "list.sort" ⟨[.ref a],[(Str.ofString "key",.ref (n + 60))]⟩) = A1 at hd1 hu1 hh1
 show wpAny (model prg w) A1 (Builtin.«list.sort» ⟨[.ref a],[(Str.ofString "key",.ref (n + 60))]⟩) _ _ s
 rw [ksk_t1]
 unfold ksk_tree
 refine wpAny_bind (listItems_at pa rfl ?_)
 refine wpAny_bind (listUpdate_at pa rfl ?_ (by show 3 ≤ _; rw [sizeLine_eq]; lia) (Nat.zero_le _))
 refine wpAny_bind (seqEpoch_at ho1 rfl ?_)
 refine wpAny_bind (wpAny_newTuple ?_ (by show 3 ≤ _; rw [sizeLine_eq]; lia))
 refine wpAny_bind (wpAny_newList ?_ (Nat.zero_le _))
 refine wpAny_holding ?_
 have hkS : ((s.heap.update a (Obj.mapSeq fun _ => (#[] : Array Value))).push (seqObj "tuple" (itemsV hs).toArray 0)).objs.size = s.heap.objs.size + 1 := by rw [size_push',Heap.size_update]
 generalize hs1 : ({ s with heap := ((s.heap.update a (Obj.mapSeq fun _ => (#[] : Array Value))).push (seqObj "tuple" (itemsV hs).toArray 0)).push (seqObj "list" #[] 0) } : Shared) = S1
 have J0 : KInv n hs a (s.heap.objs.size + 1) e1 s 0 (fun _ => 0) S1 := by
  subst hs1
  refine ⟨⟨0,?_⟩,(fun j hj => absurd hj (Nat.not_lt_zero _)),(fun j hj => absurd hj (Nat.not_lt_zero _)),(fun j hj => absurd hj (Nat.not_lt_zero _)),(fun j j' _ hj => absurd hj (Nat.not_lt_zero _)),?_,?_⟩
  ·rw [← hkS]; exact Heap.get?_push_size _ rfl
  ·exact Heap.get?_push_of_some _ (Heap.get?_push_of_some _ ho1)
  ·refine ⟨?_,fun b o h hb => ?_,id,rfl⟩
   ·show s.heap.objs.size ≤ (((s.heap.update a (Obj.mapSeq fun _ => (#[] : Array Value))).push (seqObj "tuple" (itemsV hs).toArray 0)).push (seqObj "list" #[] 0)).objs.size
    rw [size_push',hkS]; lia
   ·exact Heap.get?_push_of_some _ (Heap.get?_push_of_some _ ((s1.2 b (by simpa using hb)).trans h))
 have Z0 : s.heap.objs.size + 1 < S1.heap.objs.size := by
  subst hs1
  show s.heap.objs.size + 1 < (((s.heap.update a (Obj.mapSeq fun _ => (#[] : Array Value))).push (seqObj "tuple" (itemsV hs).toArray 0)).push (seqObj "list" #[] 0)).objs.size
  rw [size_push',hkS]; lia
 show wpAny (model prg w) A1 (ksk_rest a (.ref (n + 60)) false (itemsV hs).toArray e1 (.ref ((s.heap.update a (Obj.mapSeq fun _ => (#[] : Array Value))).push (seqObj "tuple" (itemsV hs).toArray 0)).objs.size)) _ _ _
 rw [hkS]
 clear hs1
 unfold ksk_rest
 refine wpAny_bind (wpAny_rule ?_)
 rw [List.forIn_toArray]
 refine wpAny_bind (ksk_fold (fun i s' => ∃ κ,KInv n hs a (s.heap.objs.size + 1) e1 s i κ s' ∧ s.heap.objs.size + 1 < s'.heap.objs.size) (itemsV hs) 0 S1 ⟨_,J0,Z0⟩ ?step ?done)
 case step =>
  rintro j x s' hx ⟨κ,J,hsz⟩
  simp only [Nat.zero_add] at J ⊢
  obtain ⟨hj,rfl⟩ := itemsV_at hx
  refine wpAny_bind (wpAny_attempt (wpAny_mono (key_step hd1 hu1 hh1 J T hn off hlam hlc ha offa (by lia) (by lia) hj) (fun v s'' he => ?_) fun _ _ hF => hF.elim))
  obtain ⟨rfl,x1,x2,m,hz⟩ := he
  obtain ⟨e,hk⟩ := J.ks
  try dsimp only
  refine wpAny_bind (listUpdate_at (m.keep _ _ hk (by simp)) rfl ?_ (by rw [List.size_toArray,List.length_map,List.length_range,sizeLine_eq]; lia) (by rw [Array.size_push,List.size_toArray,List.length_map,List.length_range,sizeLine_eq]; lia))
  refine wpAny_pure ⟨rfl,_,key_push J hj (by lia) hsz x1 x2 m (by lia),?_⟩
  show s.heap.objs.size + 1 < (s''.heap.update (s.heap.objs.size + 1) (Obj.mapSeq (·.push (.ref (s'.heap.objs.size + 1))))).objs.size
  rw [Heap.size_update]
  lia
 case done =>
  rintro s' ⟨κ,J,hsz⟩
  have J : KInv n hs a (s.heap.objs.size + 1) e1 s 3 κ s' := J
  obtain ⟨e,hk⟩ := J.ks
  try dsimp only
  refine wpAny_bind (listItems_at hk rfl ?_)
  let ks : List Value := (List.range 3).map fun j => .ref (κ j)
  have ek : ks = [.ref (κ 0),.ref (κ 1),.ref (κ 2)] := rfl
  let it : Array Keyed := #[(.ref (κ 0),.ref (hs 0)),(.ref (κ 1),.ref (hs 1)),(.ref (κ 2),.ref (hs 2))]
  have eit : ks.toArray.zip (itemsV hs).toArray = it := by
   rw [List.zip_toArray]
   rfl
  have ki : ∀ i,i < 3 → kas_item it i = (.ref (κ i),.ref (hs i)) := by
   intro i hi
   match i,hi with
   | 0,_ => rfl
   | 1,_ => rfl
   | 2,_ => rfl
  have hT : ∀ v ∈ ks,Looks (model prg w) s'.heap (typeOf v) (.ref (n + 60)) := by
   intro v hv
   obtain ⟨j,hj,rfl⟩ := List.mem_map.mp hv
   have := J.inst j (List.mem_range.mp hj)
   exact (Looks.ld this).andThen .now
  show wpAny (model prg w) A1 (ksk_end a false (itemsV hs).toArray e1 (.ref (s.heap.objs.size + 1)) ks.toArray) _ _ s'
  unfold ksk_end
  try dsimp only
  rw [if_neg (by simp),if_neg (by simp [itemsV]),if_neg (by simp [itemsV]),if_neg (by simp)]
  refine wpAny_bind (kas_kind (T := .ref (n + 60)) (by simp [ks]) hT (by simp) (by simp) ?_)
  have est : SortSt.mk' oneType' (ks.toArray.zip (itemsV hs).toArray) #[] 7 none = kas_st oneType' it (List.toArray (List.range 3)) := by
   have e := kas_range it
   have hz : it.size = 3 := rfl
   rw [hz] at e
   rw [eit]
   show SortSt.mk' oneType' it #[] 7 none = SortSt.mk' oneType' ((List.toArray (List.range 3)).map (kas_item it)) #[] 7 none
   rw [e]
  have ask : (kas_sort 3).kasWp (kas_cmp prg w A1 oneType' it) (fun p' s'' => p' = evalK (less p q r) (kas_sort 3) ∧ Mv [] s' s'') s' := by
   refine kas_eval (L := less p q r) (St := fun s'' => Mv [] s' s'') (fun i j hi hj hne C s'' hm hC => ?_) _ (sort_law W).1 s' Mv.refl fun s'' hm => ⟨rfl,hm⟩
   unfold kas_cmp
   rw [ki i hi,ki j hj]
   have T' : KSt PT w n t lam lc qc s'' := T.keep (J.mv.trans (hm.mono (by simp))) (fun i hi => by simp; lia) (by simp; lia) (by simp; lia) (fun b hb => by rw [List.mem_singleton] at hb; subst hb; exact offa)
   have low1 := J.low i hi
   have low2 := J.low j hj
   have fresh : ∀ b,s.heap.objs.size ≤ b → lkP PT w.params b = none := fun b hb => told_lt T.lit hb
   have far : κ i + 2 ≤ κ j ∨ κ j + 2 ≤ κ i := by
    rcases Nat.lt_or_gt_of_ne hne with h | h
    ·exact .inl (J.gap i j h hj)
    ·exact .inr (J.gap j i h hi)
   have hn64 : n + 64 ≤ s.heap.objs.size := by lia
   refine ask_ok (z := sg i j) hd1 hu1 hh1 T' off offl offc hlam hlc (hm.keep _ _ (J.inst i hi) (by simp)) (hm.keep _ _ (J.dict i hi) (by simp)) (hm.keep _ _ (J.inst j hj) (by simp)) (hm.keep _ _ (J.dict j hj) (by simp)) ?_ ?_ (CL i j hi hj hne) fun s3 m3 => ?_
   ·rcases far with h | h
    ·exact nd_perm (a := κ i - 1) (l := [κ i,κ j - 1,κ j]) (p := [1,0,3,2]) (N := 4) ⟨by lia,by lia,by lia,trivial⟩ (by decide) rfl (by decide)
    ·exact nd_perm (a := κ j - 1) (l := [κ j,κ i - 1,κ i]) (p := [3,2,1,0]) (N := 4) ⟨by lia,by lia,by lia,trivial⟩ (by decide) rfl (by decide)
   ·intro x hx
    revert x
    refine ac ?_ (ac ?_ (ac ?_ (ac ?_ (an))))
    ·exact ⟨by lia,fresh _ (by lia)⟩
    ·exact ⟨by lia,fresh _ (by lia)⟩
    ·exact ⟨by lia,fresh _ (by lia)⟩
    ·exact ⟨by lia,fresh _ (by lia)⟩
   ·rw [hL i j hi hj hne]
    exact hC s3 (hm.trans m3)
  rw [est]
  refine wpAny_bind (wpAny_mono (kas_runs (E := fun _ _ => False) (Q := fun _ st' s'' => arrOf st' = (evalK (less p q r) (kas_sort 3)).map (kas_item it) ∧ failedOf st' = none ∧ Mv [] s' s'') (by lia) (by lia) (fun p' st' s'' _ a2 a3 a4 => ⟨by rw [a2,a4.1],a3,a4.2⟩) ask) ?_ fun _ _ hF => hF.elim)
  rintro ⟨⟨⟩,st'⟩ s'' ⟨har,hf,hm⟩
  have har : arrOf st' = (evalK (less p q r) (kas_sort 3)).map (kas_item it) := har
  have hf : failedOf st' = none := hf
  show wpAny (model prg w) A1 (ksk_tail a false e1 (.ref (s.heap.objs.size + 1)) st') _ _ s''
  have nk : s''.heap.get? (s.heap.objs.size + 1) = some (lst ks e) := hm.keep _ _ hk (by simp)
  have na : s''.heap.get? a = some (lst [] e1) := hm.keep _ _ J.aa (by simp)
  have hne : a ≠ s.heap.objs.size + 1 := by lia
  have hord : ∀ i ∈ ordOf p q r,i < 3 := by
   have := weak_perm W
   simp only [List.mem_cons,List.not_mem_nil,or_false,Prod.mk.injEq] at this
   rcases this with ⟨_,h⟩ | ⟨_,h⟩ | ⟨_,h⟩ | ⟨_,h⟩ | ⟨_,h⟩ | ⟨_,h⟩ <;> rw [h] <;> decide
  have hlen : (ordOf p q r).length = 3 := by simp [ordOf]
  have hout : (arrOf st').map (·.2) = ((ordOf p q r).map fun i => Value.ref (hs i)).toArray := by
   apply Array.toList_inj.mp
   rw [har,Array.map_map,Array.toList_map,(sort_law W).2]
   exact List.map_congr_left fun i hi => by show (kas_item it i).2 = _; rw [ki i (hord i hi)]
  have hosz : ((arrOf st').map (·.2)).size = 3 := by rw [hout]; simp [hlen]
  have t1 := Heap.SameBut.update s''.heap (s.heap.objs.size + 1) (Obj.mapSeq fun _ => (#[] : Array Value))
  have na1 : (s''.heap.update (s.heap.objs.size + 1) (Obj.mapSeq fun _ => (#[] : Array Value))).get? a = some (seqObj "list" #[] e1) := (t1.2 a hne).trans na
  have t2 := Heap.SameBut.update (s''.heap.update (s.heap.objs.size + 1) (Obj.mapSeq fun _ => (#[] : Array Value))) a (Obj.mapSeq fun _ => (arrOf st').map (·.2))
  obtain ⟨c2,hc2⟩ : ∃ c2,((s''.heap.update (s.heap.objs.size + 1) (Obj.mapSeq fun _ => (#[] : Array Value))).update a (Obj.mapSeq fun _ => (arrOf st').map (·.2))).get? a = some (seqObj "list" ((arrOf st').map (·.2)) c2) := ⟨_,get?_update_seq (c := "list") (xs := #[]) (n := e1) na1 (fun _ => (arrOf st').map (·.2))⟩
  unfold ksk_tail
  try dsimp only
  refine wpAny_bind (listUpdate_at nk rfl ?_ (by show ks.toArray.size ≤ _; rw [sizeLine_eq]; simp [ks]) (Nat.zero_le _))
  refine wpAny_bind (wpAny_letGo ?_)
  refine wpAny_bind (seqEpoch_at na1 rfl ?_)
  rw [if_neg (by simp)]
  refine wpAny_bind (listUpdate_at na1 rfl ?_ (Nat.zero_le _) (Nat.le_trans (Nat.le_of_eq hosz) (by rw [sizeLine_eq]; lia)))
  rw [hf]
  simp only [bne_self_eq_false,Bool.false_eq_true,if_false]
  refine wpAny_pure ⟨rfl,⟨c2,?_⟩,?_⟩
  ·have e2 : seqObj "list" ((arrOf st').map (·.2)) c2 = lst ((ordOf p q r).map fun i => .ref (hs i)) c2 := by rw [hout]; rfl
   rw [← e2]
   exact hc2
  ·refine ⟨?_,fun b o h hb => ?_,fun h => hm.bare (J.mv.bare h),hm.os.trans J.mv.os⟩
   ·show s.heap.objs.size ≤ ((s''.heap.update (s.heap.objs.size + 1) (Obj.mapSeq fun _ => (#[] : Array Value))).update a (Obj.mapSeq fun _ => (arrOf st').map (·.2))).objs.size
    rw [Heap.size_update,Heap.size_update]
    exact Nat.le_trans J.mv.grow hm.grow
   ·have hb1 : @LT.lt Nat _ b s.heap.objs.size := Heap.lt_size h
    have hb2 : b ≠ a := by simpa using hb
    exact (t2.2 b hb2).trans ((t1.2 b (by show @Ne Nat _ _; lia)).trans (hm.keep b o (J.mv.keep b o h hb) (by simp)))
end
end Mine.G
end
section
open PySem.Calls PySem.SeqAt
namespace Mine.G
theorem all2_of {α β : Type} {R : α → β → Prop} : ∀ {l : List α} {m : List β},l.length = m.length → (∀ (i : Nat) a b,l[i]? = some a → m[i]? = some b → R a b) → All2 R l m
 | [],[],_,_ => .nil
 | [],_ :: _,h,_ => by cases h
 | _ :: _,[],h,_ => by cases h
 | a :: l,b :: m,h,k => .cons (k 0 a b rfl rfl) (all2_of (Nat.succ.inj h) fun i x y h1 h2 => k (i + 1) x y h1 h2)
theorem due_mem {T : Sl} {ω : Nat → Nat} {j : Nat} (h : j < 14) : dueE T.ks T.ks.length ω j ∈ (dueS T).news ω := by
 have e : (dueS T).news ω = [(ω 2,lst [.ref (ω 3),.int (.ofNat T.ks.length) (ω 4),.str (txt T.ks) (ω 5),.int (T.f + sumLen T.ks) (ω 6)] 0),(ω 3,lst (refs ((List.range T.ks.length).map fun j => ω (7 + 2 * j))) T.ks.length)] ++ (List.range 14).map (dueE T.ks T.ks.length ω) := rfl
 rw [e]
 exact List.mem_append_right _ (List.mem_map.mpr ⟨j,List.mem_range.mpr h,rfl⟩)
theorem due_at {h : Heap} {T : Sl} {ω : Nat → Nat} (k6 : ∀ k ∈ T.ks,k < 6) (h14 : T.ks.length ≤ 14) (H : ∀ p ∈ (dueS T).news ω,h.get? p.1 = some p.2) : DueAt h T (ω 2) := by
 refine ⟨ω 3,(List.range T.ks.length).map (fun j => ω (7 + 2 * j)),ω 4,ω 5,ω 6,H (ω 2,lst [.ref (ω 3),.int (.ofNat T.ks.length) (ω 4),.str (txt T.ks) (ω 5),.int (T.f + sumLen T.ks) (ω 6)] 0) (List.mem_of_getElem? (i := 0) rfl),H (ω 3,lst (refs ((List.range T.ks.length).map fun j => ω (7 + 2 * j))) T.ks.length) (List.mem_of_getElem? (i := 1) rfl),?_⟩
 refine all2_of (by simp) fun i x k hx hk => ?_
 have hi : i < T.ks.length := (List.getElem?_eq_some_iff.mp hk).1
 rw [List.getElem?_map,List.getElem?_range hi] at hx
 have hx : x = ω (7 + 2 * i) := (Option.some.inj hx).symm
 subst hx
 refine ⟨k6 k (List.mem_of_getElem? hk),ω (8 + 2 * i),?_⟩
 have := H _ (due_mem (j := i) (by lia))
 unfold dueE at this
 rw [if_pos hi] at this
 have e : T.ks.getD i 0 = k := by rw [List.getD_eq_getElem?_getD,hk]; rfl
 rw [← e]
 exact this
theorem ord_lt {p q r : Int} (h : weak p q r = true) {a b c : Nat} (ho : ordOf p q r = [a,b,c]) : a < 3 ∧ b < 3 ∧ c < 3 := by
 have W := weak_perm h
 simp only [List.mem_cons,List.not_mem_nil,or_false,Prod.mk.injEq] at W
 rcases W with ⟨_,h⟩ | ⟨_,h⟩ | ⟨_,h⟩ | ⟨_,h⟩ | ⟨_,h⟩ | ⟨_,h⟩ <;> rw [ho] at h <;> simp only [List.cons.injEq,and_true] at h <;> lia
section
variable {w : World} {A : Around} {Q : Result → Shared → Prop} {E : Value → Shared → Prop}
theorem Lb_nd {n : Nat} (hn : 281 ≤ n) : (Lb n).Nodup := nd3 (l := [0,1,2,108,6,7]) (k := [191,276]) (by decide) (by decide) (ac (by lia) (ac (by lia) an))
theorem st_b {PT PT' : Nat → Option Obj} {S : Nat → Sl} (I : Told PT PT' S) {c0 : Code} {κ : List Frm} {k₀ : Result → Sem Result} {M : Mem} {s : Shared} {n t es eH eR eF : Nat} {sv nv : List Value} {om : Om}
  (hR : lawRA (fun _ => none) w n t es sv nv om = some (.at_ c0 κ k₀,M))
  (hd : A.depth ≤ 700) (hu : A.units ≤ 6000) (hh : A.handled = none) (hk : kOk κ) (hn : 281 ≤ n) (lit : ∀ a o,lkP PT' w.params a = some o → s.heap.get? a = some o)
  (off : ∀ x ∈ [n,n + 1,n + 2,n + 108,n + 6,n + 7],lkP PT' w.params x = none) (hno : ∀ a lc,lkP PT' w.params a ≠ some (lamO 6 lc))
  (pn : s.heap.get? n = some (lawFr w.params n t)) (p1 : s.heap.get? (n + 1) = some (cellO (n + 6))) (p2 : s.heap.get? (n + 2) = some (cellO (n + 7)))
  (pH : s.heap.get? (n + 108) = some (hsO (S 0) (S 1) (S 2) eH)) (pR : s.heap.get? (n + 6) = some (rsO (S 0) (S 1) (S 2) eR)) (pF : s.heap.get? (n + 7) = some (lst (fvL (S 0) (S 1) (S 2)) eF))
  (p191 : s.heap.get? 191 = some (tb [])) (p276 : s.heap.get? 276 = some (tb [])) (p63 : s.heap.get? 63 = some (tb [])) (p70 : s.heap.get? 70 = some (tb []))
  (hQ : ∀ s',Mv [n,191,276,63,70] s s' → TabAt s' 191 → TabAt s' 276 → TabAt s' 63 → TabAt s' 70 → Q (.ok (.ret (.bool true))) s') : en prg w A Q E k₀ κ (.ok (.ret .none)) s := by
 obtain ⟨a,b,c,ho,ord⟩ := order_ok (w := w) (R := n + 6) (eR := eR) I.tr (off _ (by simp))
 obtain ⟨ha,hb,hc⟩ := ord_lt (sgn_weak _ _ _) ho
 have hlt : @LT.lt Nat _ (n + 108) s.heap.objs.size := Heap.lt_size pH
 have fresh : ∀ b,s.heap.objs.size ≤ b → lkP PT' w.params b = none := fun b hb => told_lt lit hb
 have St : StartP PT' w s.heap.objs.size s.toks (Lb n) (Ub w.params n t eH eR eF (S 0) (S 1) (S 2)) s := by
  refine startP_of (Lb_nd hn) (fun x hx => ?_) rfl lit ?_
  ·by_cases h : x = 191 ∨ x = 276
   ·rcases h with rfl | rfl <;> rfl
   ·exact off x (by simp only [Lb,List.mem_cons,List.not_mem_nil,or_false] at hx ⊢; lia)
  ·intro p hp
   revert p
   refine zc ?_ (zc ?_ (zc ?_ (zc ?_ (zc ?_ (zc ?_ (zc ?_ (zc ?_ (zn))))))))
   ·exact pn
   ·exact p1
   ·exact p2
   ·exact pH
   ·exact pR
   ·exact pF
   ·exact p191
   ·exact p276
 have X0 := I.acc a ha
 have X1 := I.acc b hb
 have X2 := I.acc c hc
 have gAt : ∀ {T : Sl},Acc PT PT' T → XOkP PT' w (dueS T) := fun X => dueX_ok (lkP_at X.ok.low.2 X.ok.row) X.ok.low.2 X.ok.rint X.k6 X.len14
 have rv : ∀ i,i < 3 → (rvL (S 0) (S 1) (S 2))[((i : Nat) : Int).toNat]? = some (.ref (S i).r) := by
  intro i hi
  match i,hi with
  | 0,_ => rfl
  | 1,_ => rfl
  | 2,_ => rfl
 have fv : ∀ i,i < 3 → (fvL (S 0) (S 1) (S 2))[((i : Nat) : Int).toNat]? = some (.int (S i).f (S i).fu) := by
  intro i hi
  match i,hi with
  | 0,_ => rfl
  | 1,_ => rfl
  | 2,_ => rfl
 refine stop_stopP ent1_ok entQ1_eq St (fun om2 C hC => ?_) (fun om2 C hC => ?_) (dm := 740) (um := 6500) (by lia) (by lia) hh hk (fun om2 => lawB2 (PT := fun _ => none) (es := es) (sv := sv) (nv := nv) (T0 := S a) (T1 := S b) (T2 := S c) (a := a) (b := b) (c := c) (om := om) rfl hR) fun om2 κ' k₀' M' hR' Hd s3 B => ?_
 ·revert C
  refine ac ?_ (ac ?_ (ac ?_ (ac ?_ (ac ?_ (ac ?_ (ac ?_ (ac ?_ (an))))))))
  ·exact ctrP (get_ok (by lia) (kLow ha) (rv a ha))
  ·exact ctrP (get_ok (by lia) (kLow ha) (fv a ha))
  ·exact ctrP (get_ok (by lia) (kLow hb) (rv b hb))
  ·exact ctrP (get_ok (by lia) (kLow hb) (fv b hb))
  ·exact ctrP (get_ok (by lia) (kLow hc) (rv c hc))
  ·exact ctrP (get_ok (by lia) (kLow hc) (fv c hc))
  ·exact key_ok (by unfold lamO tb; simp) (hno _ _)
  ·exact ctrP iaddL_ok
 ·revert C
  refine ac ?_ (ac ?_ (ac ?_ (ac ?_ (ac ?_ (an)))))
  ·exact all_ok I.tr (by lia) (off _ (by simp)) (off _ (by simp))
  ·exact ord
  ·exact gAt X0
  ·exact gAt X1
  ·exact gAt X2
 ·have keep := (B.butP St (Ch := [n,191,276]) ⟨.inl m0,.inr rfl,.inr rfl,.inr rfl,.inr rfl,.inr rfl,.inl m1,.inl m2,trivial⟩).keep
  have lit3 : ∀ a o,lkP PT' w.params a = some o → s3.heap.get? a = some o := by
   intro x o h
   refine keep x o (lit x o h) fun hm => ?_
   simp only [List.mem_cons,List.not_mem_nil,or_false] at hm
   rcases hm with rfl | rfl | rfl
   ·rw [off _ (by simp)] at h; cases h
   ·have : lkP PT' w.params 191 = none := rfl
    rw [this] at h; cases h
   ·have : lkP PT' w.params 276 = none := rfl
    rw [this] at h; cases h
  have o0 := B.own 0 _ _ rfl
  have o1 := B.own 1 _ _ rfl
  have o2 := (B.own 2 _ _ rfl).2
  have o3 := (B.own 3 _ _ rfl).2
  have o4 := (B.own 4 _ _ rfl).2
  have o5 := (B.own 5 _ _ rfl).2
  have o6 := (B.own 6 _ _ rfl).2
  have o7 := (B.own 7 _ _ rfl).2
  have o8 := (B.own 8 _ _ rfl).2
  have o9 := (B.own 9 _ _ rfl).2
  have o10 := (B.own 10 _ _ rfl).2
  have o11 := (B.own 11 _ _ rfl).2
  have q0 := B.old 0 _ _ rfl rfl
  have q6 := B.old 6 _ _ rfl rfl
  have q7 := B.old 7 _ _ rfl rfl
  have g1 : s.heap.objs.size ≤ om2 4 0 + 7 := o1.1
  have g0 : s.heap.objs.size ≤ om2 1 0 + 1 := o0.1
  have o0 := o0.2
  have o1 := o1.2
  have fz : ∀ p ∈ (dueS (S a)).news (om2 2) ++ ((dueS (S b)).news (om2 3) ++ (dueS (S c)).news (om2 4)),s3.heap.get? p.1 = some p.2 := fun p hp => (B.frz p.1 p.2 (List.mem_cons_of_mem _ hp)).2
  have d0 : DueAt s3.heap (S a) (om2 2 2) := due_at X0.k6 X0.len14 fun p hp => fz p (List.mem_append_left _ hp)
  have d1 : DueAt s3.heap (S b) (om2 3 2) := due_at X1.k6 X1.len14 fun p hp => fz p (List.mem_append_right _ (List.mem_append_left _ hp))
  have d2 : DueAt s3.heap (S c) (om2 4 2) := due_at X2.k6 X2.len14 fun p hp => fz p (List.mem_append_right _ (List.mem_append_right _ hp))
  have K : KSt PT' w (om2 4 0 + 9) (om2 4 1 + 8) (om2 4 0 + 8) (om2 4 0 + 7) ⟨om2 4 1 + 1,om2 4 0 + 2,om2 4 0 + 3,om2 4 0 + 4,om2 4 0 + 5,om2 4 0 + 6⟩ s3 :=
   ⟨lit3,o7,o6,o3,o8,o9,o10,o5,o4,o2,o1⟩
  have hdu := Hd.depth
  have huu := Hd.units
  have off3 : ∀ b,s.heap.objs.size ≤ b → lkP PT' w.params b = none := fresh
  have hDL : om2 1 0 + 1 ≠ om2 4 0 + 74 := fun e => by
   have h := o0
   rw [e,o11] at h
   have h := congrArg (fun o : Obj => o.data) (Option.some.inj h)
   simp [lst] at h
  refine codeAny_mono (sort_ok (a := om2 4 0 + 74) (hs := fun i => (S i).a) (p := sP S) (q := sQ S) (r := sR S) (sg := sG S) (by lia) (by lia) Hd.handled K (by lia) (fun i hi => off3 _ (by lia)) (off3 _ (by lia)) (off3 _ (by lia)) (by lia) (by lia) (by lia) (off3 _ (by lia)) o11
   (fun i j hi hj hij => I.lam6 hi hj hij (by lia) (off3 _ (by lia)) (off3 _ (by lia))) (fun i j hi hj hij => less_sgI i j hi hj hij) (sgn_weak _ _ _)) fun r s4 h => ?_
  obtain ⟨rfl,⟨e',pL⟩,m⟩ := h
  rw [ho] at pL
  have k4 : ∀ (x : Nat) o,s3.heap.get? x = some o → x ≠ om2 4 0 + 74 → s4.heap.get? x = some o := fun x o h hx => m.keep x o h (by simpa using hx)
  have old4 : ∀ (x : Nat) o,s.heap.get? x = some o → x ∉ [n,191,276] → s4.heap.get? x = some o := fun x o h hx => k4 x o (keep x o h hx) (by
   have : @LT.lt Nat _ x s.heap.objs.size := Heap.lt_size h
   lia)
  have kd : ∀ (x : Nat) o,s3.heap.get? x = some o → (o.cls = .type "list" ∨ o.cls = .type "tuple") → x ≠ om2 4 0 + 74 → s4.heap.get? x = some o := fun x o h _ hx => k4 x o h hx
  have due4 : ∀ {T : Sl} {q : Nat},DueAt s3.heap T q → DueAt s4.heap T q := by
   rintro T q ⟨p,ps,a,b,c,h1,h2,h3⟩
   refine ⟨p,ps,a,b,c,k4 _ _ h1 fun e => ?_,?_,h3.mono fun x k' t e => k4 _ _ e fun e' => ?_⟩
   ·rw [e,o11] at h1
    have h := congrArg (fun o : Obj => o.data) (Option.some.inj h1)
    simp [lst] at h
   ·refine k4 _ _ h2 fun e => ?_
    rw [e,o11] at h2
    have h := congrArg (fun o : Obj => o.data) (Option.some.inj h2)
    simp only [lst,Data.seq.injEq] at h
    have hl : ps.length = T.ks.length := All2.length h3
    have h5 := congrArg Array.size h.1
    simp [refs] at h5
    lia
   ·rw [e',o11] at e
    exact absurd (congrArg Obj.cls (Option.some.inj e)) (by simp [piece,lst])
  have hlt2 : n + 108 < om2 1 0 + 1 := by lia
  refine st_c I ho ha hb hc (D := om2 1 0 + 1) (td := om2 4 1) (lc6 := om2 4 0 + 7) (q0 := om2 2 2) (q1 := om2 3 2) (q2 := om2 4 2) (La := om2 4 0 + 74) (R2 := lawRB (cw w) (fun _ => none) w n t es sv nv om PT' s.heap.objs.size s.toks eH eR eF (S 0) (S 1) (S 2) (S a) (S b) (S c) a b c om2) (by delta lawRB; rw [hR]; exact hR') (fun _ _ _ => lawC rfl) (fun _ _ _ _ _ _ => lawD rfl) (by lia) (by lia) hh Hd.ok ?_ ?_ ?_ ?_ ?_ pL ?_ ?_ ?_ ?_ (due4 d0) (due4 d1) (due4 d2) fun s' m' t276 t63 t70 => hQ s' ?_ ⟨_,m'.keep _ _ (k4 _ _ q6 (by lia)) (by simp; lia)⟩ t276 t63 t70
  ·intro x o h
   exact k4 x o (lit3 x o h) fun e => by
    rw [e,off3 _ (by lia)] at h; cases h
  ·intro x hx
   revert x
   refine ac ?_ (ac ?_ (ac ?_ (ac ?_ (an))))
   ·exact off _ (by simp)
   ·exact off _ (by simp)
   ·exact off3 _ (by lia)
   ·exact off3 _ (by lia)
  ·rcases Nat.lt_or_gt_of_ne hDL with q | q
   ·exact nd_perm (a := 63) (l := [70,276,n,n + 108,om2 1 0 + 1,om2 4 0 + 74]) (p := [3,4,6,2,5,0,1]) (N := 7) ⟨by decide,by decide,by lia,by lia,by lia,q,trivial⟩ (by decide) rfl (by decide)
   ·exact nd_perm (a := 63) (l := [70,276,n,n + 108,om2 4 0 + 74,om2 1 0 + 1]) (p := [3,4,5,2,6,0,1]) (N := 7) ⟨by decide,by decide,by lia,by lia,by lia,q,trivial⟩ (by decide) rfl (by decide)
  ·exact k4 _ _ q0 (by lia)
  ·exact old4 _ _ pH (by simp; lia)
  ·exact k4 _ _ q7 (by lia)
  ·exact k4 _ _ o0 hDL
  ·exact old4 _ _ p63 (by simp; lia)
  ·exact old4 _ _ p70 (by simp; lia)
  ·refine ⟨Nat.le_trans B.grow (Nat.le_trans m.grow m'.grow),fun x o h hx => m'.keep x o (old4 x o h ?_) ?_,fun h => m'.bare (m.bare (B.bare h)),m'.os.trans (m.os.trans B.os)⟩
   ·simp only [List.mem_cons,List.not_mem_nil,or_false,not_or] at hx ⊢
    lia
   ·simp only [List.mem_cons,List.not_mem_nil,or_false,not_or] at hx ⊢
    lia
end
end Mine.G
end
section
open PySem.Calls PySem.SeqAt
namespace Mine.G
noncomputable def ptOf (h : Heap) (l : List Nat) (a : Nat) : Option Obj := if a ∈ l then h.get? a else none
theorem ptOf_in {h : Heap} {l : List Nat} {a : Nat} (m : a ∈ l) : ptOf h l a = h.get? a := if_pos m
theorem ptOf_out {h : Heap} {l : List Nat} {a : Nat} (m : a ∉ l) : ptOf h l a = none := if_neg m
theorem ptOf_get {h : Heap} {l : List Nat} {a : Nat} {o : Obj} (e : ptOf h l a = some o) : a ∈ l ∧ h.get? a = some o := by
 unfold ptOf at e
 split at e
 ·exact ⟨‹_›,e⟩
 ·cases e
noncomputable def olds (h : Heap) (k : Nat) : List (Nat × Obj) := (List.range k).filterMap fun b => (h.get? b).map fun o => (b,o)
theorem mem_olds {h : Heap} {k b : Nat} {o : Obj} : (b,o) ∈ olds h k ↔ b < k ∧ h.get? b = some o := by
 unfold olds
 simp only [List.mem_filterMap,List.mem_range,Option.map_eq_some_iff,Prod.mk.injEq]
 constructor
 ·rintro ⟨c,hc,o',ho,rfl,rfl⟩
  exact ⟨hc,ho⟩
 ·rintro ⟨hb,ho⟩
  exact ⟨b,hb,o,ho,rfl,rfl⟩
theorem All2.memL {α β : Type} {R R' : α → β → Prop} {l : List α} {m : List β} (h : All2 R l m) (k : ∀ a b,a ∈ l → R a b → R' a b) : All2 R' l m := by
 induction h with
 | nil => exact .nil
 | cons a _ ih => exact .cons (k _ _ (List.mem_cons_self ..) a) (ih fun a b h => k a b (List.mem_cons_of_mem _ h))
theorem ints_one {rv : List Value} {ks : List Nat} (h : Ints rv ks) : ∀ {ls : List Nat},Ints rv ls → ks = ls := by
 induction h with
 | nil => intro ls h2; cases h2; rfl
 | cons a _ ih =>
  intro ls h2
  cases h2 with
  | cons b t =>
   obtain ⟨_,e1⟩ := a
   obtain ⟨_,e2⟩ := b
   rw [e1] at e2
   simp only [Value.int.injEq,Int.ofNat.injEq] at e2
   rw [e2.1,ih t]
theorem Pcs.memAt {h : Heap} {xs ks : List Nat} (P : Pcs h xs ks) : ∀ {x : Nat},x ∈ xs → ∃ k t,h.get? x = some (piece k t) := by
 intro x hx
 obtain ⟨i,hi⟩ := List.getElem?_of_mem hx
 obtain ⟨b,_,_,t,ht⟩ := All2.at_ P i x hi
 exact ⟨b,t,ht⟩
theorem Pcs.k6 {h : Heap} {xs ks : List Nat} (P : Pcs h xs ks) : ∀ k ∈ ks,k < 6 := by
 induction P with
 | nil => intro k hk; cases hk
 | cons a _ ih =>
  intro k hk
  rcases List.mem_cons.mp hk with rfl | hk
  ·exact a.1
  ·exact ih k hk
noncomputable def slOf (X : Slot) : Sl := { a := X.a,dd := X.dd,r := X.r,ea := X.ea,er := X.er,xs := X.xs,rv := X.rv,ks := X.ks,f := X.f,fu := X.fu,g1 := X.g1,t1 := X.t1,u := X.u,e1 := X.e1 }
noncomputable def slAt (X0 X1 X2 : Slot) : Nat → Sl
 | 0 => slOf X0
 | 1 => slOf X1
 | _ => slOf X2
noncomputable abbrev dom0 (X0 X1 X2 : Slot) : List Nat := X0.xs ++ X1.xs ++ X2.xs
noncomputable abbrev dom1 (X0 X1 X2 : Slot) : List Nat := dom0 X0 X1 X2 ++ [X0.a,X1.a,X2.a,X0.r,X1.r,X2.r,X0.dd,X1.dd,X2.dd]
noncomputable def ownFn (o : Obj) : Bool := match o.data with
 | .func f => f.qualname == Str.ofString "law.<locals>.<lambda>"
 | _ => false
theorem lits_no {P : Params} : ((List.range 281).all fun a => match lkQ P a with | some o => !ownFn o | none => true) = true := by kernel_rfl
theorem lit_no {P : Params} {a lc : Nat} : lkQ P a ≠ some (lamO 6 lc) := fun h => by
 have ha : a < 281 := by
  rcases Nat.lt_or_ge a 281 with z | z
  ·exact z
  ·rw [lkQ_low z] at h; cases h
 have := List.all_eq_true.mp (lits_no (P := P)) a (List.mem_range.mpr ha)
 rw [h] at this
 have e : ownFn (lamO 6 lc) = true := by kernel_rfl
 simp [e] at this
section
variable {w : World} {N H R F eN eH eR eF : Nat} {nums : List Value} {X0 X1 X2 : Slot} {ex : List (Nat × Obj)} {s : Shared}
theorem dom_obj (I : DIn w N H R F eN eH eR eF nums [X0,X1,X2] ex s) {x : Nat} (hx : x ∈ dom1 X0 X1 X2) : 281 ≤ x ∧ ∃ o,s.heap.get? x = some o ∧ (o.cls = .type "tuple" ∨ (x ∈ [X0.a,X1.a,X2.a] ∧ o.cls = .ref 101) ∨ (x ∈ [X0.r,X1.r,X2.r] ∧ o.cls = .type "list") ∨ (x ∈ [X0.dd,X1.dd,X2.dd] ∧ o.cls = .type "dict")) := by
 have s0 := I.slots X0 (by simp)
 have s1 := I.slots X1 (by simp)
 have s2 := I.slots X2 (by simp)
 have p : ∀ {S : Slot},SlotAt s.heap S → x ∈ S.xs → 281 ≤ x ∧ ∃ o,s.heap.get? x = some o ∧ (o.cls = .type "tuple" ∨ (x ∈ [X0.a,X1.a,X2.a] ∧ o.cls = .ref 101) ∨ (x ∈ [X0.r,X1.r,X2.r] ∧ o.cls = .type "list") ∨ (x ∈ [X0.dd,X1.dd,X2.dd] ∧ o.cls = .type "dict")) := by
  intro S hS hm
  obtain ⟨k,t,h⟩ := Pcs.memAt hS.pcs hm
  exact ⟨hS.lowp x hm,_,h,.inl rfl⟩
 simp only [List.mem_append,List.mem_cons,List.not_mem_nil,or_false] at hx
 rcases hx with ((hx | hx) | hx) | rfl | rfl | rfl | rfl | rfl | rfl | rfl | rfl | rfl
 ·exact p s0 hx
 ·exact p s1 hx
 ·exact p s2 hx
 ·exact ⟨I.low _ (by simp),_,s0.inst,.inr (.inl ⟨by simp,rfl⟩)⟩
 ·exact ⟨I.low _ (by simp),_,s1.inst,.inr (.inl ⟨by simp,rfl⟩)⟩
 ·exact ⟨I.low _ (by simp),_,s2.inst,.inr (.inl ⟨by simp,rfl⟩)⟩
 ·exact ⟨I.lowr _ (by simp),_,s0.row,.inr (.inr (.inl ⟨by simp,rfl⟩))⟩
 ·exact ⟨I.lowr _ (by simp),_,s1.row,.inr (.inr (.inl ⟨by simp,rfl⟩))⟩
 ·exact ⟨I.lowr _ (by simp),_,s2.row,.inr (.inr (.inl ⟨by simp,rfl⟩))⟩
 ·exact ⟨I.low _ (by simp),_,s0.dct,.inr (.inr (.inr ⟨by simp,rfl⟩))⟩
 ·exact ⟨I.low _ (by simp),_,s1.dct,.inr (.inr (.inr ⟨by simp,rfl⟩))⟩
 ·exact ⟨I.low _ (by simp),_,s2.dct,.inr (.inr (.inr ⟨by simp,rfl⟩))⟩
theorem dom_mem : ∀ X ∈ [X0,X1,X2],X.a ∈ dom1 X0 X1 X2 ∧ X.r ∈ dom1 X0 X1 X2 ∧ X.dd ∈ dom1 X0 X1 X2 ∧ ∀ x ∈ X.xs,x ∈ dom0 X0 X1 X2 :=
 ac ⟨by simp,by simp,by simp,fun x hx => by simp [hx]⟩ (ac ⟨by simp,by simp,by simp,fun x hx => by simp [hx]⟩ (ac ⟨by simp,by simp,by simp,fun x hx => by simp [hx]⟩ an))
theorem acc_of (I : DIn w N H R F eN eH eR eF nums [X0,X1,X2] ex s) {X : Slot} (hX : X ∈ [X0,X1,X2]) (hl : X.xs.length ≤ 14) : Acc (ptOf s.heap (dom0 X0 X1 X2)) (ptOf s.heap (dom1 X0 X1 X2)) (slOf X) := by
 have S := I.slots X hX
 have hk : X.xs.length = X.ks.length := All2.length S.pcs
 have no : ∀ {b : Nat} {o : Obj},s.heap.get? b = some o → o.cls ≠ .type "tuple" → ptOf s.heap (dom0 X0 X1 X2) b = none := by
  intro b o h hc
  refine ptOf_out fun hm => ?_
  have q : ∀ {Y : Slot},Y ∈ [X0,X1,X2] → b ∈ Y.xs → False := by
   intro Y hY hb
   obtain ⟨k,t,h'⟩ := Pcs.memAt (I.slots Y hY).pcs hb
   rw [h] at h'
   cases h'
   exact hc rfl
  simp only [List.mem_append] at hm
  rcases hm with (hm | hm) | hm
  ·exact q (by simp) hm
  ·exact q (by simp) hm
  ·exact q (by simp) hm
 obtain ⟨ma,mr,md,mx⟩ := dom_mem X hX
 have la : 281 ≤ X.a := I.low _ (by
  refine List.mem_append_right _ (List.mem_flatMap.mpr ⟨X,hX,by simp⟩))
 have ld : 281 ≤ X.dd := I.low _ (by
  refine List.mem_append_right _ (List.mem_flatMap.mpr ⟨X,hX,by simp⟩))
 exact
  {ok :=
    {inst := (ptOf_in ma).trans S.inst
     row := (ptOf_in mr).trans S.row
     low := ⟨la,I.lowr X hX⟩
     none := no S.inst (by simp [inst])
     pcs := All2.memL S.pcs fun x k hx h => ⟨h.1,S.lowp x hx,by
      obtain ⟨t,ht⟩ := h.2
      exact ⟨t,(ptOf_in (mx x hx)).trans ht⟩⟩
     rint := S.rint
     len := by show X.ks.length ≤ 100; lia }
   dct := (ptOf_in md).trans S.dct
   lowd := ld
   noned := no S.dct (by simp [dct])
   fb := S.fb
   len14 := by show X.ks.length ≤ 14; lia
   k6 := Pcs.k6 S.pcs }
theorem rows_same {h : Heap} {X Y : Slot} (hX : SlotAt h X) (hY : SlotAt h Y) (e : X.r = Y.r) : X.rv = Y.rv ∧ X.er = Y.er ∧ X.ks = Y.ks := by
 have h1 := hX.row
 rw [e,hY.row] at h1
 have h2 := congrArg (fun o : Obj => o.data) (Option.some.inj h1)
 simp only [lst,Data.seq.injEq] at h2
 have h3 : Y.rv = X.rv := by simpa using h2.1
 refine ⟨h3.symm,h2.2.symm,?_⟩
 have i1 := hX.rint
 rw [← h3] at i1
 exact ints_one i1 hY.rint
theorem told_of (I : DIn w N H R F eN eH eR eF nums [X0,X1,X2] ex s) (hl : ∀ X ∈ [X0,X1,X2],X.xs.length ≤ 14) : Told (ptOf s.heap (dom0 X0 X1 X2)) (ptOf s.heap (dom1 X0 X1 X2)) (slAt X0 X1 X2) := by
 have s0 := I.slots X0 (by simp)
 have s1 := I.slots X1 (by simp)
 have s2 := I.slots X2 (by simp)
 have a0 := acc_of I (X := X0) (by simp) (hl _ (by simp))
 have a1 := acc_of I (X := X1) (by simp) (hl _ (by simp))
 have a2 := acc_of I (X := X2) (by simp) (hl _ (by simp))
 have nd := I.nodup
 simp only [fx0,List.flatMap_cons,List.flatMap_nil,List.append_nil,List.cons_append,List.nil_append,List.nodup_cons,List.mem_cons,List.not_mem_nil,or_false,not_or] at nd
 refine ⟨⟨fun a o h => ?_,a0.ok,a1.ok,a2.ok,?_,?_,?_,fun e => rows_same s0 s1 e,fun e => rows_same s1 s2 e,fun e => rows_same s2 s0 e⟩,fun i hi => ?_⟩
 ·obtain ⟨m,g⟩ := ptOf_get h
  exact (ptOf_in (List.mem_append_left _ m)).trans g
 ·show X0.a ≠ X1.a
  lia
 ·show X1.a ≠ X2.a
  lia
 ·show X2.a ≠ X0.a
  lia
 ·match i,hi with
  | 0,_ => exact a0
  | 1,_ => exact a1
  | 2,_ => exact a2
end
section
variable {w : World} {A : Around} {s : Shared} {sv : List Value} {es : Nat}
theorem law_okC : okCode (.call (.ref 279) ⟨[.ref 280],[]⟩) = true := by kernel_rfl
theorem law_ok (hd : A.depth ≤ 310) (hu : A.units ≤ 3000) (hh : A.handled = none) (hn : 281 ≤ s.heap.objs.size) (lit : ∀ a o,lkQ w.params a = some o → s.heap.get? a = some o) (p280 : s.heap.get? 280 = some (lst sv es))
  (p63 : s.heap.get? 63 = some (tb [])) (p70 : s.heap.get? 70 = some (tb [])) (p191 : s.heap.get? 191 = some (tb [])) (p276 : s.heap.get? 276 = some (tb [])) (hx : ∀ v ∈ sv,∃ x t,v = .int x t) (hlen : sv.length ≤ 63) :
  codeAny (model prg w) A (.call (.ref 279) ⟨[.ref 280],[]⟩) (fun r s' => r = .ok (.ret (.bool true)) ∧ Mv [191,276,63,70] s s' ∧ ∀ P ∈ [191,276,63,70],TabAt s' P) s := by
 have St : StartP (fun _ => none) w s.heap.objs.size s.toks [280] [lst sv es] s := by
  refine startP_of (by simp) (fun b hb => ?_) rfl (fun a o h => lit a o (lkP_bare h)) ?_
  ·rw [List.mem_singleton] at hb
   subst hb; rfl
  ·intro p hp
   simp only [List.zip_cons_cons,List.zip_nil_right,List.mem_cons,List.not_mem_nil,or_false] at hp
   subst hp; exact p280
 have hA := fun om => lawA (PT := fun _ => none) (w := w) (n := s.heap.objs.size) (t := s.toks) (es := es) (sv := sv) (nv := sv.take 12) (om := om)
 generalize hsz : s.heap.objs.size = n at *
 generalize s.toks = t at *
 refine codeAny_pure (E := fun _ _ => False) (code_stopP ent1_ok entQ1_eq St (fun om C hC => ?_) (fun _ => an) (dm := 830) (um := 6800) (by lia) (by lia) hh law_okC (by decide) (by decide) hA fun om κ k₀ M hR Hd s1 B => ?_)
 ·revert C
  refine ac ?_ (ac ?_ (ac ?_ (ac ?_ (an))))
  ·exact begA_ok (by lia) (lkP_low (by lia) rfl)
  ·exact begB_ok (by lia) (lkP_low (by lia) rfl)
  ·exact begC_ok (by lia) (lkP_low (by lia) rfl)
  ·exact ctrP (slice_ok (by lia) .none (.int _ _) (pick_to sv 12))
 ·have keep : ∀ (x : Nat) o,s.heap.get? x = some o → s1.heap.get? x = some o := by
   intro x o h
   refine B.still h fun j hj => ?_
   match j with
   | 0 => simp at hj; subst hj; rw [p280] at h; cases h; rfl
   | j + 1 => simp at hj
  have o0 := (B.own 0 _ _ rfl).2
  have o1 := (B.own 1 _ _ rfl).2
  have o2 := (B.own 2 _ _ rfl).2
  have o3 := (B.own 3 _ _ rfl).2
  have o4 := (B.own 4 _ _ rfl).2
  have o5 := (B.own 5 _ _ rfl).2
  have o6 := (B.own 6 _ _ rfl).2
  have o7 := (B.own 7 _ _ rfl).2
  have o8 := (B.own 8 _ _ rfl).2
  have o9 := (B.own 9 _ _ rfl).2
  have o10 := (B.own 10 _ _ rfl).2
  have o11 := (B.own 11 _ _ rfl).2
  have o12 := (B.own 12 _ _ rfl).2
  have o13 := (B.own 13 _ _ rfl).2
  have o14 := (B.own 14 _ _ rfl).2
  have o15 := (B.own 15 _ _ rfl).2
  have o16 := (B.own 16 _ _ rfl).2
  have o17 := (B.own 17 _ _ rfl).2
  have o18 := (B.own 18 _ _ rfl).2
  have o19 := (B.own 19 _ _ rfl).2
  have o20 := (B.own 20 _ _ rfl).2
  let S0 : Slot := { a := n + 11,dd := n + 10,r := n + 3,g1 := PyData.keyHash w.params nInit,t1 := t + 12 + 5,u := t + 9,e1 := 1,f := 0,fu := t + 6,xs := [n + 29,n + 43],ea := 2,rv := [.int 2 (t + 1),.int 4 (t + 2)],er := 0,ks := [2,4] }
  let S1 : Slot := { a := n + 49,dd := n + 48,r := n + 4,g1 := PyData.keyHash w.params nInit,t1 := t + 63 + 5,u := t + 60,e1 := 1,f := 1,fu := t + 7,xs := [n + 67,n + 81],ea := 2,rv := [.int 2 (t + 3),.int 1 (t + 4)],er := 0,ks := [2,1] }
  let S2 : Slot := { a := n + 87,dd := n + 86,r := n + 5,g1 := PyData.keyHash w.params nInit,t1 := t + 113 + 5,u := t + 111,e1 := 1,f := 4,fu := t + 8,xs := [n + 105],ea := 1,rv := [.int 2 (t + 5)],er := 0,ks := [2] }
  have fxe : fx0 (n + 110) (n + 108) (n + 6) (n + 7) [S0,S1,S2] = [n + 110,n + 108,n + 6,n + 7,n + 11,n + 10,n + 49,n + 48,n + 87,n + 86] := rfl
  have I1 : DIn w (n + 110) (n + 108) (n + 6) (n + 7) 0 0 0 0 (sv.take 12) [S0,S1,S2] (olds s1.heap (n + 3)) s1 :=
   {lit := fun a o h => keep a o (lit a o h)
    nums := o20,heaps := o19,rows := o6,firsts := o7
    slots := fun S hS => by
     revert S
     refine ac ?_ (ac ?_ (ac ?_ (an)))
     ·exact ⟨o9,o8,o3,.cons ⟨by lia,_,o10⟩ (.cons ⟨by lia,_,o11⟩ .nil),.cons ⟨_,rfl⟩ (.cons ⟨_,rfl⟩ .nil),fun x hx => by simp only [S0,List.mem_cons,List.not_mem_nil,or_false] at hx; lia,by show (0 : Int) ≤ 0 ∧ (0 : Int) ≤ 4; decide⟩
     ·exact ⟨o13,o12,o4,.cons ⟨by lia,_,o14⟩ (.cons ⟨by lia,_,o15⟩ .nil),.cons ⟨_,rfl⟩ (.cons ⟨_,rfl⟩ .nil),fun x hx => by simp only [S1,List.mem_cons,List.not_mem_nil,or_false] at hx; lia,by show (0 : Int) ≤ 1 ∧ (1 : Int) ≤ 4; decide⟩
     ·exact ⟨o17,o16,o5,.cons ⟨by lia,_,o18⟩ .nil,.cons ⟨_,rfl⟩ .nil,fun x hx => by simp only [S2,List.mem_cons,List.not_mem_nil,or_false] at hx; lia,by show (0 : Int) ≤ 4 ∧ (4 : Int) ≤ 4; decide⟩
    len3 := rfl
    nodup := by rw [fxe]; simp
    offr := fun S hS => by
     rw [fxe]
     revert S
     refine ac ?_ (ac ?_ (ac ?_ (an))) <;> simp [S0,S1,S2]
    low := fun b hb => by rw [fxe] at hb; simp only [List.mem_cons,List.not_mem_nil,or_false] at hb; lia
    lowr := fun S hS => by
     revert S
     refine ac ?_ (ac ?_ (ac ?_ (an))) <;> simp only [S0,S1,S2] <;> lia
    kept := fun p hp => (mem_olds.mp hp).2
    offx := fun p hp => by
     rw [fxe]
     have := (mem_olds.mp hp).1
     simp only [List.mem_cons,List.not_mem_nil,or_false]
     lia }
  have hdu := Hd.depth
  have huu := Hd.units
  refine codeAny_mono (deeds_ok I1 (fun S hS => by
   revert S
   refine ac ?_ (ac ?_ (ac ?_ (an))) <;> simp [S0,S1,S2]) (by rw [List.length_take]; lia) (fun v hv => hx v (List.mem_of_mem_take hv)) (by lia) (by lia) Hd.handled) fun r s2 h => ?_
  obtain ⟨rfl,⟨sl,I2,h14⟩,hb,hos⟩ := h
  obtain ⟨X0,X1,X2,rfl⟩ := three I2.len3
  have T := told_of I2 h14
  have k2 : ∀ (x : Nat) o,s1.heap.get? x = some o → x < n + 3 → s2.heap.get? x = some o := fun x o h hx => I2.kept (x,o) (mem_olds.mpr ⟨hx,h⟩)
  have ks : ∀ (x : Nat) o,s.heap.get? x = some o → s2.heap.get? x = some o := fun x o h => k2 x o (keep x o h) (by
   have : @LT.lt Nat _ x s.heap.objs.size := Heap.lt_size h
   lia)
  have q0 := k2 _ _ o0 (by lia)
  have q1 := k2 _ _ o1 (by lia)
  have q2 := k2 _ _ o2 (by lia)
  have nd := I2.nodup
  simp only [fx0,List.flatMap_cons,List.flatMap_nil,List.append_nil,List.cons_append,List.nil_append,List.nodup_cons,List.mem_cons,List.not_mem_nil,or_false,not_or] at nd
  have r0 := I2.offr X0 (by simp)
  have r1 := I2.offr X1 (by simp)
  have r2 := I2.offr X2 (by simp)
  have offP : ∀ (b : Nat) o,s2.heap.get? b = some o → 281 ≤ b → o.cls ≠ .type "tuple" → o.cls ≠ .ref 101 → o.cls ≠ .type "dict" → (o.cls = .type "list" → b ∉ [X0.r,X1.r,X2.r]) → lkP (ptOf s2.heap (dom1 X0 X1 X2)) w.params b = none := by
   intro b o h hb c1 c2 c3 c4
   refine lkP_low hb (ptOf_out fun hm => ?_)
   obtain ⟨_,o',h',hc⟩ := dom_obj I2 hm
   rw [h] at h'
   cases h'
   rcases hc with hc | ⟨_,hc⟩ | ⟨hm,hc⟩ | ⟨_,hc⟩
   ·exact c1 hc
   ·exact c2 hc
   ·exact c4 hc hm
   ·exact c3 hc
  have nr : ∀ b,b ∈ fx0 (n + 110) (n + 108) (n + 6) (n + 7) [X0,X1,X2] → b ∉ [X0.r,X1.r,X2.r] := by
   intro b hb hm
   simp only [List.mem_cons,List.not_mem_nil,or_false] at hm
   rcases hm with rfl | rfl | rfl
   ·exact r0 hb
   ·exact r1 hb
   ·exact r2 hb
  have nl : ∀ (b : Nat) o,s2.heap.get? b = some o → 281 ≤ b → o.cls = .type "list" → b ∈ fx0 (n + 110) (n + 108) (n + 6) (n + 7) [X0,X1,X2] → lkP (ptOf s2.heap (dom1 X0 X1 X2)) w.params b = none := fun b o h hb hc hm =>
   offP b o h hb (by rw [hc]; simp) (by rw [hc]; simp) (by rw [hc]; simp) fun _ => nr b hm
  refine st_b T hR (by lia) (by lia) hh Hd.ok hn (fun a o h => ?_) (fun x hx => ?_) (fun a lc h => ?_) q0 q1 q2 I2.heaps I2.rows I2.firsts (ks _ _ p191) (ks _ _ p276) (ks _ _ p63) (ks _ _ p70) fun s' m t191 t276 t63 t70 => ?_
  ·unfold lkP at h
   cases q : Nat.blt a 281 with
   | true => rw [q] at h; exact I2.lit a o h
   | false => rw [q] at h; exact (ptOf_get h).2
  ·revert x
   refine ac ?_ (ac ?_ (ac ?_ (ac ?_ (ac ?_ (ac ?_ (an))))))
   ·exact offP _ _ q0 (by lia) (by simp [lawFr]) (by simp [lawFr]) (by simp [lawFr]) (by simp [lawFr])
   ·exact offP _ _ q1 (by lia) (by simp [cellO]) (by simp [cellO]) (by simp [cellO]) (by simp [cellO])
   ·exact offP _ _ q2 (by lia) (by simp [cellO]) (by simp [cellO]) (by simp [cellO]) (by simp [cellO])
   ·exact nl _ _ I2.heaps (by lia) rfl (by simp)
   ·exact nl _ _ I2.rows (by lia) rfl (by simp)
   ·exact nl _ _ I2.firsts (by lia) rfl (by simp)
  ·unfold lkP at h
   cases q : Nat.blt a 281 with
   | true => rw [q] at h; exact lit_no h
   | false =>
    rw [q] at h
    obtain ⟨hm,hg⟩ := ptOf_get h
    obtain ⟨_,o',h',hc⟩ := dom_obj I2 hm
    rw [hg] at h'
    cases h'
    rcases hc with hc | ⟨_,hc⟩ | ⟨hm,hc⟩ | ⟨_,hc⟩ <;> simp [lamO] at hc
  ·have hlt : @LT.lt Nat _ n s2.heap.objs.size := Heap.lt_size q0
   refine ⟨rfl,⟨by rw [hsz]; exact Nat.le_trans (Nat.le_of_lt hlt) m.grow,fun x o h hx => m.keep x o (ks x o h) (by
    have hl : @LT.lt Nat _ x s.heap.objs.size := Heap.lt_size h
    simp only [List.mem_cons,List.not_mem_nil,or_false,not_or] at hx ⊢
    lia),fun h => m.bare (hb (B.bare h)),m.os.trans (hos.trans B.os)⟩,fun P hP => ?_⟩
   revert P
   refine ac ?_ (ac ?_ (ac ?_ (ac ?_ (an)))) <;> assumption
end
end Mine.G
end
section
open PySem PySem.W PySem.W.X PySem.W.ZRun PyProof.Rows
namespace Mine.G
theorem probe_eq (w : World) : probe w = want w := by
 delta want probe
 rw [progG_eq,PySem.W.Fast.mineProbe_eq,PySem.W.Fast.mineGood_eq]
 exact left w
theorem lawK_as (P : Params) : lawAs = (lawK P).map (·.1) := by
 unfold lawK
 rw [List.map_map]
 exact (List.map_id _).symm
theorem all_in {h : Heap} : ∀ {K : Frag},AllIn h K → ∀ p ∈ K,h.get? p.1 = some p.2
 | [],_,p,hp => nomatch hp
 | q :: K,A,p,hp => by
  rcases List.mem_cons.mp hp with rfl | hp
  ·exact A.1
  ·exact all_in A.2 p hp
theorem kt_as {P : Params} : ((List.range 281).all fun a => ((kt P).get a).isNone || lawAs.contains a) = true := by kernel_rfl
theorem kt_of {P : Params} {h : Heap} (A : AllIn h (lawK P)) : ∀ a o,lkQ P a = some o → h.get? a = some o := by
 intro a o e
 have ha : a < 281 := by
  rcases Nat.lt_or_ge a 281 with z | z
  ·exact z
  ·rw [lkQ_low z] at e; cases e
 have e' : (kt P).get a = some o := by
  unfold lkQ at e
  have q : Nat.blt a 281 = true := by simpa using ha
  rw [q] at e
  exact e
 have m := List.all_eq_true.mp (kt_as (P := P)) a (List.mem_range.mpr ha)
 rw [e'] at m
 have m : a ∈ lawAs := by simpa using m
 have z := all_in A (a,o) (by
  unfold lawK
  exact List.mem_map.mpr ⟨a,m,by rw [e']⟩)
 exact z
theorem tab_of {P : Params} {h : Heap} (A : AllIn h (lawK P)) {a : Nat} (m : a ∈ lawAs) (e : (kt P).get a = none) : h.get? a = some (tb []) := by
 have z := all_in A (a,tb0) (by
  unfold lawK
  exact List.mem_map.mpr ⟨a,m,by rw [e]⟩)
 exact z
theorem ints_vals {vs : List Value} {ns : List Int} (h : IntsAre vs ns) : ∀ v ∈ vs,∃ x t,v = .int x t := by
 induction h with
 | nil => intro v hv; cases hv
 | cons n t _ ih =>
  intro v hv
  rcases List.mem_cons.mp hv with rfl | hv
  ·exact ⟨n,t,rfl⟩
  ·exact ih v hv
theorem codeTab {h : Heap} {c P : Nat} {o : Obj} {vs : Array Value} (g : h.get? c = some o) (h1 : o.cls = .type "code") (h2 : o.data = .fields vs) (h3 : vs[11]? = some (.ref P)) : isCodeTable h P := ⟨c,o,vs,g,h1,h2,h3⟩
theorem tabs_of {P : Params} {h : Heap} (lit : ∀ a o,lkQ P a = some o → h.get? a = some o) : ∀ T ∈ [191,276,63,70],isCodeTable h T := by
 intro T hT
 revert T
 refine ac ?_ (ac ?_ (ac ?_ (ac ?_ (an))))
 ·exact codeTab (lit 195 (k195 P) (by kernel_rfl)) rfl rfl (by kernel_rfl)
 ·exact codeTab (lit 278 (k278 P) (by kernel_rfl)) rfl rfl (by kernel_rfl)
 ·exact codeTab (lit 67 (k67 P) (by kernel_rfl)) rfl rfl (by kernel_rfl)
 ·exact codeTab (lit 74 (k74 P) (by kernel_rfl)) rfl rfl (by kernel_rfl)
theorem old_of {P : Params} {s s' : Shared} (lit : ∀ a o,lkQ P a = some o → s.heap.get? a = some o) (g : ∀ T ∈ [191,276,63,70],s.heap.get? T = some (tb [])) (m : Mv [191,276,63,70] s s') (tt : ∀ T ∈ [191,276,63,70],TabAt s' T) : OldK s.heap s'.heap := by
 refine ⟨fun b o e => ?_,fun b o e => ?_⟩
 ·by_cases hb : b ∈ [191,276,63,70]
  ·obtain ⟨ps,hp⟩ := tt b hb
   rw [g b hb] at e
   cases e
   exact .inr (.inl ⟨tabs_of lit b hb,rfl,#[],ps.toArray,rfl,by rw [hp]; simp [tb]⟩)
  ·exact .inl (m.keep b o e hb)
 ·by_cases hb : b ∈ [191,276,63,70]
  ·obtain ⟨ps,hp⟩ := tt b hb
   exact ⟨_,hp⟩
  ·exact ⟨o,m.keep b o e hb⟩
theorem good_law {w : World} {c : ClaimW} {cl : Str → Option Addr} {mean : ExcName → Option Value} {args : List WData} {s : Shared} {sv : List Value} {ns : List Int} (hr : ∀ cls,c.raises args cls = false) (hp : c.post args (.bool true) args = true)
  (lit : ∀ a o,lkQ w.params a = some o → s.heap.get? a = some o) (g63 : s.heap.get? 63 = some (tb [])) (g70 : s.heap.get? 70 = some (tb [])) (g191 : s.heap.get? 191 = some (tb [])) (g276 : s.heap.get? 276 = some (tb []))
  (hg : s.gens = #[]) (hsz : s.heap.objs.size = 281) (hl : s.heap.get? 280 = some { cls := .type "list",data := .seq sv.toArray }) (hi : IntsAre sv ns) (hn : ns.length ≤ 63) :
  wpAny (model prg w) callerA (PySem.call (.ref 279) [.ref 280]) (fun v s' => GoodWG c cl mean args s (.ok (.ret v)) s') (fun e s' => GoodWG c cl mean args s (.error e) s') s := by
 have hlen : sv.length = ns.length := by
  clear hl
  induction hi with
  | nil => rfl
  | cons n t _ ih => simp only [List.length_cons] at hn ⊢; rw [ih (by omega)]
 refine enter_call (codeAny_mono (law_ok (es := 0) (sv := sv) ?_ ?_ rfl (by omega) lit hl g63 g70 g191 g276 (ints_vals hi) (by omega)) fun r s' h => ?_)
 ·show 1 + claimMargin ≤ 310
  decide
 ·show (4 : Nat) ≤ 3000
  decide
 ·obtain ⟨rfl,m,tt⟩ := h
  refine ⟨.inl ⟨_,_,[],rfl,hr,ReadsW.bool true,hp,fun _ => ⟨List.nodup_nil,fun _ hm => (nomatch hm)⟩⟩,old_of lit (fun T hT => ?_) m tt,m.os,m.bare (.of_eq hg)⟩
  revert T
  refine ac ?_ (ac ?_ (ac ?_ (ac ?_ (an)))) <;> assumption
end Mine.G
namespace Mine
noncomputable def lawP (p : Program) : OpenLaw := { prog := p,name := .ofString "law",about := [.ofString "_Accumulator",.ofString "reset"],foot := 12,most := some 63,bound := none,writes := false }
noncomputable def saidP (p : Program) : Bool := OpenLaw.wellSaid (lawP p)
lay_quick saidP
theorem said_r : saidP = saidP := rfl
name_quick mineSaid for saidP by said_r
theorem said0 : OpenLaw.wellSaid PySem.Challenge.rw_ij0103_01 = true := by
 show saidP PySem.Challenge.pw_ij0103_01 = true
 rw [progG_eq,PySem.W.Fast.mineSaid_eq]
 kernel_rfl
end Mine
theorem PySem.Challenge.cw_ij0103_01_holds : PySem.Challenge.rw_ij0103_01.Holds := by
 w_on
 refine holds_law Mine.said0 fun said => ?_
 refine holds_openX (q := Mine.lawQ) (loose := Mine.lawLoose) (Xt := fun s => recOk [] s) (XP := fun _ _ => True) (Yf := fun s => obsZ Mine.lawAs s) (Ya := fun w => valZ Mine.lawK 280 534 w) (N := 2916) Mine.G.probe_eq (fun _ _ => trivial) (fun _ _ _ _ _ => trivial) (by rfl) (by rfl) (by rfl) (fun s e => recFacts_of e) (by rfl) (by first | assumption | decide +kernel) (by decide +kernel) ⟨rfl,rfl,rfl,rfl,rfl,by decide +kernel⟩ ?hw ?hc
 case hw => w_witness2
 intro w s₀ s₁ mg mb G y fa o pm cd doc dV kV ho hd hcd hD hmg hg args vals as L hpre hlay hrd hwl hlo
 obtain ⟨A0,K0,ZN,_⟩ := z_facts Mine.G.lawK_as y
 have k := L.keeps
 have hfa := mg_of (InK.keeps w _ _ K0 k) G.T.g (n := Str.ofString "law") (v := .ref 279) (by kernel_rfl)
 obtain rfl : fa = 279 := Value.ref.inj (Option.some.inj (hmg.symm.trans hfa))
 clear hfa hmg hd ho hcd hD
 wrow_args hpre hlay hrd hwl hlo
 obtain ⟨hat,hsz⟩ := script_at L
 rw [ZN] at hat hsz
 subst hat
 all_lens
 refine Mine.G.good_law (fun _ => rfl) ?_ (fun a o e => k a o (Mine.G.kt_of A0 a o e)) (k _ _ (Mine.G.tab_of A0 (by decide) rfl)) (k _ _ (Mine.G.tab_of A0 (by decide) rfl)) (k _ _ (Mine.G.tab_of A0 (by decide) rfl)) (k _ _ (Mine.G.tab_of A0 (by decide) rfl)) hg hsz (script_obj L (by assumption)) (by assumption) (by omega)
 first | rfl | wrow_post
end
