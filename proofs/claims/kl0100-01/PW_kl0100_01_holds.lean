import PyProof.Rows.All
import KE.KNest
import KE.KLam
import KE.KBytesWalk
import KE.KItemsList
import KE.BytesMake
import KE.KRevIter
import KE.KSortTup
import Open.Boot
import Open.Line
import Open.Tree
import PySem.Challenge.RW_kl0100_01
set_option Elab.async false
set_option linter.unusedVariables false
set_option bootstrap.genMatcherCode false
set_option compiler.extract_closed false
open PySem PySem.W PySem.Calls PyProof.Rows
theorem Mine.Internal.Wlb {n m : Nat} (h : Nat.ble n m = true) : n ≤ m := Nat.le_of_ble_eq_true h
theorem Mine.Internal.Wle {n m k : Nat} (h : m = k) (e : Nat.ble n k = true) : n ≤ m := h ▸ Nat.le_of_ble_eq_true e
theorem Mine.Internal.Wls {a k : Nat} (h : a ≤ k) (e : Nat.ble k 16777216 = true) : a ≤ sizeLine := Nat.le_trans h (Nat.le_trans (Nat.le_of_ble_eq_true e) (by decide +kernel))
theorem Mine.Internal.E02 {P Q : Prop} {G : Prop} (h : P ∧ Q) (k : P → Q → G) : G := k h.1 h.2
theorem Mine.Internal.E03 {P Q R : Prop} {G : Prop} (h : P ∧ Q ∧ R) (k : P → Q → R → G) : G := k h.1 h.2.1 h.2.2
theorem Mine.Internal.E04 {P Q R S : Prop} {G : Prop} (h : P ∧ Q ∧ R ∧ S) (k : P → Q → R → S → G) : G := k h.1 h.2.1 h.2.2.1 h.2.2.2
theorem Mine.Internal.E05 {P Q R S T : Prop} {G : Prop} (h : P ∧ Q ∧ R ∧ S ∧ T) (k : P → Q → R → S → T → G) : G := k h.1 h.2.1 h.2.2.1 h.2.2.2.1 h.2.2.2.2
theorem Mine.Internal.E11 {α : Sort u} {P : α → Prop} {G : Prop} (h : ∃ a, P a) (k : ∀ a, P a → G) : G := h.elim fun a h => k a h
theorem Mine.Internal.E12 {α : Sort u} {P Q : α → Prop} {G : Prop} (h : ∃ a, P a ∧ Q a) (k : ∀ a, P a → Q a → G) : G := h.elim fun a h => k a h.1 h.2
theorem Mine.Internal.E13 {α : Sort u} {P Q R : α → Prop} {G : Prop} (h : ∃ a, P a ∧ Q a ∧ R a) (k : ∀ a, P a → Q a → R a → G) : G := h.elim fun a h => k a h.1 h.2.1 h.2.2
theorem Mine.Internal.E14 {α : Sort u} {P Q R S : α → Prop} {G : Prop} (h : ∃ a, P a ∧ Q a ∧ R a ∧ S a) (k : ∀ a, P a → Q a → R a → S a → G) : G := h.elim fun a h => k a h.1 h.2.1 h.2.2.1 h.2.2.2
theorem Mine.Internal.E15 {α : Sort u} {P Q R S T : α → Prop} {G : Prop} (h : ∃ a, P a ∧ Q a ∧ R a ∧ S a ∧ T a) (k : ∀ a, P a → Q a → R a → S a → T a → G) : G := h.elim fun a h => k a h.1 h.2.1 h.2.2.1 h.2.2.2.1 h.2.2.2.2
theorem Mine.Internal.E16 {α : Sort u} {P Q R S T U : α → Prop} {G : Prop} (h : ∃ a, P a ∧ Q a ∧ R a ∧ S a ∧ T a ∧ U a) (k : ∀ a, P a → Q a → R a → S a → T a → U a → G) : G := h.elim fun a h => k a h.1 h.2.1 h.2.2.1 h.2.2.2.1 h.2.2.2.2.1 h.2.2.2.2.2
theorem Mine.Internal.E21 {α : Sort u} {β : Sort v} {P : α → β → Prop} {G : Prop} (h : ∃ a b, P a b) (k : ∀ a b, P a b → G) : G := h.elim fun a h => h.elim fun b h => k a b h
theorem Mine.Internal.E22 {α : Sort u} {β : Sort v} {P Q : α → β → Prop} {G : Prop} (h : ∃ a b, P a b ∧ Q a b) (k : ∀ a b, P a b → Q a b → G) : G := h.elim fun a h => h.elim fun b h => k a b h.1 h.2
theorem Mine.Internal.E23 {α : Sort u} {β : Sort v} {P Q R : α → β → Prop} {G : Prop} (h : ∃ a b, P a b ∧ Q a b ∧ R a b) (k : ∀ a b, P a b → Q a b → R a b → G) : G := h.elim fun a h => h.elim fun b h => k a b h.1 h.2.1 h.2.2
theorem Mine.Internal.E24 {α : Sort u} {β : Sort v} {P Q R S : α → β → Prop} {G : Prop} (h : ∃ a b, P a b ∧ Q a b ∧ R a b ∧ S a b) (k : ∀ a b, P a b → Q a b → R a b → S a b → G) : G := h.elim fun a h => h.elim fun b h => k a b h.1 h.2.1 h.2.2.1 h.2.2.2
theorem Mine.Internal.E25 {α : Sort u} {β : Sort v} {P Q R S T : α → β → Prop} {G : Prop} (h : ∃ a b, P a b ∧ Q a b ∧ R a b ∧ S a b ∧ T a b) (k : ∀ a b, P a b → Q a b → R a b → S a b → T a b → G) : G := h.elim fun a h => h.elim fun b h => k a b h.1 h.2.1 h.2.2.1 h.2.2.2.1 h.2.2.2.2
theorem Mine.Internal.E31 {α : Sort u} {β : Sort v} {γ : Sort w} {P : α → β → γ → Prop} {G : Prop} (h : ∃ a b c, P a b c) (k : ∀ a b c, P a b c → G) : G := h.elim fun a h => h.elim fun b h => h.elim fun c h => k a b c h
theorem Mine.Internal.E32 {α : Sort u} {β : Sort v} {γ : Sort w} {P Q : α → β → γ → Prop} {G : Prop} (h : ∃ a b c, P a b c ∧ Q a b c) (k : ∀ a b c, P a b c → Q a b c → G) : G := h.elim fun a h => h.elim fun b h => h.elim fun c h => k a b c h.1 h.2
theorem Mine.Internal.E33 {α : Sort u} {β : Sort v} {γ : Sort w} {P Q R : α → β → γ → Prop} {G : Prop} (h : ∃ a b c, P a b c ∧ Q a b c ∧ R a b c) (k : ∀ a b c, P a b c → Q a b c → R a b c → G) : G := h.elim fun a h => h.elim fun b h => h.elim fun c h => k a b c h.1 h.2.1 h.2.2
theorem Mine.Internal.E34 {α : Sort u} {β : Sort v} {γ : Sort w} {P Q R S : α → β → γ → Prop} {G : Prop} (h : ∃ a b c, P a b c ∧ Q a b c ∧ R a b c ∧ S a b c) (k : ∀ a b c, P a b c → Q a b c → R a b c → S a b c → G) : G := h.elim fun a h => h.elim fun b h => h.elim fun c h => k a b c h.1 h.2.1 h.2.2.1 h.2.2.2
theorem Mine.Internal.E35 {α : Sort u} {β : Sort v} {γ : Sort w} {P Q R S T : α → β → γ → Prop} {G : Prop} (h : ∃ a b c, P a b c ∧ Q a b c ∧ R a b c ∧ S a b c ∧ T a b c) (k : ∀ a b c, P a b c → Q a b c → R a b c → S a b c → T a b c → G) : G := h.elim fun a h => h.elim fun b h => h.elim fun c h => k a b c h.1 h.2.1 h.2.2.1 h.2.2.2.1 h.2.2.2.2
theorem Mine.Internal.E36 {α : Sort u} {β : Sort v} {γ : Sort w} {P Q R S T U : α → β → γ → Prop} {G : Prop} (h : ∃ a b c, P a b c ∧ Q a b c ∧ R a b c ∧ S a b c ∧ T a b c ∧ U a b c) (k : ∀ a b c, P a b c → Q a b c → R a b c → S a b c → T a b c → U a b c → G) : G := h.elim fun a h => h.elim fun b h => h.elim fun c h => k a b c h.1 h.2.1 h.2.2.1 h.2.2.2.1 h.2.2.2.2.1 h.2.2.2.2.2
theorem Mine.Internal.E41 {α : Sort u} {β : Sort v} {γ : Sort w} {δ : Sort x} {P : α → β → γ → δ → Prop} {G : Prop} (h : ∃ a b c d, P a b c d) (k : ∀ a b c d, P a b c d → G) : G := h.elim fun a h => h.elim fun b h => h.elim fun c h => h.elim fun d h => k a b c d h
theorem Mine.Internal.E42 {α : Sort u} {β : Sort v} {γ : Sort w} {δ : Sort x} {P Q : α → β → γ → δ → Prop} {G : Prop} (h : ∃ a b c d, P a b c d ∧ Q a b c d) (k : ∀ a b c d, P a b c d → Q a b c d → G) : G := h.elim fun a h => h.elim fun b h => h.elim fun c h => h.elim fun d h => k a b c d h.1 h.2
theorem Mine.Internal.E43 {α : Sort u} {β : Sort v} {γ : Sort w} {δ : Sort x} {P Q R : α → β → γ → δ → Prop} {G : Prop} (h : ∃ a b c d, P a b c d ∧ Q a b c d ∧ R a b c d) (k : ∀ a b c d, P a b c d → Q a b c d → R a b c d → G) : G := h.elim fun a h => h.elim fun b h => h.elim fun c h => h.elim fun d h => k a b c d h.1 h.2.1 h.2.2
theorem Mine.Internal.E44 {α : Sort u} {β : Sort v} {γ : Sort w} {δ : Sort x} {P Q R S : α → β → γ → δ → Prop} {G : Prop} (h : ∃ a b c d, P a b c d ∧ Q a b c d ∧ R a b c d ∧ S a b c d) (k : ∀ a b c d, P a b c d → Q a b c d → R a b c d → S a b c d → G) : G := h.elim fun a h => h.elim fun b h => h.elim fun c h => h.elim fun d h => k a b c d h.1 h.2.1 h.2.2.1 h.2.2.2
theorem Mine.Internal.E45 {α : Sort u} {β : Sort v} {γ : Sort w} {δ : Sort x} {P Q R S T : α → β → γ → δ → Prop} {G : Prop} (h : ∃ a b c d, P a b c d ∧ Q a b c d ∧ R a b c d ∧ S a b c d ∧ T a b c d) (k : ∀ a b c d, P a b c d → Q a b c d → R a b c d → S a b c d → T a b c d → G) : G := h.elim fun a h => h.elim fun b h => h.elim fun c h => h.elim fun d h => k a b c d h.1 h.2.1 h.2.2.1 h.2.2.2.1 h.2.2.2.2
theorem Mine.Internal.E47 {α : Sort u} {β : Sort v} {γ : Sort w} {δ : Sort x} {P Q R S T U V : α → β → γ → δ → Prop} {G : Prop} (h : ∃ a b c d, P a b c d ∧ Q a b c d ∧ R a b c d ∧ S a b c d ∧ T a b c d ∧ U a b c d ∧ V a b c d) (k : ∀ a b c d, P a b c d → Q a b c d → R a b c d → S a b c d → T a b c d → U a b c d → V a b c d → G) : G := h.elim fun a h => h.elim fun b h => h.elim fun c h => h.elim fun d h => k a b c d h.1 h.2.1 h.2.2.1 h.2.2.2.1 h.2.2.2.2.1 h.2.2.2.2.2.1 h.2.2.2.2.2.2
theorem Mine.Internal.E51 {α : Sort u} {β : Sort v} {γ : Sort w} {δ : Sort x} {ε : Sort y} {P : α → β → γ → δ → ε → Prop} {G : Prop} (h : ∃ a b c d e, P a b c d e) (k : ∀ a b c d e, P a b c d e → G) : G := h.elim fun a h => h.elim fun b h => h.elim fun c h => h.elim fun d h => h.elim fun e h => k a b c d e h
theorem Mine.Internal.E53 {α : Sort u} {β : Sort v} {γ : Sort w} {δ : Sort x} {ε : Sort y} {P Q R : α → β → γ → δ → ε → Prop} {G : Prop} (h : ∃ a b c d e, P a b c d e ∧ Q a b c d e ∧ R a b c d e) (k : ∀ a b c d e, P a b c d e → Q a b c d e → R a b c d e → G) : G := h.elim fun a h => h.elim fun b h => h.elim fun c h => h.elim fun d h => h.elim fun e h => k a b c d e h.1 h.2.1 h.2.2
theorem Mine.Internal.E54 {α : Sort u} {β : Sort v} {γ : Sort w} {δ : Sort x} {ε : Sort y} {P Q R S : α → β → γ → δ → ε → Prop} {G : Prop} (h : ∃ a b c d e, P a b c d e ∧ Q a b c d e ∧ R a b c d e ∧ S a b c d e) (k : ∀ a b c d e, P a b c d e → Q a b c d e → R a b c d e → S a b c d e → G) : G := h.elim fun a h => h.elim fun b h => h.elim fun c h => h.elim fun d h => h.elim fun e h => k a b c d e h.1 h.2.1 h.2.2.1 h.2.2.2
def Mine.Internal.tR : Lean.Syntax := Lean.Unhygienic.run `(Lean.Parser.Tactic.tacticSeq| rfl)
def Mine.Internal.tE : Lean.Syntax := Lean.Unhygienic.run `(Lean.Parser.Tactic.tacticSeq| kernel_rfl)
def Mine.Internal.tD : Lean.Syntax := Lean.Unhygienic.run `(Lean.Parser.Tactic.tacticSeq| decide +kernel)
def Mine.Internal.tI : Lean.Syntax := Lean.Unhygienic.run `(Lean.Parser.Tactic.tacticSeq| intro _; rfl)
def Mine.Internal.tJ : Lean.Syntax := Lean.Unhygienic.run `(Lean.Parser.Tactic.tacticSeq| intro _ _; rfl)
def Mine.Internal.tO : Lean.Syntax := Lean.Unhygienic.run `(Lean.Parser.Tactic.tacticSeq| omega)
def Mine.Internal.tF : Lean.Syntax := Lean.Unhygienic.run `(Lean.Parser.Tactic.tacticSeq| first | omega | decide)
def Mine.Internal.tW : Lean.Syntax := Lean.Unhygienic.run `(Lean.Parser.Tactic.tacticSeq| with_unfolding_all rfl)
def Mine.Internal.tL : Lean.Syntax := Lean.Unhygienic.run `(Lean.Parser.Tactic.tacticSeq| intro L; rfl)
def Mine.Internal.tK : Lean.Syntax := Lean.Unhygienic.run `(Lean.Parser.Tactic.tacticSeq| intros; rfl)
local macro_rules
  | `(tactic| rw [$rs,*]) => do
    let ts ← rs.getElems.mapM fun r => do
      let e : Lean.Term := ⟨r.raw[1]⟩
      let e ← if r.raw[0].getNumArgs == 0 then `($e ..) else `(Eq.symm ($e ..))
      `(tactic| first | refine Eq.substr $e ?_ | rewrite [$r])
    `(tactic| ($[$ts];*; try with_reducible rfl))
namespace Mine.Internal
section
theorem Wi (h:1≤0):False:=absurd h (by decide)
set_option genInjectivity false in
set_option genSizeOf false in
inductive LX | v (i:Nat) | n (k:Nat) | a (x y:LX) | m (k:Nat) (x:LX) | r (x:LX) (k:Nat)
noncomputable def LX.den (c:List Nat):LX→Nat
 | .v i=>c.getD i 0
 | .n k=>k
 | .a x y=>x.den c+y.den c
 | .m k x=>k * x.den c
 | .r x k=>x.den c * k
noncomputable def lxA:List Int→List Int→List Int
 | [],q=>q
 | p,[]=>p
 | x::p,y::q=>(x+y)::lxA p q
noncomputable def lxM (k:Int) (p:List Int):List Int:=p.map (k * ·)
noncomputable def LX.p:LX→List Int
 | .v i=>0::(List.replicate i 0++[1])
 | .n k=>[k]
 | .a x y=>lxA x.p y.p
 | .m k x=>lxM k x.p
 | .r x k=>lxM k x.p
noncomputable def Zcw:List Int→List Nat→Int
 | [],_=>0
 | _,[]=>0
 | k::p,x::c=>k * x+Zcw p c
noncomputable def lxD (c:List Nat):List Int→Int
 | []=>0
 | k::p=>k+Zcw p c
theorem lxdot_add (p q:List Int) (c:List Nat):Zcw (lxA p q) c=Zcw p c+Zcw q c:=by
 induction p generalizing q c with
 | nil=>simp [lxA,Zcw]
 | cons x p ih=>
  cases q with
  | nil=>simp [lxA,Zcw]
  | cons y q=>
   cases c with
   | nil=>simp [lxA,Zcw]
   | cons z c=>simp only [lxA,Zcw,ih,Int.add_mul]; omega
theorem Zib (c:List Nat) (p q:List Int):lxD c (lxA p q)=lxD c p+lxD c q:=by
 cases p with
 | nil=>simp [lxA,lxD]
 | cons x p=>
  cases q with
  | nil=>simp [lxA,lxD]
  | cons y q=>simp only [lxA,lxD,lxdot_add]; omega
theorem lxdot_mul (k:Int) (p:List Int) (c:List Nat):Zcw (lxM k p) c=k * Zcw p c:=by
 induction p generalizing c with
 | nil=>simp [lxM,Zcw]
 | cons x p ih=>
  cases c with
  | nil=>simp [lxM,Zcw]
  | cons z c=>
   have:=ih c
   unfold lxM at this ⊢
   simp only [List.map_cons,Zcw,this,Int.mul_add,Int.mul_assoc]
theorem Zfx (c:List Nat) (k:Int) (p:List Int):lxD c (lxM k p)=k * lxD c p:=by
 cases p with
 | nil=>simp [lxM,lxD]
 | cons x p=>
  have:=lxdot_mul k p c
  unfold lxM at this ⊢
  simp only [List.map_cons,lxD,this,Int.mul_add]
theorem lxdot_nil (p:List Int):Zcw p []=0:=by cases p <;> rfl
theorem lxdot_v (i:Nat) (c:List Nat):Zcw (List.replicate i 0++[1]) c=(c.getD i 0:Nat):=by
 induction i generalizing c with
 | zero=>
  cases c with
  | nil=>rfl
  | cons x c=>show 1 * (x:Int)+Zcw [] c=_; simp [Zcw]
 | succ i ih=>
  cases c with
  | nil=>simp [lxdot_nil]
  | cons x c=>
   show 0 * (x:Int)+Zcw (List.replicate i 0++[1]) c=_
   rw [ih]; simp
theorem LX.p_den (c:List Nat) (e:LX):lxD c e.p=e.den c:=by
 induction e with
 | v i=>show 0+Zcw _ c=_; rw [lxdot_v]; simp [LX.den]
 | n k=>simp [LX.p,lxD,Zcw,LX.den]
 | a x y hx hy=>simp only [LX.p,LX.den,Zib,hx,hy]; simp
 | m k x hx=>simp only [LX.p,LX.den,Zfx,hx]; simp
 | r x k hx=>simp only [LX.p,LX.den,Zfx,hx]; simp [Int.mul_comm]
noncomputable def lxl:List (Nat × LX × LX)→List Int
 | []=>[]
 | (k,l,r)::t=>lxA (lxM k (lxA r.p (lxM (-1) l.p))) (lxl t)
def lxim (c:List Nat):List (Nat × LX × LX)→Prop→Prop
 | [],p=>p
 | (_,l,r)::t,p=>l.den c≤r.den c→lxim c t p
noncomputable def lxok (A B:LX) (cs:List (Nat × LX × LX)):Bool:=(lxA (lxA B.p (lxM (-1) A.p)) (lxM (-1) (lxl cs))).all (0 ≤ ·)
theorem lxdot_nn (p:List Int) (c:List Nat) (h:p.all (0 ≤ ·)=true):0≤Zcw p c:=by
 induction p generalizing c with
 | nil=>exact Int.le_refl _
 | cons x p ih=>
  cases c with
  | nil=>exact Int.le_refl _
  | cons z c=>
   simp only [List.all_cons,Bool.and_eq_true,decide_eq_true_eq] at h
   exact Int.add_nonneg (Int.mul_nonneg h.1 (Int.natCast_nonneg _)) (ih c h.2)
theorem lxD_nn (c:List Nat) (p:List Int) (h:p.all (0 ≤ ·)=true):0≤lxD c p:=by
 cases p with
 | nil=>exact Int.le_refl _
 | cons x p=>
  simp only [List.all_cons,Bool.and_eq_true,decide_eq_true_eq] at h
  exact Int.add_nonneg h.1 (lxdot_nn p c h.2)
theorem lxim_of (c:List Nat) (P:Prop) (cs:List (Nat × LX × LX)) (h:0≤lxD c (lxl cs)→P):lxim c cs P:=by
 induction cs generalizing P with
 | nil=>exact h (Int.le_refl _)
 | cons a t ih=>
  obtain ⟨k,l,r⟩:=a
  intro hl
  refine ih P λ ht=>h ?_
  show 0≤lxD c (lxA _ _)
  rw [Zib,Zfx,Zib,Zfx,LX.p_den,LX.p_den]
  exact Int.add_nonneg (Int.mul_nonneg (Int.natCast_nonneg _) (by omega)) ht
theorem Wn (c:List Nat) (A B:LX) (cs:List (Nat × LX × LX)) (h:lxok A B cs=true):lxim c cs (A.den c≤B.den c):=lxim_of c _ cs λ hs=>by
 have:=lxD_nn c _ h
 rw [Zib,Zib,Zfx,Zfx,LX.p_den,LX.p_den] at this
 omega
theorem We {a b:Nat} (h:a=b):a≤b:=Nat.le_of_eq h
theorem Wf {a b:Nat} (h:a=b):b≤a:=Nat.le_of_eq h.symm
theorem Wg {a b:Nat} (h:¬a < b):b≤a:=Nat.le_of_not_lt h
theorem Wh {a b:Nat} (h:¬a≤b):b < a:=Nat.lt_of_not_le h
end
section
open PySem PySem.W PyProof.Rows
set_option maxRecDepth 100000
set_option maxHeartbeats 0
noncomputable def Zdw (tb:String→Option Builtin) (p:Program) (w:World) (n₀:Nat) (ann:Option Value):Nat→SharedT→Thread→Option SharedT
 | 0,_,_=>none
 | n+1,s,t=>match through t with
  | true=>some s
  | false=>match stepOk n₀ ann t with
   | false=>none
   | true=>match stepT (denote tb) p w s t with
    | some (s',t')=>Zdw tb p w n₀ ann n s' t'
    | none=>none
theorem Zgi {tb:String→Option Builtin} {p:Program} {w:World} {n₀:Nat} {ann:Option Value} :
  ∀ {n:Nat} {s s':SharedT} {t:Thread},Zdw tb p w n₀ ann n s t=some s'→topRun tb p w n₀ ann n s.abs t=some s'.abs
 | 0,_,_,_,h=>by cases h
 | n+1,s,s',t,h=>by
  unfold Zdw at h
  unfold topRun
  cases he:through t with
  | true=>rw [he] at h; cases h; rfl
  | false=>
   rw [he] at h
   cases hk:stepOk n₀ ann t with
   | false=>rw [hk] at h; cases h
   | true=>
    rw [hk] at h
    cases hs:stepT (denote tb) p w s t with
    | none=>rw [hs] at h; cases h
    | some r=>obtain ⟨s₂,t₂⟩:=r; rw [hs] at h; rw [stepT_spec hs]; exact Zgi h
noncomputable def Ziy:List Obj→Nat→BT→Option BT
 | [],_,T=>some T
 | o::r,n,T=>match ((T.ins n o).get n).isSome with
  | true=>Ziy r (n+1) (T.ins n o)
  | false=>none
theorem Zhk (life:Life):∀ {l:List Obj} {n:Nat} {T T':BT},Ziy l n T=some T'→
  absHeap T' (n+l.length) life=⟨((absHeap T n life).objs.toList++l).toArray,life⟩
 | [],n,T,T',h=>by cases h; simp [absHeap]
 | o::r,n,T,T',h=>by
  unfold Ziy at h
  cases e:((T.ins n o).get n).isSome with
  | false=>rw [e] at h; cases h
  | true=>
   rw [e] at h
   have ih:=Zhk life h
   rw [absHeap_ins e] at ih
   rw [show n+(o::r).length=n+1+r.length by simp only [List.length_cons]; exact Nat.le_antisymm (Wn [_,_] (.a (.v 0) (.a (.v 1) (.n 1))) (.a (.a (.v 0) (.n 1)) (.v 1)) [] rfl) (Wn [_,_] (.a (.a (.v 0) (.n 1)) (.v 1)) (.a (.v 0) (.a (.v 1) (.n 1))) [] rfl),ih]
   simp [Heap.push]
theorem treeOf_heap {h:Heap} {T:BT} (e:Ziy h.objs.toList 0 .nil=some T):absHeap T h.objs.size h.life=h:=by
 have:=Zhk h.life e
 rw [Nat.zero_add] at this
 rw [show h.objs.size=h.objs.toList.length by simp,this]
 simp [absHeap,BT.list]
noncomputable def Zhp (s:Shared):Option SharedT:=match Ziy s.heap.objs.toList 0 .nil with
 | some T=>some ⟨T,s.heap.objs.size,s.heap.life,s.gens,s.drawn,s.toks,s.os⟩
 | none=>none
theorem Zjd {s:Shared} {t:SharedT} (h:Zhp s=some t):t.abs=s:=by
 unfold Zhp at h
 cases e:Ziy s.heap.objs.toList 0 .nil with
 | none=>rw [e] at h; cases h
 | some T=>
  rw [e] at h
  cases h
  unfold SharedT.abs
  dsimp only
  rw [treeOf_heap e]
noncomputable def annIs (v:Option Value) (a:Addr):Bool:=match v with | some (.ref b)=>b==a | _=>false
theorem annIs_eq {v:Option Value} {a:Addr} (h:annIs v a=true):v=some (.ref a):=by
 unfold annIs at h
 split at h
 ·rw [eq_of_beq h]
 ·cases h
noncomputable def leftT {α : Type} (p q:Program) (loose:List Str) (Xt:Shared→Bool) (Yf:Shared→α) (g0:Bool) (N m₀ ann:Nat) (w:World):=
 (fencedOpening treeTable p w N).bind λ s₀=>match Zhp s₀ with
 | none=>none
 | some t₀=>match s₀.heap.isNs mainGlobals&&s₀.gens.size==0&&s₀.heap.objs.size==m₀&&annIs (s₀.heap.nsMap mainGlobals "__annotations__") ann with
  | false=>none
  | true=>(Zdw treeTable p w m₀ (some (.ref ann)) N t₀ (topStub p)).bind λ t₁=>
   match staticsOk (importedModules p.main.body) s₀.heap t₁.abs.heap&&namesBound p t₁.abs.heap&&gensDone t₁.abs&&laidKept s₀.heap t₁.abs.heap with
   | true=>some (openSeen q loose (importedModules p.main.body) Xt g0 t₁.abs,Yf t₁.abs)
   | false=>none
theorem left_of_T {α : Type} {p q:Program} {loose:List Str} {Xt:Shared→Bool} {Yf:Shared→α} {Ya:World→α} {g0:Bool} {N m₀ ann:Nat}
  (h:∀ w,leftT p q loose Xt Yf g0 N m₀ ann w=some (openGood q loose,Ya w)):LeftO p q loose Xt Yf Ya N g0:=λ w=>by
 have h:=h w
 unfold leftT at h
 refine E12 (Option.bind_eq_some_iff.mp h) λ s₀ e₀ h=>?_
 unfold openEnds
 rw [e₀]
 cases et:Zhp s₀ with
 | none=>rw [et] at h; cases h
 | some t₀=>
  rw [et] at h
  dsimp only at h
  cases ec:(s₀.heap.isNs mainGlobals&&s₀.gens.size==0&&s₀.heap.objs.size==m₀&&annIs (s₀.heap.nsMap mainGlobals "__annotations__") ann) with
  | false=>rw [ec] at h; cases h
  | true=>
   rw [ec] at h
   dsimp only at h
   refine E12 (Option.bind_eq_some_iff.mp h) λ t₁ e₁ h=>?_
   simp only [Bool.and_eq_true,beq_iff_eq] at ec
   refine E02 ec λ Y1 c4=>?_
   try clear ec
   refine E02 Y1 λ Y2 c3=>?_
   clear Y1
   refine E02 Y2 λ c1 c2=>?_
   clear Y2
   have r:=Zgi e₁
   rw [Zjd et] at r
   show Option.map _ (topFrom treeTable p w N s₀)=_
   unfold topFrom
   rw [c1,c2,c3,annIs_eq c4,r]
   show Option.map _ (match staticsOk (importedModules p.main.body) s₀.heap t₁.abs.heap&&namesBound p t₁.abs.heap&&gensDone t₁.abs&&laidKept s₀.heap t₁.abs.heap with | true=>some t₁.abs | false=>none)=_
   cases ek:(staticsOk (importedModules p.main.body) s₀.heap t₁.abs.heap&&namesBound p t₁.abs.heap&&gensDone t₁.abs&&laidKept s₀.heap t₁.abs.heap) with
   | false=>rw [ek] at h; cases h
   | true=>rw [ek] at h; exact h
noncomputable def qv:Program:=view PySem.Challenge.pw_kl0100_01 [0,84]
noncomputable def tokNames:List Str:=((["LPAR", "RPAR", "LSQB", "RSQB", "COLON", "COMMA", "SEMI", "PLUS", "MINUS", "STAR", "SLASH", "VBAR", "AMPER", "LESS", "GREATER", "EQUAL", "DOT", "PERCENT", "LBRACE", "RBRACE", "EQEQUAL", "NOTEQUAL", "LESSEQUAL", "GREATEREQUAL", "TILDE", "CIRCUMFLEX", "LEFTSHIFT", "RIGHTSHIFT", "DOUBLESTAR", "PLUSEQUAL", "MINEQUAL", "STAREQUAL", "SLASHEQUAL", "PERCENTEQUAL", "AMPEREQUAL", "VBAREQUAL", "CIRCUMFLEXEQUAL", "LEFTSHIFTEQUAL", "RIGHTSHIFTEQUAL", "DOUBLESTAREQUAL", "DOUBLESLASH", "DOUBLESLASHEQUAL", "AT", "ATEQUAL", "RARROW", "ELLIPSIS", "COLONEQUAL", "EXCLAMATION"]:List String).map Str.ofString)
noncomputable def Zfn:List Str:=((["_wall", "_twin_re_1", "_namespace_map", "_raise_serialization_error", "_looks_like_prefix_name", "C14NWriterTarget", "_escape_cdata_c14n", "_escape_attrib_c14n", "COMPILER_FLAG_NAMES", "pretty_flags", "_parse_varint", "ENDMARKER"]:List String).map Str.ofString)++tokNames ++
 ((["NT_OFFSET", "EXACT_TOKEN_TYPES", "ISNONTERMINAL", "ISEOF", "_law_numbers", "_law_symbols", "_law_tape", "_law_words", "_law_due", "_law_tell", "_law_pieces", "_law_rows", "_law_common", "_law_stem", "_law_side", "_law_spell", "_law_unwrite", "_law_rules", "_law_led"]:List String).map Str.ofString)
end
section
set_option maxRecDepth 100000
noncomputable def st0:Stmt:=.Pass ⟨0,0,0,0⟩
noncomputable def stAt (i:Nat):Stmt:=PySem.Challenge.pw_kl0100_01.main.body[i]?.getD st0
noncomputable def Zcv:Stmt→List Stmt | .FunctionDef (body:=b) ..=>b | .ClassDef (body:=b) ..=>b | _=>[]
noncomputable def Zcc:Stmt→Str | .FunctionDef (name:=n) ..=>n | .ClassDef (name:=n) ..=>n | _=>Str.empty
noncomputable def Zad:Stmt→Scope | .FunctionDef (scope:=s) ..=>s | _=>default
noncomputable def Zem:Stmt→Arguments | .FunctionDef (args:=a) ..=>a | _=>default
noncomputable def mAt (i:Nat):Stmt:=(Zcv (stAt 7))[i]?.getD st0
noncomputable def fdOf (st:Stmt) (q:Str) (cd pm dfl kwd:Value):FuncData:=
 { name:=Zcc st,qualname:=q,params:=Zem st,body:=.stmts (Zcv st),scope:=Zad st,globals:=mainGlobals,closure:=[],defaults:=dfl,kwdefaults:=kwd,pyModule:=pm,code:=cd,builtins:=builtinsNs }
noncomputable def bnames:List (Str × Value):=[("enumerate",.type "enumerate"),("range",.type "range"),("bytes",.type "bytes"),("set",.type "set"),("list",.type "list"),("len",.builtin "len"),("sum",.builtin "sum"),
 ("sorted",.builtin "sorted"),("next",.builtin "next"),("iter",.builtin "iter"),("hex",.builtin "hex")]
noncomputable def flagNames:List Str:=["OPTIMIZED", "NEWLOCALS", "VARARGS", "VARKEYWORDS", "NESTED", "GENERATOR", "NOFREE", "COROUTINE", "ITERABLE_COROUTINE", "ASYNC_GENERATOR"]
noncomputable def signs1:List (Str × Nat):=[("!",54),("!=",28),("%",24),("%=",40),("&",19),("&=",41),("(",7),(")",8),("*",16),("**",35),("**=",46),("*=",38)]
noncomputable def signs2:List (Str × Nat):=[("+",14),("+=",36),(",",12),("-",15),("-=",37),("->",51),(".",23),("...",52),("/",17),("//",47),("//=",48),("/=",39)]
noncomputable def signs3:List (Str × Nat):=[(":",11),(":=",53),(";",13),("<",20),("<<",33),("<<=",44),("<=",29),("=",22),("==",27),(">",21),(">=",30),(">>",34)]
noncomputable def signs4:List (Str × Nat):=[(">>=",45),("@",49),("@=",50),("[",9),("]",10),("^",32),("^=",43),("{",25),("|",18),("|=",42),("}",26),("~",31)]
noncomputable def signs:List (Str × Nat):=signs1++signs2++signs3++signs4
noncomputable def attrNames:List Str:=["_write", "_data", "_with_comments", "_strip_text", "_exclude_attrs", "_exclude_tags", "_rewrite_prefixes", "_qname_aware_tags", "_find_qname_aware_attrs", "_declared_ns_stack", "_ns_stack", "_prefix_map", "_preserve_space", "_pending_start", "_root_seen", "_root_done", "_ignored_depth"]
end
section
set_option maxRecDepth 100000
set_option maxHeartbeats 0
noncomputable def modET:Value:=.str "cpy313.xml.etree.ElementTree" 289
noncomputable def modDis:Value:=.str "cpy313.dis" 539
noncomputable def modTok:Value:=.str "cpy313.token" 591
noncomputable def Zbx:Value:=.str "law_kl0100_01" 804
noncomputable def topFns:List (Nat × Addr × Value):=[(5,51,modET),(8,161,modET),(9,168,modET),(12,176,modDis),(13,183,modDis),(66,193,modTok),(67,200,modTok),(69,207,Zbx),(70,214,Zbx),(71,221,Zbx),(72,226,Zbx),(73,231,Zbx),(74,238,Zbx),(75,245,Zbx),(76,252,Zbx),(77,259,Zbx),(78,264,Zbx),(79,269,Zbx),(80,274,Zbx),(81,281,Zbx),(82,288,Zbx),(83,295,Zbx),(84,300,Zbx)]
noncomputable def clsFns:List (Nat × Addr × Str × Value × Value):=[(0,67, "C14NWriterTarget.__init__",.none,.ref 60),(1,75, "C14NWriterTarget._iter_namespaces",.ref 68,.none),(3,90, "C14NWriterTarget._qname",.ref 83,.none),(4,97, "C14NWriterTarget.data",.none,.none),(5,106, "C14NWriterTarget._flush",.ref 99,.none),(7,120, "C14NWriterTarget.start",.none,.none),(8,126, "C14NWriterTarget._start",.ref 121,.none),(9,133, "C14NWriterTarget.end",.none,.none)]
noncomputable def fnObj (fd:FuncData):Obj:={ cls:=.type "function",data:=.func fd }
noncomputable def codeO:Obj→Option Str
 | ⟨_,_,.fields vs,_⟩=>(match (vs[1]? : Option Value) with | some (Value.str x _)=>some x | _=>none)
 | _=>none
noncomputable def codeQ (h:Heap) (a:Addr):Option Str:=(h.get? a).bind codeO
noncomputable def seqO:Obj→Option (List Value)
 | ⟨_,_,.seq vs _,_⟩=>some vs.toList
 | _=>none
noncomputable def seqQ (h:Heap) (a:Addr):Option (List Value):=(h.get? a).bind seqO
noncomputable def intQ:Option Value→Option Int
 | some (.int i _)=>some i
 | _=>none
noncomputable def strQ:Value→Option Str
 | .str x _=>some x
 | _=>none
noncomputable def dictO:Obj→Option (List (Int × (Option Int × Option Str) × (Option Int × Option Str)))
 | ⟨.type "dict",none,.dict es _,sl⟩=>(match sl.size==0 with | true=>some (es.toList.map λ e=>(e.hash,(intQ (some e.key),strQ e.key),(intQ (some e.val),strQ e.val))) | false=>none)
 | _=>none
noncomputable def dictQ (h:Heap) (a:Addr):Option (List (Int × (Option Int × Option Str) × (Option Int × Option Str))):=(h.get? a).bind dictO
noncomputable def kwNames:List Str:=["with_comments", "strip_text", "rewrite_prefixes", "qname_aware_tags", "qname_aware_attrs", "exclude_attrs", "exclude_tags"].map Str.ofString
noncomputable def obsOf (s:Shared):=
 ((topFns.map λ p=>s.heap.get? p.2.1,clsFns.map λ p=>s.heap.get? p.2.1,topFns.map λ p=>codeQ s.heap (p.2.1 - 1),clsFns.map λ p=>codeQ s.heap (p.2.1 - 1)),
  (seqQ s.heap 68,seqQ s.heap 83,seqQ s.heap 99,seqQ s.heap 121,s.heap.get? 98,s.heap.get? 150,s.heap.get? 125,s.heap.get? 123,s.heap.get? 4),
  (topFns.map λ p=>s.heap.nsMap mainGlobals (Zcc (stAt p.1)),["C14NWriterTarget", "_namespace_map", "COMPILER_FLAG_NAMES", "EXACT_TOKEN_TYPES", "__builtins__"].map λ x=>s.heap.nsMap mainGlobals (Str.ofString x),intQ (s.heap.nsMap mainGlobals "ENDMARKER"),intQ (s.heap.nsMap mainGlobals "NT_OFFSET"),bnames.map λ p=>s.heap.nsMap mainGlobals p.1,bnames.map λ p=>s.heap.nsMap builtinsNs p.1),
  (s.heap.isNs 149,s.heap.isNs 60,attrNames.map λ x=>s.heap.nsMap 149 x,["__getattribute__", "__getattr__", "__setattr__"].map λ x=>s.heap.nsMap 149 (Str.ofString x),clsFns.map λ p=>s.heap.nsMap 149 (Zcc (mAt p.1)),kwNames.map λ x=>s.heap.nsMap 60 x),
  (dictQ s.heap 44,dictQ s.heap 169,dictQ s.heap 184),s.heap.isNs cStatics,s.heap.nsMap cStatics "sys.recursionlimit")
noncomputable def codeObj:Obj:={ cls:=.type "code",data:=.fields #[.str "_start" 469,.str "C14NWriterTarget._start" 470,.str "/claim/cut.py" 471,.int 114 0,.int 5 0,.int 0 0,.int 0 0,.int 3 0,.ref 122,.bool true,.int 276 0,.ref 123,.none,.none,.none,.ref 124,.int 472 0,.int 114 0,.str "/claim/cut.py" 473] }
noncomputable def clsObj:Obj:=excClassObj "C14NWriterTarget" "C14NWriterTarget" 150 149 [.type "object"] [.type "object"] true [] [] false none none none none (some (.str "C14NWriterTarget" 360)) (some (.str "C14NWriterTarget" 368)) (some (.bool true)) "object.__new__"
noncomputable def nsmEs:List (Str × Str):=[("http://www.w3.org/XML/1998/namespace", "xml"),("http://www.w3.org/1999/xhtml", "html"),("http://www.w3.org/1999/02/22-rdf-syntax-ns#", "rdf"),("http://schemas.xmlsoap.org/wsdl/", "wsdl"),("http://www.w3.org/2001/XMLSchema", "xs"),("http://www.w3.org/2001/XMLSchema-\x69nstance", "xsi"),("http://purl.org/dc/elements/1.1/", "dc")]
noncomputable def Zjl (w:World):=
 ((topFns.map λ p=>some (fnObj (fdOf (stAt p.1) (Zcc (stAt p.1)) (.ref (p.2.1 - 1)) p.2.2 .none .none)),clsFns.map λ p=>some (fnObj (fdOf (mAt p.1) p.2.2.1 (.ref (p.2.1 - 1)) modET p.2.2.2.1 p.2.2.2.2)),topFns.map λ p=>some (Zcc (stAt p.1)),clsFns.map λ p=>some p.2.2.1),
  (some [Value.type "reversed"],some [Value.none],some [Value.ref 98],some [Value.none],some ({ cls:=.type "builtin_function_or_method",data:=.fields #[.builtin "str.join",.str "" 437] }:Obj),some clsObj,some codeObj,some (tabObj #[]),some ({ cls:=.type "module",dict:=some 0 }:Obj)),
  (topFns.map λ p=>some (Value.ref p.2.1),[some (Value.ref 150),some (.ref 44),some (.ref 169),some (.ref 184),some (.ref 4)],some (0:Int),some (256:Int),bnames.map λ _=>(none:Option Value),bnames.map λ p=>some p.2),
  (true,true,attrNames.map λ _=>(none:Option Value),[(none:Option Value),none,none],clsFns.map λ p=>some (Value.ref p.2.1),[some (Value.bool false),some (.bool false),some (.bool false),some .none,some .none,some .none,some .none]),
  (some (nsmEs.map λ p=>(hashStr w p.1,((none:Option Int),some p.1),((none:Option Int),some p.2))),some (flagNames.zipIdx.map λ p=>(hashInt ((2 ^ p.2:Nat):Int),(some ((2 ^ p.2:Nat):Int),(none:Option Str)),((none:Option Int),some p.1))),some (signs.map λ p=>(hashStr w p.1,((none:Option Int),some p.1),(some (p.2:Int),(none:Option Str))))),true,(none:Option Value))
noncomputable def topGoT (tb:String→Option Builtin) (p:Program) (w:World) (n₀:Nat) (ann:Option Value):Nat→SharedT→Thread→Option (SharedT × Thread)
 | 0,s,t=>some (s,t)
 | n+1,s,t=>match through t with
  | true=>none
  | false=>match stepOk n₀ ann t with
   | false=>none
   | true=>match stepT (denote tb) p w s t with
    | some (s',t')=>topGoT tb p w n₀ ann n s' t'
    | none=>none
theorem Ziz {tb:String→Option Builtin} {p:Program} {w:World} {n₀:Nat} {ann:Option Value} :
  ∀ {n N:Nat} {s s' r:SharedT} {t t':Thread},topGoT tb p w n₀ ann n s t=some (s',t')→Zdw tb p w n₀ ann N s' t'=some r→Zdw tb p w n₀ ann (n+N) s t=some r
 | 0,N,s,s',r,t,t',h,k=>by cases h; rw [Nat.zero_add]; exact k
 | n+1,N,s,s',r,t,t',h,k=>by
  rw [show n+1+N=n+N+1 by exact Nat.le_antisymm (Wn [_,_] (.a (.a (.v 0) (.n 1)) (.v 1)) (.a (.a (.v 0) (.v 1)) (.n 1)) [] rfl) (Wn [_,_] (.a (.a (.v 0) (.v 1)) (.n 1)) (.a (.a (.v 0) (.n 1)) (.v 1)) [] rfl)]
  unfold topGoT at h
  unfold Zdw
  cases he:through t with
  | true=>rw [he] at h; cases h
  | false=>
   rw [he] at h
   cases hk:stepOk n₀ ann t with
   | false=>rw [hk] at h; cases h
   | true=>
    rw [hk] at h
    cases hs:stepT (denote tb) p w s t with
    | none=>rw [hs] at h; cases h
    | some q=>obtain ⟨s₂,t₂⟩:=q; rw [hs] at h; exact Ziz h k
noncomputable def mkT (f:Nat→Obj) (n:Nat):Nat→Nat→Nat→BT
 | 0,_,_=>.nil
 | k+1,a,b=>match Nat.blt b n with
  | true=>.node (f b) (mkT f n k (2 * a) (a+b)) (mkT f n k (2 * a) (2 * a+b))
  | false=>.nil
noncomputable def globs0:List (Str × Nat × Value):=[("__name__",165,.str "__main__" 164),("__doc__",166,.none),("__package__",167,.none),("__loader__",168,.builtin "__main__.__loader__#opaque"),("__spec__",169,.none),("__annotations__",170,.ref 6),("__builtins__",171,.ref 4),("__file__",173,.str "/claim/cut.py" 172),("__cached__",174,.none),("_sre",275,.ref 12)]
noncomputable def globsM:List (Str × Nat × Value):=[("_wall",288,.ref 38),("_twin_re_1",328,.ref 43),("_namespace_map",350,.ref 44),("_raise_serialization_error",357,.ref 51),("_looks_like_prefix_name",359,.ref 52),("C14NWriterTarget",524,.ref 150),("_escape_cdata_c14n",531,.ref 161),("_escape_attrib_c14n",538,.ref 168),("COMPILER_FLAG_NAMES",571,.ref 169),("pretty_flags",581,.ref 176),("_parse_varint",590,.ref 183),("ENDMARKER",594,.int 0 593)]
noncomputable def globs1:List (Str × Nat × Value):=(("__name__" : Str),165,Value.str "cpy313.token" 591)::(globs0.drop 1++globsM++(tokNames.zipIdx.map λ p=>(p.1,596+2 * p.2,Value.int (p.2+7:Nat) (595+2 * p.2)))++[(("NT_OFFSET" : Str),692,Value.int 256 691)])
noncomputable def dictE (w:World) (l:List (Str × Nat × Value)):Obj:={ cls:=.type "dict",data:=.dict (l.map λ p=>(⟨hashStr w p.1,.str p.1 p.2.1,p.2.2⟩:DictEntry)).toArray l.length }
noncomputable def modO (d:Addr):Obj:={ cls:=.type "module",dict:=some d }
noncomputable def rI (i:Nat):Value:=.int i 0
noncomputable def codeM:Obj:={ cls:=.type "code",data:=.fields #[.str "<module>" 277,.str "<module>" 278,.str "/claim/cut.py" 279,rI 1,rI 0,rI 0,rI 0,rI 0,.ref 28,.bool false,rI 276,.ref 29,.none,.none,.none,.none,rI 280,rI 1,.str "/claim/cut.py" 281] }
noncomputable def codesM:Obj:={ cls:=.none,data:=.fields (([(2,37),(8,50),(11,58),(176,160),(189,167),(208,175),(220,182)]:List (Nat × Nat)).flatMap λ p=>[rI p.1,rI 0,.ref p.2]).toArray }
noncomputable def frameM:Obj:={ cls:=.type "frame",slots:=#[some (.ref 30),some (.ref 3),some (.ref 3),none,some (.str "__main__" 164),none,some (.ref 0)] }
noncomputable def stats:List (Str × Nat × Value):=[("\x69mport.loaded._sre",183,.bool true),("class._frozen_\x69mportlib.BuiltinImporter",185,.ref 14),("watched.\x69mport",206,.ref 18),("class._frozen_\x69mportlib.ModuleSpec",216,.ref 22),("sys.modules.booked-epoch",245,.int 3 0),("\x69mport.later-laid._sre",270,.bool true),("watched.library",272,.ref 27),("watched.library-objects",0,.str "\x0c" 0), ("watched.library-deep._sre", 273, .str "\x04\x00\x00\x0b\x04\x00\x00\x0b\x04\x00\x00\x03\x04\x00\x00\x0b\x08\x04dict\x02" 0)]
noncomputable def statO (w:World):Obj:={ cls:=.none,data:=.dict (stats.map λ p=>(⟨hashStr w p.1,.str p.1 p.2.1,p.2.2⟩:DictEntry)).toArray 9 }
noncomputable def mods1:List (Str × Nat × Value):=[("builtins",162,.ref 4),("__main__",163,.ref 5),("_sre",244,.ref 12)]
noncomputable def objs0 (w:World) (g:Nat→Obj):Nat→Obj
 | 2=>statO w
 | 3=>dictE w globs0
 | n=>g n
noncomputable def objs1 (w:World) (g:Nat→Obj):Nat→Obj
 | 0=>boot_o_0 w.params
 | 1=>dictE w mods1
 | 2=>statO w
 | 3=>dictE w globs1
 | 4=>modO 0
 | 5=>modO 3
 | 29=>codesM
 | 30=>codeM
 | 31=>frameM
 | n=>g n
noncomputable def st1 (w:World) (g:Nat→Obj) (life:Life) (drawn:Drawn) (os:OsState):SharedT:=⟨mkT (objs1 w g) 184 9 1 0,184,life,#[],drawn,693,os⟩
noncomputable def env1:Env:={ scope:=PySem.Challenge.pw_kl0100_01.main.scope,locals:=mainNs,globals:=mainNs,cells:=[],code:=.ref 30,frame:=some 31 }
noncomputable def rest1:List Stmt:=(behindTheImports PySem.Challenge.pw_kl0100_01).drop 64
noncomputable def th1:Thread:=⟨((execs rest1 env1).onRaise (leaving env1)).bind λ f=>.pure (.done f),.body (behindTheImports PySem.Challenge.pw_kl0100_01) env1,⟨278,0,278,9⟩,[topFrame default]⟩
noncomputable def st0T (w:World) (g:Nat→Obj) (life:Life) (drawn:Drawn) (toks:Nat) (os:OsState):SharedT:=⟨mkT (objs0 w g) 28 6 1 0,28,life,#[],drawn,toks,os⟩
noncomputable def nsO (o:Option Obj) (name:Str):Option Value:=match o with | some o=>(match o.data with | .dict es _=>nsFind es name | _=>none) | none=>none
noncomputable def isNsO (o:Option Obj):Bool:=match o with | some o=>(match o.data with | .dict es _=>es.all (λ e=>match e.key with | .str _ _=>true | _=>false) | _=>false) | none=>false
noncomputable def liv (o:Obj):Option Obj:=Heap.get? ⟨#[o],default⟩ 0
noncomputable def topOld:List (Nat × Addr × Value):=topFns.take 5
noncomputable def topNew:List (Nat × Addr × Value):=topFns.drop 5
noncomputable abbrev OldT:Type:=(List (Option Obj) × List (Option Obj) × List (Option Str) × List (Option Str)) × (Option (List Value) × Option (List Value) × Option (List Value) × Option (List Value) × Option Obj × Option Obj × Option Obj × Option Obj) × (Bool × Bool × List (Option Value) × List (Option Value) × List (Option Value) × List (Option Value)) × (Option (List (Int × (Option Int × Option Str) × (Option Int × Option Str))) × Option (List (Int × (Option Int × Option Str) × (Option Int × Option Str))))
noncomputable def Zko (g:Nat→Obj):OldT:=
 ((topOld.map λ p=>liv (g p.2.1),clsFns.map λ p=>liv (g p.2.1),topOld.map λ p=>(liv (g (p.2.1 - 1))).bind codeO,clsFns.map λ p=>(liv (g (p.2.1 - 1))).bind codeO),
  ((liv (g 68)).bind seqO,(liv (g 83)).bind seqO,(liv (g 99)).bind seqO,(liv (g 121)).bind seqO,liv (g 98),liv (g 150),liv (g 125),liv (g 123)),
  (isNsO (liv (g 149)),isNsO (liv (g 60)),attrNames.map λ x=>nsO (liv (g 149)) x,["__getattribute__", "__getattr__", "__setattr__"].map λ x=>nsO (liv (g 149)) (Str.ofString x),clsFns.map λ p=>nsO (liv (g 149)) (Zcc (mAt p.1)),kwNames.map λ x=>nsO (liv (g 60)) x),
  ((liv (g 44)).bind dictO,(liv (g 169)).bind dictO))
noncomputable def oldVal (w:World):OldT:=
 ((topOld.map λ p=>some (fnObj (fdOf (stAt p.1) (Zcc (stAt p.1)) (.ref (p.2.1 - 1)) p.2.2 .none .none)),clsFns.map λ p=>some (fnObj (fdOf (mAt p.1) p.2.2.1 (.ref (p.2.1 - 1)) modET p.2.2.2.1 p.2.2.2.2)),topOld.map λ p=>some (Zcc (stAt p.1)),clsFns.map λ p=>some p.2.2.1),
  (some [Value.type "reversed"],some [Value.none],some [Value.ref 98],some [Value.none],some { cls:=.type "builtin_function_or_method",data:=.fields #[.builtin "str.join",.str "" 437] },some clsObj,some codeObj,some (tabObj #[])),
  (true,true,attrNames.map λ _=>(none:Option Value),[(none:Option Value),none,none],clsFns.map λ p=>some (Value.ref p.2.1),[some (Value.bool false),some (.bool false),some (.bool false),some .none,some .none,some .none,some .none]),
  (some (nsmEs.map λ p=>(hashStr w p.1,((none:Option Int),some p.1),((none:Option Int),some p.2))),some (flagNames.zipIdx.map λ p=>(hashInt ((2 ^ p.2:Nat):Int),(some ((2 ^ p.2:Nat):Int),(none:Option Str)),((none:Option Int),some p.1)))))
noncomputable def obsMake (w:World) (t:OldT):=
 ((t.1.1++topNew.map λ p=>some (fnObj (fdOf (stAt p.1) (Zcc (stAt p.1)) (.ref (p.2.1 - 1)) p.2.2 .none .none)),t.1.2.1,t.1.2.2.1++topNew.map λ p=>some (Zcc (stAt p.1)),t.1.2.2.2),
  (t.2.1.1,t.2.1.2.1,t.2.1.2.2.1,t.2.1.2.2.2.1,t.2.1.2.2.2.2.1,t.2.1.2.2.2.2.2.1,t.2.1.2.2.2.2.2.2.1,t.2.1.2.2.2.2.2.2.2,some (modO 0)),
  (topFns.map λ p=>some (Value.ref p.2.1),[some (Value.ref 150),some (.ref 44),some (.ref 169),some (.ref 184),some (.ref 4)],some (0:Int),some (256:Int),bnames.map λ _=>(none:Option Value),bnames.map λ p=>some p.2),
  t.2.2.1,
  (t.2.2.2.1,t.2.2.2.2,some (signs.map λ p=>(hashStr w p.1,((none:Option Int),some p.1),(some (p.2:Int),(none:Option Str))))),true,(none:Option Value))
theorem Zhy (w:World):obsMake w (oldVal w)=Zjl w:=by kernel_rfl
noncomputable def rightT {α : Type} (p q:Program) (loose:List Str) (Xt:Shared→Bool) (Yf:Shared→α) (g0:Bool) (m₀ ann N:Nat) (w:World) (h₀:Heap) (S:SharedT) (th:Thread):=
 (Zdw treeTable p w m₀ (some (.ref ann)) N S th).bind λ t₁=>
   match staticsOk (importedModules p.main.body) h₀ t₁.abs.heap&&namesBound p t₁.abs.heap&&gensDone t₁.abs&&laidKept h₀ t₁.abs.heap with
   | true=>some (openSeen q loose (importedModules p.main.body) Xt g0 t₁.abs,Yf t₁.abs)
   | false=>none
noncomputable def openA (p:Program) (N k m₀ ann:Nat) (w:World):Option (SharedT × SharedT × Thread):=
 (fencedOpening treeTable p w N).bind λ s₀=>match Zhp s₀ with
 | none=>none
 | some t₀=>match s₀.heap.isNs mainGlobals&&s₀.gens.size==0&&s₀.heap.objs.size==m₀&&annIs (s₀.heap.nsMap mainGlobals "__annotations__") ann with
  | false=>none
  | true=>(topGoT treeTable p w m₀ (some (.ref ann)) k t₀ (topStub p)).map λ r=>(t₀,r)
theorem Zes {α : Type} {p q:Program} {loose:List Str} {Xt:Shared→Bool} {Yf:Shared→α} {g0:Bool} {k M m₀ ann:Nat} {w:World} {t₀ S:SharedT} {th:Thread} {r:_ × α}
  (hA:openA p (k+M) k m₀ ann w=some (t₀,S,th)) (hB:rightT p q loose Xt Yf g0 m₀ ann M w t₀.abs.heap S th=some r):leftT p q loose Xt Yf g0 (k+M) m₀ ann w=some r:=by
 refine E12 (Option.bind_eq_some_iff.mp hA) λ s₀ e₀ h=>?_
 refine E12 (Option.bind_eq_some_iff.mp hB) λ t₁ e₂ h₂=>?_
 unfold leftT
 rw [e₀]
 show (match Zhp s₀ with | none=>none | some t₀=>_)=_
 cases et:Zhp s₀ with
 | none=>rw [et] at h; cases h
 | some t=>
  rw [et] at h
  dsimp only at h ⊢
  cases ec:(s₀.heap.isNs mainGlobals&&s₀.gens.size==0&&s₀.heap.objs.size==m₀&&annIs (s₀.heap.nsMap mainGlobals "__annotations__") ann) with
  | false=>rw [ec] at h; cases h
  | true=>
   rw [ec] at h
   refine E11 (Option.map_eq_some_iff.mp h) λ Y1 Y2=>?_
   rcases Y1 with ⟨S',th'⟩
   refine E02 Y2 λ e₁ h'=>?_
   clear Y2
   have h':(t,(S',th'))=(t₀,(S,th)):=h'
   cases h'
   dsimp only
   rw [Ziz e₁ e₂]
   rw [Zjd et] at h₂
   exact h₂
noncomputable abbrev pwL:Program:=PySem.Challenge.pw_kl0100_01
noncomputable abbrev runA (w:World):=openA pwL (1691+4869) 1691 28 6 w
noncomputable def dT:SharedT:=⟨.nil,0,{},#[],{},0,default⟩
noncomputable def a0 (r:Option (SharedT × SharedT × Thread)):SharedT:=match r with | some x=>x.1 | none=>dT
noncomputable def a1 (r:Option (SharedT × SharedT × Thread)):SharedT:=match r with | some x=>x.2.1 | none=>dT
noncomputable def gOf (t:SharedT) (a:Nat):Obj:=(t.tree.get a).getD default
noncomputable def wantA (w:World) (r:Option (SharedT × SharedT × Thread)):Option (SharedT × SharedT × Thread):=
 some (st0T w (gOf (a0 r)) (a0 r).life (a0 r).drawn (a0 r).toks (a0 r).os,st1 w (gOf (a1 r)) (a1 r).life (a1 r).drawn (a1 r).os,th1)
theorem open_obs0:∀ w:World,(runA (w.withFollow "special-get-raises" false),Zko (gOf (a1 (runA (w.withFollow "special-get-raises" false)))))=(wantA (w.withFollow "special-get-raises" false) (runA (w.withFollow "special-get-raises" false)),oldVal (w.withFollow "special-get-raises" false)):=by
 intro w
 kernel_rfl
theorem right_obs0:∀ (w:World) (g g₀:Nat→Obj) (life life₀:Life) (drawn drawn₀:Drawn) (toks₀:Nat) (os os₀:OsState),rightT pwL qv Zfn (λ _=>true) obsOf true 28 6 4869 (w.withFollow "special-get-raises" false) (st0T (w.withFollow "special-get-raises" false) g₀ life₀ drawn₀ toks₀ os₀).abs.heap (st1 (w.withFollow "special-get-raises" false) g life drawn os) th1=some (openGood qv Zfn,obsMake (w.withFollow "special-get-raises" false) (Zko g)):=by
 intro w g g₀ life life₀ drawn drawn₀ toks₀ os os₀
 kernel_rfl
theorem open_obs1:∀ w:World,(runA (w.withFollow "special-get-raises" true),Zko (gOf (a1 (runA (w.withFollow "special-get-raises" true)))))=(wantA (w.withFollow "special-get-raises" true) (runA (w.withFollow "special-get-raises" true)),oldVal (w.withFollow "special-get-raises" true)):=by
 intro w
 kernel_rfl
theorem right_obs1:∀ (w:World) (g g₀:Nat→Obj) (life life₀:Life) (drawn drawn₀:Drawn) (toks₀:Nat) (os os₀:OsState),rightT pwL qv Zfn (λ _=>true) obsOf true 28 6 4869 (w.withFollow "special-get-raises" true) (st0T (w.withFollow "special-get-raises" true) g₀ life₀ drawn₀ toks₀ os₀).abs.heap (st1 (w.withFollow "special-get-raises" true) g life drawn os) th1=some (openGood qv Zfn,obsMake (w.withFollow "special-get-raises" true) (Zko g)):=by
 intro w g g₀ life life₀ drawn drawn₀ toks₀ os os₀
 kernel_rfl
theorem left_obs (b:Bool) (w:World):leftT pwL qv Zfn (λ _=>true) obsOf true 6560 28 6 (w.withFollow "special-get-raises" b)=some (openGood qv Zfn,Zjl (w.withFollow "special-get-raises" b)):=by
 cases b
 ·obtain ⟨h1,h2⟩:=Prod.mk.inj (open_obs0 w)
  have h:=Zes h1 (right_obs0 w _ _ _ _ _ _ _ _ _)
  rw [h2,Zhy] at h
  exact h
 ·obtain ⟨h1,h2⟩:=Prod.mk.inj (open_obs1 w)
  have h:=Zes h1 (right_obs1 w _ _ _ _ _ _ _ _ _)
  rw [h2,Zhy] at h
  exact h
theorem said_ok:PySem.Challenge.rw_kl0100_01.wellSaid=true:=by
 unfold OpenLaw.wellSaid OpenRow.wellSaid OpenRow.partSaid looksOpen
 repeat' with_reducible apply look_both
 all_goals decide +kernel
end
section
set_option maxRecDepth 10000
inductive D where
 | val (v:Value)
 | int (i:Int)
 | str (x:Str)
 | bytes (b:Array UInt8)
 | tup (l:List D)
 deriving Inhabited
noncomputable abbrev D.ref (a:Addr):D:=.val (.ref a)
noncomputable abbrev D.bool (b:Bool):D:=.val (.bool b)
noncomputable abbrev D.none:D:=.val .none
def Zgf (h:Heap) (a:Addr) (vs:List Value):Prop:=∃ o n,h.get? a=some o∧o.cls = .type "tuple" ∧ o.data = .seq vs.toArray n
mutual
def Val (h:Heap) (v:Value):D→Prop
 | .val w=>v=w
 | .int i=>∃ t,v = .int i t
 | .str x=>∃ t,v = .str x t
 | .bytes b=>∃ t,v = .bytes b t
 | .tup ds=>∃ a vs,v = .ref a∧Zgf h a vs∧Vals h vs ds
def Vals (h:Heap):List Value→List D→Prop
 | vs,[]=>vs=[]
 | vs,d::ds=>∃ v r,vs=v::r∧Val h v d∧Vals h r ds
end
def Tk (h h':Heap):Prop:=∀ a vs,Zgf h a vs→Zgf h' a vs
theorem Tk.refl (h:Heap):Tk h h:=λ _ _ e=>e
theorem Tk.trans {a b c:Heap} (x:Tk a b) (y:Tk b c):Tk a c:=λ p o e=>y p o (x p o e)
theorem Tk.of_keep {h h':Heap} (k:∀ b o,h.get? b=some o→h'.get? b=some o):Tk h h':=λ a _ ⟨o,n,e,c⟩=>⟨o,n,k a o e,c⟩
theorem Tk.of_but {h h':Heap} {a:Addr} (k:∀ b o,b ≠ a→h.get? b=some o→h'.get? b=some o) (n:∀ vs,¬ Zgf h a vs):Tk h h':=λ b vs x=>by
 by_cases e:b=a
 ·subst e; exact absurd x (n vs)
 ·refine E22 x λ o m e1 c=>?_
  try clear x; exact ⟨o,m,k b o e e1,c⟩
mutual
theorem Val.tk {h h':Heap} (k:Tk h h'):∀ {d:D} {v:Value},Val h v d→Val h' v d
 | .val _,_,x=>x
 | .int _,_,x=>x
 | .str _,_,x=>x
 | .bytes _,_,x=>x
 | .tup _,_,⟨a,vs,e,t,x⟩=>⟨a,vs,e,k _ _ t,Vals.tk k x⟩
theorem Vals.tk {h h':Heap} (k:Tk h h'):∀ {ds:List D} {vs:List Value},Vals h vs ds→Vals h' vs ds
 | [],_,x=>x
 | _::_,_,⟨v,r,e,x,y⟩=>⟨v,r,e,Val.tk k x,Vals.tk k y⟩
end
theorem Vals.nil {h:Heap}:Vals h [] []:=rfl
theorem Vals.cons {h:Heap} {v:Value} {d:D} {vs:List Value} {ds:List D} (x:Val h v d) (y:Vals h vs ds):Vals h (v::vs) (d::ds):=⟨v,vs,rfl,x,y⟩
theorem Vals.length {h:Heap}:∀ {vs:List Value} {ds:List D},Vals h vs ds→vs.length=ds.length
 | _,[],x=>by have hh:_=[]:=x; subst hh; rfl
 | _,_::_,⟨_,_,e,_,y⟩=>by rw [e,List.length_cons,List.length_cons,y.length]
theorem Vals.get {h:Heap} {vs:List Value} {ds:List D} (x:Vals h vs ds) {i:Nat} {d:D} (e:ds[i]? = some d):∃ v,vs[i]? = some v∧Val h v d:=by
 induction ds generalizing vs i with
 | nil=>simp at e
 | cons _ _ ih=>
  have Y1:=x
  try clear x
  refine E23 Y1 λ v r q x y=>?_
  clear Y1
  subst q
  cases i with
  | zero=>simp at e; subst e; exact ⟨v,rfl,x⟩
  | succ i=>simpa using ih y (by simpa using e)
theorem Vals.one {h:Heap} {vs:List Value} {d:D} (x:Vals h vs [d]):∃ v,vs=[v]∧Val h v d:=by
 refine E23 x λ v r e hv hr=>?_
 try clear x
 have hh:r=[]:=hr; subst hh
 exact ⟨v,e,hv⟩
theorem Vals.two {h:Heap} {vs:List Value} {c d:D} (x:Vals h vs [c,d]):∃ u v,vs=[u,v]∧Val h u c∧Val h v d:=by
 refine E23 x λ u r e hu hr=>?_
 try clear x
 refine E12 (Vals.one hr) λ v e2 hv=>?_
 exact ⟨u,v,e2 ▸ e,hu,hv⟩
theorem Vals.append {h:Heap}:∀ {vs ws:List Value} {ds es:List D},Vals h vs ds→Vals h ws es→Vals h (vs++ws) (ds++es)
 | _,_,[],_,x,y=>by have hh:_=[]:=x; subst hh; exact y
 | _,_,_::_,_,⟨v,r,e,x,z⟩,y=>by subst e; exact ⟨v,_,rfl,x,z.append y⟩
theorem Vals.snoc {h:Heap} {vs:List Value} {ds:List D} {v:Value} {d:D} (x:Vals h vs ds) (y:Val h v d):Vals h (vs++[v]) (ds++[d]):=
 x.append (.cons y .nil)
theorem Vals.take {h:Heap} (n:Nat):∀ {vs:List Value} {ds:List D},Vals h vs ds→Vals h (vs.take n) (ds.take n):=by
 induction n with
 | zero=>intro vs ds _; rw [List.take_zero,List.take_zero]; exact .nil
 | succ n ih=>
  intro vs ds x
  cases ds with
  | nil=>have hh:vs=[]:=x; subst hh; exact x
  | cons d r=>refine E23 x λ v q Y1 y z=>?_; try clear x; subst Y1; exact .cons y (ih z)
theorem Vals.drop {h:Heap} (n:Nat):∀ {vs:List Value} {ds:List D},Vals h vs ds→Vals h (vs.drop n) (ds.drop n):=by
 induction n with
 | zero=>intro vs ds x; exact x
 | succ n ih=>
  intro vs ds x
  cases ds with
  | nil=>have hh:vs=[]:=x; subst hh; exact x
  | cons d r=>refine E23 x λ v q Y1 y z=>?_; try clear x; subst Y1; exact ih z
theorem Vals.set {h:Heap} {v:Value} {d:D} (y:Val h v d) {vs:List Value} {ds:List D} {n:Nat} (x:Vals h vs ds):Vals h (vs.set n v) (ds.set n d):=by
 induction ds generalizing vs n with
 | nil=>have hh:_=[]:=x; subst hh; cases n <;> rfl
 | cons _ _ ih=>
  refine E23 x λ _ _ e q z=>?_
  try clear x
  subst e
  cases n with
  | zero=>exact .cons y z
  | succ n=>exact .cons q (ih z)
theorem Vals.dropLast {h:Heap} {vs:List Value} {ds:List D} (x:Vals h vs ds):Vals h vs.dropLast ds.dropLast:=by
 rw [List.dropLast_eq_take,List.dropLast_eq_take,x.length]; exact x.take _
set_option genInjectivity false in
structure Bs where
 prog:Program
 w:World
 T:Addr
 G:Heap→Prop
 P:Addr
 stable:∀ h h',G h→(∀ a o,a < T∧a ≠ P→h.get? a=some o→h'.get? a=some o)→G h'
 lim:∀ h,G h→h.NoLimit
 mg:Str→Option Value
 mb:Str→Option Value
 hg:∀ h,G h→h.Ns mainGlobals mg
 hb:∀ h,G h→h.Ns builtinsNs mb
 big:sysModules < T∧sysModules ≠ P
noncomputable abbrev Bs.Old (B:Bs) (a:Addr):Prop:=a < B.T∧a ≠ B.P
inductive Sh where
 | list (ds:List D)
 | dict (es:List (Str × D))
 | cell (d:Option D)
 | fields (c:String) (vs:Array Value)
 | is (p:Obj→Prop)
 | obj (c dx:Addr)
 | attrs (es:List (Str × D))
 deriving Inhabited
def NoTup (o:Obj):Prop:=o.cls ≠ .type "tuple" ∨ ∀ vs n,o.data ≠ .seq vs n
theorem NoTup.not {h:Heap} {a:Addr} {o:Obj} (e:h.get? a=some o) (n:NoTup o) (vs:List Value):¬ Zgf h a vs:=by
 intro hq0
 refine E23 hq0 λ o' m e' c d=>?_
 try clear hq0
 rw [e] at e'; cases e'
 rcases n with n | n
 ·exact n c
 ·exact n _ _ d
variable {B:Bs}
def LstAt (h:Heap) (a:Addr) (items:Array Value):Prop:=∃ n,h.get? a=some { cls:=.type "list",dict:=none,data:=.seq items n,slots:=#[] }
theorem LstAt.plain {h:Heap} {a:Addr} {items:Array Value} (x:LstAt h a items):PlainL h a items:=by refine E11 x λ n e=>?_; try clear x; exact ⟨_,n,e,rfl,rfl,rfl⟩
theorem LstAt.isList {h:Heap} {a:Addr} {items:Array Value} (x:LstAt h a items):h.IsList a items:=x.plain.isList
def AttrOk (h:Heap) (m:Str→Option Value):List (Str × D)→Prop
 | []=>True
 | (n,d)::r=>(∃ v,m n=some v∧Val h v d)∧AttrOk h m r
theorem AttrOk.tk {h h':Heap} (k:Tk h h') {m:Str→Option Value}:∀ {es:List (Str × D)},AttrOk h m es→AttrOk h' m es
 | [],_=>trivial
 | _::_,⟨⟨v,e,x⟩,y⟩=>⟨⟨v,e,x.tk k⟩,y.tk k⟩
def ShAt (B:Bs) (h:Heap) (a:Addr):Sh→Prop
 | .list ds=>∃ items,LstAt h a items∧Vals h items.toList ds
 | .dict es=>∃ kvs,h.DictOf (strKind B.prog B.w) a kvs∧kvs.map (·.1)=es.map (·.1)∧Vals h (kvs.map (·.2)) (es.map (·.2))
 | .cell (some d)=>∃ v,h.IsCell a (some v)∧Val h v d
 | .cell none=>h.IsCell a none
 | .fields c vs=>∃ o,h.get? a=some o∧o.cls = .type c∧o.data = .fields vs
 | .is p=>∃ o,h.get? a=some o∧p o∧NoTup o
 | .obj c dx=>∃ o,h.get? a=some o∧o.cls = .ref c∧(∀ k,o.data ≠ .cls k)∧o.dict=some dx
 | .attrs es=>∃ m,h.Ns1 a m∧Within m (es.map (·.1))∧(es.map (·.1)).Nodup∧AttrOk h m es
theorem ShAt.isAt {h:Heap} {a:Addr} {sh:Sh} (y:ShAt B h a sh):∃ o,h.get? a=some o∧NoTup o:=by
 cases sh with
 | list _=>refine E12 y λ _ Y1 _=>?_; try clear y; refine E11 Y1 λ _ e=>?_; clear Y1; exact ⟨_,e,.inl (by show (Value.type "list") ≠ .type "tuple"; decide)⟩
 | dict _=>refine E12 y λ _ Y1 _=>?_; try clear y; refine E34 Y1 λ o _ _ e _ d _=>?_; clear Y1; exact ⟨o,e,.inr λ vs n q=>by rw [d] at q; cases q⟩
 | cell c=>
  cases c with
  | some _=>refine E12 y λ _ Y1 _=>?_; try clear y; refine E12 Y1 λ o e d=>?_; clear Y1; exact ⟨o,e,.inr λ vs n q=>by rw [d] at q; cases q⟩
  | none=>refine E12 y λ o e d=>?_; try clear y; exact ⟨o,e,.inr λ vs n q=>by rw [d] at q; cases q⟩
 | fields _ _=>refine E13 y λ o e _ d=>?_; try clear y; exact ⟨o,e,.inr λ vs n q=>by rw [d] at q; cases q⟩
 | is _=>refine E13 y λ o e _ n=>?_; try clear y; exact ⟨o,e,n⟩
 | obj _ _=>refine E13 y λ o e c _=>?_; try clear y; exact ⟨o,e,.inl (by rw [c]; exact λ q=>nomatch q)⟩
 | attrs _=>refine E12 y λ _ Y1 _=>?_; try clear y; refine E33 Y1 λ o _ _ e d _=>?_; clear Y1; exact ⟨o,e,.inr λ vs n q=>by rw [d] at q; cases q⟩
theorem ShAt.lt {h:Heap} {a:Addr} {sh:Sh} (x:ShAt B h a sh):a < h.objs.size:=by obtain ⟨_,e,_⟩:=x.isAt; exact Heap.lt_size e
theorem ShAt.noTup {h:Heap} {a:Addr} {sh:Sh} (x:ShAt B h a sh) (vs:List Value):¬ Zgf h a vs:=by obtain ⟨_,e,n⟩:=x.isAt; exact NoTup.not e n vs
theorem ShAt.keep {h h':Heap} {a:Addr} (k:∀ o,h.get? a=some o→h'.get? a=some o) (t:Tk h h') {sh:Sh} (y:ShAt B h a sh):ShAt B h' a sh:=by
 cases sh with
 | list _=>refine E12 y λ items Y1 v=>?_; try clear y; refine E11 Y1 λ n e=>?_; clear Y1; exact ⟨items,⟨n,k _ e⟩,v.tk t⟩
 | dict _=>refine E13 y λ kvs Y1 q v=>?_; try clear y; refine E32 Y1 λ o es ep e r=>?_; clear Y1; exact ⟨kvs,⟨o,es,ep,k o e,r⟩,q,v.tk t⟩
 | cell c=>
  cases c with
  | some _=>refine E12 y λ v Y1 x=>?_; try clear y; refine E12 Y1 λ o e d=>?_; clear Y1; exact ⟨v,⟨o,k o e,d⟩,x.tk t⟩
  | none=>refine E12 y λ o e d=>?_; try clear y; exact ⟨o,k o e,d⟩
 | fields _ _=>refine E12 y λ o e r=>?_; try clear y; exact ⟨o,k o e,r⟩
 | is _=>refine E13 y λ o e p n=>?_; try clear y; exact ⟨o,k _ e,p,n⟩
 | obj _ _=>refine E12 y λ o e r=>?_; try clear y; exact ⟨o,k _ e,r⟩
 | attrs _=>refine E14 y λ m Y1 w nd v=>?_; try clear y; refine E32 Y1 λ o es ep e r=>?_; clear Y1; exact ⟨m,⟨o,es,ep,k _ e,r⟩,w,nd,v.tk t⟩
structure Gk (a b:Array GenState):Prop where
 bare:∀ (i:Nat) (x:GenState),b[i]? = some x→x.bare=true∨a[i]? = some x
 keep:∀ (i:Nat) (x:GenState),a[i]? = some x→b[i]? = some x
theorem Gk.refl (a:Array GenState):Gk a a:=⟨λ _ _ e=>.inr e,λ _ _ e=>e⟩
theorem Gk.trans {a b c:Array GenState} (x:Gk a b) (y:Gk b c):Gk a c:=⟨λ i z e=>(y.bare i z e).elim .inl (x.bare i z),λ i z e=>y.keep i z (x.keep i z e)⟩
structure Eff (W:List Addr) (s s':Shared):Prop where
 keep:∀ a o,a ∉ W→s.heap.get? a=some o→s'.heap.get? a=some o
 tk:Tk s.heap s'.heap
 os:s'.os=s.os
 gens:Gk s.gens s'.gens
theorem Eff.refl (W:List Addr) (s:Shared):Eff W s s:=⟨λ _ _ _ e=>e,.refl _,rfl,.refl _⟩
theorem Eff.trans {W:List Addr} {a b c:Shared} (x:Eff W a b) (y:Eff W b c):Eff W a c:=
 ⟨λ p o n e=>y.keep p o n (x.keep p o n e),x.tk.trans y.tk,y.os.trans x.os,x.gens.trans y.gens⟩
theorem Eff.mono {W W':List Addr} {a b:Shared} (x:Eff W a b) (h:∀ p∈W,p∈W'):Eff W' a b:=
 ⟨λ p o n e=>x.keep p o (λ q=>n (h p q)) e,x.tk,x.os,x.gens⟩
theorem Eff.ext {s:Shared} {h':Heap} {t:Nat} (k:∀ b o,s.heap.get? b=some o→h'.get? b=some o):Eff [] s { s with heap:=h',toks:=t }:=
 ⟨λ a o _ e=>k a o e,.of_keep k,rfl,.refl _⟩
theorem Eff.push {s:Shared} (o:Obj) {t:Nat}:Eff [] s { s with heap:=s.heap.push o,toks:=t }:=
 .ext (λ _ _ e=>Heap.get?_push_of_some o e)
theorem Eff.tok {s:Shared} {t:Nat}:Eff [] s { s with toks:=t }:=⟨λ _ _ _ e=>e,.refl _,rfl,.refl _⟩
theorem Eff.but {s:Shared} {h':Heap} {a:Addr} {t:Nat} (hs:Heap.SameBut a s.heap h') (n:∀ vs,¬ Zgf s.heap a vs):Eff [a] s { s with heap:=h',toks:=t }:=
 ⟨λ b o nb e=>(hs.2 b (by simpa using nb)).trans e,.of_but (λ b o nb e=>(hs.2 b nb).trans e) n,rfl,.refl _⟩
def Room (A:Around) (n:Nat):Prop:=A.depth+n < recursionLimit∧A.units+8 * n < cLine∧A.handled=none
theorem Room.depth {A:Around} {n:Nat} (r:Room A n):A.depth < recursionLimit:=Nat.lt_of_le_of_lt (Nat.le_add_right _ _) r.1
theorem Room.units {A:Around} {n:Nat} (r:Room A n):A.units < cLine:=Nat.lt_of_le_of_lt (Nat.le_add_right _ _) r.2.1
theorem Room.handled {A:Around} {n:Nat} (r:Room A n):A.handled=none:=r.2.2
theorem Room.le {A:Around} {n m:Nat} (r:Room A n) (h:autoParam (m≤n) tO):Room A m:=by
 refine E03 r λ a b c=>?_
 try clear r
 exact ⟨by exact Wn [_,_,_,_] (.a (.a (.v 0) (.v 1)) (.n 1)) (.v 2) [(1,.a (.a (.v 0) (.v 3)) (.n 1),.v 2),(1,.v 1,.v 3)] rfl a h,by exact Wn [_,_,_,_] (.a (.a (.v 0) (.m 8 (.v 1))) (.n 1)) (.v 2) [(1,.a (.a (.v 0) (.m 8 (.v 3))) (.n 1),.v 2),(8,.v 1,.v 3)] rfl b h,c⟩
theorem Room.deeper {A:Around} {n m:Nat} {env:Env} (r:Room A n) (h:autoParam (m+1≤n) tO):Room (A.deeper env) m:=by
 refine E03 r λ a b c=>?_
 try clear r
 exact ⟨by show A.depth+1+m < _; exact Wn [_,_,_,_] (.a (.a (.a (.v 0) (.n 1)) (.v 1)) (.n 1)) (.v 2) [(1,.a (.a (.v 0) (.v 3)) (.n 1),.v 2),(1,.a (.v 1) (.n 1),.v 3)] rfl a h,by show A.units+3+8 * m < _; exact Wn [_,_,_,_] (.a (.a (.a (.v 0) (.n 3)) (.m 8 (.v 1))) (.n 1)) (.v 2) [(1,.a (.a (.v 0) (.m 8 (.v 3))) (.n 1),.v 2),(8,.a (.v 1) (.n 1),.v 3)] rfl b h,c⟩
theorem Room.in1 {A:Around} {n m:Nat} (r:Room A n) (h:autoParam (m+1≤n) tO):Room A.in1 m:=by
 refine E03 r λ a b c=>?_
 try clear r
 exact ⟨by show A.depth+m < _; exact Wn [_,_,_,_] (.a (.a (.v 0) (.v 1)) (.n 1)) (.v 2) [(1,.a (.a (.v 0) (.v 3)) (.n 1),.v 2),(1,.a (.v 1) (.n 1),.v 3)] rfl a h,by show A.units+1+8 * m < _; exact Wn [_,_,_,_] (.a (.a (.a (.v 0) (.n 1)) (.m 8 (.v 1))) (.n 1)) (.v 2) [(1,.a (.a (.v 0) (.m 8 (.v 3))) (.n 1),.v 2),(8,.a (.v 1) (.n 1),.v 3)] rfl b h,c⟩
set_option genInjectivity false in
structure Cx (B:Bs) where
 A:Around
 env:Env
 base:Shared
 W:List Addr
 names:List Str
 n:Nat
 kind:env.scope.kind = .function
 gl:env.globals=mainGlobals
 bl:env.builtins=builtinsNs
 nd:names.Nodup
 loc:∀ x∈names,env.kindOf x=some .local
 room:Room A n
 low:B.T≤base.heap.objs.size
 above:base.heap.objs.size≤env.locals
 hW:∀ a∈W,¬ B.Old a
noncomputable abbrev Loc:=List (Str × Option D)
noncomputable abbrev Led:=List (Addr × Sh)
structure St (C:Cx B) (σ : Loc) (O:Led) (s:Shared):Prop where
 top:B.G s.heap
 names : σ.map (·.1)=C.names
 loc:∃ m,s.heap.Ns C.env.locals m∧∀ x d,(x,some d) ∈ σ→∃ v,m x=some v∧Val s.heap v d
 objs:∀ p∈O,ShAt B s.heap p.1 p.2
 ond:(O.map (·.1)).Nodup
 ol:∀ p∈O,p.1 ≠ C.env.locals
 own:∀ p∈O,C.base.heap.objs.size≤p.1∨p.1∈C.W
 eff:Eff C.W C.base s
section
variable {C:Cx B} {σ σ':Loc} {O O':Led} {s s':Shared}
theorem Bs.notOld {B:Bs} {a:Addr} (h:B.T≤a):¬ B.Old a:=λ x=>Nat.lt_irrefl _ (Nat.lt_of_lt_of_le x.1 h)
theorem St.low (S:St C σ O s) {p:Addr × Sh} (h:p∈O):¬ B.Old p.1:=(S.own p h).elim (λ x=>Bs.notOld (Nat.le_trans C.low x)) (C.hW _)
theorem Cx.lowL (C:Cx B):¬ B.Old C.env.locals:=Bs.notOld (Nat.le_trans C.low C.above)
theorem Ns.noTup {h:Heap} {L:Addr} {m:Str→Option Value} (x:h.Ns L m) (vs:List Value):¬ Zgf h L vs:=by
 refine E33 x λ o es ep e d _=>?_
 try clear x
 exact NoTup.not e (.inr λ _ _ q=>by rw [d] at q; cases q) vs
theorem St.ltL (S:St C σ O s):C.env.locals < s.heap.objs.size:=by obtain ⟨_,n,_⟩:=S.loc; exact n.lt
theorem St.bsize (S:St C σ O s):C.base.heap.objs.size≤s.heap.objs.size:=Nat.le_of_lt (Nat.lt_of_le_of_lt C.above S.ltL)
theorem St.ext (S:St C σ O s) (x:Eff [] s s'):St C σ O s' where
 top:=B.stable _ _ S.top λ a o _ e=>x.keep a o (by simp) e
 names:=S.names
 loc:=by
  obtain ⟨m,n,h⟩:=S.loc
  refine ⟨m,n.keeps λ a o e=>x.keep a o (by simp) e,λ y d hy=>?_⟩
  refine E12 (h y d hy) λ v a b=>?_
  exact ⟨v,a,b.tk x.tk⟩
 objs:=λ p hp=>ShAt.keep (λ o e=>x.keep _ o (by simp) e) x.tk (S.objs p hp)
 ond:=S.ond
 ol:=S.ol
 own:=S.own
 eff:=S.eff.trans (x.mono λ _ h=>by cases h)
theorem St.new (S:St C σ O s) (x:Eff [] s s') {a:Addr} {sh:Sh} (ha:s.heap.objs.size≤a) (h:ShAt B s'.heap a sh):St C σ ((a,sh)::O) s':=by
 have S':=S.ext x
 refine ⟨S'.top,S'.names,S'.loc,λ p hp=>?_,?_,λ p hp=>?_,λ p hp=>?_,S'.eff⟩
 ·rcases List.mem_cons.mp hp with rfl | hp
  ·exact h
  ·exact S'.objs p hp
 ·rw [List.map_cons,List.nodup_cons]
  refine ⟨λ hm=>?_,S.ond⟩
  refine E12 (List.mem_map.mp hm) λ q hq e=>?_
  have:=ShAt.lt (S.objs q hq)
  rw [e] at this
  exact Nat.lt_irrefl _ (Nat.lt_of_lt_of_le this ha)
 ·rcases List.mem_cons.mp hp with rfl | hp
  ·exact Nat.ne_of_gt (Nat.lt_of_lt_of_le S.ltL ha)
  ·exact S.ol p hp
 ·rcases List.mem_cons.mp hp with rfl | hp
  ·exact .inl (Nat.le_trans (Nat.le_of_lt (Nat.lt_of_le_of_lt C.above S.ltL)) ha)
  ·exact S.own p hp
theorem St.sub (S:St C σ O s) (h:∀ p∈O',p∈O) (n:(O'.map (·.1)).Nodup):St C σ O' s:=
 ⟨S.top,S.names,S.loc,λ p hp=>S.objs p (h p hp),n,λ p hp=>S.ol p (h p hp),λ p hp=>S.own p (h p hp),S.eff⟩
inductive OPut:Led→Addr→Sh→Led→Prop
 | z {a:Addr} {sh sh':Sh} {O:Led}:OPut ((a,sh)::O) a sh' ((a,sh')::O)
 | u {p:Addr × Sh} {a:Addr} {sh':Sh} {O O':Led} (h:OPut O a sh' O'):OPut (p::O) a sh' (p::O')
theorem OPut.fst {a:Addr} {sh:Sh} {O O':Led} (h:OPut O a sh O'):O'.map (·.1)=O.map (·.1):=by
 induction h with
 | z=>rfl
 | u _ ih=>rw [List.map_cons,List.map_cons,ih]
theorem OPut.at {a:Addr} {sh:Sh} {O O':Led} (h:OPut O a sh O'):∃ sh',(a,sh')∈O:=by
 induction h with
 | z=>exact ⟨_,List.mem_cons_self⟩
 | u _ ih=>refine E11 ih λ x hx=>?_; try clear ih; exact ⟨x,List.mem_cons_of_mem _ hx⟩
theorem Zat {α β : Type} {p : α × β} {l:List (α × β)} (h:p∈l):p.1∈l.map (·.1):=List.mem_map_of_mem (f:=(·.1)) h
theorem OPut.mem {a:Addr} {sh:Sh} {O O':Led} (h:OPut O a sh O'):(O.map (·.1)).Nodup→∀ p∈O',(p=(a,sh))∨(p∈O∧p.1 ≠ a):=by
 induction h with
 | z=>
  intro n p hp
  rcases List.mem_cons.mp hp with rfl | hq
  ·exact .inl rfl
  ·refine .inr ⟨List.mem_cons_of_mem _ hq,λ e=>?_⟩
   have:=Zat hq
   rw [e] at this
   exact (List.nodup_cons.mp n).1 this
 | @u q a sh O O' h ih=>
  intro n p hp
  rcases List.mem_cons.mp hp with rfl | hp
  ·refine .inr ⟨List.mem_cons_self,λ e=>(List.nodup_cons.mp n).1 ?_⟩
   obtain ⟨sh',hm⟩:=h.at
   have:=Zat hm
   show p.1∈_
   rw [e]; exact this
  ·rcases ih (List.nodup_cons.mp n).2 p hp with e | ⟨e,ne⟩
   ·exact .inl e
   ·exact .inr ⟨List.mem_cons_of_mem _ e,ne⟩
theorem Eff.after {W:List Addr} {b s s':Shared} {a:Addr} (x:Eff W b s) (y:Eff [a] s s') (h:b.heap.objs.size≤a∨a∈W):Eff W b s':=by
 refine ⟨λ p o n e=>y.keep p o (λ q=>?_) (x.keep p o n e),x.tk.trans y.tk,y.os.trans x.os,x.gens.trans y.gens⟩
 obtain rfl:p=a:=List.mem_singleton.mp q
 rcases h with h | h
 ·exact Nat.lt_irrefl _ (Nat.lt_of_lt_of_le (Heap.lt_size e) h)
 ·exact n h
theorem St.put (S:St C σ O s) {a:Addr} {sh:Sh} (h:OPut O a sh O') (x:Eff [a] s s') (hat:ShAt B s'.heap a sh):St C σ O' s':=by
 obtain ⟨sh₀,h₀⟩:=h.at
 refine ⟨B.stable _ _ S.top λ b o hb e=>x.keep b o (λ q=>?_) e,S.names,?_,λ p hp=>?_,by rw [h.fst]; exact S.ond,λ p hp=>?_,λ p hp=>?_,S.eff.after x (S.own _ h₀)⟩
 ·have:=S.low h₀
  rw [List.mem_singleton.mp q] at hb
  exact this hb
 ·obtain ⟨m,n,h⟩:=S.loc
  refine E32 n λ o es ep e r=>?_
  try clear n
  refine ⟨m,⟨o,es,ep,x.keep _ o (λ q=>S.ol _ h₀ (List.mem_singleton.mp q).symm) e,r⟩,λ y d hy=>?_⟩
  refine E12 (h y d hy) λ v a b=>?_
  exact ⟨v,a,b.tk x.tk⟩
 ·rcases h.mem S.ond p hp with rfl | ⟨hp,ne⟩
  ·exact hat
  ·exact ShAt.keep (λ o e=>x.keep _ o (by simpa using ne) e) x.tk (S.objs p hp)
 ·rcases h.mem S.ond p hp with rfl | ⟨hp,ne⟩
  ·exact S.ol (a,sh₀) h₀
  ·exact S.ol p hp
 ·rcases h.mem S.ond p hp with rfl | ⟨hp,ne⟩
  ·exact S.own (a,sh₀) h₀
  ·exact S.own p hp
inductive LPut:Loc→Str→D→Loc→Prop
 | z {x:Str} {o:Option D} {d:D} {σ : Loc}:LPut ((x,o) :: σ) x d ((x,some d) :: σ)
 | u {p:Str × Option D} {x:Str} {d:D} {σ σ':Loc} (h:LPut σ x d σ'):LPut (p :: σ) x d (p :: σ')
theorem LPut.fst {x:Str} {d:D} {σ σ':Loc} (h:LPut σ x d σ') : σ'.map (·.1) = σ.map (·.1):=by
 induction h with
 | z=>rfl
 | u _ ih=>rw [List.map_cons,List.map_cons,ih]
theorem LPut.at {x:Str} {d:D} {σ σ':Loc} (h:LPut σ x d σ'):x ∈ σ.map (·.1):=by
 induction h with
 | z=>exact List.mem_cons_self
 | u _ ih=>exact List.mem_cons_of_mem _ ih
theorem LPut.mem {x:Str} {d:D} {σ σ':Loc} (h:LPut σ x d σ'):(σ.map (·.1)).Nodup→∀ p ∈ σ',(p=(x,some d))∨(p ∈ σ ∧ p.1 ≠ x):=by
 induction h with
 | z=>
  intro n p hp
  rcases List.mem_cons.mp hp with rfl | hq
  ·exact .inl rfl
  ·refine .inr ⟨List.mem_cons_of_mem _ hq,λ e=>?_⟩
   have:=Zat hq
   rw [e] at this
   exact (List.nodup_cons.mp n).1 this
 | @u q x d σ σ' h ih=>
  intro n p hp
  rcases List.mem_cons.mp hp with rfl | hp
  ·refine .inr ⟨List.mem_cons_self,λ e=>(List.nodup_cons.mp n).1 ?_⟩
   subst e
   exact h.at
  ·rcases ih (List.nodup_cons.mp n).2 p hp with e | ⟨e,ne⟩
   ·exact .inl e
   ·exact .inr ⟨List.mem_cons_of_mem _ e,ne⟩
theorem St.loc_of (S:St C σ O s) {x:Str} (h:x ∈ σ.map (·.1)):C.env.kindOf x=some .local:=C.loc x (S.names ▸ h)
theorem St.setL (S:St C σ O s) {x:Str} {d:D} {v:Value} (h:LPut σ x d σ') {h':Heap} {t:Nat} (hv:Val s.heap v d)
  (hn:∀ m,s.heap.Ns C.env.locals m→h'.Ns C.env.locals (λ y=>if y=x then some v else m y)) (hs:Heap.SameBut C.env.locals s.heap h') :
  St C σ' O { s with heap:=h',toks:=t }:=by
 obtain ⟨m,n,hm⟩:=S.loc
 have e:Eff [C.env.locals] s { s with heap:=h',toks:=t }:=.but hs (Ns.noTup n)
 refine ⟨B.stable _ _ S.top λ b o hb q=>e.keep b o (λ q=>?_) q,h.fst.trans S.names,⟨_,hn m n,λ y d' hy=>?_⟩,λ p hp=>?_,S.ond,S.ol,S.own,S.eff.after e (.inl C.above)⟩
 ·rw [List.mem_singleton.mp q] at hb
  exact C.lowL hb
 ·rcases h.mem (S.names ▸ C.nd) _ hy with q | ⟨hy,ne⟩
  ·cases q
   exact ⟨v,if_pos rfl,hv.tk e.tk⟩
  ·refine E12 (hm y d' hy) λ u a b=>?_
   exact ⟨u,by rw [if_neg ne]; exact a,b.tk e.tk⟩
 ·exact ShAt.keep (λ o q=>e.keep _ o (by simpa using S.ol p hp) q) e.tk (S.objs p hp)
theorem St.get (S:St C σ O s) {x:Str} {d:D} (h:(x,some d) ∈ σ):∃ m v,s.heap.Ns C.env.locals m∧m x=some v∧Val s.heap v d:=
 by obtain ⟨m,n,hm⟩:=S.loc; exact by refine E12 (hm x d h) λ v a b=>?_; exact ⟨m,v,n,a,b⟩
end
theorem ex0 {d₀:D} {O₀:Led} {R:D→Led→Prop} (h:R d₀ O₀):∀ d O',(d=d₀∧O'=O₀)→R d O':=by
 intro d O' hq0
 refine E02 hq0 λ Y1 Y2=>?_
 try clear hq0
 subst Y1
 subst Y2; exact h
theorem ex1 {α : Type} {f : α→D} {g : α→Led} {R:D→Led→Prop} (h:∀ a,R (f a) (g a)):∀ d O',(∃ a,d=f a∧O'=g a)→R d O':=by
 intro d O' hq0
 refine E12 hq0 λ a Y1 Y2=>?_
 try clear hq0
 subst Y1
 subst Y2; exact h a
theorem exC0 {d₀:D} {U R₀:Led} {R:D→Led→Prop} (h:R d₀ (U++R₀)):∀ d O',(∃ U',(d=d₀∧U'=U)∧O'=U'++R₀)→R d O':=by
 intro d O' hq0
 refine E12 hq0 λ U' Y1 Y2=>?_
 try clear hq0
 subst Y2
 refine E02 Y1 λ Y3 Y4=>?_
 clear Y1
 subst Y3
 subst Y4; exact h
theorem exC1 {α : Type} {f : α→D} {g : α→Led} {R₀:Led} {R:D→Led→Prop} (h:∀ a,R (f a) (g a++R₀)):∀ d O',(∃ U',(∃ a,d=f a∧U'=g a)∧O'=U'++R₀)→R d O':=by
 intro d O' hq0
 refine E12 hq0 λ U' Y1 Y2=>?_
 try clear hq0
 subst Y2
 refine E12 Y1 λ a Y3 Y4=>?_
 clear Y1
 subst Y3
 subst Y4; exact h a
theorem exN {O₀:Led} {N₀:Led→Prop} {ds₀:List D} {R:Led→(Led→Prop)→List D→Prop} (h:R O₀ N₀ ds₀):∀ O₁ N ds,(O₁=O₀∧N=N₀∧ds=ds₀)→R O₁ N ds:=by
 intro O₁ N ds hq0
 refine E03 hq0 λ Y1 Y2 Y3=>?_
 try clear hq0
 subst Y1
 subst Y2
 subst Y3; exact h
noncomputable abbrev F0:Value→Shared→Prop:=λ _ _=>False
variable {B:Bs} {C:Cx B} {σ σ':Loc} {O O':Led}
theorem F0.to {α : Type} {M:Model} {A:Around} {t:Sem α} {Q : α→Shared→Prop} {E:Value→Shared→Prop} {s:Shared} (h:wpAny M A t Q F0 s):wpAny M A t Q E s:=
 wpAny_mono h (λ _ _ q=>q) λ _ _ q=>q.elim
noncomputable abbrev Cx.wp (C:Cx B) {α : Type} (t:Sem α) (Q : α→Shared→Prop) (s:Shared):Prop:=wpAny (model B.prog B.w) C.A t Q F0 s
def Res (C:Cx B) (σ : Loc) (O:Led) (d:D) (s:Shared) (Q:Value→Shared→Prop):Prop:=
 ∀ v s',Tk s.heap s'.heap→St C σ O s'→Val s'.heap v d→Q v s'
def Ev (C:Cx B) (σ : Loc) (O:Led) (e:Expr) (d:D):Prop:=∀ s,St C σ O s→∀ Q,Res C σ O d s Q→C.wp (eval e C.env) Q s
def EvX (C:Cx B) (σ : Loc) (O:Led) (e:Expr) (P:D→Led→Prop):Prop:=
 ∀ s,St C σ O s→∀ Q:Value→Shared→Prop,(∀ v s' d O',P d O'→Tk s.heap s'.heap→St C σ O' s'→Val s'.heap v d→Q v s')→C.wp (eval e C.env) Q s
def Tst (C:Cx B) (σ : Loc) (O:Led) (e:Expr) (b:Bool):Prop:=
 ∀ s,St C σ O s→∀ Q:Bool→Shared→Prop,(∀ s',Tk s.heap s'.heap→St C σ O s'→Q b s')→C.wp (isTrue e C.env (eval e C.env)) Q s
def Truth (C:Cx B) (σ : Loc) (O:Led) (d:D) (b:Bool):Prop:=
 ∀ s v,St C σ O s→Val s.heap v d→∀ Q:Bool→Shared→Prop,(∀ s',Tk s.heap s'.heap→St C σ O s'→Q b s')→C.wp (truthy v) Q s
theorem Ev.toX {e:Expr} {d:D} (h:Ev C σ O e d):EvX C σ O e λ d' O'=>d'=d∧O'=O:=λ s S Q hQ=>h s S Q λ v s' t S' x=>hQ v s' d O ⟨rfl,rfl⟩ t S' x
theorem Ev.cast {e:Expr} {d d':D} (h:Ev C σ O e d) (q:d=d'):Ev C σ O e d':=q ▸ h
theorem Tst.cast {e:Expr} {b b':Bool} (h:Tst C σ O e b) (q:b=b'):Tst C σ O e b':=q ▸ h
theorem EvX.mono {e:Expr} {P P':D→Led→Prop} (h:EvX C σ O e P) (q:∀ d O',P d O'→P' d O'):EvX C σ O e P':=
 λ s S Q hQ=>h s S Q λ v s' d O' p=>hQ v s' d O' (q d O' p)
theorem St.tok {s:Shared} (S:St C σ O s) {t:Nat}:St C σ O { s with toks:=t }:=S.ext .tok
theorem Ev.int {i:Int} {k:Nat} {pos:Pos}:Ev C σ O (.Constant (.int i) k pos) (.int i):=λ _ S _ hQ=>
 wpAny_Constant_int (hQ _ _ (.refl _) S.tok ⟨_,rfl⟩)
theorem Ev.str {x:Str} {k:Nat} {pos:Pos}:Ev C σ O (.Constant (.str x) k pos) (.str x):=λ _ S _ hQ=>
 Constant_str (hQ _ _ (.refl _) S.tok ⟨_,rfl⟩)
theorem Ev.none {k:Nat} {pos:Pos}:Ev C σ O (.Constant .none k pos) .none:=λ _ S _ hQ=>wpAny_Constant_none (hQ _ _ (.refl _) S rfl)
theorem Ev.bool {b:Bool} {k:Nat} {pos:Pos}:Ev C σ O (.Constant (.bool b) k pos) (.bool b):=λ _ S _ hQ=>wpAny_Constant_bool (hQ _ _ (.refl _) S rfl)
inductive LAt:Loc→Str→D→Prop
 | z {x:Str} {d:D} {σ : Loc}:LAt ((x,some d) :: σ) x d
 | u {p:Str × Option D} {x:Str} {d:D} {σ : Loc} (h:LAt σ x d):LAt (p :: σ) x d
theorem LAt.mem {x:Str} {d:D} (h:LAt σ x d):(x,some d) ∈ σ:=by
 induction h with
 | z=>exact List.mem_cons_self
 | u _ ih=>exact List.mem_cons_of_mem _ ih
inductive OAt:Led→Addr→Sh→Prop
 | z {a:Addr} {sh:Sh} {O:Led}:OAt ((a,sh)::O) a sh
 | u {p:Addr × Sh} {a:Addr} {sh:Sh} {O:Led} (h:OAt O a sh):OAt (p::O) a sh
theorem LAt.q1 {p0:Str × Option D} {x:Str} {d:D} {σ : Loc}:LAt (p0::(x,some d) :: σ) x d:=.u .z
theorem OAt.q1 {p0:Addr × Sh} {a:Addr} {sh:Sh} {O:Led}:OAt (p0::(a,sh)::O) a sh:=.u .z
theorem LPut.q1 {p0:Str × Option D} {x:Str} {o:Option D} {d:D} {σ : Loc}:LPut (p0::(x,o) :: σ) x d (p0::(x,some d) :: σ):=.u .z
theorem OPut.q1 {p0:Addr × Sh} {a:Addr} {sh sh':Sh} {O:Led}:OPut (p0::(a,sh)::O) a sh' (p0::(a,sh')::O):=.u .z
theorem LAt.q2 {p0 p1:Str × Option D} {x:Str} {d:D} {σ : Loc}:LAt (p0::p1::(x,some d) :: σ) x d:=.u .q1
theorem OAt.q2 {p0 p1:Addr × Sh} {a:Addr} {sh:Sh} {O:Led}:OAt (p0::p1::(a,sh)::O) a sh:=.u .q1
theorem LPut.q2 {p0 p1:Str × Option D} {x:Str} {o:Option D} {d:D} {σ : Loc}:LPut (p0::p1::(x,o) :: σ) x d (p0::p1::(x,some d) :: σ):=.u .q1
theorem OPut.q2 {p0 p1:Addr × Sh} {a:Addr} {sh sh':Sh} {O:Led}:OPut (p0::p1::(a,sh)::O) a sh' (p0::p1::(a,sh')::O):=.u .q1
theorem LAt.q3 {p0 p1 p2:Str × Option D} {x:Str} {d:D} {σ : Loc}:LAt (p0::p1::p2::(x,some d) :: σ) x d:=.u .q2
theorem OAt.q3 {p0 p1 p2:Addr × Sh} {a:Addr} {sh:Sh} {O:Led}:OAt (p0::p1::p2::(a,sh)::O) a sh:=.u .q2
theorem LPut.q3 {p0 p1 p2:Str × Option D} {x:Str} {o:Option D} {d:D} {σ : Loc}:LPut (p0::p1::p2::(x,o) :: σ) x d (p0::p1::p2::(x,some d) :: σ):=.u .q2
theorem OPut.q3 {p0 p1 p2:Addr × Sh} {a:Addr} {sh sh':Sh} {O:Led}:OPut (p0::p1::p2::(a,sh)::O) a sh' (p0::p1::p2::(a,sh')::O):=.u .q2
theorem LAt.q4 {p0 p1 p2 p3:Str × Option D} {x:Str} {d:D} {σ : Loc}:LAt (p0::p1::p2::p3::(x,some d) :: σ) x d:=.u .q3
theorem OAt.q4 {p0 p1 p2 p3:Addr × Sh} {a:Addr} {sh:Sh} {O:Led}:OAt (p0::p1::p2::p3::(a,sh)::O) a sh:=.u .q3
theorem LPut.q4 {p0 p1 p2 p3:Str × Option D} {x:Str} {o:Option D} {d:D} {σ : Loc}:LPut (p0::p1::p2::p3::(x,o) :: σ) x d (p0::p1::p2::p3::(x,some d) :: σ):=.u .q3
theorem OPut.q4 {p0 p1 p2 p3:Addr × Sh} {a:Addr} {sh sh':Sh} {O:Led}:OPut (p0::p1::p2::p3::(a,sh)::O) a sh' (p0::p1::p2::p3::(a,sh')::O):=.u .q3
theorem LAt.q5 {p0 p1 p2 p3 p4:Str × Option D} {x:Str} {d:D} {σ : Loc}:LAt (p0::p1::p2::p3::p4::(x,some d) :: σ) x d:=.u .q4
theorem OAt.q5 {p0 p1 p2 p3 p4:Addr × Sh} {a:Addr} {sh:Sh} {O:Led}:OAt (p0::p1::p2::p3::p4::(a,sh)::O) a sh:=.u .q4
theorem LPut.q5 {p0 p1 p2 p3 p4:Str × Option D} {x:Str} {o:Option D} {d:D} {σ : Loc}:LPut (p0::p1::p2::p3::p4::(x,o) :: σ) x d (p0::p1::p2::p3::p4::(x,some d) :: σ):=.u .q4
theorem OPut.q5 {p0 p1 p2 p3 p4:Addr × Sh} {a:Addr} {sh sh':Sh} {O:Led}:OPut (p0::p1::p2::p3::p4::(a,sh)::O) a sh' (p0::p1::p2::p3::p4::(a,sh')::O):=.u .q4
theorem LAt.q6 {p0 p1 p2 p3 p4 p5:Str × Option D} {x:Str} {d:D} {σ : Loc}:LAt (p0::p1::p2::p3::p4::p5::(x,some d) :: σ) x d:=.u .q5
theorem OAt.q6 {p0 p1 p2 p3 p4 p5:Addr × Sh} {a:Addr} {sh:Sh} {O:Led}:OAt (p0::p1::p2::p3::p4::p5::(a,sh)::O) a sh:=.u .q5
theorem LPut.q6 {p0 p1 p2 p3 p4 p5:Str × Option D} {x:Str} {o:Option D} {d:D} {σ : Loc}:LPut (p0::p1::p2::p3::p4::p5::(x,o) :: σ) x d (p0::p1::p2::p3::p4::p5::(x,some d) :: σ):=.u .q5
theorem OPut.q6 {p0 p1 p2 p3 p4 p5:Addr × Sh} {a:Addr} {sh sh':Sh} {O:Led}:OPut (p0::p1::p2::p3::p4::p5::(a,sh)::O) a sh' (p0::p1::p2::p3::p4::p5::(a,sh')::O):=.u .q5
theorem LAt.q7 {p0 p1 p2 p3 p4 p5 p6:Str × Option D} {x:Str} {d:D} {σ : Loc}:LAt (p0::p1::p2::p3::p4::p5::p6::(x,some d) :: σ) x d:=.u .q6
theorem OAt.q7 {p0 p1 p2 p3 p4 p5 p6:Addr × Sh} {a:Addr} {sh:Sh} {O:Led}:OAt (p0::p1::p2::p3::p4::p5::p6::(a,sh)::O) a sh:=.u .q6
theorem LPut.q7 {p0 p1 p2 p3 p4 p5 p6:Str × Option D} {x:Str} {o:Option D} {d:D} {σ : Loc}:LPut (p0::p1::p2::p3::p4::p5::p6::(x,o) :: σ) x d (p0::p1::p2::p3::p4::p5::p6::(x,some d) :: σ):=.u .q6
theorem OPut.q7 {p0 p1 p2 p3 p4 p5 p6:Addr × Sh} {a:Addr} {sh sh':Sh} {O:Led}:OPut (p0::p1::p2::p3::p4::p5::p6::(a,sh)::O) a sh' (p0::p1::p2::p3::p4::p5::p6::(a,sh')::O):=.u .q6
theorem LAt.q8 {p0 p1 p2 p3 p4 p5 p6 p7:Str × Option D} {x:Str} {d:D} {σ : Loc}:LAt (p0::p1::p2::p3::p4::p5::p6::p7::(x,some d) :: σ) x d:=.u .q7
theorem OAt.q8 {p0 p1 p2 p3 p4 p5 p6 p7:Addr × Sh} {a:Addr} {sh:Sh} {O:Led}:OAt (p0::p1::p2::p3::p4::p5::p6::p7::(a,sh)::O) a sh:=.u .q7
theorem LPut.q8 {p0 p1 p2 p3 p4 p5 p6 p7:Str × Option D} {x:Str} {o:Option D} {d:D} {σ : Loc}:LPut (p0::p1::p2::p3::p4::p5::p6::p7::(x,o) :: σ) x d (p0::p1::p2::p3::p4::p5::p6::p7::(x,some d) :: σ):=.u .q7
theorem OPut.q8 {p0 p1 p2 p3 p4 p5 p6 p7:Addr × Sh} {a:Addr} {sh sh':Sh} {O:Led}:OPut (p0::p1::p2::p3::p4::p5::p6::p7::(a,sh)::O) a sh' (p0::p1::p2::p3::p4::p5::p6::p7::(a,sh')::O):=.u .q7
theorem LAt.q9 {p0 p1 p2 p3 p4 p5 p6 p7 p8:Str × Option D} {x:Str} {d:D} {σ : Loc}:LAt (p0::p1::p2::p3::p4::p5::p6::p7::p8::(x,some d) :: σ) x d:=.u .q8
theorem OAt.q9 {p0 p1 p2 p3 p4 p5 p6 p7 p8:Addr × Sh} {a:Addr} {sh:Sh} {O:Led}:OAt (p0::p1::p2::p3::p4::p5::p6::p7::p8::(a,sh)::O) a sh:=.u .q8
theorem LPut.q9 {p0 p1 p2 p3 p4 p5 p6 p7 p8:Str × Option D} {x:Str} {o:Option D} {d:D} {σ : Loc}:LPut (p0::p1::p2::p3::p4::p5::p6::p7::p8::(x,o) :: σ) x d (p0::p1::p2::p3::p4::p5::p6::p7::p8::(x,some d) :: σ):=.u .q8
theorem OPut.q9 {p0 p1 p2 p3 p4 p5 p6 p7 p8:Addr × Sh} {a:Addr} {sh sh':Sh} {O:Led}:OPut (p0::p1::p2::p3::p4::p5::p6::p7::p8::(a,sh)::O) a sh' (p0::p1::p2::p3::p4::p5::p6::p7::p8::(a,sh')::O):=.u .q8
theorem LAt.q10 {p0 p1 p2 p3 p4 p5 p6 p7 p8 p9:Str × Option D} {x:Str} {d:D} {σ : Loc}:LAt (p0::p1::p2::p3::p4::p5::p6::p7::p8::p9::(x,some d) :: σ) x d:=.u .q9
theorem OAt.q10 {p0 p1 p2 p3 p4 p5 p6 p7 p8 p9:Addr × Sh} {a:Addr} {sh:Sh} {O:Led}:OAt (p0::p1::p2::p3::p4::p5::p6::p7::p8::p9::(a,sh)::O) a sh:=.u .q9
theorem LPut.q10 {p0 p1 p2 p3 p4 p5 p6 p7 p8 p9:Str × Option D} {x:Str} {o:Option D} {d:D} {σ : Loc}:LPut (p0::p1::p2::p3::p4::p5::p6::p7::p8::p9::(x,o) :: σ) x d (p0::p1::p2::p3::p4::p5::p6::p7::p8::p9::(x,some d) :: σ):=.u .q9
theorem OPut.q10 {p0 p1 p2 p3 p4 p5 p6 p7 p8 p9:Addr × Sh} {a:Addr} {sh sh':Sh} {O:Led}:OPut (p0::p1::p2::p3::p4::p5::p6::p7::p8::p9::(a,sh)::O) a sh' (p0::p1::p2::p3::p4::p5::p6::p7::p8::p9::(a,sh')::O):=.u .q9
theorem LAt.q11 {p0 p1 p2 p3 p4 p5 p6 p7 p8 p9 p10:Str × Option D} {x:Str} {d:D} {σ : Loc}:LAt (p0::p1::p2::p3::p4::p5::p6::p7::p8::p9::p10::(x,some d) :: σ) x d:=.u .q10
theorem OAt.q11 {p0 p1 p2 p3 p4 p5 p6 p7 p8 p9 p10:Addr × Sh} {a:Addr} {sh:Sh} {O:Led}:OAt (p0::p1::p2::p3::p4::p5::p6::p7::p8::p9::p10::(a,sh)::O) a sh:=.u .q10
theorem LPut.q11 {p0 p1 p2 p3 p4 p5 p6 p7 p8 p9 p10:Str × Option D} {x:Str} {o:Option D} {d:D} {σ : Loc}:LPut (p0::p1::p2::p3::p4::p5::p6::p7::p8::p9::p10::(x,o) :: σ) x d (p0::p1::p2::p3::p4::p5::p6::p7::p8::p9::p10::(x,some d) :: σ):=.u .q10
theorem OPut.q11 {p0 p1 p2 p3 p4 p5 p6 p7 p8 p9 p10:Addr × Sh} {a:Addr} {sh sh':Sh} {O:Led}:OPut (p0::p1::p2::p3::p4::p5::p6::p7::p8::p9::p10::(a,sh)::O) a sh' (p0::p1::p2::p3::p4::p5::p6::p7::p8::p9::p10::(a,sh')::O):=.u .q10
theorem LAt.q12 {p0 p1 p2 p3 p4 p5 p6 p7 p8 p9 p10 p11:Str × Option D} {x:Str} {d:D} {σ : Loc}:LAt (p0::p1::p2::p3::p4::p5::p6::p7::p8::p9::p10::p11::(x,some d) :: σ) x d:=.u .q11
theorem OAt.q12 {p0 p1 p2 p3 p4 p5 p6 p7 p8 p9 p10 p11:Addr × Sh} {a:Addr} {sh:Sh} {O:Led}:OAt (p0::p1::p2::p3::p4::p5::p6::p7::p8::p9::p10::p11::(a,sh)::O) a sh:=.u .q11
theorem LPut.q12 {p0 p1 p2 p3 p4 p5 p6 p7 p8 p9 p10 p11:Str × Option D} {x:Str} {o:Option D} {d:D} {σ : Loc}:LPut (p0::p1::p2::p3::p4::p5::p6::p7::p8::p9::p10::p11::(x,o) :: σ) x d (p0::p1::p2::p3::p4::p5::p6::p7::p8::p9::p10::p11::(x,some d) :: σ):=.u .q11
theorem OPut.q12 {p0 p1 p2 p3 p4 p5 p6 p7 p8 p9 p10 p11:Addr × Sh} {a:Addr} {sh sh':Sh} {O:Led}:OPut (p0::p1::p2::p3::p4::p5::p6::p7::p8::p9::p10::p11::(a,sh)::O) a sh' (p0::p1::p2::p3::p4::p5::p6::p7::p8::p9::p10::p11::(a,sh')::O):=.u .q11
theorem LAt.q13 {p0 p1 p2 p3 p4 p5 p6 p7 p8 p9 p10 p11 p12:Str × Option D} {x:Str} {d:D} {σ : Loc}:LAt (p0::p1::p2::p3::p4::p5::p6::p7::p8::p9::p10::p11::p12::(x,some d) :: σ) x d:=.u .q12
theorem OAt.q13 {p0 p1 p2 p3 p4 p5 p6 p7 p8 p9 p10 p11 p12:Addr × Sh} {a:Addr} {sh:Sh} {O:Led}:OAt (p0::p1::p2::p3::p4::p5::p6::p7::p8::p9::p10::p11::p12::(a,sh)::O) a sh:=.u .q12
theorem LPut.q13 {p0 p1 p2 p3 p4 p5 p6 p7 p8 p9 p10 p11 p12:Str × Option D} {x:Str} {o:Option D} {d:D} {σ : Loc}:LPut (p0::p1::p2::p3::p4::p5::p6::p7::p8::p9::p10::p11::p12::(x,o) :: σ) x d (p0::p1::p2::p3::p4::p5::p6::p7::p8::p9::p10::p11::p12::(x,some d) :: σ):=.u .q12
theorem OPut.q13 {p0 p1 p2 p3 p4 p5 p6 p7 p8 p9 p10 p11 p12:Addr × Sh} {a:Addr} {sh sh':Sh} {O:Led}:OPut (p0::p1::p2::p3::p4::p5::p6::p7::p8::p9::p10::p11::p12::(a,sh)::O) a sh' (p0::p1::p2::p3::p4::p5::p6::p7::p8::p9::p10::p11::p12::(a,sh')::O):=.u .q12
theorem LAt.q14 {p0 p1 p2 p3 p4 p5 p6 p7 p8 p9 p10 p11 p12 p13:Str × Option D} {x:Str} {d:D} {σ : Loc}:LAt (p0::p1::p2::p3::p4::p5::p6::p7::p8::p9::p10::p11::p12::p13::(x,some d) :: σ) x d:=.u .q13
theorem OAt.q14 {p0 p1 p2 p3 p4 p5 p6 p7 p8 p9 p10 p11 p12 p13:Addr × Sh} {a:Addr} {sh:Sh} {O:Led}:OAt (p0::p1::p2::p3::p4::p5::p6::p7::p8::p9::p10::p11::p12::p13::(a,sh)::O) a sh:=.u .q13
theorem LPut.q14 {p0 p1 p2 p3 p4 p5 p6 p7 p8 p9 p10 p11 p12 p13:Str × Option D} {x:Str} {o:Option D} {d:D} {σ : Loc}:LPut (p0::p1::p2::p3::p4::p5::p6::p7::p8::p9::p10::p11::p12::p13::(x,o) :: σ) x d (p0::p1::p2::p3::p4::p5::p6::p7::p8::p9::p10::p11::p12::p13::(x,some d) :: σ):=.u .q13
theorem OPut.q14 {p0 p1 p2 p3 p4 p5 p6 p7 p8 p9 p10 p11 p12 p13:Addr × Sh} {a:Addr} {sh sh':Sh} {O:Led}:OPut (p0::p1::p2::p3::p4::p5::p6::p7::p8::p9::p10::p11::p12::p13::(a,sh)::O) a sh' (p0::p1::p2::p3::p4::p5::p6::p7::p8::p9::p10::p11::p12::p13::(a,sh')::O):=.u .q13
theorem LAt.q15 {p0 p1 p2 p3 p4 p5 p6 p7 p8 p9 p10 p11 p12 p13 p14:Str × Option D} {x:Str} {d:D} {σ : Loc}:LAt (p0::p1::p2::p3::p4::p5::p6::p7::p8::p9::p10::p11::p12::p13::p14::(x,some d) :: σ) x d:=.u .q14
theorem OAt.q15 {p0 p1 p2 p3 p4 p5 p6 p7 p8 p9 p10 p11 p12 p13 p14:Addr × Sh} {a:Addr} {sh:Sh} {O:Led}:OAt (p0::p1::p2::p3::p4::p5::p6::p7::p8::p9::p10::p11::p12::p13::p14::(a,sh)::O) a sh:=.u .q14
theorem LPut.q15 {p0 p1 p2 p3 p4 p5 p6 p7 p8 p9 p10 p11 p12 p13 p14:Str × Option D} {x:Str} {o:Option D} {d:D} {σ : Loc}:LPut (p0::p1::p2::p3::p4::p5::p6::p7::p8::p9::p10::p11::p12::p13::p14::(x,o) :: σ) x d (p0::p1::p2::p3::p4::p5::p6::p7::p8::p9::p10::p11::p12::p13::p14::(x,some d) :: σ):=.u .q14
theorem OPut.q15 {p0 p1 p2 p3 p4 p5 p6 p7 p8 p9 p10 p11 p12 p13 p14:Addr × Sh} {a:Addr} {sh sh':Sh} {O:Led}:OPut (p0::p1::p2::p3::p4::p5::p6::p7::p8::p9::p10::p11::p12::p13::p14::(a,sh)::O) a sh' (p0::p1::p2::p3::p4::p5::p6::p7::p8::p9::p10::p11::p12::p13::p14::(a,sh')::O):=.u .q14
theorem OAt.mem {a:Addr} {sh:Sh} (h:OAt O a sh):(a,sh)∈O:=by
 induction h with
 | z=>exact List.mem_cons_self
 | u _ ih=>exact List.mem_cons_of_mem _ ih
theorem Ev.name {x:Str} {pos:Pos} {d:D} (h:LAt σ x d) (hd:autoParam ((x==("__debug__" : Str))=false) tE):Ev C σ O (.Name x pos) d:=λ s S Q hQ=>by
 refine E23 (S.get h.mem) λ m v n e hv=>?_
 exact wpAny_Name (wpAny_loadName_local C.kind (S.loc_of (Zat h.mem)) n e (hQ _ _ (.refl _) S hv)) hd
theorem Ev.cell {x:Str} {pos:Pos} {d:D} {c:Addr} (hc:C.env.cells.lookup x=some c) (hk:C.env.kindOf x=some .cell∨C.env.kindOf x=some .free) (h:OAt O c (.cell (some d)))
  (hd:autoParam ((x==("__debug__" : Str))=false) tE) (hn:autoParam ((x==("__classdict__" : Str))=false) tE):Ev C σ O (.Name x pos) d:=λ s S Q hQ=>by
 refine E12 (S.objs _ h.mem) λ v ic hv=>?_
 rcases hk with hk | hk
 ·exact wpAny_Name (wpAny_loadName_cell C.kind hk hc ic (hQ _ _ (.refl _) S hv)) hd
 ·exact wpAny_Name (wpAny_loadName_free C.kind hk hc ic (hQ _ _ (.refl _) S hv) hn) hd
theorem Ev.binInt {l r:Expr} {o:Operator} {pos:Pos} {a b c:Int} (hl:Ev C σ O l (.int a)) (hr:Ev C σ O r (.int b))
  (op:∀ (s:Shared) (t u:Tok) (Q:Value→Shared→Prop),B.G s.heap→Q (.int c s.toks) { s with toks:=s.toks+1 }→C.wp (binaryOp o (.int a t) (.int b u)) Q s):Ev C σ O (.BinOp l o r pos) (.int c):=λ s S Q hQ=>by
 refine wpAny_BinOp (hl s S _ λ v s₁ t₁ S₁ hv=>hr s₁ S₁ _ λ u s₂ t₂ S₂ hu=>?_)
 refine E11 hv λ t Y1=>?_
 try clear hv
 subst Y1
 refine E11 hu λ t' Y1=>?_
 try clear hu
 subst Y1
 exact op s₂ t t' Q S₂.top (hQ _ _ (t₁.trans t₂) S₂.tok ⟨_,rfl⟩)
theorem Ev.add {l r:Expr} {pos:Pos} {a b:Int} (hl:Ev C σ O l (.int a)) (hr:Ev C σ O r (.int b)):Ev C σ O (.BinOp l .Add r pos) (.int (a+b)):=
 .binInt hl hr λ _ _ _ _ _ h=>add_int h
theorem Ev.sub {l r:Expr} {pos:Pos} {a b:Int} (hl:Ev C σ O l (.int a)) (hr:Ev C σ O r (.int b)):Ev C σ O (.BinOp l .Sub r pos) (.int (a - b)):=
 .binInt hl hr λ _ _ _ _ _ h=>sub_int h
theorem Ev.mul {l r:Expr} {pos:Pos} {a b:Int} (hl:Ev C σ O l (.int a)) (hr:Ev C σ O r (.int b)) (hm:Builtin.Int.intBits b≤64):Ev C σ O (.BinOp l .Mult r pos) (.int (a * b)):=
 .binInt hl hr λ _ _ _ _ _ h=>mul_int h (IntMulOk.of_right hm)
theorem Ev.mod {l r:Expr} {pos:Pos} {a b:Int} (hl:Ev C σ O l (.int a)) (hr:Ev C σ O r (.int b)) (hb:b ≠ 0):Ev C σ O (.BinOp l .Mod r pos) (.int (a.fmod b)):=
 .binInt hl hr λ _ _ _ _ _ h=>mod_int hb h
theorem Ev.and {l r:Expr} {pos:Pos} {a b:Int} (hl:Ev C σ O l (.int a)) (hr:Ev C σ O r (.int b)):Ev C σ O (.BinOp l .BitAnd r pos) (.int (Builtin.bitAnd a b)):=
 .binInt hl hr λ _ _ _ _ _ h=>and_int h
theorem Ev.or {l r:Expr} {pos:Pos} {a b:Int} (hl:Ev C σ O l (.int a)) (hr:Ev C σ O r (.int b)):Ev C σ O (.BinOp l .BitOr r pos) (.int (Builtin.bitOr a b)):=
 .binInt hl hr λ _ _ _ _ _ h=>or_int h
theorem Ev.shr {l r:Expr} {pos:Pos} {a b:Int} (hl:Ev C σ O l (.int a)) (hr:Ev C σ O r (.int b)) (hb:0≤b):Ev C σ O (.BinOp l .RShift r pos) (.int (a.fdiv (2 ^ b.toNat))):=
 .binInt hl hr λ _ _ _ _ _ h=>rshift_int hb h
theorem Ev.shl {l r:Expr} {pos:Pos} {a b:Int} (hl:Ev C σ O l (.int a)) (hr:Ev C σ O r (.int b)) (hb:0≤b) (hb':b≤1000000) (ha:a.natAbs < 2 ^ 64):Ev C σ O (.BinOp l .LShift r pos) (.int (a * 2 ^ b.toNat)):=
 .binInt hl hr λ _ _ _ _ _ h=>lshift_int_small hb hb' ha h
theorem Ev.fdiv {l r:Expr} {pos:Pos} {a b:Int} (hl:Ev C σ O l (.int a)) (hr:Ev C σ O r (.int b)) (hb:b ≠ 0) (hp:Builtin.divisionGoesByPylong a b=false):Ev C σ O (.BinOp l .FloorDiv r pos) (.int (a.fdiv b)):=
 .binInt hl hr λ _ _ _ _ _ h=>floordiv_int_or C.room.handled (λ e=>absurd e hb) (λ _=>h) λ _=>.inl hp
def Cmp (C:Cx B) (σ : Loc) (O:Led) (o:CmpOp) (d e:D) (b:Bool):Prop:=
 ∀ s v u,St C σ O s→Val s.heap v d→Val s.heap u e→∀ Q:Value→Shared→Prop,(∀ s',Tk s.heap s'.heap→St C σ O s'→Q (.bool b) s')→C.wp (compareOp o v u) Q s
theorem Ev.cmp {l r:Expr} {o:CmpOp} {pos:Pos} {d e:D} {b:Bool} (hl:Ev C σ O l d) (hr:Ev C σ O r e) (h:Cmp C σ O o d e b) (hm:autoParam (behindInMarks o r=false) tR) :
  Ev C σ O (.Compare l [o] [r] pos) (.bool b):=λ s S Q hQ=>by
 refine wpAny_Compare1 (hl s S _ λ v s₁ t₁ S₁ hv=>hr s₁ S₁ _ λ u s₂ t₂ S₂ hu=>h s₂ v u S₂ (hv.tk t₂) hu Q λ s₃ t₃ S₃=>?_) hm
 exact hQ _ _ ((t₁.trans t₂).trans t₃) S₃ rfl
theorem Tst.cmp {l r:Expr} {o:CmpOp} {pos:Pos} {d e:D} {b:Bool} (hl:Ev C σ O l d) (hr:Ev C σ O r e) (h:Cmp C σ O o d e b) (hm:autoParam (behindInMarks o r=false) tR) :
  Tst C σ O (.Compare l [o] [r] pos) b:=λ s S Q hQ=>by
 refine wpAny_isTrue_Compare1 (hl s S _ λ v s₁ t₁ S₁ hv=>hr s₁ S₁ _ λ u s₂ t₂ S₂ hu=>h s₂ v u S₂ (hv.tk t₂) hu _ λ s₃ t₃ S₃=>?_) hm
 exact wpAny_truthy_bool (hQ _ ((t₁.trans t₂).trans t₃) S₃)
theorem Cmp.int {o:CmpOp} {a b:Int} {c:Bool} (op:∀ (s:Shared) (t u:Tok) (Q:Value→Shared→Prop),Q (.bool c) s→C.wp (compareOp o (.int a t) (.int b u)) Q s):Cmp C σ O o (.int a) (.int b) c:=
 by intro s v u S hq0 hq1 Q hQ; refine E11 hq0 λ t ev=>?_; try clear hq0; refine E11 hq1 λ t' eu=>?_; try clear hq1; subst ev eu; exact op s t t' Q (hQ s (.refl _) S)
theorem Cmp.lt {a b:Int}:Cmp C σ O .Lt (.int a) (.int b) (decide (a < b)):=.int λ _ _ _ _ h=>lt_int h
theorem Cmp.gt {a b:Int}:Cmp C σ O .Gt (.int a) (.int b) (decide (b < a)):=.int λ _ _ _ _ h=>gt_int h
theorem Cmp.ge {a b:Int}:Cmp C σ O .GtE (.int a) (.int b) (decide (b≤a)):=.int λ _ _ _ _ h=>ge_int h
theorem Cmp.eq {a b:Int}:Cmp C σ O .Eq (.int a) (.int b) (a==b):=.int λ _ _ _ _ h=>eq_int h
theorem Cmp.ne {a b:Int}:Cmp C σ O .NotEq (.int a) (.int b) (a != b):=.int λ _ _ _ _ h=>ne_int h
theorem Cmp.eqStr {a b:Str}:Cmp C σ O .Eq (.str a) (.str b) (a==b):=by intro s v u S hq0 hq1 Q hQ; refine E11 hq0 λ t ev=>?_; try clear hq0; refine E11 hq1 λ t' eu=>?_; try clear hq1; subst ev eu; exact eq_str (hQ s (.refl _) S)
theorem Cmp.neStr {a b:Str}:Cmp C σ O .NotEq (.str a) (.str b) (a != b):=by intro s v u S hq0 hq1 Q hQ; refine E11 hq0 λ t ev=>?_; try clear hq0; refine E11 hq1 λ t' eu=>?_; try clear hq1; subst ev eu; exact ne_str (hQ s (.refl _) S)
theorem Tst.not {e:Expr} {b:Bool} {pos:Pos} (h:Tst C σ O e b):Tst C σ O (.UnaryOp .Not e pos) (!b):=λ s S Q hQ=>wpAny_isTrue_Not (h s S _ hQ)
theorem Tst.and {x y:Expr} {b c:Bool} {pos:Pos} (h:Tst C σ O x b) (k:b=true→Tst C σ O y c):Tst C σ O (.BoolOp .And [x,y] pos) (b&&c):=λ s S Q hQ=>by
 refine wpAny_isTrue_BoolOp (wpAny_allTrue_And_cons (h s S _ λ s₁ t₁ S₁=>?_))
 cases b with
 | false=>exact hQ _ t₁ S₁
 | true=>
  refine wpAny_allTrue_And_cons (k rfl s₁ S₁ _ λ s₂ t₂ S₂=>?_)
  cases c with
  | false=>exact hQ _ (t₁.trans t₂) S₂
  | true=>exact wpAny_allTrue_And_nil (hQ _ (t₁.trans t₂) S₂)
theorem Tst.or {x y:Expr} {b c:Bool} {pos:Pos} (h:Tst C σ O x b) (k:b=false→Tst C σ O y c):Tst C σ O (.BoolOp .Or [x,y] pos) (b || c):=λ s S Q hQ=>by
 refine wpAny_isTrue_BoolOp (wpAny_allTrue_Or_cons (h s S _ λ s₁ t₁ S₁=>?_))
 cases b with
 | true=>exact hQ _ t₁ S₁
 | false=>
  refine wpAny_allTrue_Or_cons (k rfl s₁ S₁ _ λ s₂ t₂ S₂=>?_)
  cases c with
  | true=>exact hQ _ (t₁.trans t₂) S₂
  | false=>exact wpAny_allTrue_Or_nil (hQ _ (t₁.trans t₂) S₂)
theorem Tst.val {e:Expr} {d:D} {b:Bool} (h:Ev C σ O e d) (k:Truth C σ O d b)
  (he:autoParam (∀ whole,isTrue e C.env whole=(do let v ← whole; standAt e.pos; holding [v] (truthy v))) tI):Tst C σ O e b:=λ s S Q hQ=>
 wpAny_isTrue_value (h s S _ λ v s₁ t₁ S₁ hv=>k s₁ v S₁ hv Q λ s₂ t₂ S₂=>hQ _ (t₁.trans t₂) S₂) (he _)
theorem Truth.bool {b:Bool}:Truth C σ O (.bool b) b:=λ s v S hv Q hQ=>by have hh:v = .bool b:=hv; subst hh; exact wpAny_truthy_bool (hQ s (.refl _) S)
theorem Truth.none:Truth C σ O .none false:=λ s v S hv Q hQ=>by have hh:v = .none:=hv; subst hh; exact truthy_none (hQ s (.refl _) S)
theorem Ev.ifExp {t x y:Expr} {pos:Pos} {b:Bool} {d:D} (ht:Tst C σ O t b) (hx:b=true→Ev C σ O x d) (hy:b=false→Ev C σ O y d):Ev C σ O (.IfExp t x y pos) d:=λ s S Q hQ=>by
 refine wpAny_IfExp (ht s S _ λ s₁ t₁ S₁=>?_)
 cases b with
 | true=>exact hx rfl s₁ S₁ Q λ v s₂ t₂=>hQ v s₂ (t₁.trans t₂)
 | false=>exact hy rfl s₁ S₁ Q λ v s₂ t₂=>hQ v s₂ (t₁.trans t₂)
def Run (C:Cx B) (σ : Loc) (O:Led) (sts:List Stmt) (K:Flow→Shared→Prop):Prop:=∀ s,St C σ O s→C.wp (execs sts C.env) K s
theorem Run.nil {K:Flow→Shared→Prop} (h:∀ s,St C σ O s→K .next s):Run C σ O [] K:=λ s S=>wpAny_execs_nil (h s S)
theorem Run.mono {sts:List Stmt} {K K':Flow→Shared→Prop} (h:Run C σ O sts K) (q:∀ f s,K f s→K' f s):Run C σ O sts K':=λ s S=>wpAny_mono (h s S) q λ _ _ x=>x
theorem Run.cons {st:Stmt} {rest:List Stmt} {K:Flow→Shared→Prop}
  (h:∀ s,St C σ O s→C.wp (exec st C.env) (λ f s'=>match f with | .next=>C.wp (execs rest C.env) K s' | f=>K f s') s):Run C σ O (st::rest) K:=
 λ s S=>wpAny_execs_cons (h s S)
theorem St.store {s:Shared} (S:St C σ O s) {x:Str} {d:D} {v:Value} {Q:Unit→Shared→Prop} (hp:LPut σ x d σ') (hv:Val s.heap v d) (h:∀ s',Tk s.heap s'.heap→St C σ' O s'→Q () s') :
  C.wp (storeName C.env x v) Q s:=by
 obtain ⟨m,n,_⟩:=S.loc
 refine wpAny_storeName_local (S.loc_of hp.at) n (λ h' hn hs=>h _ ?_ (S.setL hp hv (λ m' n'=>?_) hs)) (by rw [C.kind]; rfl)
 ·exact (Eff.but (t:=0) hs (Ns.noTup n)).tk
 ·refine E34 n λ o es ep e d k q=>?_
  try clear n
  refine E34 n' λ o' es' ep' e' d' k' q'=>?_
  try clear n'
  rw [e] at e'; cases e'
  rw [d] at d'; cases d'
  have:m'=m:=funext λ y=>(q' y).symm.trans (q y)
  rw [this]; exact hn
inductive Then (C:Cx B) (σ : Loc) (O:Led) (x:Str) (d:D) (rest:List Stmt) (K:Flow→Shared→Prop):Prop
 | mk (σ':Loc) (hp:LPut σ x d σ') (h:Run C σ' O rest K)
theorem Run.assignX {x:Str} {xp pos:Pos} {e:Expr} {rest:List Stmt} {P:D→Led→Prop} {K:Flow→Shared→Prop} (he:EvX C σ O e P)
  (h:∀ d O',P d O'→Then C σ O' x d rest K) (hs:autoParam (swapsWith e (some (.Name x xp)) pos.line C.env=pure false) tR):Run C σ O (.Assign [.Name x xp] e pos::rest) K:=
 Run.cons λ s S=>wpAny_Assign_Name (he s S _ λ v s₁ d O' p t₁ S₁ hv=>by
  obtain ⟨σ',hp,hr⟩:=h d O' p
  exact S₁.store hp hv λ s₂ _ S₂=>hr s₂ S₂) hs
theorem Run.assignX0 {x:Str} {xp pos:Pos} {e:Expr} {rest:List Stmt} {K:Flow→Shared→Prop} {d₀:D} {O₀:Led} (he:EvX C σ O e λ d O'=>d=d₀∧O'=O₀)
  (h:Then C σ O₀ x d₀ rest K) (hs:autoParam (swapsWith e (some (.Name x xp)) pos.line C.env=pure false) tR):Run C σ O (.Assign [.Name x xp] e pos::rest) K:=.assignX he (ex0 h) hs
theorem Run.assignX1 {x:Str} {xp pos:Pos} {e:Expr} {rest:List Stmt} {K:Flow→Shared→Prop} {α : Type} {f : α→D} {g : α→Led} (he:EvX C σ O e λ d O'=>∃ a,d=f a∧O'=g a)
  (h:∀ a,Then C σ (g a) x (f a) rest K) (hs:autoParam (swapsWith e (some (.Name x xp)) pos.line C.env=pure false) tR):Run C σ O (.Assign [.Name x xp] e pos::rest) K:=.assignX he (ex1 h) hs
theorem Run.assignXC0 {x:Str} {xp pos:Pos} {e:Expr} {rest:List Stmt} {K:Flow→Shared→Prop} {d₀:D} {U R₀:Led} (he:EvX C σ O e λ d O'=>∃ U',(d=d₀∧U'=U)∧O'=U'++R₀)
  (h:Then C σ (U++R₀) x d₀ rest K) (hs:autoParam (swapsWith e (some (.Name x xp)) pos.line C.env=pure false) tR):Run C σ O (.Assign [.Name x xp] e pos::rest) K:=.assignX he (exC0 h) hs
theorem Run.assignXC1 {x:Str} {xp pos:Pos} {e:Expr} {rest:List Stmt} {K:Flow→Shared→Prop} {α : Type} {f : α→D} {g : α→Led} {R₀:Led} (he:EvX C σ O e λ d O'=>∃ U',(∃ a,d=f a∧U'=g a)∧O'=U'++R₀)
  (h:∀ a,Then C σ (g a++R₀) x (f a) rest K) (hs:autoParam (swapsWith e (some (.Name x xp)) pos.line C.env=pure false) tR):Run C σ O (.Assign [.Name x xp] e pos::rest) K:=.assignX he (exC1 h) hs
theorem Run.assign {x:Str} {xp pos:Pos} {e:Expr} {rest:List Stmt} {d:D} {K:Flow→Shared→Prop} (he:Ev C σ O e d) (hp:LPut σ x d σ') (h:Run C σ' O rest K)
  (hs:autoParam (swapsWith e (some (.Name x xp)) pos.line C.env=pure false) tR):Run C σ O (.Assign [.Name x xp] e pos::rest) K:=
 Run.assignX he.toX (by intro d' O' hq0; refine E02 hq0 λ e1 e2=>?_; try clear hq0; subst e1 e2; exact ⟨σ',hp,h⟩) hs
theorem Run.retX {e:Expr} {pos:Pos} {rest:List Stmt} {P:D→Led→Prop} {K:Flow→Shared→Prop} (he:EvX C σ O e P)
  (h:∀ v s d O',P d O'→St C σ O' s→Val s.heap v d→K (.ret v) s):Run C σ O (.Return (some e) pos::rest) K:=
 Run.cons λ s S=>wpAny_Return_some (he s S _ λ v s₁ d O' p _ S₁ hv=>h v s₁ d O' p S₁ hv)
theorem Run.ret {e:Expr} {pos:Pos} {rest:List Stmt} {d:D} {K:Flow→Shared→Prop} (he:Ev C σ O e d)
  (h:∀ v s,St C σ O s→Val s.heap v d→K (.ret v) s):Run C σ O (.Return (some e) pos::rest) K:=
 Run.retX he.toX <| by intro v s d' O' hq0 S x; refine E02 hq0 λ e1 e2=>?_; try clear hq0; subst e1 e2; exact h v s S x
theorem Run.ite {t:Expr} {x y rest:List Stmt} {pos:Pos} {b:Bool} {K:Flow→Shared→Prop} (ht:Tst C σ O t b)
  (hx:b=true→Run C σ O x (λ f s'=>match f with | .next=>C.wp (execs rest C.env) K s' | f=>K f s'))
  (hy:b=false→Run C σ O y (λ f s'=>match f with | .next=>C.wp (execs rest C.env) K s' | f=>K f s')):Run C σ O (.If t x y pos::rest) K:=
 Run.cons λ s S=>wpAny_If (ht s S _ λ s₁ _ S₁=>by
  cases b with
  | true=>exact hx rfl s₁ S₁
  | false=>exact hy rfl s₁ S₁)
theorem Run.next {rest:List Stmt} {K:Flow→Shared→Prop} (h:Run C σ O rest K):Run C σ O [] (λ f s'=>match f with | .next=>C.wp (execs rest C.env) K s' | f=>K f s'):=Run.nil λ s S=>h s S
theorem Run.brk {pos:Pos} {rest:List Stmt} {K:Flow→Shared→Prop} (h:∀ s,St C σ O s→K .brk s):Run C σ O (.Break pos::rest) K:=Run.cons λ s S=>wpAny_Break (h s S)
end
section
set_option maxRecDepth 10000
variable {B:Bs} {C:Cx B} {σ σ':Loc} {O O':Led}
theorem LstAt.upd {s:Shared} {a:Addr} {items:Array Value} {f:Array Value→Array Value} {t:Nat} {n:Nat}
  (e:s.heap.get? a=some { cls:=.type "list",dict:=none,data:=.seq items n,slots:=#[] }) :
  LstAt (s.heap.update a (Obj.mapSeq f)) a (f items)∧Eff [a] s { s with heap:=s.heap.update a (Obj.mapSeq f),toks:=t }:=by
 refine ⟨⟨if (f items).size==items.size then n else n+1,Heap.get?_update_self (Obj.mapSeq f) e rfl⟩,.but (Heap.SameBut.update ..) (NoTup.not e (.inl (by show (Value.type "list") ≠ _; decide)))⟩
inductive EvL (C:Cx B) (σ : Loc) (O:Led):List Expr→List D→Prop
 | nil:EvL C σ O [] []
 | cons {e:Expr} {d:D} {es:List Expr} {ds:List D} (h:Ev C σ O e d) (r:EvL C σ O es ds):EvL C σ O (e::es) (d::ds)
noncomputable def Zac:List Expr→Bool
 | []=>true
 | .Starred .. :: _=>false
 | _::r=>Zac r
theorem Zaa {e:Expr} {r:List Expr} {env:Env} (h:Zac (e::r)=true):starEach (e::r) env=(false,eval e env)::starEach r env∧Zac r=true:=by
 cases e <;> first | exact ⟨rfl,h⟩ | cases h
theorem EvL.args {es:List Expr} {ds:List D} (h:EvL C σ O es ds) (hs:Zac es=true) {pos:Pos}:∀ s,St C σ O s→∀ Q:List Value→Shared→Prop,
  (∀ vs s',Tk s.heap s'.heap→St C σ O s'→Vals s'.heap vs ds→Q vs s')→C.wp (spliced (backTo pos (starEach es C.env))) Q s:=by
 induction h with
 | nil=>intro s S Q hQ; exact spliced_nil (hQ [] s (.refl _) S .nil)
 | @cons e d es ds h r ih=>
  intro s S Q hQ
  refine E02 (Zaa (env:=C.env) hs) λ e1 e2=>?_
  rw [e1]
  refine spliced_cons (h s S _ λ v s₁ t₁ S₁ hv=>ih e2 s₁ S₁ _ λ vs s₂ t₂ S₂ hvs=>?_)
  exact hQ _ _ (t₁.trans t₂) S₂ (.cons (hv.tk t₂) hvs)
theorem EvX.list {es:List Expr} {ds:List D} {pos:Pos} (h:EvL C σ O es ds) (hs:autoParam (Zac es=true) tR) (hz:ds.length≤sizeLine:=by size_fits) :
  EvX C σ O (.List es pos) λ d O'=>∃ a,d = .ref a∧O'=(a,.list ds)::O:=λ s S Q hQ=>by
 refine wpAny_List_spliced (h.args hs s S _ λ vs s₁ t₁ S₁ hv=>⟨by rw [hv.length]; exact hz,?_⟩)
 have x:Eff [] s₁ { s₁ with heap:=s₁.heap.push { cls:=.type "list",data:=.seq vs.toArray } }:=Eff.push _
 exact hQ _ _ _ _ ⟨_,rfl,rfl⟩ (t₁.trans x.tk) (S₁.new x (Nat.le_refl _) ⟨vs.toArray,⟨0,Heap.get?_push_size _ rfl⟩,by simpa using hv.tk x.tk⟩) rfl
theorem Ev.tup {es:List Expr} {ds:List D} {k:Nat} {pos:Pos} (h:EvL C σ O es ds) (hs:autoParam (Zac es=true) tR) (hz:ds.length≤sizeLine:=by size_fits) :
  Ev C σ O (.Tuple es k pos) (.tup ds):=λ s S Q hQ=>by
 refine wpAny_Tuple_spliced (h.args hs s S _ λ vs s₁ t₁ S₁ hv=>⟨by rw [hv.length]; exact hz,?_⟩)
 have x:Eff [] s₁ { s₁ with heap:=s₁.heap.push { cls:=.type "tuple",data:=.seq vs.toArray } }:=Eff.push _
 exact hQ _ _ (t₁.trans x.tk) (S₁.ext x) ⟨_,vs,rfl,⟨_,0,Heap.get?_push_size _ rfl,rfl,rfl⟩,hv.tk x.tk⟩
def Calls (B:Bs) (n:Nat) (f:Value) (ds:List D) (O:Led) (P:D→Led→Prop):Prop:=
 ∀ (A:Around) (s:Shared) (vs:List Value) (Q:Value→Shared→Prop),Room A n→B.G s.heap→B.T≤s.heap.objs.size→(∀ p∈O,ShAt B s.heap p.1 p.2)→(O.map (·.1)).Nodup→(∀ p∈O,¬ B.Old p.1)→Vals s.heap vs ds→
  (∀ v s' d O',P d O'→Eff (O.map (·.1)) s s'→(∀ p∈O',ShAt B s'.heap p.1 p.2)→(O'.map (·.1)).Nodup→(∀ p∈O',p.1∈O.map (·.1)∨s.heap.objs.size≤p.1)→Val s'.heap v d→Q v s')→
  wpAny (model B.prog B.w) A (PySem.call f vs []) Q F0 s
def CallsC (B:Bs) (n:Nat) (f:Value) (ds:List D) (O:Led) (P:D→Led→Prop):Prop:=
 ∀ (A:Around) (s:Shared) (vs:List Value) (Q:Value→Shared→Prop),Room A n→B.G s.heap→B.T≤s.heap.objs.size→(∀ p∈O,ShAt B s.heap p.1 p.2)→(O.map (·.1)).Nodup→(∀ p∈O,¬ B.Old p.1)→Vals s.heap vs ds→
  (∀ v s' d O',P d O'→Eff (O.map (·.1)) s s'→(∀ p∈O',ShAt B s'.heap p.1 p.2)→(O'.map (·.1)).Nodup→(∀ p∈O',p.1∈O.map (·.1)∨s.heap.objs.size≤p.1)→Val s'.heap v d→Q v s')→
  codeAny (model B.prog B.w) A (.call f ⟨vs,[]⟩) (λ r s'=>match r with | .ok (.ret v)=>Q v s' | .ok _=>False | .error e=>F0 e s') s
theorem CallsC.calls {n:Nat} {f:Value} {ds:List D} {O:Led} {P:D→Led→Prop} (h:CallsC B n f ds O P):Calls B n f ds O P:=λ A s vs Q a1 a2 a3 a4 a5 a6 a7 a8=>wpAny_call (h A s vs Q a1 a2 a3 a4 a5 a6 a7 a8)
theorem St.called {s s':Shared} {U U' R:Led} (S:St C σ O s) (hU:∀ p∈U,p∈O) (hR:∀ p∈R,p∈O∧p.1 ∉ U.map (·.1)) (nR:(R.map (·.1)).Nodup)
  (x:Eff (U.map (·.1)) s s') (h:∀ p∈U',ShAt B s'.heap p.1 p.2) (n:(U'.map (·.1)).Nodup) (fr:∀ p∈U',p.1∈U.map (·.1)∨s.heap.objs.size≤p.1):St C σ (U'++R) s':=by
 have inO:∀ {a},a∈U.map (·.1)→∃ sh,(a,sh)∈O:=λ {a} ha=>by
  refine E12 (List.mem_map.mp ha) λ p hp Y1=>?_
  subst Y1
  exact ⟨p.2,hU p hp⟩
 have fr':∀ p∈U',(∃ sh,(p.1,sh)∈O)∨s.heap.objs.size≤p.1:=λ p hp=>(fr p hp).imp inO id
 refine ⟨B.stable _ _ S.top λ b o hb e=>x.keep b o (λ q=>?_) e,S.names,?_,λ p hp=>?_,?_,λ p hp=>?_,λ p hp=>?_,?_⟩
 ·refine E11 (inO q) λ sh hm=>?_
  exact S.low hm hb
 ·obtain ⟨m,⟨o,es,ep,e,r⟩,hm⟩:=S.loc
  refine ⟨m,⟨o,es,ep,x.keep _ o (λ q=>?_) e,r⟩,λ y d hy=>?_⟩
  ·refine E11 (inO q) λ sh hm=>?_
   exact S.ol _ hm rfl
  ·refine E12 (hm y d hy) λ v a b=>?_
   exact ⟨v,a,b.tk x.tk⟩
 ·rcases List.mem_append.mp hp with hp | hp
  ·exact h p hp
  ·exact ShAt.keep (λ o e=>x.keep _ o (hR p hp).2 e) x.tk (S.objs p (hR p hp).1)
 ·rw [List.map_append,List.nodup_append]
  refine ⟨n,nR,λ a ha b hb e=>?_⟩
  refine E12 (List.mem_map.mp ha) λ p hp Y1=>?_
  subst Y1
  refine E12 (List.mem_map.mp hb) λ q hq Y1=>?_
  subst Y1
  rcases fr p hp with z | z
  ·exact (hR q hq).2 (e ▸ z)
  ·have:=ShAt.lt (S.objs q (hR q hq).1)
   rw [← e] at this
   exact Nat.lt_irrefl _ (Nat.lt_of_lt_of_le this z)
 ·rcases List.mem_append.mp hp with hp | hp
  ·rcases fr' p hp with ⟨sh,z⟩ | z
   ·exact S.ol (p.1,sh) z
   ·exact Nat.ne_of_gt (Nat.lt_of_lt_of_le S.ltL z)
  ·exact S.ol p (hR p hp).1
 ·rcases List.mem_append.mp hp with hp | hp
  ·rcases fr' p hp with ⟨sh,z⟩ | z
   ·exact S.own (p.1,sh) z
   ·exact .inl (Nat.le_trans S.bsize z)
  ·exact S.own p (hR p hp).1
 ·refine ⟨λ p o np e=>x.keep p o (λ q=>?_) (S.eff.keep p o np e),S.eff.tk.trans x.tk,x.os.trans S.eff.os,S.eff.gens.trans x.gens⟩
  refine E11 (inO q) λ sh hm=>?_
  rcases S.own _ hm with z | z
  ·exact Nat.lt_irrefl _ (Nat.lt_of_lt_of_le (Heap.lt_size e) z)
  ·exact np z
def IsDef (B:Bs) (f:Addr):Prop:=∃ o fd,o.data = .func fd∧∀ h,B.G h→h.get? f=some o
theorem EvX.call {fe:Expr} {f:Addr} {e:Expr} {es:List Expr} {pos:Pos} {ds:List D} {n:Nat} {U R:Led} {P:D→Led→Prop} (hf:Ev C σ O fe (.ref f)) (hd:IsDef B f)
  (ha:EvL C σ O (e::es) ds) (hc:Calls B n (.ref f) ds U P) (hn:n≤C.n) (hU:∀ p∈U,p∈O) (hR:∀ p∈R,p∈O∧p.1 ∉ U.map (·.1)) (nU:(U.map (·.1)).Nodup) (nR:(R.map (·.1)).Nodup)
  (hs:autoParam (Zac (e::es)=true) tR)
  (he:autoParam (eval (.Call fe (e::es) [] pos) C.env=(do callWith pos (← eval fe C.env) [] (backTo pos (starEach (e::es) C.env)) (backToKw pos (keywordEach [] C.env)))) tR) :
  EvX C σ O (.Call fe (e::es) [] pos) λ d O'=>∃ U',P d U'∧O'=U'++R:=λ s S Q hQ=>by
 refine Call_ (hf s S _ λ v s₁ t₁ S₁ hv=>?_) he
 have hh:v = .ref f:=hv; subst hh
 refine E22 hd λ o fd hfd hh=>?_
 try clear hd
 refine callWith_def hfd (ha.args hs s₁ S₁ _ λ vs s₂ t₂ S₂ hvs=>⟨hh _ S₂.top,?_⟩) (Zaa hs).1
 refine hc C.A s₂ vs Q (C.room.le hn) S₂.top (Nat.le_trans C.low S₂.bsize) (λ p hp=>S₂.objs p (hU p hp)) nU (λ p hp=>S₂.low (hU p hp)) hvs λ v s₃ d U' p x h n fr hv=>?_
 exact hQ v s₃ d _ ⟨U',p,rfl⟩ ((t₁.trans t₂).trans x.tk) (S₂.called hU hR nR x h n fr) hv
def Pure (B:Bs) (n:Nat) (f:Value) (ds:List D) (U:Led) (d:D):Prop:=Calls B n f ds U λ d' O'=>d'=d∧O'=U
def LocOk (h:Heap) (m:Str→Option Value):Loc→Prop
 | []=>True
 | (x,some d)::r=>(∃ v,m x=some v∧Val h v d)∧LocOk h m r
 | (_,none)::r=>LocOk h m r
theorem LocOk.get {h:Heap} {m:Str→Option Value} {σ : Loc} (k:LocOk h m σ) (x:Str) (d:D) (hm:(x,some d) ∈ σ):∃ v,m x=some v∧Val h v d:=by
 induction σ with
 | nil=>exact nomatch hm
 | cons a r ih=>
  obtain ⟨y,e⟩:=a
  cases e with
  | some e=>
   rcases List.mem_cons.mp hm with q | q
   ·cases q; exact k.1
   ·exact ih k.2 q
  | none=>
   rcases List.mem_cons.mp hm with q | q
   ·cases q
   ·exact ih k q
def Zin (h:Heap) (m:Str→Option Value):Loc→Prop
 | []=>True
 | (x,some d)::r=>(∃ v,m x=some v∧Val h v d)∧Zin h m r
 | (x,none)::r=>m x=none∧Zin h m r
noncomputable def Zci:Loc→List (Str × Addr)→Led
 | (_,d)::r,(_,c)::t=>(c,.cell d)::Zci r t
 | _,_=>[]
theorem Zfb:∀ (cl:Loc) (cs:List (Str × Addr)),cl.map (·.1)=cs.map (·.1)→(Zci cl cs).map (·.1)=cs.map (·.2)
 | [],[],_=>rfl
 | [],_::_,e=>by simp at e
 | _::_,[],e=>by simp at e
 | (_,d)::r,(_,c)::t,e=>by
  simp only [List.map_cons,List.cons.injEq] at e
  simp only [Zci,List.map_cons,Zfb r t e.2]
theorem cellLed_at {h h₀:Heap} {m:Str→Option Value} (tk:Tk h₀ h) (cl:Loc) (cs:List (Str × Addr)) (k:Zin h₀ m cl) (e:cl.map (·.1)=cs.map (·.1)) (ic:∀ n c,(n,c)∈cs→h.IsCell c (m n)):∀ p∈Zci cl cs,ShAt B h p.1 p.2:=by
 induction cl generalizing cs with
 | nil=>intro _ hp; simp [Zci] at hp
 | cons a r ih=>
  cases cs with
  | nil=>simp at e
  | cons b t=>
   obtain ⟨x,d⟩:=a
   obtain ⟨y,c⟩:=b
   simp only [List.map_cons,List.cons.injEq] at e
   intro p hp
   have hc:=ic y c List.mem_cons_self
   rw [← e.1] at hc
   have hr:=λ n c h=>ic n c (List.mem_cons_of_mem _ h)
   cases d with
   | some d=>
    have Y2:=k
    try clear k
    refine E02 Y2 λ Y1 k=>?_
    clear Y2
    refine E12 Y1 λ v e1 hv=>?_
    clear Y1
    rcases List.mem_cons.mp hp with rfl | hp
    ·rw [e1] at hc; exact ⟨v,hc,hv.tk tk⟩
    ·exact ih t k e.2 hr p hp
   | none=>
    have Y1:=k
    try clear k
    refine E02 Y1 λ e1 k=>?_
    clear Y1
    rcases List.mem_cons.mp hp with rfl | hp
    ·rw [e1] at hc; exact hc
    ·exact ih t k e.2 hr p hp
theorem Run.kabs {b:List Stmt} {R:Flow→Shared→Prop} (h:∀ K:Flow→Shared→Prop,(∀ f s,R f s→K f s)→Run C σ O b K):Run C σ O b R:=h R λ _ _ h=>h
def Ends (C:Cx B) (P:D→Led→Prop):Flow→Shared→Prop
 | .ret v,s=>∃ d U' σ' O',P d U'∧St C σ' O' s∧(∀ p∈U',p∈O')∧(U'.map (·.1)).Nodup∧Val s.heap v d
 | .next,s=>∃ U' σ' O',P .none U'∧St C σ' O' s∧(∀ p∈U',p∈O')∧(U'.map (·.1)).Nodup
 | _,_=>False
structure DefAt (B:Bs) (f:Addr) (fd:FuncData) (body:List Stmt):Prop where
 at_:∃ o,o.data = .func fd∧∀ h,B.G h→h.get? f=some o
 code:∀ h,B.G h→h.CodeRec fd.code fd.qualname
 body:fd.body = .stmts body
 clo:fd.closure=[]
 co:fd.scope.isCoroutine=false
 gen:fd.scope.isGenerator=false
 kind:fd.scope.kind = .function
 gl:fd.globals=mainGlobals
 bl:fd.builtins=builtinsNs
theorem CallsC.of_run {f:Addr} {fd:FuncData} {body:List Stmt} {ds:List D} {U:Led} {P:D→Led→Prop} {n:Nat} (d:DefAt B f fd body)
  (names:List Str) (nd:names.Nodup) (hloc:∀ x∈names,fd.scope.names.lookup x=some .local)
  (σ₀:Loc) (hσ : σ₀.map (·.1)=names) (cl:Loc) (cells:Addr→List (Str × Addr)) (hcells:∀ L,cellsFrom (L+1) fd.scope.names []=cells L) (hcl:∀ L,cl.map (·.1)=(cells L).map (·.1)) (ndc:(cl.map (·.1)).Nodup)
  (hb:∀ s vs,B.G s.heap→Vals s.heap vs ds→∃ binds,BindsTo s fd ⟨vs,[]⟩ binds ∧
   (∀ x∈binds,fd.scope.names.lookup x.1=some .local∨(fd.scope.names.lookup x.1=some .cell∧x.1∈cl.map (·.1))) ∧
   LocOk s.heap (bindL (λ x=>fd.scope.names.lookup x) binds λ _=>none) σ₀∧Zin s.heap (bindC (λ x=>fd.scope.names.lookup x) binds λ _=>none) cl)
  (run:∀ C:Cx B,C.env=callEnvC fd C.env.locals f→C.W=U.map (·.1)→C.n=n→C.names=names→Run C σ₀ (Zci cl (cells C.env.locals)++U) body (Ends C P)):CallsC B (n+1) (.ref f) ds U P:=by
 intro A s vs Q room top low objs nU lowU hvs hQ
 refine E14 (hb s vs top hvs) λ binds hbind hkind hl hc=>?_
 obtain ⟨o,hd,hh⟩:=d.at_
 refine codeAny_call_function room.depth (hh _ top) hd d.co d.gen d.body (d.code _ top) (hbind _ _ _ _ ?_)
 rw [d.clo]
 have look:∀ {L x},x∈cl.map (·.1)→((cellsFrom (L+1) fd.scope.names []).lookup x).isSome=true:=λ {L x} hx=>by
  rw [hcells,← Option.not_isNone,Bool.not_eq_true',← Bool.not_eq_true,Option.isNone_iff_eq_none]
  rw [hcl L] at hx
  refine E12 (List.mem_map.mp hx) λ p hp Y1=>?_
  subst Y1
  intro e
  exact absurd (List.lookup_eq_none_iff.mp e p hp) (by simp)
 refine wpAny_newFunctionEnv_cells d.kind (λ x hx=>(hkind x hx).imp id λ q=>⟨q.1,look q.2⟩) λ env he s' x=>⟨(B.lim _ top).keeps x.toInCall.keep,codeAny_func ?_⟩
 subst he
 have ext:=x.toInCall.keep
 obtain ⟨h₁,tk,rfl,_⟩:=x.done
 have e0:Eff [] s { s with heap:=h₁,toks:=tk }:=.ext ext
 have hW:∀ a∈U.map (·.1),¬ B.Old a:=λ a ha=>by
  refine E12 (List.mem_map.mp ha) λ p hp Y1=>?_
  subst Y1
  exact lowU p hp
 let C:Cx B:=⟨A.deeper (callEnvC fd s.heap.objs.size f),callEnvC fd s.heap.objs.size f,s,U.map (·.1),names,n,d.kind,d.gl,d.bl,nd,hloc,room.deeper (Nat.le_refl _),low,Nat.le_refl _,hW⟩
 have cellAt:∀ n c,(n,c)∈cells s.heap.objs.size→h₁.IsCell c (bindC (λ x=>fd.scope.names.lookup x) binds (λ _=>none) n)∧s.heap.objs.size < c:=λ n c hm=>by
  have hm':(n,c)∈cellsFrom (s.heap.objs.size+1) fd.scope.names []:=by rw [hcells]; exact hm
  refine ⟨x.cell n c ?_,x.above n c hm'⟩
  refine lookup_of_mem_nodup ?_ hm'
  show ((cellsFrom (s.heap.objs.size+1) fd.scope.names []).map (·.1)).Nodup
  rw [hcells,← hcl]
  exact ndc
 have above:∀ p∈Zci cl (cells s.heap.objs.size),s.heap.objs.size < p.1:=λ p hp=>by
  have:=Zat hp
  rw [Zfb _ _ (hcl _)] at this
  refine E12 (List.mem_map.mp this) λ q hq e=>?_
  rw [← e]; exact (cellAt q.1 q.2 hq).2
 have S:St C σ₀ (Zci cl (cells s.heap.objs.size)++U) { s with heap:=h₁,toks:=tk }:=by
  refine ⟨B.stable _ _ top λ a o _ e=>ext a o e,hσ,⟨_,x.toInCall.ns,λ y d hy=>?_⟩,λ p hp=>?_,?_,λ p hp=>?_,λ p hp=>?_,e0.mono λ _ q=>(nomatch q)⟩
  ·refine E12 (hl.get y d hy) λ v a b=>?_
   exact ⟨v,a,b.tk e0.tk⟩
  ·rcases List.mem_append.mp hp with hp | hp
   ·exact cellLed_at e0.tk _ _ hc (hcl _) (λ n c hm=>(cellAt n c hm).1) p hp
   ·exact ShAt.keep (λ o e=>ext _ o e) e0.tk (objs p hp)
  ·rw [List.map_append,List.nodup_append]
   refine ⟨?_,nU,λ a ha b hb e=>?_⟩
   ·rw [Zfb _ _ (hcl _)]
    have:=x.apart
    replace this:(cellsFrom (s.heap.objs.size+1) fd.scope.names []).Pairwise λ x y=>x.2 ≠ y.2:=this
    rw [hcells] at this
    exact List.pairwise_map.mpr this
   ·refine E12 (List.mem_map.mp ha) λ p hp Y1=>?_
    subst Y1
    refine E12 (List.mem_map.mp hb) λ q hq Y1=>?_
    subst Y1
    have h1:=above p hp
    have h2:=ShAt.lt (objs q hq)
    rw [e] at h1
    exact Nat.lt_irrefl _ (Nat.lt_trans h1 h2)
  ·rcases List.mem_append.mp hp with hp | hp
   ·exact Nat.ne_of_gt (above p hp)
   ·exact Nat.ne_of_lt (ShAt.lt (objs p hp))
  ·rcases List.mem_append.mp hp with hp | hp
   ·exact .inl (Nat.le_of_lt (above p hp))
   ·exact .inr (Zat hp)
 have fin:∀ {v d U' σ' O' s'},P d U'→St C σ' O' s'→(∀ p∈U',p∈O')→(U'.map (·.1)).Nodup→Val s'.heap v d→Q v s':=λ {v d U' σ' O' s'} p S' sub nd' hv=>
  hQ v s' d U' p S'.eff (λ p hp=>S'.objs p (sub p hp)) nd' (λ p hp=>(S'.own p (sub p hp)).symm) hv
 refine wpAny_mono (run C rfl rfl rfl rfl _ S) (λ fl s' e=>?_) λ _ _ q=>q.elim
 cases fl with
 | ret v=>refine E45 e λ d U' σ' O' p S' sub nd' hv=>?_; try clear e; exact fin p S' sub nd' hv
 | next=>refine E34 e λ U' σ' O' p S' sub nd'=>?_; try clear e; exact fin p S' sub nd' rfl
 | brk=>exact e.elim
 | cont=>exact e.elim
def Asg (C:Cx B) (σ : Loc) (O:Led) (target:Expr) (d:D) (σ':Loc) (O':Led):Prop:=
 ∀ s v,St C σ O s→Val s.heap v d→∀ Q:Unit→Shared→Prop,(∀ s',Tk s.heap s'.heap→St C σ' O' s'→Q () s')→C.wp (assign target C.env v) Q s
theorem Asg.name {x:Str} {p:Pos} {d:D} (h:LPut σ x d σ'):Asg C σ O (.Name x p) d σ' O:=λ s v S hv Q hQ=>wpAny_assign_Name (S.store h hv hQ)
theorem St.storeCell {s:Shared} (S:St C σ O s) {x:Str} {d:D} {v:Value} {c:Addr} {Q:Unit→Shared→Prop} (hk:C.env.kindOf x=some .cell) (hc:C.env.cells.lookup x=some c) (hp:OPut O c (.cell (some d)) O') (hv:Val s.heap v d)
  (hcell:∃ d₀,OAt O c (.cell d₀)) (h:∀ s',Tk s.heap s'.heap→St C σ O' s'→Q () s'):C.wp (storeName C.env x v) Q s:=by
 refine E11 hcell λ d₀ ha=>?_
 try clear hcell
 have:=S.objs _ ha.mem
 have ic:∃ v₀,s.heap.IsCell c v₀:=by
  cases d₀ with
  | none=>exact ⟨_,this⟩
  | some d₀=>refine E12 this λ v₀ ic _=>?_; try clear this; exact ⟨_,ic⟩
 have Y1:=ic
 try clear ic
 refine E11 Y1 λ v₀ ic=>?_
 clear Y1
 refine wpAny_storeName_cell C.kind hk hc ic λ h' ic' hs=>?_
 have e:Eff [c] s { s with heap:=h' }:=.but hs λ vs=>ShAt.noTup this vs
 exact h _ e.tk (S.put hp e ⟨v,ic',hv.tk e.tk⟩)
theorem Asg.cell {x:Str} {p:Pos} {d:D} {c:Addr} {d₀:Option D} (hk:C.env.kindOf x=some .cell) (hc:C.env.cells.lookup x=some c) (ha:OAt O c (.cell d₀)) (hp:OPut O c (.cell (some d)) O'):Asg C σ O (.Name x p) d σ O':=
 λ s v S hv Q hQ=>wpAny_assign_Name (S.storeCell hk hc hp hv ⟨_,ha⟩ hQ)
theorem Run.assignCell {x:Str} {xp pos:Pos} {e:Expr} {rest:List Stmt} {d:D} {c:Addr} {d₀:Option D} {K:Flow→Shared→Prop} (he:Ev C σ O e d) (hk:C.env.kindOf x=some .cell) (hc:C.env.cells.lookup x=some c) (ha:OAt O c (.cell d₀))
  (hp:OPut O c (.cell (some d)) O') (h:Run C σ O' rest K)
  (hs:autoParam (swapsWith e (some (.Name x xp)) pos.line C.env=pure false) tR):Run C σ O (.Assign [.Name x xp] e pos::rest) K:=
 Run.cons λ s S=>wpAny_Assign_Name (he s S _ λ v s₁ t₁ S₁ hv=>S₁.storeCell hk hc hp hv ⟨_,ha⟩ λ s₂ _ S₂=>h s₂ S₂) hs
theorem Asg.tup2 {x y:Expr} {k:Nat} {p:Pos} {d e:D} {σ₁ σ₂:Loc} {O₁ O₂:Led} (hx:Asg C σ O x d σ₁ O₁) (hy:Asg C σ₁ O₁ y e σ₂ O₂)
  (he:autoParam (assignEach [x,y] C.env=[(false,assign x C.env),(false,assign y C.env)]) tR):Asg C σ O (.Tuple [x,y] k p) (.tup [d,e]) σ₂ O₂:=λ s v S hv Q hQ=>by
 refine E23 hv λ a vs Y1 Y2 Y3=>?_
 try clear hv
 subst Y1
 refine E23 Y2 λ o n ho hc hd=>?_
 clear Y2
 refine E23 Y3 λ v₁ r Y4 h₁ Y5=>?_
 clear Y3
 subst Y4
 refine E23 Y5 λ v₂ r' Y6 h₂ hn=>?_
 clear Y5
 subst Y6
 have hh:r'=[]:=hn; subst hh
 refine wpAny_assign_Tuple C.room.handled (items:=#[v₁,v₂]) ⟨o,ho,hc,n,hd⟩ (by rw [he]; rfl) (by rw [he]; rfl) λ h' hx'=>?_
 rw [he]
 have k':∀ b o,s.heap.get? b=some o→h'.get? b=some o:=λ b o e=>hx' b o (Nat.ne_of_lt (Heap.lt_size e)) e
 have e1:Eff [] s { s with heap:=h' }:=.ext k'
 show C.wp (do holding [v₂] (assign x C.env v₁); do holding [] (assign y C.env v₂); pure ()) Q _
 refine wpAny_bind (wpAny_holding (hx _ _ (S.ext e1) (h₁.tk e1.tk) _ λ s₁ t₁ S₁=>?_))
 refine wpAny_bind (wpAny_holding (hy _ _ S₁ ((h₂.tk e1.tk).tk t₁) _ λ s₂ t₂ S₂=>wpAny_pure ?_))
 exact hQ _ ((e1.tk.trans t₁).trans t₂) S₂
structure Src (C:Cx B) (target:Expr) (it:Value) (S:Nat→Led) (Need:Led→Prop) (ds:List D):Prop where
 self:∀ {i σ O s},Need O→St C σ (O++S i) s→∀ {Q:Value→Shared→Prop},Q it s→C.wp (pyIter it) Q s
 item:∀ {i d},ds[i]? = some d→∀ {σ O s},Need O→St C σ (O++S i) s→∀ {Q:Value→Shared→Prop},(∀ v s',Tk s.heap s'.heap→St C σ (O++S (i+1)) s'→Val s'.heap v d→Q v s')→
  C.wp (pyNext it) (λ r s₁=>match r with | none=>False | some v=>C.wp (letOwnedTupleGo target it v) (λ _ s₂=>Q v s₂) s₁) s
 done:∀ {σ O s},Need O→St C σ (O++S ds.length) s→∀ {Q:Shared→Prop},(∀ s',Tk s.heap s'.heap→St C σ O s'→Q s')→
  C.wp (pyNext it) (λ r s₁=>match r with | none=>Q s₁ | some _=>False) s
def IterX (C:Cx B) (σ : Loc) (O:Led) (iter target:Expr) (P:Led→(Led→Prop)→List D→Prop):Prop:=
 ∀ s,St C σ O s→∀ Q:Value→Shared→Prop,(∀ it s' S O' Need ds,P O' Need ds→Tk s.heap s'.heap→(∀ C':Cx B,Src C' target it S Need ds)→St C σ (O'++S 0) s'→Q it s')→C.wp (eval iter C.env) (λ x s₁=>C.wp (pyIter x) Q s₁) s
def Iter (C:Cx B) (σ : Loc) (O:Led) (iter target:Expr) (O':Led) (Need:Led→Prop) (ds:List D):Prop:=
 ∀ s,St C σ O s→∀ Q:Value→Shared→Prop,(∀ it s' S,Tk s.heap s'.heap→(∀ C':Cx B,Src C' target it S Need ds)→St C σ (O'++S 0) s'→Q it s')→C.wp (eval iter C.env) (λ x s₁=>C.wp (pyIter x) Q s₁) s
theorem Iter.toX {iter target:Expr} {Need:Led→Prop} {ds:List D} (h:Iter C σ O iter target O' Need ds):IterX C σ O iter target λ O'' N ds'=>O''=O'∧N=Need∧ds'=ds:=
 λ s S Q hQ=>h s S Q λ it s' Sf t src S'=>hQ it s' Sf O' Need ds ⟨rfl,rfl,rfl⟩ t src S'
inductive ThenT (C:Cx B) (σ : Loc) (O:Led) (target:Expr) (d:D) (body:List Stmt) (K:Flow→Shared→Prop):Prop
 | mk (σ₁:Loc) (O₂:Led) (ha:Asg C σ O target d σ₁ O₂) (hr:Run C σ₁ O₂ body K)
structure Goes (C:Cx B) (σ : Loc) (O₁:Led) (target:Expr) (body orelse rest:List Stmt) (K:Flow→Shared→Prop) (Need:Led→Prop) (ds:List D) (σf:Nat→Loc) (Of:Nat→Led) (Kb:Shared→Prop):Prop where
 h0 : σf 0 = σ ∧ Of 0=O₁
 need:∀ i,i≤ds.length→Need (Of i)
 turn:∀ i d,ds[i]? = some d→∀ S:Nat→Led,ThenT C (σf i) (Of i++S (i+1)) target d body (λ f s'=>match f with
   | .next=>St C (σf (i+1)) (Of (i+1)++S (i+1)) s' | .cont=>St C (σf (i+1)) (Of (i+1)++S (i+1)) s' | .brk=>Kb s' | .ret v=>K (.ret v) s')
 done:Run C (σf ds.length) (Of ds.length) orelse (λ f s'=>match f with | .next=>C.wp (execs rest C.env) K s' | f=>K f s')
 brk:∀ s',Kb s'→C.wp (execs rest C.env) K s'
structure GoesE (C:Cx B) (σ : Loc) (O₁:Led) (target:Expr) (body orelse rest:List Stmt) (K:Flow→Shared→Prop) (Need:Led→Prop) (ds:List D) (Φ : Nat→Loc→Led→Prop) (Kb:Shared→Prop):Prop where
 h0 : Φ 0 σ O₁
 need:∀ i,i≤ds.length→∀ σ' O',Φ i σ' O'→Need O'
 turn:∀ i d,ds[i]? = some d→∀ σ' O',Φ i σ' O'→∀ S:Nat→Led,ThenT C σ' (O'++S (i+1)) target d body (λ f s'=>match f with
   | .next=>∃ σ'' O'',Φ (i+1) σ'' O''∧St C σ'' (O''++S (i+1)) s' | .cont=>∃ σ'' O'',Φ (i+1) σ'' O''∧St C σ'' (O''++S (i+1)) s' | .brk=>Kb s' | .ret v=>K (.ret v) s')
 done:∀ σ' O',Φ ds.length σ' O'→Run C σ' O' orelse (λ f s'=>match f with | .next=>C.wp (execs rest C.env) K s' | f=>K f s')
 brk:∀ s',Kb s'→C.wp (execs rest C.env) K s'
theorem Run.forE {target iter:Expr} {body orelse rest:List Stmt} {pos:Pos} {K:Flow→Shared→Prop} {P:Led→(Led→Prop)→List D→Prop}
  (hi:IterX C σ O iter target P) (h:∀ O₁ Need ds,P O₁ Need ds→∃ Φ Kb,GoesE C σ O₁ target body orelse rest K Need ds Φ Kb)
  (hs:autoParam (∀ x,foldedSetIterable iter C.env x=pure x) tI):Run C σ O (.For target iter body orelse pos::rest) K:=by
 refine Run.cons λ s S=>?_
 refine wpAny_For (hi s S _ λ it s₁ Sf O₁ Need ds hP _ src S₁=>?_) hs
 refine E21 (h O₁ Need ds hP) λ Φ Kb Y1=>?_
 rcases Y1 with ⟨h0,need,turn,done,brk⟩
 refine codeAny_forLoop_any (λ n s'=>∃ i,i≤ds.length∧n=ds.length - i∧∃ σ' O',Φ i σ' O'∧St C σ' (O'++Sf i) s') ?_ ds.length ⟨0,Nat.zero_le _,rfl,_,_,h0,S₁⟩
 intro n s₂ hq0
 refine E13 hq0 λ i hi Y1 Y2=>?_
 try clear hq0
 subst Y1
 refine E22 Y2 λ σ' O' hI S₂=>?_
 clear Y2
 have nz:∀ {E:Value→Shared→Prop} {t:Sem Flow} {Q:Flow→Shared→Prop} {s:Shared},C.wp t Q s→wpAny (model B.prog B.w) C.A t Q E s:=λ h=>F0.to h
 rcases Nat.lt_or_ge i ds.length with hlt | hge
 ·obtain ⟨d,hd⟩:∃ d,ds[i]? = some d:=⟨ds[i],List.getElem?_eq_getElem hlt⟩
  obtain ⟨σ₁,O₂,ha,hr⟩:=turn i d hd σ' O' hI Sf
  refine F0.to (wpAny_mono ((src C).item hd (need i hi _ _ hI) S₂ (Q:=λ v s₄=>C.wp (PySem.assign target C.env v) (λ _ s₅=>C.wp (execs body C.env) (λ f s₆=>match f with
    | .next | .cont=>∃ m,m < ds.length - i∧∃ j,j≤ds.length∧m=ds.length - j∧∃ σ' O',Φ j σ' O'∧St C σ' (O'++Sf j) s₆
    | .brk=>C.wp (execs rest C.env) K s₆
    | .ret v=>K (.ret v) s₆) s₅) s₄) ?_) (λ r s₃ h₃=>?_) λ _ _ q=>q)
  ·intro v s₄ _ S₄ hv
   refine ha s₄ v S₄ hv _ λ s₅ _ S₅=>wpAny_mono (hr s₅ S₅) (λ f s₆ h₆=>?_) λ _ _ q=>q
   cases f with
   | next=>exact ⟨ds.length - (i+1),by lia,i+1,hlt,rfl,h₆⟩
   | cont=>exact ⟨ds.length - (i+1),by lia,i+1,hlt,rfl,h₆⟩
   | brk=>exact brk _ h₆
   | ret v=>exact h₆
  ·cases r with
   | none=>exact h₃.elim
   | some v=>exact F0.to (wpAny_mono h₃ (λ _ s₄ h₄=>F0.to (wpAny_mono h₄ (λ _ s₅ h₅=>F0.to (wpAny_mono h₅ (λ f s₆ h₆=>by cases f <;> exact h₆) λ _ _ q=>q)) λ _ _ q=>q)) λ _ _ q=>q)
 ·obtain rfl:i=ds.length:=Nat.le_antisymm hi hge
  refine F0.to (wpAny_mono ((src C).done (need _ hi _ _ hI) S₂ (Q:=λ s₃=>C.wp (execs orelse C.env) (λ f s'=>match f with | .next=>C.wp (execs rest C.env) K s' | f=>K f s') s₃) λ s₃ _ S₃=>done _ _ hI s₃ S₃) (λ r s₃ h₃=>?_) λ _ _ q=>q)
  cases r with
  | none=>exact F0.to (wpAny_mono h₃ (λ f s₄ h₄=>by cases f <;> exact h₄) λ _ _ q=>q)
  | some _=>exact h₃.elim
structure GoesI (C:Cx B) (σ : Loc) (O₁:Led) (target:Expr) (body orelse rest:List Stmt) (K:Flow→Shared→Prop) (Need:Led→Prop) (ds:List D) (Inv:Nat→Prop) (σf:Nat→Loc) (Of:Nat→Led) (Kb:Shared→Prop):Prop where
 h0 : σf 0 = σ ∧ Of 0=O₁
 i0:Inv 0
 need:∀ i,i≤ds.length→Inv i→Need (Of i)
 turn:∀ i d,ds[i]? = some d→Inv i→∀ S:Nat→Led,ThenT C (σf i) (Of i++S (i+1)) target d body (λ f s'=>match f with
   | .next=>Inv (i+1)∧St C (σf (i+1)) (Of (i+1)++S (i+1)) s' | .cont=>Inv (i+1)∧St C (σf (i+1)) (Of (i+1)++S (i+1)) s' | .brk=>Kb s' | .ret v=>K (.ret v) s')
 done:Inv ds.length→Run C (σf ds.length) (Of ds.length) orelse (λ f s'=>match f with | .next=>C.wp (execs rest C.env) K s' | f=>K f s')
 brk:∀ s',Kb s'→C.wp (execs rest C.env) K s'
theorem Goes.inv {C:Cx B} {σ : Loc} {O₁:Led} {target:Expr} {body orelse rest:List Stmt} {K:Flow→Shared→Prop} {Need:Led→Prop} {ds:List D} {σf:Nat→Loc} {Of:Nat→Led} {Kb:Shared→Prop}
  (g:Goes C σ O₁ target body orelse rest K Need ds σf Of Kb):GoesI C σ O₁ target body orelse rest K Need ds (λ _=>True) σf Of Kb:=
 ⟨g.h0,trivial,λ i hi _=>g.need i hi,λ i d hd _ S=>by obtain ⟨σ₁,O₂,a,r⟩:=g.turn i d hd S; exact ⟨σ₁,O₂,a,r.mono λ f s h=>by cases f <;> first | exact ⟨trivial,h⟩ | exact h⟩,λ _=>g.done,g.brk⟩
theorem Run.forI {target iter:Expr} {body orelse rest:List Stmt} {pos:Pos} {K:Flow→Shared→Prop} {P:Led→(Led→Prop)→List D→Prop}
  (hi:IterX C σ O iter target P) (h:∀ O₁ Need ds,P O₁ Need ds→∃ Inv σf Of Kb,GoesI C σ O₁ target body orelse rest K Need ds Inv σf Of Kb)
  (hs:autoParam (∀ x,foldedSetIterable iter C.env x=pure x) tI):Run C σ O (.For target iter body orelse pos::rest) K:=
 .forE hi (λ O₁ Need ds hP=>by
  refine E41 (h O₁ Need ds hP) λ Inv σf Of Kb Y1=>?_
  rcases Y1 with ⟨h0,i0,need,turn,done,brk⟩
  refine ⟨λ i σ' O'=>Inv i ∧ σ' = σf i∧O'=Of i,Kb,⟨i0,h0.1.symm,h0.2.symm⟩,by intro i hi σ' O' hq0; refine E03 hq0 λ a b c=>?_; try clear hq0; subst b; subst c; exact need i hi a,λ i d hd σ' O' ⟨a,b,c⟩ S=>?_,by intro σ' O' hq0; refine E03 hq0 λ a b c=>?_; try clear hq0; subst b; subst c; exact done a,brk⟩
  subst b; subst c
  obtain ⟨σ₁,O₂,ha,hr⟩:=turn i d hd a S
  exact ⟨σ₁,O₂,ha,hr.mono λ f s h=>by cases f <;> first | exact ⟨_,_,⟨h.1,rfl,rfl⟩,h.2⟩ | exact h⟩) hs
theorem Run.forX {target iter:Expr} {body orelse rest:List Stmt} {pos:Pos} {K:Flow→Shared→Prop} {P:Led→(Led→Prop)→List D→Prop}
  (hi:IterX C σ O iter target P) (h:∀ O₁ Need ds,P O₁ Need ds→∃ σf Of Kb,Goes C σ O₁ target body orelse rest K Need ds σf Of Kb)
  (hs:autoParam (∀ x,foldedSetIterable iter C.env x=pure x) tI):Run C σ O (.For target iter body orelse pos::rest) K:=
 .forI hi (λ O₁ Need ds hP=>by refine E31 (h O₁ Need ds hP) λ σf Of Kb g=>?_; exact ⟨_,σf,Of,Kb,g.inv⟩) hs
theorem Run.for_ {target iter:Expr} {body orelse rest:List Stmt} {pos:Pos} {K:Flow→Shared→Prop} {ds:List D} {O₁:Led} {Need:Led→Prop} {Kb:Shared→Prop}
  (hi:Iter C σ O iter target O₁ Need ds) (σf:Nat→Loc) (Of:Nat→Led) (g:Goes C σ O₁ target body orelse rest K Need ds σf Of Kb)
  (hs:autoParam (∀ x,foldedSetIterable iter C.env x=pure x) tI):Run C σ O (.For target iter body orelse pos::rest) K:=
 .forX hi.toX (by intro O' N ds' hq0; refine E03 hq0 λ e1 e2 e3=>?_; try clear hq0; subst e1; subst e2; subst e3; exact ⟨σf,Of,Kb,g⟩) hs
theorem Run.while_ {α : Type} {test:Expr} {body rest:List Stmt} {pos:Pos} {K:Flow→Shared→Prop} {Kb:Shared→Prop} (J : α→Prop) (m : α→Nat) (σf : α→Loc) (Of : α→Led) (b : α→Bool)
  (ht:∀ a,J a→Tst C (σf a) (Of a) test (b a))
  (turn:∀ a,J a→b a=true→Run C (σf a) (Of a) body (λ f s'=>match f with
   | .next=>∃ a',J a'∧m a' < m a∧St C (σf a') (Of a') s' | .cont=>∃ a',J a'∧m a' < m a∧St C (σf a') (Of a') s' | .brk=>Kb s' | .ret v=>K (.ret v) s'))
  (done:∀ a,J a→b a=false→Run C (σf a) (Of a) rest K) (brk:∀ s',Kb s'→C.wp (execs rest C.env) K s')
  (a : α) (ha:J a) (h0 : σf a = σ ∧ Of a=O):Run C σ O (.While test body [] pos::rest) K:=by
 refine Run.cons λ s S=>wpAny_While ?_
 refine codeAny_whileLoop (λ n s'=>∃ a,J a∧m a=n∧St C (σf a) (Of a) s') ?_ (m a) ⟨a,ha,rfl,by rw [h0.1,h0.2]; exact S⟩
 intro n s₁ hq0
 refine E13 hq0 λ a ja Y1 S₁=>?_
 try clear hq0
 subst Y1
 refine F0.to (ht a ja s₁ S₁ _ λ s₂ _ S₂=>?_)
 cases hb:b a with
 | true=>
  refine F0.to (wpAny_mono (turn a ja hb s₂ S₂) (λ f s₃ h₃=>?_) λ _ _ q=>q)
  cases f with
  | next=>refine E13 h₃ λ a' j l S'=>?_; try clear h₃; exact ⟨m a',l,a',j,rfl,S'⟩
  | cont=>refine E13 h₃ λ a' j l S'=>?_; try clear h₃; exact ⟨m a',l,a',j,rfl,S'⟩
  | brk=>exact brk _ h₃
  | ret v=>exact h₃
 | false=>exact F0.to (wpAny_execs_nil (done a ja hb s₂ S₂))
theorem OPut.app {a:Addr} {sh:Sh} {O O':Led} (h:OPut O a sh O') (R:Led):OPut (R++O) a sh (R++O'):=by
 induction R with
 | nil=>exact h
 | cons p R ih=>exact .u ih
theorem Zbw {h:Heap} {it l:Addr} {i:Nat} (x:ShAt B h it (.fields "list_iterator" #[.ref l,.int i 0])):h.IsListIter it l i:=by refine E13 x λ o e c d=>?_; try clear x; exact ⟨o,e,c,d⟩
theorem Zjk {h:Heap} {it l:Addr} {i:Nat} (x:h.IsListIter it l i):ShAt B h it (.fields "list_iterator" #[.ref l,.int i 0]):=by refine E13 x λ o e c d=>?_; try clear x; exact ⟨o,e,c,d⟩
theorem Zae {h:Heap} {l:Addr} {ds:List D} (x:ShAt B h l (.list ds)):∃ items,h.IsList l items∧Vals h items.toList ds:=by refine E12 x λ i a b=>?_; try clear x; exact ⟨i,a.isList,b⟩
theorem Eff.ofExtBut {s:Shared} {h':Heap} {a:Addr} {t:Nat} (hs:Heap.ExtBut a s.heap h') (n:∀ vs,¬ Zgf s.heap a vs):Eff [a] s { s with heap:=h',toks:=t }:=
 ⟨λ b o nb e=>hs b o (by simpa using nb) e,.of_but (λ b o nb e=>hs b o nb e) n,rfl,.refl _⟩
theorem St.lose {s s':Shared} {R:Led} (S:St C σ (O++R) s) (x:Eff (R.map (·.1)) s s'):St C σ O s':=by
 have n:=S.ond
 rw [List.map_append,List.nodup_append] at n
 have:=S.called (U:=R) (U':=[]) (R:=O) (λ p hp=>List.mem_append_right _ hp) (λ p hp=>⟨List.mem_append_left _ hp,λ q=>n.2.2 _ (Zat hp) _ q rfl⟩) n.1 x (λ _ h=>nomatch h) .nil (λ _ h=>nomatch h)
 exact this
noncomputable def Zij:Expr→Bool
 | .Name ..=>true
 | .Tuple ..=>true
 | _=>false
theorem Src.list {target:Expr} {it l:Addr} {ds:List D} (ht:Zij target=true):Src C target (.ref it) (λ i=>[(it,.fields "list_iterator" #[.ref l,.int i 0])]) (λ O=>(l,.list ds)∈O) ds where
 self:=λ {i σ O s} need S {Q} hQ=>wpAny_pyIter_listiter (Zbw (S.objs (it,_) (List.mem_append_right _ List.mem_cons_self))) hQ
 item:=λ {i d} hd {σ O s} need S {Q} hQ=>by
  refine E12 (Zae (S.objs _ (List.mem_append_left _ need))) λ items hl hv=>?_
  have hit:=Zbw (S.objs (it,_) (List.mem_append_right _ List.mem_cons_self))
  refine E12 (hv.get hd) λ v e hvd=>?_
  have mem:(it,Sh.fields "list_iterator" #[.ref l,.int i 0])∈O++[(it,Sh.fields "list_iterator" #[.ref l,.int i 0])]:=List.mem_append_right _ List.mem_cons_self
  refine wpAny_pyNext_list_item hit hl (x:=v) (by simpa using e) λ h' hit' hs=>?_
  have x:Eff [it] s { s with heap:=h' }:=.but hs λ vs=>ShAt.noTup (S.objs _ mem) vs
  have S':St C σ (O++[(it,.fields "list_iterator" #[.ref l,.int (i+1:Nat) 0])]) { s with heap:=h' }:=S.put (OPut.app .z O) x (Zjk hit')
  have fin:=hQ v _ x.tk S' (hvd.tk x.tk)
  cases target with
  | Name _ _=>exact wpAny_pure (a:=()) fin
  | Tuple elts k p=>
   cases v with
   | ref T=>exact wpAny_letOwnedTupleGo_listiter hit' fin
   | _=>exact wpAny_pure (a:=()) fin
  | _=>cases ht
 done:=λ {σ O s} need S {Q} hQ=>by
  refine E12 (Zae (S.objs _ (List.mem_append_left _ need))) λ items hl hv=>?_
  have mem:(it,Sh.fields "list_iterator" #[.ref l,.int ds.length 0])∈O++[(it,Sh.fields "list_iterator" #[.ref l,.int ds.length 0])]:=List.mem_append_right _ List.mem_cons_self
  have hit:=Zbw (S.objs (it,_) mem)
  refine wpAny_pyNext_list_end C.room.handled hit hl (by have:=hv.length; simp at this; simp [← this]) λ h' hk=>?_
  exact hQ _ (Eff.ofExtBut (t:=s.toks) hk λ vs=>ShAt.noTup (S.objs _ mem) vs).tk (S.lose (Eff.ofExtBut (t:=s.toks) hk λ vs=>ShAt.noTup (S.objs _ mem) vs))
theorem Iter.list {iter target:Expr} {l:Addr} {ds:List D} (he:EvX C σ O iter λ d O''=>d = .ref l∧O''=O') (hm:(l,.list ds)∈O') (ht:autoParam (Zij target=true) tR) :
  Iter C σ O iter target O' (λ O=>(l,.list ds)∈O) ds:=λ s S Q hQ=>by
 refine he s S _ λ v s₁ d O'' p t₁ S₁ hv=>?_
 refine E02 p λ Y1 Y2=>?_
 try clear p
 subst Y1
 subst Y2
 have hh:v = .ref l:=hv; subst hh
 refine E12 (Zae (S₁.objs _ hm)) λ items hl hv=>?_
 refine wpAny_pyIter_list hl ?_
 have x:Eff [] s₁ { s₁ with heap:=s₁.heap.push { cls:=.type "list_iterator",data:=.fields #[.ref l,.int 0 0] } }:=Eff.push _
 refine hQ _ _ _ (t₁.trans x.tk) (λ _=>Src.list (l:=l) ht) ?_
 have S':=S₁.new (a:=s₁.heap.objs.size) (sh:=.fields "list_iterator" #[.ref l,.int 0 0]) x (Nat.le_refl _) ⟨_,Heap.get?_push_size _ rfl,rfl,rfl⟩
 refine S'.sub (λ p hp=>?_) ?_
 ·rcases List.mem_append.mp hp with hp | hp
  ·exact List.mem_cons_of_mem _ hp
  ·rw [List.mem_singleton.mp hp]; exact List.mem_cons_self
 ·have n:=S'.ond
  rw [List.map_cons,List.nodup_cons] at n
  rw [List.map_append,List.nodup_append]
  refine ⟨n.2,by simp,λ a ha b hb e=>n.1 ?_⟩
  have:b=s₁.heap.objs.size:=by simpa using hb
  rw [← this,← e]; exact ha
theorem IterX.list {iter target:Expr} {P:Addr→List D→Led→Prop} (he:EvX C σ O iter λ d O'=>∃ l ds,d = .ref l∧(l,.list ds)∈O'∧P l ds O') (ht:autoParam (Zij target=true) tR) :
  IterX C σ O iter target λ O' N es=>∃ l ds,P l ds O'∧N=(λ O=>(l,.list ds)∈O)∧es=ds:=λ s S Q hQ=>by
 refine he s S _ λ v s₁ d O'' p t₁ S₁ hv=>?_
 refine E23 p λ l ds Y1 hm hP=>?_
 try clear p
 subst Y1
 have hh:v = .ref l:=hv; subst hh
 refine E12 (Zae (S₁.objs _ hm)) λ items hl hv=>?_
 refine wpAny_pyIter_list hl ?_
 have x:Eff [] s₁ { s₁ with heap:=s₁.heap.push { cls:=.type "list_iterator",data:=.fields #[.ref l,.int 0 0] } }:=Eff.push _
 refine hQ _ _ _ _ _ _ ⟨l,ds,hP,rfl,rfl⟩ (t₁.trans x.tk) (λ _=>Src.list (l:=l) ht) ?_
 have S':=S₁.new (a:=s₁.heap.objs.size) (sh:=.fields "list_iterator" #[.ref l,.int 0 0]) x (Nat.le_refl _) ⟨_,Heap.get?_push_size _ rfl,rfl,rfl⟩
 refine S'.sub (λ p hp=>?_) ?_
 ·rcases List.mem_append.mp hp with hp | hp
  ·exact List.mem_cons_of_mem _ hp
  ·rw [List.mem_singleton.mp hp]; exact List.mem_cons_self
 ·have n:=S'.ond
  rw [List.map_cons,List.nodup_cons] at n
  rw [List.map_append,List.nodup_append]
  refine ⟨n.2,by simp,λ a ha b hb e=>n.1 ?_⟩
  have:b=s₁.heap.objs.size:=by simpa using hb
  rw [← this,← e]; exact ha
theorem Zhf {α : Type} {a : α} {l:List α} {b : α}:a∈l++[a,b]:=List.mem_append_right _ List.mem_cons_self
theorem Zhe {α : Type} {a : α} {l:List α} {b : α}:b∈l++[a,b]:=List.mem_append_right _ (List.mem_cons_of_mem _ List.mem_cons_self)
noncomputable def enumObj (it:Addr) (i:Nat) (old:Value):Obj:={ cls:=.type "enumerate",dict:=none,data:=.fields #[.none,.bool false,.ref it,.int i 0,.none,old],slots:=#[] }
noncomputable abbrev Sh.enum (it:Addr) (i:Nat):Sh:=.is λ o=>∃ old,o=enumObj it i old
theorem enumNo {it:Addr} {i:Nat} {old:Value}:NoTup (enumObj it i old):=.inr λ vs n q=>by cases q
theorem Eff.but2 {s:Shared} {h':Heap} {a b:Addr} {t:Nat} (k:∀ c o,c ≠ a→c ≠ b→s.heap.get? c=some o→h'.get? c=some o) (n:∀ vs,¬ Zgf s.heap a vs) (m:∀ vs,¬ Zgf s.heap b vs):Eff [a,b] s { s with heap:=h',toks:=t }:=by
 refine ⟨λ c o nc e=>?_,λ c vs x=>?_,rfl,.refl _⟩
 ·simp only [List.mem_cons,List.not_mem_nil,or_false,not_or] at nc
  exact k c o nc.1 nc.2 e
 ·by_cases h1:c=a
  ·subst h1; exact absurd x (n vs)
  ·by_cases h2:c=b
   ·subst h2; exact absurd x (m vs)
   ·refine E22 x λ o j e r=>?_
    try clear x; exact ⟨o,j,k c o h1 h2 e,r⟩
theorem Src.enum {x y:Expr} {k:Nat} {p:Pos} {e it l:Addr} {ds:List D}:Src C (.Tuple [x,y] k p) (.ref e)
  (λ i=>[(e,.enum it i),(it,.fields "list_iterator" #[.ref l,.int i 0])]) (λ O=>(l,.list ds)∈O) (ds.zipIdx.map λ z=>.tup [.int z.2,z.1]) where
 self:=λ {i σ O s} need S {Q} hQ=>by
  refine E13 (S.objs _ Zhf) λ _ he Y1 _=>?_
  refine E11 Y1 λ old Y2=>?_
  clear Y1
  subst Y2
  exact wpAny_pyIter_enum he hQ
 item:=λ {i d} hd {σ O s} need S {Q} hQ=>by
  have nd:=S.ond
  rw [List.map_append,List.nodup_append] at nd
  have hne:e ≠ it:=by
   have:=nd.2.1
   simp at this; exact this
  refine E12 (Zae (S.objs _ (List.mem_append_left _ need))) λ items hl hv=>?_
  refine E13 (S.objs _ Zhf) λ _ he Y1 _=>?_
  refine E11 Y1 λ old Y2=>?_
  clear Y1
  subst Y2
  have hit:=Zbw (S.objs _ Zhe)
  obtain ⟨⟨d',j⟩,hz,rfl⟩:∃ z,ds.zipIdx[i]? = some z∧D.tup [.int z.2,z.1]=d:=by
   rw [List.getElem?_map] at hd
   cases q:ds.zipIdx[i]? with
   | none=>rw [q] at hd; cases hd
   | some z=>rw [q] at hd; exact ⟨z,rfl,Option.some.inj hd⟩
  rw [List.getElem?_zipIdx] at hz
  cases q:ds[i]? with
  | none=>rw [q] at hz; cases hz
  | some d''=>
   rw [q] at hz
   simp only [Option.map_some,Option.some.injEq,Prod.mk.injEq] at hz
   refine E02 hz λ Y1 Y2=>?_
   try clear hz
   subst Y1
   subst Y2
   refine E12 (hv.get q) λ v ev hvd=>?_
   have n1:=λ vs=>ShAt.noTup (S.objs _ (Zhf (l:=O))) vs
   have n2:=λ vs=>ShAt.noTup (S.objs _ (Zhe (l:=O))) vs
   refine wpAny_pyNext_enum_item (old:=old) he hit hl (x:=v) (by simpa using ev) hne λ h₁ heo hit₁ ht₁ hz₁ hk₁=>?_
   refine wpAny_letOwnedTupleGo_enum heo λ h₂ he₂ hs₂=>?_
   have hk:∀ c o,c ≠ e→c ≠ it→s.heap.get? c=some o→h₂.get? c=some o:=λ c o c1 c2 q=>(hs₂.2 c c1).trans (hk₁ c o c1 c2 q)
   have E2:Eff [e,it] s { s with heap:=h₂,toks:=s.toks+1 }:=.but2 hk n1 n2
   have S':=S.called (U:=[(e,Sh.enum it i),(it,.fields "list_iterator" #[.ref l,.int i 0])]) (U':=[(e,.enum it (i+1)),(it,.fields "list_iterator" #[.ref l,.int (i+1:Nat) 0])]) (R:=O)
    (λ p hp=>List.mem_append_right _ hp) (λ p hp=>⟨List.mem_append_left _ hp,λ z=>nd.2.2 _ (Zat hp) _ z rfl⟩) nd.1 E2 (λ p hp=>?_) nd.2.1 (λ p hp=>.inl ?_)
   ·refine hQ _ _ E2.tk (S'.sub (λ p hp=>?_) ?_) ?_
    ·rcases List.mem_append.mp hp with hp | hp
     ·exact List.mem_append_right _ hp
     ·exact List.mem_append_left _ hp
    ·rw [List.map_append,List.nodup_append]; exact ⟨nd.1,nd.2.1,nd.2.2⟩
    ·refine ⟨_,[.int i s.toks,v],rfl,⟨_,0,(hs₂.2 _ (Nat.ne_of_gt (Heap.lt_size he))).trans ht₁,rfl,rfl⟩,_,_,rfl,⟨s.toks,by simp⟩,_,_,rfl,hvd.tk E2.tk,?_⟩
     rfl
   ·rcases List.mem_cons.mp hp with rfl | hp
    ·exact ⟨_,he₂,⟨v,rfl⟩,enumNo⟩
    ·rw [List.mem_singleton.mp hp]
     refine E12 hit₁ λ o q r=>?_
     try clear hit₁
     exact ⟨o,(hs₂.2 _ (Ne.symm hne)).trans q,r⟩
   ·rcases List.mem_cons.mp hp with rfl | hp
    ·exact List.mem_cons_self
    ·rw [List.mem_singleton.mp hp]; exact List.mem_cons_of_mem _ List.mem_cons_self
 done:=λ {σ O s} need S {Q} hQ=>by
  rw [List.length_map,List.length_zipIdx] at S
  have nd:=S.ond
  rw [List.map_append,List.nodup_append] at nd
  refine E12 (Zae (S.objs _ (List.mem_append_left _ need))) λ items hl hv=>?_
  refine E13 (S.objs _ Zhf) λ _ he Y1 _=>?_
  refine E11 Y1 λ old Y2=>?_
  clear Y1
  subst Y2
  have hit:=Zbw (S.objs _ Zhe)
  have n2:=λ vs=>ShAt.noTup (S.objs _ (Zhe (l:=O))) vs
  refine wpAny_pyNext_enum_end C.room.handled (old:=old) he hit hl (by have:=hv.length; simp at this; simp [← this]) λ h' hk=>?_
  have x:=(Eff.ofExtBut (t:=s.toks) hk n2).mono (W':=[e,it]) λ p hp=>by rw [List.mem_singleton.mp hp]; exact List.mem_cons_of_mem _ List.mem_cons_self
  exact hQ _ x.tk (S.lose x)
theorem Ev.glob {x:Str} {pos:Pos} {v:Value} {d:D} (hx:C.env.kindOf x=some .globalImplicit) (hv:B.mg x=some v) (h:∀ hp,B.G hp→Val hp v d) (hd:autoParam ((x==("__debug__" : Str))=false) tE):Ev C σ O (.Name x pos) d:=λ s S Q hQ=>
 Name_function_global C.kind hx (loadGlobal_global (by rw [C.gl]; exact B.hg _ S.top) hv (hQ _ _ (.refl _) S (h _ S.top))) hd
theorem Ev.bltn {x:Str} {pos:Pos} {v:Value} (hx:C.env.kindOf x=some .globalImplicit) (hn:B.mg x=Option.none) (hv:B.mb x=some v) (hd:autoParam ((x==("__debug__" : Str))=false) tE):Ev C σ O (.Name x pos) (.val v):=λ s S Q hQ=>
 Name_function_global C.kind hx (loadGlobal_builtin (by rw [C.gl]; exact B.hg _ S.top) hn (by rw [C.bl]; exact B.hb _ S.top) hv (hQ _ _ (.refl _) S rfl)) hd
theorem Zbz {es:List Expr} {env:Env} {pos:Pos} (h:Zac es=true):(backTo pos (starEach es env)).any (·.1)=false:=by
 induction es with
 | nil=>rfl
 | cons e r ih=>
  refine E02 (Zaa (env:=env) h) λ h1 h2=>?_
  rw [h1]
  show (false || _)=false
  rw [Bool.false_or]; exact ih h2
theorem EvX.callType {fe:Expr} {T:String} {e:Expr} {es:List Expr} {pos:Pos} {ds:List D} {P:D→Led→Prop} (hf:Ev C σ O fe (.val (.type T))) (ha:EvL C σ O (e::es) ds)
  (hc:∀ s vs,St C σ O s→Vals s.heap vs ds→∀ Q:Value→Shared→Prop,(∀ v s' d O',P d O'→Tk s.heap s'.heap→St C σ O' s'→Val s'.heap v d→Q v s')→C.wp (PySem.call (.type T) vs []) Q s)
  (hs:autoParam (Zac (e::es)=true) tR)
  (he:autoParam (eval (.Call fe (e::es) [] pos) C.env=(do callWith pos (← eval fe C.env) [] (backTo pos (starEach (e::es) C.env)) (backToKw pos (keywordEach [] C.env)))) tR) :
  EvX C σ O (.Call fe (e::es) [] pos) P:=λ s S Q hQ=>by
 refine Call_ (hf s S _ λ v s₁ t₁ S₁ hv=>?_) he
 have hh:v = .type T:=hv; subst hh
 refine callWith_type1 (ha.args hs s₁ S₁ _ λ vs s₂ t₂ S₂ hvs=>hc s₂ vs S₂ hvs Q λ v s₃ d O' p t₃=>hQ v s₃ d O' p ((t₁.trans t₂).trans t₃)) (Zaa hs).1 (Zbz (Zaa (env:=C.env) hs).2)
theorem EvX.callB {fe:Expr} {id:String} {e:Expr} {es:List Expr} {pos:Pos} {ds:List D} {P:D→Led→Prop} (hf:Ev C σ O fe (.val (.builtin id))) (ha:EvL C σ O (e::es) ds)
  (hc:∀ s vs,St C σ O s→Vals s.heap vs ds→∀ Q:Value→Shared→Prop,(∀ v s' d O',P d O'→Tk s.heap s'.heap→St C σ O' s'→Val s'.heap v d→Q v s')→C.wp (PySem.call (.builtin id) vs []) Q s)
  (hs:autoParam (Zac (e::es)=true) tR)
  (he:autoParam (eval (.Call fe (e::es) [] pos) C.env=(do callWith pos (← eval fe C.env) [] (backTo pos (starEach (e::es) C.env)) (backToKw pos (keywordEach [] C.env)))) tR) :
  EvX C σ O (.Call fe (e::es) [] pos) P:=λ s S Q hQ=>by
 refine Call_ (hf s S _ λ v s₁ t₁ S₁ hv=>?_) he
 have hh:v = .builtin id:=hv; subst hh
 refine callWith_builtin1 (ha.args hs s₁ S₁ _ λ vs s₂ t₂ S₂ hvs=>hc s₂ vs S₂ hvs Q λ v s₃ d O' p t₃=>hQ v s₃ d O' p ((t₁.trans t₂).trans t₃)) (Zaa hs).1 (Zbz (Zaa (env:=C.env) hs).2)
theorem IterX.enum {fe e x y:Expr} {pos p:Pos} {k:Nat} {P:Addr→List D→Led→Prop} (hf:Ev C σ O fe (.val (.type "enumerate"))) (he:EvX C σ O e λ d O'=>∃ l ds,d = .ref l∧(l,.list ds)∈O'∧P l ds O') (hs:autoParam (Zac [e]=true) tR)
  (hc:autoParam (eval (.Call fe [e] [] pos) C.env=(do callWith pos (← eval fe C.env) [] (backTo pos (starEach [e] C.env)) (backToKw pos (keywordEach [] C.env)))) tR) :
  IterX C σ O (.Call fe [e] [] pos) (.Tuple [x,y] k p) λ O' N es=>∃ l ds,P l ds O'∧N=(λ O=>(l,.list ds)∈O)∧es=(ds.zipIdx.map λ z=>.tup [.int z.2,z.1]):=λ s S Q hQ=>by
 refine Call_ (hf s S _ λ v s₁ t₁ S₁ hv=>?_) hc
 have hh:v = .type "enumerate" := hv; subst hh
 refine callWith_type1 ?_ (Zaa hs).1 (by rfl)
 rw [(Zaa (env:=C.env) hs).1]
 refine spliced_cons (he s₁ S₁ _ λ v s₂ d O'' p t₂ S₂ hv=>spliced_nil ?_)
 refine E23 p λ l ds Y1 hm hP=>?_
 try clear p
 subst Y1
 have hh:v = .ref l:=hv; subst hh
 refine E12 (Zae (S₂.objs _ hm)) λ items hl hv=>?_
 refine call_enumerate_list hl λ h' he hit hz hk=>?_
 refine wpAny_pyIter_enum he ?_
 have X:Eff [] s₂ { s₂ with heap:=h' }:=.ext hk
 refine hQ _ _ _ _ _ _ ⟨l,ds,hP,rfl,rfl⟩ ((t₁.trans t₂).trans X.tk) (λ _=>Src.enum (it:=s₂.heap.objs.size) (l:=l)) ?_
 have S₃:=S₂.called (U:=[]) (U':=[(s₂.heap.objs.size+1,Sh.enum s₂.heap.objs.size 0),(s₂.heap.objs.size,.fields "list_iterator" #[.ref l,.int (0:Nat) 0])]) (R:=O'') (λ _ h=>nomatch h) (λ p hp=>⟨hp,λ z=>nomatch z⟩) S₂.ond X
  (λ p hp=>?_) (by simp) (λ p hp=>.inr ?_)
 ·refine S₃.sub (λ p hp=>?_) ?_
  ·rcases List.mem_append.mp hp with hp | hp
   ·exact List.mem_append_right _ hp
   ·exact List.mem_append_left _ hp
  ·have n:=S₃.ond
   rw [List.map_append,List.nodup_append] at n
   rw [List.map_append,List.nodup_append]
   exact ⟨n.2.1,n.1,λ a ha b hb e=>n.2.2 _ hb _ ha e.symm⟩
 ·rcases List.mem_cons.mp hp with rfl | hp
  ·exact ⟨_,he,⟨.none,rfl⟩,enumNo⟩
  ·rw [List.mem_singleton.mp hp]; exact Zjk hit
 ·rcases List.mem_cons.mp hp with rfl | hp
  ·exact Nat.le_succ _
  ·rw [List.mem_singleton.mp hp]; exact Nat.le_refl _
noncomputable def rngObj (x left step:Int):Obj:={ cls:=.type "range_iterator",dict:=none,data:=.fields #[rawInt x,rawInt left,rawInt step],slots:=#[] }
theorem rngNo {x left step:Int}:NoTup (rngObj x left step):=.inr λ vs n q=>by cases q
noncomputable abbrev Sh.rng (x left step:Int):Sh:=.is λ o=>o=rngObj x left step
noncomputable def rng (a c:Int) (n:Nat):List D:=(List.range n).map λ (i:Nat)=>D.int (a+(i:Int) * c)
theorem Zbp {a c:Int} {n:Nat}:(rng a c n).length=n:=by simp [rng]
theorem Zdl {a c:Int} {n i:Nat} {d:D} (h:(rng a c n)[i]? = some d):i < n∧d = .int (a+(i:Int) * c):=by
 unfold rng at h
 rw [List.getElem?_map] at h
 by_cases hi:i < n
 ·rw [List.getElem?_range hi] at h
  exact ⟨hi,(Option.some.inj h).symm⟩
 ·rw [List.getElem?_eq_none (by simp; exact Wn [_,_] (.v 0) (.v 1) [(1,.v 0,.v 1)] rfl (Wg hi))] at h; cases h
theorem Src.range {x:Str} {p:Pos} {it:Addr} {a c:Int} {n:Nat}:Src C (.Name x p) (.ref it) (λ i=>[(it,.rng (a+(i:Int) * c) ((n:Int) - i) c)]) (λ _=>True) (rng a c n) where
 self:=λ {i σ O s} need S {Q} hQ=>by
  refine E13 (S.objs (it,Sh.rng (a+(i:Int) * c) ((n:Int) - i) c) (List.mem_append_right _ List.mem_cons_self)) λ _ e Y1 _=>?_
  subst Y1
  exact wpAny_pyIter_rangeiter e hQ
 item:=λ {i d} hd {σ O s} need S {Q} hQ=>by
  refine E02 (Zdl hd) λ hi Y1=>?_
  subst Y1
  have mem:(it,Sh.rng (a+(i:Int) * c) ((n:Int) - i) c)∈O++[(it,Sh.rng (a+(i:Int) * c) ((n:Int) - i) c)]:=List.mem_append_right _ List.mem_cons_self
  refine E13 (S.objs _ mem) λ _ e Y1 _=>?_
  subst Y1
  refine wpAny_pyNext_range_item e (by lia) λ h' hit' hs=>?_
  have X:Eff [it] s { s with heap:=h',toks:=s.toks+1 }:=.but hs λ vs=>ShAt.noTup (S.objs _ mem) vs
  refine wpAny_pure (a:=()) (hQ _ _ X.tk (S.put (OPut.app .z O) X ⟨_,hit',?_,rngNo⟩) ⟨_,rfl⟩)
  show rngObj _ _ _=rngObj _ _ _
  congr 1
  ·rw [Int.natCast_add,Int.add_mul]; simp; lia
  ·lia
 done:=λ {σ O s} need S {Q} hQ=>by
  rw [Zbp] at S
  have mem:(it,Sh.rng (a+(n:Int) * c) ((n:Int) - n) c)∈O++[(it,Sh.rng (a+(n:Int) * c) ((n:Int) - n) c)]:=List.mem_append_right _ List.mem_cons_self
  refine E13 (S.objs _ mem) λ _ e Y1 _=>?_
  subst Y1
  refine wpAny_pyNext_range_end C.room.handled e (by lia) λ h' hk=>?_
  have X:=Eff.ofExtBut (t:=s.toks) hk λ vs=>ShAt.noTup (S.objs _ mem) vs
  exact hQ _ X.tk (S.lose X)
theorem Iter.rangeOf {fe:Expr} {e:Expr} {es:List Expr} {x:Str} {p pos:Pos} {ds:List D} {a b c:Int} {n:Nat} (hf:Ev C σ O fe (.val (.type "range"))) (ha:EvL C σ O (e::es) ds) (hsz:Builtin.Range.rangeSize a b c=n) (hsm:Builtin.Range.small a b c=true)
  (hmk:∀ s vs,St C σ O s→Vals s.heap vs ds→∀ Q:Value→Shared→Prop,(∀ h' t u v tk,IsRange h' s.heap.objs.size a b c t u v→(∀ b o,s.heap.get? b=some o→h'.get? b=some o)→Q (.ref s.heap.objs.size) { s with heap:=h',toks:=tk })→C.wp (PySem.call (.type "range") vs []) Q s)
  (hs:autoParam (Zac (e::es)=true) tR)
  (hc:autoParam (eval (.Call fe (e::es) [] pos) C.env=(do callWith pos (← eval fe C.env) [] (backTo pos (starEach (e::es) C.env)) (backToKw pos (keywordEach [] C.env)))) tR) :
  Iter C σ O (.Call fe (e::es) [] pos) (.Name x p) O (λ _=>True) (rng a c n):=λ s S Q hQ=>by
 refine Call_ (hf s S _ λ v s₁ t₁ S₁ hv=>?_) hc
 have hh:v = .type "range" := hv; subst hh
 refine callWith_type1 (ha.args hs s₁ S₁ _ λ vs s₂ t₂ S₂ hvs=>hmk s₂ vs S₂ hvs _ λ h' t u v tk hr hk=>?_) (Zaa hs).1 (Zbz (Zaa (env:=C.env) hs).2)
 have S₃:=S₂.ext (Eff.ext (t:=tk) hk)
 refine wpAny_pyIter_range hr hsm ?_
 rw [hsz]
 have X:Eff [] ({ s₂ with heap:=h',toks:=tk }:Shared) { s₂ with heap:=h'.push { cls:=.type "range_iterator",data:=.fields #[rawInt a,rawInt n,rawInt c] },toks:=tk }:=Eff.push _
 refine hQ _ _ _ (((t₁.trans t₂).trans (Tk.of_keep hk)).trans X.tk) (λ _=>Src.range (a:=a) (c:=c) (n:=n)) ?_
 have S₄:=S₃.new (a:=h'.objs.size) (sh:=.rng (a+((0:Nat):Int) * c) ((n:Int) - ((0:Nat):Int)) c) X (Nat.le_refl _) ⟨_,Heap.get?_push_size _ rfl,by simp [rngObj],.inr λ vs n q=>by cases q⟩
 refine S₄.sub (λ p hp=>?_) ?_
 ·rcases List.mem_append.mp hp with hp | hp
  ·exact List.mem_cons_of_mem _ hp
  ·rw [List.mem_singleton.mp hp]; exact List.mem_cons_self
 ·have n:=S₄.ond
  rw [List.map_cons,List.nodup_cons] at n
  rw [List.map_append,List.nodup_append]
  refine ⟨n.2,by simp,λ a ha b hb e=>n.1 ?_⟩
  have:b=h'.objs.size:=by simpa using hb
  rw [← this,← e]; exact ha
theorem Iter.range1 {fe e:Expr} {x:Str} {p pos:Pos} {b:Int} {n:Nat} (hf:Ev C σ O fe (.val (.type "range"))) (ha:Ev C σ O e (.int b)) (hsz:Builtin.Range.rangeSize 0 b 1=n) (hsm:Builtin.Range.small 0 b 1=true) (hs:autoParam (Zac [e]=true) tR)
  (hc:autoParam (eval (.Call fe [e] [] pos) C.env=(do callWith pos (← eval fe C.env) [] (backTo pos (starEach [e] C.env)) (backToKw pos (keywordEach [] C.env)))) tR):Iter C σ O (.Call fe [e] [] pos) (.Name x p) O (λ _=>True) (rng 0 1 n):=
 .rangeOf hf (.cons ha .nil) hsz hsm (by
  intro s vs S hq0 Q h
  refine E12 (Vals.one hq0) λ v e1 Y1=>?_
  refine E11 Y1 λ t e2=>?_
  clear Y1
  subst e2; subst e1
  exact call_range_1 (h _ _ _ _ _ (IsRange.new ..) λ _ _ e=>Heap.get?_push_of_some _ e)) hs hc
theorem Iter.range2 {fe e₁ e₂:Expr} {x:Str} {p pos:Pos} {a b:Int} {n:Nat} (hf:Ev C σ O fe (.val (.type "range"))) (ha:Ev C σ O e₁ (.int a)) (hb:Ev C σ O e₂ (.int b)) (hsz:Builtin.Range.rangeSize a b 1=n) (hsm:Builtin.Range.small a b 1=true) (hs:autoParam (Zac [e₁,e₂]=true) tR)
  (hc:autoParam (eval (.Call fe [e₁,e₂] [] pos) C.env=(do callWith pos (← eval fe C.env) [] (backTo pos (starEach [e₁,e₂] C.env)) (backToKw pos (keywordEach [] C.env)))) tR):Iter C σ O (.Call fe [e₁,e₂] [] pos) (.Name x p) O (λ _=>True) (rng a 1 n):=
 .rangeOf hf (.cons ha (.cons hb .nil)) hsz hsm (by
  intro s vs S hq0 Q h
  refine E23 (Vals.two hq0) λ v v' e1 Y1 Y2=>?_
  refine E11 Y1 λ t e2=>?_
  clear Y1
  refine E11 Y2 λ t' e4=>?_
  clear Y2
  subst e2; subst e4; subst e1
  exact call_range_2 (h _ _ _ _ _ (IsRange.new ..) λ _ _ e=>Heap.get?_push_of_some _ e)) hs hc
theorem Iter.range3 {fe e₁ e₂ e₃:Expr} {x:Str} {p pos:Pos} {a b c:Int} {n:Nat} (hf:Ev C σ O fe (.val (.type "range"))) (ha:Ev C σ O e₁ (.int a)) (hb:Ev C σ O e₂ (.int b)) (hcc:Ev C σ O e₃ (.int c)) (h0:c ≠ 0) (hsz:Builtin.Range.rangeSize a b c=n) (hsm:Builtin.Range.small a b c=true) (hp:Builtin.divisionGoesByPylong (b - a) c=false) (hs:autoParam (Zac [e₁,e₂,e₃]=true) tR)
  (hc:autoParam (eval (.Call fe [e₁,e₂,e₃] [] pos) C.env=(do callWith pos (← eval fe C.env) [] (backTo pos (starEach [e₁,e₂,e₃] C.env)) (backToKw pos (keywordEach [] C.env)))) tR):Iter C σ O (.Call fe [e₁,e₂,e₃] [] pos) (.Name x p) O (λ _=>True) (rng a c n):=
 .rangeOf hf (.cons ha (.cons hb (.cons hcc .nil))) hsz hsm (by
  intro s vs S hq0 Q h
  refine E23 hq0 λ v r e1 Y1 Y2=>?_
  try clear hq0
  refine E11 Y1 λ t e2=>?_
  clear Y1
  refine E23 Y2 λ v' r' e3 Y3 Y4=>?_
  clear Y2
  refine E11 Y3 λ t' e4=>?_
  clear Y3
  refine E23 Y4 λ v'' r'' e5 Y5 e7=>?_
  clear Y4
  refine E11 Y5 λ t'' e6=>?_
  clear Y5
  have hh:r''=[]:=e7; subst hh
  subst e2; subst e4; subst e6; subst e5; subst e3; subst e1
  exact call_range_3 h0 (h _ _ _ _ _ (IsRange.new ..) λ _ _ e=>Heap.get?_push_of_some _ e) (.inl hp)) hs hc
theorem Ev.subs {ve ie:Expr} {pos:Pos} {dv di d:D} {T id:String} (hv:Ev C σ O ve dv) (hi:Ev C σ O ie di) (hl:typeLookup (.type T) "__getitem__" = pure (some (.builtin id)))
  (hT:∀ s v,St C σ O s→Val s.heap v dv→s.TypeIs v T)
  (h:∀ s v i,St C σ O s→Val s.heap v dv→Val s.heap i di→∀ Q,Res C σ O d s Q→C.wp (getItem v i) Q s)
  (hs:autoParam (∀ o i,subscripted ie false o i=operate [o,i] (getItem o i)) tJ):Ev C σ O (.Subscript ve ie pos) d:=λ s S Q hQ=>by
 refine Subscript_ (hv s S _ λ v s₁ t₁ S₁ hv₁=>hi s₁ S₁ _ λ i s₂ t₂ S₂ hi₂=>?_)
 exact tail_any (hT s₂ v S₂ (hv₁.tk t₂)) hl (h s₂ v i S₂ (hv₁.tk t₂) hi₂ Q λ r s₃ t₃=>hQ r s₃ ((t₁.trans t₂).trans t₃)) (hs v i)
noncomputable def plc (k:Int) (n:Nat):Nat:=if k < 0 then (k+n).toNat else k.toNat
theorem Vals.sizeA {h:Heap} {items:Array Value} {ds:List D} (x:Vals h items.toList ds):items.size=ds.length:=by have:=x.length; simpa using this
theorem Zfa {s:Shared} {l:Addr} {items:Array Value} {ds:List D} {k:Int} {t:Tok} {d:D} {Q:Value→Shared→Prop} {A:Around} {E:Value→Shared→Prop} (hl:s.heap.IsList l items) (hv:Vals s.heap items.toList ds) (h1 : -(ds.length:Int)≤k) (h2:k < 2 ^ 63) (h3 : -(2 ^ 63)≤k)
  (hd:ds[plc k ds.length]? = some d) (h:∀ v,Val s.heap v d→Q v s):wpAny (model B.prog B.w) A (getItem (.ref l) (.int k t)) Q E s:=by
 have hsz:=hv.sizeA
 refine E12 (hv.get hd) λ v e hvd=>?_
 unfold plc at e
 by_cases h0:k < 0
 ·rw [if_pos h0] at e
  exact wpAny_getItem_list_neg hl h0 (by lia) h3 (x:=v) (by rw [hsz]; simpa using e) (h v hvd)
 ·rw [if_neg h0] at e
  exact wpAny_getItem_list hl (by lia) h2 (x:=v) (by simpa using e) (h v hvd)
theorem Ev.item {ve ie:Expr} {pos:Pos} {l:Addr} {ds:List D} {k:Int} {d:D} (hv:Ev C σ O ve (.ref l)) (hi:Ev C σ O ie (.int k)) (ha:OAt O l (.list ds)) (hd:ds[plc k ds.length]? = some d)
  (h1 : -(ds.length:Int)≤k:=by first | omega | (simp; done)) (h2:autoParam (k < 2 ^ 63) tF) (h3:autoParam (-(2 ^ 63)≤k) tF)
  (hs:autoParam (∀ o i,subscripted ie false o i=operate [o,i] (getItem o i)) tJ):Ev C σ O (.Subscript ve ie pos) d:=
 .subs (T := "list") hv hi slot_list_getitem.lookup (λ s v S e=>by have hh:v = .ref l:=e; subst hh; refine E12 (Zae (S.objs _ ha.mem)) λ items x _=>?_; exact x.typeIs)
  (by
   intro s v i S e hq0 Q hQ
   refine E11 hq0 λ t ei=>?_
   try clear hq0
   have hh:v = .ref l:=e; subst hh
   subst ei
   refine E12 (Zae (S.objs _ ha.mem)) λ items x hv=>?_
   exact Zfa x hv h1 h2 h3 hd λ v hvd=>hQ v s (.refl _) S hvd) hs
theorem Ev.itemTup {ve ie:Expr} {pos:Pos} {ds:List D} {k:Int} {d:D} (hv:Ev C σ O ve (.tup ds)) (hi:Ev C σ O ie (.int k)) (h0:0≤k) (hd:ds[k.toNat]? = some d) (h2:autoParam (k < 2 ^ 63) tF)
  (hs:autoParam (∀ o i,subscripted ie false o i=operate [o,i] (getItem o i)) tJ):Ev C σ O (.Subscript ve ie pos) d:=
 .subs (T := "tuple") hv hi slot_tuple_getitem.lookup (by intro s v S hq0; refine E23 hq0 λ a vs e Y1 _=>?_; try clear hq0; refine E23 Y1 λ o n ho hc _=>?_; clear Y1; subst e; exact ⟨o,ho,hc⟩)
  (by
   intro s v i S hq0 hq1 Q hQ
   refine E23 hq0 λ a vs e Y1 x=>?_
   try clear hq0
   refine E23 Y1 λ o n ho hc hd'=>?_
   clear Y1
   refine E11 hq1 λ t ei=>?_
   try clear hq1
   subst e; subst ei
   refine E12 (x.get hd) λ v e hvd=>?_
   have hlt:k.toNat < vs.length:=(List.getElem?_eq_some_iff.mp e).1
   refine PyProof.Rows.getItem_tuple (items:=vs.toArray) (j:=k.toNat) ⟨o,ho,hc,n,hd'⟩ (by lia) h2 (seqIndex_of h0 (by simp; lia)) (x:=v) (by simpa using e) (hQ v s (.refl _) S hvd)) hs
theorem Ev.itemStr {ve ie:Expr} {pos:Pos} {x:Str} {k:Int} {c:Nat} (hv:Ev C σ O ve (.str x)) (hi:Ev C σ O ie (.int k)) (h0:0≤k) (hd:x.cps[k.toNat]? = some c) (h2:autoParam (k < 2 ^ 63) tF)
  (hs:autoParam (∀ o i,subscripted ie false o i=operate [o,i] (getItem o i)) tJ):Ev C σ O (.Subscript ve ie pos) (.str ⟨#[c]⟩):=
 .subs (T := "str") hv hi F.slot_str_getitem.lookup (by intro s v S hq0; refine E11 hq0 λ t e=>?_; try clear hq0; subst e; exact typeIs_str s x t)
  (by
   intro s v i S hq0 hq1 Q hQ
   refine E11 hq0 λ t e=>?_
   try clear hq0
   refine E11 hq1 λ t' ei=>?_
   try clear hq1
   subst e; subst ei
   have hlt:k.toNat < x.cps.size:=(Array.getElem?_eq_some_iff.mp hd).1
   refine getItem_str (c:=c) (by simp; lia) ?_ (hQ _ _ (.refl _) S.tok ⟨_,rfl⟩)
   rw [seqIndex_of h0 (by show k < (x.cps.size:Int); lia)]
   exact hd) hs
theorem Zbh {f:Value} {es:List Expr} {pos:Pos} {M:Model} {A:Around} {env:Env} {E:Value→Shared→Prop} {s:Shared} {Q:Args→Shared→Prop} (hs:Zac es=true)
  (h:wpAny M A (spliced (backTo pos (starEach es env))) (λ vs s'=>Q ⟨vs,[]⟩ s') E s):wpAny M A (evalArgs f true (backTo pos (starEach es env)) []) Q E s:=by
 cases es with
 | nil=>
  unfold evalArgs
  show wpAny M A (spliced (backTo pos (starEach [] env)) >>= _) Q E s
  refine wpAny_bind (wpAny_mono h (λ vs s' h'=>?_) λ _ _ x=>x)
  refine wpAny_holding ?_
  exact wpAny_bind (wpAny_pure (wpAny_bind (wpAny_pure (wpAny_pure h'))))
 | cons e r=>
  rw [(Zaa (env:=env) hs).1] at h ⊢
  exact evalArgs_plain h
theorem EvX.meth {oe:Expr} {name:Str} {apos pos:Pos} {args:List Expr} {T id:String} {d₀:D} {ds:List D} {P:D→Led→Prop} (ho:Ev C σ O oe d₀)
  (hT:∀ s v,St C σ O s→Val s.heap v d₀→s.TypeIs v T∧∀ a,v = .ref a→∃ ob,s.heap.get? a=some ob∧ob.dict=none)
  (pa:PlainAttrs T) (slot:Slot T name id) (hty:typeOf (.builtin id)=pure (.type "method_descriptor")) (ha:EvL C σ O args ds)
  (hc:∀ s v vs,St C σ O s→Val s.heap v d₀→Vals s.heap vs ds→∀ Q:Value→Shared→Prop,(∀ v s' d O',P d O'→Tk s.heap s'.heap→St C σ O' s'→Val s'.heap v d→Q v s')→C.wp (PySem.call (.builtin id) (v::vs) []) Q s)
  (hline:autoParam ((apos.endLine==pos.line)=true) tR) (hs:autoParam (Zac args=true) tR)
  (hbase:autoParam (attributeBase oe name C.env (eval oe C.env)=eval oe C.env) tR)
  (hfew:autoParam (((backTo pos (starEach args C.env)).all (λ x=>!x.1)&&(backToKw pos (keywordEach [] C.env)).all (λ x=>x.1.isSome)
   && decide (args.length+([]:List Keyword).length+(if ([]:List Keyword).isEmpty then 0 else 1) < 30))=true) tR) :
  EvX C σ O (.Call (.Attribute oe name apos) args [] pos) P:=λ s S Q hQ=>by
 refine wpAny_Call_method hbase hfew hline pa slot hty (ho s S _ λ v s₁ t₁ S₁ hv=>?_)
 refine E02 (hT s₁ v S₁ hv) λ h1 h2=>?_
 refine ⟨h1,h2,callWith_builtin (Zbz hs) (Zbh hs (ha.args hs s₁ S₁ _ λ vs s₂ t₂ S₂ hvs=>?_))⟩
 exact hc s₂ v vs S₂ (hv.tk t₂) hvs Q λ v s₃ d O' p t₃=>hQ v s₃ d O' p ((t₁.trans t₂).trans t₃)
theorem lstT {s:Shared} {l:Addr} {ds:List D} {v:Value} (x:ShAt B s.heap l (.list ds)) (hv:Val s.heap v (.ref l)):s.TypeIs v "list" ∧ ∀ a,v = .ref a→∃ ob,s.heap.get? a=some ob∧ob.dict=none:=by
 have hh:v = .ref l:=hv; subst hh
 refine E12 x λ items Y1 _=>?_
 try clear x
 refine E11 Y1 λ n e=>?_
 clear Y1
 exact ⟨⟨_,e,rfl⟩,λ a q=>by cases q; exact ⟨_,e,rfl⟩⟩
theorem EvX.append {oe e:Expr} {apos pos:Pos} {l:Addr} {ds:List D} {d:D} (ho:Ev C σ O oe (.ref l)) (ha:OAt O l (.list ds)) (he:Ev C σ O e d) (hp:OPut O l (.list (ds++[d])) O') (hz:ds.length≤sizeLine)
  (hline:autoParam ((apos.endLine==pos.line)=true) tR) (hs:autoParam (Zac [e]=true) tR)
  (hbase:autoParam (attributeBase oe (Str.ofString "append") C.env (eval oe C.env)=eval oe C.env) tR)
  (hfew:autoParam (((backTo pos (starEach [e] C.env)).all (λ x=>!x.1)&&(backToKw pos (keywordEach [] C.env)).all (λ x=>x.1.isSome)
   && decide (([e]:List Expr).length+([]:List Keyword).length+(if ([]:List Keyword).isEmpty then 0 else 1) < 30))=true) tR) :
  EvX C σ O (.Call (.Attribute oe (Str.ofString "append") apos) [e] [] pos) λ d' O''=>d' = .none∧O''=O':=
 .meth (T := "list") ho (λ s v S hv=>lstT (S.objs _ ha.mem) hv) F.plainAttrs_list F.slot_list_append F.type_list_append (.cons he .nil) (by
  intro s v vs S hv hq0 Q hQ
  refine E12 (Vals.one hq0) λ u e1 hu=>?_
  have hh:v = .ref l:=hv; subst hh
  subst e1
  refine E12 (S.objs _ ha.mem) λ items Y1 hv=>?_
  refine E11 Y1 λ n e=>?_
  clear Y1
  have hsz:items.size=ds.length:=hv.sizeA
  refine call_meets F.slot_list_append ⟨_,e,rfl⟩ F.entry_list_append (F.args_list_append_2 _ _) (AutoListH.list_append_list_val_0 l items n u (by exact Wn [_,_] (.v 0) (.n 16777216) [(1,.v 0,.v 1),(1,.v 1,.n 16777216)] rfl (We hsz) hz)) ⟨e,?_⟩
  refine E02 (LstAt.upd (s:=s) (f:=λ xs=>xs.push u) (t:=s.toks) e) λ a x=>?_
  exact hQ .none _ _ _ ⟨rfl,rfl⟩ x.tk (S.put hp x ⟨_,a,by simpa using (hv.tk x.tk).snoc (hu.tk x.tk)⟩) rfl) hline hs hbase hfew
theorem erase_last {items:Array Value}:(items.eraseIdxIfInBounds (items.size - 1)).toList=items.toList.dropLast:=by
 rw [Array.eraseIdxIfInBounds_eq]
 split
 ·rename_i h
  rw [Array.toList_eraseIdx,List.dropLast_eq_take,List.eraseIdx_eq_take_drop_succ]
  have:items.size - 1+1=items.size:=by lia
  rw [this]; simp
 ·rename_i h
  have:items = #[]:=Array.eq_empty_of_size_eq_zero (by lia)
  subst this; rfl
theorem EvX.pop {oe:Expr} {apos pos:Pos} {l:Addr} {ds:List D} {d:D} (ho:Ev C σ O oe (.ref l)) (ha:OAt O l (.list ds)) (hd:ds[ds.length - 1]? = some d) (hp:OPut O l (.list ds.dropLast) O') (hz:ds.length≤sizeLine)
  (hline:autoParam ((apos.endLine==pos.line)=true) tR)
  (hbase:autoParam (attributeBase oe (Str.ofString "pop") C.env (eval oe C.env)=eval oe C.env) tR)
  (hfew:autoParam (((backTo pos (starEach [] C.env)).all (λ x=>!x.1)&&(backToKw pos (keywordEach [] C.env)).all (λ x=>x.1.isSome)
   && decide (([]:List Expr).length+([]:List Keyword).length+(if ([]:List Keyword).isEmpty then 0 else 1) < 30))=true) tR) :
  EvX C σ O (.Call (.Attribute oe (Str.ofString "pop") apos) [] [] pos) λ d' O''=>d'=d∧O''=O':=
 .meth (T := "list") ho (λ s v S hv=>lstT (S.objs _ ha.mem) hv) F.plainAttrs_list F.slot_list_pop F.type_list_pop .nil (λ s v vs S hv e2 Q hQ=>by
  have hh:v = .ref l:=hv; subst hh
  have hh:vs=[]:=e2; subst hh
  refine E12 (S.objs _ ha.mem) λ items Y1 hv=>?_
  refine E11 Y1 λ n e=>?_
  clear Y1
  have hsz:items.size=ds.length:=hv.sizeA
  refine E12 (hv.get hd) λ u eu hu=>?_
  refine call_meets F.slot_list_pop ⟨_,e,rfl⟩ F.entry_list_pop (F.args_list_pop_1 _) (PySem.MeetsSeq.list_pop_last l items n u (by rw [hsz]; simpa using eu) (by exact Wn [_,_] (.v 0) (.n 16777216) [(1,.v 0,.v 1),(1,.v 1,.n 16777216)] rfl (We hsz) hz)) ⟨e,?_⟩
  refine E02 (LstAt.upd (s:=s) (f:=λ xs=>xs.eraseIdxIfInBounds (items.size - 1)) (t:=s.toks) e) λ a x=>?_
  exact hQ u _ _ _ ⟨rfl,rfl⟩ x.tk (S.put hp x ⟨_,a,by rw [erase_last]; exact (hv.tk x.tk).dropLast⟩) (hu.tk x.tk)) hline rfl hbase hfew
noncomputable def D.quiet:D→Bool
 | .val (.ref _)=>false
 | .tup _=>false
 | _=>true
theorem Run.exprX {e:Expr} {pos:Pos} {rest:List Stmt} {P:D→Led→Prop} {K:Flow→Shared→Prop} (he:EvX C σ O e P) (h:∀ d O',P d O'→Run C σ O' rest K) (hn:∀ d O',P d O'→d.quiet=true)
  (hs:autoParam (swapsWith e none pos.line C.env=pure false) tR):Run C σ O (.Expr e pos::rest) K:=Run.cons λ s S=>by
 refine wpAny_Expr (he s S _ λ v s₁ d O' p t₁ S₁ hv=>?_) (by unfold interactive; rw [C.kind]; rfl) hs
 have:=hn d O' p
 cases v with
 | ref a=>
  cases d with
  | val w=>have hh:Value.ref a=w:=hv; subst hh; cases this
  | tup=>cases this
  | int i=>refine E11 hv λ t q=>?_; try clear hv; cases q
  | str i=>refine E11 hv λ t q=>?_; try clear hv; cases q
  | bytes i=>refine E11 hv λ t q=>?_; try clear hv; cases q
 | _=>exact h d O' p s₁ S₁
theorem Run.expr {e:Expr} {pos:Pos} {rest:List Stmt} {d:D} {K:Flow→Shared→Prop} (he:EvX C σ O e λ d' O''=>d'=d∧O''=O') (h:Run C σ O' rest K) (hn:autoParam (d.quiet=true) tR)
  (hs:autoParam (swapsWith e none pos.line C.env=pure false) tR):Run C σ O (.Expr e pos::rest) K:=
 Run.exprX he (λ _ _ ⟨_,e2⟩=>e2 ▸ h) (λ _ _ ⟨e1,_⟩=>e1 ▸ hn) hs
theorem setItem_lst {prog:Program} {w:World} {A:Around} {E:Value→Shared→Prop} {s:Shared} {l:Addr} {items:Array Value} {n:Nat} {k:Int} {t:Tok} {v:Value} {Q:Unit→Shared→Prop} (e:s.heap.get? l=some { cls:=.type "list",dict:=none,data:=.seq items n,slots:=#[] })
  (h1 : -(items.size:Int)≤k) (h2:k < items.size) (hs:items.size≤sizeLine) (h:Q () { s with heap:=s.heap.update l (Obj.mapSeq (·.setIfInBounds (plc k items.size) v)) }) :
  wpAny (model prog w) A (setItem (.ref l) (.int k t) v) Q E s:=by
 have hl:s.heap.IsList l items:=⟨_,e,rfl,n,rfl⟩
 have hz:sizeLine=16777216:=by decide +kernel
 have hlt:plc k items.size < items.size:=by unfold plc; split <;> lia
 have hfit:Builtin.List.listFitsIndex k=true:=by
  unfold Builtin.List.listFitsIndex
  simp only [Bool.and_eq_true,decide_eq_true_eq]
  lia
 have hx':items[plc k items.size]? = some items[plc k items.size]:=Array.getElem?_eq_getElem hlt
 have hidx:seqIndex? k items.size=some (plc k items.size):=by
  unfold plc
  by_cases h0:k < 0
  ·rw [if_pos h0,seqIndex_neg h0 h1]
  ·rw [if_neg h0,seqIndex_of (by lia) h2]
 unfold setItem
 try with_reducible refine wpAny_holding ?_
 first | refine wpAny_bind (wpAny_pure ?_) | skip
 refine wpAny_bind (wpAny_sequenceKey hl.typeIs (by decide) ?_)
 refine wpAny_bind (wpAny_callSpecial?_slot (name:=Str.ofString "__setitem__") hl.typeIs slot_list_setitem
  (wpAny_call_entry slot_list_setitem hl.typeIs entry_list_setitem ?_ (args_list_setitem _ _ _)))
 show wpAny _ _ (Builtin.List.listSubscript? (.int k t) >>= _) _ _ s
 refine wpAny_bind (wpAny_listSubscript_int hfit ?_)
 clear hfit
 have tail:∀ {Q':Fin→Shared→Prop} {A':Around} {E':Value→Shared→Prop},(Q' (.done (.ret .none)) { s with heap:=s.heap.update l (Obj.mapSeq (·.setIfInBounds (plc k items.size) v)) })→wpAny (model prog w) A' (do setSeqItemAt l (plc k items.size) v; return ← ret .none) Q' E' s:=λ q=>
  wpAny_bind (wpAny_setSeqItemAt e rfl (wpAny_pure q))
 by_cases h0:k < 0
 ·obtain ⟨j,rfl⟩:∃ j:Nat,k=Int.negSucc j:=by
   cases k with
   | ofNat n=>exact absurd h0 (Int.not_lt.mpr (Int.natCast_nonneg n))
   | negSucc n=>exact ⟨n,rfl⟩
  show wpAny _ _ ((Builtin.List.listItems (.ref l) >>= λ xs=>pure ((seqIndex? (Int.negSucc j) xs.size).bind λ i=>xs[i]?.map (i,·))) >>= _) _ _ s
  refine wpAny_bind (wpAny_bind ?_)
  show wpAny _ _ (seqItems? (.ref l) >>= _) _ _ s
  refine wpAny_bind (wpAny_seqItems e rfl (wpAny_pure (wpAny_pure ?_)))
  rw [hidx]
  simp only [Option.bind_some,hx',Option.map_some]
  first
   | exact tail ⟨.none,rfl,wpAny_pure h⟩
   | exact wpAny_bind (wpAny_setSeqItemAt e rfl (wpAny_bind (wpAny_pure (wpAny_pure ⟨.none,rfl,wpAny_pure h⟩))))
   | exact wpAny_bind (wpAny_setSeqItemAt e rfl (wpAny_pure ⟨.none,rfl,wpAny_pure h⟩))
 ·have h0':0≤k:=by lia
  have ep:plc k items.size=k.toNat:=if_neg h0
  refine E11 (Int.eq_ofNat_of_zero_le h0') λ j Y1=>?_
  subst Y1
  show wpAny _ _ ((seqItemAt l j >>= λ r=>pure (r.map (j,·))) >>= _) _ _ s
  refine wpAny_bind (wpAny_bind (wpAny_seqItemAt e rfl (wpAny_pure ?_)))
  have ep':plc (j:Int) items.size=j:=by rw [ep]; rfl
  rw [ep'] at h
  have hj':j < items.size:=by assumption
  have hj:items[j]? = some items[j]:=Array.getElem?_eq_getElem hj'
  rw [hj]
  show wpAny _ _ (setSeqItemAt l j v >>= _) _ _ s
  refine wpAny_bind (wpAny_setSeqItemAt e rfl ?_)
  first
   | exact wpAny_pure ⟨.none,rfl,wpAny_pure h⟩
   | exact wpAny_bind (wpAny_pure (wpAny_pure ⟨.none,rfl,wpAny_pure h⟩))
def InOp (C:Cx B) (σ : Loc) (O:Led) (op:Operator) (d e f:D):Prop:=
 ∀ s v u,St C σ O s→Val s.heap v d→Val s.heap u e→∀ Q,Res C σ O f s Q→C.wp (inplaceOp op v u) Q s
theorem InOp.addInt {a b:Int}:InOp C σ O .Add (.int a) (.int b) (.int (a+b)):=by
 intro s v u S hq0 hq1 Q hQ
 refine E11 hq0 λ t ev=>?_
 try clear hq0
 refine E11 hq1 λ t' eu=>?_
 try clear hq1
 subst ev; subst eu; exact iadd_int (hQ _ _ (.refl _) S.tok ⟨_,rfl⟩)
theorem InOp.subInt {a b:Int}:InOp C σ O .Sub (.int a) (.int b) (.int (a - b)):=by
 intro s v u S hq0 hq1 Q hQ
 refine E11 hq0 λ t ev=>?_
 try clear hq0
 refine E11 hq1 λ t' eu=>?_
 try clear hq1
 subst ev; subst eu; exact isub_int (hQ _ _ (.refl _) S.tok ⟨_,rfl⟩)
theorem InOp.orInt {a b:Int}:InOp C σ O .BitOr (.int a) (.int b) (.int (Builtin.bitOr a b)):=by
 intro s v u S hq0 hq1 Q hQ
 refine E11 hq0 λ t ev=>?_
 try clear hq0
 refine E11 hq1 λ t' eu=>?_
 try clear hq1
 subst ev; subst eu; exact ior_int (hQ _ _ (.refl _) S.tok ⟨_,rfl⟩)
theorem InOp.andInt {a b:Int}:InOp C σ O .BitAnd (.int a) (.int b) (.int (Builtin.bitAnd a b)):=by
 intro s v u S hq0 hq1 Q hQ
 refine E11 hq0 λ t ev=>?_
 try clear hq0
 refine E11 hq1 λ t' eu=>?_
 try clear hq1
 subst ev; subst eu; exact iand_int (hQ _ _ (.refl _) S.tok ⟨_,rfl⟩)
theorem InOp.xorInt {a b:Int}:InOp C σ O .BitXor (.int a) (.int b) (.int (Builtin.bitXor a b)):=by
 intro s v u S hq0 hq1 Q hQ
 refine E11 hq0 λ t ev=>?_
 try clear hq0
 refine E11 hq1 λ t' eu=>?_
 try clear hq1
 subst ev; subst eu; exact ixor_int (hQ _ _ (.refl _) S.tok ⟨_,rfl⟩)
theorem InOp.shlInt {a b:Int} (hb:0≤b) (hb':b≤1000000) (ha:a.natAbs < 2 ^ 64):InOp C σ O .LShift (.int a) (.int b) (.int (a * 2 ^ b.toNat)):=by
 intro s v u S hq0 hq1 Q hQ
 refine E11 hq0 λ t ev=>?_
 try clear hq0
 refine E11 hq1 λ t' eu=>?_
 try clear hq1
 subst ev; subst eu; exact ilshift_int_small hb hb' ha (hQ _ _ (.refl _) S.tok ⟨_,rfl⟩)
theorem InOp.addStr {a b:Str} (hz:a.length+b.length≤sizeLine):InOp C σ O .Add (.str a) (.str b) (.str (a++b)):=by
 intro s v u S hq0 hq1 Q hQ
 refine E11 hq0 λ t ev=>?_
 try clear hq0
 refine E11 hq1 λ t' eu=>?_
 try clear hq1
 subst ev; subst eu; exact iadd_str (λ t tk=>hQ _ _ (.refl _) S.tok ⟨_,rfl⟩) hz
theorem Run.aug {x:Str} {xp pos:Pos} {op:Operator} {e:Expr} {rest:List Stmt} {d u f:D} {K:Flow→Shared→Prop} (hx:LAt σ x d) (he:Ev C σ O e u) (ho:InOp C σ O op d u f) (hp:LPut σ x f σ') (h:Run C σ' O rest K):Run C σ O (.AugAssign (.Name x xp) op e pos::rest) K:=Run.cons λ s S=>by
 refine E23 (S.get hx.mem) λ m v n em hv=>?_
 refine wpAny_AugAssign_Name (wpAny_loadName_local C.kind (S.loc_of (Zat hx.mem)) n em (he s S _ λ u s₁ t₁ S₁ hu=>ho s₁ v u S₁ (hv.tk t₁) hu _ λ r s₂ t₂ S₂ hr=>?_))
 exact S₂.store hp hr λ s₃ _ S₃=>h s₃ S₃
theorem Run.augItem {oe ie e:Expr} {tpos pos:Pos} {op:Operator} {rest:List Stmt} {l:Addr} {ds:List D} {k:Int} {d u f:D} {K:Flow→Shared→Prop} (hoe:Ev C σ O oe (.ref l)) (hie:Ev C σ O ie (.int k)) (ha:OAt O l (.list ds)) (hd:ds[plc k ds.length]? = some d)
  (he:Ev C σ O e u) (ho:InOp C σ O op d u f) (hp:OPut O l (.list (ds.set (plc k ds.length) f)) O') (h:Run C σ O' rest K) (h1 : -(ds.length:Int)≤k) (h2:k < ds.length) (hz:ds.length≤sizeLine)
  (hi:autoParam (∀ ov iv new,augStore ie ov iv new=(do holding [new,ov,iv] (setItem ov iv new); release [new,ov,iv] []; pure .next)) tK):Run C σ O (.AugAssign (.Subscript oe ie tpos) op e pos::rest) K:=Run.cons λ s S=>by
 have hzz:sizeLine=16777216:=by decide +kernel
 refine wpAny_AugAssign_SubscriptAny (hoe s S _ λ ov s₁ t₁ S₁ hov=>hie s₁ S₁ _ λ iv s₂ t₂ S₂ hiv=>?_) hi
 have hh:ov = .ref l:=hov; subst hh
 refine E11 hiv λ t Y1=>?_
 try clear hiv
 subst Y1
 refine E12 (Zae (S₂.objs _ ha.mem)) λ items x hv=>?_
 refine Zfa x hv h1 (by lia) (by lia) hd λ v hvd=>he s₂ S₂ _ λ u' s₃ t₃ S₃ hu=>ho s₃ v u' S₃ (hvd.tk t₃) hu _ λ r s₄ t₄ S₄ hr=>?_
 refine E12 (S₄.objs _ ha.mem) λ items Y1 hv=>?_
 refine E11 Y1 λ n e=>?_
 clear Y1
 have hsz:=hv.sizeA
 refine setItem_lst e (by lia) (by lia) (by exact Wn [_,_] (.v 0) (.n 16777216) [(1,.v 0,.v 1),(1,.v 1,.n 16777216)] rfl (We hsz) hz) ?_
 refine E02 (LstAt.upd (s:=s₄) (f:=λ xs=>xs.setIfInBounds (plc k items.size) r) (t:=s₄.toks) e) λ a X=>?_
 exact h _ (S₄.put hp X ⟨_,a,by rw [Array.toList_setIfInBounds,← hsz]; exact (hv.tk X.tk).set (hr.tk X.tk)⟩)
def EvP (C:Cx B) (σ : Loc) (O:Led) (e:Option Expr) (k:Option Int):Prop:=
 ∀ s,St C σ O s→∀ Q:Value→Shared→Prop,(∀ v s',Tk s.heap s'.heap→St C σ O s'→(∃ p:Option (Int × Tok),v=partValue p∧k=p.map (·.1))→Q v s')→C.wp (evalPart e C.env) Q s
theorem EvP.none:EvP C σ O .none .none:=λ s S Q hQ=>wpAny_pure (hQ _ s (.refl _) S ⟨.none,rfl,rfl⟩)
theorem EvP.some {e:Expr} {k:Int} (h:Ev C σ O e (.int k)):EvP C σ O (.some e) (.some k):=λ s S Q hQ=>h s S Q <| by
 intro v s' t S' hq0
 refine E11 hq0 λ u e=>?_
 try clear hq0
 subst e; exact hQ _ s' t S' ⟨.some (k,u),rfl,rfl⟩
theorem isPart_of {v:Value} {k:Option Int} (h:∃ p:Option (Int × Tok),v=partValue p∧k=p.map (·.1)):IsPart v k:=by
 refine E12 h λ p Y1 Y2=>?_
 try clear h
 subst Y1
 subst Y2
 cases p with
 | none=>exact .none
 | some p=>exact .int p.1 p.2
noncomputable def lpart (ds:List D) (lo hi:Option Int):List D:=(ds.drop (lo.elim 0 (clipAt ds.length))).take (hi.elim ds.length (clipAt ds.length) - lo.elim 0 (clipAt ds.length))
theorem Zjp (ds:List D) (a:Nat):lpart ds (some a) none=ds.drop a:=by
 unfold lpart
 simp only [Option.elim,clipAt_nat]
 rcases Nat.le_total a ds.length with h | h
 ·rw [Nat.min_eq_left h,List.take_of_length_le (by simp)]
 ·rw [Nat.min_eq_right h,List.drop_of_length_le (by simp),List.drop_of_length_le h]; simp
theorem lpart_upto (ds:List D) (b:Nat):lpart ds none (some b)=ds.take b:=by
 unfold lpart
 simp only [Option.elim,clipAt_nat,List.drop_zero,Nat.sub_zero]
 rcases Nat.le_total b ds.length with h | h
 ·rw [Nat.min_eq_left h]
 ·rw [Nat.min_eq_right h,List.take_of_length_le (by simp),List.take_of_length_le h]
theorem EvX.sliceG {ve:Expr} {lo hi:Option Expr} {p pos:Pos} {l:Addr} {ds:List D} {a b:Option Int} (hv:Ev C σ O ve (.ref l)) (ha:∀ s,St C σ O s→ShAt B s.heap l (.list ds)) (hlo:EvP C σ O lo a) (hhi:EvP C σ O hi b) (hz:ds.length≤sizeLine)
  (ht:autoParam (∀ o r,letTemporaryGo ve o r=pure ()) tJ):EvX C σ O (.Subscript ve (.Slice lo hi none p) pos) λ d O'=>∃ c,d = .ref c∧O'=(c,.list (lpart ds a b))::O:=λ s S Q hQ=>by
 refine wpAny_Subscript_list_slice (hv s S _ λ v s₁ t₁ S₁ hv=>hlo s₁ S₁ _ λ u s₂ t₂ S₂ pu=>hhi s₂ S₂ _ λ r s₃ t₃ S₃ pr=>?_) ht
 have hh:v = .ref l:=hv; subst hh
 refine E12 (Zae (ha _ S₃)) λ items x hvs=>?_
 have hsz:=hvs.sizeA
 have X1:Eff [] s₃ { s₃ with heap:=s₃.heap.push { cls:=.type "slice",data:=.fields #[u,r,.none] } }:=.push _
 have X2:Eff [] s₃ { s₃ with heap:=(s₃.heap.push { cls:=.type "slice",data:=.fields #[u,r,.none] }).push { cls:=.type "list",data:=.seq (slicePick items a b none) } }:=X1.trans (Eff.push (t:=s₃.toks) { cls:=.type "list",data:=.seq (slicePick items a b none) })
 refine ⟨l,items,a,b,rfl,x,by rw [hsz]; exact hz,isPart_of pu,isPart_of pr,?_⟩
 refine hQ _ _ _ _ ⟨_,rfl,rfl⟩ (((t₁.trans t₂).trans t₃).trans X2.tk) (S₃.new X2 (Nat.le_succ _) ⟨slicePick items a b none,⟨0,?_⟩,?_⟩) rfl
 ·have:=Heap.get?_push_size (s₃.heap.push { cls:=.type "slice",data:=.fields #[u,r,.none] }) (o:={ cls:=.type "list",data:=.seq (slicePick items a b none) }) rfl
  rw [Heap.size_push] at this
  exact this
 ·have e:(slicePick items a b none).toList=(items.toList.drop (a.elim 0 (clipAt ds.length))).take (b.elim ds.length (clipAt ds.length) - a.elim 0 (clipAt ds.length)):=by rw [slicePick_plain,hsz]
  rw [e]
  exact ((hvs.tk X2.tk).drop _).take _
theorem EvX.slice {ve:Expr} {lo hi:Option Expr} {p pos:Pos} {l:Addr} {ds:List D} {a b:Option Int} (hv:Ev C σ O ve (.ref l)) (ha:OAt O l (.list ds)) (hlo:EvP C σ O lo a) (hhi:EvP C σ O hi b) (hz:ds.length≤sizeLine)
  (ht:autoParam (∀ o r,letTemporaryGo ve o r=pure ()) tJ):EvX C σ O (.Subscript ve (.Slice lo hi none p) pos) λ d O'=>∃ c,d = .ref c∧O'=(c,.list (lpart ds a b))::O:=.sliceG hv (λ s S=>S.objs _ ha.mem) hlo hhi hz ht
def BinX (C:Cx B) (σ : Loc) (O:Led) (o:Operator) (d e:D) (P:D→Led→Prop):Prop:=
 ∀ s v u,St C σ O s→Val s.heap v d→Val s.heap u e→∀ Q:Value→Shared→Prop,(∀ r s' f O',P f O'→Tk s.heap s'.heap→St C σ O' s'→Val s'.heap r f→Q r s')→C.wp (binaryOp o v u) Q s
theorem EvX.bin {l r:Expr} {o:Operator} {pos:Pos} {P1:D→Led→Prop} {P2:D→Led→D→Led→Prop} {P:D→Led→Prop} (hl:EvX C σ O l P1) (hr:∀ d O1,P1 d O1→EvX C σ O1 r (P2 d O1))
  (op:∀ d O1 e O2,P1 d O1→P2 d O1 e O2→BinX C σ O2 o d e P):EvX C σ O (.BinOp l o r pos) P:=λ s S Q hQ=>by
 refine wpAny_BinOp (hl s S _ λ v s₁ d O1 p1 t₁ S₁ hv=>hr d O1 p1 s₁ S₁ _ λ u s₂ e O2 p2 t₂ S₂ hu=>?_)
 exact op d O1 e O2 p1 p2 s₂ v u S₂ (hv.tk t₂) hu Q λ w s₃ f O3 p t₃=>hQ w s₃ f O3 p ((t₁.trans t₂).trans t₃)
theorem BinX.addList {l b:Addr} {ds es:List D} (hl:OAt O l (.list ds)) (hb:OAt O b (.list es)) (hz:ds.length+es.length≤sizeLine):BinX C σ O .Add (.ref l) (.ref b) λ d O'=>∃ a,d = .ref a∧O'=(a,.list (ds++es))::O:=λ s v u S ev eu Q hQ=>by
 have hh:v = .ref l:=ev; subst hh
 have hh:u = .ref b:=eu; subst hh
 refine E12 (S.objs _ hl.mem) λ items Y1 hv=>?_
 refine E11 Y1 λ n e1=>?_
 clear Y1
 refine E12 (S.objs _ hb.mem) λ items2 Y1 hv2=>?_
 refine E11 Y1 λ n2 e2=>?_
 clear Y1
 have X:Eff [] s { s with heap:=s.heap.push { cls:=.type "list",data:=.seq (items++items2) } }:=.push _
 refine P.add_list e1 e2 (hQ _ _ _ _ ⟨_,rfl,rfl⟩ X.tk (S.new X (Nat.le_refl _) ⟨_,⟨0,Heap.get?_push_size _ rfl⟩,?_⟩) rfl) (by rw [hv.sizeA,hv2.sizeA]; exact hz)
 rw [Array.toList_append]
 exact (hv.tk X.tk).append (hv2.tk X.tk)
theorem foldl_rep {α : Type} (x : α):∀ (n:Nat) (acc:Array α),(List.foldl (λ x1 x2=>x1++x2) acc (List.replicate n #[x])).toList=acc.toList++List.replicate n x
 | 0,acc=>by simp
 | n+1,acc=>by
  rw [List.replicate_succ,List.foldl_cons,foldl_rep x n,List.replicate_succ]
  simp
theorem Vals.replicate {h:Heap} {v:Value} {d:D} (x:Val h v d):∀ n,Vals h (List.replicate n v) (List.replicate n d)
 | 0=>.nil
 | n+1=>by rw [List.replicate_succ,List.replicate_succ]; exact .cons x (Vals.replicate x n)
theorem BinX.mulList1 {l:Addr} {d:D} {k:Int} (hl:OAt O l (.list [d])) (h1 : -(2 ^ 63)≤k) (h2:k≤2 ^ 24):BinX C σ O .Mult (.ref l) (.int k) λ r O'=>∃ a,r = .ref a∧O'=(a,.list (List.replicate k.toNat d))::O:=by
 intro s v u S ev hq0 Q hQ
 refine E11 hq0 λ t eu=>?_
 try clear hq0
 have hh:v = .ref l:=ev; subst hh
 subst eu
 refine E12 (S.objs _ hl.mem) λ items Y1 Y2=>?_
 refine E11 Y1 λ n e1=>?_
 clear Y1
 refine E23 Y2 λ v' r e3 hv' hr=>?_
 clear Y2
 have hh:r=[]:=hr; subst hh
 have e4:items = #[v']:=by rw [← Array.toArray_toList (xs:=items),e3]
 subst e4
 refine wpAny_binaryOp_repeat_ref (T := "list") (U := "int") (by decide) ⟨_,e1,rfl⟩ (λ s'=>typeIs_int s' k t) noFill_list_mul F.fills_int_mul F.slot_int_rmul repeat_list F.slot_int_index.lookup
  (call_meets F.slot_int_rmul (typeIs_int s k t) F.entry_int_rmul (F.args_int_rmul_2 _ _) (int___rmul___int_list k t l #[v'] n)
   ⟨e1,rfl,⟨_,e1,rfl⟩,call_meets F.slot_list_mul ⟨_,e1,rfl⟩ F.entry_list_mul (F.args_list_mul_2 _ _)
    (AutoListH.list___mul___list_int_3 l #[v'] n k t (by simp [Builtin.List.listFitsIndex]; lia) (by simp; lia) (by simp [Builtin.List.listTooLong,sizeLine]; assumption))
    ⟨e1,?_⟩⟩)
 have X:Eff [] s { s with heap:=s.heap.push { cls:=.type "list",data:=.seq (List.foldl (λ x1 x2=>x1++x2) #[] (List.replicate k.toNat #[v'])) } }:=.push _
 refine hQ _ _ _ _ ⟨_,rfl,rfl⟩ X.tk (S.new X (Nat.le_refl _) ⟨_,⟨0,Heap.get?_push_size _ rfl⟩,?_⟩) rfl
 rw [foldl_rep]
 exact Vals.replicate (hv'.tk X.tk) _
theorem Ev.addStr {l r:Expr} {pos:Pos} {a b:Str} (hl:Ev C σ O l (.str a)) (hr:Ev C σ O r (.str b)) (hz:a.length+b.length≤sizeLine):Ev C σ O (.BinOp l .Add r pos) (.str (a++b)):=λ s S Q hQ=>by
 refine wpAny_BinOp (hl s S _ λ v s₁ t₁ S₁ hv=>hr s₁ S₁ _ λ u s₂ t₂ S₂ hu=>?_)
 refine E11 hv λ t Y1=>?_
 try clear hv
 subst Y1
 refine E11 hu λ t' Y1=>?_
 try clear hu
 subst Y1
 exact PyProof.Rows.add_str (λ t tk=>hQ _ _ (t₁.trans t₂) S₂.tok ⟨_,rfl⟩) hz
theorem Vals.sizeB {h:Heap} {items:Array Value} {xs:List Int} (x:Vals h items.toList (xs.map .int)):items.size=xs.length:=by have:=x.sizeA; simpa using this
theorem ints_eqAt {A:Around} {s:Shared} {items items2:Array Value} {xs ys:List Int} (x:Vals s.heap items.toList (xs.map .int)) (y:Vals s.heap items2.toList (ys.map .int)) :
  ∀ j (h1:j < items.size) (h2:j < items2.size),SeqAt.EqAt A s items[j] items2[j] (xs[j]? == ys[j]?):=λ j h1 h2=>by
 have g1:j < xs.length:=by rw [x.sizeB] at h1; exact h1
 have g2:j < ys.length:=by rw [y.sizeB] at h2; exact h2
 refine E12 (x.get (i:=j) (d:=.int xs[j]) (by simp [g1])) λ v ev Y1=>?_
 refine E11 Y1 λ t hv=>?_
 clear Y1
 refine E12 (y.get (i:=j) (d:=.int ys[j]) (by simp [g2])) λ u eu Y1=>?_
 refine E11 Y1 λ t' hu=>?_
 clear Y1
 have e1:items[j]=v:=by simpa [h1] using ev
 have e2:items2[j]=u:=by simpa [h2] using eu
 rw [e1,e2,hv,hu,List.getElem?_eq_getElem g1,List.getElem?_eq_getElem g2]
 exact SeqAt.EqAt.int_int _ _ _ _
theorem all_same {xs ys:List Int} (h:xs.length=ys.length):(List.range xs.length).all (λ j=>xs[j]? == ys[j]?)=(xs==ys):=by
 rw [Bool.eq_iff_iff,List.all_eq_true,beq_iff_eq]
 constructor
 ·intro hh
  apply List.ext_getElem? 
  intro i
  by_cases hi:i < xs.length
  ·exact eq_of_beq (hh i (List.mem_range.mpr hi))
  ·rw [List.getElem?_eq_none (by exact Wn [_,_] (.v 0) (.v 1) [(1,.v 0,.v 1)] rfl (Wg hi)),List.getElem?_eq_none (by exact Wn [_,_,_] (.v 0) (.v 1) [(1,.v 2,.v 1),(1,.v 0,.v 2)] rfl (Wg hi) (Wf h))]
 ·rintro rfl i _
  exact beq_self_eq_true _
theorem Cmp.neInts {l b:Addr} {xs ys:List Int} (hl:OAt O l (.list (xs.map .int))) (hb:OAt O b (.list (ys.map .int))):Cmp C σ O .NotEq (.ref l) (.ref b) (xs != ys):=λ s v u S ev eu Q hQ=>by
 have hh:v = .ref l:=ev; subst hh
 have hh:u = .ref b:=eu; subst hh
 refine E12 (Zae (S.objs _ hl.mem)) λ items x hv=>?_
 refine E12 (Zae (S.objs _ hb.mem)) λ items2 y hv2=>?_
 by_cases h:xs.length=ys.length
 ·refine SeqAt.RcNeAt.lists x y (by rw [hv.sizeB,hv2.sizeB,h]) C.room.units (ints_eqAt hv hv2) _ _ _ _ ?_
  rw [hv.sizeB,all_same h]
  exact hQ s (.refl _) S
 ·refine SeqAt.RcNeAt.lists_lengths x y (by rw [hv.sizeB,hv2.sizeB]; simpa using h) C.room.units _ _ _ _ ?_
  have:(xs != ys)=true:=by
   rw [bne_iff_ne]; rintro rfl; exact h rfl
  rw [← this]
  exact hQ s (.refl _) S
theorem Cmp.eqNil {l b:Addr} {ds:List D} (hl:OAt O l (.list ds)) (hb:OAt O b (.list [])):Cmp C σ O .Eq (.ref l) (.ref b) ds.isEmpty:=λ s v u S ev eu Q hQ=>by
 have hh:v = .ref l:=ev; subst hh
 have hh:u = .ref b:=eu; subst hh
 refine E12 (Zae (S.objs _ hl.mem)) λ items x hv=>?_
 refine E12 (Zae (S.objs _ hb.mem)) λ items2 y hv2=>?_
 have h1:=hv.sizeA
 have h2:=hv2.sizeA
 cases ds with
 | nil=>
  refine SeqAt.RcAt.lists (e:=λ _=>true) x y (by rw [h1,h2]) C.room.units (λ j h _=>absurd h (by rw [h1]; exact Nat.not_lt_zero _)) _ _ _ _ ?_
  rw [h1]
  exact hQ s (.refl _) S
 | cons d ds=>exact SeqAt.RcAt.lists_lengths x y (by rw [h1,h2]; rfl) C.room.units _ _ _ _ (hQ s (.refl _) S)
theorem Cmp.neNil {l b:Addr} {ds:List D} (hl:OAt O l (.list ds)) (hb:OAt O b (.list [])):Cmp C σ O .NotEq (.ref l) (.ref b) (!ds.isEmpty):=λ s v u S ev eu Q hQ=>by
 have hh:v = .ref l:=ev; subst hh
 have hh:u = .ref b:=eu; subst hh
 refine E12 (Zae (S.objs _ hl.mem)) λ items x hv=>?_
 refine E12 (Zae (S.objs _ hb.mem)) λ items2 y hv2=>?_
 have h1:=hv.sizeA
 have h2:=hv2.sizeA
 cases ds with
 | nil=>
  refine SeqAt.RcNeAt.lists (e:=λ _=>true) x y (by rw [h1,h2]) C.room.units (λ j h _=>absurd h (by rw [h1]; exact Nat.not_lt_zero _)) _ _ _ _ ?_
  rw [h1]
  exact hQ s (.refl _) S
 | cons d ds=>exact SeqAt.RcNeAt.lists_lengths x y (by rw [h1,h2]; rfl) C.room.units _ _ _ _ (hQ s (.refl _) S)
theorem St.back {s:Shared} {R:Led} (S:St C σ (R++O) s):St C σ O s:=S.sub (λ p hp=>List.mem_append_right _ hp) (by
 have:=S.ond
 rw [List.map_append] at this
 exact (List.nodup_append.mp this).2.1)
theorem Tst.cmpX {l r:Expr} {o:CmpOp} {pos:Pos} {b:Bool} {P1:D→Led→Prop} {P2:D→Led→D→Led→Prop} (hl:EvX C σ O l P1) (hr:∀ d O1,P1 d O1→EvX C σ O1 r (P2 d O1))
  (op:∀ d O1 e O2,P1 d O1→P2 d O1 e O2→Cmp C σ O2 o d e b∧∃ R,O2=R++O) (hm:autoParam (behindInMarks o r=false) tR):Tst C σ O (.Compare l [o] [r] pos) b:=λ s S Q hQ=>by
 refine wpAny_isTrue_Compare1 (hl s S _ λ v s₁ d O1 p1 t₁ S₁ hv=>hr d O1 p1 s₁ S₁ _ λ u s₂ e O2 p2 t₂ S₂ hu=>?_) hm
 refine E02 (op d O1 e O2 p1 p2) λ h Y1=>?_
 refine E11 Y1 λ R Y2=>?_
 clear Y1
 subst Y2
 exact h s₂ v u S₂ (hv.tk t₂) hu _ λ s₃ t₃ S₃=>wpAny_truthy_bool (hQ _ ((t₁.trans t₂).trans t₃) S₃.back)
theorem Tst.neNil {l:Expr} {pos p:Pos} {a:Addr} {ds:List D} (hl:Ev C σ O l (.ref a)) (ha:OAt O a (.list ds)):Tst C σ O (.Compare l [.NotEq] [.List [] p] pos) (!ds.isEmpty):=
 .cmpX (P2:=λ _ O1 e O2=>∃ b,e = .ref b∧O2=(b,.list [])::O1) hl.toX (by intro d O1 hq0; refine E02 hq0 λ e1 e2=>?_; try clear hq0; subst e1; subst e2; exact .list .nil) (by
  intro d O1 e O2 hq0 hq1
  refine E02 hq0 λ e1 e2=>?_
  try clear hq0
  refine E12 hq1 λ b e3 e4=>?_
  try clear hq1
  subst e1; subst e2; subst e3; subst e4
  exact ⟨.neNil (.u ha) .z,[(b,.list [])],rfl⟩) rfl
noncomputable abbrev D.nat (n:Nat):D:=.int (n:Int)
theorem fdivN (a b:Nat):(a:Int).fdiv (b:Int)=((a / b:Nat):Int):=by rw [Int.fdiv_eq_ediv_of_nonneg _ (Int.natCast_nonneg b)]; rfl
theorem fmodN (a b:Nat):(a:Int).fmod (b:Int)=((a % b:Nat):Int):=by rw [Int.fmod_eq_emod_of_nonneg _ (Int.natCast_nonneg b)]; rfl
theorem bitAndN (a b:Nat):Builtin.bitAnd (a:Int) (b:Int)=((a &&& b:Nat):Int):=by
 unfold Builtin.bitAnd
 rw [decide_eq_true (Int.natCast_nonneg a),decide_eq_true (Int.natCast_nonneg b)]
 rfl
theorem bitOrN (a b:Nat):Builtin.bitOr (a:Int) (b:Int)=((a ||| b:Nat):Int):=by
 unfold Builtin.bitOr Builtin.bitAnd
 have h:∀ n:Nat,decide (0≤Builtin.bitNot (n:Int))=false:=λ n=>decide_eq_false (by unfold Builtin.bitNot; lia)
 have g:∀ n:Int,Builtin.bitNot (Builtin.bitNot n)=n:=λ n=>by unfold Builtin.bitNot; lia
 rw [h,h]
 simp only [g,Int.toNat_natCast]
theorem bits_small {b:Nat} (h:b < 2 ^ 30):Builtin.Int.intBits (b:Int)≤64:=by
 unfold Builtin.Int.intBits
 split
 ·exact Nat.zero_le _
 ·rename_i h0
  have hb:b ≠ 0:=by rintro rfl; exact h0 rfl
  have:=(Nat.log2_lt hb).mpr h
  rw [Int.natAbs_natCast]; exact Wn [_] (.a (.v 0) (.n 1)) (.n 64) [(1,.a (.v 0) (.n 1),.n 30)] rfl this
theorem Ev.intN (k:Nat) {j:Nat} {pos:Pos}:Ev C σ O (.Constant (.int (k:Int)) j pos) (.nat k):=.int
theorem Ev.neg {e:Expr} {pos:Pos} {a:Int} (h:Ev C σ O e (.int a)):Ev C σ O (.UnaryOp .USub e pos) (.int (-a)):=λ s S Q hQ=>by
 refine wpAny_UnaryOp (h s S _ λ v s₁ t₁ S₁ ⟨t,e⟩=>?_)
 subst e
 exact neg_int (hQ _ _ t₁ S₁.tok ⟨_,rfl⟩)
theorem Run.iteJ {t:Expr} {x y rest:List Stmt} {pos:Pos} {b:Bool} {K:Flow→Shared→Prop} (σ₁:Loc) (O₁:Led) (ht:Tst C σ O t b)
  (hx:b=true→Run C σ O x (λ f s'=>match f with | .next=>St C σ₁ O₁ s' | f=>K f s'))
  (hy:b=false→Run C σ O y (λ f s'=>match f with | .next=>St C σ₁ O₁ s' | f=>K f s'))
  (hr:Run C σ₁ O₁ rest K):Run C σ O (.If t x y pos::rest) K:=
 .ite ht (λ e=>(hx e).mono λ f s' h=>by cases f <;> first | exact hr s' h | exact h) λ e=>(hy e).mono λ f s' h=>by cases f <;> first | exact hr s' h | exact h
theorem Ev.addN {l r:Expr} {pos:Pos} {a b:Nat} (hl:Ev C σ O l (.nat a)) (hr:Ev C σ O r (.nat b)):Ev C σ O (.BinOp l .Add r pos) (.nat (a+b)):=(Ev.add hl hr).cast (by rw [D.nat,Int.natCast_add])
theorem Ev.mulN {l r:Expr} {pos:Pos} {a b:Nat} (hl:Ev C σ O l (.nat a)) (hr:Ev C σ O r (.nat b)) (hm:b < 2 ^ 30):Ev C σ O (.BinOp l .Mult r pos) (.nat (a * b)):=(Ev.mul hl hr (bits_small hm)).cast (by rw [D.nat,Int.natCast_mul])
theorem Ev.subN {l r:Expr} {pos:Pos} {a b:Nat} (hl:Ev C σ O l (.nat a)) (hr:Ev C σ O r (.nat b)) (h:b≤a):Ev C σ O (.BinOp l .Sub r pos) (.nat (a - b)):=(Ev.sub hl hr).cast (by rw [D.nat,Int.natCast_sub h])
theorem Ev.modN {l r:Expr} {pos:Pos} {a b:Nat} (hl:Ev C σ O l (.nat a)) (hr:Ev C σ O r (.nat b)) (hb:b ≠ 0):Ev C σ O (.BinOp l .Mod r pos) (.nat (a % b)):=(Ev.mod hl hr (by lia)).cast (by rw [fmodN])
theorem Ev.divN {l r:Expr} {pos:Pos} {a b:Nat} (hl:Ev C σ O l (.nat a)) (hr:Ev C σ O r (.nat b)) (hb:b ≠ 0) (hb':b < 2 ^ 30):Ev C σ O (.BinOp l .FloorDiv r pos) (.nat (a / b)):=(Ev.fdiv hl hr (by lia) (PyProof.noPylong_small (by simpa using hb'))).cast (by rw [fdivN])
theorem Ev.andN {l r:Expr} {pos:Pos} {a b:Nat} (hl:Ev C σ O l (.nat a)) (hr:Ev C σ O r (.nat b)):Ev C σ O (.BinOp l .BitAnd r pos) (.nat (a &&& b)):=(Ev.and hl hr).cast (by rw [bitAndN])
theorem Ev.orN {l r:Expr} {pos:Pos} {a b:Nat} (hl:Ev C σ O l (.nat a)) (hr:Ev C σ O r (.nat b)):Ev C σ O (.BinOp l .BitOr r pos) (.nat (a ||| b)):=(Ev.or hl hr).cast (by rw [bitOrN])
theorem Ev.shrN {l r:Expr} {pos:Pos} {a b:Nat} (hl:Ev C σ O l (.nat a)) (hr:Ev C σ O r (.nat b)):Ev C σ O (.BinOp l .RShift r pos) (.nat (a >>> b)):=(Ev.shr hl hr (Int.natCast_nonneg b)).cast (by
 rw [Int.toNat_natCast,show ((2:Int) ^ b)=((2 ^ b:Nat):Int) from (Int.natCast_pow 2 b).symm,fdivN,Nat.shiftRight_eq_div_pow])
theorem Ev.shlN {l r:Expr} {pos:Pos} {a b:Nat} (hl:Ev C σ O l (.nat a)) (hr:Ev C σ O r (.nat b)) (hb:b≤1000000) (ha:a < 2 ^ 64):Ev C σ O (.BinOp l .LShift r pos) (.nat (a <<< b)):=(Ev.shl hl hr (Int.natCast_nonneg b) (by lia) (by simpa using ha)).cast (by
 rw [Int.toNat_natCast,show ((2:Int) ^ b)=((2 ^ b:Nat):Int) from (Int.natCast_pow 2 b).symm,← Int.natCast_mul,Nat.shiftLeft_eq])
theorem Cmp.ltN {a b:Nat}:Cmp C σ O .Lt (.nat a) (.nat b) (decide (a < b)):=by have:=Cmp.lt (C:=C) (σ:=σ) (O:=O) (a:=a) (b:=b); rw [show decide ((a:Int) < b)=decide (a < b) by simp] at this; exact this
theorem Cmp.gtN {a b:Nat}:Cmp C σ O .Gt (.nat a) (.nat b) (decide (b < a)):=by have:=Cmp.gt (C:=C) (σ:=σ) (O:=O) (a:=a) (b:=b); rw [show decide ((b:Int) < a)=decide (b < a) by simp] at this; exact this
theorem Cmp.geN {a b:Nat}:Cmp C σ O .GtE (.nat a) (.nat b) (decide (b≤a)):=by have:=Cmp.ge (C:=C) (σ:=σ) (O:=O) (a:=a) (b:=b); rw [show decide ((b:Int)≤a)=decide (b≤a) by simp] at this; exact this
theorem Cmp.eqN {a b:Nat}:Cmp C σ O .Eq (.nat a) (.nat b) (a==b):=by have:=Cmp.eq (C:=C) (σ:=σ) (O:=O) (a:=a) (b:=b); rw [show ((a:Int)==b)=(a==b) by rw [Bool.eq_iff_iff,beq_iff_eq,beq_iff_eq]; lia] at this; exact this
theorem Cmp.neN {a b:Nat}:Cmp C σ O .NotEq (.nat a) (.nat b) (a != b):=by have:=Cmp.ne (C:=C) (σ:=σ) (O:=O) (a:=a) (b:=b); rw [show ((a:Int) != b)=(a != b) by rw [Bool.eq_iff_iff,bne_iff_ne,bne_iff_ne]; lia] at this; exact this
theorem InOp.addN {a b:Nat}:InOp C σ O .Add (.nat a) (.nat b) (.nat (a+b)):=by have:=InOp.addInt (C:=C) (σ:=σ) (O:=O) (a:=a) (b:=b); rw [← Int.natCast_add] at this; exact this
theorem InOp.subN {a b:Nat} (h:b≤a):InOp C σ O .Sub (.nat a) (.nat b) (.nat (a - b)):=by have:=InOp.subInt (C:=C) (σ:=σ) (O:=O) (a:=a) (b:=b); rw [← Int.natCast_sub h] at this; exact this
theorem InOp.orN {a b:Nat}:InOp C σ O .BitOr (.nat a) (.nat b) (.nat (a ||| b)):=by have:=InOp.orInt (C:=C) (σ:=σ) (O:=O) (a:=a) (b:=b); rw [bitOrN] at this; exact this
theorem InOp.andN {a b:Nat}:InOp C σ O .BitAnd (.nat a) (.nat b) (.nat (a &&& b)):=by have:=InOp.andInt (C:=C) (σ:=σ) (O:=O) (a:=a) (b:=b); rw [bitAndN] at this; exact this
theorem Zeo {α β : Type} (f : β→α→β) (b : β) (xs:List α) {i:Nat} {x : α} (h:xs[i]? = some x):(xs.take (i+1)).foldl f b=f ((xs.take i).foldl f b) x:=by
 rw [List.take_add_one,h,Option.toList_some,List.foldl_append]; rfl
theorem Ziv {α β : Type} (f : β→α→β) (b : β) (xs:List α):(xs.take xs.length).foldl f b=xs.foldl f b:=by rw [List.take_length]
theorem Zgt:fillsInplaceSlot (.type "list") "add" true=pure false:=by
 unfold fillsInplaceSlot
 show (typeLookup (.type "list") (dunderI "add") >>= λ fi=>pure (fi.isSome && !isSeqSlot fi))=pure false
 rw [F.slot_list_iadd.lookup]
 show (pure _:Sem Bool)=_
 rw [show isSeqSlot (some (Value.builtin "list.__iadd__"))=true by kernel_rfl]
 rfl
theorem iadd_lists {prog:Program} {w:World} {A:Around} {E:Value→Shared→Prop} {s:Shared} {l b:Addr} {items items2:Array Value} {n n2:Nat} {Q:Value→Shared→Prop}
  (hl:s.heap.get? l=some { cls:=.type "list",dict:=none,data:=.seq items n,slots:=#[] }) (hb:s.heap.get? b=some { cls:=.type "list",dict:=none,data:=.seq items2 n2,slots:=#[] })
  (hz:items.size+items2.size≤sizeLine) (h:Q (.ref l) { s with heap:=s.heap.update l (Obj.mapSeq λ x=>x++items2) }):wpAny (model prog w) A (inplaceOp .Add (.ref l) (.ref b)) Q E s:=by
 have ha:s.TypeIs (.ref l) "list" := ⟨_,hl,rfl⟩
 have hb':s.TypeIs (.ref b) "list" := ⟨_,hb,rfl⟩
 unfold inplaceOp
 refine wpAny_holding ?_
 refine wpAny_bind (wpAny_typeOf ha (wpAny_bind (wpAny_of_eq Zgt ?_)))
 show wpAny _ _ (if false=true then _ else _) Q E s
 rw [if_neg Bool.false_ne_true]
 refine wpAny_bind (wpAny_binaryOp1_none (nm := "add") ha hb' noFill_list_add ?_)
 refine wpAny_bind (wpAny_of_eq (PySem.seqSlot_of F.slot_list_iadd.lookup (by kernel_rfl)) ?_)
 refine wpAny_bind (wpAny_rule ?_)
 have hs0:¬(!items.isEmpty&&Builtin.List.listTooLong (items.size+items2.size))=true:=by
  have:Builtin.List.listTooLong (items.size+items2.size)=false:=by
   unfold Builtin.List.listTooLong
   exact decide_eq_false (by lia)
  rw [this,Bool.and_false]; exact Bool.false_ne_true
 exact (call_meets F.slot_list_iadd ha F.entry_list_iadd (F.args_list_iadd_2 _ _) (AutoSeq1.list___iadd___list_list_0 l items n b items2 n2 hs0 (by exact Wn [_,_] (.v 0) (.n 16777216) [(1,.a (.v 0) (.v 1),.n 16777216)] rfl hz) (by exact Wn [_,_] (.a (.v 0) (.v 1)) (.a (.n 16777216) (.n 1)) [(1,.a (.v 0) (.v 1),.n 16777216)] rfl hz)) ⟨hl,hb,h⟩)
theorem LPut.self {x:Str} {d:D} {σ : Loc} (h:LAt σ x d):LPut σ x d σ:=by
 induction h with
 | z=>exact .z
 | u _ ih=>exact .u ih
theorem Run.augList {x:Str} {xp p pos:Pos} {es:List Expr} {rest:List Stmt} {l:Addr} {ds es':List D} {K:Flow→Shared→Prop} (hx:LAt σ x (.ref l)) (ha:OAt O l (.list ds)) (he:EvL C σ O es es')
  (hp:OPut O l (.list (ds++es')) O') (h:Run C σ O' rest K) (hz:ds.length+es'.length≤sizeLine) (hs:autoParam (Zac es=true) tR):Run C σ O (.AugAssign (.Name x xp) .Add (.List es p) pos::rest) K:=Run.cons λ s S=>by
 refine E23 (S.get hx.mem) λ m v n em hv=>?_
 have hh:v = .ref l:=hv; subst hh
 refine wpAny_AugAssign_Name (wpAny_loadName_local C.kind (S.loc_of (Zat hx.mem)) n em (EvX.list he hs (by exact Wn [_,_] (.v 0) (.n 16777216) [(1,.a (.v 1) (.v 0),.n 16777216)] rfl hz) s S _ λ u s₁ d O₁ q t₁ S₁ hu=>?_))
 refine E12 q λ b Y1 Y2=>?_
 try clear q
 subst Y1
 subst Y2
 have hh:u = .ref b:=hu; subst hh
 refine E12 (S₁.objs _ (List.mem_cons_of_mem _ ha.mem)) λ items Y1 hv1=>?_
 refine E11 Y1 λ n1 e1=>?_
 clear Y1
 refine E12 (S₁.objs (b,.list es') List.mem_cons_self) λ items2 Y1 hv2=>?_
 refine E11 Y1 λ n2 e2=>?_
 clear Y1
 refine iadd_lists e1 e2 (by rw [hv1.sizeA,hv2.sizeA]; exact hz) ?_
 refine E02 (LstAt.upd (s:=s₁) (f:=λ xs=>xs++items2) (t:=s₁.toks) e1) λ a X=>?_
 have S₂:=S₁.put (.u hp) X ⟨_,a,by rw [Array.toList_append]; exact (hv1.tk X.tk).append (hv2.tk X.tk)⟩
 refine S₂.store (σ':=σ) (d:=.ref l) (LPut.self hx) rfl λ s₃ _ S₃=>h s₃ (S₃.sub (λ p hp=>List.mem_cons_of_mem _ hp) (List.nodup_cons.mp S₃.ond).2)
theorem Ev.ofX {e:Expr} {d:D} (h:EvX C σ O e λ d' O'=>d'=d∧O'=O):Ev C σ O e d:=λ s S Q hQ=>h s S Q <| by intro v s' d' O' hq0 t S' hv; refine E02 hq0 λ e1 e2=>?_; try clear hq0; subst e1; subst e2; exact hQ v s' t S' hv
theorem Ev.lenList {fe e:Expr} {pos:Pos} {l:Addr} {ds:List D} (hf:Ev C σ O fe (.val (.builtin "len"))) (he:Ev C σ O e (.ref l)) (ha:OAt O l (.list ds)) (hz:ds.length≤sizeLine) (hs:autoParam (Zac [e]=true) tR)
  (hc:autoParam (eval (.Call fe [e] [] pos) C.env=(do callWith pos (← eval fe C.env) [] (backTo pos (starEach [e] C.env)) (backToKw pos (keywordEach [] C.env)))) tR):Ev C σ O (.Call fe [e] [] pos) (.nat ds.length):=
 .ofX (.callB hf (.cons he .nil) (by
  intro s vs S hq0 Q hQ
  refine E12 (Vals.one hq0) λ v e1 ev=>?_
  have hzz:sizeLine=16777216:=by decide +kernel
  have hh:v = .ref l:=ev; subst hh
  subst e1
  refine E12 (Zae (S.objs _ ha.mem)) λ items x hv=>?_
  refine call_len_list x (by rw [hv.sizeA]; lia) (hQ _ _ _ _ ⟨rfl,rfl⟩ (.refl _) S.tok ⟨_,by rw [hv.sizeA]⟩)) hs hc)
theorem Ev.lenStr {fe e:Expr} {pos:Pos} {x:Str} (hf:Ev C σ O fe (.val (.builtin "len"))) (he:Ev C σ O e (.str x)) (hz:x.length≤sizeLine) (hs:autoParam (Zac [e]=true) tR)
  (hc:autoParam (eval (.Call fe [e] [] pos) C.env=(do callWith pos (← eval fe C.env) [] (backTo pos (starEach [e] C.env)) (backToKw pos (keywordEach [] C.env)))) tR):Ev C σ O (.Call fe [e] [] pos) (.nat x.length):=
 .ofX (.callB hf (.cons he .nil) (by
  intro s vs S hq0 Q hQ
  refine E12 (Vals.one hq0) λ v e1 Y1=>?_
  refine E11 Y1 λ t ev=>?_
  clear Y1
  have hzz:sizeLine=16777216:=by decide +kernel
  subst ev
  subst e1
  exact PyProof.Rows.len_str (by lia) (hQ _ _ _ _ ⟨rfl,rfl⟩ (.refl _) S.tok ⟨_,rfl⟩)) hs hc)
theorem Zgb {h:Heap}:∀ {vs:List Value} {ns:List Int},Vals h vs (ns.map .int)→IntsAre vs ns
 | _,[],e=>by have hh:_=[]:=e; subst hh; exact .nil
 | _,n::ns,⟨v,r,e,⟨t,ev⟩,hr⟩=>by subst e; subst ev; exact .cons _ _ (Zgb hr)
theorem Ev.bytes {fe e:Expr} {pos:Pos} {l:Addr} {ns:List Int} (hf:Ev C σ O fe (.val (.type "bytes"))) (he:Ev C σ O e (.ref l)) (ha:OAt O l (.list (ns.map .int))) (hr:∀ n∈ns,0≤n∧n < 256) (hz:ns.length≤sizeLine) (hs:autoParam (Zac [e]=true) tR)
  (hc:autoParam (eval (.Call fe [e] [] pos) C.env=(do callWith pos (← eval fe C.env) [] (backTo pos (starEach [e] C.env)) (backToKw pos (keywordEach [] C.env)))) tR):Ev C σ O (.Call fe [e] [] pos) (.bytes (byteArr ns)):=
 .ofX (.callType hf (.cons he .nil) (by
  intro s vs S hq0 Q hQ
  refine E12 (Vals.one hq0) λ v e1 ev=>?_
  have hh:v = .ref l:=ev; subst hh
  subst e1
  refine E12 (Zae (S.objs _ ha.mem)) λ items x hv=>?_
  refine call_bytes_ints (vs:=items.toList) (by simpa using x) (Zgb hv) hr (by have:=hv.length; simp at this; simpa [this] using hz) C.room.handled λ h' t k hk=>?_
  have X:Eff [] s { s with heap:=h',toks:=k }:=.ext hk
  exact hQ _ _ _ _ ⟨rfl,rfl⟩ X.tk (S.ext X) ⟨_,rfl⟩) hs hc)
end
section
set_option maxRecDepth 100000
variable {B:Bs} {C:Cx B} {σ σ':Loc} {O O':Led}
noncomputable abbrev Sh.biter (b:Array UInt8) (i:Nat):Sh:=.is λ o=>∃ t,o.cls = .type "bytes_iterator" ∧ o.data = .fields #[.bytes b t,.int i 0]
theorem biterNo {o:Obj} {vs:Array Value} (h:o.data = .fields vs):NoTup o:=.inr λ vs n q=>by rw [h] at q; cases q
theorem EvX.iterB {fe e:Expr} {pos:Pos} {b:Array UInt8} (hf:Ev C σ O fe (.val (.builtin "iter"))) (he:Ev C σ O e (.bytes b)) (hs:autoParam (Zac [e]=true) tR)
  (hc:autoParam (eval (.Call fe [e] [] pos) C.env=(do callWith pos (← eval fe C.env) [] (backTo pos (starEach [e] C.env)) (backToKw pos (keywordEach [] C.env)))) tR) :
  EvX C σ O (.Call fe [e] [] pos) λ d O'=>∃ it,d = .ref it∧O'=(it,.biter b 0)::O:=
 .callB hf (.cons he .nil) (by
  intro s vs S hq0 Q hQ
  refine E12 (Vals.one hq0) λ v e1 Y1=>?_
  refine E11 Y1 λ t ev=>?_
  clear Y1
  subst ev; subst e1
  refine call_function_entry (by decide +kernel) (by kernel_rfl) kdk_entry_iter (kdk_args_iter _) ?_
  unfold Builtin.«iter»
  refine wpAny_bind (m:=someArgs "iter" 1 2 _) (wpAny_of_eq (a:=[Value.bytes b t]) (by first | rfl | kernel_rfl!) ?_)
  show wpAny _ _ (pyIter (.bytes b t) >>= _) _ _ _
  refine wpAny_bind (KBw.pyIter_bytes ?_)
  have X:Eff [] s { s with heap:=s.heap.push { cls:=.type "bytes_iterator",data:=.fields #[.bytes b t,.int 0 0] } }:=.push _
  refine wpAny_pure ⟨_,rfl,hQ _ _ _ _ ⟨_,rfl,rfl⟩ X.tk (S.new X (Nat.le_refl _) ⟨_,Heap.get?_push_size _ rfl,⟨t,rfl,rfl⟩,biterNo rfl⟩) rfl⟩) hs hc
theorem EvX.nextB {fe e:Expr} {pos:Pos} {b:Array UInt8} {it:Addr} {i:Nat} {c:UInt8} (hf:Ev C σ O fe (.val (.builtin "next"))) (he:Ev C σ O e (.ref it)) (ha:OAt O it (.biter b i)) (hb:b[i]? = some c) (hp:OPut O it (.biter b (i+1)) O') (hs:autoParam (Zac [e]=true) tR)
  (hc:autoParam (eval (.Call fe [e] [] pos) C.env=(do callWith pos (← eval fe C.env) [] (backTo pos (starEach [e] C.env)) (backToKw pos (keywordEach [] C.env)))) tR) :
  EvX C σ O (.Call fe [e] [] pos) λ d O''=>d = .nat c.toNat∧O''=O':=
 .callB hf (.cons he .nil) (by
  intro s vs S hq0 Q hQ
  refine E12 (Vals.one hq0) λ v e1 ev=>?_
  have hh:v = .ref it:=ev; subst hh
  subst e1
  refine E13 (S.objs _ ha.mem) λ o ho Y1 _=>?_
  refine E12 Y1 λ t hcl hd=>?_
  clear Y1
  have hit:KBw.IsBytesIter s.heap it b t i:=⟨o,ho,hcl,hd⟩
  refine call_function_entry (by decide +kernel) (by kernel_rfl) kdk_entry_next (kdk_args_next _) ?_
  unfold Builtin.«next»
  refine wpAny_bind (m:=someArgs "next" 1 2 _) (wpAny_of_eq (a:=[Value.ref it]) (by first | rfl | kernel_rfl!) ?_)
  dsimp only
  refine wpAny_bind (wpAny_specialOf (name:=Str.ofString "__next__") (KBw.iter_typeIs hit) KBw.slot_next.lookup ?_)
  refine wpAny_ite_split (λ hab=>absurd hab (by decide)) (λ _=>?_)
  refine wpAny_bind (wpAny_callSpecial?_slot (name:=PySem.Str.ofString "__next__") (KBw.iter_typeIs hit) KBw.slot_next
   (wpAny_call_entry KBw.slot_next (KBw.iter_typeIs hit) KBw.entry_next ?_ (KBw.args_next _)))
  show wpAny _ _ (field (.ref it) 0 >>= _) _ _ s
  refine wpAny_bind (wpAny_field ho hd (x:=.bytes b t) rfl ?_)
  show wpAny _ _ (if (Value.bytes b t==Value.none)=true then _ else _) _ _ s
  rw [if_neg (show ¬ ((Value.bytes b t==Value.none)=true) from Bool.false_ne_true)]
  show wpAny _ _ (field (.ref it) 1 >>= _) _ _ s
  refine wpAny_bind (wpAny_field ho hd (x:=.int i 0) rfl ?_)
  refine wpAny_bind (wpAny_of_eq (a:=b) rfl ?_)
  simp only [Int.toNat_natCast,hb]
  have X:Eff [it] s { s with heap:=s.heap.update it (Obj.mapFields (·.setIfInBounds 1 (rawInt ((i:Int)+1)))),toks:=s.toks+1 }:=.but (Heap.SameBut.update ..) λ vs=>ShAt.noTup (S.objs _ ha.mem) vs
  have hd':(Obj.mapFields (·.setIfInBounds 1 (rawInt ((i:Int)+1))) o).data = .fields #[.bytes b t,.int ((i+1:Nat):Int) 0]:=by
   rw [Obj.data_mapFields hd]; simp [rawInt]
  refine wpAny_bind (wpAny_setField ho hd (by simp) (wpAny_bind (wpAny_mkInt (wpAny_pure ⟨_,rfl,wpAny_pure ⟨_,rfl,?_⟩⟩))))
  refine hQ _ _ _ _ ⟨rfl,rfl⟩ X.tk (S.put hp X ⟨_,Heap.get?_update_self _ ho (Obj.isFreed_of_fields (Obj.data_mapFields hd _)),⟨t,(Obj.cls_mapFields ..).trans hcl,hd'⟩,biterNo hd'⟩) ⟨_,rfl⟩) hs hc
theorem Truth.int {a:Int}:Truth C σ O (.int a) (a != 0):=by intro s v S hq0 Q hQ; refine E11 hq0 λ t e=>?_; try clear hq0; subst e; exact PyProof.Rows.truthy_int (hQ s (.refl _) S)
theorem Truth.nat {a:Nat}:Truth C σ O (.nat a) (a != 0):=by
 have:=Truth.int (C:=C) (σ:=σ) (O:=O) (a:=(a:Int))
 rw [show ((a:Int) != 0)=(a != 0) by rw [Bool.eq_iff_iff,bne_iff_ne,bne_iff_ne]; lia] at this; exact this
theorem Truth.str {x:Str} (hz:x.length≤sizeLine):Truth C σ O (.str x) (x.length != 0):=by
 intro s v S hq0 Q hQ
 refine E11 hq0 λ t e=>?_
 try clear hq0
 have hzz:sizeLine=16777216:=by decide +kernel
 subst e
 refine PySem.P.truthy_str (by lia) ?_
 rw [show ((x.length:Int) != 0)=(x.length != 0) by rw [Bool.eq_iff_iff,bne_iff_ne,bne_iff_ne]; lia]
 exact hQ _ (.refl _) S.tok
theorem Truth.list {l:Addr} {ds:List D} (ha:OAt O l (.list ds)) (hz:ds.length≤sizeLine):Truth C σ O (.ref l) (ds.length != 0):=λ s v S e Q hQ=>by
 have hzz:sizeLine=16777216:=by decide +kernel
 have hh:v = .ref l:=e; subst hh
 refine E12 (Zae (S.objs _ ha.mem)) λ items x hv=>?_
 refine wpAny_truthy_list x (by rw [hv.sizeA]; lia) ?_
 have h:=hv.sizeA
 rw [show (!items.isEmpty)=(ds.length != 0) by rw [← h,Array.isEmpty,Bool.eq_iff_iff,bne_iff_ne]; simp]
 exact hQ _ (.refl _) S.tok
theorem InOp.shlN {a b:Nat} (hb:b≤1000000) (ha:a < 2 ^ 64):InOp C σ O .LShift (.nat a) (.nat b) (.nat (a <<< b)):=by
 have:=InOp.shlInt (C:=C) (σ:=σ) (O:=O) (a:=a) (b:=b) (Int.natCast_nonneg b) (by lia) (by simpa using ha)
 rw [Int.toNat_natCast,show ((2:Int) ^ b)=((2 ^ b:Nat):Int) from (Int.natCast_pow 2 b).symm,← Int.natCast_mul,← Nat.shiftLeft_eq] at this
 exact this
def DMap {K:Type} [DecidableEq K] (C:Cx B) (O:Led) (knd:KeyKind B.prog B.w K) (d:Addr) (f:K→Option D):Prop:=
 ∀ {σ s},St C σ O s→(d==sysModules)=false∧∃ g,s.heap.MapOf knd d g∧∀ k,match f k with | none=>g k=none | some e=>∃ u,g k=some u∧Val s.heap u e
structure TopMap {K:Type} [DecidableEq K] (B:Bs) (knd:KeyKind B.prog B.w K) (d:Addr) (f:K→Option D):Prop where
 ne:(d==sysModules)=false
 at_:∀ h,B.G h→∃ g,h.MapOf knd d g∧∀ k,match f k with | none=>g k=none | some e=>∃ u,g k=some u∧Val h u e
theorem TopMap.map {K:Type} [DecidableEq K] {knd:KeyKind B.prog B.w K} {d:Addr} {f:K→Option D} (h:TopMap B knd d f):DMap C O knd d f:=λ S=>⟨h.ne,h.at_ _ S.top⟩
noncomputable abbrev Zfj (B:Bs):KeyKind B.prog B.w Str:=strKind B.prog B.w
noncomputable abbrev ikind (B:Bs):KeyKind B.prog B.w Int:=intKind B.prog B.w
noncomputable def Zcp {K:Type} [DecidableEq K] (es:List (K × D)) (k:K):Option D:=(es.find? λ e=>e.1=k).map (·.2)
theorem corr {h:Heap} {K:Type} [DecidableEq K] {kvs:List (K × Value)} {es:List (K × D)} (e:kvs.map (·.1)=es.map (·.1)) (hv:Vals h (kvs.map (·.2)) (es.map (·.2))) (k:K) :
  match Zcp es k with | none=>valueAt kvs k=none | some e=>∃ u,valueAt kvs k=some u∧Val h u e:=by
 induction es generalizing kvs with
 | nil=>cases (List.map_eq_nil_iff.mp e); rfl
 | cons b es ih=>
  cases kvs with
  | nil=>cases e
  | cons a kvs=>
   refine E02 (List.cons.inj e) λ e0 e2=>?_
   refine E23 hv λ u r e1 hu hr=>?_
   try clear hv
   refine E02 (List.cons.inj e1) λ r1 r2=>?_
   subst r1
   subst r2
   have ih:=ih e2 hr
   replace e0:a.1=b.1:=e0
   unfold Zcp valueAt at ih ⊢
   by_cases hk:b.1=k
   ·rewrite [List.find?_cons_of_pos (by exact decide_eq_true hk),List.find?_cons_of_pos (by exact decide_eq_true (e0.trans hk))]
    exact ⟨a.2,rfl,hu⟩
   ·rewrite [List.find?_cons_of_neg (by exact λ q=>hk (of_decide_eq_true q)),List.find?_cons_of_neg (by exact λ q=>hk (e0.symm.trans (of_decide_eq_true q)))]
    exact ih
theorem OAt.map {d:Addr} {es:List (Str × D)} (ha:OAt O d (.dict es)):DMap C O (Zfj B) d (Zcp es):=λ S=>by
 refine ⟨beq_eq_false_iff_ne.mpr (λ e=>S.low ha.mem (by rw [show (d,Sh.dict es).1=sysModules from e]; exact B.big)),?_⟩
 refine E13 (S.objs _ ha.mem) λ kvs hd e hv=>?_
 exact ⟨_,hd.mapOf,corr e hv⟩
def IsKey {K:Type} [DecidableEq K] (knd:KeyKind B.prog B.w K) (k:K) (dk:D):Prop:=∀ {h v},Val h v dk→knd.is k v=true
theorem Zdt {x:Str}:IsKey (Zfj B) x (.str x):=by intro _ _ hq0; refine E11 hq0 λ t e=>?_; try clear hq0; subst e; exact beq_self_eq_true x
theorem isKeyI {i:Int}:IsKey (ikind B) i (.int i):=by intro _ _ hq0; refine E11 hq0 λ t e=>?_; try clear hq0; subst e; exact beq_self_eq_true i
section
variable {K:Type} [DecidableEq K] {knd:KeyKind B.prog B.w K} {a:Addr} {f:K→Option D} {k:K} {dk d:D}
theorem Ev.dgetItem {ve ie:Expr} {pos:Pos} (hv:Ev C σ O ve (.ref a)) (hi:Ev C σ O ie dk) (hk:IsKey knd k dk) (hm:DMap C O knd a f) (hf:f k=some d)
  (hs:autoParam (∀ o i,subscripted ie false o i=operate [o,i] (getItem o i)) tJ):Ev C σ O (.Subscript ve ie pos) d:=
 .subs (T := "dict") hv hi slot_dict_getitem.lookup (λ s v S e=>by have hh:v = .ref a:=e; subst hh; refine E02 (hm S) λ _ Y1=>?_; refine E12 Y1 λ g hg _=>?_; clear Y1; exact hg.typeIs)
  (λ s v i S e ei Q hQ=>by
   have hh:v = .ref a:=e; subst hh
   refine E02 (hm S) λ _ Y1=>?_
   refine E12 Y1 λ g hg hc=>?_
   clear Y1
   have:=hc k
   rw [hf] at this
   refine E12 this λ u e1 hu=>?_
   try clear this
   exact wpAny_getItem_of (hk ei) hg e1 (hQ u _ (.refl _) S.tok hu)) hs
theorem Cmp.inD (hk:IsKey knd k dk) (hm:DMap C O knd a f):Cmp C σ O .In dk (.ref a) (f k).isSome:=λ s v u S ev eu Q hQ=>by
 have hh:u = .ref a:=eu; subst hh
 refine E02 (hm S) λ h0 Y1=>?_
 refine E12 Y1 λ g hg hc=>?_
 clear Y1
 have:=hc k
 refine wpAny_in_of (hk ev) h0 hg ?_
 have e:(g k).isSome=(f k).isSome:=by
  cases q:f k with
  | none=>rw [q] at this; rw [this]; rfl
  | some d=>rw [q] at this; refine E12 this λ u e _=>?_; try clear this; rw [e]; rfl
 rw [e]; exact hQ _ (.refl _) S.tok
theorem Cmp.notInD (hk:IsKey knd k dk) (hm:DMap C O knd a f):Cmp C σ O .NotIn dk (.ref a) (!(f k).isSome):=λ s v u S ev eu Q hQ=>by
 have hh:u = .ref a:=eu; subst hh
 refine E02 (hm S) λ h0 Y1=>?_
 refine E12 Y1 λ g hg hc=>?_
 clear Y1
 have:=hc k
 refine wpAny_notIn_of (hk ev) h0 hg ?_
 have e:(g k).isSome=(f k).isSome:=by
  cases q:f k with
  | none=>rw [q] at this; rw [this]; rfl
  | some d=>rw [q] at this; refine E12 this λ u e _=>?_; try clear this; rw [e]; rfl
 rw [e]; exact hQ _ (.refl _) S.tok
theorem Ev.dget2 {oe e₁ e₂:Expr} {apos pos:Pos} {dd:D} (ho:Ev C σ O oe (.ref a)) (h₁:Ev C σ O e₁ dk) (h₂:Ev C σ O e₂ dd) (hk:IsKey knd k dk) (hm:DMap C O knd a f)
  (hline:autoParam ((apos.endLine==pos.line)=true) tR) (hs:autoParam (Zac [e₁,e₂]=true) tR)
  (hbase:autoParam (attributeBase oe (Str.ofString "get") C.env (eval oe C.env)=eval oe C.env) tR)
  (hfew:autoParam (((backTo pos (starEach [e₁,e₂] C.env)).all (λ x=>!x.1)&&(backToKw pos (keywordEach [] C.env)).all (λ x=>x.1.isSome)
   && decide (([e₁,e₂]:List Expr).length+([]:List Keyword).length+(if ([]:List Keyword).isEmpty then 0 else 1) < 30))=true) tR) :
  Ev C σ O (.Call (.Attribute oe (Str.ofString "get") apos) [e₁,e₂] [] pos) ((f k).getD dd):=
 .ofX (.meth (T := "dict") ho (λ s v S hv=>by have hh:v = .ref a:=hv; subst hh; refine E02 (hm S) λ _ Y1=>?_; refine E12 Y1 λ g hg _=>?_; clear Y1; exact ⟨hg.typeIs,hg.noDict⟩) F.plainAttrs_dict F.slot_dict_get F.type_dict_get (.cons h₁ (.cons h₂ .nil))
  (by
   intro s v vs S hv hq0 Q hQ
   refine E23 (Vals.two hq0) λ u₁ u₂ e1 hu₁ hu₂=>?_
   have hh:v = .ref a:=hv; subst hh
   subst e1
   refine E02 (hm S) λ h0 Y1=>?_
   refine E12 Y1 λ g hg hc=>?_
   clear Y1
   have:=hc k
   refine call_meetsIn F.slot_dict_get hg.typeIs F.entry_dict_get (F.args_dict_get_3 _ _ _) (meets_dict_get_default knd a (hk hu₁) h0 u₂) ⟨g,hg,hQ _ _ _ _ ⟨rfl,rfl⟩ (.refl _) S.tok ?_⟩
   cases q:f k with
   | none=>rw [q] at this; rw [this]; exact hu₂
   | some d=>rw [q] at this; refine E12 this λ u e hu=>?_; try clear this; rw [e]; exact hu) hline hs hbase hfew)
theorem Ev.dget1 {oe e₁:Expr} {apos pos:Pos} (ho:Ev C σ O oe (.ref a)) (h₁:Ev C σ O e₁ dk) (hk:IsKey knd k dk) (hm:DMap C O knd a f)
  (hline:autoParam ((apos.endLine==pos.line)=true) tR) (hs:autoParam (Zac [e₁]=true) tR)
  (hbase:autoParam (attributeBase oe (Str.ofString "get") C.env (eval oe C.env)=eval oe C.env) tR)
  (hfew:autoParam (((backTo pos (starEach [e₁] C.env)).all (λ x=>!x.1)&&(backToKw pos (keywordEach [] C.env)).all (λ x=>x.1.isSome)
   && decide (([e₁]:List Expr).length+([]:List Keyword).length+(if ([]:List Keyword).isEmpty then 0 else 1) < 30))=true) tR) :
  Ev C σ O (.Call (.Attribute oe (Str.ofString "get") apos) [e₁] [] pos) ((f k).getD .none):=
 .ofX (.meth (T := "dict") ho (λ s v S hv=>by have hh:v = .ref a:=hv; subst hh; refine E02 (hm S) λ _ Y1=>?_; refine E12 Y1 λ g hg _=>?_; clear Y1; exact ⟨hg.typeIs,hg.noDict⟩) F.plainAttrs_dict F.slot_dict_get F.type_dict_get (.cons h₁ .nil)
  (by
   intro s v vs S hv hq0 Q hQ
   refine E12 (Vals.one hq0) λ u₁ e1 hu₁=>?_
   have hh:v = .ref a:=hv; subst hh
   subst e1
   refine E02 (hm S) λ h0 Y1=>?_
   refine E12 Y1 λ g hg hc=>?_
   clear Y1
   have:=hc k
   refine call_meetsIn F.slot_dict_get hg.typeIs F.entry_dict_get (F.args_dict_get_2 _ _) (meets_dict_get knd a (hk hu₁) h0) ⟨g,hg,hQ _ _ _ _ ⟨rfl,rfl⟩ (.refl _) S.tok ?_⟩
   cases q:f k with
   | none=>rw [q] at this; rw [this]; exact rfl
   | some d=>rw [q] at this; refine E12 this λ u e hu=>?_; try clear this; rw [e]; exact hu) hline hs hbase hfew)
end
theorem Zdg {h:Heap}:∀ {vs:List Value} {ys:List Str},Vals h vs (ys.map .str)→StrsAre vs ys
 | _,[],e=>by have hh:_=[]:=e; subst hh; exact .nil
 | _,n::ns,⟨v,r,e,⟨t,ev⟩,hr⟩=>by subst e; subst ev; exact .cons _ _ (Zdg hr)
theorem Zhj {h:Heap}:∀ {l:List (Str × Tok)},Vals h (strValues l) ((l.map (·.1)).map .str)
 | []=>rfl
 | p::l=>⟨_,_,rfl,⟨p.2,rfl⟩,Zhj⟩
theorem strT {s:Shared} {x:Str} {v:Value} (hv:Val s.heap v (.str x)):s.TypeIs v "str" ∧ ∀ a,v = .ref a→∃ ob,s.heap.get? a=some ob∧ob.dict=none:=by
 refine E11 hv λ t Y1=>?_
 try clear hv
 subst Y1
 exact ⟨typeIs_str _ _ _,λ a e=>nomatch e⟩
theorem Ev.join {oe e:Expr} {apos pos:Pos} {l:Addr} {sep:Str} {ys:List Str} (ho:Ev C σ O oe (.str sep)) (he:Ev C σ O e (.ref l)) (ha:OAt O l (.list (ys.map .str))) (hz:(ys.map (·.length)).sum+ys.length * sep.length≤16777216)
  (hline:autoParam ((apos.endLine==pos.line)=true) tR) (hs:autoParam (Zac [e]=true) tR)
  (hbase:autoParam (attributeBase oe (Str.ofString "join") C.env (eval oe C.env)=eval oe C.env) tR)
  (hfew:autoParam (((backTo pos (starEach [e] C.env)).all (λ x=>!x.1)&&(backToKw pos (keywordEach [] C.env)).all (λ x=>x.1.isSome)
   && decide (([e]:List Expr).length+([]:List Keyword).length+(if ([]:List Keyword).isEmpty then 0 else 1) < 30))=true) tR) :
  Ev C σ O (.Call (.Attribute oe (Str.ofString "join") apos) [e] [] pos) (.str (Txt.join sep ys)):=
 .ofX (.meth (T := "str") ho (λ s v S hv=>strT hv) F.plainAttrs_str F.slot_str_join F.type_str_join (.cons he .nil) (by
  intro s v vs S hq0 hq1 Q hQ
  refine E11 hq0 λ t ev=>?_
  try clear hq0
  refine E12 (Vals.one hq1) λ u e1 hu=>?_
  have hh:u = .ref l:=hu; subst hh
  subst ev; subst e1
  refine E12 (Zae (S.objs _ ha.mem)) λ items x hv=>?_
  exact join_list x (Zdg hv) hz λ t k=>hQ _ _ _ _ ⟨rfl,rfl⟩ (.refl _) S.tok ⟨_,rfl⟩) hline hs hbase hfew)
theorem Ev.joinX {oe e:Expr} {apos pos:Pos} {sep:Str} {ys:List Str} (ho:Ev C σ O oe (.str sep)) (he:EvX C σ O e λ d O'=>∃ l R,d = .ref l∧O'=(l,.list (ys.map .str))::R++O) (hz:(ys.map (·.length)).sum+ys.length * sep.length≤16777216)
  (hline:autoParam ((apos.endLine==pos.line)=true) tR) (hs:autoParam (Zac [e]=true) tR)
  (hbase:autoParam (attributeBase oe (Str.ofString "join") C.env (eval oe C.env)=eval oe C.env) tR)
  (hfew:autoParam (((backTo pos (starEach [e] C.env)).all (λ x=>!x.1)&&(backToKw pos (keywordEach [] C.env)).all (λ x=>x.1.isSome)
   && decide (([e]:List Expr).length+([]:List Keyword).length+(if ([]:List Keyword).isEmpty then 0 else 1) < 30))=true) tR) :
  Ev C σ O (.Call (.Attribute oe (Str.ofString "join") apos) [e] [] pos) (.str (Txt.join sep ys)):=λ s S Q hQ=>by
 refine wpAny_Call_method hbase hfew hline F.plainAttrs_str F.slot_str_join F.type_str_join (ho s S _ λ v s₁ t₁ S₁ hv=>?_)
 refine E02 (strT hv) λ h1 h2=>?_
 refine ⟨h1,h2,callWith_builtin (Zbz hs) (Zbh hs ?_)⟩
 rw [(Zaa (env:=C.env) hs).1]
 refine spliced_cons (he s₁ S₁ _ λ u s₂ d O' p t₂ S₂ hu=>spliced_nil ?_)
 refine E22 p λ l R Y1 Y2=>?_
 try clear p
 subst Y1
 subst Y2
 have hh:u = .ref l:=hu; subst hh
 refine E11 hv λ t Y1=>?_
 try clear hv
 subst Y1
 refine E12 (Zae (S₂.objs (l,.list (ys.map .str)) List.mem_cons_self)) λ items x hv=>?_
 exact join_list x (Zdg hv) hz λ t' k=>hQ _ _ (t₁.trans t₂) (St.back (R:=(l,.list (ys.map .str))::R) (S₂.tok (t:=k))) ⟨_,rfl⟩
theorem Ev.hex {fe e:Expr} {pos:Pos} {i:Int} (hf:Ev C σ O fe (.val (.builtin "hex"))) (he:Ev C σ O e (.int i)) (hz:(baseText "0x" 16 i).length≤sizeLine) (hs:autoParam (Zac [e]=true) tR)
  (hc:autoParam (eval (.Call fe [e] [] pos) C.env=(do callWith pos (← eval fe C.env) [] (backTo pos (starEach [e] C.env)) (backToKw pos (keywordEach [] C.env)))) tR):Ev C σ O (.Call fe [e] [] pos) (.str (baseText "0x" 16 i)):=
 .ofX (.callB hf (.cons he .nil) (by
  intro s vs S hq0 Q hQ
  refine E12 (Vals.one hq0) λ v e1 Y1=>?_
  refine E11 Y1 λ t ev=>?_
  clear Y1
  subst ev; subst e1
  exact P.hex_of_int (hQ _ _ _ _ ⟨rfl,rfl⟩ (.refl _) S.tok ⟨_,rfl⟩) hz) hs hc)
structure DefTop (B:Bs) (f:Addr) (st:Stmt) (q:Str) (dfl kwd:Value):Prop where
 at_:∃ o cd pm,o.data = .func (fdOf st q cd pm dfl kwd)∧(∀ h,B.G h→h.get? f=some o)∧∀ h,B.G h→h.CodeRec cd q
theorem DefTop.isDef {f:Addr} {st:Stmt} {q:Str} {dfl kwd:Value} (d:DefTop B f st q dfl kwd):IsDef B f:=by obtain ⟨o,cd,pm,e,h,_⟩:=d.at_; exact ⟨o,_,e,h⟩
structure In (C:Cx B) (st:Stmt) (cells:List (Str × Addr)):Prop where
 kinds:∀ {x k},(Zad st).names.lookup x=some k→C.env.kindOf x=some k
 cell:∀ {x a},cells.lookup x=some a→C.env.cells.lookup x=some a
theorem CallsC.of_def {f:Addr} {st:Stmt} {q:Str} {dfl kwd:Value} {ds:List D} {U:Led} {P:D→Led→Prop} {n:Nat} (d:DefTop B f st q dfl kwd)
  (σ₀:Loc) (cl:Loc) (cells:Addr→List (Str × Addr)) (hcells:∀ L,cellsFrom (L+1) (Zad st).names []=cells L) (hcl:∀ L,cl.map (·.1)=(cells L).map (·.1))
  (ok:((Zad st).isCoroutine=false∧(Zad st).isGenerator=false)∧(Zad st).kind = .function)
  (nd:(σ₀.map (·.1)).Nodup) (hn:∀ x ∈ σ₀.map (·.1),(Zad st).names.lookup x=some .local) (hc:(cl.map (·.1)).Nodup)
  (hb:∀ cd pm s vs,B.G s.heap→Vals s.heap vs ds→∃ binds,BindsTo s (fdOf st q cd pm dfl kwd) ⟨vs,[]⟩ binds ∧
   (∀ x∈binds,(Zad st).names.lookup x.1=some .local∨((Zad st).names.lookup x.1=some .cell∧x.1∈cl.map (·.1))) ∧
   LocOk s.heap (bindL (λ x=>(Zad st).names.lookup x) binds λ _=>none) σ₀∧Zin s.heap (bindC (λ x=>(Zad st).names.lookup x) binds λ _=>none) cl)
  (run:∀ (C:Cx B),In C st (cells C.env.locals)→C.n=n→Run C σ₀ (Zci cl (cells C.env.locals)++U) (Zcv st) (Ends C P)):CallsC B (n+1) (.ref f) ds U P:=by
 obtain ⟨o,cd,pm,e,h,c⟩:=d.at_
 refine CallsC.of_run ⟨⟨o,e,h⟩,c,rfl,rfl,ok.1.1,ok.1.2,ok.2,rfl,rfl⟩ (σ₀.map (·.1)) nd hn σ₀ rfl cl cells hcells hcl hc (hb cd pm) λ C hC hW hn' hN=>run C ⟨λ {x k} hx=>?_,λ {x a} hx=>?_⟩ hn'
 ·rw [hC]; exact hx
 ·rw [hC]
  show (cellsFrom (C.env.locals+1) (Zad st).names []).lookup x=some a
  rw [hcells]; exact hx
theorem Calls.of_def {f:Addr} {st:Stmt} {q:Str} {dfl kwd:Value} {ds:List D} {U:Led} {P:D→Led→Prop} {n:Nat} (d:DefTop B f st q dfl kwd)
  (σ₀:Loc) (cl:Loc) (cells:Addr→List (Str × Addr)) (hcells:∀ L,cellsFrom (L+1) (Zad st).names []=cells L) (hcl:∀ L,cl.map (·.1)=(cells L).map (·.1))
  (ok:((Zad st).isCoroutine=false∧(Zad st).isGenerator=false)∧(Zad st).kind = .function)
  (nd:(σ₀.map (·.1)).Nodup) (hn:∀ x ∈ σ₀.map (·.1),(Zad st).names.lookup x=some .local) (hc:(cl.map (·.1)).Nodup)
  (hb:∀ cd pm s vs,B.G s.heap→Vals s.heap vs ds→∃ binds,BindsTo s (fdOf st q cd pm dfl kwd) ⟨vs,[]⟩ binds ∧
   (∀ x∈binds,(Zad st).names.lookup x.1=some .local∨((Zad st).names.lookup x.1=some .cell∧x.1∈cl.map (·.1))) ∧
   LocOk s.heap (bindL (λ x=>(Zad st).names.lookup x) binds λ _=>none) σ₀∧Zin s.heap (bindC (λ x=>(Zad st).names.lookup x) binds λ _=>none) cl)
  (run:∀ (C:Cx B),In C st (cells C.env.locals)→C.n=n→Run C σ₀ (Zci cl (cells C.env.locals)++U) (Zcv st) (Ends C P)):Calls B (n+1) (.ref f) ds U P:=
 (CallsC.of_def d σ₀ cl cells hcells hcl ok nd hn hc hb run).calls
inductive Fg:Loc→Loc→Prop
 | nil:Fg [] []
 | keep {p:Str × Option D} {σ σ':Loc} (h:Fg σ σ'):Fg (p :: σ) (p :: σ')
 | drop {x:Str} {o:Option D} {σ σ':Loc} (h:Fg σ σ'):Fg ((x,o) :: σ) ((x,none) :: σ')
theorem Fg.fst (h:Fg σ σ') : σ'.map (·.1) = σ.map (·.1):=by
 induction h with
 | nil=>rfl
 | keep _ ih=>rw [List.map_cons,List.map_cons,ih]
 | drop _ ih=>rw [List.map_cons,List.map_cons,ih]
theorem Fg.mem (h:Fg σ σ'):∀ x d,(x,some d) ∈ σ'→(x,some d) ∈ σ:=by
 induction h with
 | nil=>intro x d h; exact h
 | keep _ ih=>
  intro x d hm
  rcases List.mem_cons.mp hm with rfl | hm
  ·exact List.mem_cons_self
  ·exact List.mem_cons_of_mem _ (ih x d hm)
 | drop _ ih=>
  intro x d hm
  rcases List.mem_cons.mp hm with q | hm
  ·cases q
  ·exact List.mem_cons_of_mem _ (ih x d hm)
theorem Fg.refl:∀ σ,Fg σ σ
 | []=>.nil
 | _::r=>.keep (Fg.refl r)
theorem St.forget {s:Shared} (S:St C σ O s) (h:Fg σ σ'):St C σ' O s:=
 ⟨S.top,h.fst.trans S.names,by obtain ⟨m,n,hm⟩:=S.loc; exact ⟨m,n,λ x d hx=>hm x d (h.mem x d hx)⟩,S.objs,S.ond,S.ol,S.own,S.eff⟩
theorem St.subl {s:Shared} (S:St C σ O s) (h:O'.Sublist O):St C σ O' s:=S.sub (λ p hp=>h.subset hp) (S.ond.sublist (h.map _))
theorem St.perm {s:Shared} (S:St C σ O s) (h:O'.Perm O):St C σ O' s:=S.sub (λ p hp=>h.mem_iff.mp hp) ((h.map _).nodup_iff.mpr S.ond)
theorem Run.done {K:Flow→Shared→Prop} (f:Fg σ σ') (h:O'.Sublist O) (k:∀ s,St C σ' O' s→K .next s):Run C σ O [] K:=.nil λ s S=>k s ((S.forget f).subl h)
noncomputable def cfnEs:List (Int × D):=flagNames.zipIdx.map λ p=>(((2 ^ p.2:Nat):Int),.str p.1)
noncomputable def ettEs:List (Str × D):=signs.map λ p=>(p.1,.nat p.2)
set_option genInjectivity false in
structure Top (B:Bs) where
 fA:Nat→Addr
 bn:∀ {x v},bnames.lookup x=some v→B.mg x=none∧B.mb x=some v
 gn:∀ {i},[5,8,9,12,13,66,67,69,70,71,72,73,74,75,76,77,78,79,80,81,82,83].contains i=true→B.mg (Zcc (stAt i))=some (.ref (fA i))∧DefTop B (fA i) (stAt i) (Zcc (stAt i)) .none .none
 eof:∃ t,B.mg "ENDMARKER" = some (.int 0 t)
 nt:∃ t,B.mg "NT_OFFSET" = some (.int 256 t)
 cfn:Addr
 cfnG:B.mg "COMPILER_FLAG_NAMES" = some (.ref cfn)
 cfnM:TopMap B (ikind B) cfn (Zcp cfnEs)
 ett:Addr
 ettG:B.mg "EXACT_TOKEN_TYPES" = some (.ref ett)
 ettM:TopMap B (Zfj B) ett (Zcp ettEs)
theorem Ev.bn {st:Stmt} {cells:List (Str × Addr)} {x:Str} {pos:Pos} {v:Value} (T:Top B) (I:In C st cells) (h:bnames.lookup x=some v) (hx:autoParam ((Zad st).names.lookup x=some .globalImplicit) tD) (hd:autoParam ((x==("__debug__" : Str))=false) tE) :
  Ev C σ O (.Name x pos) (.val v):=.bltn (I.kinds hx) (T.bn h).1 (T.bn h).2 hd
theorem Ev.gn {st:Stmt} {cells:List (Str × Addr)} {x:Str} {pos:Pos} (T:Top B) (I:In C st cells) (i:Nat) (h:autoParam ([5,8,9,12,13,66,67,69,70,71,72,73,74,75,76,77,78,79,80,81,82,83].contains i=true) tE) (hx:autoParam ((Zad st).names.lookup x=some .globalImplicit) tD)
  (e:autoParam ((Zcc (stAt i)==x)=true) tE) (hd:autoParam ((x==("__debug__" : Str))=false) tE) :
  Ev C σ O (.Name x pos) (.ref (T.fA i)):=.glob (I.kinds hx) (by rw [← eq_of_beq e]; exact (T.gn h).1) (λ _ _=>rfl) hd
noncomputable def Zay:List Str→Loc:=λ xs=>xs.map λ x=>(x,none)
theorem noneOk {h:Heap} {m:Str→Option Value}:∀ xs,LocOk h m (Zay xs)
 | []=>trivial
 | x::xs=>noneOk xs
theorem Zkq {h:Heap}:∀ xs,Zin h (λ _=>none) (Zay xs)
 | []=>trivial
 | x::xs=>⟨rfl,Zkq xs⟩
theorem Calls.def1 {f:Addr} {st:Stmt} {q:Str} {dfl kwd:Value} {d:D} {U:Led} {P:D→Led→Prop} {n:Nat} (T:DefTop B f st q dfl kwd) (p:Str) (rest cnames:List Str) (cells:Addr→List (Str × Addr)) 
  (run:∀ (C:Cx B),In C st (cells C.env.locals)→C.n=n→Run C ((p,some d)::Zay rest) (Zci (Zay cnames) (cells C.env.locals)++U) (Zcv st) (Ends C P))
  (hcells:autoParam (∀ L,cellsFrom (L+1) (Zad st).names []=cells L) tL) (hcl:autoParam (∀ L,(Zay cnames).map (·.1)=(cells L).map (·.1)) tL)
  (ok:((Zad st).isCoroutine=false∧(Zad st).isGenerator=false)∧(Zad st).kind = .function:=by exact ⟨⟨rfl,rfl⟩,rfl⟩)
  (nd:autoParam ((p::rest).Nodup) tD) (hn:autoParam (∀ x∈p::rest,(Zad st).names.lookup x=some .local) tD) (hc:autoParam (cnames.Nodup) tD)
  (hb:autoParam (∀ cd pm v,bindArgs (fdOf st q cd pm dfl kwd) ⟨[v],[]⟩=pure [(p,v)]) tK):Calls B (n+1) (.ref f) [d] U P:=by
 have e:∀ xs:List Str,(Zay xs).map (·.1)=xs:=λ xs=>by simp [Zay,Function.comp_def]
 refine .of_def T ((p,some d)::Zay rest) (Zay cnames) cells hcells hcl ok (by rw [List.map_cons,e]; exact nd) (by rw [List.map_cons,e]; exact hn) (by rw [e]; exact hc) (λ cd pm s vs _ hw=>?_) run
 refine E12 (Vals.one hw) λ v Y1 hv=>?_
 subst Y1
 have hk:=hn p List.mem_cons_self
 refine ⟨_,BindsTo.of_eq (hb cd pm v),λ x hx=>.inl ?_,⟨⟨v,?_,hv⟩,noneOk _⟩,?_⟩
 ·rw [List.mem_singleton.mp hx]; exact hk
 ·simp only [bindL,if_pos hk,if_true]
 ·simp only [bindC,if_pos hk]; exact Zkq _
theorem Calls.def2 {f:Addr} {st:Stmt} {q:Str} {dfl kwd:Value} {d₁ d₂:D} {U:Led} {P:D→Led→Prop} {n:Nat} (T:DefTop B f st q dfl kwd) (p₁ p₂:Str) (rest cnames:List Str) (cells:Addr→List (Str × Addr)) 
  (run:∀ (C:Cx B),In C st (cells C.env.locals)→C.n=n→Run C ((p₁,some d₁)::(p₂,some d₂)::Zay rest) (Zci (Zay cnames) (cells C.env.locals)++U) (Zcv st) (Ends C P))
  (hcells:autoParam (∀ L,cellsFrom (L+1) (Zad st).names []=cells L) tL) (hcl:autoParam (∀ L,(Zay cnames).map (·.1)=(cells L).map (·.1)) tL)
  (ok:((Zad st).isCoroutine=false∧(Zad st).isGenerator=false)∧(Zad st).kind = .function:=by exact ⟨⟨rfl,rfl⟩,rfl⟩)
  (nd:autoParam ((p₁::p₂::rest).Nodup) tD) (hn:autoParam (∀ x∈p₁::p₂::rest,(Zad st).names.lookup x=some .local) tD) (hc:autoParam (cnames.Nodup) tD)
  (hb:autoParam (∀ cd pm v u,bindArgs (fdOf st q cd pm dfl kwd) ⟨[v,u],[]⟩=pure [(p₁,v),(p₂,u)]) tK):Calls B (n+1) (.ref f) [d₁,d₂] U P:=by
 have e:∀ xs:List Str,(Zay xs).map (·.1)=xs:=λ xs=>by simp [Zay,Function.comp_def]
 refine .of_def T ((p₁,some d₁)::(p₂,some d₂)::Zay rest) (Zay cnames) cells hcells hcl ok (by rw [List.map_cons,List.map_cons,e]; exact nd) (by rw [List.map_cons,List.map_cons,e]; exact hn) (by rw [e]; exact hc) (λ cd pm s vs _ hw=>?_) run
 refine E23 (Vals.two hw) λ v u Y1 hv hu=>?_
 subst Y1
 have hk:=hn p₁ List.mem_cons_self
 have hk2:=hn p₂ (List.mem_cons_of_mem _ List.mem_cons_self)
 have ne:p₁ ≠ p₂:=λ q=>(List.nodup_cons.mp nd).1 (q ▸ List.mem_cons_self)
 refine ⟨_,BindsTo.of_eq (hb cd pm v u),λ x hx=>.inl ?_,⟨⟨v,?_,hv⟩,⟨u,?_,hu⟩,noneOk _⟩,?_⟩
 ·rcases List.mem_cons.mp hx with rfl | hx
  ·exact hk
  ·rw [List.mem_singleton.mp hx]; exact hk2
 ·simp only [bindL,if_pos hk,if_pos hk2,if_true,if_neg ne]
 ·simp only [bindL,if_pos hk,if_pos hk2,if_true]
 ·simp only [bindC,if_pos hk,if_pos hk2]; exact Zkq _
theorem Ends.of {v:Value} {s:Shared} {d:D} {P:D→Led→Prop} {U':Led} (hP:P d U') (S:St C σ O s) (h:U'.Sublist O) (x:Val s.heap v d):Ends C P (.ret v) s:=
 ⟨d,U',σ,O,hP,S,λ p hp=>h.subset hp,S.ond.sublist (h.map _),x⟩
noncomputable def Zcb (xs:List Int):Nat→List Int
 | 0=>[6,8,17,59,1312]
 | i+1=>match (xs.take 60)[i]? with
  | some x=>(Zcb xs i).set (i % 5) ((Zcb xs i)[i % 5]?.getD 0+x.fmod 1000000)
  | none=>Zcb xs i
theorem Zcn (xs:List Int):∀ i,(Zcb xs i).length=5
 | 0=>rfl
 | i+1=>by
  unfold Zcb
  cases (xs.take 60)[i]? with
  | some x=>rw [List.length_set]; exact Zcn xs i
  | none=>exact Zcn xs i
noncomputable def numsOf (xs:List Int):List Int:=Zcb xs (xs.take 60).length
theorem Zkp (T:Top B) {l:Addr} {xs:List Int} (hz:xs.length≤sizeLine) (hl:∀ h,B.G h→ShAt B h l (.list (xs.map .int))) :
  Calls B 1 (.ref (T.fA 69)) [.ref l] [] λ d O'=>∃ a,d = .ref a∧O'=[(a,.list ((numsOf xs).map .int))]:=by
 refine .def1 (T.gn (i:=69) (by kernel_rfl)).2 "script" ["numbers", "place", "x"] [] (λ _=>[]) λ C I hn=>?_
 refine Run.kabs λ K hE=>?_
 refine Run.assignX1 (EvX.list (ds:=[.int 6,.int 8,.int 17,.int 59,.int 1312]) (.cons .int (.cons .int (.cons .int (.cons .int (.cons .int .nil)))))) λ a=>?_
 refine ⟨_,.q1,?_⟩
 refine Run.forX (.enum (P:=λ l' ds O'=>ds=(xs.take 60).map .int∧O'=(l',.list ds)::(a,.list [.int 6,.int 8,.int 17,.int 59,.int 1312])::[]) (.bn T I rfl) (.mono (.sliceG (.name .z) (λ s S=>hl _ S.top) .none (.some .int) (by simpa using hz)) ?_)) ?_
 ·refine ex1 λ c=>?_
  refine ⟨c,_,rfl,List.mem_cons_self,?_,rfl⟩
  show lpart _ none (some ((60:Nat):Int))=_
  rw [lpart_upto,List.map_take]
 intro O₁ N es hq0
 refine E23 hq0 λ c ds Y1 Y2 Y3=>?_
 try clear hq0
 subst Y2
 subst Y3
 refine E02 Y1 λ Y4 Y5=>?_
 clear Y1
 subst Y4
 subst Y5
 have hlen:(((xs.take 60).map D.int).zipIdx.map λ z=>D.tup [.int z.2,z.1]).length=(xs.take 60).length:=by simp only [List.length_map,List.length_zipIdx]
 refine ⟨λ i=>[("script",some (.ref l)),("numbers",some (.ref a)),("place",none),("x",none)],
  λ i=>[(c,.list ((xs.take 60).map .int)),(a,.list ((Zcb xs i).map .int))],λ _=>False,?_⟩
 refine ⟨⟨rfl,rfl⟩,λ i _=>List.mem_cons_self,λ i d hd S=>?_,?_,λ _ h=>h.elim⟩
 ·obtain ⟨x,hx,rfl⟩:∃ x,(xs.take 60)[i]? = some x∧d = .tup [.int i,.int x]:=by
   simp only [List.getElem?_map,List.getElem?_zipIdx] at hd
   cases q:(xs.take 60)[i]? with
   | none=>rw [q] at hd; cases hd
   | some x=>rw [q] at hd; exact ⟨x,rfl,by simpa using (Option.some.inj hd).symm⟩
  have h5:=Zcn xs i
  have hf:(i:Int).fmod 5=((i % 5:Nat):Int):=by rw [Int.fmod_eq_emod_of_nonneg _ (by decide)]; rfl
  have hp:plc ((i:Int).fmod 5) 5=i % 5:=by rw [hf]; unfold plc; rw [if_neg (by lia)]; rfl
  have hi5:i % 5 < 5:=Nat.mod_lt _ (by decide)
  refine ⟨_,_,.tup2 (.name .q2) (.name .q3),?_⟩
  refine .augItem (ds:=(Zcb xs i).map .int) (d:=.int ((Zcb xs i)[i % 5]?.getD 0)) (.name .q1) (.mod (.name .q2) .int (by decide)) .q1 ?_ (.mod (.name .q3) .int (by decide)) .addInt .q1 ?_ ?_ ?_ ?_
  ·rw [List.length_map,h5,hp,List.getElem?_map]
   rw [List.getElem?_eq_getElem (by rw [h5]; exact hi5)]
   rfl
  ·refine .done (.keep (.keep (.drop (.drop .nil)))) (.refl _) λ s S'=>?_
   rw [List.length_map,h5,hp] at S'
   have e:Zcb xs (i+1)=(Zcb xs i).set (i % 5) ((Zcb xs i)[i % 5]?.getD 0+x.fmod 1000000):=by
    show (match (xs.take 60)[i]? with | some x=>_ | none=>_)=_
    rw [hx]
   show St C _ ([(c,_),(a,.list ((Zcb xs (i+1)).map .int))]++S (i+1)) s
   rw [e,List.map_set]
   exact S'
  ·rw [List.length_map,h5,hf]; lia
  ·rw [List.length_map,h5,hf]; lia
  ·rw [List.length_map,h5]; decide +kernel
 ·rw [hlen]
  refine .next (.ret (.name .q1) ?_)
  intro v s S hv
  exact hE _ _ ⟨_,_,_,_,⟨_,rfl,rfl⟩,S,λ p hp=>List.mem_cons_of_mem _ hp,(List.nodup_cons.mp S.ond).2,hv⟩
noncomputable def sym1 (n:Nat) (p:List Nat × Nat):List Nat × Nat:=if (n % 4==3&&decide (1 < p.2))=true then (p.1++[0],p.2 - 1) else p
noncomputable def sym2 (n:Nat) (p:List Nat × Nat):List Nat × Nat:=if (n % 4==2)=true then (p.1++[256+n / 4 % 16],p.2+1) else (p.1++[16+n / 4 % 16],p.2)
noncomputable def Zby (p:List Nat × Nat) (n:Nat):List Nat × Nat:=sym2 n (sym1 n p)
noncomputable def Zdk (ns:List Nat) (i:Nat):List Nat × Nat:=(ns.take i).foldl Zby ([256],1)
noncomputable def Zau (ns:List Nat):List Nat:=(ns.foldl Zby ([256],1)).1++List.replicate (ns.foldl Zby ([256],1)).2 0
theorem Zej (ns:List Nat):∀ i,(Zdk ns i).1.length≤1+2 * i∧(Zdk ns i).2≤1+i∧1≤(Zdk ns i).2
 | 0=>by simp [Zdk]
 | i+1=>by
  refine E03 (Zej ns i) λ a b c=>?_
  cases h:ns[i]? with
  | none=>
   have:Zdk ns (i+1)=Zdk ns i:=by
    unfold Zdk; rw [List.take_add_one,h]; simp
   rw [this]; lia
  | some n=>
   have:Zdk ns (i+1)=Zby (Zdk ns i) n:=Zeo _ _ _ h
   rw [this]
   generalize Zdk ns i=p at *
   unfold Zby sym1 sym2
   split <;> split <;> simp_all <;> lia
theorem Zjz (T:Top B) {l:Addr} {ns:List Nat} (hz:ns.length≤1000) :
  Calls B 1 (.ref (T.fA 70)) [.ref l] [(l,.list (ns.map D.nat))] λ d O'=>∃ a,d = .ref a∧O'=[(a,.list ((Zau ns).map D.nat)),(l,.list (ns.map D.nat))]:=by
 have hzz:sizeLine=16777216:=by decide +kernel
 refine .def1 (T.gn (i:=70) (by kernel_rfl)).2 "numbers" ["symbols", "depth", "number", "own"] [] (λ _=>[]) λ C I hn=>?_
 refine Run.kabs λ K hE=>?_
 refine Run.assignX1 (EvX.list (ds:=[.nat 256]) (.cons (.intN 256) .nil)) λ a=>?_
 refine ⟨_,.q1,?_⟩
 refine .assign (.intN 1) .q2 ?_
 refine Run.for_ (.list (l:=l) (ds:=ns.map D.nat) (Ev.name .z).toX (List.mem_cons_of_mem _ List.mem_cons_self))
  (λ i=>[("numbers",some (.ref l)),("symbols",some (.ref a)),("depth",some (.nat (Zdk ns i).2)),("number",none),("own",none)])
  (λ i=>[(a,.list ((Zdk ns i).1.map D.nat)),(l,.list (ns.map D.nat))]) (Kb:=λ _=>False) ⟨⟨rfl,rfl⟩,λ i _=>List.mem_cons_of_mem _ List.mem_cons_self,λ i d hd S=>?_,?_,λ _ h=>h.elim⟩
 ·obtain ⟨n,hx,rfl⟩:∃ n,ns[i]? = some n∧d = .nat n:=by
   rw [List.getElem?_map] at hd
   cases q:ns[i]? with
   | none=>rw [q] at hd; cases hd
   | some x=>rw [q] at hd; exact ⟨x,rfl,(Option.some.inj hd).symm⟩
  have hi:i < ns.length:=(List.getElem?_eq_some_iff.mp hx).1
  have e1:Zdk ns (i+1)=Zby (Zdk ns i) n:=Zeo _ _ _ hx
  refine E03 (Zej ns i) λ z1 z2 z3=>?_
  rw [e1]
  generalize Zdk ns i=p at z1 z2 z3 ⊢
  have z4:(sym1 n p).1.length≤2+2 * i:=by unfold sym1; split; { simp only [List.length_append,List.length_singleton]; exact Wn [_,_] (.a (.v 0) (.n 1)) (.a (.n 2) (.m 2 (.v 1))) [(1,.v 0,.a (.n 1) (.m 2 (.v 1)))] rfl z1 }; exact Wn [_,_] (.v 0) (.a (.n 2) (.m 2 (.v 1))) [(1,.v 0,.a (.n 1) (.m 2 (.v 1)))] rfl z1
  unfold Zby
  refine ⟨_,_,.name .q3,?_⟩
  refine .assign (.modN (.divN (.name .q3) (.intN 4) (by decide) (by decide)) (.intN 16) (by decide)) .q4 ?_
  refine .iteJ [("numbers",some (.ref l)),("symbols",some (.ref a)),("depth",some (.nat (sym1 n p).2)),("number",some (.nat n)),("own",some (.nat (n / 4 % 16)))]
   ([(a,.list ((sym1 n p).1.map D.nat)),(l,.list (ns.map D.nat))]++S (i+1))
   (.and (.cmp (.modN (.name .q3) (.intN 4) (by decide)) (.intN 3) .eqN) λ _=>.cmp (.name .q2) (.intN 1) .gtN) (λ hb=>?_) (λ hb=>?_) ?_
  ·refine .expr (.append (ds:=p.1.map D.nat) (d:=.nat 0) (.name .q1) .z (.intN 0) .z (by rw [List.length_map]; exact Wn [_,_,_] (.v 0) (.n 16777216) [(1,.v 0,.a (.n 1) (.m 2 (.v 1))),(2,.a (.v 1) (.n 1),.v 2),(2,.v 2,.n 1000)] rfl z1 hi hz)) ?_
   refine .aug .q2 (.intN 1) (.subN (by assumption)) .q2 ?_
   refine .nil λ s S'=>?_
   unfold sym1
   rw [if_pos hb]
   simpa using S'
  ·refine .nil λ s S'=>?_
   unfold sym1
   rw [hb,if_neg Bool.false_ne_true]
   exact S'
  generalize sym1 n p=q at z4 ⊢
  refine .ite (.cmp (.modN (.name .q3) (.intN 4) (by decide)) (.intN 2) .eqN) (λ hb=>?_) (λ hb=>?_)
  ·refine .expr (.append (ds:=q.1.map D.nat) (d:=.nat (256+n / 4 % 16)) (.name .q1) .z (.addN (.intN 256) (.name .q4)) .z (by rw [List.length_map]; exact Wn [_,_,_] (.v 0) (.n 16777216) [(1,.v 0,.a (.n 2) (.m 2 (.v 1))),(2,.a (.v 1) (.n 1),.v 2),(2,.v 2,.n 1000)] rfl z4 hi hz)) ?_
   refine .aug .q2 (.intN 1) .addN .q2 ?_
   refine .next (.done (.keep (.keep (.keep (.drop (.drop .nil))))) (.refl _) λ s S'=>?_)
   unfold sym2
   rw [if_pos hb]
   simpa using S'
  ·refine .expr (.append (ds:=q.1.map D.nat) (d:=.nat (16+n / 4 % 16)) (.name .q1) .z (.addN (.intN 16) (.name .q4)) .z (by rw [List.length_map]; exact Wn [_,_,_] (.v 0) (.n 16777216) [(1,.v 0,.a (.n 2) (.m 2 (.v 1))),(2,.a (.v 1) (.n 1),.v 2),(2,.v 2,.n 1000)] rfl z4 hi hz)) ?_
   refine .next (.done (.keep (.keep (.keep (.drop (.drop .nil))))) (.refl _) λ s S'=>?_)
   unfold sym2
   rw [hb,if_neg Bool.false_ne_true]
   simpa using S'
 ·refine E03 (Zej ns ns.length) λ z1 z2 z3=>?_
  have e:Zdk ns ns.length=ns.foldl Zby ([256],1):=Ziv _ _ _
  rw [List.length_map]
  unfold Zau at hE
  rw [← e] at hE
  generalize Zdk ns ns.length=p at z1 z2 z3 hE ⊢
  refine .next (.retX (.bin (Ev.name .q1).toX (P2:=λ _ _ e O2=>∃ b c,e = .ref b∧O2=[(b,.list (List.replicate p.2 (.nat 0))),(c,.list [.nat 0]),(a,.list (p.1.map D.nat)),(l,.list (ns.map D.nat))])
   (P:=λ d O'=>∃ r b c,d = .ref r∧O'=[(r,.list ((p.1++List.replicate p.2 0).map D.nat)),(b,.list (List.replicate p.2 (.nat 0))),(c,.list [.nat 0]),(a,.list (p.1.map D.nat)),(l,.list (ns.map D.nat))])
   (λ d O1 ⟨e1,e2⟩=>?_) ?_) ?_)
  ·subst e1; subst e2
   refine .bin (.list (.cons (.intN 0) .nil)) (λ d O1 ⟨c,e1,e2⟩=>?_) ?_ (P2:=λ _ O1 e O2=>e = .nat p.2∧O2=O1)
   ·subst e1; subst e2; exact Ev.toX (.name .q2)
   ·intro d O1 e O2 hq0 hq1 s v u S ev eu Q hQ
    refine E12 hq0 λ c Y1 Y2=>?_
    try clear hq0
    subst Y1
    subst Y2
    refine E02 hq1 λ Y1 Y2=>?_
    try clear hq1
    subst Y1
    subst Y2
    refine BinX.mulList1 .z (by lia) (by lia) s v u S ev eu Q λ r s' f O' ⟨b,e1,e2⟩=>hQ r s' f O' ⟨b,c,e1,?_⟩
    rw [e2,Int.toNat_natCast]
  ·intro d O1 e O2 hq0 hq1 s v u S ev eu Q hQ
   refine E02 hq0 λ Y1 Y2=>?_
   try clear hq0
   subst Y1
   subst Y2
   refine E22 hq1 λ b c Y1 Y2=>?_
   try clear hq1
   subst Y1
   subst Y2
   refine BinX.addList .q2 .z (by simp; exact Wn [_,_,_] (.a (.v 0) (.v 1)) (.n 16777216) [(1,.v 1,.a (.n 1) (.v 2)),(1,.v 0,.a (.n 1) (.m 2 (.v 2))),(3,.v 2,.n 1000)] rfl z2 z1 hz) s v u S ev eu Q λ r s' f O' ⟨x,e1,e2⟩=>hQ r s' f O' ⟨x,b,c,e1,?_⟩
   rw [e2,List.map_append,List.map_replicate]
  ·intro v s d O' hq0 S x
   refine E32 hq0 λ r b c Y1 Y2=>?_
   try clear hq0
   subst Y1
   subst Y2
   exact hE _ _ (Ends.of ⟨r,rfl,rfl⟩ S (.cons₂ _ (.cons _ (.cons _ (.cons _ (.refl _))))) x)
noncomputable def oct1 (p:Nat × Nat):List Nat:=[64+p.1 / 64+p.2 % 2 * 128,p.1 % 64]
noncomputable def Zit (xs:List Nat) (i:Nat):List Nat:=(xs.zipIdx.take i).flatMap oct1
noncomputable def Zfm (xs:List Nat):List Nat:=xs.zipIdx.flatMap oct1
theorem Zeg (xs:List Nat):∀ i,(Zit xs i).length≤2 * i
 | 0=>by simp [Zit]
 | i+1=>by
  have:=Zeg xs i
  unfold Zit at this ⊢
  rw [List.take_add_one,List.flatMap_append,List.length_append]
  cases xs.zipIdx[i]? with
  | none=>simp only [Option.toList_none,List.flatMap_nil,List.length_nil]; exact Wn [_,_] (.a (.v 0) (.n 0)) (.m 2 (.a (.v 1) (.n 1))) [(1,.v 0,.m 2 (.v 1))] rfl this
  | some p=>simp only [Option.toList_some,List.flatMap_cons,List.flatMap_nil,oct1,List.length_append,List.length_cons,List.length_nil]; exact Wn [_,_] (.a (.v 0) (.a (.a (.a (.n 0) (.n 1)) (.n 1)) (.n 0))) (.m 2 (.a (.v 1) (.n 1))) [(1,.v 0,.m 2 (.v 1))] rfl this
theorem octs_small {xs:List Nat} (h:∀ x∈xs,x < 512):∀ n∈Zfm xs,n < 256:=by
 intro n hn
 refine E11 (List.mem_flatMap.mp hn) λ Y1 Y2=>?_
 rcases Y1 with ⟨x,i⟩
 refine E02 Y2 λ hp hm=>?_
 clear Y2
 have hx:x < 512:=h x (List.fst_mem_of_mem_zipIdx hp)
 simp only [oct1,List.mem_cons,List.not_mem_nil,or_false] at hm
 lia
theorem tape_calls (T:Top B) {l:Addr} {xs:List Nat} (hz:xs.length≤1000) (hx:∀ x∈xs,x < 512) :
  Pure B 1 (.ref (T.fA 71)) [.ref l] [(l,.list (xs.map D.nat))] (.bytes (byteArr ((Zfm xs).map λ (n:Nat)=>(n:Int)))):=by
 have hzz:sizeLine=16777216:=by decide +kernel
 refine .def1 (T.gn (i:=71) (by kernel_rfl)).2 "symbols" ["octets", "place", "symbol"] [] (λ _=>[]) λ C I hn=>?_
 refine Run.kabs λ K hE=>?_
 refine Run.assignX1 (EvX.list .nil) λ a=>?_
 refine ⟨_,.q1,?_⟩
 refine Run.forX (.enum (P:=λ l' ds O'=>l'=l∧ds=xs.map D.nat∧O'=[(a,.list []),(l,.list (xs.map D.nat))]) (.bn T I rfl) (.mono (Ev.name .z).toX ?_)) ?_
 ·refine ex0 ?_
  exact ⟨l,_,rfl,List.mem_cons_of_mem _ List.mem_cons_self,rfl,rfl,rfl⟩
 intro O₁ N es hq0
 refine E23 hq0 λ l' ds Y1 Y2 Y3=>?_
 try clear hq0
 subst Y2
 subst Y3
 refine E03 Y1 λ Y4 Y5 Y6=>?_
 clear Y1
 subst Y4
 subst Y5
 subst Y6
 have hlen:((xs.map D.nat).zipIdx.map λ z=>D.tup [.int z.2,z.1]).length=xs.length:=by simp only [List.length_map,List.length_zipIdx]
 refine ⟨λ i=>[("symbols",some (.ref l')),("octets",some (.ref a)),("place",none),("symbol",none)],λ i=>[(a,.list ((Zit xs i).map D.nat)),(l',.list (xs.map D.nat))],λ _=>False,
  ⟨⟨rfl,rfl⟩,λ i _=>List.mem_cons_of_mem _ List.mem_cons_self,λ i d hd S=>?_,?_,λ _ h=>h.elim⟩⟩
 ·obtain ⟨x,hx,rfl⟩:∃ x,xs[i]? = some x∧d = .tup [.nat i,.nat x]:=by
   simp only [List.getElem?_map,List.getElem?_zipIdx] at hd
   cases q:xs[i]? with
   | none=>rw [q] at hd; cases hd
   | some x=>rw [q] at hd; exact ⟨x,rfl,by simpa using (Option.some.inj hd).symm⟩
  have hi:i < xs.length:=(List.getElem?_eq_some_iff.mp hx).1
  have hz':=Zeg xs i
  refine ⟨_,_,.tup2 (.name .q2) (.name .q3),?_⟩
  refine .augList (ds:=(Zit xs i).map D.nat) .q1 .z (.cons (.addN (.addN (.intN 64) (.divN (.name .q3) (.intN 64) (by decide) (by decide))) (.mulN (.modN (.name .q2) (.intN 2) (by decide)) (.intN 128) (by decide)))
   (.cons (.modN (.name .q3) (.intN 64) (by decide)) .nil)) .z ?_ (by rw [List.length_map,List.length_cons,List.length_cons,List.length_nil]; exact Wn [_,_,_] (.a (.v 0) (.a (.a (.n 0) (.n 1)) (.n 1))) (.n 16777216) [(1,.v 0,.m 2 (.v 1)),(2,.a (.v 1) (.n 1),.v 2),(2,.v 2,.n 1000)] rfl hz' hi hz)
  refine .done (.keep (.keep (.drop (.drop .nil)))) (.refl _) λ s S'=>?_
  have e:Zit xs (i+1)=Zit xs i++oct1 (x,i):=by
   unfold Zit
   rw [List.take_add_one,List.flatMap_append,List.getElem?_zipIdx,hx]
   simp
  rw [e,List.map_append]
  exact S'
 ·rw [hlen]
  have e:Zit xs xs.length=Zfm xs:=by
   unfold Zit Zfm
   rw [← List.length_zipIdx (l:=xs),List.take_length]
  rw [e]
  have e2:(Zfm xs).map D.nat=((Zfm xs).map λ (n:Nat)=>(n:Int)).map .int:=by rw [List.map_map]; rfl
  rw [e2]
  refine .next (.ret (.bytes (ns:=(Zfm xs).map λ (n:Nat)=>(n:Int)) (.bn T I rfl) (.name .q1) .z ?_ ?_) λ v s S hv=>hE _ _ (Ends.of ⟨rfl,rfl⟩ S (.cons _ (.refl _)) hv))
  ·intro n hn
   refine E12 (List.mem_map.mp hn) λ m hm Y1=>?_
   subst Y1
   have:=octs_small hx m hm
   lia
  ·have:=Zeg xs xs.length
   rw [e] at this
   rw [List.length_map]; exact Wn [_,_] (.v 0) (.n 16777216) [(1,.v 0,.m 2 (.v 1)),(2,.v 1,.n 1000)] rfl this hz
theorem Zbt {α : Type} {f : α→D} {xs:List α} {i:Nat} {d:D} (h:(xs.map f)[i]? = some d):∃ x,xs[i]? = some x∧d=f x:=by
 rw [List.getElem?_map] at h
 cases q:xs[i]? with
 | none=>rw [q] at h; cases h
 | some x=>rw [q] at h; exact ⟨x,rfl,(Option.some.inj h).symm⟩
noncomputable def com1 (p:Nat) (c r:Nat):Nat:=if (r &&& p==p)=true then c &&& r else c
noncomputable def Zbk (p:Nat) (rows:List Nat):Nat:=rows.foldl (com1 p) 15
theorem Zgo (T:Top B) {l:Addr} {p:Nat} {rows:List Nat}:Pure B 1 (.ref (T.fA 77)) [.nat p,.ref l] [(l,.list (rows.map D.nat))] (.nat (Zbk p rows)):=by
 refine .def2 (T.gn (i:=77) (by kernel_rfl)).2 "places" "rows" ["common", "row"] [] (λ _=>[]) λ C I hn=>?_
 refine Run.kabs λ K hE=>?_
 refine .assign (.intN 15) .q2 ?_
 refine Run.for_ (.list (l:=l) (ds:=rows.map D.nat) (Ev.name .q1).toX List.mem_cons_self)
  (λ i=>[("places",some (.nat p)),("rows",some (.ref l)),("common",some (.nat ((rows.take i).foldl (com1 p) 15))),("row",none)])
  (λ i=>[(l,.list (rows.map D.nat))]) (Kb:=λ _=>False) ⟨⟨rfl,rfl⟩,λ i _=>List.mem_cons_self,λ i d hd S=>?_,?_,λ _ h=>h.elim⟩
 ·refine E12 (Zbt hd) λ r hx Y1=>?_
  subst Y1
  rw [Zeo _ _ _ hx]
  generalize (rows.take i).foldl (com1 p) 15=c
  refine ⟨_,_,.name .q3,?_⟩
  refine .ite (.cmp (.andN (.name .q3) (.name .z)) (.name .z) .eqN) (λ hb=>?_) (λ hb=>?_)
  ·refine .aug .q2 (.name .q3) .andN .q2 ?_
   refine .next (.done (.keep (.keep (.keep (.drop .nil)))) (.refl _) λ s S'=>?_)
   unfold com1
   rw [if_pos hb]; exact S'
  ·refine .next (.done (.keep (.keep (.keep (.drop .nil)))) (.refl _) λ s S'=>?_)
   unfold com1
   rw [hb,if_neg Bool.false_ne_true]; exact S'
 ·rw [List.length_map,List.take_length]
  exact .next (.ret (.name .q2) λ v s S hv=>hE _ _ (Ends.of ⟨rfl,rfl⟩ S (.refl _) hv))
noncomputable abbrev Zax (p:Nat × Nat):D:=.tup [.nat p.1,.nat p.2]
noncomputable def led1 (p:Nat) (r:Nat × Nat):Nat:=if (r.1 &&& p==r.1)=true then p ||| r.2 else p
noncomputable def pass (rules:List (Nat × Nat)) (p:Nat):Nat:=rules.foldl led1 p
noncomputable def ledN (rules:List (Nat × Nat)):Nat→Nat→Nat
 | 0,p=>p
 | k+1,p=>pass rules (ledN rules k p)
noncomputable def Zdo (rules:List (Nat × Nat)) (p:Nat):Nat:=ledN rules 40 p
theorem led1_ge (p:Nat) (r:Nat × Nat):p≤led1 p r:=by
 unfold led1; split
 ·exact Nat.left_le_or
 ·exact Nat.le_refl _
theorem Zkv (rules:List (Nat × Nat)):∀ p,p≤rules.foldl led1 p:=by
 induction rules with
 | nil=>intro p; exact Nat.le_refl _
 | cons r rs ih=>intro p; exact Nat.le_trans (led1_ge p r) (ih _)
theorem pass_lt {rules:List (Nat × Nat)} (h:∀ r∈rules,r.2 < 16):∀ p,p < 16→pass rules p < 16:=by
 unfold pass
 induction rules with
 | nil=>intro p hp; exact hp
 | cons r rs ih=>
  intro p hp
  refine ih (λ q hq=>h q (List.mem_cons_of_mem _ hq)) _ ?_
  unfold led1; split
  ·exact Nat.or_lt_two_pow (n:=4) hp (h r List.mem_cons_self)
  ·exact hp
theorem Zif {rules:List (Nat × Nat)} (h:∀ r∈rules,r.2 < 16) {p:Nat} (hp:p < 16):∀ k,ledN rules k p < 16
 | 0=>hp
 | k+1=>pass_lt h _ (Zif h hp k)
theorem Zhg {rules:List (Nat × Nat)} {p k:Nat} (h:ledN rules k p=ledN rules (k+1) p):∀ j,ledN rules (k+j) p=ledN rules k p
 | 0=>rfl
 | j+1=>by
  show pass rules (ledN rules (k+j) p)=_
  rw [Zhg h j]; exact h.symm
theorem led_calls (T:Top B) {l:Addr} {p:Nat} {rules:List (Nat × Nat)} (hr:∀ r∈rules,r.2 < 16) (hp:p < 16):Pure B 1 (.ref (T.fA 83)) [.nat p,.ref l] [(l,.list (rules.map Zax))] (.nat (Zdo rules p)):=by
 refine .def2 (T.gn (i:=83) (by kernel_rfl)).2 "places" "rules" ["before", "ahead", "behind"] [] (λ _=>[]) λ C I hn=>?_
 refine Run.kabs λ K hE=>?_
 refine .assign (.neg .int) .q2 ?_
 refine Run.while_ (α:=Int × Nat) (λ x=>∃ k,x.2=ledN rules k p∧(k:Int)≤x.1+1∧(x.1 = -1∧k=0∨∃ j,k=j+1∧x.1=(ledN rules j p:Nat))) (λ x=>(17 - x.1).toNat)
  (λ x=>[("places",some (.nat x.2)),("rules",some (.ref l)),("before",some (.int x.1)),("ahead",none),("behind",none)]) (λ _=>[(l,.list (rules.map Zax))])
  (λ x=>x.1 != (x.2:Int)) (Kb:=λ _=>False) (λ x _=>.cmp (.name .q2) (.name .z) .ne) ?_ ?_ (λ _ h=>h.elim) (-1,p) ⟨0,rfl,by show (0:Int) ≤ -1+1; decide,.inl ⟨rfl,rfl⟩⟩ ⟨rfl,rfl⟩
 ·intro hq0 hq1 hne
  obtain ⟨b,q⟩:=hq0
  refine E13 hq1 λ k hq hk hb=>?_
  try clear hq1
  replace hne:b ≠ (q:Int):=bne_iff_ne.mp hne
  simp only at hq hk hb
  have hlt:b < q:=by
   rcases hb with ⟨rfl,_⟩ | ⟨j,rfl,rfl⟩
   ·lia
   ·have:ledN rules j p≤q:=by rw [hq]; exact Zkv rules _
    lia
  have hb1 : -1≤b:=by
   rcases hb with ⟨rfl,_⟩ | ⟨j,rfl,rfl⟩ <;> lia
  have hq16:q < 16:=by rw [hq]; exact Zif hr hp k
  refine .assign (.name .z) .q2 ?_
  refine Run.for_ (.list (l:=l) (ds:=rules.map Zax) (Ev.name .q1).toX List.mem_cons_self)
   (λ i=>[("places",some (.nat ((rules.take i).foldl led1 q))),("rules",some (.ref l)),("before",some (.nat q)),("ahead",none),("behind",none)])
   (λ i=>[(l,.list (rules.map Zax))]) (Kb:=λ _=>False) ⟨⟨rfl,rfl⟩,λ i _=>List.mem_cons_self,λ i d hd S=>?_,?_,λ _ h=>h.elim⟩
  ·refine E12 (Zbt hd) λ r hx Y1=>?_
   subst Y1
   rw [Zeo _ _ _ hx]
   generalize (rules.take i).foldl led1 q=c
   refine ⟨_,_,.tup2 (.name .q3) (.name .q4),?_⟩
   refine .ite (.cmp (.andN (.name .q3) (.name .z)) (.name .q3) .eqN) (λ hb=>?_) (λ hb=>?_)
   ·refine .aug .z (.name .q4) .orN .z ?_
    refine .next (.done (.keep (.keep (.keep (.drop (.drop .nil))))) (.refl _) λ s S'=>?_)
    unfold led1
    rw [if_pos hb]; exact S'
   ·refine .next (.done (.keep (.keep (.keep (.drop (.drop .nil))))) (.refl _) λ s S'=>?_)
    unfold led1
    rw [hb,if_neg Bool.false_ne_true]; exact S'
  ·rw [List.length_map,List.take_length]
   refine .next (.nil λ s S=>⟨((q:Int),pass rules q),⟨k+1,?_,?_,.inr ⟨k,rfl,?_⟩⟩,?_,S⟩)
   ·rw [hq]; rfl
   ·show ((k+1:Nat):Int)≤(q:Int)+1
    lia
   ·rw [hq]
   ·show (17 - (q:Int)).toNat < (17 - b).toNat
    lia
 ·intro hq0 hq1 he
  obtain ⟨b,q⟩:=hq0
  refine E13 hq1 λ k hq hk hb=>?_
  try clear hq1
  replace he:b=(q:Int):=by simpa using he
  simp only at hq hk hb
  have hq16:q < 16:=by rw [hq]; exact Zif hr hp k
  have e:q=Zdo rules p:=by
   rcases hb with ⟨rfl,_⟩ | ⟨j,rfl,rfl⟩
   ·lia
   ·have hj:ledN rules j p=ledN rules (j+1) p:=by lia
    have:=Zhg hj (40 - j)
    rw [show j+(40 - j)=40 by lia] at this
    unfold Zdo
    rw [this]; exact Nat.le_antisymm (Wn [_,_,_] (.v 0) (.v 1) [(1,.v 2,.v 1),(1,.v 0,.v 2)] rfl (Wf hj) (We hq)) (Wn [_,_,_] (.v 0) (.v 1) [(1,.v 0,.v 2),(1,.v 2,.v 1)] rfl (We hj) (Wf hq))
  subst e
  exact .ret (.name .z) λ v s S hv=>hE _ _ (Ends.of ⟨rfl,rfl⟩ S (.refl _) hv)
theorem Ev.eof {st:Stmt} {cells:List (Str × Addr)} {pos:Pos} (T:Top B) (I:In C st cells) (hx:autoParam ((Zad st).names.lookup (Str.ofString "ENDMARKER")=some .globalImplicit) tD):Ev C σ O (.Name "ENDMARKER" pos) (.nat 0):=
 by obtain ⟨t,h⟩:=T.eof; exact .glob (I.kinds hx) h λ _ _=>⟨t,rfl⟩
theorem Ev.nt {st:Stmt} {cells:List (Str × Addr)} {pos:Pos} (T:Top B) (I:In C st cells) (hx:autoParam ((Zad st).names.lookup (Str.ofString "NT_OFFSET")=some .globalImplicit) tD):Ev C σ O (.Name "NT_OFFSET" pos) (.nat 256):=
 by obtain ⟨t,h⟩:=T.nt; exact .glob (I.kinds hx) h λ _ _=>⟨t,rfl⟩
theorem Ev.cfn {st:Stmt} {cells:List (Str × Addr)} {pos:Pos} (T:Top B) (I:In C st cells) (hx:autoParam ((Zad st).names.lookup (Str.ofString "COMPILER_FLAG_NAMES")=some .globalImplicit) tD):Ev C σ O (.Name "COMPILER_FLAG_NAMES" pos) (.ref T.cfn):=
 .glob (I.kinds hx) T.cfnG λ _ _=>rfl
theorem Ev.ett {st:Stmt} {cells:List (Str × Addr)} {pos:Pos} (T:Top B) (I:In C st cells) (hx:autoParam ((Zad st).names.lookup (Str.ofString "EXACT_TOKEN_TYPES")=some .globalImplicit) tD):Ev C σ O (.Name "EXACT_TOKEN_TYPES" pos) (.ref T.ett):=
 .glob (I.kinds hx) T.ettG λ _ _=>rfl
theorem Zih (T:Top B) {n:Nat}:Pure B 1 (.ref (T.fA 67)) [.nat n] [] (.bool (n==0)):=by
 refine .def1 (T.gn (i:=67) (by kernel_rfl)).2 "x" [] [] (λ _=>[]) λ C I hn=>?_
 refine Run.kabs λ K hE=>?_
 exact .ret (.cmp (.name .z) (.eof T I) .eqN) λ v s S hv=>hE _ _ (Ends.of ⟨rfl,rfl⟩ S (.refl _) hv)
theorem isnt_calls (T:Top B) {n:Nat}:Pure B 1 (.ref (T.fA 66)) [.nat n] [] (.bool (decide (256≤n))):=by
 refine .def1 (T.gn (i:=66) (by kernel_rfl)).2 "x" [] [] (λ _=>[]) λ C I hn=>?_
 refine Run.kabs λ K hE=>?_
 exact .ret (.cmp (.name .z) (.nt T I) .geN) λ v s S hv=>hE _ _ (Ends.of ⟨rfl,rfl⟩ S (.refl _) hv)
theorem Zgg (T:Top B) {it:Addr} {b:Array UInt8} {i:Nat} {c₁ c₂:UInt8} (h₁:b[i]? = some c₁) (h₂:b[i+1]? = some c₂) (f₁:(c₁.toNat &&& 64 != 0)=true) (f₂:(c₂.toNat &&& 64 != 0)=false) :
  Calls B 1 (.ref (T.fA 13)) [.ref it] [(it,.biter b i)] λ d O'=>d = .nat (((c₁.toNat &&& 63) <<< 6) ||| (c₂.toNat &&& 63))∧O'=[(it,.biter b (i+2))]:=by
 have hlt:c₁.toNat &&& 63 < 2 ^ 64:=Nat.lt_of_le_of_lt Nat.and_le_right (by decide)
 refine .def1 (T.gn (i:=13) (by kernel_rfl)).2 "iterator" ["b", "val"] [] (λ _=>[]) λ C I hn=>?_
 refine Run.kabs λ K hE=>?_
 refine Run.assignX0 (EvX.nextB (.bn T I rfl) (.name .z) .z h₁ .z) ?_
 refine ⟨_,.q1,?_⟩
 refine .assign (.andN (.name .q1) (.intN 63)) .q2 ?_
 refine Run.while_ (α:=Bool) (λ _=>True) (λ k=>if k then 1 else 0)
  (λ k=>[("iterator",some (.ref it)),("b",some (.nat (if k then c₁.toNat else c₂.toNat))),("val",some (.nat (if k then c₁.toNat &&& 63 else ((c₁.toNat &&& 63) <<< 6) ||| (c₂.toNat &&& 63))))])
  (λ k=>[(it,.biter b (if k then i+1 else i+2))]) (λ k=>k) (Kb:=λ _=>False) (λ k _=>?_) ?_ ?_ (λ _ h=>h.elim) true trivial ⟨rfl,rfl⟩
 ·refine (Tst.val (.andN (.name .q1) (.intN 64)) .nat).cast ?_
  cases k
  ·exact f₂
  ·exact f₁
 ·rintro k - rfl
  refine .aug .q2 (.intN 6) (.shlN (by decide) hlt) .q2 ?_
  refine Run.assignX0 (EvX.nextB (.bn T I rfl) (.name .z) .z h₂ .z) ?_
  refine ⟨_,.q1,?_⟩
  refine .aug .q2 (.andN (.name .q1) (.intN 63)) .orN .q2 ?_
  exact .nil λ s S=>⟨false,trivial,by decide,S⟩
 ·rintro k - rfl
  exact .ret (.name .q2) λ v s S hv=>hE _ _ (Ends.of ⟨rfl,rfl⟩ S (.refl _) hv)
noncomputable def cpOf (x:Str) (i:Nat):Str:=⟨#[(x.cps[i]?).getD 0]⟩
noncomputable def Zgj (x:Str) (n:Nat):Str:=⟨(List.replicate n x.cps).foldl (· ++ ·) #[]⟩
noncomputable def Zab (i:Nat):Str:=if i < 10 then (flagNames[i]?).getD "" else ("0x" : Str)++cpOf "1248" (i % 4)++Zgj "0" (i / 4)
noncomputable def curF (f i:Nat):Nat:=f / 2 ^ i * 2 ^ i
noncomputable def Zbi (f i:Nat):List Nat:=(List.range i).filter λ j=>f.testBit j
noncomputable def Zap (f:Nat):Str:=if f=0 then "0x0" else Txt.join ", " ((Zbi f 32).map Zab)
theorem flagWord_all:((List.range 32).map λ i=>(Zcp cfnEs ((2 ^ i:Nat):Int)).getD (.str (baseText "0x" 16 ((2 ^ i:Nat):Int))))=(List.range 32).map λ i=>.str (Zab i):=by rfl
theorem flagWord {i:Nat} (h:i < 32):(Zcp cfnEs ((2 ^ i:Nat):Int)).getD (.str (baseText "0x" 16 ((2 ^ i:Nat):Int))) = .str (Zab i):=by
 have:=congrArg (λ l=>l[i]?) flagWord_all
 simp only [List.getElem?_map,List.getElem?_range h,Option.map_some] at this
 exact Option.some.inj this
theorem hexLen_all:(List.range 32).all (λ i=>decide ((baseText "0x" 16 ((2 ^ i:Nat):Int)).length≤20))=true:=by kernel_rfl
theorem hexLen {i:Nat} (h:i < 32):(baseText "0x" 16 ((2 ^ i:Nat):Int)).length≤20:=by
 have:=List.all_eq_true.mp hexLen_all i (List.mem_range.mpr h)
 simpa using this
theorem wordLen_all:(List.range 32).all (λ i=>decide ((Zab i).length≤20))=true:=by kernel_rfl
theorem wordLen {i:Nat} (h:i < 32):(Zab i).length≤20:=by
 have:=List.all_eq_true.mp wordLen_all i (List.mem_range.mpr h)
 simpa using this
theorem Zky (f i:Nat):(curF f i).testBit i=f.testBit i:=by
 unfold curF
 rw [← Nat.shiftRight_eq_div_pow,← Nat.shiftLeft_eq,Nat.testBit_shiftLeft,Nat.testBit_shiftRight]
 simp
theorem and_pow (n i:Nat):n &&& 2 ^ i=if n.testBit i=true then 2 ^ i else 0:=by
 apply Nat.eq_of_testBit_eq
 intro j
 rw [Nat.testBit_and,Nat.testBit_two_pow]
 by_cases hj:i=j
 ·subst hj
  cases h:n.testBit i <;> simp [h,Nat.testBit_two_pow]
 ·have:decide (i=j)=false:=decide_eq_false hj
  rw [this,Bool.and_false]
  split
  ·rw [Nat.testBit_two_pow,this]
  ·rw [Nat.zero_testBit]
theorem curF_and (f i:Nat):(curF f i &&& 2 ^ i != 0)=f.testBit i:=by
 rw [and_pow,Zky]
 have:=Nat.two_pow_pos i
 cases h:f.testBit i
 ·simp
 ·rw [if_pos rfl,bne_iff_ne]; lia
theorem curF_step (f i:Nat):curF f i=curF f (i+1)+(if f.testBit i=true then 2 ^ i else 0):=by
 unfold curF
 rw [Nat.testBit_eq_decide_div_mod_eq,Nat.pow_succ,← Nat.div_div_eq_div_mul]
 generalize f / 2 ^ i=q
 generalize 2 ^ i=p
 by_cases h:q % 2=1
 ·rw [if_pos (by simpa using h),← Nat.mul_assoc,Nat.mul_right_comm]
  have:q=q / 2 * 2+1:=by lia
  calc q * p=(q / 2 * 2+1) * p:=by rw [← this]
   _=q / 2 * 2 * p+p:=by rw [Nat.add_mul,Nat.one_mul]
 ·rw [if_neg (by simpa using h),← Nat.mul_assoc,Nat.mul_right_comm]
  have:q=q / 2 * 2:=by lia
  rw [← this,Nat.add_zero]
theorem curF_xor {f i:Nat} (h:f.testBit i=true):Builtin.bitXor (curF f i:Nat) ((2 ^ i:Nat):Int)=(curF f (i+1):Nat):=by
 unfold Builtin.bitXor
 have h2:curF f i ||| 2 ^ i=curF f i:=by
  apply Nat.eq_of_testBit_eq
  intro j
  rw [Nat.testBit_or,Nat.testBit_two_pow]
  by_cases hj:i=j
  ·subst hj; rw [Zky,h]; rfl
  ·simp [hj]
 have h3:curF f i &&& 2 ^ i=2 ^ i:=by rw [and_pow,Zky,if_pos h]
 have h4:=curF_step f i
 rw [if_pos h] at h4
 rw [bitOrN,bitAndN,h2,h3,h4]
 lia
theorem Zfc (f i:Nat):Zbi f (i+1)=Zbi f i++(if f.testBit i=true then [i] else []):=by
 unfold Zbi
 rw [List.range_succ,List.filter_append]
 congr 1
 cases h:f.testBit i <;> simp [h]
theorem Zjq (f i:Nat):(Zbi f i).length≤i:=by
 unfold Zbi
 exact Nat.le_trans (List.length_filter_le _ _) (by simp)
theorem Zjr {f i:Nat} (h:curF f i=0):∀ k,Zbi f (i+k)=Zbi f i
 | 0=>rfl
 | k+1=>by
  rw [show i+(k+1)=(i+k)+1 from rfl,Zfc,Zjr h k]
  have h2:f.testBit (i+k)=false:=by
   have h0:f < 2 ^ i:=by
    unfold curF at h
    rcases Nat.mul_eq_zero.mp h with h | h
    ·exact (Nat.div_eq_zero_iff_lt (Nat.two_pow_pos i)).mp h
    ·exact absurd h (Nat.ne_of_gt (Nat.two_pow_pos i))
   exact Nat.testBit_lt_two_pow (Nat.lt_of_lt_of_le h0 (Nat.pow_le_pow_right (by decide) (Nat.le_add_right _ _)))
  rw [h2]; simp
theorem bitsTo_all {f i:Nat} (h:curF f i=0) (hi:i≤32):Zbi f i=Zbi f 32:=by
 have:=Zjr h (32 - i)
 rw [show i+(32 - i)=32 by lia] at this
 exact this.symm
theorem words_sum (ws:List Nat) (h:∀ i∈ws,i < 32):((ws.map Zab).map (·.length)).sum≤20 * ws.length:=by
 induction ws with
 | nil=>exact Nat.le_refl _
 | cons a r ih=>
  have h1:=wordLen (h a List.mem_cons_self)
  have h2:=ih λ i hi=>h i (List.mem_cons_of_mem _ hi)
  simp only [List.map_cons,List.sum_cons,List.length_cons]
  exact Wn [_,_,_] (.a (.v 0) (.v 1)) (.m 20 (.a (.v 2) (.n 1))) [(1,.v 1,.m 20 (.v 2)),(1,.v 0,.n 20)] rfl h2 h1
theorem bitsTo_lt {f i j:Nat} (h:j∈Zbi f i):j < i:=List.mem_range.mp (List.mem_filter.mp h).1
theorem Zed (T:Top B) {f:Nat} (hf:f < 2 ^ 32):Pure B 1 (.ref (T.fA 12)) [.nat f] [] (.str (Zap f)):=by
 have hzz:sizeLine=16777216:=by decide +kernel
 have h64:∀ {i:Nat},i < 32→2 ^ i < 2 ^ 64:=λ h=>Nat.pow_lt_pow_right (by decide) (by exact Wn [_] (.a (.v 0) (.n 1)) (.n 64) [(1,.a (.v 0) (.n 1),.n 32)] rfl h)
 refine .def1 (T.gn (i:=12) (by kernel_rfl)).2 "flags" ["names", "i", "flag"] [] (λ _=>[]) λ C I hn=>?_
 refine Run.kabs λ K hE=>?_
 refine Run.assignX1 (EvX.list .nil) λ a=>?_
 refine ⟨_,.q1,?_⟩
 refine Run.forI (Iter.range1 (b:=32) (n:=32) (.bn T I rfl) .int (by decide +kernel) (by kernel_rfl)).toX ?_
 refine exN ?_
 refine ⟨λ i=>f=0∨curF f i ≠ 0,λ i=>[("flags",some (.nat (curF f i))),("names",some (.ref a)),("i",none),("flag",none)],λ i=>[(a,.list (((Zbi f i).map Zab).map .str))],
  λ s'=>St C [("flags",none),("names",some (.ref a)),("i",none),("flag",none)] [(a,.list (((Zbi f 32).map Zab).map .str))] s'∧f ≠ 0,?_⟩
 refine ⟨⟨?_,?_⟩,?_,λ _ _ _=>trivial,λ i d hd hI S=>?_,λ hI=>?_,λ s' h=>?_⟩
 ·have:curF f 0=f:=by unfold curF; simp
  rw [this]; rfl
 ·rfl
 ·unfold curF; simp; lia
 ·refine E02 (Zdl hd) λ hi Y1=>?_
  subst Y1
  have e1:D.int (0+(i:Int) * 1) = .nat i:=by simp
  rw [e1]
  refine ⟨_,_,.name .q2,?_⟩
  refine .assign (d:=.nat (2 ^ i)) ((Ev.shlN (.intN 1) (.name .q2) (by exact Wn [_] (.v 0) (.n 1000000) [(1,.a (.v 0) (.n 1),.n 32)] rfl hi) (by decide)).cast (by rw [Nat.shiftLeft_eq,Nat.one_mul])) .q3 ?_
  refine .ite ((Tst.val (.andN (.name .z) (.name .q3)) .nat).cast (curF_and f i)) (λ hb=>?_) (λ hb=>?_)
  ·refine .expr (.append (ds:=((Zbi f i).map Zab).map .str) (d:=.str (Zab i)) (.name .q1) .z
    ((Ev.dget2 (dk:=.nat (2 ^ i)) (.cfn T I) (.name .q3) (.hex (.bn T I rfl) (.name .q3) ?_) isKeyI T.cfnM.map).cast (flagWord hi)) .z ?_) ?_
   ·have:=hexLen hi; (apply Wls;assumption;rfl)
   ·have:=Zjq f i
    rw [List.length_map,List.length_map]; exact Wn [_,_] (.v 0) (.n 16777216) [(1,.v 0,.v 1),(1,.a (.v 1) (.n 1),.n 32)] rfl this hi
   have e2:((Zbi f i).map Zab).map D.str++[.str (Zab i)]=((Zbi f (i+1)).map Zab).map D.str:=by rw [Zfc,if_pos hb]; simp
   rw [e2]
   have hx:=InOp.xorInt (C:=C) (σ:=[("flags",some (.nat (curF f i))),("names",some (.ref a)),("i",some (.nat i)),("flag",some (.nat (2 ^ i)))]) (O:=(a,.list (((Zbi f (i+1)).map Zab).map .str))::S (i+1)) (a:=(curF f i:Nat)) (b:=((2 ^ i:Nat):Int))
   rw [curF_xor hb] at hx
   refine .aug .z (.name .q3) hx .z ?_
   refine .ite (.not (.val (.name .z) .nat)) (λ hc=>?_) (λ hc=>?_)
   ·have hc':curF f (i+1)=0:=by simpa using hc
    refine .brk λ s S'=>⟨?_,?_⟩
    ·rw [← bitsTo_all hc' hi]
     exact (S'.forget (.drop (.keep (.drop (.drop .nil))))).subl (.cons₂ _ (List.nil_sublist _))
    ·rintro rfl; simp at hb
   ·have hc':curF f (i+1) ≠ 0:=by simpa using hc
    refine .next (.next (.nil λ s S'=>⟨.inr hc',S'.forget (.keep (.keep (.drop (.drop .nil))))⟩))
  ·refine .next (.nil λ s S'=>?_)
   have e3:curF f (i+1)=curF f i:=by have:=curF_step f i; rw [if_neg (by rw [hb]; decide)] at this; exact Nat.le_antisymm (Wn [_,_] (.v 0) (.v 1) [(1,.a (.v 0) (.n 0),.v 1)] rfl (Wf this)) (Wn [_,_] (.v 0) (.v 1) [(1,.v 0,.a (.v 1) (.n 0))] rfl (We this))
   have e4:Zbi f (i+1)=Zbi f i:=by rw [Zfc,if_neg (by rw [hb]; decide),List.append_nil]
   rw [e3,e4]
   exact ⟨hI,S'.forget (.keep (.keep (.drop (.drop .nil))))⟩
 ·rw [Zbp] at hI ⊢
  have h0:curF f 32=0:=by unfold curF; rw [Nat.div_eq_of_lt hf,Nat.zero_mul]
  obtain rfl:f=0:=hI.resolve_right (λ h=>h h0)
  have e2:Zbi 0 32=[]:=by decide
  rw [h0,e2]
  refine .expr (.append (ds:=[]) (d:=.str "0x0") (.name .q1) .z ((Ev.hex (i:=((0:Nat):Int)) (.bn T I rfl) (.name .z) (by decide +kernel)).cast (congrArg D.str (by decide +kernel))) .z (by decide +kernel)) ?_
  refine .next (.ret ((Ev.join (ys:=["0x0"]) .str (.name .q1) .z (by decide +kernel)).cast (congrArg D.str ?_)) λ v s S hv=>hE _ _ (Ends.of ⟨rfl,rfl⟩ S (List.nil_sublist _) hv))
  unfold Zap; rw [if_pos rfl]; rfl
 ·refine (Run.ret ((Ev.join (ys:=(Zbi f 32).map Zab) .str (.name .q1) .z ?_).cast (congrArg D.str ?_)) λ v s S hv=>hE _ _ (Ends.of ⟨rfl,rfl⟩ S (List.nil_sublist _) hv)) s' h.1
  ·have h1:=words_sum (Zbi f 32) λ i hi=>bitsTo_lt hi
   have h2:=Zjq f 32
   rw [List.length_map]
   have h3:(", " : Str).length=2:=by decide +kernel
   rw [h3]; exact Wn [_,_] (.a (.v 0) (.r (.v 1) 2)) (.n 16777216) [(22,.v 1,.n 32),(1,.v 0,.m 20 (.v 1))] rfl h2 h1
  ·unfold Zap; rw [if_neg h.2]
end
section
open PySem PySem.Builtin.Str PySem.W PySem.Calls PyProof.Rows
set_option maxRecDepth 100000
variable {B:Bs} {C:Cx B} {σ σ':Loc} {O O':Led}
noncomputable abbrev sl (l:List Nat):Str:=⟨l.toArray⟩
theorem sl_cps (x:Str):sl x.cps.toList=x:=by cases x; rfl
theorem Zal (l:List Nat):(sl l).length=l.length:=by simp [Str.length]
theorem Zbd (a b:List Nat):sl a++sl b=sl (a++b):=by
 show Str.mk _=Str.mk _
 congr 1
 simp
theorem sl_inj {a b:List Nat} (h:sl a=sl b):a=b:=by
 have:=congrArg (λ x:Str=>x.cps.toList) h
 simpa using this
theorem Ev.sliceStr {ve:Expr} {lo hi:Option Expr} {p pos:Pos} {x:Str} {a b:Option Int} (hv:Ev C σ O ve (.str x)) (hlo:EvP C σ O lo a) (hhi:EvP C σ O hi b) (hz:x.length≤sizeLine)
  (ht:autoParam (∀ o r,letTemporaryGo ve o r=pure ()) tJ):Ev C σ O (.Subscript ve (.Slice lo hi Option.none p) pos) (.str (Txt.slice x a b)):=λ s S Q hQ=>by
 refine wpAny_Subscript_str_slice (hv s S _ λ v s₁ t₁ S₁ hv=>hlo s₁ S₁ _ λ u s₂ t₂ S₂ pu=>hhi s₂ S₂ _ λ r s₃ t₃ S₃ pr=>?_) ht
 refine E11 hv λ t Y1=>?_
 try clear hv
 subst Y1
 refine E12 pu λ pl Y1 Y2=>?_
 try clear pu
 subst Y1
 subst Y2
 refine E12 pr λ ph Y1 Y2=>?_
 try clear pr
 subst Y1
 subst Y2
 refine ⟨x,t,pl,ph,rfl,rfl,rfl,?_⟩
 have X:Eff [] s₃ { s₃ with heap:=s₃.heap.push { cls:=.type "slice",data:=.fields #[partValue pl,partValue ph,.none] } }:=.push _
 exact post_val_or_str ⟨Nat.le_trans (Txt.slice_le x _ _) hz,λ t' k=>hQ _ _ (((t₁.trans t₂).trans t₃).trans X.tk) (St.tok (S₃.ext X) (t:=k)) ⟨_,rfl⟩⟩
theorem slice_clip {l:List Nat} {a:Option Int} {b:Int} (h:(l.length:Int)≤b):Txt.slice (sl l) a (some b)=Txt.slice (sl l) a none:=by
 have e:strSliceIndices a (some b) 1 (sl l).length=strSliceIndices a none 1 (sl l).length:=by
  rw [Zal,StrLaws.sliceIdx_none_hi]
  unfold strSliceIndices
  have h1:¬ b < 0:=by lia
  have h2:¬ (l.length:Int) < 0:=by lia
  have h3:max (0:Int) (min b (l.length:Int))=l.length:=by lia
  have h4:max (0:Int) (min (l.length:Int) (l.length:Int))=l.length:=by lia
  simp only [h1,h2,if_false,h3,h4,show ((1:Int) > 0)=True from by simp,if_true]
 unfold Txt.slice
 rw [e]
theorem Zhr {l:List Nat} {a b:Nat} (ha:a≤l.length) (hab:a≤b):Txt.slice (sl l) (some (a:Int)) (some (b:Int))=sl ((l.drop a).take (b - a)):=by
 rcases Nat.le_total b l.length with hb | hb
 ·have:=StrLaws.sliceText_nat (sl l) hab (by rw [Zal]; exact hb)
  exact Eq.trans this (by simp)
 ·rw [slice_clip (by lia)]
  have:=StrLaws.sliceText_from (x:=sl l) (i:=(a:Int)) ⟨by lia,by simpa using ha⟩
  refine Eq.trans this ?_
  have h1:((l.length:Int) - (a:Int)).toNat=l.length - a:=by lia
  simp only [Int.toNat_natCast,h1]
  rw [List.take_of_length_le (by simp),List.take_of_length_le (by simp; lia)]
theorem slice_neg {l:List Nat} {a:Option Int} {k:Nat} (hk:0 < k) (h:k≤l.length):Txt.slice (sl l) a (some (-(k:Int)))=Txt.slice (sl l) a (some ((l.length - k:Nat):Int)):=by
 unfold Txt.slice
 rw [Zal,StrLaws.sliceIdx_neg_hi a l.length (by lia) (by lia),show -(k:Int)+(l.length:Int)=((l.length - k:Nat):Int) by lia]
theorem slice_upto {l:List Nat} {b:Nat} (hb:b≤l.length):Txt.slice (sl l) none (some (b:Int))=sl (l.take b):=by
 have:=StrLaws.sliceText_to (x:=sl l) (j:=(b:Int)) ⟨by lia,by simpa using hb⟩
 refine Eq.trans this ?_
 simp
end
section
set_option maxRecDepth 100000
variable {B:Bs} {C:Cx B} {σ σ':Loc} {O O':Led}
noncomputable def Zai (w:List Nat):Bool:=(Zcp ettEs (sl w)).isSome
noncomputable def Zas (l:List Nat):Nat:=if Zai (l.take 3)=true then min 3 l.length else if Zai (l.take 2)=true then min 2 l.length else 1
theorem Zct (c:Nat) (r:List Nat):0 < Zas (c::r):=by
 unfold Zas
 have:(c::r).length=r.length+1:=rfl
 split
 ·lia
 ·split <;> (first | assumption | lia)
noncomputable def lex (cur:List Nat):List Nat→List (List Nat)
 | []=>[cur]
 | c::r=>if Zai [c]=true then cur::(c::r).take (Zas (c::r))::lex [] ((c::r).drop (Zas (c::r))) else lex (cur++[c]) r
termination_by l=>l.length
decreasing_by
 ·have:=Zct c r
  simp only [List.length_drop,List.length_cons]; lia
 ·simp only [List.length_cons]; exact Wn [_] (.a (.v 0) (.n 1)) (.a (.v 0) (.n 1)) [] rfl
noncomputable abbrev strD (w:List Nat):D:=.str (sl w)
theorem getLast_map (ps:List (List Nat)) (cur:List Nat):((ps++[cur]).map strD)[plc (-1) ((ps++[cur]).map strD).length]? = some (strD cur):=by
 have:plc (-1) ((ps++[cur]).map strD).length=ps.length:=by
  unfold plc
  rw [if_pos (by decide)]
  simp; lia
 rw [this]; simp
theorem setLast_map (ps:List (List Nat)) (cur w:List Nat):((ps++[cur]).map strD).set (plc (-1) ((ps++[cur]).map strD).length) (strD w)=(ps++[w]).map strD:=by
 have:plc (-1) ((ps++[cur]).map strD).length=ps.length:=by
  unfold plc
  rw [if_pos (by decide)]
  simp; lia
 rw [this,List.map_append,List.map_append]
 generalize hq:ps.map strD=q
 have hl:ps.length=q.length:=by rw [← hq,List.length_map]
 rw [hl]
 simp
theorem longest_of {l:List Nat} {k:Nat} (hl:0 < l.length) (h1:1≤k) (h2:k≤((l.take 3).length)) (hs:Zai ((l.take 3).take k)=true) (hn:∀ j,k < j→j≤(l.take 3).length→Zai ((l.take 3).take j)=false):Zas l=k:=by
 rw [List.length_take] at h2 hn
 have ht:∀ j,j≤3→(l.take 3).take j=l.take j:=λ j hj=>by rw [List.take_take,Nat.min_eq_left hj]
 rw [ht k (by lia)] at hs
 unfold Zas
 by_cases h3:Zai (l.take 3)=true
 ·rw [if_pos h3]
  rcases Nat.lt_or_ge k (min 3 l.length) with hlt | hge
  ·have:=hn (min 3 l.length) hlt (Nat.le_refl _)
   rw [ht _ (by lia)] at this
   rcases Nat.le_total 3 l.length with hh | hh
   ·rw [Nat.min_eq_left hh,h3] at this; cases this
   ·rw [Nat.min_eq_right hh,List.take_length] at this
    rw [List.take_of_length_le hh,this] at h3; cases h3
  ·exact Nat.le_antisymm (Wn [_,_] (.v 0) (.v 1) [(1,.v 0,.v 1)] rfl hge) (Wn [_,_] (.v 0) (.v 1) [(1,.v 0,.v 1)] rfl h2)
 ·rw [if_neg h3]
  have hk3:k ≠ 3:=by rintro rfl; exact h3 hs
  have hkl:¬ (l.length≤k):=λ hh=>by
   rw [List.take_of_length_le hh] at hs
   rw [List.take_of_length_le (by lia)] at h3
   exact h3 hs
  by_cases h4:Zai (l.take 2)=true
  ·rw [if_pos h4]
   rcases Nat.lt_or_ge k 2 with hlt | hge
   ·rcases Nat.lt_or_ge l.length 2 with hh | hh
    ·lia
    ·have:=hn 2 hlt (by lia)
     rw [ht 2 (by exact Wlb rfl),h4] at this; cases this
   ·lia
  ·rw [if_neg h4]
   have hk2:k ≠ 2:=by rintro rfl; exact h4 hs
   lia
structure Lx (l:List Nat) (ps:List (List Nat)) (cur:List Nat) (i:Nat):Prop where
 le:i≤l.length
 eq:lex [] l=ps++lex cur (l.drop i)
 len:ps.length≤2 * i
 short:cur.length≤i
theorem Lx.sign {l:List Nat} {ps:List (List Nat)} {cur:List Nat} {i c:Nat} (x:Lx l ps cur i) (hc:l[i]? = some c) (h:Zai [c]=true) :
  Lx l (ps++[cur,(l.drop i).take (Zas (l.drop i))]) [] (i+Zas (l.drop i)):=by
 refine E11 (List.getElem?_eq_some_iff.mp hc) λ hi e=>?_
 have hd:l.drop i=c::l.drop (i+1):=by rw [← e]; exact List.drop_eq_getElem_cons hi
 have hp:0 < Zas (l.drop i):=by rw [hd]; exact Zct _ _
 have hle:Zas (l.drop i)≤(l.drop i).length:=by
  have:0 < (l.drop i).length:=by rw [hd]; exact Nat.zero_lt_succ _
  unfold Zas; split
  ·exact Nat.min_le_right _ _
  ·split
   ·exact Nat.min_le_right _ _
   ·exact this
 rw [List.length_drop] at hle
 refine ⟨by lia,?_,?_,by simp⟩
 ·rw [x.eq,List.append_assoc]
  congr 1
  rw [hd,lex,if_pos h,← hd,List.drop_drop]
  rfl
 ·have:=x.len
  rw [List.length_append]; simp; exact Wn [_,_,_] (.a (.v 0) (.n 2)) (.m 2 (.a (.v 1) (.v 2))) [(1,.v 0,.m 2 (.v 1)),(2,.a (.n 0) (.n 1),.v 2)] rfl this hp
theorem Lx.plain {l:List Nat} {ps:List (List Nat)} {cur:List Nat} {i c:Nat} (x:Lx l ps cur i) (hc:l[i]? = some c) (h:Zai [c]=false):Lx l ps (cur++[c]) (i+1):=by
 refine E11 (List.getElem?_eq_some_iff.mp hc) λ hi e=>?_
 have hd:l.drop i=c::l.drop (i+1):=by rw [← e]; exact List.drop_eq_getElem_cons hi
 refine ⟨hi,?_,Nat.le_trans x.len (by exact Wn [_] (.m 2 (.v 0)) (.m 2 (.a (.v 0) (.n 1))) [] rfl),by have:=x.short; simp; assumption⟩
 rw [x.eq,hd,lex,h,if_neg Bool.false_ne_true]
theorem Zee (T:Top B) {l:List Nat} (hz:l.length≤1000000) :
  Calls B 1 (.ref (T.fA 75)) [.str (sl l)] [] λ d O'=>∃ a,d = .ref a∧O'=[(a,.list ((lex [] l).map strD))]:=by
 have hzz:sizeLine=16777216:=by decide +kernel
 refine .def1 (T.gn (i:=75) (by kernel_rfl)).2 "text" ["pieces", "at", "piece"] [] (λ _=>[]) λ C I hn=>?_
 refine Run.kabs λ K hE=>?_
 refine Run.assignX1 (EvX.list (ds:=[strD []]) (.cons .str .nil)) λ a=>?_
 refine ⟨_,.q1,?_⟩
 refine .assign (.intN 0) .q2 ?_
 refine Run.while_ (α:=List (List Nat) × List Nat × Nat) (λ x=>Lx l x.1 x.2.1 x.2.2) (λ x=>l.length - x.2.2)
  (λ x=>[("text",some (.str (sl l))),("pieces",some (.ref a)),("at",some (.nat x.2.2)),("piece",none)])
  (λ x=>[(a,.list ((x.1++[x.2.1]).map strD))]) (λ x=>decide (x.2.2 < l.length)) (Kb:=λ _=>False) (λ x _=>?_) ?_ ?_ (λ _ h=>h.elim) ([],[],0) ⟨Nat.zero_le _,rfl,Nat.le_refl _,Nat.le_refl _⟩ ⟨rfl,rfl⟩
 ·refine (Tst.cmp (.name .q2) (.lenStr (.bn T I rfl) (.name .z) (by rw [Zal]; (apply Wls;assumption;rfl))) .ltN).cast ?_
  rw [Zal]
 ·intro hq0 x hi
  obtain ⟨ps,cur,i⟩:=hq0
  replace hi:i < l.length:=by simpa using hi
  simp only at x ⊢
  obtain ⟨c,hc⟩:∃ c,l[i]? = some c:=⟨l[i],List.getElem?_eq_getElem hi⟩
  have hle:=x.len
  refine .ite (b:=Zai [c]) (.cmp (.itemStr (c:=c) (.name .z) (.name .q2) (by lia) (by simpa using hc) (by lia)) (.ett T I) (.inD Zdt T.ettM.map)) (λ hb=>?_) (λ hb=>?_)
  ·have hd:l.drop i=c::l.drop (i+1):=by
    refine E11 (List.getElem?_eq_some_iff.mp hc) λ hi' e=>?_
    rw [← e]; exact List.drop_eq_getElem_cons hi'
   refine .assign (d:=strD ((l.drop i).take 3)) ((Ev.sliceStr (.name .z) (.some (.name .q2)) (.some (.addN (.name .q2) (.intN 3))) (by rw [Zal]; (apply Wls;assumption;rfl))).cast ?_) .q3 ?_
   ·rw [Zhr (by exact Wn [_,_] (.v 0) (.v 1) [(1,.a (.v 0) (.n 1),.v 1)] rfl hi) (by exact Wn [_] (.v 0) (.a (.v 0) (.n 3)) [] rfl)]
    rw [show i+3 - i=3 by lia]
   have hw:1≤((l.drop i).take 3).length:=by rw [hd]; simp
   refine Run.while_ (α:=Nat) (λ k=>1≤k∧k≤((l.drop i).take 3).length∧∀ j,k < j→j≤((l.drop i).take 3).length→Zai (((l.drop i).take 3).take j)=false) (λ k=>k)
    (λ k=>[("text",some (.str (sl l))),("pieces",some (.ref a)),("at",some (.nat i)),("piece",some (strD (((l.drop i).take 3).take k)))])
    (λ k=>[(a,.list ((ps++[cur]).map strD))]) (λ k=>!Zai (((l.drop i).take 3).take k)) (Kb:=λ _=>False)
    (λ k hk=>.cmp (.name .q3) (.ett T I) (.notInD Zdt T.ettM.map)) ?_ ?_ (λ _ h=>h.elim) ((l.drop i).take 3).length ⟨hw,Nat.le_refl _,λ j h1 h2=>absurd h1 (by exact Nat.not_lt_of_le (Wn [_,_] (.v 0) (.v 1) [(1,.v 0,.v 1)] rfl h2))⟩ ⟨by rw [List.take_length],rfl⟩
   ·intro k hq0 hs
    refine E03 hq0 λ k1 k2 k3=>?_
    try clear hq0
    have hs':Zai (((l.drop i).take 3).take k)=false:=by simpa using hs
    have hk:k ≠ 1:=by
     rintro rfl
     rw [hd] at hs'
     simp [hb] at hs'
    have hkl:(((l.drop i).take 3).take k).length=k:=by rw [List.length_take]; lia
    refine .assign (d:=strD (((l.drop i).take 3).take (k - 1))) ((Ev.sliceStr (.name .q3) .none (.some (.neg .int)) ?_).cast ?_) .q3 ?_
    ·rw [Zal,hkl]; rw [List.length_take] at k2; lia
    ·have e1:Txt.slice (sl (((l.drop i).take 3).take k)) none (some (-1))=sl ((((l.drop i).take 3).take k).take (k - 1)):=by
      have:=slice_neg (l:=((l.drop i).take 3).take k) (a:=none) (k:=1) (by decide) (by rw [hkl]; exact k1)
      refine Eq.trans this ?_
      rw [hkl,slice_upto (by rw [hkl]; lia)]
     rw [e1,List.take_take,Nat.min_eq_left (by lia)]
    refine .nil λ s S=>⟨k - 1,⟨by lia,by lia,λ j h1 h2=>?_⟩,by lia,S⟩
    rcases Nat.lt_or_ge k j with h | h
    ·exact k3 j h h2
    ·obtain rfl:j=k:=by lia
     exact hs'
   ·intro k hq0 hs
    refine E03 hq0 λ k1 k2 k3=>?_
    try clear hq0
    have hs':Zai (((l.drop i).take 3).take k)=true:=by simpa using hs
    have hL:Zas (l.drop i)=k:=longest_of (by rw [hd]; simp) k1 k2 hs' k3
    have hk3:k≤3:=by rw [List.length_take] at k2; lia
    have hkl:(((l.drop i).take 3).take k).length=k:=by rw [List.length_take]; lia
    have ht:((l.drop i).take 3).take k=(l.drop i).take k:=by rw [List.take_take,Nat.min_eq_left hk3]
    refine .augList (ds:=(ps++[cur]).map strD) (es':=[strD (((l.drop i).take 3).take k),strD []]) .q1 .z (.cons (.name .q3) (.cons .str .nil)) .z ?_ ?_
    ·refine .aug .q2 (.lenStr (.bn T I rfl) (.name .q3) (by rw [Zal,hkl]; (apply Wls;assumption;rfl))) .addN .q2 ?_
     refine .next (.nil λ s S=>⟨(ps++[cur,(l.drop i).take k],[],i+k),?_,?_,?_⟩)
     ·have:=x.sign hc hb
      rw [hL] at this; exact this
     ·show l.length - (i+k) < l.length - i
      lia
     ·have S':=S.forget (σ':=[("text",some (.str (sl l))),("pieces",some (.ref a)),("at",some (.nat (i+(sl (((l.drop i).take 3).take k)).length))),("piece",none)]) (.keep (.keep (.keep (.drop .nil))))
      rw [Zal,hkl,ht] at S'
      have e:(ps++[cur]).map strD++[strD ((l.drop i).take k),strD []]=((ps++[cur,(l.drop i).take k])++[[]]).map strD:=by simp
      rw [e] at S'
      exact S'
    ·simp; exact Wn [_,_,_] (.a (.a (.v 0) (.n 1)) (.n 2)) (.n 16777216) [(1,.v 0,.m 2 (.v 1)),(2,.a (.v 1) (.n 1),.v 2),(2,.v 2,.n 1000000)] rfl hle hi hz
  ·refine .augItem (ds:=(ps++[cur]).map strD) (d:=strD cur) (u:=strD [c]) (f:=strD (cur++[c])) (.name .q1) (.neg .int) .z (getLast_map ps cur) (.itemStr (c:=c) (.name .z) (.name .q2) (by lia) (by simpa using hc) (by lia)) ?_ .z ?_ ?_ ?_ ?_
   ·have:=InOp.addStr (C:=C) (σ:=[("text",some (.str (sl l))),("pieces",some (.ref a)),("at",some (.nat i)),("piece",none)]) (O:=[(a,.list ((ps++[cur]).map strD))]) (a:=sl cur) (b:=sl [c]) (by rw [Zal,Zal]; have:=x.short; simp; exact Wn [_,_,_] (.a (.v 0) (.n 1)) (.n 16777216) [(1,.v 0,.v 1),(1,.a (.v 1) (.n 1),.v 2),(1,.v 2,.n 1000000)] rfl this hi hz)
    rw [Zbd] at this
    exact this
   ·rw [setLast_map]
    refine .aug .q2 (.intN 1) .addN .q2 ?_
    refine .next (.nil λ s S=>⟨(ps,cur++[c],i+1),x.plain hc hb,?_,S⟩)
    show l.length - (i+1) < l.length - i
    lia
   ·simp; lia
   ·simp; lia
   ·simp; exact Wn [_,_,_] (.a (.v 0) (.n 1)) (.n 16777216) [(1,.v 0,.m 2 (.v 1)),(2,.a (.v 1) (.n 1),.v 2),(2,.v 2,.n 1000000)] rfl hle hi hz
 ·intro hq0 x hi
  obtain ⟨ps,cur,i⟩:=hq0
  replace hi:¬ i < l.length:=by simpa using hi
  have h1:=x.le
  have h2:=x.eq
  simp only at h1 h2
  have:lex [] l=ps++[cur]:=by
   rw [h2,List.drop_of_length_le (by exact Wn [_,_] (.v 0) (.v 1) [(1,.v 0,.v 1)] rfl (Wg hi)),lex]
  rw [this] at hE
  exact .ret (.name .q1) λ v s S hv=>hE _ _ (Ends.of ⟨a,rfl,rfl⟩ S (.refl _) hv)
end
section
open PySem PySem.Builtin.Str PySem.W PySem.Calls PyProof.Rows
set_option maxRecDepth 100000
variable {B:Bs} {C:Cx B} {σ σ':Loc} {O O':Led}
theorem LstAt.new {h:Heap} {items:Array Value}:LstAt (h.push { cls:=.type "list",data:=.seq items }) h.objs.size items:=⟨0,Heap.get?_push_size _ rfl⟩
theorem Zfd {h:Heap} {x:Str} {t:Tok}:Vals h [Value.str x t] ([x].map .str):=⟨_,_,rfl,⟨t,rfl⟩,rfl⟩
theorem Zfe {h:Heap} {tk:Nat} {xs:List Str}:Vals h (strsFrom tk xs) (xs.map .str):=by
 have:=Zhj (h:=h) (l:=numbered tk xs)
 rw [numbered_texts] at this
 rw [strsFrom_eq]; exact this
theorem EvX.split0 {oe:Expr} {apos pos:Pos} {x:Str} (ho:Ev C σ O oe (.str x)) (hz:x.length≤sizeLine) (hz2:(spaceWords x (x.length+1)).length≤sizeLine)
  (hline:autoParam ((apos.endLine==pos.line)=true) tR)
  (hbase:autoParam (attributeBase oe (Str.ofString "split") C.env (eval oe C.env)=eval oe C.env) tR)
  (hfew:autoParam (((backTo pos (starEach [] C.env)).all (λ x=>!x.1)&&(backToKw pos (keywordEach [] C.env)).all (λ x=>x.1.isSome)
   && decide (([]:List Expr).length+([]:List Keyword).length+(if ([]:List Keyword).isEmpty then 0 else 1) < 30))=true) tR) :
  EvX C σ O (.Call (.Attribute oe (Str.ofString "split") apos) [] [] pos) λ d O'=>∃ l,d = .ref l∧O'=(l,.list ((Txt.words x).map .str))::O:=
 .meth (T := "str") ho (λ s v S hv=>strT hv) F.plainAttrs_str F.slot_str_split F.type_str_split .nil (by
  intro s v vs S hq0 e2 Q hQ
  refine E11 hq0 λ t ev=>?_
  try clear hq0
  have hh:vs=[]:=e2; subst hh
  subst ev
  refine call_meets F.slot_str_split (typeIs_str _ _ _) F.entry_str_split (F.args_str_split_1 _) (meets_str_split_space x t hz hz2) ?_
  unfold Txt.words at hQ
  cases hw:spaceWords x (x.length+1)==[(0,x.length)]
  ·rw [hw] at hQ
   simp only [Bool.false_eq_true,if_false] at hQ ⊢
   have X:Eff [] s { s with toks:=s.toks+(spaceWords x (x.length+1)).length,heap:=s.heap.push { cls:=.type "list",data:=.seq (strsFrom s.toks (PySem.wordsOf x)).toArray } }:=.push _
   exact hQ _ _ _ _ ⟨_,rfl,rfl⟩ X.tk (S.new X (Nat.le_refl _) ⟨_,.new,by rw [List.toList_toArray]; exact Zfe⟩) rfl
  ·rw [hw] at hQ
   simp only [if_true] at hQ ⊢
   have X:Eff [] s { s with heap:=s.heap.push { cls:=.type "list",data:=.seq #[.str x t] } }:=.push _
   exact hQ _ _ _ _ ⟨_,rfl,rfl⟩ X.tk (S.new X (Nat.le_refl _) ⟨_,.new,Zfd⟩) rfl) hline rfl hbase hfew
theorem EvX.split1 {oe e:Expr} {apos pos:Pos} {x y:Str} (ho:Ev C σ O oe (.str x)) (he:Ev C σ O e (.str y)) (hy:(y.length==0)=false) (hz:x.length≤sizeLine) (hz2:(partsBetween x (occurrences x y 0 x.length (x.length+1)) y.length).length≤sizeLine)
  (hline:autoParam ((apos.endLine==pos.line)=true) tR) (hs:autoParam (Zac [e]=true) tR)
  (hbase:autoParam (attributeBase oe (Str.ofString "split") C.env (eval oe C.env)=eval oe C.env) tR)
  (hfew:autoParam (((backTo pos (starEach [e] C.env)).all (λ x=>!x.1)&&(backToKw pos (keywordEach [] C.env)).all (λ x=>x.1.isSome)
   && decide (([e]:List Expr).length+([]:List Keyword).length+(if ([]:List Keyword).isEmpty then 0 else 1) < 30))=true) tR) :
  EvX C σ O (.Call (.Attribute oe (Str.ofString "split") apos) [e] [] pos) λ d O'=>∃ l,d = .ref l∧O'=(l,.list ((Txt.split x y).map .str))::O:=
 .meth (T := "str") ho (λ s v S hv=>strT hv) F.plainAttrs_str F.slot_str_split F.type_str_split (.cons he .nil) (by
  intro s v vs S hq0 hq1 Q hQ
  refine E11 hq0 λ t ev=>?_
  try clear hq0
  refine E12 (Vals.one hq1) λ v₁ e1 Y1=>?_
  refine E11 Y1 λ u hu=>?_
  clear Y1
  subst ev; subst hu; subst e1
  have X1:Eff [] s { s with heap:=s.heap.push { cls:=.type "list",data:=.seq #[.str x t] } }:=.push _
  unfold Txt.split at hQ
  cases h1:(decide (x.length < y.length) || decide (strKind x < strKind y))
  ·rw [h1] at hQ
   simp only [Bool.false_eq_true,if_false] at hQ
   cases hf:(occurrences x y 0 x.length (x.length+1)).isEmpty
   ·rw [hf] at hQ
    simp only [Bool.false_eq_true,if_false] at hQ
    refine call_meets F.slot_str_split (typeIs_str _ _ _) F.entry_str_split (F.args_str_split_2 _ _) (meets_str_split_sep x y t u h1 hy hf hz hz2) ?_
    have X:Eff [] s { s with toks:=s.toks+(partsBetween x (occurrences x y 0 x.length (x.length+1)) y.length).length,heap:=s.heap.push { cls:=.type "list",data:=.seq (strsFrom s.toks (partsBetween x (occurrences x y 0 x.length (x.length+1)) y.length)).toArray } }:=.push _
    exact hQ _ _ _ _ ⟨_,rfl,rfl⟩ X.tk (S.new X (Nat.le_refl _) ⟨_,.new,by rw [List.toList_toArray]; exact Zfe⟩) rfl
   ·rw [hf] at hQ
    simp only [if_true] at hQ
    exact call_meets F.slot_str_split (typeIs_str _ _ _) F.entry_str_split (F.args_str_split_2 _ _) (meets_str_split_not_found x y t u h1 hy hf)
     (hQ _ _ _ _ ⟨_,rfl,rfl⟩ X1.tk (S.new X1 (Nat.le_refl _) ⟨_,.new,Zfd⟩) rfl)
  ·rw [h1] at hQ
   simp only [if_true] at hQ
   exact call_meets F.slot_str_split (typeIs_str _ _ _) F.entry_str_split (F.args_str_split_2 _ _) (meets_str_split_cannot_occur x y t u h1)
    (hQ _ _ _ _ ⟨_,rfl,rfl⟩ X1.tk (S.new X1 (Nat.le_refl _) ⟨_,.new,Zfd⟩) rfl)) hline hs hbase hfew
theorem Ev.itemX {ve ie:Expr} {pos:Pos} {P:D→Led→Prop} {k:Int} {d:D} (hv:EvX C σ O ve P) (hi:∀ O',Ev C σ O' ie (.int k)) (h2:k < 2 ^ 63) (h3 : -(2 ^ 63)≤k)
  (hP:∀ e O',P e O'→∃ l ds R,e = .ref l∧O'=(l,.list ds)::(R++O)∧ds[plc k ds.length]? = some d ∧ -(ds.length:Int)≤k)
  (hs:autoParam (∀ o i,subscripted ie false o i=operate [o,i] (getItem o i)) tJ):Ev C σ O (.Subscript ve ie pos) d:=λ s S Q hQ=>by
 refine Subscript_ (hv s S _ λ v s₁ e O' p t₁ S₁ hv₁=>hi O' s₁ S₁ _ λ i s₂ t₂ S₂ hi₂=>?_)
 refine E34 (hP e O' p) λ l ds R Y1 Y2 hd hb=>?_
 subst Y1
 subst Y2
 have hh:v = .ref l:=hv₁; subst hh
 refine E11 hi₂ λ t Y1=>?_
 try clear hi₂
 subst Y1
 refine E12 (Zae (S₂.objs (l,.list ds) List.mem_cons_self)) λ items x hvs=>?_
 exact tail_any x.typeIs slot_list_getitem.lookup (Zfa x hvs hb h2 h3 hd λ r hr=>hQ r s₂ (t₁.trans t₂) (St.back (R:=(l,.list ds)::R) S₂) hr) (hs _ _)
theorem Ev.index {oe e:Expr} {apos pos:Pos} {l:Addr} {ys:List Str} {x:Str} {j:Nat} (ho:Ev C σ O oe (.ref l)) (he:Ev C σ O e (.str x)) (ha:OAt O l (.list (ys.map .str))) (hj:ys[j]? = some x) (hno:∀ i,i < j→ys[i]? ≠ some x) (hz:ys.length≤sizeLine)
  (hline:autoParam ((apos.endLine==pos.line)=true) tR) (hs:autoParam (Zac [e]=true) tR)
  (hbase:autoParam (attributeBase oe (Str.ofString "index") C.env (eval oe C.env)=eval oe C.env) tR)
  (hfew:autoParam (((backTo pos (starEach [e] C.env)).all (λ x=>!x.1)&&(backToKw pos (keywordEach [] C.env)).all (λ x=>x.1.isSome)
   && decide (([e]:List Expr).length+([]:List Keyword).length+(if ([]:List Keyword).isEmpty then 0 else 1) < 30))=true) tR) :
  Ev C σ O (.Call (.Attribute oe (Str.ofString "index") apos) [e] [] pos) (.nat j):=
 .ofX (.meth (T := "list") ho (λ s v S hv=>lstT (S.objs _ ha.mem) hv) F.plainAttrs_list F.slot_list_index F.type_list_index (.cons he .nil) (by
  intro s v vs S hv hq0 Q hQ
  refine E12 (Vals.one hq0) λ u e1 Y1=>?_
  refine E11 Y1 λ t eu=>?_
  clear Y1
  have hzz:sizeLine=16777216:=by decide +kernel
  have hh:v = .ref l:=hv; subst hh
  subst eu; subst e1
  refine E12 (S.objs _ ha.mem) λ items Y1 hvs=>?_
  refine E11 Y1 λ n e=>?_
  clear Y1
  have hsz:items.size=ys.length:=by have:=hvs.sizeA; simpa using this
  have hjl:j < ys.length:=(List.getElem?_eq_some_iff.mp hj).1
  have item:∀ m (hm:m < items.size),∃ t',items[m] = .str (ys[m]'(by exact Wn [_,_,_] (.a (.v 0) (.n 1)) (.v 1) [(1,.a (.v 0) (.n 1),.v 2),(1,.v 2,.v 1)] rfl hm (We hsz))) t':=λ m hm=>by
   refine E12 (hvs.get (i:=m) (d:=.str (ys[m]'(by exact Wn [_,_,_] (.a (.v 0) (.n 1)) (.v 1) [(1,.a (.v 0) (.n 1),.v 2),(1,.v 2,.v 1)] rfl hm (We hsz)))) (by rw [List.getElem?_map,List.getElem?_eq_getElem (by exact Wn [_,_,_] (.a (.v 0) (.n 1)) (.v 1) [(1,.a (.v 0) (.n 1),.v 2),(1,.v 2,.v 1)] rfl hm (We hsz))]; rfl)) λ v ev Y1=>?_
   refine E11 Y1 λ t' hv=>?_
   clear Y1
   exact ⟨t',by rw [← hv]; simpa [hm] using ev⟩
  let ev:Value→Bool:=λ y=>match y with | .str z _=>z==x | _=>false
  refine call_meets F.slot_list_index ⟨_,e,rfl⟩ F.entry_list_index (F.args_list_index_2 _ _) (SeqAt.list_indexAt l items n Option.none #[] (.str x t) ev j (by exact Wn [_,_,_] (.a (.v 0) (.n 1)) (.v 1) [(1,.a (.v 0) (.n 1),.v 2),(1,.v 2,.v 1)] rfl hjl (Wf hsz)) (by lia) ?_ ?_) ⟨e,?_,hQ _ _ _ _ ⟨rfl,rfl⟩ (.refl _) S.tok ⟨_,rfl⟩⟩
  ·refine E11 (item j (by exact Wn [_,_,_] (.a (.v 0) (.n 1)) (.v 1) [(1,.a (.v 0) (.n 1),.v 2),(1,.v 2,.v 1)] rfl hjl (Wf hsz))) λ t' q=>?_
   rw [q]
   rw [List.getElem?_eq_getElem hjl] at hj
   show (ys[j]==x)=true
   rw [Option.some.inj hj]; exact beq_self_eq_true x
  ·intro m hm hlt
   refine E11 (item m hm) λ t' q=>?_
   rw [q]
   have:=hno m hlt
   rw [List.getElem?_eq_getElem (by exact Wn [_,_,_] (.a (.v 0) (.n 1)) (.v 1) [(1,.a (.v 0) (.n 1),.v 2),(1,.v 2,.v 1)] rfl hm (We hsz))] at this
   exact beq_eq_false_iff_ne.mpr λ h=>this (by rw [h])
  ·intro y hy
   refine E11 (Array.mem_iff_getElem.mp hy) λ m Y1=>?_
   refine E11 Y1 λ hm Y2=>?_
   clear Y1
   subst Y2
   refine E11 (item m hm) λ t' q=>?_
   rw [q]
   exact SeqAt.EqAt.str_str _ _ _ _) hline hs hbase hfew)
theorem EvX.callP {fe:Expr} {f:Addr} {e:Expr} {es:List Expr} {pos:Pos} {ds:List D} {n:Nat} {U R:Led} {P:D→Led→Prop} (hf:Ev C σ O fe (.ref f)) (hd:IsDef B f)
  (ha:EvL C σ O (e::es) ds) (hc:Calls B n (.ref f) ds U P) (hn:n≤C.n) (hp:(U++R).Perm O)
  (hs:autoParam (Zac (e::es)=true) tR)
  (he:autoParam (eval (.Call fe (e::es) [] pos) C.env=(do callWith pos (← eval fe C.env) [] (backTo pos (starEach (e::es) C.env)) (backToKw pos (keywordEach [] C.env)))) tR) :
  EvX C σ O (.Call fe (e::es) [] pos) λ d O'=>∃ U',P d U'∧O'=U'++R:=λ s S=>by
 have nd:((U++R).map (·.1)).Nodup:=(hp.map _).nodup_iff.mpr S.ond
 rw [List.map_append,List.nodup_append] at nd
 exact EvX.call hf hd ha hc hn (λ p h=>hp.mem_iff.mp (List.mem_append_left _ h)) (λ p h=>⟨hp.mem_iff.mp (List.mem_append_right _ h),λ q=>nd.2.2 _ q _ (Zat h) rfl⟩) nd.1 nd.2.1 hs he s S
theorem Ev.call0 {fe:Expr} {f:Addr} {e:Expr} {es:List Expr} {pos:Pos} {ds:List D} {n:Nat} {d:D} (hf:Ev C σ O fe (.ref f)) (hd:IsDef B f)
  (ha:EvL C σ O (e::es) ds) (hc:Pure B n (.ref f) ds [] d) (hn:n≤C.n) (hs:autoParam (Zac (e::es)=true) tR)
  (he:autoParam (eval (.Call fe (e::es) [] pos) C.env=(do callWith pos (← eval fe C.env) [] (backTo pos (starEach (e::es) C.env)) (backToKw pos (keywordEach [] C.env)))) tR) :
  Ev C σ O (.Call fe (e::es) [] pos) d:=
 .ofX (.mono (.callP hf hd ha hc hn (.refl _) hs he) λ d' O' ⟨U',⟨e1,e2⟩,e3⟩=>⟨e1,by rw [e3,e2]; rfl⟩)
theorem Ev.call1 {fe:Expr} {f:Addr} {e:Expr} {es:List Expr} {pos:Pos} {ds:List D} {n:Nat} {d:D} {a:Addr} {sh:Sh} (hf:Ev C σ O fe (.ref f)) (hd:IsDef B f)
  (ha:EvL C σ O (e::es) ds) (hc:Pure B n (.ref f) ds [(a,sh)] d) (hn:n≤C.n) (hO:OAt O a sh) (hs:autoParam (Zac (e::es)=true) tR)
  (he:autoParam (eval (.Call fe (e::es) [] pos) C.env=(do callWith pos (← eval fe C.env) [] (backTo pos (starEach (e::es) C.env)) (backToKw pos (keywordEach [] C.env)))) tR) :
  Ev C σ O (.Call fe (e::es) [] pos) d:=λ s S Q hQ=>by
 refine E21 (List.append_of_mem hO.mem) λ l₁ l₂ Y1=>?_
 subst Y1
 have hp:([(a,sh)]++(l₁++l₂)).Perm (l₁++(a,sh)::l₂):=(List.perm_middle (a:=(a,sh)) (l₁:=l₁) (l₂:=l₂)).symm
 refine EvX.callP (U:=[(a,sh)]) (R:=l₁++l₂) hf hd ha hc hn hp hs he s S Q λ v s' d' O' ⟨U',⟨e1,e2⟩,e3⟩ t S' hv=>?_
 subst e1; subst e2; subst e3
 refine hQ v s' t (S'.sub (λ p h=>hp.symm.mem_iff.mp h) ((hp.map _).nodup_iff.mp S'.ond)) hv
end
section
set_option maxRecDepth 100000
variable {B:Bs} {C:Cx B} {σ σ':Loc} {O O':Led}
theorem plcN (n m:Nat):plc (n:Int) m=n:=by unfold plc; rw [if_neg (by lia)]; exact Int.toNat_natCast n
noncomputable def kindOf (w:List Nat):Option Nat:=(signs.find? λ p=>p.1=sl w).map (·.2)
theorem Zfq (w:List Nat):Zcp ettEs (sl w)=(kindOf w).map D.nat:=by
 unfold Zcp ettEs kindOf
 rw [List.find?_map]
 simp only [Option.map_map]
 rfl
theorem Zii {w:List Nat} (h:Zai w=true):∃ k,kindOf w=some k:=by
 unfold Zai at h
 rw [Zfq,Option.isSome_map] at h
 exact Option.isSome_iff_exists.mp h
noncomputable def Zaf {α β : Type} (f : β→α→Option β) (b : β):List α→Option β
 | []=>some b
 | x::r=>(f b x).bind λ c=>Zaf f c r
theorem Zdm {α β : Type} (f : β→α→Option β):∀ (xs ys:List α) (b : β),Zaf f b (xs++ys)=(Zaf f b xs).bind λ c=>Zaf f c ys
 | [],ys,b=>rfl
 | x::xs,ys,b=>by
  simp only [List.cons_append,Zaf,Option.bind_assoc]
  congr 1; funext c; exact Zdm f xs ys c
theorem Zey {α β : Type} {f : β→α→Option β} {b : β} {xs:List α} {i:Nat} {x : α} (h:xs[i]? = some x):Zaf f b (xs.take (i+1))=(Zaf f b (xs.take i)).bind λ c=>f c x:=by
 rw [List.take_add_one,h,Option.toList_some,Zdm]
 congr 1; funext c
 simp only [Zaf]
 cases f c x <;> rfl
theorem Zez {α β : Type} {f : β→α→Option β} {b c : β} {xs:List α} (h:Zaf f b xs=some c) (i:Nat):∃ y,Zaf f b (xs.take i)=some y:=by
 rw [← List.take_append_drop i xs,Zdm] at h
 refine E12 (Option.bind_eq_some_iff.mp h) λ y e _=>?_
 exact ⟨y,e⟩
noncomputable def trip:List (List Nat)→List (List Nat × List Nat × List Nat)
 | p::s::q::r=>(p,s,q)::trip (q::r)
 | _=>[]
theorem Zjx:∀ {L:List (List Nat)} {i:Nat} {p s q:List Nat},(trip L)[i]? = some (p,s,q)→L[2 * i]? = some p∧L[2 * i+1]? = some s∧L[2 * i+2]? = some q
 | [],_,_,_,_,h=>by simp [trip] at h
 | [_],_,_,_,_,h=>by simp [trip] at h
 | [_,_],_,_,_,_,h=>by simp [trip] at h
 | a::b::c::r,0,p,s,q,h=>by simp [trip] at h; simp [h]
 | a::b::c::r,i+1,p,s,q,h=>by
  simp only [trip,List.getElem?_cons_succ] at h
  have:=Zjx h
  rw [show 2 * (i+1)=2 * i+2 by exact Nat.le_antisymm (Wn [_] (.m 2 (.a (.v 0) (.n 1))) (.a (.m 2 (.v 0)) (.n 2)) [] rfl) (Wn [_] (.a (.m 2 (.v 0)) (.n 2)) (.m 2 (.a (.v 0) (.n 1))) [] rfl)]
  simpa using this
theorem Zjw:∀ (L:List (List Nat)),L.length % 2=1→L.length=2 * (trip L).length+1
 | [],h=>by simp at h
 | [_],_=>rfl
 | [_,_],h=>by simp at h
 | a::b::c::r,h=>by
  have:=Zjw (c::r) (by simp only [List.length_cons] at h ⊢; lia)
  simp only [trip,List.length_cons] at this ⊢; lia
theorem Zid:∀ (n:Nat) (cur l:List Nat),l.length≤n→(lex cur l).length % 2=1
 | _,cur,[],_=>by rw [lex]; rfl
 | 0,cur,c::r,h=>by simp at h
 | n+1,cur,c::r,h=>by
  rw [lex]
  split
  ·have hp:=Zct c r
   have:=Zid n [] ((c::r).drop (Zas (c::r))) (by simp only [List.length_drop,List.length_cons] at h ⊢; lia)
   simp only [List.length_cons]; lia
  ·exact Zid n _ r (by simp only [List.length_cons] at h; exact Wn [_,_] (.v 0) (.v 1) [(1,.a (.v 0) (.n 1),.a (.v 1) (.n 1))] rfl h)
theorem Zie:∀ (n:Nat) (cur l:List Nat),l.length≤n→(lex cur l).length≤2 * l.length+1
 | _,cur,[],_=>by rw [lex]; simp
 | 0,cur,c::r,h=>by simp at h
 | n+1,cur,c::r,h=>by
  rw [lex]
  split
  ·have hp:=Zct c r
   have:=Zie n [] ((c::r).drop (Zas (c::r))) (by simp only [List.length_drop,List.length_cons] at h ⊢; lia)
   simp only [List.length_cons,List.length_drop] at this ⊢; lia
  ·have:=Zie n (cur++[c]) r (by simp only [List.length_cons] at h; exact Wn [_,_] (.v 0) (.v 1) [(1,.a (.v 0) (.n 1),.a (.v 1) (.n 1))] rfl h)
   simp only [List.length_cons]; exact Wn [_,_] (.v 0) (.a (.m 2 (.a (.v 1) (.n 1))) (.n 1)) [(1,.v 0,.a (.m 2 (.v 1)) (.n 1))] rfl this
noncomputable def Zdq (p:List Nat):Option Str:=(Txt.words (sl p)).getLast?
noncomputable def idxW (ws:List Str) (x:Str):Option Nat:=ws.findIdx? (· == x)
noncomputable abbrev RwSt:=List Nat × List Nat × Bool
noncomputable def Zan (ws:List Str) (st:RwSt) (t:List Nat × List Nat × List Nat):Option RwSt:=
 (kindOf t.2.1).bind λ k=>
  if (k==20&&sl t.2.2 != ("" : Str))=true then st.2.1.getLast?.map λ a=>(st.1,st.2.1++[a],st.2.2)
  else if (k==17)=true then st.2.1.getLast?.map λ _=>(st.1,st.2.1.dropLast,true)
  else if (k==22)=true then (Zdq t.1).bind λ w=>(idxW ws w).bind λ j=>st.2.1.getLast?.map λ a=>(st.1,st.2.1.dropLast++[a ||| 1 <<< j],st.2.2)
  else if (k==21)=true then (if st.2.2=true then some (st.1,st.2.1,false) else st.2.1.getLast?.map λ a=>(st.1++[a],st.2.1,false))
  else some st
noncomputable def Zji (ws:List Str) (L:List (List Nat)):Option RwSt:=Zaf (Zan ws) ([],[0],false) (trip L)
theorem rowStep_len {ws:List Str} {st st':RwSt} {t:List Nat × List Nat × List Nat} (h:Zan ws st t=some st'):st'.1.length≤st.1.length+1∧st'.2.1.length≤st.2.1.length+1:=by
 unfold Zan at h
 refine E12 (Option.bind_eq_some_iff.mp h) λ k _ h=>?_
 split at h
 ·refine E12 (Option.map_eq_some_iff.mp h) λ a _ e=>?_; rw [← e]; simp
 split at h
 ·refine E12 (Option.map_eq_some_iff.mp h) λ a _ e=>?_; rw [← e]; simp; exact Wn [_] (.v 0) (.a (.a (.v 0) (.n 1)) (.n 1)) [] rfl
 split at h
 ·refine E12 (Option.bind_eq_some_iff.mp h) λ w _ h=>?_
  refine E12 (Option.bind_eq_some_iff.mp h) λ j _ h=>?_
  refine E12 (Option.map_eq_some_iff.mp h) λ a _ e=>?_; rw [← e]; simp
 split at h
 ·split at h
  ·cases h; simp
  ·refine E12 (Option.map_eq_some_iff.mp h) λ a _ e=>?_; rw [← e]; simp
 ·cases h; simp
theorem Zdp {xs:List Nat} {a:Nat} (h:xs.getLast? = some a):(xs.map D.nat)[plc (-1) (xs.map D.nat).length]? = some (.nat a)∧0 < xs.length:=by
 have h0:0 < xs.length:=by
  cases xs with
  | nil=>simp at h
  | cons=>simp
 refine ⟨?_,h0⟩
 have:plc (-1) (xs.map D.nat).length=xs.length - 1:=by
  unfold plc
  rw [if_pos (by decide),List.length_map]; lia
 rw [this,List.getElem?_map,← List.getLast?_eq_getElem?,h]; rfl
theorem setLast_nat {xs:List Nat} (h:0 < xs.length) (b:Nat):(xs.map D.nat).set (plc (-1) (xs.map D.nat).length) (.nat b)=(xs.dropLast++[b]).map D.nat:=by
 have:plc (-1) (xs.map D.nat).length=xs.length - 1:=by
  unfold plc
  rw [if_pos (by decide),List.length_map]; lia
 rw [this,← List.map_set]
 congr 1
 apply List.ext_getElem?
 intro i
 rw [List.getElem?_set,List.getElem?_append,List.length_dropLast,List.getElem?_dropLast]
 by_cases h1:xs.length - 1=i
 ·subst h1; simp; lia
 ·rw [if_neg h1]
  by_cases h2:i < xs.length - 1
  ·rw [if_pos h2,if_pos h2]
  ·rw [if_neg h2,List.getElem?_eq_none (by lia),List.getElem?_eq_none (by simp; lia)]
theorem Zcu:∀ (n:Nat) (cur l:List Nat),l.length≤n→∀ p∈lex cur l,p.length≤cur.length+l.length
 | _,cur,[],_,p,hp=>by rw [lex] at hp; rw [List.mem_singleton.mp hp]; simp
 | 0,cur,c::r,h,_,_=>by simp at h
 | n+1,cur,c::r,h,p,hp=>by
  rw [lex] at hp
  split at hp
  ·have hq:=Zct c r
   rcases List.mem_cons.mp hp with rfl | hp
   ·exact Wn [_,_] (.v 0) (.a (.v 0) (.v 1)) [] rfl
   rcases List.mem_cons.mp hp with rfl | hp
   ·have:=List.length_take_le (Zas (c::r)) (c::r)
    have h2:(List.take (Zas (c::r)) (c::r)).length≤(c::r).length:=by rw [List.length_take]; exact Nat.min_le_right _ _
    exact Wn [_,_,_] (.v 0) (.a (.v 1) (.v 2)) [(1,.v 0,.v 2)] rfl h2
   ·have:=Zcu n [] ((c::r).drop (Zas (c::r))) (by simp only [List.length_drop,List.length_cons] at h ⊢; lia) p hp
    simp only [List.length_drop,List.length_nil,List.length_cons] at this ⊢; lia
  ·have:=Zcu n (cur++[c]) r (by simp only [List.length_cons] at h; exact Wn [_,_] (.v 0) (.v 1) [(1,.a (.v 0) (.n 1),.a (.v 1) (.n 1))] rfl h) p hp
   simp only [List.length_append,List.length_cons,List.length_nil] at this ⊢; exact Wn [_,_,_] (.v 0) (.a (.v 1) (.a (.v 2) (.n 1))) [(1,.v 0,.a (.a (.v 1) (.a (.n 0) (.n 1))) (.v 2))] rfl this
theorem len_wsum:∀ l:List (Nat × Nat),l.length≤StrLaws.wsum l
 | []=>Nat.le_refl _
 | p::r=>by
  have:=len_wsum r
  show r.length+1≤(p.2 - p.1+1)+StrLaws.wsum r
  exact Wn [_,_,_] (.a (.v 0) (.n 1)) (.a (.a (.v 1) (.n 1)) (.v 2)) [(1,.v 0,.v 2)] rfl this
theorem Zir (x:Str):(Builtin.Str.spaceWords x (x.length+1)).length≤x.length+1:=Nat.le_trans (len_wsum _) (StrLaws.sw_weight x).1
theorem Zjj (n:Nat):Builtin.Range.rangeSize 1 ((2 * n+1:Nat):Int) 2=n:=by
 unfold Builtin.Range.rangeSize
 rw [if_pos (by decide)]
 split <;> lia
theorem Zhq {a b c:Int} {m:Nat} (hsz:Builtin.Range.rangeSize a b c=m) (hm:m≤4000001) (ha:0≤a∧a≤10) (hb:0≤b∧b≤10000000) (hc:0 < c∧c≤10):Builtin.Range.small a b c=true:=by
 unfold Builtin.Range.small
 rw [hsz,if_pos hc.1]
 unfold Builtin.Range.rangeFitsLong
 simp only [Bool.and_eq_true,Bool.or_eq_true,decide_eq_true_eq]
 lia
theorem rows_calls (T:Top B) {w:Addr} {ws:List Str} {l:List Nat} {fin:RwSt} (hz:l.length≤1000000) (hws:ws.length≤64) (hrun:Zji ws (lex [] l)=some fin) :
  Calls B 2 (.ref (T.fA 76)) [.str (sl l),.ref w] [(w,.list (ws.map .str))] λ d O'=>∃ a,d = .ref a∧O'=[(a,.list ((fin.1.drop 1).map D.nat)),(w,.list (ws.map .str))]:=by
 have hzz:sizeLine=16777216:=by decide +kernel
 refine .def2 (T.gn (i:=76) (by kernel_rfl)).2 "text" "words" ["pieces", "rows", "around", "closing", "at", "kind"] [] (λ _=>[]) λ C I hn=>?_
 refine Run.kabs λ K hE=>?_
 refine Run.assignXC1 (EvX.callP (U:=[]) (R:=[(w,.list (ws.map .str))]) (.gn T I 75) (T.gn (i:=75) (by kernel_rfl)).2.isDef (.cons (.name .z) .nil) (Zee T hz) (by (apply Wle;assumption;rfl)) (.refl _)) λ pa=>?_
 refine ⟨_,.q2,?_⟩
 refine Run.assignX1 (EvX.list .nil) λ r=>?_
 refine ⟨_,.q3,?_⟩
 refine Run.assignX1 (EvX.list (ds:=[.nat 0]) (.cons (.intN 0) .nil)) λ ar=>?_
 refine ⟨_,.q4,?_⟩
 refine .assign .bool .q5 ?_
 have hodd:=Zid l.length [] l (Nat.le_refl _)
 have hlen:=Zie l.length [] l (Nat.le_refl _)
 have hmem:=Zcu l.length [] l (Nat.le_refl _)
 generalize lex [] l=L at *
 have htl:=Zjw L hodd
 have hinit:∀ i,∃ y,Zaf (Zan ws) ([],[0],false) ((trip L).take i)=some y:=Zez hrun
 let stA:Nat→RwSt:=λ i=>(Zaf (Zan ws) ([],[0],false) ((trip L).take i)).getD default
 have hst:∀ i,Zaf (Zan ws) ([],[0],false) ((trip L).take i)=some (stA i):=λ i=>by
  refine E11 (hinit i) λ y e=>?_
  show _=some (Option.getD _ _)
  rw [e]; rfl
 have hstep:∀ i t,(trip L)[i]? = some t→Zan ws (stA i) t=some (stA (i+1)):=λ i t ht=>by
  have:=Zey (f:=Zan ws) (b:=([],[0],false)) ht
  rw [hst,hst] at this
  exact this.symm
 have hsize:∀ i,(stA i).1.length≤i∧(stA i).2.1.length≤i+1:=by
  intro i
  induction i with
  | zero=>exact ⟨Nat.le_refl _,Nat.le_refl _⟩
  | succ i ih=>
   cases ht:(trip L)[i]? with
   | some t=>have:=rowStep_len (hstep i t ht); lia
   | none=>
    have e:stA (i+1)=stA i:=by
     show Option.getD _ _=Option.getD _ _
     rw [List.take_add_one,ht]; simp
    rw [e]; lia
 have h0:stA 0=([],[0],false):=rfl
 have hfin:stA (trip L).length=fin:=by
  have:=hst (trip L).length
  rw [List.take_length] at this
  unfold Zji at hrun
  rw [hrun] at this
  exact (Option.some.inj this).symm
 clear_value stA
 refine Run.for_ (Iter.range3 (a:=((1:Nat):Int)) (b:=(L.length:Nat)) (c:=((2:Nat):Int)) (n:=(trip L).length) (.bn T I rfl) (.intN 1) ((Ev.lenList (.bn T I rfl) (.name .q2) .q2 (by rw [List.length_map]; exact Wn [_,_] (.v 0) (.n 16777216) [(1,.v 0,.a (.m 2 (.v 1)) (.n 1)),(2,.v 1,.n 1000000)] rfl hlen hz)).cast (by rw [List.length_map])) (.intN 2) (by decide) ?_ ?_ (PyProof.noPylong_small (by decide)))
  (λ i=>[("text",some (.str (sl l))),("words",some (.ref w)),("pieces",some (.ref pa)),("rows",some (.ref r)),("around",some (.ref ar)),("closing",some (.bool (stA i).2.2)),("at",none),("kind",none)])
  (λ i=>[(ar,.list ((stA i).2.1.map D.nat)),(r,.list ((stA i).1.map D.nat)),(pa,.list (L.map strD)),(w,.list (ws.map .str))]) (Kb:=λ _=>False) ⟨⟨by rw [h0]; rfl,by rw [h0]; rfl⟩,λ _ _=>trivial,λ i d hd S=>?_,?_,λ _ h=>h.elim⟩
 ·rw [htl]; exact Zjj _
 ·exact Zhq (by rw [htl]; exact Zjj _) (by lia) (by decide) (by lia) (by decide)
 ·refine E02 (Zdl hd) λ hi Y1=>?_
  subst Y1
  have e1:D.int (((1:Nat):Int)+(i:Int) * ((2:Nat):Int)) = .nat (2 * i+1):=by congr 1; lia
  rw [e1]
  obtain ⟨⟨p,s,q⟩,ht⟩:∃ t,(trip L)[i]? = some t:=⟨(trip L)[i],List.getElem?_eq_getElem hi⟩
  refine E03 (Zjx ht) λ g0 g1 g2=>?_
  have hs:=hstep i _ ht
  refine E02 (hsize i) λ z1 z2=>?_
  have hpl:p.length≤1000000:=by
   have:=hmem p (List.mem_of_getElem? g0)
   simp only [List.length_nil] at this; exact Wn [_,_] (.v 0) (.n 1000000) [(1,.v 0,.a (.n 0) (.v 1)),(1,.v 1,.n 1000000)] rfl this hz
  generalize stA i=st at hs z1 z2 ⊢
  generalize stA (i+1)=st' at hs ⊢
  obtain ⟨rows,around,closing⟩:=st
  simp only at z1 z2 ⊢
  unfold Zan at hs
  refine E12 (Option.bind_eq_some_iff.mp hs) λ k hk hs=>?_
  simp only at hk hs
  have g1':∀ {ds:List D},ds=L.map strD→ds[plc ((2 * i+1:Nat):Int) ds.length]? = some (strD s):=λ e=>by rw [e,plcN,List.getElem?_map,g1]; rfl
  refine ⟨_,_,.name .q6,?_⟩
  refine Run.kabs λ K hK=>?_
  refine .assign (d:=.nat k) (Ev.dgetItem (k:=sl s) (.ett T I) (.item (.name .q2) (.name .q6) .q2 (g1' rfl) (by lia) (by lia) (by lia)) Zdt T.ettM.map (by rw [Zfq,hk]; rfl)) .q7 ?_
  have hbk:sizeLine=16777216:=hzz
  refine .ite (b:=k==20&&sl q != ("" : Str)) (.and (.cmp (.name .q7) (.intN 20) .eqN) λ _=>.cmp (.item (k:=((2 * i+2:Nat):Int)) (d:=strD q) (.name .q2) ((Ev.addN (.name .q6) (.intN 1)).cast (by rfl)) .q2 (by rw [plcN,List.getElem?_map,g2]; rfl) (by lia) (by lia) (by lia)) .str .neStr) (λ hb=>?_) (λ hb=>?_)
  ·rw [if_pos hb] at hs
   refine E12 (Option.map_eq_some_iff.mp hs) λ a ha e=>?_
   refine E02 (Zdp ha) λ hl hl0=>?_
   refine .expr (.append (ds:=around.map D.nat) (d:=.nat a) (.name .q4) .z (.item (.name .q4) (.neg .int) .z hl (by rw [List.length_map]; lia) (by decide) (by decide)) .z (by rw [List.length_map]; lia)) ?_
   refine .next (.done (.keep (.keep (.keep (.keep (.keep (.keep (.drop (.drop .nil)))))))) (.refl _) λ s S'=>?_)
   refine hK _ _ ?_
   dsimp only
   rw [← e]
   simpa using S'
  rw [hb,if_neg Bool.false_ne_true] at hs
  refine .ite (.cmp (.name .q7) (.intN 17) .eqN) (λ hb=>?_) (λ hb=>?_)
  ·rw [if_pos hb] at hs
   refine E12 (Option.map_eq_some_iff.mp hs) λ a ha e=>?_
   have hl0:=(Zdp ha).2
   refine .expr (.pop (ds:=around.map D.nat) (d:=.nat a) (.name .q4) .z (by rw [List.length_map,List.getElem?_map,← List.getLast?_eq_getElem?,ha]; rfl) .z (by rw [List.length_map]; lia)) ?_
   refine .assign .bool .q5 ?_
   refine .next (.next (.done (.keep (.keep (.keep (.keep (.keep (.keep (.drop (.drop .nil)))))))) (.refl _) λ s S'=>?_))
   refine hK _ _ ?_
   dsimp only
   rw [← e]
   simpa [List.map_dropLast] using S'
  rw [hb,if_neg Bool.false_ne_true] at hs
  refine .ite (.cmp (.name .q7) (.intN 22) .eqN) (λ hb=>?_) (λ hb=>?_)
  ·rw [if_pos hb] at hs
   refine E12 (Option.bind_eq_some_iff.mp hs) λ wd hw hs=>?_
   refine E12 (Option.bind_eq_some_iff.mp hs) λ j hj hs=>?_
   refine E12 (Option.map_eq_some_iff.mp hs) λ a ha e=>?_
   refine E02 (Zdp ha) λ hl hl0=>?_
   unfold idxW at hj
   refine E12 (List.findIdx?_eq_some_iff_getElem.mp hj) λ hj1 hj2 hj3=>?_
   have hwd:(Txt.words (sl p)).length=(Txt.words (sl p)).length:=rfl
   refine .augItem (ds:=around.map D.nat) (d:=.nat a) (u:=.nat (1 <<< j)) (f:=.nat (a ||| 1 <<< j)) (.name .q4) (.neg .int) .z hl
    (.shlN (.intN 1) (.index (ys:=ws) (x:=wd) (j:=j) (.name .q1) (.itemX (k:=-1) (.split0 (x:=sl p) (.item (k:=((2 * i:Nat):Int)) (.name .q2) ((Ev.subN (.name .q6) (.intN 1) (by exact Wlb rfl)).cast (by congr 1)) .q2 (by rw [plcN,List.getElem?_map,g0]; rfl) (by lia) (by lia) (by lia)) (by rw [Zal]; (apply Wls;assumption;rfl)) ?_) (λ _=>.neg .int) (by decide) (by decide) ?_) .q3 ?_ ?_ (by (apply Wls;assumption;rfl))) (by exact Wn [_,_] (.v 0) (.n 1000000) [(1,.a (.v 0) (.n 1),.v 1),(1,.v 1,.n 64)] rfl hj1 hws) (by decide)) .orN .z ?_ ?_ ?_ ?_
   ·have:=Zir (sl p); rw [Zal] at this ⊢; exact Wn [_,_] (.v 0) (.n 16777216) [(1,.v 0,.a (.v 1) (.n 1)),(1,.v 1,.n 1000000)] rfl this hpl
   ·intro e O' hq0
    refine E12 hq0 λ l' Y1 Y2=>?_
    try clear hq0
    subst Y1
    subst Y2
    unfold Zdq at hw
    have h1:0 < (Txt.words (sl p)).length:=by
     cases hq:Txt.words (sl p) with
     | nil=>rw [hq] at hw; simp at hw
     | cons=>simp
    refine ⟨l',_,[],rfl,rfl,?_,?_⟩
    ·have:plc (-1) ((Txt.words (sl p)).map D.str).length=(Txt.words (sl p)).length - 1:=by
      unfold plc
      rw [if_pos (by decide),List.length_map]; lia
     rw [this,List.getElem?_map,← List.getLast?_eq_getElem?,hw]; rfl
    ·rw [List.length_map]; lia
   ·rw [List.getElem?_eq_getElem hj1]
    exact congrArg some (eq_of_beq hj2)
   ·intro m hm h
    refine E11 (List.getElem?_eq_some_iff.mp h) λ hm1 hm2=>?_
    exact hj3 m hm (by rw [hm2]; exact beq_self_eq_true _)
   ·rw [setLast_nat hl0]
    refine .next (.next (.next (.done (.keep (.keep (.keep (.keep (.keep (.keep (.drop (.drop .nil)))))))) (.refl _) λ s S'=>?_)))
    refine hK _ _ ?_
    dsimp only
    rw [← e]
    exact S'
   ·rw [List.length_map]; lia
   ·rw [List.length_map]; lia
   ·rw [List.length_map]; lia
  rw [hb,if_neg Bool.false_ne_true] at hs
  refine .ite (.cmp (.name .q7) (.intN 21) .eqN) (λ hb=>?_) (λ hb=>?_)
  ·rw [if_pos hb] at hs
   refine .ite (.not (.val (.name .q5) .bool)) (λ hc=>?_) (λ hc=>?_)
   ·rw [if_neg (by simpa using hc)] at hs
    refine E12 (Option.map_eq_some_iff.mp hs) λ a ha e=>?_
    refine E02 (Zdp ha) λ hl hl0=>?_
    refine .expr (.append (ds:=rows.map D.nat) (d:=.nat a) (.name .q3) .q1 (.item (.name .q4) (.neg .int) .z hl (by rw [List.length_map]; lia) (by decide) (by decide)) .q1 (by rw [List.length_map]; lia)) ?_
    refine .next (.assign .bool .q5 ?_)
    refine .next (.next (.next (.next (.done (.keep (.keep (.keep (.keep (.keep (.keep (.drop (.drop .nil)))))))) (.refl _) λ s S'=>?_))))
    refine hK _ _ ?_
    dsimp only
    rw [← e]
    simpa using S'
   ·rw [if_pos (by simpa using hc)] at hs
    refine .next (.assign .bool .q5 ?_)
    refine .next (.next (.next (.next (.done (.keep (.keep (.keep (.keep (.keep (.keep (.drop (.drop .nil)))))))) (.refl _) λ s S'=>?_))))
    refine hK _ _ ?_
    dsimp only
    rw [← Option.some.inj hs]
    exact S'
  ·rw [hb,if_neg Bool.false_ne_true] at hs
   refine .next (.next (.next (.next (.done (.keep (.keep (.keep (.keep (.keep (.keep (.drop (.drop .nil)))))))) (.refl _) λ s S'=>?_))))
   refine hK _ _ ?_
   dsimp only
   rw [← Option.some.inj hs]
   exact S'
 ·rw [Zbp,hfin]
  refine E02 (hsize (trip L).length) λ z1 z2=>?_
  rw [hfin] at z1 z2
  refine .next (.retX (.slice (.name .q3) .q1 (.some (.intN 1)) .none (by rw [List.length_map]; lia)) ?_)
  intro v s d O' hq0 S x
  refine E12 hq0 λ c Y1 Y2=>?_
  try clear hq0
  subst Y1
  subst Y2
  rw [Zjp,← List.map_drop] at S
  exact hE _ _ (Ends.of ⟨c,rfl,rfl⟩ S (.cons₂ _ (.cons _ (.cons _ (.cons _ (.refl _))))) x)
end
section
open PySem PySem.Builtin.Str PySem.W PySem.Calls PyProof.Rows
set_option maxRecDepth 100000
variable {B:Bs} {C:Cx B} {σ σ':Loc} {O O':Led}
theorem Zgk {K:Type} [DecidableEq K]:∀ (kvs acc:List (K × Value)),((acc++kvs).map (·.1)).Nodup→merged acc kvs=acc++kvs
 | [],acc,_=>by simp [merged]
 | (k,v)::kvs,acc,h=>by
  have e:stored acc k v=acc++[(k,v)]:=by
   unfold stored
   rw [if_neg]
   intro ha
   refine E12 (List.any_eq_true.mp ha) λ p hp hk=>?_
   rw [List.map_append,List.nodup_append] at h
   exact h.2.2 p.1 (List.mem_map_of_mem (f:=(·.1)) hp) k (by simp) (by simpa using hk)
  have:=Zgk kvs (acc++[(k,v)]) (by simpa using h)
  unfold merged at this ⊢
  rw [List.foldl_cons,e,this]
  simp
inductive EvKV (C:Cx B) (σ : Loc):List (Option Expr)→List Expr→List (Str × D)→Prop
 | nil:EvKV C σ [] [] []
 | cons {k v:Expr} {x:Str} {d:D} {ks:List (Option Expr)} {vs:List Expr} {es:List (Str × D)} (hk:∀ O,Ev C σ O k (.str x)) (hv:∀ O,Ev C σ O v d) (r:EvKV C σ ks vs es):EvKV C σ (some k::ks) (v::vs) ((x,d)::es)
theorem EvKV.shape {ks:List (Option Expr)} {vs:List Expr} {es:List (Str × D)} (h:EvKV C σ ks vs es):ks.all (·.isSome)=true∧ks.length=vs.length∧ks.length=es.length:=by
 induction h with
 | nil=>exact ⟨rfl,rfl,rfl⟩
 | cons hk hv r ih=>exact ⟨by simpa using ih.1,by simpa using ih.2.1,by simpa using ih.2.2⟩
theorem EvKV.go {ks:List (Option Expr)} {vs:List Expr} {es:List (Str × D)} (h:EvKV C σ ks vs es) {pos:Pos}:∀ {O s},St C σ O s→∀ {Q:List (Value × Value)→Shared→Prop},
  (∀ ps s' kvs,Tk s.heap s'.heap→St C σ O s'→Carries (Zfj B) ps kvs→kvs.map (·.1)=es.map (·.1)→Vals s'.heap (kvs.map (·.2)) (es.map (·.2))→Q ps s')→C.wp (evalPairs (pairTrees ks vs C.env pos)) Q s:=by
 induction h with
 | nil=>intro O s S Q hQ; exact evalPairs_nil (hQ [] s [] (.refl _) S trivial rfl rfl)
 | cons hk hv r ih=>
  intro O s S Q hQ
  show C.wp (evalPairs (_::_)) Q s
  refine evalPairs_cons (hk O s S _ λ k s₁ t₁ S₁ hkv=>wpAny_bind (hv O s₁ S₁ _ λ v s₂ t₂ S₂ hvv=>wpAny_bind (wpAny_standAt (wpAny_pure ?_))))
  refine ih S₂ λ ps s₃ kvs t₃ S₃ hc e hv'=>?_
  exact hQ ((k,v)::ps) s₃ ((_,v)::kvs) ((t₁.trans t₂).trans t₃) S₃ ⟨Zdt hkv,rfl,hc⟩ (by rw [List.map_cons,List.map_cons,e]) (.cons (hvv.tk t₃) hv')
theorem EvX.dict0 {pos:Pos}:EvX C σ O (.Dict [] [] pos) λ d O'=>∃ a,d = .ref a∧O'=(a,.dict [])::O:=λ s S Q hQ=>by
 refine wpAny_Dict_empty ?_
 have X:Eff [] s { s with heap:=s.heap.push { cls:=.type "dict",data:=.dict #[] } }:=.push _
 exact hQ _ _ _ _ ⟨_,rfl,rfl⟩ X.tk (S.new X (Nat.le_refl _) ⟨[],Heap.DictOf.new ..,rfl,.nil⟩) rfl
theorem EvX.dict {ks:List (Option Expr)} {vs:List Expr} {es:List (Str × D)} {pos:Pos} (h:EvKV C σ ks vs es) (h0:es ≠ []) (hl:es.length≤15) (nd:(es.map (·.1)).Nodup):EvX C σ O (.Dict ks vs pos) λ d O'=>∃ a,d = .ref a∧O'=(a,.dict es)::O:=λ s S Q hQ=>by
 obtain ⟨s1,s2,s3⟩:=h.shape
 refine wpAny_Dict_walk (knd:=Zfj B) s1 s2 (λ e=>h0 (List.eq_nil_of_length_eq_zero (by rw [← s3,e]; rfl))) (by rw [s3]; exact hl) ?_
 have X:Eff [] s { s with heap:=s.heap.push { cls:=.type "dict",data:=.dict #[] } }:=.push _
 have S':=S.new (a:=s.heap.objs.size) (sh:=.dict []) X (Nat.le_refl _) ⟨[],Heap.DictOf.new ..,rfl,.nil⟩
 refine h.go S' λ ps s₁ kvs t₁ S₁ hc e hv=>⟨kvs,hc,?_,λ h' hm hs=>?_⟩
 ·refine E13 (S₁.objs (s.heap.objs.size,.dict []) List.mem_cons_self) λ k0 hd e0 _=>?_
  cases k0 with
  | nil=>exact hd
  | cons=>simp at e0
 ·rw [Zgk kvs [] (by rw [List.nil_append,e]; exact nd),List.nil_append] at hm
  have X2:Eff [s.heap.objs.size] s₁ { s₁ with heap:=h',toks:=s₁.toks+ps.length }:=.but hs λ vs=>ShAt.noTup (S₁.objs (s.heap.objs.size,.dict []) List.mem_cons_self) vs
  exact hQ _ _ _ _ ⟨_,rfl,rfl⟩ ((X.tk.trans t₁).trans X2.tk) (S₁.put .z X2 ⟨kvs,hm,e,hv.tk X2.tk⟩) rfl
theorem Ev.strip {oe:Expr} {apos pos:Pos} {x:Str} (ho:Ev C σ O oe (.str x)) (hz:x.length≤sizeLine)
  (hline:autoParam ((apos.endLine==pos.line)=true) tR)
  (hbase:autoParam (attributeBase oe (Str.ofString "strip") C.env (eval oe C.env)=eval oe C.env) tR)
  (hfew:autoParam (((backTo pos (starEach [] C.env)).all (λ x=>!x.1)&&(backToKw pos (keywordEach [] C.env)).all (λ x=>x.1.isSome)
   && decide (([]:List Expr).length+([]:List Keyword).length+(if ([]:List Keyword).isEmpty then 0 else 1) < 30))=true) tR) :
  Ev C σ O (.Call (.Attribute oe (Str.ofString "strip") apos) [] [] pos) (.str (Txt.strip x)):=
 .ofX (.meth (T := "str") ho (λ s v S hv=>strT hv) F.plainAttrs_str F.slot_str_strip F.type_str_strip .nil (by
  intro s v vs S hq0 e2 Q hQ
  refine E11 hq0 λ t ev=>?_
  try clear hq0
  have hh:vs=[]:=e2; subst hh
  subst ev
  exact SC.strip (λ t' k=>hQ _ _ _ _ ⟨rfl,rfl⟩ (.refl _) S.tok ⟨_,rfl⟩) hz) hline rfl hbase hfew)
theorem EvX.ifExp {t x y:Expr} {pos:Pos} {b:Bool} {P:D→Led→Prop} (ht:Tst C σ O t b) (hx:b=true→EvX C σ O x P) (hy:b=false→EvX C σ O y P):EvX C σ O (.IfExp t x y pos) P:=λ s S Q hQ=>by
 refine wpAny_IfExp (ht s S _ λ s₁ t₁ S₁=>?_)
 cases b with
 | true=>exact hx rfl s₁ S₁ Q λ v s₂ d O' p t₂=>hQ v s₂ d O' p (t₁.trans t₂)
 | false=>exact hy rfl s₁ S₁ Q λ v s₂ d O' p t₂=>hQ v s₂ d O' p (t₁.trans t₂)
end
section
set_option maxRecDepth 100000
set_option maxHeartbeats 1000000
variable {B:Bs} {C:Cx B} {σ σ':Loc} {O O':Led}
noncomputable def Zhs:List (Str × D):=[("amp",.str "&"),("lt",.str "<"),("#xD",.str "\r")]
theorem sgn38:D.str "&" = strD [38]:=congrArg D.str (by decide +kernel)
theorem sgn60:D.str "<" = strD [60]:=congrArg D.str (by decide +kernel)
theorem sgn13:D.str "\r" = strD [13]:=congrArg D.str (by decide +kernel)
noncomputable def sgnOf (w:List Nat):Option (List Nat):=if sl w = "amp" then some [38] else if sl w = "lt" then some [60] else if sl w = "#xD" then some [13] else none
theorem sgn_get (w:List Nat):Zcp Zhs (sl w)=(sgnOf w).map strD:=by
 unfold Zcp Zhs sgnOf
 rw [sgn38,sgn60,sgn13]
 by_cases h1:sl w = "amp"
 ·rw [if_pos h1,h1]; rfl
 ·rw [if_neg h1,List.find?_cons_of_neg (by simpa using λ e=>h1 e.symm)]
  by_cases h2:sl w = "lt"
  ·rw [if_pos h2,h2]; rfl
  ·rw [if_neg h2,List.find?_cons_of_neg (by simpa using λ e=>h2 e.symm)]
   by_cases h3:sl w = "#xD"
   ·rw [if_pos h3,h3]; rfl
   ·rw [if_neg h3,List.find?_cons_of_neg (by simpa using λ e=>h3 e.symm)]; rfl
noncomputable def Zbr:List (List Nat)→Option (List Nat)
 | []=>some []
 | [_]=>none
 | [s,q]=>(kindOf s).bind λ k=>if (k==19)=true then none else some (s++q)
 | [_,_,_]=>none
 | s::q::s₂::q₂::r=>(kindOf s).bind λ k=>if (k==19)=true then
   (kindOf s₂).bind λ k₂=>if (k₂==13)=true then (sgnOf q).bind λ g=>(Zbr r).map λ u=>g++q₂++u else (Zbr (s₂::q₂::r)).map λ u=>s++q++u
  else (Zbr (s₂::q₂::r)).map λ u=>s++q++u
noncomputable def Zio (L:List (List Nat)):Option (List Nat):=match L with
 | p::r=>(Zbr r).map (p ++ ·)
 | []=>none
theorem drop1 {L:List (List Nat)} {i:Nat} {a:List Nat} {r:List (List Nat)} (h:L.drop i=a::r):L[i]? = some a∧L.drop (i+1)=r:=by
 have h0:L[i]? = some a:=by
  have:=congrArg (λ l=>l[0]?) h
  simpa using this
 refine ⟨h0,?_⟩
 have:=congrArg (List.drop 1) h
 simpa using this
theorem unwGo_kind {s q u:List Nat} {rest:List (List Nat)} (hu:Zbr (s::q::rest)=some u):∃ k,kindOf s=some k:=by
 cases rest with
 | nil=>exact ⟨_,(Option.bind_eq_some_iff.mp hu).choose_spec.1⟩
 | cons s₂ r=>
  cases r with
  | nil=>cases hu
  | cons q₂ r2=>exact ⟨_,(Option.bind_eq_some_iff.mp hu).choose_spec.1⟩
theorem unwGo_19 {s q u:List Nat} {rest:List (List Nat)} {k:Nat} (hk:kindOf s=some k) (hk19:(k==19)=true) (hu:Zbr (s::q::rest)=some u) :
  ∃ s₂ q₂ r2 k₂,rest=s₂::q₂::r2∧kindOf s₂=some k₂∧(if (k₂==13)=true then (sgnOf q).bind λ g=>(Zbr r2).map λ u=>g++q₂++u else (Zbr (s₂::q₂::r2)).map λ u=>s++q++u)=some u:=by
 cases rest with
 | nil=>rw [Zbr,hk] at hu; simp only [Option.bind_some,hk19,if_true] at hu; cases hu
 | cons s₂ r=>
  cases r with
  | nil=>cases hu
  | cons q₂ r2=>
   rw [Zbr,hk] at hu
   simp only [Option.bind_some,hk19,if_true] at hu
   refine E12 (Option.bind_eq_some_iff.mp hu) λ k₂ hk₂ hu=>?_
   exact ⟨s₂,q₂,r2,k₂,rfl,hk₂,hu⟩
theorem unwGo_not {s q u:List Nat} {rest:List (List Nat)} {k:Nat} (hk:kindOf s=some k) (hkf:(k==19)=false) (hu:Zbr (s::q::rest)=some u):∃ u',Zbr rest=some u'∧s++q++u'=u:=by
 cases rest with
 | nil=>rw [Zbr,hk] at hu; simp only [Option.bind_some,hkf,Bool.false_eq_true,if_false] at hu; exact ⟨[],rfl,by rw [List.append_nil]; exact Option.some.inj hu⟩
 | cons s₂ r=>
  cases r with
  | nil=>cases hu
  | cons q₂ r2=>
   rw [Zbr,hk] at hu
   simp only [Option.bind_some,hkf,Bool.false_eq_true,if_false] at hu
   refine E12 (Option.map_eq_some_iff.mp hu) λ u' hu' e=>?_
   exact ⟨u',hu',e⟩
theorem Zju (T:Top B) {l fin:List Nat} (hz:l.length≤1000000) (hrun:Zio (lex [] l)=some fin) (hfz:fin.length≤1000000):Pure B 2 (.ref (T.fA 81)) [.str (sl l)] [] (strD fin):=by
 have hzz:sizeLine=16777216:=by decide +kernel
 refine .def1 (T.gn (i:=81) (by kernel_rfl)).2 "page" ["signs", "pieces", "text", "at"] [] (λ _=>[]) λ C I hn=>?_
 refine Run.kabs λ K hE=>?_
 refine Run.assignX1 (EvX.dict (es:=Zhs) (.cons (λ _=>.str) (λ _=>.str) (.cons (λ _=>.str) (λ _=>.str) (.cons (λ _=>.str) (λ _=>.str) .nil))) (by simp [Zhs]) (by decide) (by decide +kernel)) λ sg=>?_
 refine ⟨_,.q1,?_⟩
 refine Run.assignXC1 (EvX.callP (U:=[]) (R:=[(sg,.dict Zhs)]) (.gn T I 75) (T.gn (i:=75) (by kernel_rfl)).2.isDef (.cons (.name .z) .nil) (Zee T hz) (by (apply Wle;assumption;rfl)) (.refl _)) λ pa=>?_
 refine ⟨_,.q2,?_⟩
 have hlen:=Zie l.length [] l (Nat.le_refl _)
 have hmem:=Zcu l.length [] l (Nat.le_refl _)
 generalize lex [] l=L at *
 obtain ⟨p,r,rfl⟩:∃ p r,L=p::r:=by
  cases L with
  | nil=>cases hrun
  | cons p r=>exact ⟨p,r,rfl⟩
 have hrun':(Zbr r).map (p ++ ·)=some fin:=hrun
 refine E12 (Option.map_eq_some_iff.mp hrun') λ u hu hf=>?_
 refine .assign (d:=strD p) (.item (k:=((0:Nat):Int)) (.name .q2) (.intN 0) .z (by rfl) (by lia) (by decide) (by decide)) .q3 ?_
 refine .assign (.intN 1) .q4 ?_
 generalize hL:p::r=L at *
 refine Run.while_ (α:=List Nat × Nat) (λ x=>x.2≤L.length∧∃ u,Zbr (L.drop x.2)=some u∧fin=x.1++u) (λ x=>L.length - x.2)
  (λ x=>[("page",some (.str (sl l))),("signs",some (.ref sg)),("pieces",some (.ref pa)),("text",some (strD x.1)),("at",some (.nat x.2))])
  (λ x=>[(pa,.list (L.map strD)),(sg,.dict Zhs)]) (λ x=>decide (x.2 < L.length)) (Kb:=λ _=>False) (λ x _=>?_) ?_ ?_ (λ _ h=>h.elim) (p,1) ⟨by rw [← hL]; simp,u,by rw [← hL]; exact hu,hf.symm⟩ ⟨rfl,rfl⟩
 ·refine (Tst.cmp (.name .q4) (.lenList (.bn T I rfl) (.name .q2) .z (by rw [List.length_map]; exact Wn [_,_] (.v 0) (.n 16777216) [(1,.v 0,.a (.m 2 (.v 1)) (.n 1)),(2,.v 1,.n 1000000)] rfl hlen hz)) .ltN).cast ?_
  rw [List.length_map]
 ·intro hq0 hq1 hlt
  obtain ⟨t,i⟩:=hq0
  refine E02 hq1 λ hi Y1=>?_
  try clear hq1
  refine E12 Y1 λ u hu hf=>?_
  clear Y1
  replace hlt:i < L.length:=by simpa using hlt
  simp only at hi hu hf
  have htz:t.length≤1000000:=by rw [hf,List.length_append] at hfz; exact Wn [_,_] (.v 0) (.n 1000000) [(1,.a (.v 0) (.v 1),.n 1000000)] rfl hfz
  have huz:u.length≤1000000:=by rw [hf,List.length_append] at hfz; exact Wn [_,_] (.v 0) (.n 1000000) [(1,.a (.v 1) (.v 0),.n 1000000)] rfl hfz
  have hne:L.drop i ≠ []:=λ e=>by
   have:=List.drop_eq_nil_iff.mp e; exact Wi (Wn [_,_] (.n 1) (.n 0) [(1,.v 0,.v 1),(1,.a (.v 1) (.n 1),.v 0)] rfl this hlt)
  obtain ⟨s,q,rest,hd⟩:∃ s q rest,L.drop i=s::q::rest:=by
   cases h1:L.drop i with
   | nil=>exact absurd h1 hne
   | cons s r1=>
    cases r1 with
    | nil=>rw [h1] at hu; cases hu
    | cons q rest=>exact ⟨s,q,rest,rfl⟩
  refine E02 (drop1 hd) λ g0 hd1=>?_
  refine E02 (drop1 hd1) λ g1 hd2=>?_
  have at_:∀ {j w},L[j]? = some w→(L.map strD)[plc ((j:Nat):Int) (L.map strD).length]? = some (strD w):=λ h=>by rw [plcN,List.getElem?_map,h]; rfl
  have wz:∀ {j:Nat} {w:List Nat},L[j]? = some w→w.length≤1000000:=λ h=>by
   have:=hmem _ (List.mem_of_getElem? h)
   simp only [List.length_nil] at this; exact Wn [_,_] (.v 0) (.n 1000000) [(1,.v 0,.a (.n 0) (.v 1)),(1,.v 1,.n 1000000)] rfl this hz
  refine E11 (unwGo_kind (hd ▸ hu)) λ k hk=>?_
  have g1l:=(List.getElem?_eq_some_iff.mp g1).1
  have kAt:∀ {σ':Loc} {O':Led} {ip:Expr} {j:Nat} {w:List Nat} {kk:Nat} {p1 p2 p3 p4:Pos},Ev C σ' O' ip (.nat j)→LAt σ' "pieces" (.ref pa)→OAt O' pa (.list (L.map strD))→L[j]? = some w→kindOf w=some kk→
    (∀ o i,subscripted ip false o i=operate [o,i] (getItem o i))→In C (stAt 81) []→Ev C σ' O' (.Subscript (.Name "EXACT_TOKEN_TYPES" p1) (.Subscript (.Name "pieces" p2) ip p3) p4) (.nat kk):=λ {_ _ _ j _ _ _ _ _ _} hi hp ho hj hw hs I=>by
   have hjl:=(List.getElem?_eq_some_iff.mp hj).1
   exact .dgetItem (.ett T I) (.item (.name hp) hi ho (at_ hj) (by lia) (by lia) (by lia) hs) Zdt T.ettM.map (by rw [Zfq,hw]; rfl)
  have wAt:∀ {σ':Loc} {O':Led} {ip:Expr} {j:Nat} {w:List Nat} {p2 p3:Pos},Ev C σ' O' ip (.nat j)→LAt σ' "pieces" (.ref pa)→OAt O' pa (.list (L.map strD))→L[j]? = some w→
    (∀ o i,subscripted ip false o i=operate [o,i] (getItem o i))→Ev C σ' O' (.Subscript (.Name "pieces" p2) ip p3) (strD w):=λ {_ _ _ j _ _ _} hi hp ho hj hs=>by
   have hjl:=(List.getElem?_eq_some_iff.mp hj).1
   exact .item (.name hp) hi ho (at_ hj) (by lia) (by lia) (by lia) hs
  have plain:∀ {u':List Nat},Zbr rest=some u'→u=s++q++u'→∀ s',St C [("page",some (.str (sl l))),("signs",some (.ref sg)),("pieces",some (.ref pa)),("text",some (strD (t++(s++q)))),("at",some (.nat (i+2)))] [(pa,.list (L.map strD)),(sg,.dict Zhs)] s'→
    ∃ a':List Nat × Nat,(a'.2≤L.length∧∃ u,Zbr (L.drop a'.2)=some u∧fin=a'.1++u)∧L.length - a'.2 < L.length - i∧St C [("page",some (.str (sl l))),("signs",some (.ref sg)),("pieces",some (.ref pa)),("text",some (strD a'.1)),("at",some (.nat a'.2))] [(pa,.list (L.map strD)),(sg,.dict Zhs)] s':=λ {u'} e1 e2 s' S'=>
   ⟨(t++(s++q),i+2),⟨by show i+2≤L.length; assumption,u',by rw [hd2]; exact e1,by rw [hf,e2]; simp⟩,by show L.length - (i+2) < L.length - i; lia,S'⟩
  by_cases hk19:(k==19)=true
  ·refine E43 (unwGo_19 hk hk19 (hd ▸ hu)) λ s₂ q₂ r2 k₂ hrr hk₂ hu=>?_
   subst hrr
   refine E02 (drop1 hd2) λ g2 hd3=>?_
   refine E02 (drop1 hd3) λ g3 hd4=>?_
   have g3l:=(List.getElem?_eq_some_iff.mp g3).1
   refine .ite (b:=k==19&&k₂==13) (.and (.cmp (kAt (.name .q4) .q2 .z g0 hk (by intro _ _; rfl) I) (.intN 19) .eqN) λ _=>.cmp (kAt (.addN (.name .q4) (.intN 2)) .q2 .z g2 hk₂ (by intro _ _; rfl) I) (.intN 13) .eqN) (λ hb=>?_) (λ hb=>?_)
   ·rw [if_pos (by rw [hk19] at hb; simpa using hb)] at hu
    refine E12 (Option.bind_eq_some_iff.mp hu) λ g hg hu=>?_
    refine E12 (Option.map_eq_some_iff.mp hu) λ u' hu' e=>?_
    have hgz:g.length+q₂.length≤1000000:=by rw [← e] at huz; simp only [List.length_append] at huz; exact Wn [_,_,_] (.a (.v 0) (.v 1)) (.n 1000000) [(1,.a (.a (.v 0) (.v 1)) (.v 2),.n 1000000)] rfl huz
    have htg:t.length+(g++q₂).length≤1000000:=by rw [hf,← e] at hfz; simp only [List.length_append] at hfz ⊢; exact Wn [_,_,_,_] (.a (.v 0) (.a (.v 1) (.v 2))) (.n 1000000) [(1,.a (.v 0) (.a (.a (.v 1) (.v 2)) (.v 3)),.n 1000000)] rfl hfz
    have e1:=InOp.addStr (C:=C) (σ:=[("page",some (.str (sl l))),("signs",some (.ref sg)),("pieces",some (.ref pa)),("text",some (strD t)),("at",some (.nat i))]) (O:=[(pa,.list (L.map strD)),(sg,.dict Zhs)]) (a:=sl t) (b:=sl (g++q₂)) (by rw [Zal,Zal]; (apply Wls;assumption;rfl))
    rw [Zbd] at e1
    refine .aug .q3 ((Ev.addStr (a:=sl g) (b:=sl q₂) (.dgetItem (k:=sl q) (.name .q1) (wAt (.addN (.name .q4) (.intN 1)) .q2 .z g1 (by intro _ _; rfl)) Zdt (OAt.map .q1) (by rw [sgn_get,hg]; rfl)) (wAt (.addN (.name .q4) (.intN 3)) .q2 .z g3 (by intro _ _; rfl)) (by rw [Zal,Zal]; (apply Wls;assumption;rfl))).cast (by rw [Zbd])) e1 .q3 ?_
    refine .aug .q4 (.intN 4) .addN .q4 ?_
    refine .next (.nil λ s' S'=>⟨(t++(g++q₂),i+4),⟨by show i+4≤L.length; assumption,u',by rw [hd4]; exact hu',by rw [hf,← e]; simp⟩,by show L.length - (i+4) < L.length - i; lia,S'⟩)
   ·rw [if_neg (by rw [hk19] at hb; simpa using hb)] at hu
    refine E12 (Option.map_eq_some_iff.mp hu) λ u' hu' e=>?_
    have htg:t.length+(s++q).length≤1000000:=by rw [hf,← e] at hfz; simp only [List.length_append] at hfz ⊢; exact Wn [_,_,_,_] (.a (.v 0) (.a (.v 1) (.v 2))) (.n 1000000) [(1,.a (.v 0) (.a (.a (.v 1) (.v 2)) (.v 3)),.n 1000000)] rfl hfz
    have e1:=InOp.addStr (C:=C) (σ:=[("page",some (.str (sl l))),("signs",some (.ref sg)),("pieces",some (.ref pa)),("text",some (strD t)),("at",some (.nat i))]) (O:=[(pa,.list (L.map strD)),(sg,.dict Zhs)]) (a:=sl t) (b:=sl (s++q)) (by rw [Zal,Zal]; (apply Wls;assumption;rfl))
    rw [Zbd] at e1
    refine .aug .q3 ((Ev.addStr (a:=sl s) (b:=sl q) (wAt (.name .q4) .q2 .z g0 (by intro _ _; rfl)) (wAt (.addN (.name .q4) (.intN 1)) .q2 .z g1 (by intro _ _; rfl)) (by have:=wz g0; have:=wz g1; rw [Zal,Zal]; lia)).cast (by rw [Zbd])) e1 .q3 ?_
    refine .aug .q4 (.intN 2) .addN .q4 ?_
    exact .next (.nil λ s' S'=>plain hu' e.symm s' S')
  ·have hkf:(k==19)=false:=by simpa using hk19
   refine E12 (unwGo_not hk hkf (hd ▸ hu)) λ u' hu' e=>?_
   refine .ite (b:=false) ((Tst.and (c:=false) (.cmp (kAt (.name .q4) .q2 .z g0 hk (by intro _ _; rfl) I) (.intN 19) .eqN) λ h=>absurd h hk19).cast (by rw [hkf]; rfl)) (λ hb=>nomatch hb) (λ _=>?_)
   have htg:t.length+(s++q).length≤1000000:=by rw [hf,← e] at hfz; simp only [List.length_append] at hfz ⊢; exact Wn [_,_,_,_] (.a (.v 0) (.a (.v 1) (.v 2))) (.n 1000000) [(1,.a (.v 0) (.a (.a (.v 1) (.v 2)) (.v 3)),.n 1000000)] rfl hfz
   have e1:=InOp.addStr (C:=C) (σ:=[("page",some (.str (sl l))),("signs",some (.ref sg)),("pieces",some (.ref pa)),("text",some (strD t)),("at",some (.nat i))]) (O:=[(pa,.list (L.map strD)),(sg,.dict Zhs)]) (a:=sl t) (b:=sl (s++q)) (by rw [Zal,Zal]; (apply Wls;assumption;rfl))
   rw [Zbd] at e1
   refine .aug .q3 ((Ev.addStr (a:=sl s) (b:=sl q) (wAt (.name .q4) .q2 .z g0 (by intro _ _; rfl)) (wAt (.addN (.name .q4) (.intN 1)) .q2 .z g1 (by intro _ _; rfl)) (by have:=wz g0; have:=wz g1; rw [Zal,Zal]; lia)).cast (by rw [Zbd])) e1 .q3 ?_
   refine .aug .q4 (.intN 2) .addN .q4 ?_
   exact .next (.nil λ s' S'=>plain hu' e.symm s' S')
 ·intro hq0 hq1 hge
  obtain ⟨t,i⟩:=hq0
  refine E02 hq1 λ hi Y1=>?_
  try clear hq1
  refine E12 Y1 λ u hu hf=>?_
  clear Y1
  replace hge:¬ i < L.length:=by simpa using hge
  simp only at hi hu hf
  have:L.drop i=[]:=List.drop_of_length_le (by exact Wn [_,_] (.v 0) (.v 1) [(1,.v 0,.v 1)] rfl (Wg hge))
  rw [this] at hu
  obtain rfl:u=[]:=(Option.some.inj hu).symm
  rw [List.append_nil] at hf
  rw [← hf]
  exact .ret (.name .q3) λ v s S hv=>hE _ _ (Ends.of ⟨rfl,rfl⟩ S (List.nil_sublist _) hv)
noncomputable abbrev RlSt:=List (Nat × Nat) × Nat × Nat × Bool
noncomputable def Zdb (ws:List Str) (st:RlSt) (p:List Nat):Option RlSt:=
 if (Txt.strip (sl p) != ("0x0" : Str))=true then (idxW ws (Txt.strip (sl p))).map λ j=>(st.1,if st.2.2.2=true then (st.2.1,st.2.2.1+1 <<< j,true) else (st.2.1+1 <<< j,st.2.2.1,false)) else some st
noncomputable def Zch (st:RlSt) (k:Nat):Option RlSt:=
 if (k==20)=true then some (st.1,st.2.1,st.2.2.1,true)
 else if (k==19)=true then some (st.1++[(st.2.1,st.2.2.1)],0,0,false)
 else if (k != 12)=true then none else some st
noncomputable def Zbe (ws:List Str) (st:RlSt) (t:List Nat × List Nat × List Nat):Option RlSt:=
 (Zdb ws st t.1).bind λ st=>(kindOf t.2.1).bind λ k=>Zch st k
noncomputable def Zba (l:List Nat):List (List Nat):=if l=[] then [] else lex [] (l++[38])
noncomputable def rulRun (ws:List Str) (l:List Nat):Option RlSt:=Zaf (Zbe ws) ([],0,0,false) (trip (Zba l))
theorem rulStep_len {ws:List Str} {st st':RlSt} {t:List Nat × List Nat × List Nat} (h:Zbe ws st t=some st'):st'.1.length≤st.1.length+1:=by
 unfold Zbe at h
 refine E12 (Option.bind_eq_some_iff.mp h) λ s1 h1 h=>?_
 refine E12 (Option.bind_eq_some_iff.mp h) λ k _ h=>?_
 have e1:s1.1=st.1:=by
  unfold Zdb at h1
  split at h1
  ·refine E12 (Option.map_eq_some_iff.mp h1) λ j _ e=>?_; rw [← e]
  ·cases h1; rfl
 unfold Zch at h
 split at h
 ·cases h; rw [e1]; exact Wn [_] (.v 0) (.a (.v 0) (.n 1)) [] rfl
 split at h
 ·cases h; rw [List.length_append,e1]; simp
 split at h
 ·cases h
 ·cases h; rw [e1]; exact Wn [_] (.v 0) (.a (.v 0) (.n 1)) [] rfl
theorem rangeSize0 (n:Nat):Builtin.Range.rangeSize 0 (((2 * n+1:Nat):Int) - 1) 2=n:=by
 unfold Builtin.Range.rangeSize
 rw [if_pos (by decide)]
 split <;> lia
theorem rules_calls (T:Top B) {w:Addr} {ws:List Str} {l:List Nat} {fin:RlSt} (hz:l.length≤900000) (hws:ws.length≤64) (hrun:rulRun ws l=some fin) :
  Calls B 2 (.ref (T.fA 82)) [.str (sl l),.ref w] [(w,.list (ws.map .str))] λ d O'=>∃ a,d = .ref a∧O'=[(a,.list (fin.1.map Zax)),(w,.list (ws.map .str))]:=by
 have hzz:sizeLine=16777216:=by decide +kernel
 refine .def2 (T.gn (i:=82) (by kernel_rfl)).2 "lines" "words" ["rules", "sides", "side", "pieces", "at", "word", "kind"] [] (λ _=>[]) λ C I hn=>?_
 refine Run.kabs λ K hE=>?_
 refine Run.assignX1 (EvX.list .nil) λ ra=>?_
 refine ⟨_,.q2,?_⟩
 refine Run.assignX1 (EvX.list (ds:=[.nat 0,.nat 0]) (.cons (.intN 0) (.cons (.intN 0) .nil))) λ sa₀=>?_
 refine ⟨_,.q3,?_⟩
 refine .assign (.intN 0) .q4 ?_
 have e38:sl l++("&" : Str)=sl (l++[38]):=by rw [show ("&" : Str)=sl [38] by decide +kernel,Zbd]
 refine Run.assignX (EvX.ifExp (b:=sl l != ("" : Str)) (P:=λ d O'=>∃ pa,d = .ref pa∧O'=[(pa,.list ((Zba l).map strD)),(sa₀,.list [.nat 0,.nat 0]),(ra,.list []),(w,.list (ws.map .str))]) (.cmp (.name .z) .str .neStr) (λ hb=>?_) λ hb=>?_) ?_
 ·have hl:l ≠ []:=by
   rintro rfl
   rw [show (sl []:Str) = "" by rfl] at hb
   simp at hb
  refine .mono (EvX.callP (U:=[]) (R:=[(sa₀,.list [.nat 0,.nat 0]),(ra,.list []),(w,.list (ws.map .str))]) (.gn T I 75) (T.gn (i:=75) (by kernel_rfl)).2.isDef
   (.cons ((Ev.addStr (.name .z) .str (by rw [Zal,show ("&" : Str).length=1 by decide +kernel]; exact Wn [_] (.a (.v 0) (.n 1)) (.n 16777216) [(1,.v 0,.n 900000)] rfl hz)).cast (congrArg D.str e38)) .nil) (Zee T (l:=l++[38]) (by simp; exact Wn [_] (.v 0) (.n 999999) [(1,.v 0,.n 900000)] rfl hz)) (by (apply Wle;assumption;rfl)) (.refl _)) ?_
  refine exC1 λ pa=>?_
  exact ⟨pa,rfl,by unfold Zba; rw [if_neg hl]; rfl⟩
 ·have hl:l=[]:=by
   have:sl l = "" := by simpa using hb
   exact sl_inj (this.trans (by rfl))
  refine .mono (EvX.list .nil) ?_
  refine ex1 λ pa=>?_
  exact ⟨pa,rfl,by unfold Zba; rw [if_pos hl]; rfl⟩
 refine ex1 λ pa=>?_
 refine ⟨_,.q5,?_⟩
 have hL:(Zba l=[]∨(Zba l).length=2 * (trip (Zba l)).length+1)∧(Zba l).length≤2 * l.length+3∧∀ p∈Zba l,p.length≤1000000:=by
  unfold Zba
  by_cases h:l=[]
  ·rw [if_pos h]; exact ⟨.inl rfl,Nat.zero_le _,λ p hp=>nomatch hp⟩
  ·rw [if_neg h]
   have h1:=Zie (l++[38]).length [] (l++[38]) (Nat.le_refl _)
   have h2:=Zcu (l++[38]).length [] (l++[38]) (Nat.le_refl _)
   refine ⟨.inr (Zjw _ (Zid _ _ _ (Nat.le_refl _))),?_,λ p hp=>?_⟩
   ·simp only [List.length_append,List.length_cons,List.length_nil] at h1; assumption
   ·have:=h2 p hp
    simp only [List.length_append,List.length_cons,List.length_nil] at this; exact Wn [_,_] (.v 0) (.n 1000000) [(1,.v 0,.a (.n 0) (.a (.v 1) (.a (.n 0) (.n 1)))),(1,.v 1,.n 900000)] rfl this hz
 unfold rulRun at hrun
 generalize Zba l=L at *
 refine E03 hL λ htl hlen hmem=>?_
 try clear hL
 have hinit:∀ i,∃ y,Zaf (Zbe ws) ([],0,0,false) ((trip L).take i)=some y:=Zez hrun
 let stA:Nat→RlSt:=λ i=>(Zaf (Zbe ws) ([],0,0,false) ((trip L).take i)).getD default
 have hst:∀ i,Zaf (Zbe ws) ([],0,0,false) ((trip L).take i)=some (stA i):=λ i=>by
  refine E11 (hinit i) λ y e=>?_
  show _=some (Option.getD _ _)
  rw [e]; rfl
 have hstep:∀ i t,(trip L)[i]? = some t→Zbe ws (stA i) t=some (stA (i+1)):=λ i t ht=>by
  have:=Zey (f:=Zbe ws) (b:=([],0,0,false)) ht
  rw [hst,hst] at this
  exact this.symm
 have hsize:∀ i,(stA i).1.length≤i:=by
  intro i
  induction i with
  | zero=>exact Nat.le_refl _
  | succ i ih=>
   cases ht:(trip L)[i]? with
   | some t=>have:=rulStep_len (hstep i t ht); exact Wn [_,_,_] (.v 0) (.a (.v 1) (.n 1)) [(1,.v 0,.a (.v 2) (.n 1)),(1,.v 2,.v 1)] rfl this ih
   | none=>
    have e:stA (i+1)=stA i:=by
     show Option.getD _ _=Option.getD _ _
     rw [List.take_add_one,ht]; simp
    rw [e]; exact Wn [_,_] (.v 0) (.a (.v 1) (.n 1)) [(1,.v 0,.v 1)] rfl ih
 have h0:stA 0=([],0,0,false):=rfl
 have hfin:stA (trip L).length=fin:=by
  have:=hst (trip L).length
  rw [List.take_length] at this
  rw [hrun] at this
  exact (Option.some.inj this).symm
 clear_value stA
 have hn3:(trip L).length≤4000000:=by
  rcases htl with h | h
  ·rw [h]; decide
  ·lia
 have hrs:Builtin.Range.rangeSize 0 ((L.length:Int) - 1) 2=(trip L).length:=by
  rcases htl with h | h
  ·rw [h]; rfl
  ·rw [h]; exact rangeSize0 _
 have hsm:Builtin.Range.small 0 ((L.length:Int) - 1) 2=true:=by
  rcases htl with h | h
  ·rw [h]; kernel_rfl
  ·exact Zhq hrs (by exact Wn [_] (.v 0) (.n 4000001) [(1,.v 0,.n 4000000)] rfl hn3) (by decide) (by lia) (by decide)
 refine Run.forE (Iter.range3 (a:=((0:Nat):Int)) (b:=(L.length:Int) - 1) (c:=((2:Nat):Int)) (n:=(trip L).length) (.bn T I rfl) (.intN 0) (.sub ((Ev.lenList (.bn T I rfl) (.name .q5) .z (by rw [List.length_map]; exact Wn [_,_] (.v 0) (.n 16777216) [(1,.v 0,.a (.m 2 (.v 1)) (.n 3)),(2,.v 1,.n 900000)] rfl hlen hz)).cast (by rw [List.length_map])) .int) (.intN 2) (by decide) hrs hsm (PyProof.noPylong_small (by decide))).toX ?_
 refine exN ?_
 refine ⟨λ i σ' O'=>∃ sa,σ'=([("lines",some (.str (sl l))),("words",some (.ref w)),("rules",some (.ref ra)),("sides",some (.ref sa)),("side",some (.nat (cond (stA i).2.2.2 1 0))),("pieces",some (.ref pa)),("at",none),("word",none),("kind",none)]:Loc) ∧
  O'=([(pa,.list (L.map strD)),(sa,.list [.nat (stA i).2.1,.nat (stA i).2.2.1]),(ra,.list ((stA i).1.map Zax)),(w,.list (ws.map .str))]:Led),λ _=>False,
  ⟨⟨sa₀,by rw [h0]; rfl,by rw [h0]; rfl⟩,λ _ _ _ _ _=>trivial,?_,?_,λ _ h=>h.elim⟩⟩
 ·intro i d hd σ' O' hq0 S
  refine E12 hq0 λ sa Y1 Y2=>?_
  try clear hq0
  subst Y1
  subst Y2
  refine E02 (Zdl hd) λ hi Y1=>?_
  subst Y1
  have e1:D.int (((0:Nat):Int)+(i:Int) * ((2:Nat):Int)) = .nat (2 * i):=by congr 1; lia
  rw [e1]
  obtain ⟨⟨p,s,q⟩,ht⟩:∃ t,(trip L)[i]? = some t:=⟨(trip L)[i],List.getElem?_eq_getElem hi⟩
  refine E03 (Zjx ht) λ g0 g1 g2=>?_
  have g1l:=(List.getElem?_eq_some_iff.mp g1).1
  have hs:=hstep i _ ht
  have z1:=hsize i
  have hpl:=hmem p (List.mem_of_getElem? g0)
  generalize stA i=st at hs z1 ⊢
  generalize stA (i+1)=st' at hs ⊢
  refine E12 (Option.bind_eq_some_iff.mp hs) λ st1 hw hs=>?_
  refine E12 (Option.bind_eq_some_iff.mp hs) λ k hk hs=>?_
  simp only at hw hk hs
  have hr1:st1.1=st.1:=by
   unfold Zdb at hw
   split at hw
   ·refine E12 (Option.map_eq_some_iff.mp hw) λ j _ e=>?_; rw [← e]
   ·cases hw; rfl
  refine ⟨_,_,.name .q6,?_⟩
  refine Run.kabs λ K hK=>?_
  refine .assign (d:=.str (Txt.strip (sl p))) (.strip (x:=sl p) (.item (.name .q5) (.name .q6) .z (by rw [plcN,List.getElem?_map,g0]; rfl) (by lia) (by lia) (by lia)) (by rw [Zal]; (apply Wls;assumption;rfl))) .q7 ?_
  refine .iteJ [("lines",some (.str (sl l))),("words",some (.ref w)),("rules",some (.ref ra)),("sides",some (.ref sa)),("side",some (.nat (cond st1.2.2.2 1 0))),("pieces",some (.ref pa)),("at",some (.nat (2 * i))),("word",none),("kind",none)]
   ([(pa,.list (L.map strD)),(sa,.list [.nat st1.2.1,.nat st1.2.2.1]),(ra,.list (st1.1.map Zax)),(w,.list (ws.map .str))]++S (i+1)) (.cmp (.name .q7) .str .neStr) (λ hb=>?_) (λ hb=>?_) ?_
  ·unfold Zdb at hw
   rw [if_pos hb] at hw
   refine E12 (Option.map_eq_some_iff.mp hw) λ j hj e=>?_
   unfold idxW at hj
   refine E12 (List.findIdx?_eq_some_iff_getElem.mp hj) λ hj1 hj2 hj3=>?_
   have hjx:ws[j]? = some (Txt.strip (sl p)):=by
    rw [List.getElem?_eq_getElem hj1]; exact congrArg some (eq_of_beq hj2)
   have hjn:∀ m,m < j→ws[m]? ≠ some (Txt.strip (sl p)):=λ m hm h=>by
    refine E11 (List.getElem?_eq_some_iff.mp h) λ hm1 hm2=>?_
    exact hj3 m hm (by rw [hm2]; exact beq_self_eq_true _)
   obtain ⟨rl,s0,s1,sd⟩:=st
   rw [← e]
   cases sd with
   | false=>
    refine .augItem (ds:=[.nat s0,.nat s1]) (k:=((0:Nat):Int)) (d:=.nat s0) (u:=.nat (1 <<< j)) (f:=.nat (s0+1 <<< j)) (.name .q3) (.name .q4) .q1 (by rfl)
     (.shlN (.intN 1) (.index (ys:=ws) (j:=j) (.name .q1) (.name .q7) .q3 hjx hjn (by (apply Wls;assumption;rfl))) (by exact Wn [_,_] (.v 0) (.n 1000000) [(1,.a (.v 0) (.n 1),.v 1),(1,.v 1,.n 64)] rfl hj1 hws) (by decide)) .addN .q1 ?_ (by show -(2:Int)≤_; decide) (by show _ < (2:Int); decide) (by show 2≤sizeLine; decide +kernel)
    exact .done (.keep (.keep (.keep (.keep (.keep (.keep (.keep (.drop (.drop .nil))))))))) (.refl _) λ s S'=>S'
   | true=>
    refine .augItem (ds:=[.nat s0,.nat s1]) (k:=((1:Nat):Int)) (d:=.nat s1) (u:=.nat (1 <<< j)) (f:=.nat (s1+1 <<< j)) (.name .q3) (.name .q4) .q1 (by rfl)
     (.shlN (.intN 1) (.index (ys:=ws) (j:=j) (.name .q1) (.name .q7) .q3 hjx hjn (by (apply Wls;assumption;rfl))) (by exact Wn [_,_] (.v 0) (.n 1000000) [(1,.a (.v 0) (.n 1),.v 1),(1,.v 1,.n 64)] rfl hj1 hws) (by decide)) .addN .q1 ?_ (by show -(2:Int)≤_; decide) (by show _ < (2:Int); decide) (by show 2≤sizeLine; decide +kernel)
    exact .done (.keep (.keep (.keep (.keep (.keep (.keep (.keep (.drop (.drop .nil))))))))) (.refl _) λ s S'=>S'
  ·unfold Zdb at hw
   rw [hb,if_neg Bool.false_ne_true] at hw
   cases hw
   exact .done (.keep (.keep (.keep (.keep (.keep (.keep (.keep (.drop (.drop .nil))))))))) (.refl _) λ s S'=>S'
  clear hw
  refine .assign (d:=.nat k) (.dgetItem (k:=sl s) (.ett T I) (.item (k:=((2 * i+1:Nat):Int)) (.name .q5) ((Ev.addN (.name .q6) (.intN 1)).cast (by rfl)) .z (by rw [plcN,List.getElem?_map,g1]; rfl) (by lia) (by lia) (by lia)) Zdt T.ettM.map (by rw [Zfq,hk]; rfl)) .q8 ?_
  obtain ⟨rl,s0,s1,sd⟩:=st1
  have hrl:rl.length≤i:=by rw [show rl=st.1 from hr1]; exact z1
  unfold Zch at hs
  refine .ite (.cmp (.name .q8) (.intN 20) .eqN) (λ hb=>?_) (λ hb=>?_)
  ·rw [if_pos hb] at hs
   refine .assign (.intN 1) .q4 ?_
   refine .next (.nil λ s S'=>hK _ _ ⟨_,_,⟨sa,rfl,rfl⟩,?_⟩)
   rw [← Option.some.inj hs]
   exact S'.forget (.keep (.keep (.keep (.keep (.keep (.keep (.drop (.drop (.drop .nil)))))))))
  rw [hb,if_neg Bool.false_ne_true] at hs
  refine .ite (.cmp (.name .q8) (.intN 19) .eqN) (λ hb=>?_) (λ hb=>?_)
  ·rw [if_pos hb] at hs
   refine .expr (.append (ds:=rl.map Zax) (d:=Zax (s0,s1)) (.name .q2) .q2 (.tup (.cons (.item (ds:=[.nat s0,.nat s1]) (k:=((0:Nat):Int)) (.name .q3) (.intN 0) .q1 (by rfl) (by show -(2:Int)≤_; decide) (by decide) (by decide)) (.cons (.item (ds:=[.nat s0,.nat s1]) (k:=((1:Nat):Int)) (.name .q3) (.intN 1) .q1 (by rfl) (by show -(2:Int)≤_; decide) (by decide) (by decide)) .nil)) rfl (by show 2≤sizeLine; decide +kernel)) .q2 (by rw [List.length_map]; exact Wn [_,_,_] (.v 0) (.n 16777216) [(1,.v 0,.v 1),(1,.a (.v 1) (.n 1),.v 2),(1,.v 2,.n 4000000)] rfl hrl hi hn3)) ?_
   refine Run.assignX (EvX.list (ds:=[.nat 0,.nat 0]) (.cons (.intN 0) (.cons (.intN 0) .nil))) ?_
   refine ex1 λ sa'=>?_
   refine ⟨_,.q3,?_⟩
   refine .assign (.intN 0) .q4 ?_
   refine .next (.next (.nil λ s S'=>hK _ _ ⟨_,_,⟨sa',rfl,rfl⟩,?_⟩))
   rw [← Option.some.inj hs]
   have S2:=S'.forget (σ':=[("lines",some (.str (sl l))),("words",some (.ref w)),("rules",some (.ref ra)),("sides",some (.ref sa')),("side",some (.nat 0)),("pieces",some (.ref pa)),("at",none),("word",none),("kind",none)]) (.keep (.keep (.keep (.keep (.keep (.keep (.drop (.drop (.drop .nil)))))))))
   have S3:=(S2.subl (.cons₂ _ (.cons₂ _ (.cons _ (.refl _))))).perm (O':=(pa,.list (L.map strD))::(sa',.list [.nat 0,.nat 0])::([(ra,.list ((rl.map Zax)++[Zax (s0,s1)])),(w,.list (ws.map .str))]++S (i+1))) (.swap _ _ _)
   rw [show (rl.map Zax)++[Zax (s0,s1)]=(rl++[(s0,s1)]).map Zax by simp] at S3
   exact S3
  rw [hb,if_neg Bool.false_ne_true] at hs
  refine .ite (.cmp (.name .q8) (.intN 12) .neN) (λ hb=>?_) (λ hb=>?_)
  ·rw [if_pos hb] at hs; cases hs
  ·rw [hb,if_neg Bool.false_ne_true] at hs
   refine .next (.next (.next (.nil λ s S'=>hK _ _ ⟨_,_,⟨sa,rfl,rfl⟩,?_⟩)))
   rw [← Option.some.inj hs]
   exact S'.forget (.keep (.keep (.keep (.keep (.keep (.keep (.drop (.drop (.drop .nil)))))))))
 ·intro σ' O' hq0
  refine E12 hq0 λ sa Y1 Y2=>?_
  try clear hq0
  subst Y1
  subst Y2
  rw [Zbp,hfin]
  refine .next (.ret (.name .q2) λ v s S x=>hE _ _ (Ends.of ⟨ra,rfl,rfl⟩ S (.cons _ (.cons _ (.refl _))) x))
noncomputable def unk (names:List Str):Loc:=names.map λ x=>(x,none)
theorem unk_fst (names:List Str):(unk names).map (·.1)=names:=by simp [unk,Function.comp_def]
theorem Fg.all:∀ σ : Loc,Fg σ (unk (σ.map (·.1)))
 | []=>.nil
 | (x,o)::r=>.drop (Fg.all r)
theorem St.unk {s:Shared} (S:St C σ O s):St C (unk C.names) O s:=S.names ▸ S.forget (Fg.all σ)
inductive Tests (C:Cx B) (σ : Loc) (O:Led):List Expr→Bool→Prop
 | nil:Tests C σ O [] true
 | one {c:Expr} {b:Bool} (h:Tst C σ O c b):Tests C σ O [c] b
theorem Tests.go {ifs:List Expr} {b:Bool} (h:Tests C σ O ifs b) {s:Shared} (S:St C σ O s) {Q:Bool→Shared→Prop} (hQ:∀ s',St C σ O s'→Q b s') :
  C.wp (forIn ifs true λ c r=>if r=true then do let ok ← isTrue c C.env (eval c C.env); pure (ForInStep.yield ok) else pure (ForInStep.yield r)) Q s:=by
 cases h with
 | nil=>exact wpAny_tests_nil (hQ s S)
 | one h=>exact wpAny_tests_one (h s S _ λ s' _ S'=>hQ s' S')
theorem St.letgo {s:Shared} (S:St C σ O s) {L:Addr} {h':Heap} {t:Nat} (hs:Heap.SameBut L s.heap h') (n:∃ m,s.heap.Ns L m) (h1:∀ p∈O,p.1 ≠ L) (h2:L ≠ C.env.locals) (h3:C.base.heap.objs.size≤L):St C σ O { s with heap:=h',toks:=t }:=by
 refine E11 n λ m hn=>?_
 try clear n
 have e:Eff [L] s { s with heap:=h',toks:=t }:=.but hs (Ns.noTup hn)
 refine ⟨B.stable _ _ S.top λ b o hb q=>e.keep b o (λ q=>?_) q,S.names,?_,λ p hp=>ShAt.keep (λ o q=>e.keep _ o (by simpa using h1 p hp) q) e.tk (S.objs p hp),S.ond,S.ol,S.own,S.eff.after e (.inl h3)⟩
 ·rw [List.mem_singleton.mp q] at hb
  exact Bs.notOld (Nat.le_trans C.low h3) hb
 ·obtain ⟨m,n,h⟩:=S.loc
  refine E32 n λ o es ep q r=>?_
  try clear n
  refine ⟨m,⟨o,es,ep,e.keep _ o (by simpa using h2.symm) q,r⟩,λ y d hy=>?_⟩
  refine E12 (h y d hy) λ v a b=>?_
  exact ⟨v,a,b.tk e.tk⟩
structure InComp (C C':Cx B) (scope:Scope) (cl:List (Str × Addr)) (names:List Str):Prop where
 env:C'.env=compEnvC scope cl C'.env.locals C.env
 n:C'.n=C.n
 names:C'.names=names
theorem compCore {elt target iter:Expr} {ifs:List Expr} {scope:Scope} {pos:Pos} {cl:List (Str × Addr)} (names:List Str) (hcell:∀ y∈scope.names,y.2 ≠ .cell) (hkind:scope.kind = .function)
  (nd:names.Nodup) (hloc:∀ x∈names,scope.names.lookup x=some .local) {it:Value} {Sf:Nat→Led} {Need:Led→Prop} {ds:List D} {O₁:Led} (src:∀ C':Cx B,Src C' target it Sf Need ds) {s₂:Shared} (S₂:St C σ (O₁++Sf 0) s₂)
  (need:∀ p,Need (p::O₁)) (p:D→Bool) (f:D→D)
  (turn:∀ C':Cx B,InComp C C' scope cl names→∀ (i:Nat) (d:D),ds[i]? = some d→∀ (a:Addr) (acc:List D) (R:Led),∃ σ₁,Asg C' (unk names) ((a,.list acc)::(O₁++R)) target d σ₁ ((a,.list acc)::(O₁++R)) ∧
   Tests C' σ₁ ((a,.list acc)::(O₁++R)) ifs (p d)∧(p d=true→Ev C' σ₁ ((a,.list acc)::(O₁++R)) elt (f d)))
  (hz:ds.length≤sizeLine) {RR:Value→Addr→Result→Shared→Prop}
  (hR:∀ a L s',Tk s₂.heap s'.heap→(∃ m,s'.heap.Ns L m)→L ≠ C.env.locals→C.base.heap.objs.size≤L→(∀ q∈(a,Sh.list ((ds.filter p).map f))::O₁,q.1 ≠ L)→St C σ ((a,.list ((ds.filter p).map f))::O₁) s'→RR (.ref a) L (.ok .next) s') :
  C.wp (newList []) (λ acc s₃=>C.wp (newFunctionEnv scope C.env.globals cl [] C.env.qual none .none (some C.env)) (λ cenv s₄=>
   codeAny (model B.prog B.w) C.A (.compStart (.ListComp elt [⟨target,iter,ifs,0⟩] scope pos) 0 it acc { cenv with scope:=relabel scope C.env }) (RR acc cenv.locals) s₄) s₃) s₂:=by
 refine wpAny_newObj_type ?_
 have X₃:Eff [] s₂ { s₂ with heap:=s₂.heap.push { cls:=.type "list",data:=.seq ([]:List Value).toArray } }:=.push _
 have S₃:=S₂.new (a:=s₂.heap.objs.size) (sh:=.list []) X₃ (Nat.le_refl _) ⟨#[],.new,.nil⟩
 have X₃':=X₃.tk
 generalize hs₃:({ s₂ with heap:=s₂.heap.push { cls:=.type "list",data:=.seq ([]:List Value).toArray } }:Shared)=s₃ at S₃ X₃' ⊢
 generalize s₂.heap.objs.size=a at S₃ ⊢
 refine wpAny_newFunctionEnv hcell (by intro y hy; simp at hy) (λ h₁ hns hsb=>?_) hkind
 have old:∀ b o,s₃.heap.get? b=some o→h₁.get? b=some o:=λ b o e=>hsb.extBut b o (Nat.ne_of_lt (Heap.lt_size e)) (Heap.get?_push_of_some _ e)
 have X₄:Eff [] s₃ { s₃ with heap:=h₁,toks:=s₃.toks+([]:List (Str × Value)).length }:=.ext old
 let U:Led:=(a,.list [])::(O₁++Sf 0)
 let C':Cx B:=⟨C.A,compEnvC scope cl s₃.heap.objs.size C.env,s₃,U.map (·.1),names,C.n,by show (relabel scope C.env).kind=_; exact hkind,C.gl,C.bl,nd,
  λ x hx=>lookup_relabel_local (hloc x hx),C.room,Nat.le_trans C.low S₃.bsize,Nat.le_refl _,λ q hq=>by
   refine E12 (List.mem_map.mp hq) λ r hr Y1=>?_
   subst Y1
   exact S₃.low hr⟩
 have S₄:St C' (Mine.Internal.unk names) U { s₃ with heap:=h₁,toks:=s₃.toks+([]:List (Str × Value)).length }:=by
  refine ⟨B.stable _ _ S₃.top λ b o _ e=>old b o e,unk_fst names,⟨_,hns,λ x d hx=>?_⟩,λ q hq=>ShAt.keep (λ o e=>old _ o e) X₄.tk (S₃.objs q hq),S₃.ond,λ q hq=>Nat.ne_of_lt (ShAt.lt (S₃.objs q hq)),λ q hq=>.inr (Zat hq),X₄.mono λ _ h=>nomatch h⟩
  refine E12 (List.mem_map.mp hx) λ y _ hy=>?_
  cases hy
 have IC:InComp C C' scope cl names:=⟨rfl,rfl,rfl⟩
 have fin:∀ s',St C' (Mine.Internal.unk names) ((a,.list ((ds.filter p).map f))::O₁) s'→RR (.ref a) s₃.heap.objs.size (.ok .next) s':=λ s' S'=>by
  obtain ⟨m,hm,_⟩:=S'.loc
  refine hR a _ s' (X₃'.trans S'.eff.tk) ⟨m,hm⟩ (Nat.ne_of_gt S₃.ltL) S₃.bsize (λ q hq=>S'.ol q hq) ?_
  have:=S₃.called (U:=U) (U':=(a,.list ((ds.filter p).map f))::O₁) (R:=[]) (λ _ h=>h) (λ _ h=>nomatch h) .nil S'.eff S'.objs S'.ond (λ q hq=>(S'.own q hq).symm)
  rw [List.append_nil] at this
  exact this
 have loop:∀ s,St C' (Mine.Internal.unk names) U s→codeAny (model B.prog B.w) C.A (.compLoop (.ListComp elt [⟨target,iter,ifs,0⟩] scope pos) 0 it (.ref a) C'.env) (RR (.ref a) s₃.heap.objs.size) s:=λ s S=>by
  refine codeAny_loop rfl (λ n s'=>∃ i,i≤ds.length∧n=ds.length - i∧St C' (Mine.Internal.unk names) ((a,.list (((ds.take i).filter p).map f))::(O₁++Sf i)) s') ?_ ds.length ⟨0,Nat.zero_le _,rfl,S⟩
  intro n s hq0
  refine E13 hq0 λ i hi Y1 S=>?_
  try clear hq0
  subst Y1
  show wpAny _ C.A ((compTurn (.ListComp elt [⟨target,iter,ifs,0⟩] scope pos) 0 it (.ref a) C'.env).onRaise (λ x=>do noteFrame x C'.env; theTreesLotGoes x)) _ _ s
  refine wpAny_noted ?_
  rw [compTurn_list]
  refine wpAny_bind (wpAny_standAt (wpAny_bind ?_))
  rcases Nat.lt_or_ge i ds.length with hlt | hge
  ·obtain ⟨d,hd⟩:∃ d,ds[i]? = some d:=⟨ds[i],List.getElem?_eq_getElem hlt⟩
   have hacc:(((ds.take i).filter p).map f).length≤sizeLine:=by
    rw [List.length_map]
    exact Nat.le_trans (List.length_filter_le _ _) (Nat.le_trans (List.length_take_le _ _) (by exact Wn [_,_] (.v 0) (.n 16777216) [(1,.a (.v 0) (.n 1),.v 1),(1,.v 1,.n 16777216)] rfl hlt hz))
   let Good:Shared→Prop:=λ s₅=>∃ m,m < ds.length - i∧∃ j,j≤ds.length∧m=ds.length - j∧St C' (Mine.Internal.unk names) ((a,.list (((ds.take j).filter p).map f))::(O₁++Sf j)) s₅
   have good:∀ s₅,St C' (Mine.Internal.unk names) ((a,.list (((ds.take (i+1)).filter p).map f))::(O₁++Sf (i+1))) s₅→Good s₅:=λ s₅ S₅=>⟨ds.length - (i+1),by lia,i+1,hlt,rfl,S₅⟩
   have etake:=take_succ_filter p ds i d hd
   refine E13 (turn C' IC i d hd a (((ds.take i).filter p).map f) (Sf (i+1))) λ σ₁ hasg htst helt=>?_
   have body:∀ v s₁,St C' (Mine.Internal.unk names) ((a,.list (((ds.take i).filter p).map f))::(O₁++Sf (i+1))) s₁→Val s₁.heap v d→
     C'.wp (PySem.assign target C'.env v) (λ _ s₂=>C'.wp (forIn ifs true λ c r=>if r=true then do let ok ← isTrue c C'.env (eval c C'.env); pure (ForInStep.yield ok) else pure (ForInStep.yield r))
      (λ ok s₃=>if ok=true then C'.wp (eval elt C'.env) (λ x s₄=>C'.wp (PySem.call (.builtin "list.append") [.ref a,x]) (λ _ s₅=>Good s₅) s₄) s₃ else Good s₃) s₂) s₁:=λ v s₁ S₁ hv=>by
    refine hasg s₁ v S₁ hv _ λ s₂ _ S₂=>htst.go S₂ λ s₃ S₃=>?_
    cases hp:p d with
    | false=>
     simp only [Bool.false_eq_true,if_false]
     refine good s₃ ?_
     rw [etake,hp]
     simpa using S₃.unk
    | true=>
     simp only [if_true]
     refine helt hp s₃ S₃ _ λ x s₄ _ S₄ hx=>?_
     refine E12 (S₄.objs (a,.list (((ds.take i).filter p).map f)) List.mem_cons_self) λ items hl hv=>?_
     refine wpAny_list_append_plain hl (λ h' hl' hs'=>good _ ?_) (by rw [hv.sizeA]; exact hacc)
     have X:Eff [a] s₄ { s₄ with heap:=h' }:=.but hs' λ vs=>ShAt.noTup (S₄.objs (a,.list (((ds.take i).filter p).map f)) List.mem_cons_self) vs
     have e:((ds.take (i+1)).filter p).map f=((ds.take i).filter p).map f++[f d]:=by rw [etake,hp]; simp
     rw [e]
     exact (S₄.put (sh:=.list (((ds.take i).filter p).map f++[f d])) .z X ⟨_,hl',by simpa using (hv.tk X.tk).snoc (hx.tk X.tk)⟩).unk
   refine F0.to (wpAny_mono ((src C').item (O:=(a,.list (((ds.take i).filter p).map f))::O₁) hd (need _) S (Q:=λ v s₁=>C'.wp (PySem.assign target C'.env v) (λ _ s₂=>C'.wp (forIn ifs true λ c r=>if r=true then do let ok ← isTrue c C'.env (eval c C'.env); pure (ForInStep.yield ok) else pure (ForInStep.yield r))
      (λ ok s₃=>if ok=true then C'.wp (eval elt C'.env) (λ x s₄=>C'.wp (PySem.call (.builtin "list.append") [.ref a,x]) (λ _ s₅=>Good s₅) s₄) s₃ else Good s₃) s₂) s₁) λ v s₁ _ S₁ hv=>body v s₁ S₁ hv) (λ r s₁ h₁=>?_) λ _ _ q=>q)
   cases r with
   | none=>exact h₁.elim
   | some v=>
    refine wpAny_bind (F0.to (wpAny_mono h₁ (λ _ s₂ h₂=>?_) λ _ _ q=>q))
    refine wpAny_bind (F0.to (wpAny_mono h₂ (λ _ s₃ h₃=>?_) λ _ _ q=>q))
    refine wpAny_bind (F0.to (wpAny_mono h₃ (λ ok s₄ h₄=>?_) λ _ _ q=>q))
    cases ok with
    | false=>exact wpAny_pure ⟨rfl,h₄⟩
    | true=>
     refine wpAny_bind (wpAny_bind (F0.to (wpAny_mono h₄ (λ x s₅ h₅=>?_) λ _ _ q=>q)))
     exact wpAny_bind (F0.to (wpAny_mono h₅ (λ _ s₆ h₆=>wpAny_pure (wpAny_pure ⟨rfl,h₆⟩)) λ _ _ q=>q))
  ·obtain rfl:i=ds.length:=Nat.le_antisymm hi hge
   rw [List.take_length] at S
   refine F0.to (wpAny_mono ((src C').done (need _) S (Q:=λ s'=>RR (.ref a) s₃.heap.objs.size (.ok .next) s') λ s' _ S'=>fin s' S') (λ r s₁ h₁=>?_) λ _ _ q=>q)
   cases r with
   | none=>exact wpAny_pure h₁
   | some _=>exact h₁.elim
 exact codeAny_compStart_list (loop _ S₄) (F0.to ((src C').self (O:=(a,.list [])::O₁) (need _) S₄ (loop _ S₄)))
theorem Zaw {scope:Scope} {env:Env} (f:Str→Addr) (h:∀ x∈scope.names,x.2 = .free→env.cells.lookup x.1=some (f x.1)) :
  closureFor scope env=pure ((scope.names.filter λ x=>x.2 == .free).map λ x=>(x.1,f x.1)).reverse:=by
 have key:∀ (l:List (Str × NameKind)) (acc:List (Str × Addr)),(∀ x∈l,x.2 = .free→env.cells.lookup x.1=some (f x.1))→
   (forIn l acc λ (x:Str × NameKind) (r:List (Str × Addr))=>(if (x.2==NameKind.free)=true then do let c ← cellOf env x.1; pure (ForInStep.yield ((x.1,c)::r)) else pure (ForInStep.yield r):Sem (ForInStep (List (Str × Addr))))) =
   pure (((l.filter λ x=>x.2 == .free).map λ x=>(x.1,f x.1)).reverse++acc):=by
  intro l
  induction l with
  | nil=>intro acc _; rfl
  | cons x l ih=>
   intro acc hl
   rw [List.forIn_cons]
   cases hk:x.2==NameKind.free with
   | true=>
    have:cellOf env x.1=pure (f x.1):=by
     unfold cellOf
     rw [hl x List.mem_cons_self (eq_of_beq hk)]
    simp only [if_true,this,pure_bind]
    rw [ih _ λ y hy=>hl y (List.mem_cons_of_mem _ hy),List.filter_cons_of_pos (by exact hk)]
    simp
   | false=>
    simp only [Bool.false_eq_true,if_false,pure_bind]
    rw [ih _ λ y hy=>hl y (List.mem_cons_of_mem _ hy),List.filter_cons_of_neg (by rw [hk]; exact Bool.false_ne_true)]
 have:=key scope.names [] h
 rw [List.append_nil] at this
 unfold closureFor
 refine Eq.trans ?_ this
 show (forIn scope.names [] _ >>= pure)=_
 rw [bind_pure]
noncomputable abbrev Sh.ns:Sh:=.is λ o=>∃ es ep,o.data = .dict es ep∧StrKeys es
theorem Sh.ns_of {h:Heap} {L:Addr} (x:∃ m,h.Ns L m):ShAt B h L .ns:=by refine E44 x λ m o es ep e d k _=>?_; try clear x; exact ⟨o,e,⟨es,ep,d,k⟩,.inr λ vs n q=>by rw [d] at q; cases q⟩
theorem Sh.ns_to {h:Heap} {L:Addr} (x:ShAt B h L .ns):∃ m,h.Ns L m:=by refine E13 x λ o e Y1 _=>?_; try clear x; refine E22 Y1 λ es ep d k=>?_; clear Y1; exact ⟨_,o,es,ep,e,d,k,λ _=>rfl⟩
theorem St.note {s:Shared} (S:St C σ O s) {L:Addr} {sh:Sh} (h:ShAt B s.heap L sh) (h1:∀ p∈O,p.1 ≠ L) (h2:L ≠ C.env.locals) (h3:C.base.heap.objs.size≤L):St C σ ((L,sh)::O) s:=by
 refine ⟨S.top,S.names,S.loc,λ p hp=>?_,?_,λ p hp=>?_,λ p hp=>?_,S.eff⟩
 ·rcases List.mem_cons.mp hp with rfl | hp
  ·exact h
  ·exact S.objs p hp
 ·rw [List.map_cons,List.nodup_cons]
  refine ⟨λ hm=>?_,S.ond⟩
  refine E12 (List.mem_map.mp hm) λ q hq e=>?_
  exact h1 q hq e
 ·rcases List.mem_cons.mp hp with rfl | hp
  ·exact h2
  ·exact S.ol p hp
 ·rcases List.mem_cons.mp hp with rfl | hp
  ·exact .inl h3
  ·exact S.own p hp
structure Comp (C:Cx B) (O₁:Led) (Need:Led→Prop) (ds:List D) (elt target:Expr) (ifs:List Expr) (scope:Scope) (cl:List (Str × Addr)) (names:List Str) (p:D→Bool) (f:D→D):Prop where
 need:∀ q,Need (q::O₁)
 turn:∀ C':Cx B,InComp C C' scope cl names→∀ (i:Nat) (d:D),ds[i]? = some d→∀ (a:Addr) (acc:List D) (R:Led),∃ σ₁,Asg C' (unk names) ((a,.list acc)::(O₁++R)) target d σ₁ ((a,.list acc)::(O₁++R)) ∧
   Tests C' σ₁ ((a,.list acc)::(O₁++R)) ifs (p d)∧(p d=true→Ev C' σ₁ ((a,.list acc)::(O₁++R)) elt (f d))
 hz:ds.length≤sizeLine
structure ScopeOk (C:Cx B) (scope:Scope) (cl:List (Str × Addr)) (names:List Str):Prop where
 cell:∀ y∈scope.names,y.2 ≠ .cell
 kind:scope.kind = .function
 all:∀ y∈scope.names,y.2 = .local→scope.names.lookup y.1=some .local
 nd:names.Nodup
 loc:∀ x∈names,scope.names.lookup x=some .local
 clo:closureFor scope C.env=pure cl
theorem EvX.listComp {elt target iter:Expr} {ifs:List Expr} {scope:Scope} {pos:Pos} {cl:List (Str × Addr)} {names:List Str} (ok:ScopeOk C scope cl names) {P:Led→(Led→Prop)→List D→Prop} {P':D→Led→Prop}
  (hi:IterX C σ O iter target P) (h:∀ O₁ Need ds,P O₁ Need ds→∃ p f,Comp C O₁ Need ds elt target ifs scope cl names p f∧∀ a,P' (.ref a) ((a,.list ((ds.filter p).map f))::O₁))
  (hs:autoParam (∀ x,foldedSetIterable iter C.env x=pure x) tI):EvX C σ O (.ListComp elt [⟨target,iter,ifs,0⟩] scope pos) P':=λ s S Q hQ=>by
 rw [eval_ListComp]
 refine wpAny_comprehension_free (use:=none) rfl hs ok.clo ok.kind ok.all (hi s S _ λ it s₂ Sf O₁ Need ds hP t₂ src S₂=>?_)
 refine E22 (h O₁ Need ds hP) λ p f c hP'=>?_
 refine compCore (RR:=λ acc L=>compPost (model B.prog B.w) C.A F0 none Q acc L) names ok.cell ok.kind ok.nd ok.loc src S₂ c.need p f c.turn c.hz λ a L s' t₃ hn h2 h3 h1 S'=>?_
 refine E11 hn λ m hm=>?_
 try clear hn
 refine ⟨m,hm,λ h' hs'=>?_⟩
 have S'':=S'.letgo (t:=s'.toks) hs' ⟨m,hm⟩ h1 h2 h3
 exact hQ _ _ _ _ (hP' a) ((t₂.trans t₃).trans (Eff.but (t:=s'.toks) hs' (Ns.noTup hm)).tk) S'' rfl
theorem swaps_list {elt:Expr} {gens:List Comprehension} {scope:Scope} {vpos tp:Pos} {y:Str} {l:Nat} (hk:C.env.kindOf y=some .local) (hl:(tp.line==vpos.line)=true) (hn:(scope.names.any λ x=>x.1==y&&(x.2 == .local || x.2 == .cell))=false) :
  swapsWith (.ListComp elt gens scope vpos) (some (.Name y tp)) l C.env=pure true:=by
 show pure (C.env.blockKind == .function&&C.env.kindOf y==some .local&&tp.line==vpos.line && !(scope.names.any λ x=>x.1==y&&(x.2 == .local || x.2 == .cell)))=_
 rw [hk,hl,hn]
 unfold Env.blockKind
 rw [C.kind]; rfl
theorem Run.assignComp {elt target iter:Expr} {ifs:List Expr} {scope:Scope} {cpos py pos:Pos} {y:Str} {rest:List Stmt} {K:Flow→Shared→Prop} {cl:List (Str × Addr)} {names:List Str} (ok:ScopeOk C scope cl names) {P:Led→(Led→Prop)→List D→Prop}
  (hy:y ∈ σ.map (·.1)) (hn:(scope.names.any λ x=>x.1==y&&(x.2 == .local || x.2 == .cell))=false)
  (hi:IterX C σ O iter target P) (h:∀ O₁ Need ds,P O₁ Need ds→∃ p f,Comp C O₁ Need ds elt target ifs scope cl names p f∧∀ a,Then C σ ((a,.list ((ds.filter p).map f))::O₁) y (.ref a) rest K)
  (hl:autoParam ((py.line==cpos.line)=true) tR)
  (hs:autoParam (∀ x,foldedSetIterable iter C.env x=pure x) tI):Run C σ O (.Assign [.Name y py] (.ListComp elt [⟨target,iter,ifs,0⟩] scope cpos) pos::rest) K:=Run.cons λ s S=>by
 have hsw:=swaps_list (C:=C) (elt:=elt) (gens:=[⟨target,iter,ifs,0⟩]) (scope:=scope) (vpos:=cpos) (tp:=py) (l:=pos.line) (S.loc_of hy) hl hn
 rw [exec_Assign_Name_used _ _ _ _ hsw]
 refine wpAny_bind (wpAny_standAt (wpAny_bind ?_))
 show wpAny _ C.A (do let _ ← comprehension (.ListComp elt [⟨target,iter,ifs,0⟩] scope cpos) scope C.env _ (newList []) false (eval iter C.env) (some (PySem.assign (.Name y py) C.env))) _ _ s
 refine wpAny_bind (wpAny_mono (wpAny_comprehension_free (use:=some (PySem.assign (.Name y py) C.env)) (Q:=λ _ s'=>C.wp (execs rest C.env) K s') rfl hs ok.clo ok.kind ok.all (hi s S _ λ it s₂ Sf O₁ Need ds hP t₂ src S₂=>?_)) (λ _ s' hq=>wpAny_pure (wpAny_pure hq)) λ _ _ e=>e)
 refine E22 (h O₁ Need ds hP) λ p f c hP'=>?_
 refine compCore (RR:=λ acc L=>compPost (model B.prog B.w) C.A F0 (some (PySem.assign (.Name y py) C.env)) (λ _ s'=>C.wp (execs rest C.env) K s') acc L) names ok.cell ok.kind ok.nd ok.loc src S₂ c.need p f c.turn c.hz λ a L s' t₃ hn h2 h3 h1 S'=>?_
 obtain ⟨σ',hp,hr⟩:=hP' a
 have S₁:=S'.note (Sh.ns_of hn) h1 h2 h3
 show wpAny _ C.A (PySem.assign (.Name y py) C.env (.ref a)) _ _ _
 refine wpAny_assign_Name (S₁.store hp (d:=.ref a) rfl λ s₄ _ S₄=>?_)
 refine E11 (Sh.ns_to (S₄.objs (L,.ns) List.mem_cons_self)) λ m hm=>?_
 refine ⟨m,hm,λ h' hs'=>hr _ ?_⟩
 exact (St.sub S₄ (λ p hp=>List.mem_cons_of_mem _ hp) (List.nodup_cons.mp S₄.ond).2).letgo hs' ⟨m,hm⟩ h1 h2 h3
theorem Zec {env:Env}:∀ {names:List (Str × NameKind)} {x:Str} {k:NameKind},names.lookup x=some k→
  (names.map λ (n,k)=>if (k==NameKind.free&&env.scope.kind == .function&&env.kindOf n==some .cell)=true then (n,NameKind.cell) else (n,k)).lookup x=some k ∨
  (k = .free∧(names.map λ (n,k)=>if (k==NameKind.free&&env.scope.kind == .function&&env.kindOf n==some .cell)=true then (n,NameKind.cell) else (n,k)).lookup x=some .cell)
 | [],_,_,h=>by simp at h
 | (n,k')::r,x,k,h=>by
  have ih:=@Zec env r x k
  simp only [List.map_cons]
  cases hx:x==n with
  | true=>
   simp only [List.lookup_cons,hx] at h
   cases h
   by_cases hc:(k'==NameKind.free&&env.scope.kind == .function&&env.kindOf n==some .cell)=true
   ·rw [if_pos hc]
    refine .inr ⟨?_,by simp only [List.lookup_cons,hx]⟩
    simp only [Bool.and_eq_true] at hc
    exact eq_of_beq hc.1.1
   ·rw [if_neg hc]
    exact .inl (by simp only [List.lookup_cons,hx])
  | false=>
   simp only [List.lookup_cons,hx] at h
   by_cases hc:(k'==NameKind.free&&env.scope.kind == .function&&env.kindOf n==some .cell)=true
   ·rw [if_pos hc]; simp only [List.lookup_cons,hx]; exact ih h
   ·rw [if_neg hc]; simp only [List.lookup_cons,hx]; exact ih h
theorem InComp.kind {C':Cx B} {scope:Scope} {cl:List (Str × Addr)} {names:List Str} (I:InComp C C' scope cl names) {x:Str} {k:NameKind} (h:scope.names.lookup x=some k) (hk:k ≠ .free):C'.env.kindOf x=some k:=by
 rw [I.env]
 rcases Zec (env:=C.env) h with q | ⟨q,_⟩
 ·exact q
 ·exact absurd q hk
theorem InComp.cell {C':Cx B} {scope:Scope} {cl:List (Str × Addr)} {names:List Str} (I:InComp C C' scope cl names) {x:Str} {pos:Pos} {c:Addr} {d:D} (ho:OAt O c (.cell (some d))) (hc:cl.lookup x=some c)
  (h:autoParam (scope.names.lookup x=some .free) tD) (hd:autoParam ((x==("__debug__" : Str))=false) tE) (hn:autoParam ((x==("__classdict__" : Str))=false) tE):Ev C' σ O (.Name x pos) d:=by
 refine .cell (c:=c) (by rw [I.env]; exact hc) ?_ ho hd hn
 rw [I.env]
 rcases Zec (env:=C.env) h with q | ⟨_,q⟩
 ·exact .inr q
 ·exact .inl q
noncomputable def dn:D→Nat
 | .int i=>i.toNat
 | _=>0
theorem dn_nat (n:Nat):dn (D.nat n)=n:=by simp [dn]
theorem rng_nat (n:Nat):rng 0 1 n=(List.range n).map D.nat:=by
 unfold rng
 apply List.map_congr_left
 intro i _
 simp
noncomputable def Zdz (p:Nat) (ws:List Str):Str:=if ((List.range 4).filter λ i=>p.testBit i).isEmpty=true then "0x0" else Txt.join ", " (((List.range 4).filter λ i=>p.testBit i).map λ i=>(ws[i]?).getD ("" : Str))
theorem Zje (T:Top B) {w:Addr} {ws:List Str} {p:Nat} (hw:ws.length=4) (hz:∀ x∈ws,x.length≤20):Pure B 1 (.ref (T.fA 79)) [.nat p,.ref w] [(w,.list (ws.map .str))] (.str (Zdz p ws)):=by
 have hzz:sizeLine=16777216:=by decide +kernel
 refine .of_def (T.gn (i:=79) (by kernel_rfl)).2 (Zay ["told"]) [("words",some (.ref w)),("places",some (.nat p))] (λ L=>[("words",L+2),("places",L+1)]) (λ L=>rfl) (λ L=>rfl) ⟨⟨rfl,rfl⟩,rfl⟩ (by decide +kernel) (by decide +kernel) (by show ([Str.ofString "words",Str.ofString "places"]).Nodup; decide +kernel) ?_ ?_
 ·intro cd pm s vs _ hq0
  refine E23 (Vals.two hq0) λ v u Y1 hv hu=>?_
  subst Y1
  refine ⟨[("places",v),("words",u)],BindsTo.of_eq rfl,?_,trivial,⟨u,rfl,hu⟩,⟨v,rfl,hv⟩,trivial⟩
  intro x hx
  rcases List.mem_cons.mp hx with rfl | hx
  ·exact .inr ⟨rfl,List.mem_cons_of_mem _ List.mem_cons_self⟩
  ·rw [List.mem_singleton.mp hx]; exact .inr ⟨rfl,List.mem_cons_self⟩
 intro C I hn
 refine Run.kabs λ K hE=>?_
 generalize C.env.locals=L at I ⊢
 have hcl:∀ {scope:Scope},(∀ x∈scope.names,x.2 = .free→x.1 = "places" ∨ x.1 = "words")→∀ x∈scope.names,x.2 = .free→C.env.cells.lookup x.1=some (if x.1 = "places" then L+1 else L+2):=λ h x hx hf=>by
  rcases h x hx hf with e | e <;> rw [e] <;> exact I.cell rfl
 refine Run.assignComp (names:=["flag"]) ⟨by decide +kernel,rfl,by decide +kernel,by decide +kernel,by decide +kernel,Zaw (λ x=>if x = "places" then L+1 else L+2) (hcl (by decide +kernel))⟩ (by decide +kernel) (by kernel_rfl) (Iter.range1 (b:=4) (n:=4) (.bn T I rfl) .int (by decide +kernel) (by kernel_rfl)).toX ?_
 refine exN ?_
 refine ⟨λ d=>p.testBit (dn d),λ d=>.str ((ws[dn d]?).getD ""),⟨λ _=>trivial,λ C' IC i d hd a acc R=>?_,by rw [Zbp]; decide +kernel⟩,λ a=>⟨_,.z,?_⟩⟩
 ·refine E02 (Zdl hd) λ hi Y1=>?_
  subst Y1
  have e1:D.int (0+(i:Int) * 1) = .nat i:=by simp
  rw [e1]
  refine ⟨_,.name .z,.one ((Tst.val (.andN (.shrN (IC.cell .q2 rfl) (.name .z)) (.intN 1)) .nat).cast ?_),λ _=>?_⟩
  ·show ((p >>> i) &&& 1 != 0)=p.testBit i
   rw [Nat.and_comm]; rfl
  ·refine .item (k:=((i:Nat):Int)) (IC.cell .q1 rfl) (.name .z) .q3 ?_ (by rw [List.length_map]; lia) (by lia) (by lia)
   rw [plcN,List.getElem?_map]
   show _=some (D.str ((ws[i]?).getD ("" : Str)))
   rw [List.getElem?_eq_getElem (by exact Wn [_,_] (.a (.v 0) (.n 1)) (.v 1) [(1,.a (.v 0) (.n 1),.n 4),(1,.n 4,.v 1)] rfl hi (Wf hw))]
   rfl
 ·have e:((rng 0 1 4).filter λ d=>p.testBit (dn d)).map (λ d=>D.str ((ws[dn d]?).getD ""))=((((List.range 4).filter λ i=>p.testBit i).map λ i=>(ws[i]?).getD ("" : Str)).map .str):=by
   rw [rng_nat,List.filter_map,List.map_map,List.map_map]
   rfl
  rw [e]
  have hlen:((List.range 4).filter λ i=>p.testBit i).length≤4:=Nat.le_trans (List.length_filter_le _ _) (by simp)
  unfold Zdz at hE
  generalize (List.range 4).filter (λ i=>p.testBit i)=is at hlen hE ⊢
  refine .ret (Ev.ifExp (b:=!is.isEmpty) ((Tst.neNil (.name .z) .z).cast (by cases is <;> rfl)) (λ hb=>(Ev.join (ys:=is.map λ i=>(ws[i]?).getD ("" : Str)) .str (.name .z) .z ?_).cast ?_) (λ hb=>Ev.str.cast ?_)) λ v s S hv=>hE _ _ (Ends.of ⟨rfl,rfl⟩ S (.cons _ (.cons _ (.cons _ (.refl _)))) hv)
  ·have h2:(", " : Str).length=2:=by decide +kernel
   have h3:∀ (is:List Nat),((is.map λ i=>(ws[i]?).getD ("" : Str)).map (·.length)).sum≤20 * is.length:=by
    intro is
    induction is with
    | nil=>exact Nat.le_refl _
    | cons a r ih=>
     have:((ws[a]?).getD ("" : Str)).length≤20:=by
      cases h:ws[a]? with
      | none=>exact Nat.zero_le _
      | some x=>exact hz x (List.mem_of_getElem? h)
     simp only [List.map_cons,List.sum_cons,List.length_cons]; exact Wn [_,_,_] (.a (.v 0) (.v 1)) (.m 20 (.a (.v 2) (.n 1))) [(1,.v 0,.n 20),(1,.v 1,.m 20 (.v 2))] rfl this ih
   have:=h3 is
   rw [List.length_map,h2]; exact Wn [_,_] (.a (.v 0) (.r (.v 1) 2)) (.n 16777216) [(1,.v 0,.m 20 (.v 1)),(22,.v 1,.n 4)] rfl this hlen
  ·rw [if_neg (by simpa using hb)]
  ·rw [if_pos (by simpa using hb)]
theorem Ev.mulStr {l r:Expr} {pos:Pos} {x:Str} {n:Nat} (hl:Ev C σ O l (.str x)) (hr:Ev C σ O r (.nat n)) (hz:x.length * n≤10000) (hn:n≤10000):Ev C σ O (.BinOp l .Mult r pos) (.str (Zgj x n)):=λ s S Q hQ=>by
 refine wpAny_BinOp (hl s S _ λ v s₁ t₁ S₁ hv=>hr s₁ S₁ _ λ u s₂ t₂ S₂ hu=>?_)
 refine E11 hv λ t Y1=>?_
 try clear hv
 subst Y1
 refine E11 hu λ t' Y1=>?_
 try clear hu
 subst Y1
 have h1:(decide ((n:Int) < -(2 ^ 63:Int)) || decide ((n:Int) ≥ 2 ^ 63))=false:=by
  rw [decide_eq_false (by lia),decide_eq_false (by lia)]; rfl
 have hzz:sizeLine=16777216:=by decide +kernel
 have hlen:(Zgj x n).length=x.length * n:=by
  unfold Zgj
  show Array.size _=_
  have:∀ (k:Nat) (acc:Array Nat),((List.replicate k x.cps).foldl (· ++ ·) acc).size=acc.size+x.cps.size * k:=by
   intro k
   induction k with
   | zero=>intro acc; simp
   | succ k ih=>intro acc; rw [List.replicate_succ,List.foldl_cons,ih,Array.size_append,Nat.mul_succ]; exact Nat.le_antisymm (Wn [_,_,_] (.a (.a (.v 0) (.v 1)) (.v 2)) (.a (.v 0) (.a (.v 2) (.v 1))) [] rfl) (Wn [_,_,_] (.a (.v 0) (.a (.v 1) (.v 2))) (.a (.a (.v 0) (.v 2)) (.v 1)) [] rfl)
  rw [this]; simp [Str.length]
 refine P.mul_str h1 (λ h0 hc=>?_) (λ h0 hc=>?_) ?_
 ·intro hgt
  have h2:(1:Int)≤n:=by lia
  have h3:((2:Int) ^ 63 - 1) / n ≥ 10000:=by
   rw [ge_iff_le,Int.le_ediv_iff_mul_le (by assumption)]
   have:(10000:Int) * n≤10000 * 10000:=by lia
   lia
  have h4:x.length≤10000:=by
   have:x.length * 1≤x.length * n:=Nat.mul_le_mul_left _ (by lia)
   exact Wn [_,_] (.v 0) (.n 10000) [(1,.r (.v 0) 1,.v 1),(1,.v 1,.n 10000)] rfl this hz
  lia
 ·rw [Int.toNat_natCast]
  unfold Builtin.Str.tooLong
  exact decide_eq_false (by lia)
 ·by_cases h0:n=0
  ·subst h0
   rw [if_pos (by decide)]
   exact ⟨by decide,hQ _ _ (t₁.trans t₂) S₂.tok ⟨_,rfl⟩⟩
  ·rw [if_neg (by lia)]
   by_cases hc:((n:Int)==1 || x.length==0)=true
   ·rw [if_pos hc]
    refine hQ _ _ (t₁.trans t₂) S₂ ⟨t,?_⟩
    congr 1
    unfold Zgj
    rcases Bool.or_eq_true _ _ |>.mp hc with h | h
    ·have:n=1:=by have:=eq_of_beq h; lia
     subst this
     simp
    ·have hx:x.cps = #[]:=Array.eq_empty_of_size_eq_zero (eq_of_beq h)
     have:∀ k,(List.replicate k x.cps).foldl (· ++ ·) #[] = #[]:=by
      intro k
      induction k with
      | zero=>rfl
      | succ k ih=>rw [List.replicate_succ,List.foldl_cons,hx]; rw [hx] at ih; simpa using ih
     rw [this,← hx]
   ·rw [if_neg hc,Int.toNat_natCast]
    exact ⟨by show (Zgj x n).length≤sizeLine; exact Wn [_,_] (.v 0) (.n 16777216) [(1,.v 0,.v 1),(1,.v 1,.n 10000)] rfl (We hlen) hz,hQ _ _ (t₁.trans t₂) S₂.tok ⟨_,rfl⟩⟩
noncomputable def wordsOf (first:Nat):List Str:=(List.range 4).map λ i=>Zab (first+i)
theorem rng_shift (a n:Nat):rng (a:Nat) 1 n=(List.range n).map λ i=>D.nat (a+i):=by
 unfold rng
 apply List.map_congr_left
 intro i _
 simp
theorem words_calls (T:Top B) {first:Nat} (hf:first≤28):Calls B 1 (.ref (T.fA 72)) [.nat first] [] λ d O'=>∃ a,d = .ref a∧O'=[(a,.list ((wordsOf first).map .str))]:=by
 have hzz:sizeLine=16777216:=by decide +kernel
 refine .def1 (T.gn (i:=72) (by kernel_rfl)).2 "first" [] ["names"] (λ L=>[("names",L+1)]) λ C I hn=>?_
 refine @Run.kabs B C _ _ _ _ λ K hE=>?_
 generalize C.env.locals=L at I ⊢
 refine @Run.assignCell B C _ _ _ _ _ _ _ _ (.tup (flagNames.map .str)) (L+1) none _ ?_ (I.kinds (by decide +kernel)) (I.cell rfl) .z .z ?_ rfl
 ·exact .tup (.cons .str (.cons .str (.cons .str (.cons .str (.cons .str (.cons .str (.cons .str (.cons .str (.cons .str (.cons .str .nil)))))))))) rfl (by decide +kernel)
 have hcl:∀ {scope:Scope},(∀ x∈scope.names,x.2 = .free→x.1 = "names")→∀ x∈scope.names,x.2 = .free→C.env.cells.lookup x.1=some (L+1):=λ h x hx hf=>by
  rw [h x hx hf]; exact I.cell rfl
 refine .retX (P:=λ d O'=>∃ a,d = .ref a∧O'=[(a,.list ((wordsOf first).map .str)),(L+1,.cell (some (.tup (flagNames.map .str))))]) (.listComp (names:=["flag"]) ⟨by decide +kernel,rfl,by decide +kernel,by decide +kernel,by decide +kernel,Zaw (λ x=>L+1) (hcl (by decide +kernel))⟩
  (Iter.range2 (a:=(first:Nat)) (b:=((first+4:Nat):Int)) (n:=4) (.bn T I rfl) (.name .z) (.addN (.name .z) (.intN 4)) ?_ ?_).toX ?_) ?_
 ·unfold Builtin.Range.rangeSize
  rw [if_pos (by decide)]
  split <;> lia
 ·exact small_one (by lia) (by lia) (by lia) (by lia)
 ·refine exN ?_
  refine ⟨λ _=>true,λ d=>.str (Zab (dn d)),⟨λ _=>trivial,λ C' IC i d hd a acc R=>?_,by rw [Zbp]; decide +kernel⟩,λ a=>⟨a,rfl,?_⟩⟩
  ·refine E02 (Zdl hd) λ hi Y1=>?_
   subst Y1
   have e1:D.int ((first:Nat)+(i:Int) * 1) = .nat (first+i):=by simp
   rw [e1]
   have e2:dn (D.nat (first+i))=first+i:=dn_nat _
   rw [e2]
   refine ⟨_,.name .z,.nil,λ _=>?_⟩
   refine .ifExp (b:=decide (first+i < 10)) (.cmp (.name .z) (.intN 10) .ltN) (λ hb=>?_) (λ hb=>?_)
   ·have hlt:first+i < 10:=by simpa using hb
    refine .itemTup (IC.cell .q1 rfl) (.name .z) (by lia) ?_
    unfold Zab
    rw [if_pos hlt,Int.toNat_natCast,List.getElem?_map]
    rw [List.getElem?_eq_getElem (by exact hlt)]
    rfl
   ·have hge:¬ first+i < 10:=by simpa using hb
    have hl1:("0x" : Str).length=2:=by decide +kernel
    obtain ⟨c,hc⟩:∃ c,("1248" : Str).cps[(first+i) % 4]? = some c:=by
     have:(first+i) % 4 < ("1248" : Str).cps.size:=by
      have:("1248" : Str).cps.size=4:=by decide +kernel
      rw [this]; exact Nat.mod_lt _ (by decide)
     exact ⟨_,Array.getElem?_eq_getElem this⟩
    have h0l:("0" : Str).length=1:=by decide +kernel
    have hq:(first+i) / 4≤10:=by lia
    have hrl:(Zgj "0" ((first+i) / 4)).length≤10000:=by
     have:∀ k,k≤10→(Zgj "0" k).length≤10000:=by decide +kernel
     exact this _ hq
    refine (Ev.addStr (.addStr .str (.itemStr (c:=c) .str (.modN (.name .z) (.intN 4) (by decide)) (by lia) (by rw [Int.toNat_natCast]; exact hc)) ?_) (.mulStr .str (.divN (.name .z) (.intN 4) (by decide) (by decide)) ?_ ?_) ?_).cast ?_
    ·rw [hl1]; show 2+1≤_; exact Wlb rfl
    ·rw [h0l]; exact Wn [_] (.m 1 (.v 0)) (.n 10000) [(1,.v 0,.n 10)] rfl hq
    ·exact Wn [_] (.v 0) (.n 10000) [(1,.v 0,.n 10)] rfl hq
    ·have:(("0x" : Str)++(⟨#[c]⟩:Str)).length=3:=by
      show Array.size (("0x" : Str).cps ++ #[c])=3
      rw [Array.size_append]
      have:("0x" : Str).cps.size=2:=by decide +kernel
      rw [this]; rfl
     rw [this]; exact Wn [_] (.a (.n 3) (.v 0)) (.n 16777216) [(1,.v 0,.n 10000)] rfl hrl
    ·unfold Zab cpOf
     rw [if_neg hge,hc]; rfl
  ·have e:((rng (first:Nat) 1 4).filter λ _=>true).map (λ d=>D.str (Zab (dn d)))=(wordsOf first).map .str:=by
    rw [rng_shift]
    unfold wordsOf
    rw [List.filter_eq_self.mpr (λ _ _=>rfl),List.map_map,List.map_map]
    apply List.map_congr_left
    intro i _
    show D.str (Zab (dn (D.nat (first+i))))=_
    rw [dn_nat]; rfl
   rw [e]; rfl
 ·intro v s d O' hq0 S x
  refine E12 hq0 λ a Y1 Y2=>?_
  try clear hq0
  subst Y1
  subst Y2
  exact hE _ _ (Ends.of ⟨a,rfl,rfl⟩ S (.cons₂ _ (.cons _ (.refl _))) x)
theorem Tst.eqNilX {l:Expr} {pos p:Pos} {b:Bool} (hl:EvX C σ O l λ d O'=>∃ a ds R,d = .ref a∧O'=(a,.list ds)::(R++O)∧ds.isEmpty=b):Tst C σ O (.Compare l [.Eq] [.List [] p] pos) b:=
 .cmpX (P2:=λ _ O1 e O2=>∃ b,e = .ref b∧O2=(b,.list [])::O1) hl (λ d O1 _=>.list .nil) (by
  intro d O1 e O2 hq0 hq1
  refine E33 hq0 λ a ds R e1 e2 e3=>?_
  try clear hq0
  refine E12 hq1 λ c e4 e5=>?_
  try clear hq1
  subst e1; subst e2; subst e4; subst e5; subst e3
  exact ⟨.eqNil .q1 .z,(c,.list [])::(a,.list ds)::R,rfl⟩) rfl
noncomputable def Zda (i:Nat) (r:Nat × Nat):Bool:=r.1 &&& i==r.1&&r.2 &&& i != r.2
noncomputable def Zcg (rows:List Nat):Nat→List (Nat × Nat)
 | 0=>[]
 | i+1=>if (Zbk i rows != i&&((Zcg rows i).filter (Zda i)).isEmpty)=true then Zcg rows i++[(i,Zbk i rows)] else Zcg rows i
noncomputable def Zah (rows:List Nat):List (Nat × Nat):=Zcg rows 16
theorem Zfh (rows:List Nat):∀ i,(Zcg rows i).length≤i
 | 0=>Nat.le_refl _
 | i+1=>by
  have:=Zfh rows i
  unfold Zcg
  split
  ·rw [List.length_append]; simp; assumption
  ·exact Wn [_,_] (.v 0) (.a (.v 1) (.n 1)) [(1,.v 0,.v 1)] rfl this
noncomputable def dp:D→Nat × Nat
 | .tup [a,b]=>(dn a,dn b)
 | _=>(0,0)
theorem Zgd (p:Nat × Nat):dp (Zax p)=p:=by simp [dp,dn_nat]
theorem stem_calls (T:Top B) {l:Addr} {rows:List Nat}:Calls B 2 (.ref (T.fA 78)) [.ref l] [(l,.list (rows.map D.nat))] λ d O'=>∃ a,d = .ref a∧O'=[(a,.list ((Zah rows).map Zax)),(l,.list (rows.map D.nat))]:=by
 have hzz:sizeLine=16777216:=by decide +kernel
 refine .def1 (T.gn (i:=78) (by kernel_rfl)).2 "rows" ["stem", "common"] ["places"] (λ L=>[("places",L+1)]) λ C I hn=>?_
 refine Run.kabs λ K hE=>?_
 generalize C.env.locals=L at I ⊢
 refine Run.assignX1 (EvX.list .nil) λ st=>?_
 refine ⟨_,.q1,?_⟩
 have hcl:∀ {scope:Scope},(∀ x∈scope.names,x.2 = .free→x.1 = "places")→∀ x∈scope.names,x.2 = .free→C.env.cells.lookup x.1=some (L+1):=λ h x hx hf=>by
  rw [h x hx hf]; exact I.cell rfl
 refine Run.for_ (Iter.range1 (b:=16) (n:=16) (.bn T I rfl) .int (by decide +kernel) (by kernel_rfl))
  (λ i=>[("rows",some (.ref l)),("stem",some (.ref st)),("common",none)])
  (λ i=>[(st,.list ((Zcg rows i).map Zax)),(L+1,.cell (match i with | 0=>none | k+1=>some (.nat k))),(l,.list (rows.map D.nat))]) (Kb:=λ _=>False) ⟨⟨rfl,rfl⟩,λ _ _=>trivial,λ i d hd S=>?_,?_,λ _ h=>h.elim⟩
 ·refine E02 (Zdl hd) λ hi Y1=>?_
  subst Y1
  have e1:D.int (0+(i:Int) * 1) = .nat i:=by simp
  rw [e1]
  have hsz:=Zfh rows i
  generalize (match i with | 0=>none | k+1=>some (D.nat k):Option D)=cv
  refine ⟨_,_,.cell (I.kinds (by decide +kernel)) (I.cell rfl) .q1 .q1,?_⟩
  have hpl:∀ {σ O} {pos:Pos},OAt O (L+1) (.cell (some (.nat i)))→Ev C σ O (.Name "places" pos) (.nat i):=λ ho=>.cell (I.cell rfl) (.inl (I.kinds (by decide +kernel))) ho
  refine .assign (d:=.nat (Zbk i rows)) (.call1 (.gn T I 77) (T.gn (i:=77) (by kernel_rfl)).2.isDef (.cons (hpl .q1) (.cons (.name .z) .nil)) (Zgo T) (by (apply Wle;assumption;rfl)) .q2) .q2 ?_
  refine .ite (b:=Zbk i rows != i&&((Zcg rows i).filter (Zda i)).isEmpty) (.and (.cmp (.name .q2) (hpl .q1) .neN) λ _=>.eqNilX ?_) (λ hb=>?_) (λ hb=>?_)
  ·refine .listComp (names:=["ahead", "behind"]) ⟨by decide +kernel,rfl,by decide +kernel,by decide +kernel,by decide +kernel,Zaw (λ x=>L+1) (hcl (by decide +kernel))⟩ (Iter.list (l:=st) (ds:=(Zcg rows i).map Zax) (Ev.name .q1).toX List.mem_cons_self).toX ?_
   refine exN ?_
   refine ⟨λ d=>Zda i (dp d),λ d=>.nat (dp d).1,⟨λ q=>List.mem_cons_of_mem _ List.mem_cons_self,λ C' IC j d hd a acc R=>?_,by rw [List.length_map]; exact Wn [_,_] (.v 0) (.n 16777216) [(1,.v 0,.v 1),(1,.a (.v 1) (.n 1),.n 16)] rfl hsz hi⟩,λ a=>⟨a,_,[],rfl,rfl,?_⟩⟩
   ·refine E12 (Zbt hd) λ r hr Y1=>?_
    subst Y1
    rw [Zgd]
    have hpc:∀ {σ} {pos:Pos},Ev C' σ ((a,Sh.list acc)::([(st,.list ((Zcg rows i).map Zax)),(L+1,.cell (some (.nat i))),(l,.list (rows.map D.nat))]++S (i+1)++R)) (.Name "places" pos) (.nat i):=IC.cell .q2 rfl
    refine ⟨_,.tup2 (.name .z) (.name .q1),.one (.and (.cmp (.andN (.name .z) hpc) (.name .z) .eqN) λ _=>.cmp (.andN (.name .q1) hpc) (.name .q1) .neN),λ _=>.name .z⟩
   ·rw [List.isEmpty_map,List.filter_map,List.isEmpty_map]
    congr 2
  ·refine .expr (.append (ds:=(Zcg rows i).map Zax) (d:=Zax (i,Zbk i rows)) (.name .q1) .z (.tup (.cons (hpl .q1) (.cons (.name .q2) .nil)) rfl (by show 2≤sizeLine; decide +kernel)) .z (by rw [List.length_map]; exact Wn [_,_] (.v 0) (.n 16777216) [(1,.v 0,.v 1),(1,.a (.v 1) (.n 1),.n 16)] rfl hsz hi)) ?_
   refine .next (.done (.keep (.keep (.drop .nil))) (.refl _) λ s S'=>?_)
   have e:Zcg rows (i+1)=Zcg rows i++[(i,Zbk i rows)]:=by
    show (if _ then _ else _)=_
    rw [if_pos hb]
   rw [e,List.map_append]
   exact S'
  ·refine .next (.done (.keep (.keep (.drop .nil))) (.refl _) λ s S'=>?_)
   have e:Zcg rows (i+1)=Zcg rows i:=by
    show (if _ then _ else _)=_
    rw [hb,if_neg Bool.false_ne_true]
   rw [e]
   exact S'
 ·rw [Zbp]
  exact .next (.ret (.name .q1) λ v s S x=>hE _ _ (Ends.of ⟨st,rfl,rfl⟩ S (.cons_cons _ (.cons _ (.refl _))) x))
end
section
open PySem PySem.Builtin.Str PySem.W PySem.Calls PyProof.Rows
set_option maxRecDepth 100000
set_option maxHeartbeats 1000000
variable {B:Bs} {C:Cx B} {σ σ':Loc} {O O':Led}
noncomputable def leS (a b:Str):Bool:=!Spec.ltCps b.cps.toList a.cps.toList
theorem Zga (a b:Str):leS a b=true ↔ a.cps.toList≤b.cps.toList:=by
 unfold leS
 rw [ltCps_eq]
 simp
theorem Zeh (a b c:Str) (h1:leS a b=true) (h2:leS b c=true):leS a c=true:=by
 rw [Zga] at *
 exact List.le_trans h1 h2
theorem leS_total (a b:Str):(leS a b || leS b a)=true:=by
 rw [Bool.or_eq_true,Zga,Zga]
 exact List.le_total _ _
theorem Zgl {a b:Str} (h1:leS a b=true) (h2:leS b a=true):a=b:=by
 rw [Zga] at *
 have:=List.le_antisymm h1 h2
 rw [← sl_cps a,← sl_cps b,this]
noncomputable def Zbb (l:List Str):List Str:=l.mergeSort leS
theorem Zav (l:List Str):(Zbb l).Perm l:=List.mergeSort_perm l leS
theorem Zea:∀ {l:List Str} {p:Str},risingS p l=true→(p::l).Pairwise λ a b=>leS a b=true
 | [],p,_=>List.pairwise_cons.mpr ⟨λ _ h=>(nomatch h),.nil⟩
 | x::r,p,h=>by
  unfold risingS at h
  rw [Bool.and_eq_true] at h
  have ih:=Zea h.2
  refine List.pairwise_cons.mpr ⟨λ y hy=>?_,ih⟩
  rcases List.mem_cons.mp hy with rfl | hy
  ·exact h.1
  ·exact Zeh p x y h.1 ((List.pairwise_cons.mp ih).1 y hy)
theorem sorted_is {l l':List Str} (hp:l'.Perm l) (h:sortedS l'=true):l'=Zbb l:=by
 refine List.Perm.eq_of_pairwise (le:=λ a b=>leS a b=true) (λ a b _ _=>Zgl) ?_ (List.pairwise_mergeSort Zeh leS_total l) (hp.trans (Zav l).symm)
 cases l' with
 | nil=>exact .nil
 | cons x r=>exact Zea h
theorem EvX.sortedX {fe e:Expr} {pos:Pos} {ss:List Str} (hf:Ev C σ O fe (.val (.builtin "sorted"))) (he:EvX C σ O e λ d O'=>∃ l R,d = .ref l∧O'=(l,.list (ss.map .str))::(R++O)) (hz:ss.length < 64) (hs:autoParam (Zac [e]=true) tR)
  (hc:autoParam (eval (.Call fe [e] [] pos) C.env=(do callWith pos (← eval fe C.env) [] (backTo pos (starEach [e] C.env)) (backToKw pos (keywordEach [] C.env)))) tR) :
  EvX C σ O (.Call fe [e] [] pos) λ d O'=>∃ a,d = .ref a∧O'=(a,.list ((Zbb ss).map .str))::O:=λ s S Q hQ=>by
 refine Call_ (hf s S _ λ v s₁ t₁ S₁ hv=>?_) hc
 have hh:v = .builtin "sorted" := hv; subst hh
 refine callWith_builtin1 ?_ (Zaa hs).1 (by rfl)
 rw [(Zaa (env:=C.env) hs).1]
 refine spliced_cons (he s₁ S₁ _ λ u s₂ d O' p t₂ S₂ hu=>spliced_nil ?_)
 refine E22 p λ l R Y1 Y2=>?_
 try clear p
 subst Y1
 subst Y2
 have hh:u = .ref l:=hu; subst hh
 refine E12 (Zae (S₂.objs (l,.list (ss.map .str)) List.mem_cons_self)) λ items x hv=>?_
 refine sorted_strs (vs:=items.toList) (by simpa using x) (Zdg hv) (by have:=hv.length; simp only [List.length_map] at this; exact Wn [_,_] (.a (.v 0) (.n 1)) (.n 64) [(1,.v 0,.v 1),(1,.a (.v 1) (.n 1),.n 64)] rfl (We this) hz) λ out ss' h1 h2 h3=>?_
 refine E11 (sortedAll_at s₂.heap items.toList out) λ e he=>?_
 have X:Eff [] s₂ { s₂ with heap:=sortedAll s₂.heap items.toList out }:=.ext λ b o hb=>sortedAll_old hb
 have e3:=sorted_is h2 h3
 subst e3
 have S₃:=S₂.new (a:=s₂.heap.objs.size+1) (sh:=.list ((Zbb ss).map .str)) X (Nat.le_succ _) ⟨out,⟨e,he⟩,?_⟩
 ·refine hQ _ _ _ _ ⟨_,rfl,rfl⟩ ((t₁.trans t₂).trans X.tk) (S₃.sub (λ p hp=>?_) ?_) rfl
  ·rcases List.mem_cons.mp hp with rfl | hp
   ·exact List.mem_cons_self
   ·exact List.mem_cons_of_mem _ (List.mem_cons_of_mem _ (List.mem_append_right _ hp))
  ·have:=S₃.ond
   have h:((s₂.heap.objs.size+1,Sh.list ((Zbb ss).map .str))::O).Sublist ((s₂.heap.objs.size+1,Sh.list ((Zbb ss).map .str))::(l,.list (ss.map .str))::(R++O)):=.cons_cons _ (.cons _ (List.sublist_append_right _ _))
   exact this.sublist (h.map _)
 ·refine E12 (strsAre_values h1) λ l' e1 e2=>?_
  rw [e1,← e2]
  exact Zhj
end
section
set_option maxRecDepth 100000
set_option maxHeartbeats 1000000
variable {B:Bs} {C:Cx B} {σ σ':Loc} {O O':Led}
theorem EvX.tup2 {x y:Expr} {d:D} {k:Nat} {pos:Pos} {P:D→Led→Prop} (hx:Ev C σ O x d) (hy:EvX C σ O y P) (hs:autoParam (Zac [x,y]=true) tR):EvX C σ O (.Tuple [x,y] k pos) λ e O'=>∃ d₂,P d₂ O'∧e = .tup [d,d₂]:=λ s S Q hQ=>by
 have hzz:sizeLine=16777216:=by decide +kernel
 refine wpAny_Tuple_spliced ?_
 refine E02 (Zaa (env:=C.env) hs) λ e1 h1=>?_
 refine E02 (Zaa (env:=C.env) h1) λ e2 h2=>?_
 rw [e1,e2]
 refine spliced_cons (hx s S _ λ v s₁ t₁ S₁ hv=>spliced_cons (hy s₁ S₁ _ λ u s₂ d₂ O' p t₂ S₂ hu=>spliced_nil ⟨by show 2≤sizeLine; exact Wlb rfl,?_⟩))
 have X:Eff [] s₂ { s₂ with heap:=s₂.heap.push { cls:=.type "tuple",data:=.seq [v,u].toArray } }:=Eff.push _
 exact hQ _ _ _ _ ⟨d₂,p,rfl⟩ ((t₁.trans t₂).trans X.tk) (S₂.ext X) ⟨_,[v,u],rfl,⟨_,0,Heap.get?_push_size _ rfl,rfl,rfl⟩,_,_,rfl,(hv.tk t₂).tk X.tk,_,_,rfl,hu.tk X.tk,rfl⟩
noncomputable def Zds (told:List Str):Str:=Txt.join "" (told.map λ w=>((" " : Str)++w)++("=\"&lt;\"" : Str))
noncomputable def Zff (ws:List Str) (s:Nat):List Str:=Zbb (((List.range 4).filter λ i=>s.testBit i).map λ i=>(ws[i]?).getD ("" : Str))
noncomputable def Zcm (ws:List Str) (s:Nat):Str:=(("<e" : Str)++Zds (Zff ws s))++(">" : Str)
noncomputable abbrev DuSt:=Str × List Nat × List Nat
noncomputable def Zbn (ws:List Str) (st:DuSt) (s:Nat):Option DuSt:=
 if (s==0)=true then st.2.2.getLast?.map λ _=>(st.1++("</e>" : Str),st.2.1,st.2.2.dropLast)
 else if decide (s < 256)=true then some ((st.1++Zcm ws s)++("</e>" : Str),st.2.1++[(s &&& 15) ||| (st.2.2.getLast?).getD 0],st.2.2)
 else some (st.1++Zcm ws s,st.2.1++[(s &&& 15) ||| (st.2.2.getLast?).getD 0],st.2.2++[(s &&& 15) ||| (st.2.2.getLast?).getD 0])
noncomputable def dueRun (ws:List Str) (syms:List Nat):Option DuSt:=Zaf (Zbn ws) ("",[],[]) syms
theorem Zak (a b:Str):(a++b).length=a.length+b.length:=by
 show Array.size (a.cps++b.cps)=_
 rw [Array.size_append]; rfl
theorem Zft (ws:List Str) (s:Nat):(Zff ws s).length≤4:=by
 unfold Zff
 rw [(Zav _).length_eq,List.length_map]
 exact Nat.le_trans (List.length_filter_le _ _) (by simp)
theorem Zdx {ws:List Str} (hz:∀ x∈ws,x.length≤20) (s:Nat):∀ x∈Zff ws s,x.length≤20:=by
 intro x hx
 refine E12 (List.mem_map.mp ((Zav _).mem_iff.mp hx)) λ i _ Y1=>?_
 subst Y1
 cases h:ws[i]? with
 | none=>exact Nat.zero_le _
 | some x=>exact hz x (List.mem_of_getElem? h)
theorem Zcq {α : Type} (f : α→Nat) (k:Nat):∀ (l:List α),(∀ x∈l,f x≤k)→(l.map f).sum≤k * l.length
 | [],_=>Nat.le_refl _
 | a::r,h=>by
  have h1:=Zcq f k r λ x hx=>h x (List.mem_cons_of_mem _ hx)
  have h2:=h a List.mem_cons_self
  simp only [List.map_cons,List.sum_cons,List.length_cons,Nat.mul_succ]; exact Wn [_,_,_,_] (.a (.v 0) (.v 1)) (.a (.v 2) (.v 3)) [(1,.v 0,.v 3),(1,.v 1,.v 2)] rfl h2 h1
theorem attr_piece {w:Str} (h:w.length≤20):(((" " : Str)++w)++("=\"&lt;\"" : Str)).length≤28:=by
 rw [Zak,Zak]
 have h1:(" " : Str).length=1:=by decide +kernel
 have h2:("=\"&lt;\"" : Str).length=7:=by decide +kernel
 exact Wn [_,_,_] (.a (.a (.v 0) (.v 1)) (.v 2)) (.n 28) [(1,.v 2,.n 7),(1,.v 0,.n 1),(1,.v 1,.n 20)] rfl (We h2) (We h1) h
theorem Zgp {told:List Str} (h4:told.length≤4) (hz:∀ x∈told,x.length≤20):((told.map λ w=>((" " : Str)++w)++("=\"&lt;\"" : Str)).map (·.length)).sum≤112∧(Zds told).length≤112:=by
 have h1:((told.map λ w=>((" " : Str)++w)++("=\"&lt;\"" : Str)).map (·.length)).sum≤112:=by
  rw [List.map_map]
  exact Nat.le_trans (Zcq _ 28 told λ x hx=>attr_piece (hz x hx)) (by exact Wn [_] (.m 28 (.v 0)) (.n 112) [(28,.v 0,.n 4)] rfl h4)
 refine ⟨h1,?_⟩
 unfold Zds Txt.join
 rw [size_glued]
 have:("" : Str).length=0:=rfl
 rw [this]; assumption
theorem Zef {ws:List Str} (hz:∀ x∈ws,x.length≤20) (s:Nat):(Zcm ws s).length≤115:=by
 unfold Zcm
 rw [Zak,Zak]
 have h1:("<e" : Str).length=2:=by decide +kernel
 have h2:(">" : Str).length=1:=by decide +kernel
 have:=(Zgp (Zft ws s) (Zdx hz s)).2
 exact Wn [_,_,_] (.a (.a (.v 0) (.v 1)) (.v 2)) (.n 115) [(1,.v 1,.n 112),(1,.v 2,.n 1),(1,.v 0,.n 2)] rfl this (We h2) (We h1)
theorem dueStep_len {ws:List Str} (hz:∀ x∈ws,x.length≤20) {st st':DuSt} {s:Nat} (h:Zbn ws st s=some st'):st'.1.length≤st.1.length+119∧st'.2.1.length≤st.2.1.length+1∧st'.2.2.length≤st.2.2.length+1:=by
 have h4:("</e>" : Str).length=4:=by decide +kernel
 have ho:=Zef hz s
 unfold Zbn at h
 split at h
 ·refine E12 (Option.map_eq_some_iff.mp h) λ a _ e=>?_
  rw [← e]; simp only [Zak,h4,List.length_dropLast]; lia
 split at h
 ·cases h; simp only [Zak,h4,List.length_append,List.length_cons,List.length_nil]; lia
 ·cases h; simp only [Zak,List.length_append,List.length_cons,List.length_nil]; lia
noncomputable def dstr:D→Str
 | .str x=>x
 | _ => ""
noncomputable def lastOf (xs:List D):Nat→Option D
 | 0=>none
 | k+1=>xs[k]?
theorem Zkk {α β : Type} [Inhabited β] {f : β→α→Option β} {b c : β} {xs:List α} (h:Zaf f b xs=some c) :
  ∃ stA:Nat→β,stA 0=b∧stA xs.length=c∧∀ i x,xs[i]? = some x→f (stA i) x=some (stA (i+1)):=by
 have hst:∀ i,Zaf f b (xs.take i)=some ((Zaf f b (xs.take i)).getD default):=λ i=>by
  refine E11 (Zez h i) λ y e=>?_
  rw [e]; rfl
 refine ⟨λ i=>(Zaf f b (xs.take i)).getD default,rfl,?_,λ i x hx=>?_⟩
 ·show (Zaf f b (xs.take xs.length)).getD default=c
  rw [List.take_length,h]; rfl
 ·have:=Zey (f:=f) (b:=b) hx
  rw [hst (i+1)] at this
  have h2:=hst i
  rw [h2] at this
  exact this.symm
theorem due_calls (T:Top B) {l w:Addr} {ws:List Str} {syms:List Nat} {fin:DuSt} (hn:syms.length≤1000) (hw:ws.length=4) (hz:∀ x∈ws,x.length≤20) (hrun:dueRun ws syms=some fin) :
  Calls B 1 (.ref (T.fA 73)) [.ref l,.ref w] [(l,.list (syms.map D.nat)),(w,.list (ws.map .str))] λ d O'=>∃ a,d = .tup [.str fin.1,.ref a]∧O'=[(a,.list ((fin.2.1.drop 1).map D.nat)),(l,.list (syms.map D.nat)),(w,.list (ws.map .str))]:=by
 have hzz:sizeLine=16777216:=by decide +kernel
 refine .of_def (T.gn (i:=73) (by kernel_rfl)).2 (("symbols",some (.ref l))::Zay ["text", "rows", "around", "told"]) [("symbol",none),("words",some (.ref w))] (λ L=>[("symbol",L+2),("words",L+1)]) (λ L=>rfl) (λ L=>rfl) ⟨⟨rfl,rfl⟩,rfl⟩ (by show (Str.ofString "symbols" :: ["text", "rows", "around", "told"]:List Str).Nodup; decide +kernel) (by show ∀ x∈(Str.ofString "symbols" :: ["text", "rows", "around", "told"]:List Str),_; decide +kernel) (by show ([Str.ofString "symbol",Str.ofString "words"]).Nodup; decide +kernel) ?_ ?_
 ·intro cd pm s vs _ hq0
  refine E23 (Vals.two hq0) λ v u Y1 hv hu=>?_
  subst Y1
  refine ⟨[("symbols",v),("words",u)],BindsTo.of_eq rfl,?_,⟨⟨v,rfl,hv⟩,noneOk _⟩,⟨rfl,⟨u,rfl,hu⟩,trivial⟩⟩
  intro x hx
  rcases List.mem_cons.mp hx with rfl | hx
  ·exact .inl rfl
  ·rw [List.mem_singleton.mp hx]; exact .inr ⟨rfl,List.mem_cons_of_mem _ List.mem_cons_self⟩
 intro C I hCn
 refine Run.kabs λ K hE=>?_
 generalize C.env.locals=L at I ⊢
 have hcl:∀ {scope:Scope},(∀ x∈scope.names,x.2 = .free→x.1 = "symbol" ∨ x.1 = "words")→∀ x∈scope.names,x.2 = .free→C.env.cells.lookup x.1=some (if x.1 = "symbol" then L+2 else L+1):=λ h x hx hf=>by
  rcases h x hx hf with e | e <;> rw [e] <;> exact I.cell rfl
 refine .assign .str .q1 ?_
 refine Run.assignX1 (EvX.list .nil) λ r=>?_
 refine ⟨_,.q2,?_⟩
 refine Run.assignX1 (EvX.list .nil) λ ar=>?_
 refine ⟨_,.q3,?_⟩
 refine E13 (Zkk hrun) λ stA h0 hfin hstep=>?_
 have hsize:∀ i,i≤syms.length→(stA i).1.length≤119 * i∧(stA i).2.1.length≤i∧(stA i).2.2.length≤i:=by
  intro i
  induction i with
  | zero=>intro _; rw [h0]; exact ⟨Nat.le_refl _,Nat.le_refl _,Nat.le_refl _⟩
  | succ i ih=>
   intro hi
   have h1:=ih (by exact Wn [_,_] (.v 0) (.v 1) [(1,.a (.v 0) (.n 1),.v 1)] rfl hi)
   have h2:=dueStep_len hz (hstep i _ (List.getElem?_eq_getElem (show i < syms.length by assumption)))
   lia
 refine Run.for_ (.list (l:=l) (ds:=syms.map D.nat) (Ev.name .z).toX (List.mem_cons_of_mem _ (List.mem_cons_of_mem _ (List.mem_cons_of_mem _ (List.mem_cons_of_mem _ List.mem_cons_self)))))
  (λ i=>[("symbols",some (.ref l)),("text",some (.str (stA i).1)),("rows",some (.ref r)),("around",some (.ref ar)),("told",none)])
  (λ i=>[(ar,.list ((stA i).2.2.map D.nat)),(r,.list ((stA i).2.1.map D.nat)),(L+2,.cell (lastOf (syms.map D.nat) i)),(L+1,.cell (some (.ref w))),(l,.list (syms.map D.nat)),(w,.list (ws.map .str))]) (Kb:=λ _=>False)
  ⟨⟨by rw [h0]; rfl,by rw [h0]; rfl⟩,λ _ _=>List.mem_cons_of_mem _ (List.mem_cons_of_mem _ (List.mem_cons_of_mem _ (List.mem_cons_of_mem _ List.mem_cons_self))),λ i d hd S=>?_,?_,λ _ h=>h.elim⟩
 ·refine E12 (Zbt hd) λ sy hx Y1=>?_
  subst Y1
  have hi:i < syms.length:=(List.getElem?_eq_some_iff.mp hx).1
  have hs:=hstep i sy hx
  refine E03 (hsize i (by exact Wn [_,_] (.v 0) (.v 1) [(1,.a (.v 0) (.n 1),.v 1)] rfl hi)) λ z1 z2 z3=>?_
  rw [show lastOf (syms.map D.nat) (i+1)=some (.nat sy) from hd]
  generalize lastOf (syms.map D.nat) i=cv
  generalize stA i=st at hs z1 z2 z3 ⊢
  generalize stA (i+1)=st' at hs ⊢
  obtain ⟨txt,rows,around⟩:=st
  simp only at z1 z2 z3 ⊢
  have h4:("</e>" : Str).length=4:=by decide +kernel
  have hsym:∀ {σ O} {pos:Pos},OAt O (L+2) (.cell (some (.nat sy)))→Ev C σ O (.Name "symbol" pos) (.nat sy):=λ ho=>.cell (I.cell rfl) (.inl (I.kinds (by decide +kernel))) ho
  refine ⟨_,_,.cell (I.kinds (by decide +kernel)) (I.cell rfl) .q2 .q2,?_⟩
  refine Run.kabs λ K hK=>?_
  unfold Zbn at hs
  refine .ite (.cmp (hsym .q2) (.intN 0) .eqN) (λ hb=>?_) (λ hb=>?_)
  ·rw [if_pos hb] at hs
   refine E12 (Option.map_eq_some_iff.mp hs) λ a ha e=>?_
   have hl0:=(Zdp ha).2
   refine .aug .q1 .str (.addStr (by rw [h4]; exact Wn [_,_,_] (.a (.v 0) (.n 4)) (.n 16777216) [(1,.v 0,.m 119 (.v 1)),(119,.a (.v 1) (.n 1),.v 2),(119,.v 2,.n 1000)] rfl z1 hi hn)) .q1 ?_
   refine .expr (.pop (ds:=around.map D.nat) (d:=.nat a) (.name .q3) .z (by rw [List.length_map,List.getElem?_map,← List.getLast?_eq_getElem?,ha]; rfl) .z (by rw [List.length_map]; exact Wn [_,_,_] (.v 0) (.n 16777216) [(1,.v 0,.v 1),(1,.a (.v 1) (.n 1),.v 2),(1,.v 2,.n 1000)] rfl z3 hi hn)) ?_
   refine .next (.nil λ s S'=>?_)
   refine hK _ _ ?_
   dsimp only
   rw [← e,List.map_dropLast]
   exact S'
  rw [hb,if_neg Bool.false_ne_true] at hs
  have htold:∀ {a},((rng 0 1 4).filter λ d=>sy.testBit (dn d)).map (λ d=>D.str ((ws[dn d]?).getD ("" : Str)))=a→a=((((List.range 4).filter λ i=>sy.testBit i).map λ i=>(ws[i]?).getD ("" : Str)).map .str):=λ e=>by
   rw [← e,rng_nat,List.filter_map,List.map_map,List.map_map]
   rfl
  let O₀:Led:=[(ar,.list (around.map D.nat)),(r,.list (rows.map D.nat)),(L+2,.cell (some (.nat sy))),(L+1,.cell (some (.ref w))),(l,.list (syms.map D.nat)),(w,.list (ws.map .str))]++S (i+1)
  refine Run.assignX (EvX.sortedX (O:=O₀) (ss:=((List.range 4).filter λ i=>sy.testBit i).map λ i=>(ws[i]?).getD ("" : Str)) (.bn T I rfl) (.listComp (names:=["flag"]) ⟨by decide +kernel,rfl,by decide +kernel,by decide +kernel,by decide +kernel,Zaw (λ x=>if x = "symbol" then L+2 else L+1) (hcl (by decide +kernel))⟩
   (Iter.range1 (b:=4) (n:=4) (.bn T I rfl) .int (by decide +kernel) (by kernel_rfl)).toX ?_) ?_) ?_
  ·refine exN ?_
   refine ⟨λ d=>sy.testBit (dn d),λ d=>.str ((ws[dn d]?).getD ("" : Str)),⟨λ _=>trivial,λ C' IC j d hd' a acc R=>?_,by rw [Zbp]; decide +kernel⟩,λ a=>⟨a,[],rfl,?_⟩⟩
   ·refine E02 (Zdl hd') λ hj Y1=>?_
    subst Y1
    have e1:D.int (0+(j:Int) * 1) = .nat j:=by simp
    rw [e1,dn_nat]
    refine ⟨_,.name .z,.one ((Tst.val (.andN (.shrN (IC.cell .q3 rfl) (.name .z)) (.intN 1)) .nat).cast ?_),λ _=>?_⟩
    ·show ((sy >>> j) &&& 1 != 0)=sy.testBit j
     rw [Nat.and_comm]; rfl
    ·refine .item (k:=((j:Nat):Int)) (IC.cell .q4 rfl) (.name .z) .q6 ?_ (by rw [List.length_map]; lia) (by lia) (by lia)
     rw [plcN,List.getElem?_map]
     rw [List.getElem?_eq_getElem (by exact Wn [_,_] (.a (.v 0) (.n 1)) (.v 1) [(1,.a (.v 0) (.n 1),.n 4),(1,.n 4,.v 1)] rfl hj (Wf hw))]
     rfl
   ·rw [htold rfl]; rfl
  ·rw [List.length_map]
   exact Nat.lt_of_le_of_lt (Nat.le_trans (List.length_filter_le _ _) (by simp)) (show 4 < 64 by decide)
  refine ex1 λ ta=>?_
  refine ⟨_,.q4,?_⟩
  show Run C _ ((ta,.list ((Zff ws sy).map .str))::O₀) _ _
  have hO:=Zef hz sy
  have hA:=Zgp (Zft ws sy) (Zdx hz sy)
  have hTl:=Zft ws sy
  have hTs:=Zdx hz sy
  have h2e:("<e" : Str).length=2:=by decide +kernel
  have h1g:(">" : Str).length=1:=by decide +kernel
  have h1b:(" " : Str).length=1:=by decide +kernel
  have h7q:("=\"&lt;\"" : Str).length=7:=by decide +kernel
  have heo:Zcm ws sy=(("<e" : Str)++Zds (Zff ws sy))++(">" : Str):=rfl
  generalize Zff ws sy=told at *
  have h4z:txt.length+(Zcm ws sy).length≤sizeLine:=by exact Wn [_,_,_,_] (.a (.v 0) (.v 1)) (.n 16777216) [(1,.v 1,.n 115),(1,.v 0,.m 119 (.v 2)),(119,.a (.v 2) (.n 1),.v 3),(119,.v 3,.n 1000)] rfl hO z1 hi hn
  refine .aug .q1 (u:=.str (Zcm ws sy)) ((Ev.addStr (a:=("<e" : Str)++Zds told) (.addStr .str (.joinX (ys:=told.map λ w=>((" " : Str)++w)++("=\"&lt;\"" : Str)) .str (.listComp (names:=["word"]) ⟨by decide +kernel,rfl,by decide +kernel,by decide +kernel,by decide +kernel,Zaw (λ x=>if x = "symbol" then L+2 else L+1) (hcl (by decide +kernel))⟩
   (Iter.list (l:=ta) (ds:=told.map .str) (Ev.name .q4).toX List.mem_cons_self).toX ?_) ?_) ?_) .str ?_).cast (congrArg D.str heo.symm)) (.addStr h4z) .q1 ?_
  ·refine exN ?_
   refine ⟨λ _=>true,λ d=>.str (((" " : Str)++dstr d)++("=\"&lt;\"" : Str)),⟨λ q=>List.mem_cons_of_mem _ List.mem_cons_self,λ C' IC j d hd' a acc R=>?_,by rw [List.length_map]; (apply Wls;assumption;rfl)⟩,λ a=>⟨a,[],rfl,?_⟩⟩
   ·refine E12 (Zbt hd') λ x hx' Y1=>?_
    subst Y1
    have hxl:=hTs x (List.mem_of_getElem? hx')
    refine ⟨_,.name .z,.nil,λ _=>.addStr (.addStr .str (.name .z) (by rw [h1b]; show 1+x.length≤_; exact Wn [_] (.a (.n 1) (.v 0)) (.n 16777216) [(1,.v 0,.n 20)] rfl hxl)) .str (by rw [Zak,h1b,h7q]; show 1+x.length+7≤_; exact Wn [_] (.a (.a (.n 1) (.v 0)) (.n 7)) (.n 16777216) [(1,.v 0,.n 20)] rfl hxl)⟩
   ·rw [List.filter_eq_self.mpr (λ _ _=>rfl),List.map_map,List.map_map]
    rfl
  ·have:("" : Str).length=0:=rfl
   rw [this,Nat.mul_zero]
   exact Nat.le_trans hA.1 (by decide)
  ·rw [h2e]; show 2+(Zds told).length≤_; exact Wn [_] (.a (.n 2) (.v 0)) (.n 16777216) [(1,.v 0,.n 112)] rfl hA.2
  ·rw [Zak,h2e,h1g]; exact Wn [_] (.a (.a (.n 2) (.v 0)) (.n 1)) (.n 16777216) [(1,.v 0,.n 112)] rfl hA.2
  refine .expr (.append (ds:=rows.map D.nat) (d:=.nat ((sy &&& 15) ||| (around.getLast?).getD 0)) (.name .q2) .q2 (.orN (.andN (hsym .q3) (.intN 15)) (.ifExp (b:=!around.isEmpty) ((Tst.neNil (.name .q3) .q1).cast (by rw [List.isEmpty_map])) (λ hb=>?_) (λ hb=>?_))) .q2 (by rw [List.length_map]; exact Wn [_,_,_] (.v 0) (.n 16777216) [(1,.v 0,.v 1),(1,.a (.v 1) (.n 1),.v 2),(1,.v 2,.n 1000)] rfl z2 hi hn)) ?_
  ·obtain ⟨a,ha⟩:∃ a,around.getLast? = some a:=by
    cases around with
    | nil=>simp at hb
    | cons x r=>exact ⟨_,List.getLast?_eq_some_getLast (by simp)⟩
   refine E02 (Zdp ha) λ hl hl0=>?_
   rw [ha]
   exact .item (.name .q3) (.neg .int) .q1 hl (by rw [List.length_map]; lia) (by decide) (by decide)
  ·have:around=[]:=by
    cases around with
    | nil=>rfl
    | cons=>simp at hb
   rw [this]; exact .intN 0
  generalize (sy &&& 15) ||| (around.getLast?).getD 0=row at hs ⊢
  refine .ite (.cmp (hsym .q3) (.intN 256) .ltN) (λ hc=>?_) (λ hc=>?_)
  ·rw [if_pos hc] at hs
   refine .aug .q1 .str (.addStr (by rw [Zak,h4]; exact Wn [_,_,_,_] (.a (.a (.v 0) (.v 1)) (.n 4)) (.n 16777216) [(1,.v 1,.n 115),(1,.v 0,.m 119 (.v 2)),(119,.a (.v 2) (.n 1),.v 3),(119,.v 3,.n 1000)] rfl hO z1 hi hn)) .q1 ?_
   refine .next (.next (.done (.keep (.keep (.keep (.keep (.drop .nil))))) (.cons _ (.refl _)) λ s S'=>?_))
   refine hK _ _ ?_
   dsimp only
   rw [← Option.some.inj hs]
   simpa using S'
  ·rw [hc,if_neg Bool.false_ne_true] at hs
   have hl2:((rows.map D.nat)++[.nat row])[plc (-1) ((rows.map D.nat)++[D.nat row]).length]? = some (.nat row):=by
    have:=(Zdp (xs:=rows++[row]) (a:=row) (by simp)).1
    simpa using this
   refine .expr (.append (ds:=around.map D.nat) (d:=.nat row) (.name .q3) .q1 (.item (.name .q2) (.neg .int) .q2 hl2 (by rw [List.length_append,List.length_map]; show -((rows.length+1:Nat):Int)≤_; lia) (by decide) (by decide)) .q1 (by rw [List.length_map]; exact Wn [_,_,_] (.v 0) (.n 16777216) [(1,.v 0,.v 1),(1,.a (.v 1) (.n 1),.v 2),(1,.v 2,.n 1000)] rfl z3 hi hn)) ?_
   refine .next (.next (.done (.keep (.keep (.keep (.keep (.drop .nil))))) (.cons _ (.refl _)) λ s S'=>?_))
   refine hK _ _ ?_
   dsimp only
   rw [← Option.some.inj hs]
   simpa using S'
 ·rw [List.length_map,hfin]
  refine E03 (hsize syms.length (Nat.le_refl _)) λ z1 z2 z3=>?_
  rw [hfin] at z1 z2 z3
  refine .next (.retX (.tup2 (.name .q1) (.slice (.name .q2) .q1 (.some (.intN 1)) .none (by rw [List.length_map]; exact Wn [_,_] (.v 0) (.n 16777216) [(1,.v 0,.v 1),(1,.v 1,.n 1000)] rfl z2 hn))) ?_)
  intro v s d O' hq0 S x
  refine E12 hq0 λ d₂ Y1 Y2=>?_
  try clear hq0
  subst Y2
  refine E12 Y1 λ c Y3 Y4=>?_
  clear Y1
  subst Y3
  subst Y4
  rw [Zjp,← List.map_drop] at S
  exact hE _ _ (Ends.of ⟨c,rfl,rfl⟩ S (.cons_cons _ (.cons _ (.cons _ (.cons _ (.cons _ (.refl _)))))) x)
end
section
open PySem PySem.Builtin.Str PySem.W PySem.Calls PyProof.Rows
set_option maxRecDepth 100000
set_option maxHeartbeats 1000000
variable {B:Bs} {C:Cx B} {σ σ':Loc} {O O':Led}
noncomputable abbrev Sh.siter (x:Str) (i:Nat):Sh:=.is λ o=>∃ t,o.cls = .type "str_ascii_iterator" ∧ o.data = .fields #[.str x t,.int i 0]
theorem Zkb {h:Heap} {it:Addr} {x:Str} {i:Nat} (y:ShAt B h it (.siter x i)):∃ t,h.IsStrIter it "str_ascii_iterator" x t i:=by refine E13 y λ o e Y1 _=>?_; try clear y; refine E12 Y1 λ t c d=>?_; clear Y1; exact ⟨t,o,e,c,d⟩
theorem siter_of {h:Heap} {it:Addr} {x:Str} {t:Tok} {i:Nat} (y:h.IsStrIter it "str_ascii_iterator" x t i):ShAt B h it (.siter x i):=by refine E13 y λ o e c d=>?_; try clear y; exact ⟨o,e,⟨t,c,d⟩,.inr λ vs n q=>by rw [d] at q; cases q⟩
theorem Src.str {y:Str} {p:Pos} {it:Addr} {l:List Nat}:Src C (.Name y p) (.ref it) (λ i=>[(it,.siter (sl l) i)]) (λ _=>True) (l.map λ c=>.str (sl [c])) where
 self:=λ {i σ O s} need S {Q} hQ=>by
  refine E11 (Zkb (S.objs (it,Sh.siter (sl l) i) (List.mem_append_right _ List.mem_cons_self))) λ t hit=>?_
  exact wpAny_pyIter_striter_ascii hit hQ
 item:=λ {i d} hd {σ O s} need S {Q} hQ=>by
  have mem:(it,Sh.siter (sl l) i)∈O++[(it,Sh.siter (sl l) i)]:=List.mem_append_right _ List.mem_cons_self
  refine E11 (Zkb (S.objs _ mem)) λ t hit=>?_
  rw [List.getElem?_map] at hd
  cases hc:l[i]? with
  | none=>rw [hc] at hd; cases hd
  | some c=>
   rw [hc] at hd
   obtain rfl:=Option.some.inj hd
   refine wpAny_pyNext_ascii_item hit (c:=c) (by simpa using hc) λ h' hit' hs=>?_
   have X:Eff [it] s { s with heap:=h',toks:=s.toks+1 }:=.but hs λ vs=>ShAt.noTup (S.objs _ mem) vs
   exact wpAny_pure (a:=()) (hQ _ _ X.tk (S.put (OPut.app .z O) X (siter_of hit')) ⟨_,rfl⟩)
 done:=λ {σ O s} need S {Q} hQ=>by
  rw [List.length_map] at S
  have mem:(it,Sh.siter (sl l) l.length)∈O++[(it,Sh.siter (sl l) l.length)]:=List.mem_append_right _ List.mem_cons_self
  refine E11 (Zkb (S.objs _ mem)) λ t hit=>?_
  refine wpAny_pyNext_ascii_end C.room.handled hit (by simp) λ h' hk=>?_
  have X:=Eff.ofExtBut (t:=s.toks) hk λ vs=>ShAt.noTup (S.objs _ mem) vs
  exact hQ _ X.tk (S.lose X)
theorem Iter.str {iter:Expr} {y:Str} {p:Pos} {l:List Nat} (he:Ev C σ O iter (.str (sl l))) (ha:l.all (· < 128)=true):Iter C σ O iter (.Name y p) O (λ _=>True) (l.map λ c=>.str (sl [c])):=λ s S Q hQ=>by
 refine he s S _ λ v s₁ t₁ S₁ ⟨t,e⟩=>?_
 subst e
 refine wpAny_pyIter_ascii (by simpa using ha) ?_
 have x:Eff [] s₁ { s₁ with heap:=s₁.heap.push { cls:=.type "str_ascii_iterator",data:=.fields #[.str (sl l) t,.int 0 0] } }:=Eff.push _
 refine hQ _ _ _ (t₁.trans x.tk) (λ _=>Src.str) ?_
 have S':=S₁.new (a:=s₁.heap.objs.size) (sh:=.siter (sl l) 0) x (Nat.le_refl _) (siter_of ⟨_,Heap.get?_push_size _ rfl,rfl,rfl⟩)
 refine S'.sub (λ p hp=>?_) ?_
 ·rcases List.mem_append.mp hp with hp | hp
  ·exact List.mem_cons_of_mem _ hp
  ·rw [List.mem_singleton.mp hp]; exact List.mem_cons_self
 ·have n:=S'.ond
  rw [List.map_cons,List.nodup_cons] at n
  rw [List.map_append,List.nodup_append]
  refine ⟨n.2,by simp,λ a ha b hb e=>n.1 ?_⟩
  have:b=s₁.heap.objs.size:=by simpa using hb
  rw [← this,← e]; exact ha
end
section
set_option maxRecDepth 100000
set_option maxHeartbeats 1000000
variable {B:Bs} {C:Cx B} {σ σ':Loc} {O O':Led}
inductive ThenC (C:Cx B) (σ : Loc) (O:Led) (c:Addr) (d:D) (rest:List Stmt) (K:Flow→Shared→Prop):Prop
 | mk (d₀:Option D) (O₂:Led) (ha:OAt O c (.cell d₀)) (hp:OPut O c (.cell (some d)) O₂) (hr:Run C σ O₂ rest K)
theorem Run.assignCellX {x:Str} {xp pos:Pos} {e:Expr} {rest:List Stmt} {c:Addr} {P:D→Led→Prop} {K:Flow→Shared→Prop} (he:EvX C σ O e P) (hk:C.env.kindOf x=some .cell) (hc:C.env.cells.lookup x=some c)
  (h:∀ d O',P d O'→ThenC C σ O' c d rest K)
  (hs:autoParam (swapsWith e (some (.Name x xp)) pos.line C.env=pure false) tR):Run C σ O (.Assign [.Name x xp] e pos::rest) K:=
 Run.cons λ s S=>wpAny_Assign_Name (he s S _ λ v s₁ d O' p t₁ S₁ hv=>by
  obtain ⟨d₀,O'',ha,hp,hr⟩:=h d O' p
  exact S₁.storeCell hk hc hp hv ⟨_,ha⟩ λ s₂ _ S₂=>hr s₂ S₂) hs
noncomputable def spEs:List (Str × D):=[("&",.str "&amp;"),("<",.str "&lt;"),("\r", .str "&#xD;")]
noncomputable def Zdy (c:Nat):Str:=if sl [c] = "&" then "&amp;" else if sl [c] = "<" then "&lt;" else if sl [c] = "\r" then "&#xD;" else sl [c]
noncomputable def Zev (l:List Nat):Str:=Txt.join "" (l.map Zdy)
theorem sp_get (c:Nat):(Zcp spEs (sl [c])).getD (.str (sl [c])) = .str (Zdy c):=by
 unfold Zcp spEs Zdy
 by_cases h1:sl [c] = "&"
 ·rw [if_pos h1,h1]; rfl
 ·rw [if_neg h1,List.find?_cons_of_neg (by simpa using λ e=>h1 e.symm)]
  by_cases h2:sl [c] = "<"
  ·rw [if_pos h2,h2]; rfl
  ·rw [if_neg h2,List.find?_cons_of_neg (by simpa using λ e=>h2 e.symm)]
   by_cases h3:sl [c] = "\r"
   ·rw [if_pos h3,h3]; rfl
   ·rw [if_neg h3,List.find?_cons_of_neg (by simpa using λ e=>h3 e.symm)]; rfl
theorem spellC_len (c:Nat):(Zdy c).length≤5:=by
 have h1:("&amp;" : Str).length=5:=by decide +kernel
 have h2:("&lt;" : Str).length=4:=by decide +kernel
 have h3:("&#xD;" : Str).length=5:=by decide +kernel
 have h4:(sl [c]).length=1:=rfl
 unfold Zdy
 split
 ·exact Wlb rfl
 split
 ·exact Wlb rfl
 split <;> exact Wlb rfl
theorem spell_calls (T:Top B) {l:List Nat} (hz:l.length≤1000000) (ha:l.all (· < 128)=true):Pure B 1 (.ref (T.fA 80)) [.str (sl l)] [] (.str (Zev l)):=by
 have hzz:sizeLine=16777216:=by decide +kernel
 refine .def1 (T.gn (i:=80) (by kernel_rfl)).2 "text" [] ["table"] (λ L=>[("table",L+1)]) λ C I hn=>?_
 refine @Run.kabs B C _ _ _ _ λ K hE=>?_
 generalize C.env.locals=L at I ⊢
 refine @Run.assignCellX B C _ _ _ _ _ _ _ (L+1) (λ d O'=>∃ a,d = .ref a∧O'=[(a,.dict spEs),(L+1,.cell none)]) _ ?_ (I.kinds (by decide +kernel)) (I.cell rfl) ?_ rfl
 ·exact EvX.dict (es:=spEs) (.cons (λ _=>.str) (λ _=>.str) (.cons (λ _=>.str) (λ _=>.str) (.cons (λ _=>.str) (λ _=>.str) .nil))) (by simp [spEs]) (by decide) (by decide +kernel)
 refine ex1 λ tb=>?_
 refine ⟨_,_,.q1,.q1,?_⟩
 have hcl:∀ {scope:Scope},(∀ x∈scope.names,x.2 = .free→x.1 = "table")→∀ x∈scope.names,x.2 = .free→C.env.cells.lookup x.1=some (L+1):=λ h x hx hf=>by
  rw [h x hx hf]; exact I.cell rfl
 refine .ret (.joinX (ys:=l.map Zdy) .str (.listComp (names:=["sign"]) ⟨by decide +kernel,rfl,by decide +kernel,by decide +kernel,by decide +kernel,Zaw (λ x=>L+1) (hcl (by decide +kernel))⟩ (Iter.str (.name .z) ha).toX ?_) ?_) λ v s S x=>hE _ _ (Ends.of ⟨rfl,rfl⟩ S (List.nil_sublist _) x)
 ·refine exN ?_
  refine ⟨λ _=>true,λ d=>.str (dstr ((Zcp spEs (dstr d)).getD d)),⟨λ _=>trivial,λ C' IC j d hd' a acc R=>?_,by rw [List.length_map]; (apply Wls;assumption;rfl)⟩,λ a=>⟨a,[],rfl,?_⟩⟩
  ·refine E12 (Zbt hd') λ c hc Y1=>?_
   subst Y1
   refine ⟨_,.name .z,.nil,λ _=>?_⟩
   show Ev C' _ _ _ (.str (dstr ((Zcp spEs (sl [c])).getD (.str (sl [c])))))
   refine .ifExp (b:=(Zcp spEs (sl [c])).isSome) (.cmp (.name .z) (IC.cell .q2 rfl) (.inD Zdt (OAt.map .q1))) (λ hb=>?_) (λ hb=>?_)
   ·refine E11 (Option.isSome_iff_exists.mp hb) λ v hv=>?_
    have e:=sp_get c
    rw [hv] at e ⊢
    have e:v = .str (Zdy c):=e
    show Ev C' _ _ _ (.str (dstr v))
    refine .dgetItem (IC.cell .q2 rfl) (.name .z) Zdt (OAt.map .q1) ?_
    rw [hv,e]; rfl
   ·rw [Option.isSome_eq_false_iff,Option.isNone_iff_eq_none] at hb
    rw [hb]
    exact .name .z
  ·rw [List.filter_eq_self.mpr (λ _ _=>rfl),List.map_map,List.map_map]
   have:(λ c=>D.str (dstr ((Zcp spEs (sl [c])).getD (.str (sl [c])))))=λ c=>D.str (Zdy c):=by
    funext c; rw [sp_get]; rfl
   exact congrArg (λ f=>(a,Sh.list (l.map f))::([]++_)) this
 ·have:("" : Str).length=0:=rfl
  rw [this,Nat.mul_zero]
  have:=Zcq (λ c=>(Zdy c).length) 5 l λ c _=>spellC_len c
  rw [List.map_map]
  exact Nat.le_trans this (by exact Wn [_] (.m 5 (.v 0)) (.n 16777216) [(5,.v 0,.n 1000000)] rfl hz)
end
section
open PySem PySem.Builtin.Str PySem.W PySem.Calls PyProof.Rows
set_option maxRecDepth 100000
set_option maxHeartbeats 1000000
variable {B:Bs} {C:Cx B} {σ σ':Loc} {O O':Led}
theorem Run.try_ {body orelse rest:List Stmt} {h₀:ExceptHandler} {hs:List ExceptHandler} {pos:Pos} {K:Flow→Shared→Prop}
  (h:Run C σ O body (λ f s₁=>match f with | .next=>C.wp (execs orelse C.env) (λ f s'=>match f with | .next=>C.wp (execs rest C.env) K s' | f=>K f s') s₁ | f=>K f s₁)):Run C σ O (.Try body (h₀::hs) orelse [] pos::rest) K:=Run.cons λ s S=>by
 refine wpAny_Try_except (F0.to (wpAny_mono (h s S) (λ f s₁ h₁=>?_) λ _ _ q=>q))
 cases f <;> exact h₁
theorem putSame {σ σ':Loc} {x:Str} {d:D} (ha:LAt σ x d) (hp:LPut σ x d σ') (nd:(σ.map (·.1)).Nodup):Fg σ σ':=by
 induction hp with
 | z=>cases ha with
  | z=>exact Fg.refl _
  | u ha=>exact absurd (Zat ha.mem) (List.nodup_cons.mp nd).1
 | u hp ih=>cases ha with
  | z=>exact absurd hp.at (List.nodup_cons.mp nd).1
  | u ha=>exact .keep (ih ha (List.nodup_cons.mp nd).2)
theorem Run.ifReplace {xn y z x:Str} {k k₂ k₃:Nat} {p1 p2 p3 p4 p5 p6 p7 p8 p9 p10 pos:Pos} {rest:List Stmt} {K:Flow→Shared→Prop} (hx:LAt σ xn (.str x)) (hp:LPut σ xn (.str (if Txt.contains x y=true then Txt.replace x y z else x)) σ')
  (hyz:(y==z)=false) (hz1:x.length≤1048576) (hz2:z.length≤14) (h:Run C σ' O rest K)
  (hd:autoParam ((xn==("__debug__" : Str))=false) tE) (hline:autoParam ((p6.endLine==p9.line)=true) tR) :
  Run C σ O (.If (.Compare (.Constant (.str y) k p1) [.In] [.Name xn p2] p3) [.Assign [.Name xn p4] (.Call (.Attribute (.Name xn p5) (PySem.Str.ofString "replace") p6) [.Constant (.str y) k₂ p7,.Constant (.str z) k₃ p8] [] p9) p10] [] pos::rest) K:=Run.cons λ s S=>by
 have nm:∀ {s:Shared} {p:Pos},St C σ O s→∀ {Q:Value→Shared→Prop},(∀ t,Q (.str x t) s)→C.wp (eval (.Name xn p) C.env) Q s:=λ {s p} S {Q} hQ=>by
  refine E23 (S.get hx.mem) λ m v n e Y1=>?_
  refine E11 Y1 λ t hv=>?_
  clear Y1
  subst hv
  exact wpAny_Name (wpAny_loadName_local C.kind (S.loc_of (Zat hx.mem)) n e (hQ t)) hd
 have S₁:St C σ O { s with toks:=s.toks+1 }:=S.tok
 refine wpAny_If (wpAny_isTrue_Compare1 (Constant_str (nm S₁ λ t=>P.in_str (wpAny_truthy_bool ?_))) rfl)
 show if Txt.contains x y=true then _ else _
 cases hc:Txt.contains x y with
 | false=>
  rw [hc] at hp
  simp only [Bool.false_eq_true,if_false] at hp ⊢
  refine wpAny_execs_nil (h _ (S₁.forget ?_))
  exact putSame hx hp (S.names ▸ C.nd)
 | true=>
  rw [hc] at hp
  simp only [if_true] at hp ⊢
  refine wpAny_execs_cons (wpAny_Assign_Name (wpAny_Call_method (id := "str.replace") (T := "str") rfl (by rfl) hline F.plainAttrs_str F.slot_str_replace F.type_str_replace (nm S₁ λ t=>⟨typeIs_str _ _ _,λ a e=>(nomatch e),?_⟩)) rfl)
  refine callWith_builtin rfl (Zbh rfl ?_)
  refine spliced_cons (Constant_str (k:=k₂) (pos:=p7) (spliced_cons (Constant_str (k:=k₃) (pos:=p8) (spliced_nil ?_))))
  refine SC.replaceW (show s.toks+1 ≠ 0 by lia) (show s.toks+1+1 ≠ 0 by lia) (show s.toks+1 ≠ s.toks+1+1 by lia) hyz hz1 hz2 λ t' k'=>?_
  have S₂:St C σ O { s with toks:=k' }:=S.tok
  exact S₂.store hp ⟨t',rfl⟩ λ s₃ _ S₃=>wpAny_execs_nil (h s₃ S₃)
noncomputable def rep1 (y z x:Str):Str:=if Txt.contains x y=true then Txt.replace x y z else x
theorem rep1_len (y z x:Str):(rep1 y z x).length≤x.length+(x.length+1) * z.length:=by
 unfold rep1
 split
 ·unfold Txt.replace
  split
  ·exact Nat.le_add_right _ _
  ·have h1:=StrLaws.occ_length_le x y 0 x.length (x.length+1)
   have hy:(glued y (partsBetween x (occurrences x y 0 x.length (x.length+1)) y.length)).length=x.length:=by rw [StrLaws.glued_between_self]
   rw [size_glued,length_partsBetween,Nat.add_sub_cancel] at hy
   rw [size_glued,length_partsBetween,Nat.add_sub_cancel]
   have h2:(occurrences x y 0 x.length (x.length+1)).length * z.length≤(x.length+1) * z.length:=Nat.mul_le_mul_right _ h1
   exact Wn [_,_,_,_,_] (.a (.v 0) (.v 1)) (.a (.v 2) (.v 3)) [(1,.v 1,.v 3),(1,.a (.v 0) (.v 4),.v 2)] rfl h2 (We hy)
 ·exact Nat.le_add_right _ _
theorem Zeb {y z x:Str} {a b:Nat} (hx:x.length≤a) (hz:z.length≤b):(rep1 y z x).length≤a+(a+1) * b:=by
 refine Nat.le_trans (rep1_len y z x) ?_
 have h1:(x.length+1) * z.length≤(a+1) * b:=Nat.mul_le_mul (by exact Wn [_,_] (.a (.v 0) (.n 1)) (.a (.v 1) (.n 1)) [(1,.v 0,.v 1)] rfl hx) hz
 exact Wn [_,_,_,_] (.a (.v 0) (.v 1)) (.a (.v 2) (.v 3)) [(1,.v 1,.v 3),(1,.v 0,.v 2)] rfl h1 hx
noncomputable def Zla (x:Str):Str:=rep1 "\r" "&#xD;" (rep1 ">" "&gt;" (rep1 "<" "&lt;" (rep1 "&" "&amp;" x)))
theorem cdata_calls (T:Top B) {x:Str} (hz:x.length≤4000):Pure B 1 (.ref (T.fA 8)) [.str x] [] (.str (Zla x)):=by
 have h1:=Zeb (y := "&") (z := "&amp;") hz (show ("&amp;" : Str).length≤5 by decide +kernel)
 have h2:=Zeb (y := "<") (z := "&lt;") h1 (show ("&lt;" : Str).length≤4 by decide +kernel)
 have h3:=Zeb (y := ">") (z := "&gt;") h2 (show ("&gt;" : Str).length≤4 by decide +kernel)
 refine .def1 (T.gn (i:=8) (by kernel_rfl)).2 "text" [] [] (λ _=>[]) λ C I hn=>?_
 refine Run.kabs λ K hE=>?_
 refine .try_ ?_
 refine .ifReplace .z .z (by kernel_rfl) (by exact Wn [_] (.v 0) (.n 1048576) [(1,.v 0,.n 4000)] rfl hz) (by decide +kernel) ?_
 refine .ifReplace .z .z (by kernel_rfl) (show (rep1 "&" "&amp;" x).length≤_ by exact Wn [_] (.v 0) (.n 1048576) [(1,.v 0,.a (.n 4000) (.r (.a (.n 4000) (.n 1)) 5))] rfl h1) (by decide +kernel) ?_
 refine .ifReplace .z .z (by kernel_rfl) (show (rep1 "<" "&lt;" (rep1 "&" "&amp;" x)).length≤_ by exact Wn [_] (.v 0) (.n 1048576) [(1,.v 0,.a (.a (.n 4000) (.r (.a (.n 4000) (.n 1)) 5)) (.r (.a (.a (.n 4000) (.r (.a (.n 4000) (.n 1)) 5)) (.n 1)) 4))] rfl h2) (by decide +kernel) ?_
 refine .ifReplace .z .z (by kernel_rfl) (show (rep1 ">" "&gt;" (rep1 "<" "&lt;" (rep1 "&" "&amp;" x))).length≤_ by lia) (by decide +kernel) ?_
 exact .ret (.name .z) λ v s S hv=>hE _ _ (Ends.of ⟨rfl,rfl⟩ S (.refl _) hv)
noncomputable def attrOf (x:Str):Str:=rep1 "\r" "&#xD;" (rep1 "\n" "&#xA;" (rep1 "\t" "&#x9;" (rep1 "\"" "&quot;" (rep1 "<" "&lt;" (rep1 "&" "&amp;" x)))))
theorem attrib_calls (T:Top B) {x:Str} (hz:x.length≤10):Pure B 1 (.ref (T.fA 9)) [.str x] [] (.str (attrOf x)):=by
 have h1:=Zeb (y := "&") (z := "&amp;") hz (show ("&amp;" : Str).length≤5 by decide +kernel)
 have h2:=Zeb (y := "<") (z := "&lt;") h1 (show ("&lt;" : Str).length≤4 by decide +kernel)
 have h3:=Zeb (y:="\"") (z := "&quot;") h2 (show ("&quot;" : Str).length≤6 by decide +kernel)
 have h4:=Zeb (y:="\t") (z := "&#x9;") h3 (show ("&#x9;" : Str).length≤5 by decide +kernel)
 have h5:=Zeb (y:="\n") (z := "&#xA;") h4 (show ("&#xA;" : Str).length≤5 by decide +kernel)
 refine .def1 (T.gn (i:=9) (by kernel_rfl)).2 "text" [] [] (λ _=>[]) λ C I hn=>?_
 refine Run.kabs λ K hE=>?_
 refine .try_ ?_
 refine .ifReplace .z .z (by kernel_rfl) (by exact Wn [_] (.v 0) (.n 1048576) [(1,.v 0,.n 10)] rfl hz) (by decide +kernel) ?_
 refine .ifReplace .z .z (by kernel_rfl) (show (rep1 "&" "&amp;" x).length≤_ by exact Wn [_] (.v 0) (.n 1048576) [(1,.v 0,.a (.n 10) (.r (.a (.n 10) (.n 1)) 5))] rfl h1) (by decide +kernel) ?_
 refine .ifReplace .z .z (by kernel_rfl) (show (rep1 "<" "&lt;" (rep1 "&" "&amp;" x)).length≤_ by exact Wn [_] (.v 0) (.n 1048576) [(1,.v 0,.a (.a (.n 10) (.r (.a (.n 10) (.n 1)) 5)) (.r (.a (.a (.n 10) (.r (.a (.n 10) (.n 1)) 5)) (.n 1)) 4))] rfl h2) (by decide +kernel) ?_
 refine .ifReplace .z .z (by kernel_rfl) (show (rep1 "\"" "&quot;" (rep1 "<" "&lt;" (rep1 "&" "&amp;" x))).length≤_ by lia) (by decide +kernel) ?_
 refine .ifReplace .z .z (by kernel_rfl) (show (rep1 "\t" "&#x9;" (rep1 "\"" "&quot;" (rep1 "<" "&lt;" (rep1 "&" "&amp;" x)))).length≤_ by lia) (by decide +kernel) ?_
 refine .ifReplace .z .z (by kernel_rfl) (show (rep1 "\n" "&#xA;" (rep1 "\t" "&#x9;" (rep1 "\"" "&quot;" (rep1 "<" "&lt;" (rep1 "&" "&amp;" x))))).length≤_ by lia) (by decide +kernel) ?_
 exact .ret (.name .z) λ v s S hv=>hE _ _ (Ends.of ⟨rfl,rfl⟩ S (.refl _) hv)
theorem attr_lt:attrOf "<" = "&lt;" := by decide +kernel
end
section
open PySem PySem.Builtin PySem.W PySem.Calls PyProof.Rows
set_option maxRecDepth 100000
set_option maxHeartbeats 2000000
theorem md_get:typeLookup (.type "method_descriptor") "__get__" = pure (some (.builtin "method_descriptor.__get__")):=by rw [typeLookup_type,builtinLookup_eq_fast]; kernel_rfl
theorem md_set:typeLookup (.type "method_descriptor") "__set__" = pure none:=by rw [typeLookup_type,builtinLookup_eq_fast]; kernel_rfl
theorem md_delete:typeLookup (.type "method_descriptor") "__delete__" = pure none:=by rw [typeLookup_type,builtinLookup_eq_fast]; kernel_rfl
theorem md_entry:entryFor table "method_descriptor.__get__" = some Builtin.«method_descriptor.__get__»:=entryFor_of_tree (by kernel_rfl)
theorem Zkt (s:Shared):s.TypeIs (.builtin "list.append") "method_descriptor" := by
 exact F.type_list_append
theorem slot_md_get:Slot "method_descriptor" "__get__" "method_descriptor.__get__" :=
 .of (owner := "method_descriptor") (n := "__get__") md_get (by decide +kernel) (by decide +kernel) (by decide +kernel)
  (by first | exact .inl (by decide +kernel) | exact .inr (by decide +kernel)) (by rw [isSubtype_type]; kernel_rfl)
theorem args_md_get (a b c:Value):argsOk "method_descriptor.__get__" ⟨[a,b,c],[]⟩:=by unfold argsOk; kernel_rfl
theorem Ziq:isSubtype (.type "list") (.type "list")=pure true:=by rw [isSubtype_type]; kernel_rfl
theorem la_kind:builtinKind "list.append" = some .method:=by decide +kernel
theorem la_get (prog:Program) (w:World) (A:Around) (E:Value→Shared→Prop) (s:Shared) (Q:Option Value→Shared→Prop) (h:Q (some (.builtin "method_descriptor.__get__")) s):wpAny (model prog w) A (specialOf (.builtin "list.append") "__get__") Q E s:=
 wpAny_specialOf (Zkt s) md_get h
theorem la_set (prog:Program) (w:World) (A:Around) (E:Value→Shared→Prop) (s:Shared) (Q:Option Value→Shared→Prop) (h:Q none s):wpAny (model prog w) A (specialOf (.builtin "list.append") "__set__") Q E s:=
 wpAny_specialOf (Zkt s) md_set h
theorem la_del (prog:Program) (w:World) (A:Around) (E:Value→Shared→Prop) (s:Shared) (Q:Option Value→Shared→Prop) (h:Q none s):wpAny (model prog w) A (specialOf (.builtin "list.append") "__delete__") Q E s:=
 wpAny_specialOf (Zkt s) md_delete h
theorem find_append {prog:Program} {w:World} {A:Around} {E:Value→Shared→Prop} {l:Addr} {items:Array Value} {n:Nat} {hp:Heap} {g:Array GenState} {d:Drawn} {tk:Nat} {os:OsState} {Q:ObjectAttr.Found→Shared→Prop}
  (e:hp.get? l=some { cls:=.type "list",dict:=none,data:=.seq items n,slots:=#[] }) (h:Q (.bind (.builtin "method_descriptor.__get__") (.builtin "list.append")) ⟨hp,g,d,tk,os⟩) :
  wpAny (model prog w) A (ObjectAttr.find (.ref l) (.type "list") "append") Q E ⟨hp,g,d,tk,os⟩:=by
 have hT:(⟨hp,g,d,tk,os⟩:Shared).TypeIs (.ref l) "list" := ⟨_,e,rfl⟩
 unfold ObjectAttr.find
 refine wpAny_bind (wpAny_of_eq F.slot_list_append.lookup ?_)
 refine wpAny_bind (la_get _ _ _ _ _ _ ?_)
 refine wpAny_bind ?_
 show wpAny _ _ (ObjectAttr.takesStores (.builtin "list.append") >>= _) _ _ _
 refine wpAny_bind ?_
 unfold ObjectAttr.takesStores
 refine wpAny_bind (la_set _ _ _ _ _ _ ?_)
 show wpAny _ _ (specialOf (.builtin "list.append") "__delete__" >>= _) _ _ _
 refine wpAny_bind (la_del _ _ _ _ _ _ (wpAny_pure ?_))
 show wpAny _ _ (pure none) _ _ _
 refine wpAny_pure ?_
 show wpAny _ _ (ObjectAttr.ownThenClass _ _ _ _) _ _ _
 unfold ObjectAttr.ownThenClass
 repeat (any_goals (first | assumption | wp_step))
theorem ga_append {prog:Program} {w:World} {A:Around} {E:Value→Shared→Prop} {l:Addr} {items:Array Value} {n:Nat} {hp:Heap} {g:Array GenState} {d:Drawn} {tk:Nat} {os:OsState} {u:Tok} {Q:Fin→Shared→Prop}
  (e:hp.get? l=some { cls:=.type "list",dict:=none,data:=.seq items n,slots:=#[] })
  (h:∀ k,Q (.done (.ret (.ref hp.objs.size))) ⟨hp.push { cls:=.type "builtin_function_or_method",data:=.fields #[.builtin "list.append",.ref l] },g,d,k,os⟩) :
  wpAny (model prog w) A (Builtin.«object.__getattribute__» ⟨[.ref l,.str "append" u],[]⟩) Q E ⟨hp,g,d,tk,os⟩:=by
 have hT:(⟨hp,g,d,tk,os⟩:Shared).TypeIs (.ref l) "list" := ⟨_,e,rfl⟩
 unfold Builtin.«object.__getattribute__»
 repeat (any_goals (first | assumption | (with_reducible refine find_append e ?_) | wp_step))
 refine codeAny_call_builtin slot_md_get.plain md_entry (slot_md_get.check _ _ _ _ _ _ _ _ (Zkt _) (args_md_get _ _ _) ?_)
 have f6:=Ziq
 unfold Builtin.«method_descriptor.__get__»
 repeat (any_goals (first | assumption | wp_step))
 rw [show ".".intercalate ("list.append".cutAt '.').dropLast = "list" by decide +kernel]
 refine wpAny_of_eq f6 ?_
 refine wpAny_pure ?_
 refine wpAny_bind (wpAny_newObj_type (wpAny_pure ?_))
 refine wpAny_pure ?_
 exact h tk
theorem Ziu {prog:Program} {w:World} {A:Around} {E:Value→Shared→Prop} {l:Addr} {items:Array Value} {n:Nat} {s:Shared} {Q:Value→Shared→Prop}
  (e:s.heap.get? l=some { cls:=.type "list",dict:=none,data:=.seq items n,slots:=#[] })
  (h:∀ k,Q (.ref s.heap.objs.size) { s with heap:=s.heap.push { cls:=.type "builtin_function_or_method",data:=.fields #[.builtin "list.append",.ref l] },toks:=k }) :
  wpAny (model prog w) A (getAttr (.ref l) "append" true) Q E s:=by
 obtain ⟨hp,g,d,tk,os⟩:=s
 have hT:∀ tk',(⟨hp,g,d,tk',os⟩:Shared).TypeIs (.ref l) "list" := λ _=>⟨_,e,rfl⟩
 have f3:=F.slot_list_getattribute.lookup
 have f4:=F.slot_list_getattribute.bind (.ref l)
 have f5:=am_list_getattr_none
 unfold getAttr getAttrBy
 repeat (any_goals (first | assumption | exact hT _ | ((with_reducible show wpAny _ _ (call (Value.builtin "list.__getattribute__") _ _) _ _ _); refine wpAny_call (codeAny_call_builtin F.slot_list_getattribute.plain am_entry_list_getattribute (F.slot_list_getattribute.check _ _ _ _ _ _ _ _ (hT _) (F.args_list_getattribute_2 _ _) (ga_append e λ k=>?_)))) | wp_step))
 exact h k
theorem Zhn:isSubtype (.type "list") (.type "module")=pure false:=by rw [isSubtype_type]; kernel_rfl
theorem Zka:isSubtype (.type "list") (.type "type")=pure false:=by rw [isSubtype_type]; kernel_rfl
theorem bound_args (a b:Value):(match Manifest.signature? "list.append" with | some sig=>Bind.checkArgs "list.append" { sig with full:=s!"{Bind.lastOf "list"}.{Bind.lastOf "list.append"}" } ⟨[a,b],[]⟩ | none=>pure ())=pure ():=by
 rw [signature?_of (id := "list.append") (n:=['d','n','e','p','p','a']) (o:=['t','s','i','l']) (by kernel_rfl) F.owner_list]; kernel_rfl
theorem Zfs {prog:Program} {w:World} {A:Around} {E:Value→Shared→Prop} {l:Addr} {x:Value} {items:Array Value} {n:Nat} {s:Shared} {Q:Unit→Shared→Prop}
  (e:s.heap.get? l=some { cls:=.type "list",dict:=none,data:=.seq items n,slots:=#[] }) (h:Q () s):wpAny (model prog w) A (checkBoundCall "list.append" ⟨[.ref l,x],[]⟩) Q E s:=by
 have hT:s.TypeIs (.ref l) "list" := ⟨_,e,rfl⟩
 have f1:=Zhn
 have f2:=Zka
 unfold checkBoundCall
 cases hs:Manifest.signature? "list.append" with
 | none=>exact wpAny_pure h
 | some sig=>
  have key:=bound_args (.ref l) x
  rw [hs] at key
  dsimp only at key
  simp only [la_kind]
  repeat (any_goals (first | assumption | ((with_reducible show wpAny _ _ (Bind.checkArgs _ _ _) _ _ _); rw [key]; exact wpAny_pure h) | wp_step))
theorem Zdh {prog:Program} {w:World} {A:Around} {E:Value→Shared→Prop} {l m:Addr} {x:Value} {items:Array Value} {n:Nat} {s:Shared} {Q:Value→Shared→Prop} {ob:Obj}
  (hm:s.heap.get? m=some ob) (hc:ob.cls = .type "builtin_function_or_method") (hdt:ob.data = .fields #[.builtin "list.append",.ref l])
  (e:s.heap.get? l=some { cls:=.type "list",dict:=none,data:=.seq items n,slots:=#[] }) (hz:items.size≤sizeLine)
  (h:Q .none { s with heap:=s.heap.update l (Obj.mapSeq λ xs=>xs.push x) }) :
  wpAny (model prog w) A (PySem.call (.ref m) [x]) Q E s:=by
 refine wpAny_call (codeAny_of_tree ?_)
 show wpAny _ _ (callAny (.ref m) ⟨[x],[]⟩) _ _ _
 unfold callAny
 refine wpAny_bind (wpAny_load hm ?_)
 rw [hdt]
 dsimp only
 rw [hc]
 rw [if_pos (by kernel_rfl)]
 show wpAny _ _ (if (Value.type "builtin_function_or_method" != Value.type "method")=true then _ else _) _ _ _
 rw [if_pos (by kernel_rfl)]
 refine wpAny_bind (Zfs e ?_)
 refine wpAny_pure ⟨plainId_quiet F.slot_list_append.plain _,?_⟩
 have hsz:items.size≤sizeLine:=hz
 refine codeAny_builtin F.entry_list_append ?_
 rw [Around.under_plainId F.slot_list_append.plain _]
 exact AutoListH.list_append_list_val_0 l items n x hz prog w A (λ r s'=>match r with | .ok (.ret v)=>Q v s' | .ok _=>False | .error e=>E e s') s ⟨e,h⟩
end
section
set_option maxRecDepth 100000
set_option maxHeartbeats 1000000
variable {B:Bs} {C:Cx B} {σ σ':Loc} {O O':Led}
structure Zim (B:Bs) (K N:Addr) (mN:Str→Option Value):Prop where
 at_:∃ nm q bs sn sub col dd k0 k1 k2 k3 k5,∀ h,B.G h→h.get? K=some (excClassObj nm q K N bs [.type "object"] true sn sub false col dd k0 k1 k2 k3 k5 "object.__new__")
 ns:∀ h,B.G h→h.Ns N mN
 noGa:mN "__getattribute__" = none
 noGt:mN "__getattr__" = none
 noSa:mN "__setattr__" = none
 low:B.Old K
theorem led_one {O:Led} {a:Addr} {x y:Sh} (nd:(O.map (·.1)).Nodup) (hx:(a,x)∈O) (hy:(a,y)∈O):x=y:=by
 induction O with
 | nil=>cases hx
 | cons p O ih=>
  have n:=List.nodup_cons.mp nd
  rcases List.mem_cons.mp hx with e1 | h1
  ·rcases List.mem_cons.mp hy with e2 | h2
   ·exact (Prod.mk.inj (e1.trans e2.symm)).2
   ·rw [← e1] at n; exact absurd (Zat h2) n.1
  ·rcases List.mem_cons.mp hy with e2 | h2
   ·rw [← e2] at n; exact absurd (Zat h1) n.1
   ·exact ih n.2 h1 h2
inductive AAt:List (Str × D)→Str→D→Prop
 | z {n:Str} {d:D} {r:List (Str × D)}:AAt ((n,d)::r) n d
 | u {p:Str × D} {n:Str} {d:D} {r:List (Str × D)} (h:AAt r n d):AAt (p::r) n d
theorem AAt.get {h:Heap} {m:Str→Option Value} {es:List (Str × D)} {n:Str} {d:D} (a:AAt es n d) (x:AttrOk h m es):∃ v,m n=some v∧Val h v d:=by
 induction a with
 | z=>exact x.1
 | u _ ih=>exact ih x.2
inductive APut:List (Str × D)→Str→D→List (Str × D)→Prop
 | new {n:Str} {d:D}:APut [] n d [(n,d)]
 | z {n:Str} {d e:D} {r:List (Str × D)}:APut ((n,e)::r) n d ((n,d)::r)
 | u {p:Str × D} {n:Str} {d:D} {r r':List (Str × D)} (hne:p.1 ≠ n) (h:APut r n d r'):APut (p::r) n d (p::r')
theorem APut.names {es es':List (Str × D)} {n:Str} {d:D} (a:APut es n d es'):∀ x,x∈es'.map (·.1) ↔ x∈es.map (·.1)∨x=n:=by
 induction a with
 | new=>intro x; simp
 | @z n d e r=>intro x; simp only [List.map_cons,List.mem_cons]; constructor <;> intro h <;> (rcases h with h | h) <;> simp_all
 | u _ _ ih=>intro x; simp only [List.map_cons,List.mem_cons,ih]; constructor <;> intro h <;> simp_all [or_assoc]
theorem APut.nodup {es es':List (Str × D)} {n:Str} {d:D} (a:APut es n d es') (nd:(es.map (·.1)).Nodup):(es'.map (·.1)).Nodup:=by
 induction a with
 | new=>simp
 | z=>exact nd
 | u hne h ih=>
  rw [List.map_cons,List.nodup_cons] at nd ⊢
  refine ⟨λ hm=>?_,ih nd.2⟩
  rcases (h.names _).mp hm with q | q
  ·exact nd.1 q
  ·exact hne q
theorem AttrOk.other {h:Heap} {m:Str→Option Value} {n:Str} {v:Value}:∀ {es:List (Str × D)},n ∉ es.map (·.1)→AttrOk h m es→AttrOk h (λ y=>if y=n then some v else m y) es
 | [],_,_=>trivial
 | (x,d)::r,hn,⟨⟨u,e,hu⟩,y⟩=>by
  simp only [List.map_cons,List.mem_cons,not_or] at hn
  exact ⟨⟨u,(if_neg (Ne.symm hn.1)).trans e,hu⟩,AttrOk.other hn.2 y⟩
theorem APut.ok {h:Heap} {m:Str→Option Value} {es es':List (Str × D)} {n:Str} {d:D} {v:Value} (a:APut es n d es') (nd:(es.map (·.1)).Nodup) (x:AttrOk h m es) (hv:Val h v d):AttrOk h (λ y=>if y=n then some v else m y) es':=by
 induction a with
 | new=>exact ⟨⟨v,if_pos rfl,hv⟩,trivial⟩
 | z=>exact ⟨⟨v,if_pos rfl,hv⟩,x.2.other (List.nodup_cons.mp nd).1⟩
 | u hne h ih=>
  refine E02 x λ Y1 y=>?_
  try clear x
  refine E12 Y1 λ u e hu=>?_
  clear Y1
  exact ⟨⟨u,(if_neg hne).trans e,hu⟩,ih (List.nodup_cons.mp nd).2 y hv⟩
theorem St.inst {s:Shared} (S:St C σ O s) {x dx K:Addr} {es:List (Str × D)} (hx:OAt O x (.obj K dx)) (hd:OAt O dx (.attrs es)) :
  ∃ m,s.heap.Inst x K m∧Within m (es.map (·.1))∧(es.map (·.1)).Nodup∧AttrOk s.heap m es∧dx ≠ x∧∃ o,s.heap.get? x=some o∧o.dict=some dx:=by
 refine E14 (S.objs _ hx.mem) λ o ho hc hk hdt=>?_
 refine E14 (S.objs _ hd.mem) λ m hn hw nd hok=>?_
 have hne:dx ≠ x:=by
  rintro rfl
  have:=led_one S.ond hx.mem hd.mem
  cases this
 exact ⟨m,⟨o,ho,hc,hk,.inr ⟨dx,hdt,hne,hn⟩⟩,hw,nd,hok,hne,o,ho,hdt⟩
noncomputable def D.noB:D→Bool
 | .val (.builtin _)=>false
 | _=>true
theorem handed {h:Heap} {v:Value} {d:D} (hv:Val h v d) (hd:d.noB=true):handedOut v=pure v:=by
 cases v with
 | builtin id=>
  cases d with
  | val w=>have hh:Value.builtin id=w:=hv; subst hh; cases hd
  | int i=>refine E11 hv λ t q=>?_; try clear hv; cases q
  | str i=>refine E11 hv λ t q=>?_; try clear hv; cases q
  | bytes i=>refine E11 hv λ t q=>?_; try clear hv; cases q
  | tup l=>refine E22 hv λ a vs q _=>?_; try clear hv; cases q
 | _=>rfl
theorem Ev.attr {oe:Expr} {n:Str} {pos:Pos} {x dx K N:Addr} {mN:Str→Option Value} {es:List (Str × D)} {d:D} (c:Zim B K N mN) (ho:Ev C σ O oe (.ref x)) (hx:OAt O x (.obj K dx)) (hd:OAt O dx (.attrs es)) (ha:AAt es n d) (hq:d.noB=true)
  (hn:mN n=Option.none) (hB:typeLookup (.type "object") n=pure Option.none)
  (he:autoParam (eval (.Attribute oe n pos) C.env=(do
   let o ← eval oe C.env
   standAt pos.atName
   let r ← holding [o] (getAttr o n true)
   letTemporaryGo oe o r
   pure r)) tW):Ev C σ O (.Attribute oe n pos) d:=λ s S Q hQ=>by
 refine Attribute_any_ (ho s S _ λ v s₁ t₁ S₁ hv=>?_) he
 have hh:v = .ref x:=hv; subst hh
 refine E16 (S₁.inst hx hd) λ m I hw nd hok hne _=>?_
 refine E12 (ha.get hok) λ u e hu=>?_
 obtain ⟨nm,q,bs,sn,sub,col,dd,k0,k1,k2,k3,k5,hK⟩:=c.at_
 obtain ⟨hp,g,dr,tk,os⟩:=s₁
 refine load_attr (hK _ S₁.top) (c.ns _ S₁.top) c.noGa hn hB I e (handed hu hq) ?_
 exact hQ _ _ t₁ S₁.tok hu
theorem St.put2 {s s':Shared} (S:St C σ O s) {a b:Addr} {sh:Sh} (ha:∃ sh₀,(a,sh₀)∈O∧ShAt B s'.heap a sh₀) (h:OPut O b sh O') (x:Eff [a,b] s s') (hb:ShAt B s'.heap b sh):St C σ O' s':=by
 refine E12 ha λ sha ma ata=>?_
 try clear ha
 obtain ⟨shb,mb⟩:=h.at
 refine ⟨B.stable _ _ S.top λ c o hc e=>x.keep c o (λ q=>?_) e,S.names,?_,λ p hp=>?_,by rw [h.fst]; exact S.ond,λ p hp=>?_,λ p hp=>?_,?_⟩
 ·rcases List.mem_cons.mp q with rfl | q
  ·exact S.low ma hc
  ·rw [List.mem_singleton.mp q] at hc; exact S.low mb hc
 ·obtain ⟨m,⟨o,es,ep,e,r⟩,hm⟩:=S.loc
  refine ⟨m,⟨o,es,ep,x.keep _ o (λ q=>?_) e,r⟩,λ y d hy=>?_⟩
  ·rcases List.mem_cons.mp q with q | q
   ·exact S.ol _ ma q.symm
   ·exact S.ol _ mb (List.mem_singleton.mp q).symm
  ·refine E12 (hm y d hy) λ v a b=>?_
   exact ⟨v,a,b.tk x.tk⟩
 ·rcases h.mem S.ond p hp with rfl | ⟨hp,ne⟩
  ·exact hb
  ·by_cases e:p.1=a
   ·obtain ⟨p1,p2⟩:=p
    simp only at e
    subst e
    rw [led_one S.ond hp ma]; exact ata
   ·exact ShAt.keep (λ o q=>x.keep _ o (by simp [e,ne]) q) x.tk (S.objs p hp)
 ·rcases h.mem S.ond p hp with rfl | ⟨hp,ne⟩
  ·exact S.ol (b,shb) mb
  ·exact S.ol p hp
 ·rcases h.mem S.ond p hp with rfl | ⟨hp,ne⟩
  ·exact S.own (b,shb) mb
  ·exact S.own p hp
 ·refine ⟨λ p o n e=>x.keep p o (λ q=>?_) (S.eff.keep p o n e),S.eff.tk.trans x.tk,x.os.trans S.eff.os,S.eff.gens.trans x.gens⟩
  have:∀ {c shc},(c,shc)∈O→p=c→False:=λ hm q=>by
   subst q
   rcases S.own _ hm with z | z
   ·exact Nat.lt_irrefl _ (Nat.lt_of_lt_of_le (Heap.lt_size e) z)
   ·exact n z
  rcases List.mem_cons.mp q with q | q
  ·exact this ma q
  ·exact this mb (List.mem_singleton.mp q)
inductive ThenA (C:Cx B) (σ : Loc) (O:Led) (oe:Expr) (x K:Addr) (n:Str) (d:D) (rest:List Stmt) (K':Flow→Shared→Prop):Prop
 | mk (ho:Ev C σ O oe (.ref x)) (dx:Addr) (es es':List (Str × D)) (O₂:Led) (hx:OAt O x (.obj K dx)) (hd:OAt O dx (.attrs es)) (hz:es.length≤sizeLine) (ha:APut es n d es') (hp:OPut O dx (.attrs es') O₂) (hr:Run C σ O₂ rest K')
theorem Run.setAttrX {oe e:Expr} {n:Str} {ap pos:Pos} {rest:List Stmt} {x K N:Addr} {mN:Str→Option Value} {P:D→Led→Prop} {K':Flow→Shared→Prop} (c:Zim B K N mN) (he:EvX C σ O e P)
  (hn:mN n=Option.none) (hB:typeLookup (.type "object") n=pure Option.none)
  (h:∀ d O₁,P d O₁→ThenA C σ O₁ oe x K n d rest K')
  (hs:autoParam (swapsWith e (some (.Attribute oe n ap)) pos.line C.env=pure false) tR):Run C σ O (.Assign [.Attribute oe n ap] e pos::rest) K':=Run.cons λ s S=>by
 refine plainObj_wpAny_Assign_Attribute (he s S _ λ v s₁ d O₁ p t₁ S₁ hv=>?_) hs
 obtain ⟨ho,dx,es,es',O₂,hx,hd,hz,ap',hput,hr⟩:=h d O₁ p
 refine ho s₁ S₁ _ λ w s₂ t₂ S₂ hw=>?_
 have hh:w = .ref x:=hw; subst hh
 have hv₂:=hv.tk t₂
 refine E16 (S₂.inst hx hd) λ m I hwi nd hok hne Y1=>?_
 refine E12 Y1 λ o hox hodx=>?_
 clear Y1
 obtain ⟨nm,q,bs,sn,sub,col,dd,k0,k1,k2,k3,k5,hK⟩:=c.at_
 have hxK:x ≠ K:=λ q=>by
  have:=S₂.low hx.mem
  rw [q] at this
  exact this c.low
 have hT:=λ vs=>ShAt.noTup (S₂.objs _ hx.mem) vs
 have hTd:=λ vs=>ShAt.noTup (S₂.objs _ hd.mem) vs
 obtain ⟨hp,g,dr,tk,os⟩:=s₂
 refine store_attr (ns:=es.map (·.1)) F.store_object (hK _ S₂.top) (c.ns _ S₂.top) c.noSa hn hB hxK I (λ h' tk' I' hk hsame=>?_) hwi (by rw [List.length_map]; exact hz)
 have X:Eff [x,dx] (⟨hp,g,dr,tk,os⟩:Shared) ⟨h',g,dr,tk',os⟩:=.but2 (λ c o c1 c2 e=>hk c o c1 (λ o₀ dx' e1 e2=>by
  rw [hox] at e1; cases e1
  rw [hodx] at e2; cases e2
  exact c2) e) hT hTd
 refine E15 (hsame o hox) λ o₁ hx₁ hc₁ hd₁ _ hdd=>?_
 refine E14 (S₂.objs _ hx.mem) λ o' ho' hcl hkd hdct=>?_
 have eo:o=o':=by
  have:=hox.symm.trans ho'
  exact Option.some.inj this
 subst eo
 refine hr _ (S₂.put2 ⟨_,hx.mem,o₁,hx₁,by rw [hc₁]; exact hcl,λ k=>by rw [hd₁]; exact hkd k,hdd dx hodx⟩ hput X ?_)
 refine E14 I' λ o₂ hx₂ _ _ hd₂=>?_
 try clear I'
 rw [hx₁] at hx₂
 cases hx₂
 rcases hd₂ with ⟨hno,_⟩ | ⟨dx',hdx',_,hns⟩
 ·rw [hdd dx hodx] at hno; cases hno
 ·rw [hdd dx hodx] at hdx'
  cases hdx'
  refine ⟨_,hns,λ y hy=>?_,ap'.nodup nd,ap'.ok nd (hok.tk X.tk) (hv₂.tk X.tk)⟩
  rw [ap'.names]
  by_cases e:y=n
  ·exact .inr e
  ·exact .inl (hwi y (by simpa [e] using hy))
theorem Run.setAttr0 {oe e:Expr} {n:Str} {ap pos:Pos} {rest:List Stmt} {x K N:Addr} {mN:Str→Option Value} {K':Flow→Shared→Prop} (c:Zim B K N mN) {d:D} (he:Ev C σ O e d)
  (hn:mN n=Option.none) (hB:typeLookup (.type "object") n=pure Option.none) (h:ThenA C σ O oe x K n d rest K') (hs:autoParam (swapsWith e (some (.Attribute oe n ap)) pos.line C.env=pure false) tR):Run C σ O (.Assign [.Attribute oe n ap] e pos::rest) K':=.setAttrX c he.toX hn hB (ex0 h) hs
theorem Run.setAttr1 {oe e:Expr} {n:Str} {ap pos:Pos} {rest:List Stmt} {x K N:Addr} {mN:Str→Option Value} {K':Flow→Shared→Prop} (c:Zim B K N mN) {α : Type} {f : α→D} {g : α→Led} (he:EvX C σ O e λ d O'=>∃ a,d=f a∧O'=g a)
  (hn:mN n=Option.none) (hB:typeLookup (.type "object") n=pure Option.none) (h:∀ a,ThenA C σ (g a) oe x K n (f a) rest K') (hs:autoParam (swapsWith e (some (.Attribute oe n ap)) pos.line C.env=pure false) tR):Run C σ O (.Assign [.Attribute oe n ap] e pos::rest) K':=.setAttrX c he hn hB (ex1 h) hs
def Zix (B:Bs) (f:Addr):Prop:=∃ o fd,o.data = .func fd∧o.cls = .type "function" ∧ ∀ h,B.G h→h.get? f=some o
theorem EvX.methP {oe:Expr} {name:Str} {apos pos:Pos} {args:List Expr} {ds:List D} {n:Nat} {U R:Led} {P:D→Led→Prop} {x dx K N f:Addr} {mN:Str→Option Value} {es:List (Str × D)} (c:Zim B K N mN) (ho:Ev C σ O oe (.ref x))
  (hx:OAt O x (.obj K dx)) (hd:OAt O dx (.attrs es)) (hsh:name ∉ es.map (·.1)) (hf:mN name=some (.ref f)) (hfun:Zix B f) {y:Option Value} (hB:typeLookup (.type "object") name=pure y) (ha:EvL C σ O args ds)
  (hc:Calls B n (.ref f) (.ref x::ds) U P) (hn:n≤C.n) (hp:(U++R).Perm O)
  (hline:autoParam ((apos.endLine==pos.line)=true) tR) (hs:autoParam (Zac args=true) tR)
  (hbase:autoParam (attributeBase oe name C.env (eval oe C.env)=eval oe C.env) tR)
  (hfew:autoParam (((backTo pos (starEach args C.env)).all (λ x=>!x.1)&&(backToKw pos (keywordEach [] C.env)).all (λ x=>x.1.isSome)
   && decide (args.length+([]:List Keyword).length+(if ([]:List Keyword).isEmpty then 0 else 1) < 30))=true) tR) :
  EvX C σ O (.Call (.Attribute oe name apos) args [] pos) λ d O'=>∃ U',P d U'∧O'=U'++R:=λ s S Q hQ=>by
 rw [arm_eval_Call,hbase]
 refine wpAny_bind (ho s S _ λ v s₁ t₁ S₁ hv=>?_)
 have hh:v = .ref x:=hv; subst hh
 refine wpAny_bind (wpAny_standAt ?_)
 have hform:methodCallForm (args.length+([]:List Keyword).length) (backTo pos (starEach args C.env)) (backToKw pos (keywordEach [] C.env))=true:=hfew
 have hpos:methodCallPos true oe C.env apos pos=pure pos:=by unfold methodCallPos; simp [hline]
 unfold methodCall
 rw [hform]
 refine E16 (S₁.inst hx hd) λ m I hw nd hok hne _=>?_
 obtain ⟨nm,q,bs,sn,sub,col,dd,k0,k1,k2,k3,k5,hK⟩:=c.at_
 refine E23 hfun λ of fd hdat hcls hfo=>?_
 try clear hfun
 have hmn:m name=none:=by
  cases e:m name with
  | none=>rfl
  | some v=>exact absurd (hw name (by rw [e]; exact λ q=>nomatch q)) hsh
 have hN:=c.ns _ S₁.top
 have hKt:=hK _ S₁.top
 have hft:=hfo _ S₁.top
 refine wpAny_bind (wpAny_holding ?_)
 have go:C.wp (callWith pos (.ref f) [.ref x] (backTo pos (starEach args C.env)) (backToKw pos (keywordEach [] C.env))) Q s₁:=by
  refine callWith_function (o:=of) (fd:=fd) (Zbh hs (ha.args hs s₁ S₁ _ λ vs s₂ t₂ S₂ hvs=>⟨⟨hfo _ S₂.top,hdat⟩,?_⟩))
  have ndp:((U++R).map (·.1)).Nodup:=(hp.map _).nodup_iff.mpr S₂.ond
  rw [List.map_append,List.nodup_append] at ndp
  refine hc C.A s₂ (.ref x::vs) Q (C.room.le hn) S₂.top (Nat.le_trans C.low S₂.bsize) (λ p h=>S₂.objs p (hp.mem_iff.mp (List.mem_append_left _ h))) ndp.1 (λ p h=>S₂.low (hp.mem_iff.mp (List.mem_append_left _ h))) (.cons rfl hvs) λ v s₃ d U' p X h nU fr hv=>?_
  exact hQ v s₃ d _ ⟨U',p,rfl⟩ ((t₁.trans t₂).trans X.tk) (S₂.called (λ p h=>hp.mem_iff.mp (List.mem_append_left _ h)) (λ p h=>⟨hp.mem_iff.mp (List.mem_append_right _ h),λ q=>ndp.2.2 _ q _ (Zat h) rfl⟩) ndp.2.1 X h nU fr) hv
 obtain ⟨hpp,g,dr,tk,os⟩:=s₁
 refine method_of hKt hN c.noGa c.noGt hf hft hcls hB I hmn ?_
 exact wpAny_bind (wpAny_of_eq hpos go)
end
section
open PySem PySem.Builtin PySem.W PySem.Calls PyProof.Rows
set_option maxRecDepth 100000
set_option maxHeartbeats 2000000
section
variable {M:Model} {A:Around} {R:GenEnd} {Y:Protocol} {n:Nat} {s₀:Shared} {c:Code} {fs:List Frame} {s:Shared} {env:Env}
 {K:Flow→Sem Fin} {H:Value→Sem Fin}
noncomputable def backOf (K:Flow→Sem Fin) (H:Value→Sem Fin) (env:Env):Result→Sem Fin:=λ r=>
 ((match r with | .ok f=>(.pure f:Sem Flow) | .error e=>.raise e).onRaise λ (x:Value)=>do
  if (← field x 1)==Value.none then unsupported "frame.own-activation:exception-without-traceback"
  setFlight x env.frame).wrap K H id id
theorem seg_For {target iter:Expr} {body orelse:List Stmt} {pos:Pos}
  (h:wpAny M (A.over c fs) (eval iter env) (λ x s₁=>wpAny M (A.over c fs) (pyIter x) (λ it s₂=>
   ∀ p,Seg M A R Y n s₀ (.forLoop target it body orelse env) (M.den (.forLoop target it body orelse env)) (.ret (backOf K H env) none false [] c p []::fs) s₂) F0 s₁) F0 s)
  (hs:autoParam (∀ x,foldedSetIterable iter env x=pure x) tI) :
  Seg M A R Y n s₀ c ((exec (.For target iter body orelse pos) env).wrap K H id id) fs s:=by
 rw [exec_For]
 show Seg M A R Y n s₀ c (.at pos λ _=>(eval iter env >>= λ x=>foldedSetIterable iter env x >>= λ x=>standAt iter.pos >>= λ _=>holding [x] (pyIter x) >>= λ it=>runOwn (.forLoop target it body orelse env) env).wrap K H id id) fs s
 refine seg_at ?_
 rw [Sem.bind_eq_wrap',Sem.wrap_wrap]
 refine seg_wrap (wpAny_mono h (λ x s₁ h₁=>?_) λ _ _ x=>x.elim)
 rw [hs x]
 show Seg M A R Y n s₀ c (.at iter.pos λ _=>(holding [x] (pyIter x) >>= λ it=>runOwn (.forLoop target it body orelse env) env).wrap K H id id) fs s₁
 refine seg_at ?_
 rw [Sem.bind_eq_wrap',Sem.wrap_wrap]
 refine seg_wrap (wpAny_holding (wpAny_mono h₁ (λ it s₂ h₂=>?_) λ _ _ x=>x.elim))
 exact seg_call h₂
noncomputable def loopK (target:Expr) (it:Value) (body orelse:List Stmt) (env:Env):Flow→Sem Fin
 | .next | .cont=>.pure (.again (.forLoop target it body orelse env))
 | .brk=>.pure (.done .next)
 | .ret v=>.pure (.done (.ret v))
noncomputable def loopH (env:Env):Value→Sem Fin:=λ e=>(do noteFrame e env; theTreesLotGoes e:Sem Unit).wrap (λ _=>.raise e) .raise id id
end
section
variable {prog:Program} {w:World} {A:Around} {R:GenEnd} {Y:Protocol} {n:Nat} {s₀:Shared} {c:Code} {fs:List Frame} {s:Shared} {env:Env}
 {K:Flow→Sem Fin} {H:Value→Sem Fin}
theorem Zew {target:Expr} {it:Value} {body:List Stmt}
  (h:wpAny (model prog w) (A.over (.forLoop target it body [] env) fs) (pyNext it) (λ r s₁=>match r with
   | none=>Seg (model prog w) A R Y n s₀ (.block [] env) (.pure (.done .next)) fs s₁
   | some v=>wpAny (model prog w) (A.over (.forLoop target it body [] env) fs) (letOwnedTupleGo target it v) (λ _ s₂=>
     wpAny (model prog w) (A.over (.forLoop target it body [] env) fs) (assign target env v) (λ _ s₃=>
      Seg (model prog w) A R Y n s₀ (.forLoop target it body [] env) ((execs body env).wrap (loopK target it body [] env) (loopH env) id id) fs s₃) F0 s₂) F0 s₁) F0 s) :
  Seg (model prog w) A R Y n s₀ (.forLoop target it body [] env) ((model prog w).den (.forLoop target it body [] env)) fs s:=by
 show Seg _ A R Y n s₀ _ ((forTurn target it body [] env).onRaise (λ x=>do noteFrame x env; theTreesLotGoes x)) fs s
 unfold forTurn
 rw [Sem.onRaise_eq_wrap,Sem.bind_eq_wrap',Sem.wrap_wrap]
 refine seg_wrap (wpAny_standAt ?_)
 rw [Sem.bind_eq_wrap',Sem.wrap_wrap]
 refine seg_wrap (wpAny_onRaise (wpAny_mono h (λ r s₁ h₁=>?_) λ _ _ x=>x.elim))
 cases r with
 | none=>
  refine seg_again rfl ?_
  exact h₁
 | some v=>
  show Seg _ A R Y n s₀ _ ((letOwnedTupleGo target it v >>= λ _=>(assign target env v >>= λ _=>(execs body env >>= λ f=>match f with
    | .next | .cont=>PySem.again (.forLoop target it body [] env)
    | .brk=>pure (.done .next)
    | .ret v=>pure (.done (.ret v))))).wrap _ _ _ _) fs s₁
  rw [Sem.bind_eq_wrap',Sem.wrap_wrap]
  refine seg_wrap (wpAny_mono h₁ (λ _ s₂ h₂=>?_) λ _ _ x=>x.elim)
  rw [Sem.bind_eq_wrap',Sem.wrap_wrap]
  refine seg_wrap (wpAny_mono h₂ (λ _ s₃ h₃=>?_) λ _ _ x=>x.elim)
  rw [Sem.bind_eq_wrap',Sem.wrap_wrap]
  rw [Sem.wrap_congr (execs body env) _ _ (K':=loopK target it body [] env) (H':=loopH env) (λ f=>by cases f <;> rfl)
   (λ e=>by show (do noteFrame e env; theTreesLotGoes e:Sem Unit).bind (λ _=>.raise e)=_; rw [Sem.bind_eq_wrap]; rfl)]
  exact h₃
theorem seg_If {t:Expr} {x y:List Stmt} {pos:Pos} {gd:Bool→Bool} {lv:List Value→List Value}
  (h:wpAny (model prog w) (A.over c fs) (isTrue t env (eval t env)) (λ b s₁=>Seg (model prog w) A R Y n s₀ c ((if b=true then execs x env else execs y env).wrap K H gd lv) fs s₁) F0 s) :
  Seg (model prog w) A R Y n s₀ c ((exec (.If t x y pos) env).wrap K H gd lv) fs s:=by
 rw [exec_If]
 show Seg _ A R Y n s₀ c (.at pos λ _=>(isTrue t env (eval t env) >>= λ b=>if b=true then execs x env else execs y env).wrap K H gd lv) fs s
 refine seg_at ?_
 rw [Sem.bind_eq_wrap',Sem.wrap_wrap]
 exact seg_wrap (wpAny_mono h (λ b s₁ h₁=>h₁) λ _ _ x=>x.elim)
end
section
variable {prog:Program} {w:World} {A:Around} {R:GenEnd} {Y:Protocol} {n:Nat} {s₀:Shared} {c:Code} {fs:List Frame} {s:Shared} {env:Env}
 {K:Flow→Sem Fin} {H:Value→Sem Fin}
noncomputable abbrev Zdf (it:Value):Code:=.builtin "proto.yield_from" ⟨[it,.bool false,.none],[]⟩
noncomputable def yfBack (K:Flow→Sem Fin) (H:Value→Sem Fin) (e:Expr) (pos:Pos):Result→Sem Fin:=λ r=>
 Sem.wrap (λ v=>(dropValue e pos v).wrap K H id id) (λ x=>H x) id id
  (Sem.bind (match r with | .ok f=>(.pure f:Sem Flow) | .error e=>.raise e) λ f=>match f with | .ret v=>(pure v:Sem Value) | _=>unsupported "internal:call-without-return-value")
theorem Ziw (e:Expr) (p:Pos) (env:Env):eval (.YieldFrom e p) env=(do let v ← eval e env; standAt p; yieldFrom env v):=rfl
theorem Zkd {e:Expr} {ypos pos:Pos}
  (h:wpAny (model prog w) (A.over c fs) (eval e env) (λ v s₁=>∃ a o,v = .ref a∧s₁.heap.get? a=some o∧o.cls ≠ .type "coroutine" ∧ wpAny (model prog w) (A.over c fs) (pyIter v) (λ it s₃=>
   ∀ p,Seg (model prog w) A R Y n s₀ (Zdf it) ((model prog w).den (Zdf it)) (.ret (yfBack K H (.YieldFrom e ypos) pos) none false [] c p []::fs) s₃) F0 s₁) F0 s)
  (hi:autoParam (interactive env=false) tR):Seg (model prog w) A R Y n s₀ c ((exec (.Expr (.YieldFrom e ypos) pos) env).wrap K H id id) fs s:=by
 rw [exec_Expr env _ pos hi rfl,Ziw]
 refine seg_at ?_
 show Seg _ A R Y n s₀ c (((eval e env >>= λ v=>(standAt ypos >>= λ _=>yieldFrom env v)) >>= λ v=>dropValue (.YieldFrom e ypos) pos v).wrap K H id id) fs s
 rw [Sem.bind_eq_wrap',Sem.bind_eq_wrap',Sem.wrap_wrap,Sem.wrap_wrap]
 refine seg_wrap (wpAny_mono h (λ v s₁ h₁=>?_) λ _ _ x=>x.elim)
 have Y2:=h₁
 try clear h₁
 refine E24 Y2 λ a o Y1 ho hc h₁=>?_
 clear Y2
 subst Y1
 refine seg_at ?_
 show Seg _ A R Y n s₀ c (Sem.wrap _ _ _ _ (typeOf (.ref a) >>= λ t=>if (t == .type "coroutine")=true then _ else (holding [.ref a] (pyIter (.ref a)) >>= λ it=>runValue (Zdf it)))) fs s₁
 rw [Sem.bind_eq_wrap',Sem.wrap_wrap]
 refine seg_wrap (wpAny_typeOf_ref ho ?_)
 rw [if_neg (by simpa using hc)]
 rw [Sem.bind_eq_wrap',Sem.wrap_wrap]
 refine seg_wrap (wpAny_holding (wpAny_mono h₁ (λ it s₃ h₃=>?_) λ _ _ x=>x.elim))
 exact seg_call h₃
theorem entry_yf:entryFor table "proto.yield_from" = some Builtin.«proto.yield_from»:=entryFor_of_tree (by kernel_rfl)
theorem quiet_yf (it:Value):(Zdf it).quiet=true:=Code.quiet_builtin _ (by kernel_rfl)
theorem li_close:typeLookup (.type "list_iterator") "close" = pure none:=by rw [typeLookup_type,builtinLookup_eq_fast]; kernel_rfl
theorem yf_den (it:Value):(model prog w).den (Zdf it)=Builtin.«proto.yield_from» ⟨[it,.bool false,.none],[]⟩:=by
 show (match entryFor table "proto.yield_from" with | some b=>b ⟨[it,.bool false,.none],[]⟩ | none=>unsupported ((withoutEnding? "proto.yield_from" "#data").getD "proto.yield_from"))=_
 rw [entry_yf]
theorem slept {M:Model} {E:Value→Shared→Prop} {a:Addr} {o:Obj} {b:Bool} {Q:Unit→Shared→Prop} (ho:s.heap.get? a=some o) (hc:o.cls = .type "list_iterator") (h:Q () s):wpAny M A (Generator.sleptOver (.ref a) b) Q E s:=by
 unfold Generator.sleptOver
 refine wpAny_bind (wpAny_load ho ?_)
 rw [if_pos (by rw [hc]; decide)]
 exact wpAny_pure h
theorem seg_yf_item {I l:Addr} {i:Nat} {items:Array Value} {x:Value} (hfs:splitAtGen fs=none) (hfg:fs.any Frame.guarded=false)
  (hit:s.heap.IsListIter I l i) (hl:s.heap.IsList l items) (hx:items[i]? = some x)
  (h:∀ h',h'.IsListIter I l (i+1)→Heap.SameBut I s.heap h'→∀ kap:Resume→Shared→Prop,(∀ s'' o,s''.heap.get? I=some o→o.cls = .type "list_iterator" →
   Seg (model prog w) A R Y n s'' (Zdf (.ref I)) ((model prog w).den (Zdf (.ref I))) fs s''→kap (.send .none) s'')→Y n s₀ x { s with heap:=h' } kap) :
  Seg (model prog w) A R Y (n+1) s₀ (Zdf (.ref I)) ((model prog w).den (Zdf (.ref I))) fs s:=by
 rw [yf_den]
 unfold Builtin.«proto.yield_from»
 refine E13 (id hit) λ o ho hc hd=>?_
 refine E13 hl λ ol hol _ Y1=>?_
 try clear hl
 refine E11 Y1 λ nl hdl=>?_
 clear Y1
 refine seg_bind (wpAny_pure ?_)
 refine seg_bind (wpAny_attempt (wpAny_holding ?_))
 rw [if_neg Bool.false_ne_true,if_pos (by rfl)]
 refine wpAny_bind (wpAny_rule (wpAny_bind (wpAny_callSpecial?_slot (name:=Str.ofString "__next__") hit.typeIs slot_listiter_next
  (wpAny_call_entry slot_listiter_next hit.typeIs entry_listiter_next ?_ (args_listiter_next _)))))
 show wpAny _ _ (field (.ref I) 0 >>= _) _ _ s
 refine wpAny_bind (wpAny_field ho hd (x:=.ref l) rfl ?_)
 show wpAny _ _ (if (Value.ref l==Value.none)=true then _ else _) _ _ s
 rw [if_neg (show ¬ ((Value.ref l==Value.none)=true) from Bool.false_ne_true)]
 show wpAny _ _ (field (.ref I) 1 >>= _) _ _ s
 refine wpAny_bind (wpAny_field ho hd (x:=.int i 0) rfl ?_)
 show wpAny _ _ (seqItems? (.ref l) >>= _) _ _ s
 refine wpAny_bind (wpAny_seqItems hol hdl ?_)
 simp only [Int.toNat_natCast,hx]
 refine wpAny_bind (wpAny_setField ho hd (by simp) (wpAny_pure ⟨x,rfl,wpAny_pure ?_⟩))
 have hit':(s.heap.update I (Obj.mapFields λ vs=>vs.setIfInBounds 1 (rawInt (i+1:Int)))).IsListIter I l (i+1):=
  ⟨_,Heap.get?_update_self _ ho (Obj.isFreed_of_fields (Obj.data_mapFields hd _)),(Obj.cls_mapFields ..).trans hc,by rw [Obj.data_mapFields hd]; simp [rawInt]⟩
 refine E13 (id hit') λ o' ho' hc' _=>?_
 refine seg_bind (wpAny_typeOf (T := "list_iterator") ⟨o',ho',hc'⟩ ?_)
 refine seg_bind (wpAny_of_eq li_close ?_)
 refine seg_bind (wpAny_pure ?_)
 refine seg_bind (slept ho' hc' ?_)
 refine seg_yield hfs rfl hfg ?_
 refine h _ hit' (Heap.SameBut.update ..) _ λ s'' o₂ ho₂ hc₂ hs=>?_
 refine seg_bind (wpAny_pure (seg_bind (slept ho₂ hc₂ ?_)))
 refine seg_bind (wpAny_pure ?_)
 exact seg_again (quiet_yf _) hs
theorem seg_yf_end {I l:Addr} {i:Nat} {items:Array Value} {k:Result→Sem PySem.Fin} {p:Pos} {c₁:Code} (hh:(A.over (Zdf (.ref I)) (.ret k none false [] c₁ p []::fs)).handled=none)
  (hit:s.heap.IsListIter I l i) (hl:s.heap.IsList l items) (hx:items[i]? = none)
  (h:∀ h',Heap.ExtBut I s.heap h'→Seg (model prog w) A R Y n s₀ c₁ (k (.ok (.ret .none))) fs { s with heap:=h' }) :
  Seg (model prog w) A R Y n s₀ (Zdf (.ref I)) ((model prog w).den (Zdf (.ref I))) (.ret k none false [] c₁ p []::fs) s:=by
 rw [yf_den]
 unfold Builtin.«proto.yield_from»
 refine E13 (id hit) λ o ho hc hd=>?_
 refine E13 hl λ ol hol _ Y1=>?_
 try clear hl
 refine E11 Y1 λ nl hdl=>?_
 clear Y1
 refine seg_bind (wpAny_pure ?_)
 refine seg_bind (wpAny_attempt (wpAny_holding ?_))
 rw [if_neg Bool.false_ne_true,if_pos (by rfl)]
 refine wpAny_bind (wpAny_rule (wpAny_bind (wpAny_callSpecial?_slot (name:=Str.ofString "__next__") hit.typeIs slot_listiter_next
  (wpAny_call_entry slot_listiter_next hit.typeIs entry_listiter_next ?_ (args_listiter_next _)))))
 show wpAny _ _ (field (.ref I) 0 >>= _) _ _ s
 refine wpAny_bind (wpAny_field ho hd (x:=.ref l) rfl ?_)
 show wpAny _ _ (if (Value.ref l==Value.none)=true then _ else _) _ _ s
 rw [if_neg (show ¬ ((Value.ref l==Value.none)=true) from Bool.false_ne_true)]
 show wpAny _ _ (field (.ref I) 1 >>= _) _ _ s
 refine wpAny_bind (wpAny_field ho hd (x:=.int i 0) rfl ?_)
 show wpAny _ _ (seqItems? (.ref l) >>= _) _ _ s
 refine wpAny_bind (wpAny_seqItems hol hdl ?_)
 simp only [Int.toNat_natCast,hx]
 refine wpAny_bind (wpAny_rule (wpAny_bind (wpAny_setField ho hd (by simp) ?_)))
 show wpAny _ _ (newExc (.type "StopIteration") [] >>= _) _ _ _
 refine wpAny_bind ?_
 simp only [newExc,newTuple]
 refine wpAny_bind (wpAny_newObj_type ?_ (by size_fits))
 refine wpAny_bind (m:=firstArgMember _ _) (wpAny_of_eq (a:=Value.none) (by first | rfl | (simp only [firstArgMember]; rfl)) ?_)
 refine wpAny_newObj_type ?_ (by size_fits)
 simp only [raiseNew]
 refine wpAny_bind (wpAny_handled ?_)
 rw [show (Around.in1 _).handled=none from hh]
 refine wpAny_bind (wpAny_pure (wpAny_throw ?_))
 generalize hH:(s.heap.update I (Obj.mapFields λ x=>x.setIfInBounds 0 Value.none))=H₁
 have hgt:((H₁.push { cls:=Value.type "tuple",data:=Data.seq #[] }).push { cls:=Value.type "StopIteration",data:=Data.fields (#[Value.ref H₁.objs.size,Value.none,Value.none,Value.none,Value.bool false,Value.none]++ownMembersOf (Value.type "StopIteration") []) }).get? ((H₁.push { cls:=Value.type "tuple",data:=Data.seq #[] }).objs.size)=some { cls:=Value.type "StopIteration",data:=Data.fields (#[Value.ref H₁.objs.size,Value.none,Value.none,Value.none,Value.bool false,Value.none]++ownMembersOf (Value.type "StopIteration") []) }:=Heap.get?_push_size _ rfl
 have hext:Heap.ExtBut I s.heap ((H₁.push { cls:=Value.type "tuple",data:=Data.seq #[] }).push { cls:=Value.type "StopIteration",data:=Data.fields (#[Value.ref H₁.objs.size,Value.none,Value.none,Value.none,Value.bool false,Value.none]++ownMembersOf (Value.type "StopIteration") []) }):=by
  rw [← hH]; exact ((Heap.SameBut.update ..).extBut.push _).push _
 refine seg_bind ?_
 unfold Generator.endsTheTurnAsAValue Generator.isStopAndMetaclass
 refine wpAny_bind (wpAny_bind (wpAny_typeOf (T := "StopIteration") ⟨_,hgt,rfl⟩ ?_))
 refine wpAny_bind (wpAny_of_eq isSubtype_stop (wpAny_bind (wpAny_of_eq (a:=Value.type "type") rfl (wpAny_pure ?_))))
 rw [if_neg Bool.false_ne_true]
 refine wpAny_pure ?_
 rw [if_pos rfl]
 refine seg_bind (wpAny_rule (seg_bind (wpAny_field hgt rfl (x:=.none) (by rfl) ?_)))
 exact seg_leaf (.ok (.ret .none)) (h _ hext)
end
section
variable {prog:Program} {w:World} {A:Around} {s:Shared} {env:Env}
theorem over_handled {c:Code} {k₁ k₂:Result→Sem PySem.Fin} {p₁ p₂:Pos} {c₁ c₂:Code} (hA:A.handled=none):(A.over c [.ret k₁ none false [] c₁ p₁ [],.ret k₂ none false [] c₂ p₂ []]).handled=none:=hA
structure Ksame (L:Addr) (s s':Shared):Prop where
 keep:∀ a o,a ≠ L→s.heap.get? a=some o→s'.heap.get? a=some o
 gens:s'.gens=s.gens
 os:s'.os=s.os
noncomputable abbrev nsEnd (b:Addr):GenEnd:=λ n s₀ r s₁=>r = .ok (.ret .none)∧n=0∧(∀ a o,a ≠ b→a ≠ b+1→s₀.heap.get? a=some o→s₁.heap.get? a=some o)∧s₁.gens=s₀.gens∧s₁.os=s₀.os
noncomputable abbrev Zjm (b L D n0:Addr) (t:Value):Protocol:=λ k s₀ v s₁ kap=>v=t∧Ksame L s₀ s₁∧s₁.heap.IsRevIter b D (-1)∧s₁.heap.IsListIter (b+1) n0 1 ∧
 ∀ s'' t',s''.heap.IsRevIter b D (-1)→s''.heap.IsListIter (b+1) n0 1→s''.heap.IsList n0 #[t']→kap (.send .none) s''
theorem ne_list_ns {h:Heap} {a L:Addr} {items:Array Value} {m:Str→Option Value} (x:h.IsList a items) (y:h.Ns L m):a ≠ L:=by
 rintro rfl
 refine E13 x λ o e _ Y1=>?_
 try clear x
 refine E11 Y1 λ n d=>?_
 clear Y1
 refine E33 y λ o' es ep e' d' _=>?_
 try clear y
 rw [e] at e'; cases e'
 rw [d] at d'; cases d'
theorem Ksame.list {L:Addr} {s s':Shared} {a:Addr} {items:Array Value} (x:Ksame L s s') (h:s.heap.IsList a items) (ne:a ≠ L):s'.heap.IsList a items:=h.at λ o e=>x.keep a o ne e
theorem Ksame.step {L:Addr} {sa s s':Shared} (x:Ksame L sa s) (k:∀ a o,a ≠ L→a < sa.heap.objs.size→s.heap.get? a=some o→s'.heap.get? a=some o) (g:s'.gens=s.gens) (os:s'.os=s.os):Ksame L sa s':=
 ⟨λ a o n e=>k a o n (Heap.lt_size e) (x.keep a o n e),g.trans x.gens,os.trans x.os⟩
theorem seg_ns_loop {D n0 L b:Addr} {items:Array Value} {t:Value} {sa:Shared} {x:Str} {p₁ p₂ p₃ p₄ p₅ p p₆:Pos} {K:Flow→Sem PySem.Fin} {H:Value→Sem PySem.Fin} {cF:Code}
  (hA:A.handled=none) (hL:env.locals=L) (hb:b=sa.heap.objs.size) (hk:env.scope.kind = .function) (kx:env.kindOf x=some .local) (hi:interactive env=false) (hxd:(x==("__debug__" : Str))=false)
  (htl:∃ m,sa.heap.Ns L m) (h0:items[0]? = some (.ref n0)) (hem:∀ j a,0 < j→items[j]? = some a→∃ e,a = .ref e∧sa.heap.IsList e #[]) (hD:sa.heap.IsList D items) (hn0:sa.heap.IsList n0 #[t])
  (fin:∀ s₀ s₁:Shared,(∀ a o,a ≠ b→a ≠ b+1→s₀.heap.get? a=some o→s₁.heap.get? a=some o)→s₁.gens=s₀.gens→s₁.os=s₀.os→Seg (model prog w) A (nsEnd b) (Zjm b L D n0 t) 0 s₀ cF (K .next) [] s₁) :
  ∀ (i:Nat) (s:Shared),i < items.size→s.heap.objs.size=b+1→s.heap.IsRevIter b D (i:Int)→(∃ m,s.heap.Ns L m)→Ksame L sa s→
   Seg (model prog w) A (nsEnd b) (Zjm b L D n0 t) 1 sa (.forLoop (.Name x p₁) (.ref b) [.If (.Name x p₂) [.Expr (.YieldFrom (.Name x p₃) p₄) p₅] [] p] [] env)
    ((model prog w).den (.forLoop (.Name x p₁) (.ref b) [.If (.Name x p₂) [.Expr (.YieldFrom (.Name x p₃) p₄) p₅] [] p] [] env)) [.ret (backOf K H env) none false [] cF p₆ []] s:=by
 refine E11 htl λ m₀ hm₀=>?_
 try clear htl
 have neL:∀ {a items},sa.heap.IsList a items→a ≠ L:=λ x=>ne_list_ns x hm₀
 have hLb:L ≠ b:=by rw [hb]; exact Nat.ne_of_lt hm₀.lt
 have fsG:∀ {k:Result→Sem PySem.Fin} {c:Code} {q:Pos},splitAtGen [Frame.ret k none false [] c q []]=none:=rfl
 intro i
 induction i with
 | zero=>
  intro s hi0 hsz hit hq0 hK
  refine E11 hq0 λ m hm=>?_
  try clear hq0
  refine Zew (wpAny_pyNext_rev_item hit (hK.list hD (neL hD)) h0 λ h₁ hit₁ hs₁=>wpAny_pure ?_)
  have hm₁:h₁.Ns L m:=hm.sameBut hs₁ hLb
  refine wpAny_assign_Name (wpAny_storeName_local kx (by rw [hL]; exact hm₁) (λ h₂ hm₂ hs₂=>?_) (by rw [hk]; rfl))
  rw [hL] at hm₂ hs₂
  have K₂:Ksame L sa { s with heap:=h₂,toks:=s.toks+1 }:=hK.step (λ a o n l e=>(hs₂.2 a n).trans ((hs₁.2 a (by rw [hb]; exact Nat.ne_of_lt l)).trans e)) rfl rfl
  have hsz₂:h₂.objs.size=b+1:=hs₂.1.trans (hs₁.1.trans hsz)
  have hit₂:h₂.IsRevIter b D (-1):=hit₁.at λ o e=>(hs₂.2 b (Ne.symm hLb)).trans e
  refine seg_execs_cons (seg_If (wpAny_isTrue_value (wpAny_Name (wpAny_loadName_local hk kx (by rw [hL]; exact hm₂) (if_pos rfl) ?_) hxd) rfl))
  refine wpAny_truthy_list (K₂.list hn0 (neL hn0)) (by show (1:Int) < 2 ^ 63; decide) ?_
  rw [if_pos (by rfl)]
  refine seg_execs_cons (Zkd (wpAny_Name (wpAny_loadName_local hk kx (by rw [hL]; exact hm₂) (if_pos rfl) ?_) hxd) hi)
  refine E13 (K₂.list hn0 (neL hn0)) λ on hon hcn hdn=>?_
  refine ⟨n0,on,rfl,hon,by rw [hcn]; show Value.type "list" ≠ .type "coroutine"; decide,wpAny_pyIter_list (K₂.list hn0 (neL hn0)) λ p=>?_⟩
  have hIt:(h₂.push { cls:=.type "list_iterator",data:=.fields #[.ref n0,.int 0 0] }).IsListIter (b+1) n0 0:=by
   rw [← hsz₂]; exact ⟨_,Heap.get?_push_size _ rfl,rfl,rfl⟩
  show Seg _ _ _ _ _ _ (Zdf (.ref h₂.objs.size)) _ _ _
  rw [hsz₂]
  refine seg_yf_item (items:=#[t]) rfl rfl hIt ((K₂.list hn0 (neL hn0)).push _) rfl λ h₃ hIt₃ hs₃ kap hkap=>?_
  have hit₃:h₃.IsRevIter b D (-1):=hit₂.at λ o e=>(hs₃.2 b (Nat.ne_of_lt (Nat.lt_succ_self b))).trans (Heap.get?_push_of_some _ e)
  refine ⟨rfl,K₂.step (λ a o n l e=>(hs₃.2 a (by rw [hb]; exact Nat.ne_of_lt (Nat.lt_succ_of_lt l))).trans (Heap.get?_push_of_some _ e)) rfl rfl,hit₃,hIt₃,λ s'' t' r1 r2 r3=>?_⟩
  refine E13 (id r2) λ oi hoi hci hdi=>?_
  refine hkap s'' oi hoi hci ?_
  refine seg_yf_end (over_handled hA) r2 r3 (by rfl) λ h₄ hx₄=>?_
  refine seg_again rfl ?_
  have hit₄:h₄.IsRevIter b D (-1):=r1.at λ o e=>hx₄ b o (Nat.ne_of_lt (Nat.lt_succ_self b)) e
  refine Zew (wpAny_pyNext_rev_end hA hit₄ λ h₅ hx₅=>?_)
  refine seg_leaf (.ok .next) ?_
  exact fin s'' _ (λ a o n1 n2 e=>hx₅ a o n1 (hx₄ a o n2 e)) rfl rfl
 | succ i ih=>
  intro s hi0 hsz hit hq0 hK
  refine E11 hq0 λ m hm=>?_
  try clear hq0
  obtain ⟨v,hv⟩:∃ v,items[i+1]? = some v:=⟨items[i+1],Array.getElem?_eq_getElem hi0⟩
  refine E12 (hem _ _ (Nat.succ_pos i) hv) λ e Y1 he=>?_
  subst Y1
  refine Zew (wpAny_pyNext_rev_item hit (hK.list hD (neL hD)) hv λ h₁ hit₁ hs₁=>wpAny_pure ?_)
  have hm₁:h₁.Ns L m:=hm.sameBut hs₁ hLb
  refine wpAny_assign_Name (wpAny_storeName_local kx (by rw [hL]; exact hm₁) (λ h₂ hm₂ hs₂=>?_) (by rw [hk]; rfl))
  rw [hL] at hm₂ hs₂
  have K₂:Ksame L sa { s with heap:=h₂,toks:=s.toks+1 }:=hK.step (λ a o n l e=>(hs₂.2 a n).trans ((hs₁.2 a (by rw [hb]; exact Nat.ne_of_lt l)).trans e)) rfl rfl
  have hsz₂:h₂.objs.size=b+1:=hs₂.1.trans (hs₁.1.trans hsz)
  have hit₂:h₂.IsRevIter b D (i:Int):=(show h₁.IsRevIter b D ((i:Nat):Int) by
   have:=hit₁
   rw [show ((i+1:Nat):Int) - 1=((i:Nat):Int) by lia] at this
   exact this).at λ o e=>(hs₂.2 b (Ne.symm hLb)).trans e
  refine seg_execs_cons (seg_If (wpAny_isTrue_value (wpAny_Name (wpAny_loadName_local hk kx (by rw [hL]; exact hm₂) (if_pos rfl) ?_) hxd) rfl))
  refine wpAny_truthy_list (K₂.list he (neL he)) (by decide) ?_
  rw [if_neg (by decide)]
  refine seg_again rfl ?_
  exact ih _ (Nat.lt_of_succ_lt hi0) hsz₂ hit₂ ⟨_,hm₂⟩ (K₂.step (λ _ _ _ _ e=>e) rfl rfl)
theorem seg_ns {D n0 L b:Addr} {items:Array Value} {t:Value} {m:Str→Option Value}
  (hA:A.handled=none) (hL:env.locals=L) (hb:b=s.heap.objs.size) (hk:env.scope.kind = .function) (k1:env.kindOf "ns_stack" = some .local) (k2:env.kindOf "_reversed" = some .local) (kx:env.kindOf "namespaces" = some .local) (hi:interactive env=false)
  (hm:s.heap.Ns L m) (e1:m "ns_stack" = some (.ref D)) (e2:m "_reversed" = some (.type "reversed")) (h0:items[0]? = some (.ref n0)) (hem:∀ j a,0 < j→items[j]? = some a→∃ e,a = .ref e∧s.heap.IsList e #[]) (hD:s.heap.IsList D items) (hn0:s.heap.IsList n0 #[t]) :
  Seg (model prog w) A (nsEnd b) (Zjm b L D n0 t) 1 s (.func (Zcv (mAt 1)) env) ((model prog w).den (.func (Zcv (mAt 1)) env)) [] s:=by
 have hpos:0 < items.size:=(Array.getElem?_eq_some_iff.mp h0).1
 refine seg_func ?_
 refine seg_execs_cons (seg_For ?_)
 refine Call_ (wpAny_Name (wpAny_loadName_local hk k2 (by rw [hL]; exact hm) e2 ?_) (by kernel_rfl)) rfl
 refine callWith_type1 ?_ rfl rfl
 refine spliced_cons (wpAny_Name (wpAny_loadName_local hk k1 (by rw [hL]; exact hm) e1 (spliced_nil ?_)) (by kernel_rfl))
 refine call_reversed_list hD ?_
 have hit:(s.heap.push (revObj D ((items.size:Int) - 1))).IsRevIter b D ((items.size - 1:Nat):Int):=by
  rw [hb]; exact ⟨_,Heap.get?_push_size _ rfl,rfl,by show Data.fields #[.ref D,rawInt ((items.size:Int) - 1)]=_; rw [show ((items.size - 1:Nat):Int)=(items.size:Int) - 1 by lia]⟩
 rw [← hb]
 refine wpAny_pyIter_revIter hit λ p=>?_
 refine seg_ns_loop (x := "namespaces") hA hL hb hk kx hi (by kernel_rfl) ⟨m,hm⟩ h0 hem hD hn0 (λ s₀ s₁ k g o=>?_) (items.size - 1) _ (by lia) (by show (s.heap.push _).objs.size=_; rw [Heap.size_push,← hb]) hit ⟨m,hm.push _⟩ ⟨λ a o _ e=>Heap.get?_push_of_some _ e,rfl,rfl⟩
 exact seg_end (.ok (.ret .none)) ⟨rfl,rfl,k,g,o⟩
end
end
section
open PySem PySem.Builtin PySem.W PySem.Calls PyProof.Rows
set_option maxRecDepth 100000
set_option maxHeartbeats 2000000
variable {B:Bs} {C:Cx B} {σ σ':Loc} {O O':Led}
theorem meth_go {oe:Expr} {name:Str} {apos pos:Pos} {args:List Expr} {ds:List D} {x dx K N f:Addr} {mN:Str→Option Value} {es:List (Str × D)} {s:Shared} {Q:Value→Shared→Prop} (S:St C σ O s) (c:Zim B K N mN) (ho:Ev C σ O oe (.ref x))
  (hx:OAt O x (.obj K dx)) (hd:OAt O dx (.attrs es)) (hsh:name ∉ es.map (·.1)) (hf:mN name=some (.ref f)) (hfun:Zix B f) {y:Option Value} (hB:typeLookup (.type "object") name=pure y) (ha:EvL C σ O args ds)
  (k:∀ vs s₂,Tk s.heap s₂.heap→St C σ O s₂→Vals s₂.heap vs ds→C.wp (PySem.call (.ref f) (.ref x::vs) []) Q s₂)
  (hline:autoParam ((apos.endLine==pos.line)=true) tR) (hs:autoParam (Zac args=true) tR)
  (hbase:autoParam (attributeBase oe name C.env (eval oe C.env)=eval oe C.env) tR)
  (hfew:autoParam (((backTo pos (starEach args C.env)).all (λ x=>!x.1)&&(backToKw pos (keywordEach [] C.env)).all (λ x=>x.1.isSome)
   && decide (args.length+([]:List Keyword).length+(if ([]:List Keyword).isEmpty then 0 else 1) < 30))=true) tR) :
  C.wp (eval (.Call (.Attribute oe name apos) args [] pos) C.env) Q s:=by
 rw [arm_eval_Call,hbase]
 refine wpAny_bind (ho s S _ λ v s₁ t₁ S₁ hv=>?_)
 have hh:v = .ref x:=hv; subst hh
 refine wpAny_bind (wpAny_standAt ?_)
 have hform:methodCallForm (args.length+([]:List Keyword).length) (backTo pos (starEach args C.env)) (backToKw pos (keywordEach [] C.env))=true:=hfew
 have hpos:methodCallPos true oe C.env apos pos=pure pos:=by unfold methodCallPos; simp [hline]
 unfold methodCall
 rw [hform]
 refine E16 (S₁.inst hx hd) λ m I hw nd hok hne _=>?_
 obtain ⟨nm,q,bs,sn,sub,col,dd,k0,k1,k2,k3,k5,hK⟩:=c.at_
 refine E23 hfun λ of fd hdat hcls hfo=>?_
 try clear hfun
 have hmn:m name=none:=by
  cases e:m name with
  | none=>rfl
  | some v=>exact absurd (hw name (by rw [e]; exact λ q=>nomatch q)) hsh
 have hN:=c.ns _ S₁.top
 have hKt:=hK _ S₁.top
 have hft:=hfo _ S₁.top
 refine wpAny_bind (wpAny_holding ?_)
 have go:C.wp (callWith pos (.ref f) [.ref x] (backTo pos (starEach args C.env)) (backToKw pos (keywordEach [] C.env))) Q s₁:=
  callWith_function (o:=of) (fd:=fd) (Zbh hs (ha.args hs s₁ S₁ _ λ vs s₂ t₂ S₂ hvs=>⟨⟨hfo _ S₂.top,hdat⟩,k vs s₂ (t₁.trans t₂) S₂ hvs⟩))
 obtain ⟨hpp,g,dr,tk,os⟩:=s₁
 refine method_of hKt hN c.noGa c.noGt hf hft hcls hB I hmn ?_
 exact wpAny_bind (wpAny_of_eq hpos go)
noncomputable def Cx.re (C:Cx B) (g:Array GenState):Cx B:={ C with base:={ C.base with gens:=g },low:=C.low,above:=C.above }
theorem St.re {s s':Shared} (S:St C σ O s) (h:s'.heap=s.heap) (o:s'.os=s.os):St (C.re s'.gens) σ O s':=by
 obtain ⟨hp,g,d,t,os⟩:=s'
 simp only at h o
 subst h o
 exact ⟨S.top,S.names,S.loc,S.objs,S.ond,S.ol,S.own,⟨S.eff.keep,S.eff.tk,S.eff.os,.refl _⟩⟩
theorem St.unre {s s':Shared} {g:Array GenState} (S:St (C.re g) σ O s) (h:s'.heap=s.heap) (o:s'.os=s.os) (k:Gk C.base.gens s'.gens):St C σ O s':=by
 obtain ⟨hp,g',d,t,os⟩:=s'
 simp only at h o
 subst h o
 exact ⟨S.top,S.names,S.loc,S.objs,S.ond,S.ol,S.own,⟨S.eff.keep,S.eff.tk,S.eff.os,k⟩⟩
structure NsGen (B:Bs) (f T:Addr) (q:Str):Prop where
 fn:DefTop B f (mAt 1) q (.ref T) .none
 fun_:Zix B f
 dfl:∀ h,B.G h→∃ o n,h.get? T=some o∧o.data = .seq #[.type "reversed"] n
theorem NsGen.binds {f T:Addr} {q:Str} (G:NsGen B f T q) {s:Shared} (hG:B.G s.heap) (cd pm a b:Value):BindsTo s (fdOf (mAt 1) q cd pm (.ref T) .none) ⟨[a,b],[]⟩ [("self",a),("ns_stack",b),("_reversed",.type "reversed")]:=by
 refine E22 (G.dfl _ hG) λ o n ho hd=>?_
 exact BindsTo.of_defaults (T:=T) (items:=#[.type "reversed"]) rfl ho hd (by rfl) (by rfl)
theorem itn_obj:typeLookup (.type "object") "_iter_namespaces" = pure none:=by rw [typeLookup_type,builtinLookup_eq_fast]; kernel_rfl
theorem set_get {a:Array GenState} {g i:Nat} {x y:GenState} (h:(a.setIfInBounds g x)[i]? = some y):(i=g∧y=x)∨(i ≠ g∧a[i]? = some y):=by
 rw [Array.getElem?_setIfInBounds] at h
 by_cases e:g=i
 ·rw [if_pos e] at h
  by_cases l:g < a.size
  ·rw [if_pos l] at h; exact .inl ⟨e.symm,(Option.some.inj h).symm⟩
  ·rw [if_neg l] at h; cases h
 ·rw [if_neg e] at h; exact .inr ⟨Ne.symm e,h⟩
theorem set_ne {a:Array GenState} {g i:Nat} {x:GenState} (h:i ≠ g):(a.setIfInBounds g x)[i]? = a[i]?:=by
 rw [Array.getElem?_setIfInBounds,if_neg (Ne.symm h)]
theorem set_at {a:Array GenState} {g:Nat} {x y:GenState} (h:a[g]? = some y):(a.setIfInBounds g x)[g]? = some x:=by
 rw [Array.getElem?_setIfInBounds,if_pos rfl,if_pos (Array.getElem?_eq_some_iff.mp h).1]
theorem letOwned_gen {M:Model} {A:Around} {E:Value→Shared→Prop} {s:Shared} {target:Expr} {a:Addr} {g:Nat} {v:Value} {Q:Unit→Shared→Prop} (hg:s.heap.IsGen a g) (h:Q () s):wpAny M A (letOwnedTupleGo target (.ref a) v) Q E s:=by
 refine E34 hg λ o nm qn ho hc hd _=>?_
 try clear hg
 unfold letOwnedTupleGo
 have go:wpAny M A (do
   let (.ref r,.ref a):=(Value.ref a,v) | return
   let o ← load r
   match o.cls,o.data with
   | .type n,.fields vs=>
    if ["enumerate", "zip", "dict_itemiterator", "dict_reverseitemiterator", "odict_iterator", "itertools.zip_longest", "itertools.pairwise"].contains n&&vs[0]? == some (rawInt a) then
     rule "for.unpacks-the-owned-tuple"
     updateField r 0 .none
   | _,_=>pure ()) Q E s:=by
  cases v with
  | ref b=>
   refine wpAny_bind (wpAny_load ho ?_)
   rw [hc,hd]
   dsimp only
   rw [show (["enumerate", "zip", "dict_itemiterator", "dict_reverseitemiterator", "odict_iterator", "itertools.zip_longest", "itertools.pairwise"].contains "generator")=false by kernel_rfl,Bool.false_and,if_neg Bool.false_ne_true]
   exact wpAny_pure h
  | _=>exact wpAny_pure h
 cases target <;> first | exact wpAny_pure h | exact go
theorem Run.forNs {oe ae x y:Expr} {apos cpos p pos:Pos} {k:Nat} {body rest:List Stmt} {K:Flow→Shared→Prop} {f T Kc N xo dx D n0:Addr} {q:Str} {mN:Str→Option Value} {es:List (Str × Mine.Internal.D)} {rs:List Addr} {d:Mine.Internal.D} {σ₁ σ₂:Loc} {O₂:Led}
  (G:NsGen B f T q) (c:Zim B Kc N mN) (ho:Ev C σ O oe (.ref xo)) (hx:OAt O xo (.obj Kc dx)) (hd:OAt O dx (.attrs es)) (hsh:(Str.ofString "_iter_namespaces") ∉ es.map (·.1)) (hf:mN "_iter_namespaces" = some (.ref f))
  (hae:Ev C σ O ae (.ref D)) (hD:(D,Sh.list (.ref n0::rs.map Mine.Internal.D.ref))∈O) (hn:(n0,Sh.list [d])∈O) (hrs:∀ r∈rs,(r,Sh.list [])∈O)
  (hasg:∀ g R,Asg (C.re g) σ (O++R) (.Tuple [x,y] k p) d σ₁ (O++R))
  (hbody:∀ g R,Run (C.re g) σ₁ (O++R) body (λ f s'=>match f with | .next=>St (C.re g) σ₂ (O₂++R) s' | _=>False))
  (hn₂:(n0,Sh.list [d])∈O₂) (hrest:Run C σ₂ O₂ rest K)
  (hline:autoParam ((apos.endLine==cpos.line)=true) tR) (hs:autoParam (Zac [ae]=true) tR)
  (hbase:autoParam (attributeBase oe "_iter_namespaces" C.env (eval oe C.env)=eval oe C.env) tR)
  (hfew:autoParam (((backTo cpos (starEach [ae] C.env)).all (λ x=>!x.1)&&(backToKw cpos (keywordEach [] C.env)).all (λ x=>x.1.isSome)
   && decide ([ae].length+([]:List Keyword).length+(if ([]:List Keyword).isEmpty then 0 else 1) < 30))=true) tR) :
  Run C σ O (.For (.Tuple [x,y] k p) (.Call (.Attribute oe "_iter_namespaces" apos) [ae] [] cpos) body [] pos::rest) K:=by
 refine Run.cons λ s S=>?_
 refine wpAny_For ?_
 refine meth_go S c ho hx hd hsh hf G.fun_ itn_obj (.cons hae .nil) (λ vs s₁ t₁ S₁ hvs=>?_) hline hs hbase hfew
 refine E12 (Vals.one hvs) λ v Y1 hv=>?_
 subst Y1
 have hh:v = .ref D:=hv; subst hh
 obtain ⟨o,cd,pm,e,h,cr⟩:=G.fn.at_
 refine wpAny_call (codeAny_call_generator C.room.depth (h _ S₁.top) e rfl rfl rfl (cr _ S₁.top) (G.binds S₁.top cd pm _ _ _ _ _ _ ?_))
 refine wpAny_newFunctionEnv_cells rfl (λ x hx=>.inl ?_) λ env he s₂ X=>?_
 ·rcases List.mem_cons.mp hx with rfl | hx
  ·rfl
  ·rcases List.mem_cons.mp hx with rfl | hx
   ·rfl
   ·rw [List.mem_singleton.mp hx]; rfl
 refine ⟨(B.lim _ S₁.top).keeps X.toInCall.keep,?_⟩
 have ext:=X.toInCall.keep
 have hns:=X.toInCall.ns
 obtain ⟨h₁,tk,rfl,_⟩:=X.done
 dsimp only at ext hns ⊢
 have hL:env.locals=s₁.heap.objs.size:=by rw [he]; rfl
 have hgen:∀ go:Obj,go.cls = .type "generator" → (∃ nm qn,go.data = .fields #[.int s₁.gens.size 0,nm,qn])→go.slots = #[]→(h₁.push go).IsGen h₁.objs.size s₁.gens.size:=λ go a1 ⟨nm,qn,a2⟩ a3=>
  ⟨_,nm,qn,Heap.get?_push_size _ (Obj.isFreed_of_fields a2),a1,a2,a3⟩
 refine wpAny_pyIter_gen (hgen _ rfl ⟨_,_,rfl⟩ rfl) ?_
 generalize hgo:({ cls:=.type "generator",data:=.fields #[.int s₁.gens.size 0,_,_] }:Obj)=go
 have hgen:=hgen go (by rw [← hgo]) ⟨_,_,by rw [← hgo]⟩ (by rw [← hgo])
 have ext2:∀ b o,s₁.heap.get? b=some o→(h₁.push go).get? b=some o:=λ b o q=>Heap.get?_push_of_some _ (ext b o q)
 have hns2:=hns.push go
 have hsz2:h₁.objs.size < (h₁.push go).objs.size:=by rw [Heap.size_push]; exact Nat.lt_succ_self _
 have hsz1:s₁.heap.objs.size < h₁.objs.size:=by
  have:=hns.lt
  rw [hL] at this; exact this
 generalize h₁.objs.size=a at hgen hsz2 hsz1 ⊢
 generalize h₁.push go=h₂ at hgen ext2 hns2 hsz2 ⊢
 have S₂:St C σ O { s₁ with heap:=h₂ }:=S₁.ext (.ext (t:=s₁.toks) ext2)
 refine E12 (Zae (S₂.objs _ hn)) λ its hl0 hv0=>?_
 obtain ⟨t,ht,htd⟩:∃ t,its = #[t]∧Val h₂ t d:=by
  refine E12 (Vals.one hv0) λ t e ht=>?_
  exact ⟨t,Array.ext' (by simpa using e),ht⟩
 subst ht
 refine E12 (Zae (S₂.objs _ hD)) λ itD hlD hvD=>?_
 refine E23 hvD λ t0 r0 eD ht0 hr0=>?_
 try clear hvD
 have hh:t0 = .ref n0:=ht0; subst hh
 have h0:itD[0]? = some (.ref n0):=by rw [← Array.getElem?_toList,eD]; rfl
 have hem:∀ (j:Nat) v,0 < j→itD[j]? = some v→∃ e,v = .ref e∧h₂.IsList e #[]:=λ j v hj hv=>by
  rw [← Array.getElem?_toList,eD] at hv
  obtain ⟨j,rfl⟩:∃ i,j=i+1:=⟨j - 1,by lia⟩
  rw [List.getElem?_cons_succ] at hv
  have hlen:=hr0.length
  rw [List.length_map] at hlen
  refine E11 (List.getElem?_eq_some_iff.mp hv) λ hjl hjv=>?_
  have hjr:j < rs.length:=by exact Wn [_,_,_] (.a (.v 0) (.n 1)) (.v 1) [(1,.a (.v 0) (.n 1),.v 2),(1,.v 2,.v 1)] rfl hjl (We hlen)
  refine E12 (hr0.get (i:=j) (d:=.ref (rs[j]'hjr)) (by rw [List.getElem?_map,List.getElem?_eq_getElem hjr]; rfl)) λ v' e' hv'=>?_
  rw [hv] at e'; cases e'
  have hh:v = .ref _:=hv'; subst hh
  refine E12 (Zae (S₂.objs _ (hrs _ (List.getElem_mem hjr)))) λ iz hz hvz=>?_
  refine ⟨_,rfl,?_⟩
  have:iz = #[]:=Array.ext' (show iz.toList=[] from hvz)
  rw [this] at hz; exact hz
 have hb1:s₁.heap.objs.size < h₂.objs.size:=Nat.lt_trans hsz1 hsz2
 let R:Led:=[(a,.is λ o=>o.cls = .type "generator" ∧ (∃ nm qn,o.data = .fields #[.int s₁.gens.size 0,nm,qn])∧o.slots = #[]),(h₂.objs.size,.is λ o=>o.cls = .type "list_reverseiterator" ∧ o.data = .fields #[.ref D,rawInt (-1)]),(h₂.objs.size+1,.is λ o=>o.cls = .type "list_iterator" ∧ o.data = .fields #[.ref n0,.int (1:Nat) 0])]
 refine codeAny_forLoop_any (λ n s'=>(n=1∧s'=_)∨(n=0∧∃ gs' g₀,St (C.re g₀) σ₂ (O₂++R) s'∧g₀[s₁.gens.size]? = some gs'∧(∀ i,i ≠ s₁.gens.size→g₀[i]? = s₁.gens[i]?) ∧
   (∀ s'' t',s''.heap.IsRevIter h₂.objs.size D (-1)→s''.heap.IsListIter (h₂.objs.size+1) n0 1→s''.heap.IsList n0 #[t']→gs'.Goes (model B.prog B.w) C.A.in1 (nsEnd h₂.objs.size) (Zjm h₂.objs.size s₁.heap.objs.size D n0 t) 0 (.send .none) s'')))
  (λ n s' hI=>?_) 1 (.inl ⟨rfl,rfl⟩)
 rcases hI with ⟨rfl,rfl⟩ | ⟨rfl,gs',g₀,S',hg,hoth,hgoes⟩
 ·refine wpAny_pyNext_gen (n:=1) (gs:=.fresh (.func (Zcv (mAt 1)) env)) (P:=λ n s₀ s₁=>n=0∧_) (Y:=Zjm h₂.objs.size s₁.heap.objs.size D n0 t) C.room.handled (B.lim _ S₂.top) C.room.depth hgen (Array.getElem?_push_size ..)
   ⟨rfl,seg_ns (b:=h₂.objs.size) (items:=itD) C.room.handled hL rfl (by rw [he]; rfl) (by rw [he]; rfl) (by rw [he]; rfl) (by rw [he]; rfl) (by rw [he]; rfl) (by rw [← hL]; exact hns2) (by rw [he]; rfl) (by rw [he]; rfl) h0 hem hlD hl0⟩ (λ v s₃ gs' hv=>?_) (λ s₃ hp=>absurd hp.1 (by decide))
  refine E05 hv λ Y1 KS r1 r2 hk=>?_
  try clear hv
  subst Y1
  have kk:∀ p o,s₁.heap.get? p=some o→s₃.heap.get? p=some o:=λ p o e=>KS.keep p o (Nat.ne_of_lt (Heap.lt_size e)) (ext2 p o e)
  have ES:Eff [] s₁ { s₃ with gens:=s₁.gens }:=⟨λ p o _ e=>kk p o e,.of_keep kk,KS.os,.refl _⟩
  have S₄:St (C.re (s₃.setGen s₁.gens.size gs').gens) σ O (s₃.setGen s₁.gens.size gs'):=(S₁.ext ES).re rfl rfl
  have hgen₃:s₃.heap.IsGen a s₁.gens.size:=by refine E32 hgen λ o nm qn ho r=>?_; try clear hgen; exact ⟨o,nm,qn,KS.keep a o (Nat.ne_of_gt hsz1) ho,r⟩
  have far:∀ {p},s₁.heap.objs.size < p→(∀ z∈O,z.1 ≠ p)∧p ≠ C.env.locals∧C.base.heap.objs.size≤p:=λ {p} hp=>⟨λ z hz=>Nat.ne_of_lt (Nat.lt_trans (ShAt.lt (S₁.objs z hz)) hp),Nat.ne_of_gt (Nat.lt_trans S₁.ltL hp),Nat.le_trans S₁.bsize (Nat.le_of_lt hp)⟩
  have S₅:St (C.re (s₃.setGen s₁.gens.size gs').gens) σ (R++O) (s₃.setGen s₁.gens.size gs'):=by
   have n1:=S₄.note (L:=h₂.objs.size+1) (sh:=.is λ o=>o.cls = .type "list_iterator" ∧ o.data = .fields #[.ref n0,.int (1:Nat) 0]) (by refine E13 r2 λ o ho hc hd=>?_; try clear r2; exact ⟨o,ho,⟨hc,hd⟩,.inr λ vs n q=>by rw [hd] at q; cases q⟩)
    (far (Nat.lt_succ_of_lt hb1)).1 (far (Nat.lt_succ_of_lt hb1)).2.1 (far (Nat.lt_succ_of_lt hb1)).2.2
   have n2:=n1.note (L:=h₂.objs.size) (sh:=.is λ o=>o.cls = .type "list_reverseiterator" ∧ o.data = .fields #[.ref D,rawInt (-1)]) (by refine E13 r1 λ o ho hc hd=>?_; try clear r1; exact ⟨o,ho,⟨hc,hd⟩,.inr λ vs n q=>by rw [hd] at q; cases q⟩)
    (λ z hz=>by
     rcases List.mem_cons.mp hz with rfl | hz
     ·exact Nat.succ_ne_self _
     ·exact (far hb1).1 z hz) (far hb1).2.1 (far hb1).2.2
   exact n2.note (L:=a) (by refine E34 hgen₃ λ o nm qn ho hc hd hs=>?_; try clear hgen₃; exact ⟨o,ho,⟨hc,⟨nm,qn,hd⟩,hs⟩,.inr λ vs n q=>by rw [hd] at q; cases q⟩)
    (λ z hz=>by
     rcases List.mem_cons.mp hz with rfl | hz
     ·exact Nat.ne_of_gt hsz2
     rcases List.mem_cons.mp hz with rfl | hz
     ·exact Nat.ne_of_gt (Nat.lt_succ_of_lt hsz2)
     ·exact (far hsz1).1 z hz) (far hsz1).2.1 (far hsz1).2.2
  have S₆:=S₅.perm (O':=O++R) List.perm_append_comm
  have htd₃:Val s₃.heap v d:=htd.tk (.of_but (a:=s₁.heap.objs.size) (λ p o n e=>KS.keep p o n e) (Ns.noTup (by rw [← hL]; exact hns2)))
  have hsz:s₁.gens.size < (s₁.gens.push (.fresh (.func (Zcv (mAt 1)) env))).size:=by rw [Array.size_push]; exact Nat.lt_succ_self _
  have hg3:s₃.gens[s₁.gens.size]? = some .running:=by
   rw [KS.gens]
   exact set_at (Array.getElem?_push_size ..)
  refine letOwned_gen hgen₃ (F0.to (hasg (s₃.setGen s₁.gens.size gs').gens R _ v S₆ htd₃ _ λ s₅ _ S₇=>F0.to (wpAny_mono (hbody (s₃.setGen s₁.gens.size gs').gens R s₅ S₇) (λ fl s₆ h₆=>?_) λ _ _ q=>q)))
  cases fl with
  | next=>
   refine ⟨0,by decide,.inr ⟨rfl,gs',_,h₆,set_at hg3,λ i hi=>?_,λ s'' t' q1 q2 q3=>hk s'' t' q1 q2 q3⟩⟩
   show (s₃.gens.setIfInBounds _ _)[i]? = _
   rw [set_ne hi,KS.gens]
   show ((s₁.gens.push _).setIfInBounds _ _)[i]? = _
   rw [set_ne hi,Array.getElem?_push,if_neg hi]
  | cont=>exact h₆.elim
  | brk=>exact h₆.elim
  | ret v=>exact h₆.elim
 ·have mem:∀ {p},p∈R→p∈O₂++R:=λ h=>List.mem_append_right _ h
  refine E13 (S'.objs _ (mem List.mem_cons_self)) λ o ho Y1 _=>?_
  refine E03 Y1 λ hc Y2 hss=>?_
  clear Y1
  refine E21 Y2 λ nm qn hdd=>?_
  clear Y2
  refine E13 (S'.objs _ (mem (List.mem_cons_of_mem _ List.mem_cons_self))) λ o1 ho1 Y1 _=>?_
  refine E02 Y1 λ hc1 hd1=>?_
  clear Y1
  refine E13 (S'.objs _ (mem (List.mem_cons_of_mem _ (List.mem_cons_of_mem _ List.mem_cons_self)))) λ o2 ho2 Y1 _=>?_
  refine E02 Y1 λ hc2 hd2=>?_
  clear Y1
  refine E12 (Zae (S'.objs _ (List.mem_append_left _ hn₂))) λ it' hl' hv'=>?_
  obtain ⟨t',hit'⟩:∃ t',it' = #[t']:=by
   refine E12 (Vals.one hv') λ t' e _=>?_
   exact ⟨t',Array.ext' (by simpa using e)⟩
  subst hit'
  have r1:s'.heap.IsRevIter h₂.objs.size D (-1):=⟨o1,ho1,hc1,hd1⟩
  have r2:s'.heap.IsListIter (h₂.objs.size+1) n0 1:=⟨o2,ho2,hc2,hd2⟩
  have hgs:=S'.eff.gens.keep _ _ hg
  refine wpAny_pyNext_gen (n:=0) (P:=λ n s₀ s₁=>n=0∧_) (Y:=Zjm h₂.objs.size s₁.heap.objs.size D n0 t) C.room.handled (B.lim _ S'.top) C.room.depth ⟨o,nm,qn,ho,hc,hdd,hss⟩ hgs (hgoes _ t' r1 r2 hl') (λ v s₃ gs'' hv=>?_) (λ s₃ hp h' hk'=>?_)
  ·refine E05 hv λ Y1 KS q1 q2 hk=>?_
   try clear hv
   subst Y1
   refine (hk s₃ t' q1 q2 ((show s'.heap.IsList n0 #[t'] from hl').at λ o e=>KS.keep n0 o ?_ e)).elim
   exact Nat.ne_of_lt (ShAt.lt (S₁.objs _ hn))
  ·refine E04 hp λ _ kp gg oo=>?_
   try clear hp
   have E3:Eff [h₂.objs.size,h₂.objs.size+1] s' { s' with heap:=h' }:=.but2 (t:=s'.toks) (λ c o c1 c2 e=>hk' c o (kp c o c1 c2 e))
    (λ vs=>ShAt.noTup (S'.objs _ (mem (List.mem_cons_of_mem _ List.mem_cons_self))) vs) (λ vs=>ShAt.noTup (S'.objs _ (mem (List.mem_cons_of_mem _ (List.mem_cons_of_mem _ List.mem_cons_self)))) vs)
   have S'':St (C.re g₀) σ₂ O₂ { s' with heap:=h' }:=S'.lose (E3.mono λ p hp=>List.mem_cons_of_mem _ hp)
   refine wpAny_execs_nil (hrest _ (S''.unre rfl oo ⟨λ i z hz=>?_,λ i z hz=>?_⟩))
   ·replace hz:(s₃.gens.setIfInBounds s₁.gens.size .finished)[i]? = some z:=hz
    rcases set_get hz with ⟨rfl,rfl⟩ | ⟨ne,hz⟩
    ·exact .inl rfl
    rw [gg] at hz
    rcases set_get hz with ⟨rfl,rfl⟩ | ⟨ne,hz⟩
    ·exact absurd rfl ne
    rcases S'.eff.gens.bare i z hz with q | q
    ·exact .inl q
    ·rw [show (C.re g₀).base.gens=g₀ from rfl,hoth i ne] at q
     exact S₁.eff.gens.bare i z q
   ·have hz1:=S₁.eff.gens.keep i z hz
    have ne:i ≠ s₁.gens.size:=λ q=>by
     rw [q,Array.getElem?_eq_none (Nat.le_refl _)] at hz1; cases hz1
    show (s₃.gens.setIfInBounds s₁.gens.size .finished)[i]? = some z
    rw [set_ne ne,gg]
    show (s'.gens.setIfInBounds _ _)[i]? = some z
    rw [set_ne ne]
    refine S'.eff.gens.keep i z ?_
    rw [show (C.re g₀).base.gens=g₀ from rfl,hoth i ne]; exact hz1
end
section
open PySem PySem.Builtin PySem.W PySem.Calls PyProof.Rows
set_option maxRecDepth 100000
set_option maxHeartbeats 2000000
noncomputable def le1 (path:List (Nat × Nat × Bool)) (x y:Nat):Bool:=path.contains (y,x,false) || path.contains (x,y,true)
noncomputable def leN (n:Nat) (path:List (Nat × Nat × Bool)):Nat→Nat→Nat→Bool
 | 0,x,y=>le1 path x y
 | k+1,x,y=>le1 path x y || (List.range n).any λ z=>le1 path x z&&leN n path k z y
noncomputable def adj (n:Nat) (path:List (Nat × Nat × Bool)):List Nat→Bool
 | x::y::r=>leN n path 3 x y&&adj n path (y::r)
 | _=>true
noncomputable def tOk (n:Nat):List (Nat × Nat × Bool)→KasT (Array Nat)→Bool
 | path,.ret p=>p.toList.isPerm (List.range n)&&adj n path p.toList
 | path,.ask i j k=>decide (i < n)&&decide (j < n)&&tOk n ((i,j,true)::path) (k true)&&tOk n ((i,j,false)::path) (k false)
theorem tOk5:(List.range 6).all (λ n=>tOk n [] (kas_sort n))=true:=by kernel_rfl
def Chain (L:Nat→Nat→Prop):List Nat→Prop
 | x::y::r=>L x y∧Chain L (y::r)
 | _=>True
theorem leN_of {L:Nat→Nat→Prop} (ht:∀ a b c,L a b→L b c→L a c) {n:Nat} {path:List (Nat × Nat × Bool)} (hp:∀ z∈path,if z.2.2=true then L z.1 z.2.1 else L z.2.1 z.1) :
  ∀ {k x y:Nat},leN n path k x y=true→L x y:=by
 have h1:∀ {x y},le1 path x y=true→L x y:=λ {x y} h=>by
  unfold le1 at h
  rcases Bool.or_eq_true_iff.mp h with e | e
  ·exact hp _ (List.contains_iff_mem.mp e)
  ·exact hp _ (List.contains_iff_mem.mp e)
 intro k
 induction k with
 | zero=>intro x y h; exact h1 h
 | succ k ih=>
  intro x y h
  unfold leN at h
  rcases Bool.or_eq_true_iff.mp h with e | e
  ·exact h1 e
  ·refine E12 (List.any_eq_true.mp e) λ z _ hz=>?_
   refine E02 (Bool.and_eq_true_iff.mp hz) λ a b=>?_
   exact ht _ _ _ (h1 a) (ih b)
theorem adj_chain {L:Nat→Nat→Prop} (ht:∀ a b c,L a b→L b c→L a c) {n:Nat} {path:List (Nat × Nat × Bool)} (hp:∀ z∈path,if z.2.2=true then L z.1 z.2.1 else L z.2.1 z.1):∀ {l:List Nat},adj n path l=true→Chain L l
 | [],_=>trivial
 | [_],_=>trivial
 | x::y::r,h=>by
  unfold adj at h
  refine E02 (Bool.and_eq_true_iff.mp h) λ h1 h2=>?_
  exact ⟨leN_of ht hp h1,adj_chain ht hp h2⟩
theorem tree_wp {n:Nat} {L:Nat→Nat→Prop} (ht:∀ a b c,L a b→L b c→L a c) {Inv:Shared→Prop} {cmp:Nat→Nat→(Bool→Shared→Prop)→Shared→Prop} {G:Array Nat→Shared→Prop}
  (hc:∀ i j C s,i < n→j < n→Inv s→(∀ (b:Bool) s',(if b=true then L i j else L j i)→Inv s'→C b s')→cmp i j C s)
  (hG:∀ p s,p.toList.Perm (List.range n)→Chain L p.toList→Inv s→G p s) :
  ∀ (t:KasT (Array Nat)) (path:List (Nat × Nat × Bool)) (s:Shared),tOk n path t=true→(∀ z∈path,if z.2.2=true then L z.1 z.2.1 else L z.2.1 z.1)→Inv s→t.kasWp cmp G s
 | .ret p,path,s,h,hp,hi=>by
  unfold tOk at h
  refine E02 (Bool.and_eq_true_iff.mp h) λ h1 h2=>?_
  exact hG p s (List.isPerm_iff.mp h1) (adj_chain ht hp h2) hi
 | .ask i j k,path,s,h,hp,hi=>by
  unfold tOk at h
  refine E02 (Bool.and_eq_true_iff.mp h) λ h1 h2=>?_
  refine E02 (Bool.and_eq_true_iff.mp h1) λ h3 h4=>?_
  refine E02 (Bool.and_eq_true_iff.mp h3) λ h5 h6=>?_
  refine hc i j _ s (by simpa using h5) (by simpa using h6) hi λ b s' hf hi'=>?_
  have hp':∀ z∈(i,j,b)::path,if z.2.2=true then L z.1 z.2.1 else L z.2.1 z.1:=λ z hz=>by
   rcases List.mem_cons.mp hz with rfl | hz
   ·exact hf
   ·exact hp z hz
  cases b with
  | true=>exact tree_wp ht hc hG (k true) _ s' h4 hp' hi'
  | false=>exact tree_wp ht hc hG (k false) _ s' h2 hp' hi'
theorem sort_wp {n:Nat} {L:Nat→Nat→Prop} (ht:∀ a b c,L a b→L b c→L a c) {Inv:Shared→Prop} {cmp:Nat→Nat→(Bool→Shared→Prop)→Shared→Prop} {G:Array Nat→Shared→Prop} {s:Shared} (hn:n≤5)
  (hc:∀ i j C s,i < n→j < n→Inv s→(∀ (b:Bool) s',(if b=true then L i j else L j i)→Inv s'→C b s')→cmp i j C s)
  (hG:∀ p s,p.toList.Perm (List.range n)→Chain L p.toList→Inv s→G p s) (hi:Inv s):(kas_sort n).kasWp cmp G s:=
 tree_wp ht hc hG _ [] s (List.all_eq_true.mp tOk5 n (List.mem_range.mpr (by exact Wn [_] (.a (.v 0) (.n 1)) (.n 6) [(1,.v 0,.n 5)] rfl hn))) (λ z hz=>nomatch hz) hi
noncomputable def vstr:Value→Str
 | .str x _=>x
 | _=>Str.empty
noncomputable def Zeu (w:World):Bool:=w.params.followText "set-order"
structure SetO (prog:Program) (w:World) (o:Obj) (ss:List Str):Prop where
 ex:o.ExactSet
 at_:∃ es ep t,o.data = .set es ep t∧ElemsOf (strKind prog w) es.toList∧(es.toList.map λ e=>vstr e.2).Perm ss∧t.fits es.size=true∧t.led = !Zeu w∧(es.size ≠ 0→t.plain=false)
theorem Zkj (t:SetTable) (n:Nat):(t.orStandIn n).led=t.led∧(t.plain=false→(t.orStandIn n).plain=false):=by
 unfold SetTable.orStandIn SetTable.standIn
 split
 ·exact ⟨rfl,id⟩
 ·exact ⟨rfl,λ _=>rfl⟩
theorem layNew_led (t:SetTable) (es:Array (Int × Value)) (h:Int) (x:Value):(layNew t es h x).2.1.led=t.led∧(t.plain=false→(layNew t es h x).2.1.plain=false):=by
 unfold layNew
 split
 ·exact Zkj _ _
 ·exact ⟨rfl,λ _=>rfl⟩
theorem relaid_led {t t':SetTable} {hs order:Array _} {wanted:Nat} (h:t.relaid hs wanted=some (t',order)):t'.led=t.led∧t'.plain=t.plain:=by
 unfold SetTable.relaid SetTable.laid at h
 refine E12 (Option.bind_eq_some_iff.mp h) λ ow _ h=>?_
 cases h
 exact ⟨rfl,rfl⟩
theorem relayAll_led (t:SetTable) (es:Array (Int × Value)) (wanted:Nat):(relayAll t es wanted).2.1.led=t.led∧(t.plain=false→(relayAll t es wanted).2.1.plain=false):=by
 unfold relayAll
 split
 ·rename_i t' order h
  refine E02 (relaid_led h) λ h1 h2=>?_
  dsimp only
  split
  ·exact ⟨h1,λ e=>h2.trans e⟩
  ·exact ⟨rfl,λ _=>rfl⟩
 ·exact ⟨rfl,λ _=>rfl⟩
section
variable {prog:Program} {w:World} {A:Around} {E:Value→Shared→Prop} {s:Shared} {a:Addr} {ss:List Str}
theorem SetO.len {o:Obj} {es:Array (Int × Value)} {ep:Nat} {t:SetTable} (x:SetO prog w o ss) (hd:o.data = .set es ep t):es.size=ss.length:=by
 obtain ⟨_,es',ep',t',e,_,hp,_⟩:=x
 rw [hd] at e; cases e
 have:=hp.length_eq
 simpa using this
theorem Zkc {o:Obj} {es:Array (Int × Value)} {ep:Nat} {t:SetTable} {es':Array (Int × Value)} {t':SetTable} {Q:Unit→Shared→Prop} (ho:s.heap.get? a=some o) (hd:o.data = .set es ep t)
  (hz:es'.size≤1000) (h:∀ h',h'.get? a=some { o with data:=.set es' (ep+1) t' }→Heap.SameBut a s.heap h'→Q () { s with heap:=h' }):wpAny (model prog w) A (storeSet a es' t') Q E s:=by
 refine wpAny_storeSet_of ho hd (h _ ?_ (Heap.SameBut.update ..)) (by rw [sizeLine_eq]; (apply Wls;assumption;rfl))
 have:=Heap.get?_update_self (Obj.putSet es' t') ho (by rw [putSet_of es' t' hd]; rfl)
 rw [putSet_of es' t' hd] at this
 exact this
theorem setAddH {o:Obj} {k:Str} {tk:Tok} {Q:Bool→Shared→Prop} (ho:s.heap.get? a=some o) (hS:SetO prog w o ss) (hk:k ∉ ss) (hr:ss.length < 100)
  (h:∀ h' o',h'.get? a=some o'→SetO prog w o' (ss++[k])→Heap.SameBut a s.heap h'→Q true { s with heap:=h' }) :
  wpAny (model prog w) A (setAddHashed a (.str k tk) (hashStr w k)) Q E s:=by
 obtain ⟨es,ep,t,hd,hel,hp,hf,hled,hpl⟩:=hS.at_
 have hz:es.size=ss.length:=hS.len hd
 have hsc:(Value.str k tk).scannable=true:=rfl
 have hkey:(strKind prog w).is k (.str k tk)=true:=beq_self_eq_true k
 unfold setAddHashed setAddHashedIn
 refine wpAny_holding (wpAny_bind (wpAny_setState_of ho hd hf ?_))
 dsimp only
 rw [byScan_of hsc (by show es.size < 4096; exact Wn [_,_] (.a (.v 0) (.n 1)) (.n 4096) [(1,.v 0,.v 1),(1,.a (.v 1) (.n 1),.n 100)] rfl (We hz) hr) hel]
 simp only [↓reduceIte]
 unfold setAddByScan
 refine wpAny_bind ?_
 refine wpAny_bind (wpAny_rule ?_)
 refine wpAny_bind (wpAny_setScan_of (knd:=strKind prog w) hkey ho hd hf hel ?_)
 have hno:List.findIdx? (λ e=>(strKind prog w).is k e.2) es.toList=none:=by
  rw [List.findIdx?_eq_none_iff]
  intro e he
  cases q:(strKind prog w).is k e.2 with
  | false=>rfl
  | true=>
   refine E11 (Value.isStrOf_shape q) λ t' e'=>?_
   refine absurd (hp.mem_iff.mp (List.mem_map.mpr ⟨e,he,?_⟩)) hk
   rw [e']; rfl
 rw [hno]
 dsimp only
 have hgw:∀ (b:Bool) {s₁:Shared} {Q':Unit→Shared→Prop},Q' () s₁→wpAny (model prog w) A (match b with | true=>rule "set.scan.the-table-gave-way" | false=>pure ()) Q' E s₁:=
  λ b s₁ Q' hq=>by cases b <;> first | exact wpAny_pure hq | exact wpAny_rule hq
 have hperm:=layNew_perm t es (hashStr w k) (.str k tk)
 have hfits:=layNew_fits t es (hashStr w k) (.str k tk)
 have hledN:=layNew_led t es (hashStr w k) (.str k tk)
 generalize hL:layNew t es (hashStr w k) (.str k tk)=L at hperm hfits hledN ⊢
 obtain ⟨es1,t1,wasDummy,gave⟩:=L
 dsimp only at hperm hfits hledN ⊢
 rw [Array.toList_push] at hperm
 have hel1:ElemsOf (strKind prog w) es1.toList:=(hel.push (k:=k) hkey hsc).perm hperm
 have hp1:(es1.toList.map λ e=>vstr e.2).Perm (ss++[k]):=by
  refine (hperm.map _).trans ?_
  rw [List.map_append]
  exact hp.append (.refl _)
 have hsz1:es1.size=ss.length+1:=by
  have:=hp1.length_eq
  simpa using this
 refine wpAny_bind (hgw _ ?_)
 -- what is stored
 have fin:∀ t2:SetTable,t2.fits es1.size=true→t2.led=t.led→t2.plain=false→wpAny (model prog w) A (do
    storeSet a es1 t2
    if (!wasDummy&&t2.tooFull)=true then do
      (match (relayAll t2 es1 (SetTable.grown es1.size)).2.2 with | true=>rule "set.scan.the-table-gave-way" | false=>pure ())
      storeSet a (relayAll t2 es1 (SetTable.grown es1.size)).1 (relayAll t2 es1 (SetTable.grown es1.size)).2.1
      pure (some true)
     else pure (some true)) (λ r s'=>match r with | some added=>Q added s' | none=>False) E s:=λ t2 hf2 hl2 hp2=>by
  refine wpAny_bind (Zkc ho hd (by exact Wn [_,_] (.v 0) (.n 1000) [(1,.v 0,.a (.v 1) (.n 1)),(1,.a (.v 1) (.n 1),.n 100)] rfl (We hsz1) hr) λ h' hg hs=>?_)
  split
  ·have hpr:=relayAll_perm t2 es1 (SetTable.grown es1.size)
   have hfr:=relayAll_fits t2 es1 (SetTable.grown es1.size)
   have hlr:=relayAll_led t2 es1 (SetTable.grown es1.size)
   generalize relayAll t2 es1 (SetTable.grown es1.size)=Rl at hpr hfr hlr ⊢
   obtain ⟨es2,t3,gave2⟩:=Rl
   dsimp only at hpr hfr hlr ⊢
   have hsz2:es2.size=es1.size:=by rw [← Array.length_toList,hpr.length_eq,Array.length_toList]
   refine wpAny_bind (hgw _ (wpAny_bind (Zkc hg rfl (by exact Wn [_,_,_] (.v 0) (.n 1000) [(1,.v 0,.v 1),(1,.v 1,.a (.v 2) (.n 1)),(1,.a (.v 2) (.n 1),.n 100)] rfl (We hsz2) (We hsz1) hr) λ h'' hg' hs'=>wpAny_pure ?_)))
   exact h h'' _ hg' ⟨hS.ex,es2,_,t3,rfl,hel1.perm hpr,(hpr.map _).trans hp1,hfr,hlr.1.trans (hl2.trans hled),λ _=>hlr.2 hp2⟩ (hs.trans hs')
  ·refine wpAny_pure (h h' _ hg ⟨hS.ex,es1,_,t2,rfl,hel1,hp1,hf2,hl2.trans hled,λ _=>hp2⟩ hs)
 have go:∀ t2:SetTable,t2.fits es1.size=true→t2.led=t.led→t2.plain=false→wpAny (model prog w) A (do
    storeSet a es1 t2
    if (!wasDummy&&t2.tooFull)=true then do
      (match (relayAll t2 es1 (SetTable.grown es1.size)).2.2 with | true=>rule "set.scan.the-table-gave-way" | false=>pure ())
      storeSet a (relayAll t2 es1 (SetTable.grown es1.size)).1 (relayAll t2 es1 (SetTable.grown es1.size)).2.1
      pure (some true)
     else pure (some true)) (λ r s'=>wpAny (model prog w) A (match r with | some added=>pure added | none=>setAddHashedIn a (.str k tk) (hashStr w k) 99999) Q E s') E s:=λ t2 a1 a2 a3=>
  wpAny_mono (fin t2 a1 a2 a3) (λ r s' hr=>by
   cases r with
   | none=>exact hr.elim
   | some b=>exact wpAny_pure hr) λ _ _ x=>x
 split
 ·refine wpAny_bind ?_
  rw [hashByValue_scannable 8 hsc]
  refine wpAny_pure ?_
  exact go { t1 with plain:=false } (SetTable.fits_plain_off hfits) hledN.1 rfl
 ·rename_i hpf
  refine wpAny_bind (wpAny_pure ?_)
  simp only [↓reduceIte]
  exact go t1 hfits hledN.1 (by simpa using hpf)
end
section
variable {prog:Program} {w:World} {A:Around} {E:Value→Shared→Prop} {s:Shared}
def Zgr (h:Heap) (a:Addr) (x:Str):Prop:=∃ t,h.IsList a #[.str x t]
theorem Zip:isSubtype (.type "list") (.type "list")=pure true:=by rw [isSubtype_type]; kernel_rfl
theorem lt_loop {a b:Addr} {x y:Str} {R:Result→Shared→Prop} (ha:Zgr s.heap a x) (hb:Zgr s.heap b y) (h:∀ c,R (.ok (.ret (.bool c))) s) :
  codeAny (model prog w) A (.builtin "list.__eq__.loop" ⟨[.ref a,.ref b,rawInt 0,rawInt 0],[]⟩) R s:=by
 refine E23 ha λ t oa hoa _ Y1=>?_
 try clear ha
 refine E11 Y1 λ na hda=>?_
 clear Y1
 refine E23 hb λ u ob hob _ Y1=>?_
 try clear hb
 refine E11 Y1 λ nb hdb=>?_
 clear Y1
 refine codeAny_builtin PySem.MeetsSeq3.entry_eq_loop ?_
 unfold Builtin.«list.__eq__.loop»
 refine wpAny_bind (listItems_at hoa hda (wpAny_bind (listItems_at hob hdb ?_)))
 refine wpAny_bind (wpAny_eqBool_str ?_)
 by_cases e:x=y
 ·rw [decide_eq_true e]
  refine wpAny_pure ⟨plainId_quiet PySem.MeetsSeq3.plain_eq_loop _,codeAny_builtin PySem.MeetsSeq3.entry_eq_loop ?_⟩
  unfold Builtin.«list.__eq__.loop»
  refine wpAny_bind (listItems_at hoa hda (wpAny_bind (listItems_at hob hdb ?_)))
  refine wpAny_bind (listItems_at hoa hda (wpAny_bind (listItems_at hob hdb ?_)))
  exact wpAny_pure (h _)
 ·rw [decide_eq_false e]
  refine wpAny_bind (listItems_at hoa hda (wpAny_bind (listItems_at hob hdb ?_)))
  show wpAny _ _ (compareOp .Lt (.str x t) (.str y u) >>= _) _ _ s
  exact wpAny_bind (PyProof.Rows.lt_str (wpAny_pure (h _)))
theorem lt_one {a b:Addr} {x y:Str} {Q:Bool→Shared→Prop} (hu:A.units < cLine) (ha:Zgr s.heap a x) (hb:Zgr s.heap b y) (h:∀ c,Q c s):wpAny (model prog w) A (keyLt' oneType' (.ref a) (.ref b)) Q E s:=by
 have hTa:s.TypeIs (.ref a) "list" := by refine E11 ha λ t x=>?_; try clear ha; exact x.typeIs
 have hTb:s.TypeIs (.ref b) "list" := by refine E11 hb λ t x=>?_; try clear hb; exact x.typeIs
 rw [keyLt'_oneType,oneLt'_eq]
 simp only [if_true]
 refine wpAny_bind (wpAny_cRoomFor hu ?_)
 refine wpAny_bind (wpAny_callSpecialIfBound?_slot (name:=(cmpInfo .Lt).2.1) hTa F.slot_list_lt ?_)
 refine wpAny_call (codeAny_call_builtin F.slot_list_lt.plain F.entry_list_lt (F.slot_list_lt.check _ _ _ _ _ _ _ _ hTa (F.args_list_lt_2 _ _) ?_))
 show wpAny _ _ (do
  if !(← isInstance (.ref b) (.type "list")) then return ← ret .notImplemented
  again (.builtin "list.__eq__.loop" ⟨[.ref a,.ref b,rawInt 0,rawInt 0],[]⟩)) _ _ s
 refine wpAny_bind (wpAny_isInstance hTb Zip ?_)
 refine wpAny_pure ⟨plainId_quiet PySem.MeetsSeq3.plain_eq_loop _,lt_loop ha hb λ c=>?_⟩
 exact wpAny_truthy_bool (h c)
end
theorem si_owner:Manifest.owners.lookup (String.ofList ['r','o','t','a','r','e','t','i','_','t','e','s'].reverse)=some Manifest.sig_set_iterator:=by kernel_rfl
theorem si_next:Slot "set_iterator" "__next__" "set_iterator.__next__" :=
 .of (owner := "set_iterator") (n := "__next__") (by rw [typeLookup_type,builtinLookup_eq_fast]; kernel_rfl) (by decide +kernel) (by decide +kernel) (by decide +kernel)
  (by first | exact .inl (by decide +kernel) | exact .inr (by decide +kernel)) (by rw [isSubtype_type]; kernel_rfl)
theorem Zha:entryFor table "set_iterator.__next__" = some Builtin.«set_iterator.__next__»:=entryFor_of_tree (by kernel_rfl)
theorem Zhb (a:Value):argsOk "set_iterator.__next__" ⟨[a],[]⟩:=by
 unfold argsOk; rw [signature?_of (id := "set_iterator.__next__") (n:=['_','_','t','x','e','n','_','_']) (o:=['r','o','t','a','r','e','t','i','_','t','e','s']) (by kernel_rfl) si_owner]; kernel_rfl
theorem si_iter:Slot "set_iterator" "__iter__" "set_iterator.__iter__" :=
 .of (owner := "set_iterator") (n := "__iter__") (by rw [typeLookup_type,builtinLookup_eq_fast]; kernel_rfl) (by decide +kernel) (by decide +kernel) (by decide +kernel)
  (by first | exact .inl (by decide +kernel) | exact .inr (by decide +kernel)) (by rw [isSubtype_type]; kernel_rfl)
theorem si_iterA (a:Value):argsOk "set_iterator.__iter__" ⟨[a],[]⟩:=by
 unfold argsOk; rw [signature?_of (id := "set_iterator.__iter__") (n:=['_','_','r','e','t','i','_','_']) (o:=['r','o','t','a','r','e','t','i','_','t','e','s']) (by kernel_rfl) si_owner]; kernel_rfl
theorem si_iterE:entryFor table "set_iterator.__iter__" = some Builtin.«dict_keyiterator.__iter__»:=
 entryFor_alias (id' := "dict_keyiterator.__iter__") (by kernel_rfl) (by first | rfl | decide +kernel | (unfold String.splitOn; simp +decide [String.splitOnAux])) (by decide +kernel) (by kernel_rfl)
theorem set_iterE:entryFor table "set.__iter__" = some Builtin.«frozenset.__iter__»:=
 entryFor_alias (id' := "frozenset.__iter__") (by kernel_rfl) rfl (by decide +kernel) (by kernel_rfl)
noncomputable def Zfk (first:Value) (i:Nat) (a:Addr) (n ep:Nat):Obj:={ cls:=.type "set_iterator",data:=.fields #[first,rawInt i,.ref a,rawInt n,rawInt ep] }
section
variable {prog:Program} {w:World} {A:Around} {E:Value→Shared→Prop} {s:Shared} {a I:Addr}
theorem si_pyIter {first:Value} {i n ep:Nat} {Q:Value→Shared→Prop} (hI:s.heap.get? I=some (Zfk first i a n ep)) (h:Q (.ref I) s):wpAny (model prog w) A (pyIter (.ref I)) Q E s:=by
 have hT:s.TypeIs (.ref I) "set_iterator" := ⟨_,hI,rfl⟩
 refine wpAny_pyIter_slot hT si_iter (wpAny_call_entry si_iter hT si_iterE ?_ (si_iterA _))
 show wpAny _ _ (ret (.ref I)) _ _ s
 exact wpAny_pure ⟨_,rfl, "set_iterator",_,hT,si_next.lookup,h⟩
theorem Zll {α : Type} {B:Around} {Q₀ : α→Shared→Prop} {Q:Value→Shared→Prop} (hh:B.handled=none) (h:∀ h',(∀ b o,s.heap.get? b=some o→h'.get? b=some o)→∀ e,h'.get? e=some { cls:=.type "StopIteration",data:=.fields (#[.ref s.heap.objs.size,.none,.none,.none,.bool false,.none]++ownMembersOf (.type "StopIteration") []) }→Q (.ref e) { s with heap:=h' }) :
  wpAny (model prog w) B (newExc (.type "StopIteration") [] >>= λ x=>(raiseNew x:Sem α)) Q₀ Q s:=by
 refine wpAny_bind ?_
 simp only [newExc,newTuple]
 refine wpAny_bind (wpAny_newObj_type ?_ (by size_fits))
 refine wpAny_bind (m:=firstArgMember _ _) (wpAny_of_eq (a:=Value.none) (by first | rfl | (simp only [firstArgMember]; rfl)) ?_)
 refine wpAny_newObj_type ?_ (by size_fits)
 simp only [raiseNew]
 refine wpAny_bind (wpAny_handled ?_)
 rw [hh]
 refine wpAny_bind (wpAny_pure (wpAny_throw ?_))
 exact h _ (λ b o e=>Heap.get?_push_of_some _ (Heap.get?_push_of_some _ e)) _ (Heap.get?_push_size _ rfl)
theorem Walks.setD (hh:A.handled=none) {o:Obj} {es:Array (Int × Value)} {ep:Nat} {t:SetTable} (hd:o.data = .set es ep t) (hf:t.fits es.size=true) (tup:Addr) (order:List Nat) (hlen:order.length=es.size) (hok:∀ p∈order,p < es.size) (h1:a ≠ I) (h2:tup ≠ I) :
  Walks prog w A I [I,tup,a] [I] es.size (λ i v=>∃ p e,order[i]? = some p∧es[p]? = some e∧v=e.2)
   (λ i h=>h.get? I=some (Zfk (.ref tup) i a es.size ep)∧h.get? tup=some { cls:=.type "tuple",data:=.seq (order.map λ (p:Nat)=>rawInt p).toArray }∧h.get? a=some o) where
 sub:=λ b hb=>by rw [List.mem_singleton.mp hb]; exact List.mem_cons_self
 frame:=λ i h h' x k=>⟨k I (by simp) _ x.1,k tup (by simp) _ x.2.1,k a (by simp) _ x.2.2⟩
 item:=λ i s Q E hi x hQ=>by
  refine E03 x λ hI ht ha=>?_
  try clear x
  have hT:s.TypeIs (.ref I) "set_iterator" := ⟨_,hI,rfl⟩
  obtain ⟨p,hp⟩:∃ p,order[i]? = some p:=⟨order[i]'(by exact Wn [_,_,_] (.a (.v 0) (.n 1)) (.v 1) [(1,.a (.v 0) (.n 1),.v 2),(1,.v 2,.v 1)] rfl hi (Wf hlen)),List.getElem?_eq_getElem (by exact Wn [_,_,_] (.a (.v 0) (.n 1)) (.v 1) [(1,.a (.v 0) (.n 1),.v 2),(1,.v 2,.v 1)] rfl hi (Wf hlen))⟩
  have hpl:=hok p (List.mem_of_getElem? hp)
  obtain ⟨e,he⟩:∃ e,es[p]? = some e:=⟨es[p],Array.getElem?_eq_getElem hpl⟩
  unfold pyNext
  refine wpAny_bind (wpAny_attempt (wpAny_callSpecial?_slot (name:=Str.ofString "__next__") hT si_next (wpAny_call_entry si_next hT Zha ?_ (Zhb _))))
  unfold Builtin.«set_iterator.__next__»
  refine wpAny_bind (wpAny_of_eq (a:=(Value.ref I,[])) rfl ?_)
  refine wpAny_bind (wpAny_fieldsOf hI rfl ?_)
  unfold setEntries
  refine wpAny_bind (wpAny_bind (wpAny_setState_of ha hd hf (wpAny_pure ?_)))
  dsimp only
  rw [if_neg (by simp)]
  refine wpAny_bind (wpAny_seqItems ht rfl ?_)
  have hpa:(List.map (λ (p:Nat)=>rawInt (p:Int)) order).toArray[i]? = some (rawInt (p:Int)):=by rw [List.getElem?_toArray,List.getElem?_map,hp]; rfl
  dsimp only
  rw [Int.toNat_natCast,hpa]
  show wpAny _ _ (setNextDrawn a ((p:Int).toNat) ((ep:Int).toNat) >>= λ x=>setField (Value.ref I) 1 (rawInt (i+1)) >>= λ _=>ret x) _ _ s
  rw [Int.toNat_natCast,Int.toNat_natCast]
  unfold setNextDrawn
  refine wpAny_bind (wpAny_bind (wpAny_setState_of ha hd hf ?_))
  dsimp only
  rw [if_neg (by simp),he]
  refine wpAny_pure ?_
  refine wpAny_bind (wpAny_setField_rec (cls:=.type "set_iterator") hI (by simp) λ h' hI' hs=>?_)
  refine wpAny_pure ⟨e.2,rfl,wpAny_pure ?_⟩
  refine hQ e.2 h' s.toks ⟨p,e,hp,he,rfl⟩ ⟨?_,(hs.2 tup h2).trans ht,(hs.2 a h1).trans ha⟩ (λ b o nb eb=>hs.extBut b o (by simpa using nb) eb)
  rw [hI']
  show some _=some (Zfk (.ref tup) (i+1) a es.size ep)
  unfold Zfk
  rw [show ((i+1:Nat):Int)=(i:Int)+1 by lia]
  rfl
 done:=λ s Q E x hQ=>by
  refine E03 x λ hI ht ha=>?_
  try clear x
  have hT:s.TypeIs (.ref I) "set_iterator" := ⟨_,hI,rfl⟩
  unfold pyNext
  refine wpAny_bind (wpAny_attempt (wpAny_callSpecial?_slot (name:=Str.ofString "__next__") hT si_next (wpAny_call_entry si_next hT Zha ?_ (Zhb _))))
  unfold Builtin.«set_iterator.__next__»
  refine wpAny_bind (wpAny_of_eq (a:=(Value.ref I,[])) rfl ?_)
  refine wpAny_bind (wpAny_fieldsOf hI rfl ?_)
  unfold setEntries
  refine wpAny_bind (wpAny_bind (wpAny_setState_of ha hd hf (wpAny_pure ?_)))
  dsimp only
  rw [if_neg (by simp)]
  refine wpAny_bind (wpAny_seqItems ht rfl ?_)
  have hpa:(List.map (λ (p:Nat)=>rawInt (p:Int)) order).toArray[es.size]? = none:=by rw [List.getElem?_toArray,List.getElem?_map,List.getElem?_eq_none (by exact Wn [_,_] (.v 0) (.v 1) [(1,.v 0,.v 1)] rfl (We hlen))]; rfl
  dsimp only
  rw [Int.toNat_natCast,hpa]
  dsimp only
  refine wpAny_bind (wpAny_setField_rec (cls:=.type "set_iterator") hI (by simp) λ h₁ hI₁ hs₁=>?_)
  refine wpAny_bind (wpAny_setField_rec (cls:=.type "set_iterator") hI₁ (by simp) λ h₂ hI₂ hs₂=>?_)
  refine Zll (B:=A.in1) hh λ h₃ hk e he=>?_
  refine wpAny_bind (wpAny_isInstance (T := "StopIteration") (b:=true) ⟨_,he,rfl⟩ isSubtype_stop ?_)
  exact wpAny_pure (hQ h₃ s.toks λ b o nb eb=>hk b o (hs₂.extBut b o (by simpa using nb) (hs₁.extBut b o (by simpa using nb) eb)))
 self:=λ i s Q E x hQ=>si_pyIter x.1 hQ
theorem Walks.setP (hh:A.handled=none) {o:Obj} {es:Array (Int × Value)} {ep:Nat} {t:SetTable} (hd:o.data = .set es ep t) (hf:t.fits es.size=true) (slot:Nat→Nat) (vs:List Value) (hlen:vs.length=es.size) (h1:a ≠ I)
  (hn:∀ i v (s:Shared) (A:Around) (E:Value→Shared→Prop) (Q:Option (Value × Nat)→Shared→Prop),vs[i]? = some v→s.heap.get? a=some o→Q (some (v,slot (i+1))) s→wpAny (model prog w) A (setNext a (slot i) i ep) Q E s)
  (he:∀ (s:Shared) (A:Around) (E:Value→Shared→Prop) (Q:Option (Value × Nat)→Shared→Prop),s.heap.get? a=some o→Q none s→wpAny (model prog w) A (setNext a (slot es.size) es.size ep) Q E s) :
  Walks prog w A I [I,a] [I] es.size (λ i v=>vs[i]? = some v) (λ i h=>h.get? I=some (Zfk (rawInt (slot i)) i a es.size ep)∧h.get? a=some o) where
 sub:=λ b hb=>by rw [List.mem_singleton.mp hb]; exact List.mem_cons_self
 frame:=λ i h h' x k=>⟨k I (by simp) _ x.1,k a (by simp) _ x.2⟩
 item:=λ i s Q E hi x hQ=>by
  refine E02 x λ hI ha=>?_
  try clear x
  have hT:s.TypeIs (.ref I) "set_iterator" := ⟨_,hI,rfl⟩
  obtain ⟨v,hv⟩:∃ v,vs[i]? = some v:=⟨vs[i]'(by exact Wn [_,_,_] (.a (.v 0) (.n 1)) (.v 1) [(1,.a (.v 0) (.n 1),.v 2),(1,.v 2,.v 1)] rfl hi (Wf hlen)),List.getElem?_eq_getElem (by exact Wn [_,_,_] (.a (.v 0) (.n 1)) (.v 1) [(1,.a (.v 0) (.n 1),.v 2),(1,.v 2,.v 1)] rfl hi (Wf hlen))⟩
  unfold pyNext
  refine wpAny_bind (wpAny_attempt (wpAny_callSpecial?_slot (name:=Str.ofString "__next__") hT si_next (wpAny_call_entry si_next hT Zha ?_ (Zhb _))))
  unfold Builtin.«set_iterator.__next__»
  refine wpAny_bind (wpAny_of_eq (a:=(Value.ref I,[])) rfl ?_)
  refine wpAny_bind (wpAny_fieldsOf hI rfl ?_)
  unfold setEntries
  refine wpAny_bind (wpAny_bind (wpAny_setState_of ha hd hf (wpAny_pure ?_)))
  dsimp only
  rw [if_neg (by simp)]
  dsimp only [rawInt]
  rw [Int.toNat_natCast,Int.toNat_natCast,Int.toNat_natCast]
  refine wpAny_bind (hn i v s _ _ _ hv ha ?_)
  refine wpAny_bind (wpAny_setField_rec (cls:=.type "set_iterator") hI (by simp) λ h₁ hI₁ hs₁=>?_)
  refine wpAny_bind (wpAny_setField_rec (cls:=.type "set_iterator") hI₁ (by simp) λ h₂ hI₂ hs₂=>?_)
  refine wpAny_pure ⟨v,rfl,wpAny_pure ?_⟩
  refine hQ v h₂ s.toks hv ⟨?_,(hs₂.2 a h1).trans ((hs₁.2 a h1).trans ha)⟩ (λ b o nb eb=>hs₂.extBut b o (by simpa using nb) (hs₁.extBut b o (by simpa using nb) eb))
  rw [hI₂]
  show some _=some (Zfk (rawInt (slot (i+1))) (i+1) a es.size ep)
  unfold Zfk
  rw [show ((i+1:Nat):Int)=(i:Int)+1 by lia]
  rfl
 done:=λ s Q E x hQ=>by
  refine E02 x λ hI ha=>?_
  try clear x
  have hT:s.TypeIs (.ref I) "set_iterator" := ⟨_,hI,rfl⟩
  unfold pyNext
  refine wpAny_bind (wpAny_attempt (wpAny_callSpecial?_slot (name:=Str.ofString "__next__") hT si_next (wpAny_call_entry si_next hT Zha ?_ (Zhb _))))
  unfold Builtin.«set_iterator.__next__»
  refine wpAny_bind (wpAny_of_eq (a:=(Value.ref I,[])) rfl ?_)
  refine wpAny_bind (wpAny_fieldsOf hI rfl ?_)
  unfold setEntries
  refine wpAny_bind (wpAny_bind (wpAny_setState_of ha hd hf (wpAny_pure ?_)))
  dsimp only
  rw [if_neg (by simp)]
  dsimp only [rawInt]
  rw [Int.toNat_natCast,Int.toNat_natCast,Int.toNat_natCast]
  refine wpAny_bind (he s _ _ _ ha ?_)
  refine wpAny_bind (wpAny_setField_rec (cls:=.type "set_iterator") hI (by simp) λ h₁ hI₁ hs₁=>?_)
  refine Zll (B:=A.in1) hh λ h₃ hk e he=>?_
  refine wpAny_bind (wpAny_isInstance (T := "StopIteration") (b:=true) ⟨_,he,rfl⟩ isSubtype_stop ?_)
  exact wpAny_pure (hQ h₃ s.toks λ b o nb eb=>hk b o (hs₁.extBut b o (by simpa using nb) eb))
 self:=λ i s Q E x hQ=>si_pyIter x.1 hQ
end
section
variable {M:Model} {A:Around} {E:Value→Shared→Prop} {s:Shared}
theorem Zlb {src:Source} {n:Nat} {Q:Nat→Shared→Prop} (hn:n ≠ 0) (h:∀ i,i < n→Q i { s with drawn:=s.drawn.bump src }):wpAny M A (choose src n) Q E s:=λ Γ p hΓ=>by
 unfold choose
 rw [Sem.wp_choose]
 exact ⟨hn,h _ (Nat.mod_lt _ (Nat.pos_of_ne_zero hn))⟩
theorem Zde {α : Type}:∀ (l:List α) (i:Nat) (hi:i < l.length),(l[i]::l.eraseIdx i).Perm l
 | x::r,0,_=>.refl _
 | x::r,i+1,hi=>by
  rw [List.eraseIdx_cons_succ,List.getElem_cons_succ]
  exact (List.Perm.swap _ _ _).trans (.cons _ (Zde r i (by simpa using hi)))
theorem Zet {α β : Type} {f : α→Option β} {g : α→β}:∀ (l:List α),(∀ i∈l,f i=some (g i))→l.filterMap f=l.map g
 | [],_=>rfl
 | x::r,h=>by
  rw [List.filterMap_cons,h x List.mem_cons_self,List.map_cons,Zet r λ i hi=>h i (List.mem_cons_of_mem _ hi)]
theorem Zgn {α : Type}:∀ (n:Nat) (xs:List α) (s:Shared) {Q:List α→Shared→Prop},xs.length=n→(∀ l dr,l.Perm xs→Q l { s with drawn:=dr })→wpAny M A (drawOrder n xs) Q E s
 | 0,xs,s,Q,h,hQ=>by
  have:xs=[]:=List.eq_nil_of_length_eq_zero h
  subst this
  unfold drawOrder
  exact wpAny_pure (hQ [] s.drawn (.refl _))
 | n+1,[],s,Q,h,hQ=>by cases h
 | n+1,x::xs,s,Q,h,hQ=>by
  unfold drawOrder
  refine wpAny_bind (Zlb (by simp) λ i hi=>?_)
  rw [List.getElem?_eq_getElem hi]
  dsimp only
  refine wpAny_bind (Zgn n _ _ (by rw [List.length_eraseIdx,if_pos hi,h]; rfl) λ l dr hp=>wpAny_pure ?_)
  refine hQ _ dr ?_
  refine (List.Perm.cons _ hp).trans ?_
  exact Zde _ _ hi
end
theorem pick_go {α : Type} (next:Nat→Nat):∀ (n k:Nat) (left:List α) (out:Array α),left.length=n→(pickOrder.go next n k left out).toList.Perm (out.toList++left)
 | 0,k,left,out,h=>by
  have:left=[]:=List.eq_nil_of_length_eq_zero h
  subst this
  unfold pickOrder.go
  rw [List.append_nil]
 | n+1,k,left,out,h=>by
  unfold pickOrder.go
  have hi:next k % left.length < left.length:=Nat.mod_lt _ (by (apply Wle;assumption;rfl))
  rw [List.getElem?_eq_getElem hi]
  dsimp only
  refine (pick_go next n (k+1) _ _ (by rw [List.length_eraseIdx,if_pos hi,h]; rfl)).trans ?_
  rw [Array.toList_push,List.append_assoc]
  exact .append (.refl _) (Zde left _ hi)
theorem pick_perm {α : Type} (next:Nat→Nat) (xs:Array α):(pickOrder next xs).toList.Perm xs.toList:=by
 unfold pickOrder
 exact pick_go next xs.size 0 xs.toList #[] (by simp)
section
variable {prog:Program} {w:World} {A:Around} {E:Value→Shared→Prop} {s:Shared} {a:Addr} {ss:List Str}
theorem Zbc {Q:Bool→Shared→Prop} (h:Q (Zeu w) s):wpAny (model prog w) A setsByText Q E s:=by
 unfold setsByText
 exact wpAny_bind (wpAny_askSetting (wpAny_pure h))
structure SetVals (vs:List Value) (ss:List Str):Prop where
 isS:∀ v∈vs,∃ x t,v = .str x t
 perm:(vs.map vstr).Perm ss
theorem SetVals.of {es:Array (Int × Value)} {l:List (Int × Value)} (hel:ElemsOf (strKind prog w) es.toList) (hp:(es.toList.map λ e=>vstr e.2).Perm ss) (hl:l.Perm es.toList):SetVals (l.map (·.2)) ss where
 isS:=λ v hv=>by
  refine E12 (List.mem_map.mp hv) λ e he Y1=>?_
  subst Y1
  refine E02 (hel e (hl.mem_iff.mp he)) λ Y1 _=>?_
  refine E12 Y1 λ k hk _=>?_
  clear Y1
  refine E11 (Value.isStrOf_shape hk) λ t e'=>?_
  exact ⟨k,t,e'⟩
 perm:=by
  rw [List.map_map]
  exact (hl.map _).trans hp
theorem set_pyIter {o:Obj} {Q:Value→Shared→Prop} (hh:A.handled=none) (ho:s.heap.get? a=some o) (hS:SetO prog w o ss) (hne:ss ≠ []) (hlt:ss.length < 100)
  (h:∀ (I:Addr) (h':Heap) (dr:Drawn) (fp:List Addr) (vs:List Value) (St:Nat→Heap→Prop),(∀ b o,s.heap.get? b=some o→h'.get? b=some o)→s.heap.objs.size≤I→I < h'.objs.size→SetVals vs ss→
   (∀ A':Around,A'.handled=none→Walks prog w A' I fp [I] vs.length (λ i v=>vs[i]? = some v) St)→St 0 h'→(∀ b∈fp,b=a∨s.heap.objs.size≤b)→(∀ b∈fp,b < h'.objs.size)→h'.get? a=some o→Q (.ref I) { s with heap:=h',drawn:=dr }) :
  wpAny (model prog w) A (pyIter (.ref a)) Q E s:=by
 obtain ⟨es,ep,t,hd,hel,hp,hf,hled,hpl⟩:=hS.at_
 have hz:es.size=ss.length:=hS.len hd
 have hpos:es.size ≠ 0:=by
  rw [hz]; intro q; exact hne (List.eq_nil_of_length_eq_zero q)
 have hT:s.TypeIs (.ref a) "set" := ⟨o,ho,hS.ex.1⟩
 have hal:a < s.heap.objs.size:=Heap.lt_size ho
 refine wpAny_pyIter_slot hT F.slot_set_iter (wpAny_call_entry F.slot_set_iter hT set_iterE ?_ (F.args_set_iter_1 _))
 unfold Builtin.«frozenset.__iter__»
 refine wpAny_bind (m:=Frozenset.slot0 "__iter__" ⟨[.ref a],[]⟩) (wpAny_of_eq (a:=a) rfl ?_)
 unfold Frozenset.sizeOf setEntries setDrawn
 refine wpAny_bind (wpAny_bind (wpAny_bind (wpAny_setState_of ho hd hf (wpAny_pure (wpAny_pure ?_)))))
 refine wpAny_bind (wpAny_bind (wpAny_setState_of ho hd hf ?_))
 refine wpAny_bind (Zbc (wpAny_pure ?_))
 dsimp only
 have hzl:sizeLine=16777216:=by decide +kernel
 have hsz:es.size≤sizeLine:=by exact Wn [_,_] (.v 0) (.n 16777216) [(1,.v 0,.v 1),(1,.a (.v 1) (.n 1),.n 100)] rfl (We hz) hlt
 refine (show wpAny _ _ (if (!Zeu w&&(!t.plain&&decide (es.size > 1)))=true then _ else _) _ _ _ from ?_)
 by_cases hc:(!Zeu w&&(!t.plain&&decide (es.size > 1)))=true
 ·rw [if_pos hc]
  refine wpAny_bind (Zgn es.size _ _ (by simp) λ l dr hl=>?_)
  have hll:l.length=es.size:=by have:=hl.length_eq; simpa using this
  refine wpAny_bind (wpAny_newTuple ?_ (by rw [List.length_map,hll]; exact hsz))
  refine wpAny_bind (wpAny_setEpoch_of (Heap.get?_push_of_some _ ho) hd hf ?_)
  simp only [newFields]
  refine wpAny_bind (wpAny_newObj_type ?_ (by size_fits))
  generalize htp:(s.heap.push { cls:=.type "tuple",data:=.seq (List.map (λ (i:Nat)=>rawInt (i:Int)) l).toArray })=H
  have hHs:H.objs.size=s.heap.objs.size+1:=by rw [← htp,Heap.size_push]
  have kH:∀ b o,s.heap.get? b=some o→H.get? b=some o:=λ b o e=>by rw [← htp]; exact Heap.get?_push_of_some _ e
  have htup:H.get? s.heap.objs.size=some { cls:=.type "tuple",data:=.seq (List.map (λ (i:Nat)=>rawInt (i:Int)) l).toArray }:=by rw [← htp]; exact Heap.get?_push_size _ rfl
  have hI:(H.push (Zfk (.ref s.heap.objs.size) 0 a es.size ep)).get? H.objs.size=some (Zfk (.ref s.heap.objs.size) 0 a es.size ep):=Heap.get?_push_size _ rfl
  have hok:∀ p∈l,p < es.size:=λ p hp=>List.mem_range.mp (hl.mem_iff.mp hp)
  have hperm:(l.filterMap λ i=>es.toList[i]?).Perm es.toList:=by
   refine (hl.filterMap _).trans ?_
   have:=List.filterMap_getElem?_range_length es.toList
   rw [Array.length_toList] at this
   rw [this]
  have hget:∀ (i p:Nat) (e:Int × Value),l[i]? = some p→es[p]? = some e→((l.filterMap λ i=>es.toList[i]?).map (·.2))[i]? = some e.2:=by
   have hfm:(l.filterMap λ i=>es.toList[i]?)=l.map λ i=>es.toList.getD i (0,.none):=by
    refine Zet l λ i hi=>?_
    have:=hok i hi
    rw [List.getD_eq_getElem?_getD,List.getElem?_eq_getElem (by simpa using this)]
    rfl
   intro i p e h1 h2
   rw [hfm,List.map_map,List.getElem?_map,h1]
   show some ((es.toList.getD p (0,.none)).2)=_
   rw [List.getD_eq_getElem?_getD,Array.getElem?_toList,h2]
   rfl
  refine wpAny_pure ⟨_,rfl, "set_iterator",_,⟨_,hI,rfl⟩,si_next.lookup,?_⟩
  have hlen2:((l.filterMap λ i=>es.toList[i]?).map (·.2)).length=es.size:=by rw [List.length_map,hperm.length_eq,Array.length_toList]
  refine h H.objs.size _ dr [H.objs.size,s.heap.objs.size,a] ((l.filterMap λ i=>es.toList[i]?).map (·.2)) (λ i h=>h.get? H.objs.size=some (Zfk (.ref s.heap.objs.size) i a es.size ep)∧h.get? s.heap.objs.size=some { cls:=.type "tuple",data:=.seq (l.map λ (p:Nat)=>rawInt p).toArray }∧h.get? a=some o) (λ b o e=>Heap.get?_push_of_some _ (kH b o e)) (by exact Wn [_,_] (.v 0) (.v 1) [(1,.a (.v 0) (.n 1),.v 1)] rfl (Wf hHs)) (by rw [Heap.size_push]; exact Nat.lt_succ_self _) (.of hel hp hperm)
   (λ A' hA'=>?_) ⟨hI,Heap.get?_push_of_some _ htup,Heap.get?_push_of_some _ (kH _ _ ho)⟩ (λ b hb=>?_) (λ b hb=>?_) (Heap.get?_push_of_some _ (kH _ _ ho))
  ·have W:=Walks.setD (prog:=prog) (w:=w) (A:=A') (I:=H.objs.size) hA' hd hf s.heap.objs.size l hll hok (Nat.ne_of_lt (by rw [hHs]; exact Nat.lt_succ_of_lt hal)) (Nat.ne_of_lt (by rw [hHs]; exact Nat.lt_succ_self _))
   rw [hlen2]
   exact ⟨W.sub,W.frame,λ i s' Q' E' hi st hq=>W.item i s' Q' E' hi st λ v h' tk ⟨p,e,e1,e2,e3⟩=>hq v h' tk (by rw [e3]; exact hget i p e e1 e2),W.done,W.self⟩
  ·simp only [List.mem_cons,List.not_mem_nil,or_false] at hb
   rcases hb with rfl | rfl | rfl
   ·right; exact Wn [_,_] (.v 0) (.v 1) [(1,.a (.v 0) (.n 1),.v 1)] rfl (Wf hHs)
   ·right; exact Nat.le_refl _
   ·left; rfl
  ·rw [Heap.size_push]
   simp only [List.mem_cons,List.not_mem_nil,or_false] at hb
   rcases hb with rfl | rfl | rfl
   ·exact Nat.lt_succ_self _
   ·rw [hHs]; exact Nat.lt_succ_of_lt (Nat.lt_succ_self _)
   ·rw [hHs]; exact Nat.lt_succ_of_lt (Nat.lt_succ_of_lt hal)
 ·rw [if_neg hc]
  refine wpAny_bind (wpAny_pure ?_)
  refine wpAny_bind (wpAny_setEpoch_of ho hd hf ?_)
  simp only [newFields]
  refine wpAny_bind (wpAny_newObj_type ?_ (by size_fits))
  have hI:(s.heap.push (Zfk (rawInt 0) 0 a es.size ep)).get? s.heap.objs.size=some (Zfk (rawInt 0) 0 a es.size ep):=Heap.get?_push_size _ rfl
  refine wpAny_pure ⟨_,rfl, "set_iterator",_,⟨_,hI,rfl⟩,si_next.lookup,?_⟩
  have fin:∀ (slot:Nat→Nat) (l:List (Int × Value)),slot 0=0→l.Perm es.toList→
    (∀ i v (s:Shared) (A:Around) (E:Value→Shared→Prop) (Q:Option (Value × Nat)→Shared→Prop),(l.map (·.2))[i]? = some v→s.heap.get? a=some o→Q (some (v,slot (i+1))) s→wpAny (model prog w) A (setNext a (slot i) i ep) Q E s)→
    (∀ (s:Shared) (A:Around) (E:Value→Shared→Prop) (Q:Option (Value × Nat)→Shared→Prop),s.heap.get? a=some o→Q none s→wpAny (model prog w) A (setNext a (slot es.size) es.size ep) Q E s)→
    Q (.ref s.heap.objs.size) { s with heap:=s.heap.push (Zfk (rawInt 0) 0 a es.size ep) }:=λ slot l h0 hl hn he=>by
   have hlen2:(l.map (·.2)).length=es.size:=by rw [List.length_map,hl.length_eq,Array.length_toList]
   refine h s.heap.objs.size _ s.drawn [s.heap.objs.size,a] (l.map (·.2)) (λ i h=>h.get? s.heap.objs.size=some (Zfk (rawInt (slot i)) i a es.size ep)∧h.get? a=some o) (λ b o e=>Heap.get?_push_of_some _ e) (Nat.le_refl _) (by rw [Heap.size_push]; exact Nat.lt_succ_self _) (.of hel hp hl)
    (λ A' hA'=>by rw [hlen2]; exact Walks.setP (prog:=prog) (w:=w) (A:=A') (I:=s.heap.objs.size) hA' hd hf slot (l.map (·.2)) hlen2 (Nat.ne_of_lt hal) hn he) ⟨?_,Heap.get?_push_of_some _ ho⟩ (λ b hb=>?_) (λ b hb=>?_) (Heap.get?_push_of_some _ ho)
   ·rw [h0]; exact hI
   ·simp only [List.mem_cons,List.not_mem_nil,or_false] at hb
    rcases hb with rfl | rfl
    ·right; exact Nat.le_refl _
    ·left; rfl
   ·rw [Heap.size_push]
    simp only [List.mem_cons,List.not_mem_nil,or_false] at hb
    rcases hb with rfl | rfl
    ·exact Nat.lt_succ_self _
    ·exact Nat.lt_succ_of_lt hal
  cases hb:Zeu w with
  | true=>
   refine fin (λ _=>0) (pickOrder (w.params.setOrder a ep) es).toList rfl (pick_perm _ _) (λ i v s' A' E' Q' hv ha hq=>?_) (λ s' A' E' Q' ha hq=>?_)
   ·unfold setNext
    refine wpAny_bind (wpAny_setState_of ha hd hf ?_)
    dsimp only
    refine wpAny_bind (Zbc ?_)
    rw [hb,if_pos rfl,if_neg (by simp)]
    unfold setWalk
    refine wpAny_bind (wpAny_bind (wpAny_setState_of ha hd hf ?_))
    dsimp only
    refine wpAny_bind (Zbc ?_)
    rw [hb,if_pos rfl]
    refine wpAny_bind (wpAny_askSetting (wpAny_pure (wpAny_pure ?_)))
    rw [List.getElem?_map,Array.getElem?_toList] at hv
    show Q' (Option.map (λ e=>(e.2,0)) (pickOrder (w.params.setOrder a ep) es)[i]?) s'
    cases hx:(pickOrder (w.params.setOrder a ep) es)[i]? with
    | none=>rw [hx] at hv; cases hv
    | some e=>rw [hx] at hv; cases hv; exact hq
   ·unfold setNext
    refine wpAny_bind (wpAny_setState_of ha hd hf ?_)
    dsimp only
    refine wpAny_bind (Zbc ?_)
    rw [hb,if_pos rfl,if_neg (by simp)]
    unfold setWalk
    refine wpAny_bind (wpAny_bind (wpAny_setState_of ha hd hf ?_))
    dsimp only
    refine wpAny_bind (Zbc ?_)
    rw [hb,if_pos rfl]
    refine wpAny_bind (wpAny_askSetting (wpAny_pure (wpAny_pure ?_)))
    show Q' (Option.map (λ e=>(e.2,0)) (pickOrder (w.params.setOrder a ep) es)[es.size]?) s'
    have hpz:(pickOrder (w.params.setOrder a ep) es).size=es.size:=by
     have:=(pick_perm (w.params.setOrder a ep) es).length_eq
     simpa using this
    rw [Array.getElem?_eq_none (by exact Wn [_,_] (.v 0) (.v 1) [(1,.v 0,.v 1)] rfl (We hpz))]
    exact hq
  | false=>
   have h1:es.size=1:=by
    rw [hb,hpl hpos] at hc
    simp at hc
    lia
   have hpz:t.place.size=1:=by
    have:=hf
    unfold SetTable.fits at this
    simp only [Bool.and_eq_true,beq_iff_eq] at this
    rw [this.1,h1]
   obtain ⟨j,hj⟩:∃ j,t.place = #[j]:=by
    have:t.place.toList.length=1:=by simpa using hpz
    refine E11 (List.length_eq_one_iff.mp this) λ j hq=>?_
    exact ⟨j,Array.ext' hq⟩
   obtain ⟨e,he⟩:∃ e,es = #[e]:=by
    have:es.toList.length=1:=by simpa using h1
    refine E11 (List.length_eq_one_iff.mp this) λ e hq=>?_
    exact ⟨e,Array.ext' hq⟩
   have b0:SetTable.below t.place 0=0:=by rw [hj]; simp [SetTable.below,SetTable.below.go]
   have b1:SetTable.below t.place (j+1)=1:=by rw [hj]; simp [SetTable.below,SetTable.below.go]
   have hl:t.led=true:=by rw [hled,hb]; rfl
   have hnd:(!t.plain&&decide (es.size > 1))=false:=by rw [h1]; simp
   refine fin (λ k=>if k=0 then 0 else j+1) es.toList rfl (.refl _) (λ i v s' A' E' Q' hv ha hq=>?_) (λ s' A' E' Q' ha hq=>?_)
   ·have hi:i=0:=by
     rw [he] at hv
     cases i with
     | zero=>rfl
     | succ i=>simp at hv
    subst hi
    unfold setNext
    refine wpAny_bind (wpAny_setState_of ha hd hf ?_)
    dsimp only
    refine wpAny_bind (Zbc ?_)
    rw [hb,if_neg Bool.false_ne_true]
    refine (show wpAny _ _ (if (!t.plain&&decide (es.size > 1))=true then _ else _) _ _ _ from ?_)
    rw [hnd,if_neg Bool.false_ne_true]
    refine wpAny_bind (m:=if (!t.led && !es.isEmpty)=true then unsupported "set:maker-not-led" else pure ()) ?_
    rw [hl,if_neg (by simp)]
    refine wpAny_pure ?_
    rw [if_pos rfl,b0,hj,he]
    refine wpAny_pure ?_
    rw [he] at hv
    simp at hv
    rw [if_neg (by simp)] at hq
    rw [← hv] at hq
    exact hq
   ·unfold setNext
    refine wpAny_bind (wpAny_setState_of ha hd hf ?_)
    dsimp only
    refine wpAny_bind (Zbc ?_)
    rw [hb,if_neg Bool.false_ne_true]
    refine (show wpAny _ _ (if (!t.plain&&decide (es.size > 1))=true then _ else _) _ _ _ from ?_)
    rw [hnd,if_neg Bool.false_ne_true]
    refine wpAny_bind (m:=if (!t.led && !es.isEmpty)=true then unsupported "set:maker-not-led" else pure ()) ?_
    rw [hl,if_neg (by simp)]
    refine wpAny_pure ?_
    rw [if_neg hpos,b1,hj,he]
    exact wpAny_pure hq
end
theorem set_len_slot:typeLookup (.type "set") "__len__" = pure (some (.builtin "set.__len__")):=by rw [typeLookup_type,builtinLookup_eq_fast]; kernel_rfl
section
variable {prog:Program} {w:World} {A:Around} {E:Value→Shared→Prop} {s:Shared} {a:Addr} {ss:List Str}
theorem set_hint (hT:s.TypeIs (.ref a) "set") {Q:Bool→Shared→Prop} (h:Q false s):wpAny (model prog w) A (Builtin.List.listLengthHint (.ref a)) Q E s:=by
 unfold Builtin.List.listLengthHint
 refine wpAny_bind (wpAny_specialOf hT set_len_slot ?_)
 generalize hid:("set.__len__" : String)=id0
 wp_delta
 rw [show splitId id0=some ("set", "__len__") from by subst hid; decide +kernel]
 subst hid
 refine wpAny_bind (wpAny_isInstance (T := "set") (b:=true) hT (by rw [isSubtype_type]; kernel_rfl) ?_)
 refine wpAny_ite_split (λ hab=>absurd hab (by decide)) (λ _=>?_)
 refine wpAny_ite_split (λ _=>?_) (λ hab=>absurd (by kernel_rfl) hab)
 refine wpAny_bind (wpAny_typeOf hT ?_)
 exact wpAny_pure h
theorem set_collect {o:Obj} {R:List Value→Shared→Prop} (hh:A.handled=none) (ho:s.heap.get? a=some o) (hS:SetO prog w o ss) (hne:ss ≠ []) (hlt:ss.length < 100)
  (h:∀ (h':Heap) (tk:Nat) (dr:Drawn) (vs:List Value),(∀ b o,s.heap.get? b=some o→h'.get? b=some o)→SetVals vs ss→R vs { s with heap:=h',toks:=tk,drawn:=dr }) :
  wpAny (model prog w) A (collect (.ref a)) R E s:=by
 have hal:a < s.heap.objs.size:=Heap.lt_size ho
 have hzl:sizeLine=16777216:=by decide +kernel
 unfold collect
 refine wpAny_bind (wpAny_runValue (codeAny_builtin entry_proto_collect' ?_))
 rw [Around.under_plainId PySem.F.plain_proto_collect _]
 show wpAny _ A.in1 (newList [] >>= λ l=>again (.builtin "list.__iadd__" ⟨[l,.ref a],[]⟩)) _ _ s
 refine wpAny_bind (wpAny_newObj_type ?_)
 refine wpAny_pure ⟨plainId_quiet PySem.F.plain_list_iadd _,codeAny_builtin entry_list_iadd' ?_⟩
 rw [Around.under_plainId PySem.F.plain_list_iadd _]
 generalize hS0:s.heap.objs.size=S
 have hS₁:(s.heap.push { cls:=.type "list",data:=.seq ([]:List Value).toArray }).get? S=some { cls:=.type "list",data:=.seq #[] }:=by rw [← hS0]; exact Heap.get?_push_size _ rfl
 have k₁:∀ b o,s.heap.get? b=some o→(s.heap.push { cls:=.type "list",data:=.seq ([]:List Value).toArray }).get? b=some o:=λ b o e=>Heap.get?_push_of_some _ e
 generalize s.heap.push { cls:=.type "list",data:=.seq ([]:List Value).toArray }=h₁ at hS₁ k₁ ⊢
 have haS:a ≠ S:=by rw [← hS0]; exact Nat.ne_of_lt hal
 have hlow:∀ {b o},s.heap.get? b=some o→b ≠ S:=λ e=>by rw [← hS0]; exact Nat.ne_of_lt (Heap.lt_size e)
 show wpAny _ A.in1 (Builtin.List.listExtendWith (.ref S) (.ref a) (.ref S)) _ _ _
 have ho₁:=k₁ a o ho
 have hT₁:Shared.TypeIs { s with heap:=h₁ } (.ref a) "set" := ⟨o,ho₁,hS.ex.1⟩
 unfold Builtin.List.listExtendWith
 refine wpAny_bind (wpAny_typeOf hT₁ ?_)
 have e1:Builtin.List.listSameRef (.ref S) (.ref a)=false:=by simp [Builtin.List.listSameRef,Ne.symm haS]
 have e2:(Value.type "set" == Value.type "list")=false:=by decide
 have e3:(Value.type "set" == Value.type "tuple")=false:=by decide
 simp only [e1,e2,e3,Bool.or_false,Bool.false_eq_true,if_false]
 refine wpAny_bind (set_pyIter (s:={ s with heap:=h₁ }) (A:=A.in1) hh ho₁ hS hne hlt λ I h₂ dr fp vs St k₂ hI1 hI2 hvs W st hfp hfp2 ho₂=>?_)
 have hSI:S < h₁.objs.size:=Heap.lt_size hS₁
 have hS₂:=k₂ S _ hS₁
 have hSf:S ∉ fp:=λ hm=>by
  rcases hfp S hm with q | q
  ·exact haS q.symm
  ·exact Nat.lt_irrefl _ (Nat.lt_of_lt_of_le hSI q)
 have hn:vs.length≤sizeLine:=by
  have:=hvs.perm.length_eq
  rw [List.length_map] at this
  exact Wn [_,_] (.v 0) (.n 16777216) [(1,.v 0,.v 1),(1,.a (.v 1) (.n 1),.n 100)] rfl (We this) hlt
 -- the loop
 have key:∀ (h:Heap) (c₁:Nat),St 0 h→(∀ b o,b ≠ S→h₂.get? b=some o→h.get? b=some o)→h.get? S=some { cls:=.type "list",data:=.seq #[] c₁ }→
   codeAny (model prog w) A (.builtin "list.extend.loop" ⟨[.ref S,.ref I,.ref S],[]⟩) (λ r s'=>match r with
    | .ok (.ret v)=>wpAny (model prog w) A (match v with
      | .ref a=>do
       let o ← load a
       match o.data with
       | .seq xs _=>pure xs.toList
       | _=>unsupported "internal:collect"
      | _=>unsupported "internal:collect") R E s' | .ok _=>False | .error e=>E e s') { s with heap:=h,drawn:=dr }:=by
  intro h' c₁ hst hk hS₃
  refine codeAny_extend_loopS (W A.in1 hh).toS hn S hSf (.ref S) vs.length 0 _ #[] c₁ rfl (Nat.zero_le _) hst hS₃ (ItemsOf.nil _) λ s' acc' c' hm hS' hacc=>?_
  dsimp only
  refine wpAny_bind (wpAny_load hS' ?_)
  dsimp only
  have ea:acc'.toList=vs:=by
   refine List.ext_getElem? λ j=>?_
   rw [Array.getElem?_toList]
   rcases Nat.lt_or_ge j vs.length with hj | hj
   ·have hj':j < acc'.size:=by rw [hacc.1]; exact hj
    rw [Array.getElem?_eq_getElem hj']
    exact (hacc.2 j _ (Array.getElem?_eq_getElem hj')).symm
   ·rw [List.getElem?_eq_none hj,Array.getElem?_eq_none (by rw [hacc.1]; exact hj)]
  rw [ea]
  refine wpAny_pure ?_
  rw [Moved.eq_with hm]
  refine h s'.heap s'.toks dr vs (λ b o e=>hm.heap b o (λ hmem=>?_) (hk b o (hlow e) (k₂ b o (k₁ b o e)))) hvs
  rcases List.mem_cons.mp hmem with q | q
  ·exact hlow e q
  ·rw [List.mem_singleton.mp q] at e
   exact Nat.lt_irrefl _ (Nat.lt_of_lt_of_le (Heap.lt_size (k₁ _ _ e)) hI1)
 have hT₂:Shared.TypeIs { s with heap:=h₂,drawn:=dr } (.ref a) "set" := ⟨o,ho₂,hS.ex.1⟩
 refine wpAny_bind (wpAny_holding (set_hint hT₂ ?_))
 refine wpAny_ite_split (λ _=>?_) (λ _=>wpAny_pure ⟨plainId_quiet PySem.F.plain_extend_loop _,key h₂ _ st (λ b o _ e=>e) hS₂⟩)
 refine wpAny_bind (wpAny_rule ?_)
 refine wpAny_bind ?_
 show wpAny _ _ (updateSeq S (·.push .none) >>= λ _=>updateSeq S (·.pop)) _ _ _
 refine wpAny_bind (wpAny_updateSeq hS₂ rfl ?_)
 have hS₃:=Heap.get?_update_self (Obj.mapSeq (·.push Value.none)) hS₂ rfl
 refine wpAny_updateSeq (hz:=by seq_fits) hS₃ rfl ?_
 have hS₄:=Heap.get?_update_self (Obj.mapSeq (·.pop)) hS₃ rfl
 have oth:∀ b o,b ≠ S→h₂.get? b=some o→((h₂.update S (Obj.mapSeq (·.push Value.none))).update S (Obj.mapSeq (·.pop))).get? b=some o:=
  λ b o hb e=>(Heap.get?_update_other _ _ (Ne.symm hb)).trans ((Heap.get?_update_other _ _ (Ne.symm hb)).trans e)
 refine wpAny_pure ⟨plainId_quiet PySem.F.plain_extend_loop _,key _ _ ?_ oth hS₄⟩
 exact (W A hh).frame 0 _ _ st λ b hb o e=>oth b o (λ q=>hSf (q ▸ hb)) e
end
theorem Zis {vs:List Value} {l:List Nat} (h:l.Perm (List.range vs.length)):(l.map λ i=>vs.getD i Value.none).Perm vs:=by
 refine (h.map _).trans ?_
 have:((List.range vs.length).map λ i=>vs.getD i Value.none)=vs:=by
  refine List.ext_getElem? λ i=>?_
  rw [List.getElem?_map]
  rcases Nat.lt_or_ge i vs.length with hi | hi
  ·rw [List.getElem?_range hi,List.getElem?_eq_getElem hi]
   show some (vs.getD i .none)=_
   rw [List.getD_eq_getElem?_getD,List.getElem?_eq_getElem hi]; rfl
  ·rw [List.getElem?_eq_none hi,List.getElem?_eq_none (by simpa using hi)]; rfl
 rw [this]
section
variable {prog:Program} {w:World} {A:Around} {E:Value→Shared→Prop} {s₀ s:Shared} {a:Addr} {f:Value} {vs:List Value}
theorem Eff.upd {s₀ s:Shared} (x:Eff [] s₀ s) {b:Addr} {xs:Array Value} {n:Nat} {g:Array Value→Array Value} (ho:s.heap.get? b=some (seqObj "list" xs n)) (hb:s₀.heap.objs.size≤b) :
  Eff [] s₀ { s with heap:=s.heap.update b (Obj.mapSeq g) }:=
 x.after (.but (t:=s.toks) (Heap.SameBut.update ..) (NoTup.not ho (.inl (by show (Value.type "list") ≠ .type "tuple"; decide)))) (.inl hb)
def KeyOk (prog:Program) (w:World) (A:Around) (s₀:Shared) (f:Value) (vs:List Value):Prop:=
 ∀ v∈vs,∀ s':Shared,Eff [] s₀ s'→∀ Q:Value→Shared→Prop,(∀ k x s'',Zgr s''.heap k x→Eff [] s' s''→s'.heap.objs.size≤k→Q (.ref k) s'')→wpAny (model prog w) A (call f [v]) Q F0 s'
def KeysAt (s:Shared) (kS a:Addr) (ks:List Value):Prop:=∀ v∈ks,∃ k x,v = .ref k∧Zgr s.heap k x∧k ≠ kS∧k ≠ a
theorem key_end {ks:List Value} {kS:Addr} {e e1:Nat} {P:PySem.Fin→Shared→Prop} (hu:A.units < cLine) (x:Eff [] s₀ s) (hk:s.heap.get? kS=some (seqObj "list" ks.toArray e)) (ha:s.heap.get? a=some (seqObj "list" #[] e1)) (hne:kS ≠ a)
  (lk:s₀.heap.objs.size≤kS) (la:s₀.heap.objs.size≤a) (hl:ks.length=vs.length) (hn:vs.length≤5) (hK:KeysAt s kS a ks)
  (h:∀ s' out c,Eff [] s₀ s'→out.toList.Perm vs→s'.heap.get? a=some (seqObj "list" out c)→P (.done (.ret .none)) s') :
  wpAny (model prog w) A (ksk_end a false vs.toArray e1 (.ref kS) ks.toArray) P E s:=by
 have hzl:sizeLine=16777216:=by decide +kernel
 -- the tail
 have tail:∀ (st:SortSt) (s':Shared) (out:List Value),s'=s→(arrOf st).map (·.2)=out.toArray→out.Perm vs→failedOf st=none→wpAny (model prog w) A (ksk_tail a false e1 (.ref kS) st) P E s':=by
  rintro st s' out rfl hout hp hf
  have hol:out.length=vs.length:=hp.length_eq
  unfold ksk_tail
  dsimp only
  rw [hout]
  refine wpAny_bind (listUpdate_at hk rfl ?_ (by rw [List.size_toArray]; exact Wn [_,_] (.v 0) (.n 16777216) [(1,.v 1,.n 5),(1,.v 0,.v 1)] rfl hn (We hl)) (Nat.zero_le _))
  have x₁:=x.upd (g:=λ _=>#[]) hk lk
  have ha₁:(s'.heap.update kS (Obj.mapSeq λ _=>(#[]:Array Value))).get? a=some (seqObj "list" #[] e1):=(Heap.get?_update_other _ _ hne).trans ha
  refine wpAny_bind (wpAny_letGo ?_)
  refine wpAny_bind (seqEpoch_at ha₁ rfl ?_)
  refine wpAny_bind (listUpdate_at ha₁ rfl ?_ (Nat.zero_le _) (by rw [if_neg Bool.false_ne_true,List.size_toArray]; exact Wn [_,_] (.v 0) (.a (.n 16777216) (.n 1)) [(1,.v 0,.v 1),(1,.v 1,.n 5)] rfl (We hol) hn))
  rw [hf]
  simp only [bne_self_eq_false,Bool.false_eq_true,if_false]
  refine wpAny_pure (h _ out.toArray _ (x₁.upd (g:=λ _=>out.toArray) ha₁ la) (by simpa using hp) (get?_update_seq ha₁ λ _=>out.toArray))
 unfold ksk_end
 dsimp only
 rw [if_neg Bool.false_ne_true]
 by_cases h2:vs.toArray.size < 2
 ·rw [if_pos h2,if_pos h2]
  refine wpAny_bind (wpAny_pure ?_)
  rw [StateT.run_pure]
  refine wpAny_bind (wpAny_pure ?_)
  dsimp only
  refine tail _ s vs rfl ?_ (.refl _) rfl
  rw [if_neg Bool.false_ne_true]
  show ((ks.toArray.zip vs.toArray).map (·.2))=vs.toArray
  apply Array.toList_inj.mp
  rw [Array.toList_map,Array.toList_zip]
  show (ks.zip vs).map Prod.snd=vs
  rw [List.map_snd_zip]
  exact Wn [_,_] (.v 0) (.v 1) [(1,.v 0,.v 1)] rfl (Wf hl)
 ·rw [if_neg h2,if_neg h2]
  rw [List.size_toArray] at h2
  refine wpAny_bind (kas_kind (T:=.type "list") (by exact Wn [_,_] (.n 2) (.v 0) [(1,.n 2,.v 1),(1,.v 1,.v 0)] rfl (Wg h2) (Wf hl)) (λ v hv=>?_) (by decide) (by decide) ?_)
  ·refine E23 (hK v hv) λ k y Y1 Y2 _=>?_
   subst Y1
   refine E23 Y2 λ t o ho hc _=>?_
   clear Y2
   have:=(show Looks (model prog w) s.heap (typeOf (.ref k)) o.cls from (Looks.ld ho).andThen .now)
   rw [hc] at this; exact this
  ·rw [if_neg Bool.false_ne_true]
   refine wpAny_bind (wpAny_mono (kat_run (κ:=oneType') (Q:=λ st s'=>s'=s∧∃ out:List Value,(arrOf st).map (·.2)=out.toArray∧out.Perm vs∧failedOf st=none) (G:=λ p s'=>s'=s∧p.toList.Perm (List.range vs.length)) hl (by exact Wn [_] (.n 2) (.v 0) [(1,.n 2,.v 0)] rfl (Wg h2)) (by exact Wn [_] (.a (.v 0) (.n 1)) (.n 64) [(1,.v 0,.n 5)] rfl hn) (λ p st' s' hp har hf hG=>?_)
    (sort_wp (L:=λ _ _=>True) (Inv:=λ s'=>s'=s) (λ _ _ _ _ _=>trivial) hn (λ i j C s' hi hj hs hC=>?_) (λ p s' hp _ hs=>⟨hs,hp⟩) rfl)) ?_ λ _ _ e=>e)
   ·exact ⟨hG.1,_,kat_snds hl har,Zis hG.2,hf⟩
   ·subst hs
    have mem:∀ {i},i < vs.length→ks.getD i .none∈ks:=λ {i} hi=>by
     rw [List.getD_eq_getElem?_getD,List.getElem?_eq_getElem (by exact Wn [_,_,_] (.a (.v 0) (.n 1)) (.v 1) [(1,.a (.v 0) (.n 1),.v 2),(1,.v 2,.v 1)] rfl hi (Wf hl))]
     exact List.getElem_mem _
    refine E23 (hK _ (mem hi)) λ k y e1 o1 _=>?_
    refine E23 (hK _ (mem hj)) λ k' y' e2 o2 _=>?_
    show wpAny _ _ (keyLt' oneType' (ks.getD i .none) (ks.getD j .none)) _ _ _
    rw [e1,e2]
    exact lt_one hu o1 o2 λ c=>hC c _ (by cases c <;> trivial) rfl
   ·rintro ⟨⟨⟩,st'⟩ s' ⟨e,out,h1,h2,h3⟩
    exact tail st' s' out e h1 h2 h3
theorem key_rest {kS:Addr} {e1:Nat} {P:PySem.Fin→Shared→Prop} (hu:A.units < cLine) (x:Eff [] s₀ s) (hk:s.heap.get? kS=some (seqObj "list" #[] 0)) (ha:s.heap.get? a=some (seqObj "list" #[] e1)) (hne:kS ≠ a)
  (lk:s₀.heap.objs.size≤kS) (la:s₀.heap.objs.size≤a) (hn:vs.length≤5) (hf:KeyOk prog w A s₀ f vs)
  (h:∀ s' out c,Eff [] s₀ s'→out.toList.Perm vs→s'.heap.get? a=some (seqObj "list" out c)→P (.done (.ret .none)) s') :
  wpAny (model prog w) A (ksk_rest a f false vs.toArray e1 (.ref kS)) P E s:=by
 have hzl:sizeLine=16777216:=by decide +kernel
 unfold ksk_rest
 refine wpAny_bind (wpAny_rule ?_)
 rw [List.forIn_toArray]
 refine wpAny_bind (ksk_fold (λ i s'=>∃ ks e,Eff [] s₀ s'∧s'.heap.get? kS=some (seqObj "list" ks.toArray e)∧s'.heap.get? a=some (seqObj "list" #[] e1)∧ks.length=i∧KeysAt s' kS a ks) vs 0 s
  ⟨[],0,x,hk,ha,rfl,λ v hv=>nomatch hv⟩ ?step ?done)
 case step=>
  intro j v s' hv hq0
  refine E25 hq0 λ ks e x' hk' ha' hl hK=>?_
  try clear hq0
  rw [Nat.zero_add] at hl ⊢
  have hj:j < vs.length:=(List.getElem?_eq_some_iff.mp hv).1
  refine wpAny_bind (wpAny_attempt (F0.to (hf v (List.mem_of_getElem? hv) s' x' _ λ k y s'' hy x'' hfr=>?_)))
  dsimp only
  have hk2:=x''.keep _ _ (by simp) hk'
  have ha2:=x''.keep _ _ (by simp) ha'
  refine wpAny_bind (listUpdate_at hk2 rfl ?_ (by rw [List.size_toArray]; exact Wn [_,_,_] (.v 0) (.n 16777216) [(1,.a (.v 1) (.n 1),.v 2),(1,.v 0,.v 1),(1,.v 2,.n 5)] rfl hj (We hl) hn) (by rw [Array.size_push,List.size_toArray]; exact Wn [_,_,_] (.a (.v 0) (.n 1)) (.a (.n 16777216) (.n 1)) [(1,.a (.v 1) (.n 1),.v 2),(1,.v 0,.v 1),(1,.v 2,.n 5)] rfl hj (We hl) hn))
  have hkk:k ≠ kS:=λ q=>by
   subst q
   exact Nat.lt_irrefl _ (Nat.lt_of_lt_of_le (Heap.lt_size hk') hfr)
  have hka:k ≠ a:=λ q=>by
   subst q
   exact Nat.lt_irrefl _ (Nat.lt_of_lt_of_le (Heap.lt_size ha') hfr)
  obtain ⟨c2,hc2⟩:∃ c2,(s''.heap.update kS (Obj.mapSeq (·.push (.ref k)))).get? kS=some (seqObj "list" (ks++[Value.ref k]).toArray c2):=⟨_,by
   have:=get?_update_seq hk2 (·.push (.ref k))
   rw [List.push_toArray] at this
   exact this⟩
  refine wpAny_pure ⟨rfl,ks++[.ref k],c2,(x'.trans x'').upd (g:=(·.push (.ref k))) hk2 lk,hc2,(Heap.get?_update_other _ _ hne).trans ha2,by rw [List.length_append,hl]; rfl,λ u hu'=>?_⟩
  ·have keep:∀ {k' y'},k' ≠ kS→Zgr s''.heap k' y'→Zgr (s''.heap.update kS (Obj.mapSeq (·.push (.ref k)))) k' y':=λ {k' y'} ne ⟨t,o,ho,r⟩=>⟨t,o,(Heap.get?_update_other _ _ (Ne.symm ne)).trans ho,r⟩
   rcases List.mem_append.mp hu' with hu' | hu'
   ·refine E24 (hK u hu') λ k' y' Y1 Y2 n1 n2=>?_
    subst Y1
    refine E22 Y2 λ t o ho r=>?_
    clear Y2
    exact ⟨k',y',rfl,keep n1 ⟨t,o,x''.keep _ _ (by simp) ho,r⟩,n1,n2⟩
   ·rw [List.mem_singleton.mp hu']
    exact ⟨k,y,rfl,keep hkk hy,hkk,hka⟩
 case done=>
  intro s' hq0
  refine E25 hq0 λ ks e x' hk' ha' hl hK=>?_
  try clear hq0
  rw [Nat.zero_add] at hl
  refine wpAny_bind (listItems_at hk' rfl ?_)
  exact key_end hu x' hk' ha' hne lk la hl hn hK h
theorem key_sort {n:Nat} {P:PySem.Fin→Shared→Prop} (hu:A.units < cLine) (x:Eff [] s₀ s) (ha:s.heap.get? a=some (seqObj "list" vs.toArray n)) (la:s₀.heap.objs.size≤a) (hn:vs.length≤5) (hf:KeyOk prog w A s₀ f vs)
  (h:∀ s' out c,Eff [] s₀ s'→out.toList.Perm vs→s'.heap.get? a=some (seqObj "list" out c)→P (.done (.ret .none)) s') :
  wpAny (model prog w) A (ksk_tree a f false) P E s:=by
 have hzl:sizeLine=16777216:=by decide +kernel
 have hal:a < s.heap.objs.size:=Heap.lt_size ha
 unfold ksk_tree
 refine wpAny_bind (listItems_at ha rfl ?_)
 refine wpAny_bind (listUpdate_at ha rfl ?_ (by rw [List.size_toArray]; (apply Wls;assumption;rfl)) (Nat.zero_le _))
 have x₁:=x.upd (g:=λ _=>#[]) ha la
 have ha₁:=get?_update_seq ha λ _=>#[]
 have hs₁:(s.heap.update a (Obj.mapSeq λ _=>(#[]:Array Value))).objs.size=s.heap.objs.size:=Heap.size_update ..
 generalize (s.heap.update a (Obj.mapSeq λ _=>(#[]:Array Value)))=h₁ at x₁ ha₁ hs₁ ⊢
 refine wpAny_bind (seqEpoch_at ha₁ rfl ?_)
 refine wpAny_bind (wpAny_newTuple ?_ (by show vs.length≤_; (apply Wls;assumption;rfl)))
 refine wpAny_bind (wpAny_newList ?_ (Nat.zero_le _))
 refine wpAny_holding ?_
 have hz0:s₀.heap.objs.size≤s.heap.objs.size:=Nat.le_of_lt (Nat.lt_of_le_of_lt la hal)
 have hsz:(h₁.push { cls:=.type "tuple",data:=.seq vs.toArray }).objs.size=s.heap.objs.size+1:=by rw [Heap.size_push,hs₁]
 refine key_rest (kS:=(h₁.push { cls:=.type "tuple",data:=.seq vs.toArray }).objs.size) hu ((x₁.trans (Eff.push (t:=s.toks) _)).trans (Eff.push (t:=s.toks) _)) (Heap.get?_push_size _ rfl) (Heap.get?_push_of_some _ (Heap.get?_push_of_some _ ha₁)) (by rw [hsz]; exact Nat.ne_of_gt (Nat.lt_succ_of_lt hal)) (by rw [hsz]; exact Nat.le_succ_of_le hz0) la hn hf h
end
end
section
open PySem PySem.Builtin PySem.W PySem.Calls PyProof.Rows
set_option maxRecDepth 100000
set_option maxHeartbeats 2000000
variable {B:Bs} {C:Cx B} {σ σ':Loc} {O O':Led}
structure LamOk (B:Bs) (qual:Str) (params:Arguments) (body:Expr) (scope:Scope) (x:Str):Prop where
 bind:∀ pm c' ctv v,bindArgs (kla_fn "<lambda>" qual params body scope [] pm c' ctv) ⟨[v],[]⟩=pure [(x,v)]
 kinds:scope.names.lookup x=some .local
 nocell:∀ y∈scope.names,y.2 ≠ .cell
 co:scope.isCoroutine=false
 gen:scope.isGenerator=false
 kind:scope.kind = .function
theorem lam_key {qual:Str} {params:Arguments} {body:Expr} {scope:Scope} {x:Str} {A:Around} {s₀:Shared} {f c':Addr} {pm ctv:Value} {n:Nat} {vs:List Value} {ok:Str→Prop} (K:LamOk B qual params body scope x) (room:Room A (n+1)) (top:B.G s₀.heap) (low:B.T≤f)
  (hf:s₀.heap.get? f=some (kla_obj "<lambda>" qual params body scope [] pm c' ctv)) (hc:s₀.heap.CodeRec (.ref c') qual) (hvs:∀ v∈vs,∃ y t,v = .str y t∧ok y)
  (hb:∀ (C:Cx B) y,ok y→C.env=envX qual scope C.env.locals f (.ref c') []→EvX C [(x,some (.str y))] [] body λ d O'=>∃ l,d = .ref l∧O'=[(l,.list [.str y])]) :
  KeyOk B.prog B.w A s₀ (.ref f) vs:=by
 intro v hv s' X Q hQ
 refine E22 (hvs v hv) λ y t Y1 hy=>?_
 subst Y1
 have kp:∀ a o,s₀.heap.get? a=some o→s'.heap.get? a=some o:=λ a o e=>X.keep a o (by simp) e
 have top':B.G s'.heap:=B.stable _ _ top λ a o _ e=>kp a o e
 have hsz:B.T≤s'.heap.objs.size:=Nat.le_trans low (Nat.le_of_lt (Heap.lt_size (kp f _ hf)))
 refine wpAny_call (kla_callFunE room.depth (kp _ _ hf) rfl K.co K.gen rfl ?_ ?_)
 ·refine E44 hc λ c oc ws tq h1 h2 h3 h4=>?_
  try clear hc
  exact ⟨c,oc,ws,tq,h1,kp _ _ h2,h3,h4⟩
 rw [K.bind]
 refine wpAny_pure (wpAny_newFunctionEnv K.nocell (λ z hz=>?_) (λ h₁ hns hsb=>⟨?_,?_⟩) K.kind)
 ·rw [List.mem_singleton.mp hz]; exact K.kinds
 ·exact (B.lim _ top').fresh _ hsb
 have hk₁:∀ b o,s'.heap.get? b=some o→h₁.get? b=some o:=λ b o e=>hsb.extBut b o (Nat.ne_of_lt (Heap.lt_size e)) (Heap.get?_push_of_some _ e)
 show codeAny _ _ (.expr body (envX qual scope s'.heap.objs.size f (.ref c') [])) _ _
 let env:=envX qual scope s'.heap.objs.size f (.ref c') []
 let C:Cx B:=⟨A.deeper env,env,s',[],[x],n,K.kind,rfl,rfl,by simp,λ z hz=>by rw [List.mem_singleton.mp hz]; exact K.kinds,room.deeper (Nat.le_refl _),hsz,Nat.le_refl _,λ a h=>nomatch h⟩
 refine kla_codeExpr (F0.to ?_)
 have e0:Eff [] s' { s' with heap:=h₁,toks:=s'.toks+1 }:=.ext hk₁
 have S:St C [(x,some (.str y))] [] { s' with heap:=h₁,toks:=s'.toks+1 }:=⟨B.stable _ _ top' λ a o _ e=>hk₁ a o e,rfl,⟨_,hns,λ z d hz=>by
  cases List.mem_singleton.mp hz
  exact ⟨_,by simp,t,rfl⟩⟩,λ p hp=>(nomatch hp),List.nodup_nil,λ p hp=>(nomatch hp),λ p hp=>(nomatch hp),e0⟩
 refine hb C y hy rfl _ S _ λ v s₂ d O' ⟨l,e1,e2⟩ tk S₂ hv=>?_
 subst e1; subst e2
 have hh:v = .ref l:=hv; subst hh
 refine E12 (S₂.objs _ List.mem_cons_self) λ items hl hvals=>?_
 refine E12 (Vals.one hvals) λ u e3 Y1=>?_
 refine E11 Y1 λ tu e4=>?_
 clear Y1
 subst e4
 have e6:items = #[.str y tu]:=Array.ext' (by simpa using e3)
 subst e6
 exact hQ l y s₂ ⟨tu,hl.isList⟩ S₂.eff ((S₂.own _ List.mem_cons_self).elim id λ h=>nomatch h)
noncomputable def tab1 (p:Pos) (c':Addr):Array Value:=#[rawInt p.line,rawInt p.col,.ref c']
def CodeO (q:Str) (o:Obj):Prop:=∃ vs t,o.data = .fields vs∧vs[1]? = some (.str q t)
def Zbl (P:Addr) (p:Pos) (q:Str) (U:Led):Prop:=
 U=[(P,.is λ o=>o=tabObj #[])]∨∃ c',U=[(P,.is λ o=>o=tabObj (tab1 p c')),(c',.is (CodeO q))]
structure LamTop (B:Bs) (c:Addr):Prop where
 hd:∀ h,B.G h→CodeHd h c B.P
 bl:∀ h,B.G h→h.BuiltinsAt B.mg B.P
 ne:mainGlobals ≠ B.P
def lamO (q:Str) (params:Arguments) (body:Expr) (scope:Scope) (pm:Value) (c':Addr) (o:Obj):Prop:=∃ ctv,o=kla_obj "<lambda>" q params body scope [] pm c' ctv
theorem Zbf {o:Obj} {vs:Array Value} (h:o.data = .fields vs):NoTup o:=.inr λ _ _ q=>by rw [h] at q; cases q
theorem Zjn {o:Obj} {fd:FuncData} (h:o.data = .func fd):NoTup o:=.inr λ _ _ q=>by rw [h] at q; cases q
theorem perm_two {U R O:Led} (h:(U++R).Perm O) (nd:(O.map (·.1)).Nodup):(∀ p∈U,p∈O)∧(∀ p∈R,p∈O∧p.1 ∉ U.map (·.1))∧(U.map (·.1)).Nodup∧(R.map (·.1)).Nodup:=by
 have ndp:((U++R).map (·.1)).Nodup:=(h.map _).nodup_iff.mpr nd
 rw [List.map_append,List.nodup_append] at ndp
 exact ⟨λ p q=>h.mem_iff.mp (List.mem_append_left _ q),λ p q=>⟨h.mem_iff.mp (List.mem_append_right _ q),λ z=>ndp.2.2 _ z _ (Zat q) rfl⟩,ndp.1,ndp.2.1⟩
theorem EvX.lam {params:Arguments} {body:Expr} {scope:Scope} {p:Pos} {c:Addr} {U R:Led} {q:Str} (L:LamTop B c) (hU:Zbl B.P p q U) (hp:(U++R).Perm O) (hcode:C.env.code = .ref c)
  (hq:C.env.qual ++ "<lambda>" = q) (hdef:autoParam (defaultsOf params C.env=([],[])) tR) (hcl:autoParam (closureFor scope C.env=pure []) tR) :
  EvX C σ O (.Lambda params body scope p) λ d O'=>∃ f c' U',d = .ref f∧B.T≤f∧Zbl B.P p q U'∧(c',Sh.is (CodeO q))∈U'∧O'=(f,.is (lamO q params body scope ((B.mg "__name__").getD .none) c'))::(U'++R):=λ s S Q hQ=>by
 refine E04 (perm_two hp S.ond) λ p1 p2 p3 p4=>?_
 have lowz:B.T≤s.heap.objs.size:=Nat.le_trans C.low S.bsize
 refine kla_eval hdef ?_
 rw [hq]
 rcases hU with rfl | ⟨c₁,rfl⟩
 ·refine E13 (S.objs _ (p1 _ List.mem_cons_self)) λ o hP ho _=>?_
  subst ho
  refine kla_makeFunction hcl C.gl (B.hg _ S.top) hcode (L.hd _ S.top) hP (by trivial) (by rfl) L.ne (L.bl _ S.top) λ c' ctv h' tk hx hge hlt hrec htb=>?_
  have hT:∀ vs,¬ Zgf s.heap B.P vs:=λ vs=>NoTup.not hP (Zbf rfl) vs
  have kp:∀ b o,b ≠ B.P→s.heap.get? b=some o→(h'.push (kla_obj "<lambda>" q params body scope [] ((B.mg "__name__").getD .none) c' ctv)).get? b=some o:=λ b o hb e=>Heap.get?_push_of_some _ (hx b o hb e)
  have X:Eff [B.P] s { s with heap:=h'.push (kla_obj "<lambda>" q params body scope [] ((B.mg "__name__").getD .none) c' ctv),toks:=tk }:=
   ⟨λ b o n e=>kp b o (by simpa using n) e,.of_but kp hT,rfl,.refl _⟩
  have hPz:B.P < s.heap.objs.size:=Heap.lt_size hP
  have hfz:s.heap.objs.size≤h'.objs.size:=Nat.le_of_lt (Nat.lt_of_le_of_lt hge hlt)
  refine hQ _ _ (.ref h'.objs.size) _ ⟨_,c',_,rfl,Nat.le_trans lowz hfz,.inr ⟨c',rfl⟩,List.mem_cons_of_mem _ List.mem_cons_self,rfl⟩ X.tk ?_ rfl
  refine S.called (U':=[(h'.objs.size,.is (lamO q params body scope ((B.mg "__name__").getD .none) c')),(B.P,.is λ o=>o=tabObj (tab1 p c')),(c',.is (CodeO q))]) p1 p2 p4 X (λ z hz=>?_) ?_ (λ z hz=>?_)
  ·rcases List.mem_cons.mp hz with rfl | hz
   ·exact ⟨_,Heap.get?_push_size _ rfl,⟨ctv,rfl⟩,Zjn rfl⟩
   rcases List.mem_cons.mp hz with rfl | hz
   ·exact ⟨_,Heap.get?_push_of_some _ htb,by rw [Array.empty_append]; rfl,Zbf rfl⟩
   ·rw [List.mem_singleton.mp hz]
    refine E44 hrec λ c₂ oc vs t e2 hoc hd hv=>?_
    try clear hrec
    cases e2
    exact ⟨oc,Heap.get?_push_of_some _ hoc,⟨vs,t,hd,hv⟩,Zbf hd⟩
  ·have n1:h'.objs.size ≠ B.P:=Nat.ne_of_gt (Nat.lt_of_lt_of_le hPz hfz)
   have n2:h'.objs.size ≠ c':=Nat.ne_of_gt hlt
   have n3:B.P ≠ c':=Nat.ne_of_lt (Nat.lt_of_lt_of_le hPz hge)
   simp [n1,n2,n3]
  ·rcases List.mem_cons.mp hz with rfl | hz
   ·exact .inr hfz
   rcases List.mem_cons.mp hz with rfl | hz
   ·exact .inl List.mem_cons_self
   ·rw [List.mem_singleton.mp hz]; exact .inr hge
 ·refine E13 (S.objs _ (p1 _ List.mem_cons_self)) λ o hP ho _=>?_
  subst ho
  refine kla_makeFunctionHit (cv:=.ref c₁) hcl C.gl (B.hg _ S.top) hcode (L.hd _ S.top) hP (by trivial) (by simp [codeAmong,tab1,rawInt]) (L.bl _ S.top) λ ctv h' tk hx hsz=>?_
  have X:Eff [] s { s with heap:=h'.push (kla_obj "<lambda>" q params body scope [] ((B.mg "__name__").getD .none) c₁ ctv),toks:=tk }:=
   .ext λ b o e=>Heap.get?_push_of_some _ (hx b o e)
  have S':=(S.perm hp).new X hsz (sh:=.is (lamO q params body scope ((B.mg "__name__").getD .none) c₁)) ⟨_,Heap.get?_push_size _ rfl,⟨ctv,rfl⟩,Zjn rfl⟩
  exact hQ _ _ (.ref h'.objs.size) _ ⟨_,c₁,_,rfl,Nat.le_trans lowz hsz,.inr ⟨c₁,rfl⟩,List.mem_cons_of_mem _ List.mem_cons_self,rfl⟩ X.tk S' rfl
theorem Zgh {h:Heap}:∀ {vs:List Value},(∀ v∈vs,∃ x t,v = .str x t)→Vals h vs ((vs.map vstr).map .str)
 | [],_=>rfl
 | v::r,k=>by
  refine E21 (k v List.mem_cons_self) λ x t Y1=>?_
  subst Y1
  exact ⟨_,_,rfl,⟨t,rfl⟩,Zgh λ u hu=>k u (List.mem_cons_of_mem _ hu)⟩
theorem eff_drawn {W:List Addr} {s:Shared} {h':Heap} {tk:Nat} {dr:Drawn} (k:∀ b o,s.heap.get? b=some o→h'.get? b=some o):Eff W s { s with heap:=h',toks:=tk,drawn:=dr }:=
 ⟨λ a o _ e=>k a o e,.of_keep k,rfl,.refl _⟩
theorem EvX.sortedKey {fe e body:Expr} {params:Arguments} {scope:Scope} {p kp pos:Pos} {c a:Addr} {U R:Led} {q x:Str} {ss:List Str} (hf:Ev C σ O fe (.val (.builtin "sorted"))) (he:Ev C σ O e (.ref a)) (hS:OAt R a (.is λ o=>SetO B.prog B.w o ss))
  (L:LamTop B c) (hU:Zbl B.P p q U) (hp:(U++R).Perm O) (hcode:C.env.code = .ref c) (hne:ss ≠ []) (hlt:ss.length≤5) (hn:4≤C.n)
  (K:LamOk B q params body scope x) (hb:∀ (C:Cx B) y c' f,y∈ss→C.env=envX q scope C.env.locals f (.ref c') []→EvX C [(x,some (.str y))] [] body λ d O'=>∃ l,d = .ref l∧O'=[(l,.list [.str y])])
  (hq:C.env.qual ++ "<lambda>" = q) (hdef:autoParam (defaultsOf params C.env=([],[])) tR) (hcl:autoParam (closureFor scope C.env=pure []) tR) (hs:autoParam (Zac [e]=true) tR)
  (hev:autoParam (eval (.Call fe [e] [⟨some "key",.Lambda params body scope p,kp⟩] pos) C.env=(do callWith pos (← eval fe C.env) [] (backTo pos (starEach [e] C.env)) (backToKw pos (keywordEach [⟨some "key",.Lambda params body scope p,kp⟩] C.env)))) tR) :
  EvX C σ O (.Call fe [e] [⟨some "key",.Lambda params body scope p,kp⟩] pos) λ d O'=>∃ (l:Addr) (ys:List Str) (U':Led) (F:Addr × Sh),d = .ref l∧ys.Perm ss∧Zbl B.P p q U'∧O'=(l,.list (ys.map .str))::F::(U'++R):=λ s S Q hQ=>by
 have hzl:sizeLine=16777216:=by decide +kernel
 rw [hev]
 refine wpAny_bind (hf s S _ λ v s₁ t₁ S₁ hv=>?_)
 have hh:v = .builtin "sorted" := hv; subst hh
 refine callWith_kw (EvL.args (.cons he .nil) hs s₁ S₁ _ λ vs s₂ t₂ S₂ hvs=>?_) (by rw [(Zaa hs).1]; rfl) (by rw [(Zaa hs).1]; rfl)
 refine E12 (Vals.one hvs) λ v Y1 hv=>?_
 subst Y1
 have hh:v = .ref a:=hv; subst hh
 refine kws_cons (EvX.lam L hU hp hcode hq hdef hcl s₂ S₂ _ λ v s₃ d O₁ hd t₃ S₃ hv=>?_)
 refine E35 hd λ f c' U' Y1 hfT hU' hc' Y2=>?_
 try clear hd
 subst Y1
 subst Y2
 have hh:v = .ref f:=hv; subst hh
 refine kws_nil ?_
 refine call_function_entry_kw kind_sorted plain_sorted entry_sorted (ksk_s1 _ _) ?_
 unfold Builtin.«sorted»
 refine wpAny_bind (m:=checkCount "sorted" 1 1 _) (wpAny_pure ?_)
 refine E13 (S₃.objs (a,.is λ o=>SetO B.prog B.w o ss) (List.mem_cons_of_mem _ (List.mem_append_right _ hS.mem))) λ oS hoS hSet _=>?_
 refine wpAny_bind (set_collect (A:=C.A.in1) C.room.handled hoS hSet hne (by exact Wn [_] (.a (.v 0) (.n 1)) (.n 100) [(1,.v 0,.n 5)] rfl hlt) λ h₄ tk dr vs k₄ hvs=>?_)
 have X₄:Eff [] s₃ { s₃ with heap:=h₄,toks:=tk,drawn:=dr }:=eff_drawn k₄
 have S₄:=S₃.ext X₄
 generalize ({ s₃ with heap:=h₄,toks:=tk,drawn:=dr }:Shared)=s₄ at X₄ S₄ ⊢
 have hlen:vs.length=ss.length:=by have:=hvs.perm.length_eq; rwa [List.length_map] at this
 refine wpAny_bind (wpAny_newList ?_ (by rw [hzl]; exact Wn [_,_] (.v 0) (.n 16777216) [(1,.v 0,.v 1),(1,.v 1,.n 5)] rfl (We hlen) hlt))
 have X₅:Eff [] s₄ { s₄ with heap:=s₄.heap.push { cls:=.type "list",data:=.seq vs.toArray } }:=Eff.push _
 have hl₅:(s₄.heap.push { cls:=.type "list",data:=.seq vs.toArray }).get? s₄.heap.objs.size=some (seqObj "list" vs.toArray 0):=Heap.get?_push_size _ rfl
 refine E13 (S₄.objs (f,.is (lamO q params body scope ((B.mg "__name__").getD .none) c')) List.mem_cons_self) λ of hof hlo _=>?_
 refine E11 hlo λ ctv Y1=>?_
 try clear hlo
 subst Y1
 refine E13 (S₄.objs (c',.is (CodeO q)) (List.mem_cons_of_mem _ (List.mem_append_left _ hc'))) λ oc hoc Y1 _=>?_
 refine E22 Y1 λ ws tq hcd hcv=>?_
 clear Y1
 have hsz:s₄.heap.objs.size≤s₄.heap.objs.size:=Nat.le_refl _
 generalize hS5:({ s₄ with heap:=s₄.heap.push { cls:=.type "list",data:=.seq vs.toArray } }:Shared)=s₅ at X₅ ⊢
 have hl₅':s₅.heap.get? s₄.heap.objs.size=some (seqObj "list" vs.toArray 0):=by rw [← hS5]; exact hl₅
 refine wpAny_bind (wpAny_holding (wpAny_call_entry_kw slot_list_sort ⟨_,hl₅',rfl⟩ entry_list_sort ?body (ksk_l1 _ _)))
 case body=>
  show wpAny (model B.prog B.w) C.A.in1.in1 (Builtin.«list.sort» ⟨[.ref s₄.heap.objs.size],[(Str.ofString "key",.ref f)]⟩) _ _ _
  rw [ksk_t1]
  have room2:Room C.A.in1.in1 2:=(C.room.in1 (m:=C.n - 1) (by lia)).in1 (m:=2) (by lia)
  refine key_sort (s₀:=s₄) (vs:=vs) room2.units X₅ hl₅' hsz (by rw [hlen]; exact hlt) ?_ λ s₆ out cc X₆ hout ho₆=>?_
  ·refine lam_key (ok:=λ y=>y∈ss) K (n:=1) room2 S₄.top hfT hof ⟨c',oc,ws,tq,rfl,hoc,hcd,hcv⟩ (λ v hv=>?_) λ C' y hy hC'=>hb C' y c' f hy hC'
   refine E21 (hvs.isS v hv) λ y t e=>?_
   refine ⟨y,t,e,hvs.perm.mem_iff.mp ?_⟩
   have:=List.mem_map_of_mem (f:=vstr) hv
   rw [e] at this; exact this
  ·refine ⟨_,rfl,wpAny_pure ⟨_,rfl,?_⟩⟩
   have X:=X₄.trans X₆
   have S₆:=S₄.new X₆ (a:=s₄.heap.objs.size) (sh:=.list ((out.toList.map vstr).map .str)) (Nat.le_refl _) ⟨out,⟨cc,ho₆⟩,Zgh λ v hv=>hvs.isS v (hout.mem_iff.mp hv)⟩
   exact hQ _ _ (.ref s₄.heap.objs.size) _ ⟨_,_,_,_,rfl,(hout.map _).trans hvs.perm,hU',rfl⟩ (((t₁.trans t₂).trans t₃).trans X.tk) S₆ rfl
end
section
open PySem PySem.Builtin PySem.W PySem.Calls PyProof.Rows
set_option maxRecDepth 100000
set_option maxHeartbeats 2000000
theorem find7:∀ i < 8,((List.range (SetTable.runEnd 7 i+1 - i)).find? λ k=>((Array.replicate (7+1) (none:Option Nat)).getD (i+k) (some 0)).isNone)=some 0:=by decide
theorem find15:∀ i < 16,((List.range (SetTable.runEnd 15 i+1 - i)).find? λ k=>((Array.replicate (15+1) (none:Option Nat)).getD (i+k) (some 0)).isNone)=some 0:=by decide
theorem live7:∀ i < 8,((List.range (7+1)).filterMap λ j=>((((Array.replicate (7+1) (none:Option Nat)).setIfInBounds i (some 0)).getD j none).map (j,·)))=[(i,0)]:=by decide
theorem live15:∀ i < 16,((List.range (15+1)).filterMap λ j=>((((Array.replicate (15+1) (none:Option Nat)).setIfInBounds i (some 0)).getD j none).map (j,·)))=[(i,0)]:=by decide
theorem Zgm {mask:Nat} {h:Int} (hf:∀ i < mask+1,((List.range (SetTable.runEnd mask i+1 - i)).find? λ k=>((Array.replicate (mask+1) (none:Option Nat)).getD (i+k) (some 0)).isNone)=some 0) :
  SetTable.layClean mask #[h]=some ((Array.replicate (mask+1) none).setIfInBounds (SetTable.bits h % (mask+1)) (some 0)):=by
 have hi:SetTable.bits h % (mask+1) < mask+1:=Nat.mod_lt _ (Nat.succ_pos _)
 have hfree:∀ fuel p,SetTable.layClean.free mask (Array.replicate (mask+1) none) (fuel+1) (SetTable.bits h % (mask+1)) p=some (SetTable.bits h % (mask+1)):=λ fuel p=>by
  unfold SetTable.layClean.free
  rw [hf _ hi]; rfl
 unfold SetTable.layClean
 simp only [List.foldl_toArray',List.size_toArray,List.foldl_cons,List.foldl_nil]
 rw [show SetTable.turns mask=(mask+14)+1 from rfl]
 simp only [Option.bind_eq_bind,Option.bind_some]
 rw [hfree]; rfl
theorem laid_one {mask finger moves:Nat} {led plain:Bool} {h:Int} (hm:mask=7∨mask=15):∃ i,SetTable.laid mask finger moves led plain #[h]=some ({ mask:=mask,place:=#[i],dummies:=#[],finger:=finger,led:=led,moves:=moves,plain:=plain },#[0]):=by
 rcases hm with rfl | rfl
 ·refine ⟨SetTable.bits h % (7+1),?_⟩
  unfold SetTable.laid
  rw [Zgm find7]
  simp only [Option.bind_eq_bind,Option.bind_some]
  rw [live7 _ (Nat.mod_lt _ (Nat.succ_pos _))]; rfl
 ·refine ⟨SetTable.bits h % (15+1),?_⟩
  unfold SetTable.laid
  rw [Zgm find15]
  simp only [Option.bind_eq_bind,Option.bind_some]
  rw [live15 _ (Nat.mod_lt _ (Nat.succ_pos _))]; rfl
theorem Zil:∀ n < 11,SetTable.sizeAbove n - 1=7∨SetTable.sizeAbove n - 1=15:=by decide
theorem above_fits:∀ n < 11,SetTable.sizeAbove n≤16:=by decide
section
variable {prog:Program} {w:World} {A:Around} {E:Value→Shared→Prop} {s:Shared} {a:Addr}
theorem array_one {α : Type} {es:Array α} (h:es.size=1):∃ e,es = #[e]:=by
 obtain ⟨l⟩:=es
 cases l with
 | nil=>cases h
 | cons e r=>cases r with
  | nil=>exact ⟨e,rfl⟩
  | cons _ _=>cases h
theorem setRoom1 {o:Obj} {x:Str} {n:Nat} {Q:Unit→Shared→Prop} (ho:s.heap.get? a=some o) (hS:SetO prog w o [x]) (hn:n≤4)
  (h:∀ h' o',h'.get? a=some o'→SetO prog w o' [x]→Heap.SameBut a s.heap h'→Q () { s with heap:=h' }):wpAny (model prog w) A (setRoomFor a n) Q E s:=by
 have hzl:sizeLine=16777216:=by decide +kernel
 obtain ⟨es,ep,t,hd,hel,hp,hf,hled,hpl⟩:=hS.at_
 have hz:es.size=1:=hS.len hd
 refine E11 (array_one hz) λ e Y1=>?_
 subst Y1
 unfold setRoomFor
 refine wpAny_bind (wpAny_setState_of ho hd hf ?_)
 dsimp only
 unfold SetTable.roomFor
 have hps:t.place.size=1:=by
  have:=hf
  simp only [SetTable.fits,Bool.and_eq_true,beq_iff_eq] at this
  simpa using this.1
 split
 ·rename_i wanted hw
  split at hw
  ·cases hw
   rw [hps]
   generalize hwd:(1+n) * 2=wd
   have hwl:wd < 11:=by exact Wn [_,_] (.a (.v 0) (.n 1)) (.n 11) [(1,.v 0,.r (.a (.n 1) (.v 1)) 2),(2,.v 1,.n 4)] rfl (Wf hwd) hn
   unfold setRelay
   refine wpAny_bind (wpAny_setState_of ho hd hf ?_)
   dsimp only
   rw [if_neg (by have:=above_fits wd hwl; lia)]
   refine E11 (laid_one (finger:=t.finger) (moves:=t.movedTo (SetTable.sizeAbove wd - 1)) (led:=t.led) (plain:=t.plain) (h:=e.1) (Zil wd hwl)) λ i hi=>?_
   have hr:t.relaid ((#[e]:Array (Int × Value)).map (·.1)) wd=some ({ mask:=SetTable.sizeAbove wd - 1,place:=#[i],dummies:=#[],finger:=t.finger,led:=t.led,moves:=t.movedTo (SetTable.sizeAbove wd - 1),plain:=t.plain },#[0]):=by
    show SetTable.laid _ _ _ _ _ ((#[e]:Array (Int × Value)).map (·.1))=_
    rw [show ((#[e]:Array (Int × Value)).map (·.1)) = #[e.1] by simp]; exact hi
   rw [hr]
   refine wpAny_bind (wpAny_pure ?_)
   have hfit:({ mask:=SetTable.sizeAbove wd - 1,place:=#[i],dummies:=#[],finger:=t.finger,led:=t.led,moves:=t.movedTo (SetTable.sizeAbove wd - 1),plain:=t.plain }:SetTable).fits 1=true:=by
    rcases Zil wd hwl with q | q <;> rw [q] <;> rfl
   exact Zkc ho hd (by show (1:Nat)≤1000; exact Wlb rfl) λ h' hg hs=>h h' _ hg ⟨hS.ex,#[e],_,_,rfl,hel,hp,hfit,hled,λ _=>hpl (by simp)⟩ hs
  ·cases hw
 ·exact wpAny_pure (h s.heap o ho hS ⟨rfl,λ _ _=>rfl⟩)
end
section
variable {prog:Program} {w:World} {A:Around} {E:Value→Shared→Prop} {s s₀:Shared} {a:Addr} {ss:List Str} {W:List Addr}
theorem eff_set {o:Obj} {h':Heap} {tk:Nat} (X:Eff W s₀ s) (ho:s.heap.get? a=some o) (hS:SetO prog w o ss) (la:s₀.heap.objs.size≤a∨a∈W) (hs:Heap.SameBut a s.heap h'):Eff W s₀ { s with heap:=h',toks:=tk }:=
 X.after (.but (t:=tk) hs (NoTup.not ho (.inl (by rw [hS.ex.1]; decide)))) la
theorem setAddS {o:Obj} {k:Str} {t:Tok} {Q:Bool→Shared→Prop} (X:Eff W s₀ s) (ho:s.heap.get? a=some o) (hS:SetO prog w o ss) (la:s₀.heap.objs.size≤a∨a∈W) (hk:k ∉ ss) (hr:ss.length < 100)
  (h:∀ h' o' tk,h'.get? a=some o'→SetO prog w o' (ss++[k])→Heap.SameBut a s.heap h'→Eff W s₀ { s with heap:=h',toks:=tk }→Q true { s with heap:=h',toks:=tk }) :
  wpAny (model prog w) A (setAdd a (.str k t)) Q E s:=by
 unfold setAdd
 refine wpAny_holding ?_
 refine wpAny_bind ((strKind prog w).pyHash (k:=k) (beq_self_eq_true k) ?_)
 exact setAddH (s:={ s with toks:=s.toks+1 }) ho hS hk hr λ h' o' hg hS' hs=>h h' o' _ hg hS' hs (eff_set X ho hS la hs)
theorem upd_loop {I:Addr} {fp:List Addr} {St:Nat→Heap→Prop} {ks:List Str} {R:Result→Shared→Prop} (Wk:Walks prog w A.in1 I fp [I] ks.length (λ i v=>∃ k t,ks[i]? = some k∧v = .str k t) St) (hSf:a ∉ fp) (nd:(ss++ks).Nodup) (hz:(ss++ks).length < 100) (la:s₀.heap.objs.size≤a∨a∈W) (lI:s₀.heap.objs.size≤I)
  (hI:∀ i h,St i h→∀ vs,¬ Zgf h I vs) :
  ∀ (n i:Nat) (s:Shared),ks.length - i=n→i≤ks.length→St i s.heap→Eff W s₀ s→(∃ o,s.heap.get? a=some o∧SetO prog w o (ss++ks.take i))→
   (∀ s',Eff W s₀ s'→(∃ o,s'.heap.get? a=some o∧SetO prog w o (ss++ks))→R (.ok (.ret .none)) s')→
   codeAny (model prog w) A (.builtin "set.update.loop" ⟨[.ref a,.ref I],[]⟩) R s:=by
 have haI:a ∉ [I]:=λ q=>hSf (Wk.sub _ q)
 have step:∀ {s:Shared} {h':Heap} {tk:Nat} {i:Nat},Eff W s₀ s→St i s.heap→(∀ b o,b ∉ [I]→s.heap.get? b=some o→h'.get? b=some o)→Eff W s₀ { s with heap:=h',toks:=tk }:=λ {s h' tk i} X st k=>
  X.after (a:=I) ⟨λ p o n e=>k p o n e,.of_but (a:=I) (λ b o n e=>k b o (by simpa using n) e) (hI _ _ st),rfl,.refl _⟩ (.inl lI)
 intro n
 induction n with
 | zero=>
  intro i s hk hi hst X hq0 hR
  refine E12 hq0 λ o ho hS=>?_
  try clear hq0
  have hin:i=ks.length:=by lia
  subst hin
  refine codeAny_builtin F.entry_set_update_loop ?_
  rw [Around.under_plainId F.plain_set_update_loop _]
  show wpAny _ A.in1 (pyNext (.ref I) >>= _) _ _ s
  refine wpAny_bind (Wk.done s _ _ hst λ h' tk k=>?_)
  show wpAny _ A.in1 (ret Value.none) _ _ _
  rw [List.take_length] at hS
  exact wpAny_pure (hR _ (step X hst k) ⟨o,k _ _ haI ho,hS⟩)
 | succ n ih=>
  intro i s hk hi hst X hq0 hR
  refine E12 hq0 λ o ho hS=>?_
  try clear hq0
  have hlt:i < ks.length:=by lia
  refine codeAny_builtin F.entry_set_update_loop ?_
  rw [Around.under_plainId F.plain_set_update_loop _]
  show wpAny _ A.in1 (pyNext (.ref I) >>= _) _ _ s
  refine wpAny_bind (Wk.item i s _ _ hlt hst λ v h' tk hP hst' k=>?_)
  refine E22 hP λ x t hx Y1=>?_
  try clear hP
  subst Y1
  show wpAny _ A.in1 (holding [Value.str x t] (setAdd a (.str x t)) >>= _) _ _ _
  have htk:ks.take (i+1)=ks.take i++[x]:=by rw [List.take_add_one,hx]; rfl
  have hx1:x ∉ ss++ks.take i:=by
   have hsub:(ss++ks.take (i+1)).Nodup:=nd.sublist ((List.Sublist.refl ss).append (List.take_sublist _ _))
   rw [htk,← List.append_assoc,List.nodup_append] at hsub
   exact λ q=>hsub.2.2 x q x List.mem_cons_self rfl
  have hx2:(ss++ks.take i).length < 100:=by
   have:(ss++ks.take i).length≤(ss++ks).length:=((List.Sublist.refl ss).append (List.take_sublist _ _)).length_le
   exact Wn [_,_] (.a (.v 0) (.n 1)) (.n 100) [(1,.v 0,.v 1),(1,.a (.v 1) (.n 1),.n 100)] rfl this hz
  refine wpAny_bind (wpAny_holding (setAddS (step X hst k) (k _ _ haI ho) hS la hx1 hx2 λ h'' o'' tk'' hg hS'' hs X''=>?_))
  refine wpAny_pure ⟨plainId_quiet F.plain_set_update_loop _,ih (i+1) _ (by lia) hlt (Wk.frame _ _ _ hst' λ b hb o e=>?_) X'' ⟨o'',hg,by rw [htk,← List.append_assoc]; exact hS''⟩ hR⟩
  exact (hs.2 b (λ q:b=a=>hSf (q ▸ hb))).trans e
theorem star_dict {o:Obj} {d:Addr} {kvs:List (Str × Value)} {ks:List Str} {x:Str} {Q:Unit→Shared→Prop} (hh:A.handled=none) (hds:(d==sysModules)=false) (hm:s.heap.DictOf (strKind prog w) d kvs) (hks:kvs.map (·.1)=ks) (hxk:x ∉ ks) (h4:ks.length≤4) (had:a ≠ d)
  (X:Eff W s₀ s) (la:s₀.heap.objs.size≤a∨a∈W) (lz:s₀.heap.objs.size≤s.heap.objs.size) (ho:s.heap.get? a=some o) (hS:SetO prog w o [x]) (h:∀ s' o',Eff W s₀ s'→s'.heap.get? a=some o'→SetO prog w o' (x::ks)→Q () s') :
  wpAny (model prog w) A (setDisplayStar a (.ref d)) Q E s:=by
 have hT:=hm.typeIs
 have hkl:kvs.length=ks.length:=by rw [← hks,List.length_map]
 have nd:([x]++ks).Nodup:=by
  refine E36 hm λ _ _ _ _ _ _ _ _ hn=>?_
  try clear hm
  rw [hks] at hn
  exact List.nodup_cons.mpr ⟨hxk,hn⟩
 unfold setDisplayStar
 refine wpAny_bind (wpAny_isInstance hT F.sub_dict_set ?_)
 rw [if_neg Bool.false_ne_true]
 refine wpAny_bind (wpAny_isInstance hT F.sub_dict_frozenset ?_)
 refine wpAny_bind (wpAny_askSetting ?_)
 dsimp only
 cases hb:w.params.followText "set-display-star-reads-storage"
 ·rw [show (model prog w).w.params.followText "set-display-star-reads-storage" = false from hb]
  rw [if_neg Bool.false_ne_true]
  dsimp only
  rw [if_neg Bool.false_ne_true]
  refine wpAny_bind (wpAny_typeOf hT ?_)
  rw [if_pos (beq_self_eq_true _)]
  refine wpAny_bind (wpAny_rule ?_)
  rw [if_neg (by rw [hds]; exact Bool.false_ne_true)]
  refine E36 (id hm) λ od es ep hod hcd hdd hkd hpd hnd=>?_
  have hlen:ks.length=es.size:=by rw [← hkl,← hpd.length]; simp
  refine wpAny_bind (wpAny_dictEpoch hod hdd ?_)
  refine wpAny_bind (wpAny_dictEntries hod hdd ?_)
  refine wpAny_bind (setRoom1 ho hS (by exact Wn [_,_] (.v 0) (.n 4) [(1,.v 0,.v 1),(1,.v 1,.n 4)] rfl (Wf hlen) h4) λ h₁ o₁ ho₁ hS₁ hs₁=>?_)
  have X₁:Eff W s₀ { s with heap:=h₁ }:=eff_set (tk:=s.toks) X ho hS la hs₁
  refine wpAny_bind ?_
  rw [Std.Legacy.Range.forIn_eq_forIn_range']
  simp only [Std.Legacy.Range.size,Nat.sub_zero,Nat.add_sub_cancel,Nat.div_one]
  refine wpAny_forIn_list _
   (λ rest _ s'=>∃ i,rest=List.range' i (es.size - i)∧i≤es.size∧Eff W s₀ s'∧s'.heap.get? d=some od∧∃ o',s'.heap.get? a=some o'∧SetO prog w o' ([x]++ks.take i))
   _ ?_ ?_ _ _ ⟨0,by simp,Nat.zero_le _,X₁,(hs₁.2 d (Ne.symm had)).trans hod,o₁,ho₁,by simpa using hS₁⟩
  ·intro y rest b s' hq0
   refine E15 hq0 λ i hr hi X' hod' Y1=>?_
   try clear hq0
   refine E12 Y1 λ o' ho' hS'=>?_
   clear Y1
   have hlt:i < es.size:=by
    rcases Nat.lt_or_ge i es.size with h | h
    ·exact h
    ·rw [Nat.sub_eq_zero_of_le h] at hr; simp at hr
   obtain ⟨rfl,hrest⟩:y=i∧rest=List.range' (i+1) (es.size - (i+1)):=by
    have e:es.size - i=(es.size - (i+1))+1:=by lia
    rw [e,List.range'_succ] at hr
    injection hr with h1 h2
    exact ⟨h1,h2⟩
   refine wpAny_bind (wpAny_dictEntries hod' hdd ?_)
   rw [Array.getElem?_eq_getElem hlt]
   obtain ⟨⟨k,v⟩,hkv⟩:∃ kv,kvs[y]? = some kv:=⟨kvs[y]'(by rw [hkl,hlen]; exact hlt),List.getElem?_eq_getElem _⟩
   refine E02 (hpd.get? (e:=es[y]) (by simp [hlt]) hkv) λ hkey hval=>?_
   refine E12 (hkd es[y] (Array.getElem_mem hlt)) λ k' hkey' hhash=>?_
   obtain rfl:k'=k:=(strKind prog w).inj _ _ _ hkey' hkey
   refine E11 (Value.isStrOf_shape hkey) λ t hkt=>?_
   have hky:ks[y]? = some k':=by rw [← hks,List.getElem?_map,hkv]; rfl
   have htk:ks.take (y+1)=ks.take y++[k']:=by rw [List.take_add_one,hky]; rfl
   have hx1:k' ∉ [x]++ks.take y:=by
    have hsub:([x]++ks.take (y+1)).Nodup:=nd.sublist ((List.Sublist.refl [x]).append (List.take_sublist _ _))
    rw [htk,← List.append_assoc,List.nodup_append] at hsub
    exact λ q=>hsub.2.2 k' q k' List.mem_cons_self rfl
   dsimp only
   rw [hhash,hkt]
   refine wpAny_bind (wpAny_holding (wpAny_bind (setAddH ho' hS' hx1 (by simp; lia) λ h'' o'' hg hS'' hs''=>wpAny_pure ?_)))
   have hod'':h''.get? d=some od:=(hs''.2 d (Ne.symm had)).trans hod'
   refine wpAny_bind (wpAny_dictEpoch hod'' hdd ?_)
   rw [if_neg (by simp)]
   exact wpAny_pure ⟨y+1,hrest,hlt,eff_set (tk:=s'.toks) X' ho' hS' la hs'',hod'',o'',hg,by rw [htk,← List.append_assoc]; exact hS''⟩
  ·intro b s' hq0
   refine E15 hq0 λ i hr hi X' hod' Y1=>?_
   try clear hq0
   refine E12 Y1 λ o' ho' hS'=>?_
   clear Y1
   have hin:i=ks.length:=by
    rcases Nat.lt_or_ge i es.size with h | h
    ·have e:es.size - i=(es.size - (i+1))+1:=by lia
     rw [e,List.range'_succ] at hr; cases hr
    ·exact Nat.le_antisymm (Wn [_,_,_] (.v 0) (.v 1) [(1,.v 0,.v 2),(1,.v 2,.v 1)] rfl hi (Wf hlen)) (Wn [_,_,_] (.v 0) (.v 1) [(1,.v 2,.v 1),(1,.v 0,.v 2)] rfl h (We hlen))
   rw [hin,List.take_length] at hS'
   exact wpAny_pure (h s' o' X' ho' hS')
 ·rw [show (model prog w).w.params.followText "set-display-star-reads-storage" = true from hb]
  rw [if_pos rfl]
  dsimp only
  obtain ⟨ep,hat⟩:=hm.dictAt
  refine wpAny_bind (wpAny_pyIter_dict hds hat ?_)
  generalize hI:s.heap.objs.size=I
  have hne:d ≠ I:=by
   rw [← hI]
   exact Nat.ne_of_lt (Heap.lt_size (hat.choose_spec.choose_spec.1))
  have lI:s₀.heap.objs.size≤I:=hI ▸ lz
  have haI:a < I:=hI ▸ Heap.lt_size ho
  have hit:(s.heap.push { cls:=.type "dict_keyiterator",data:=.fields #[.ref d,.int 0 0,.int kvs.length 0,.int ep 0] }).get? I=some { cls:=.type "dict_keyiterator",data:=.fields #[.ref d,.int 0 0,.int kvs.length 0,.int ep 0] }:=hI ▸ Heap.get?_push_size _ rfl
  have W0:=Walks.dictKeys (prog:=prog) (w:=w) (knd:=strKind prog w) (A:=A.in1) hh I d hne kvs ep
  have Wk:Walks prog w A.in1 I [I,d] [I] ks.length (λ i v=>∃ k t,ks[i]? = some k∧v = .str k t) (λ i h=>h.IsKeyIter I d i kvs.length ep∧h.DictAt (strKind prog w) d kvs ep):=by
   rw [← hkl]
   exact ⟨W0.sub,W0.frame,λ i s Q E hi st hQ=>W0.item i s Q E hi st λ v h' tk ⟨k,y,e1,e2⟩=>hQ v h' tk (by
    refine E11 (Value.isStrOf_shape e2) λ t e3=>?_
    exact ⟨k,t,by rw [← hks,List.getElem?_map,e1]; rfl,e3⟩),W0.done,W0.self⟩
  refine wpAny_bind (wpAny_runValue ?_)
  refine upd_loop (s₀:=s₀) (ss:=[x]) Wk (by simp [Nat.ne_of_lt haI,had]) nd (by simp; exact Wn [_] (.a (.a (.v 0) (.n 1)) (.n 1)) (.n 100) [(1,.v 0,.n 4)] rfl h4) la lI (λ i h' st vs=>?_) ks.length 0 _ (Nat.sub_zero _) (Nat.zero_le _) ⟨⟨_,hit,rfl,?_⟩,hat.at' λ o e=>Heap.get?_push_of_some _ e⟩ (X.trans ((Eff.push (t:=s.toks) _).mono λ _ q=>nomatch q)) ⟨o,Heap.get?_push_of_some _ ho,by simpa using hS⟩ λ s' X' ⟨o',ho',hS'⟩=>wpAny_pure (h s' o' X' ho' hS')
  ·refine E02 st λ Y1 _=>?_
   try clear st
   refine E13 Y1 λ o e hc _=>?_
   clear Y1
   exact NoTup.not e (.inl (by rw [hc]; decide)) vs
  ·rfl
end
end
section
open PySem PySem.Builtin PySem.W PySem.Calls PyProof.Rows
set_option maxRecDepth 100000
set_option maxHeartbeats 2000000
variable {B:Bs} {C:Cx B} {σ σ':Loc} {O O':Led}
theorem setO_fresh {prog:Program} {w:World}:SetO prog w { cls:=.type "set",dict:=none,data:=.set #[] 0 (.fresh 0 0 (!Zeu w)) } []:=
 ⟨⟨rfl,rfl,rfl⟩,#[],0,_,rfl,λ e he=>by simp at he,List.Perm.refl _,by rfl,rfl,λ h=>absurd rfl h⟩
theorem main_mod {prog:Program} {w:World} {A:Around} {E:Value→Shared→Prop} {s:Shared} {env:Env} {c P:Addr} {Q:Bool→Shared→Prop} (hc:env.code = .ref c) (hd:CodeHd s.heap c P) (h:∀ b,Q b s):wpAny (model prog w) A (inMainModule env) Q E s:=by
 refine E51 hd λ o vs file tf flags Y1=>?_
 try clear hd
 refine E47 Y1 λ tg inF text tt ho _ hdat _ _ h18 _=>?_
 clear Y1
 unfold inMainModule
 rw [hc]
 split
 ·exact wpAny_pure (h _)
 ·refine wpAny_bind (wpAny_fieldsOf ho hdat ?_)
  split
  ·exact wpAny_bind (wpAny_askSetting (wpAny_pure (h _)))
  ·exact wpAny_pure (h _)
theorem newSetO {prog:Program} {w:World} {A:Around} {E:Value→Shared→Prop} {s:Shared} {Q:Value→Shared→Prop} (h:Q (.ref s.heap.objs.size) { s with heap:=s.heap.push { cls:=.type "set",dict:=none,data:=.set #[] 0 (.fresh 0 0 (!Zeu w)) } }) :
  wpAny (model prog w) A (newSet (.type "set")) Q E s:=by
 unfold newSet setsByText
 refine wpAny_bind (wpAny_bind (wpAny_askSetting (wpAny_pure ?_)))
 dsimp only
 simp only [newObj]
 exact wpAny_bind (wpAny_alloc (wpAny_pure h))
theorem setDisp2 {prog:Program} {w:World} {A:Around} {E:Value→Shared→Prop} {s:Shared} {Q:Value→Shared→Prop} {t₀ t₁:Sem Value} {b:Bool}
  (h:wpAny (model prog w) A t₀ (λ v s₁=>wpAny (model prog w) A (setAdd s.heap.objs.size v) (λ _ s₂=>wpAny (model prog w) A t₁ (λ u s₃=>wpAny (model prog w) A (setDisplayStar s.heap.objs.size u) (λ _ s₄=>Q (.ref s.heap.objs.size) s₄) E s₃) E s₂) E s₁) E
   { s with heap:=s.heap.push { cls:=.type "set",dict:=none,data:=.set #[] 0 (.fresh 0 0 (!Zeu w)) } }) :
  wpAny (model prog w) A (setDisplay .oneByOne b [(false,t₀),(true,t₁)]) Q E s:=by
 unfold setDisplay
 dsimp only
 rw [if_neg (by decide)]
 refine wpAny_bind (newSetO ?_)
 dsimp only
 refine wpAny_bind (wpAny_holding ?_)
 show wpAny _ _ (evalAll [t₀] >>= _) _ _ _
 refine wpAny_bind (evalAll_cons (wpAny_mono h (λ v s₁ h₁=>evalAll_nil ?_) λ _ _ x=>x))
 refine wpAny_bind (wpAny_holding ?_)
 refine wpAny_bind (m:=forIn [v] PUnit.unit _) ?_
 rw [List.forIn_cons]
 refine wpAny_bind (wpAny_bind (wpAny_mono h₁ (λ _ s₂ h₂=>wpAny_pure ?_) λ _ _ x=>x))
 dsimp only
 rw [List.forIn_nil]
 refine wpAny_pure ?_
 rw [if_neg (by decide)]
 refine wpAny_pure ?_
 show wpAny _ _ (forIn [(true,t₁)] PUnit.unit _ >>= _) _ _ _
 rw [List.forIn_cons]
 refine wpAny_bind ?_
 refine wpAny_bind ?_
 refine wpAny_bind (wpAny_mono h₂ (λ u s₃ h₃=>?_) λ _ _ x=>x)
 dsimp only
 rw [if_pos rfl]
 refine wpAny_bind (wpAny_holding (wpAny_mono h₃ (λ _ s₄ h₄=>?_) λ _ _ x=>x))
 refine wpAny_pure ?_
 dsimp only
 rw [List.forIn_nil]
 exact wpAny_pure (wpAny_pure (wpAny_pure h₄))
theorem EvX.setStar {e₀ e₁:Expr} {sp pos:Pos} {c d:Addr} {x:Str} {es:List (Str × D)} (L:LamTop B c) (hcode:C.env.code = .ref c) (h₀:∀ O,Ev C σ O e₀ (.str x)) (h₁:∀ O,Ev C σ O e₁ (.ref d)) (hd:OAt O d (.dict es)) (h4:es.length≤4) (hx:x ∉ es.map (·.1))
  (hs:autoParam (Zac [e₀]=true) tR) (hst:autoParam (∀ env,starEach [.Starred e₁ sp] env=[(true,eval e₁ env)]) tI) :
  EvX C σ O (.Set [e₀,.Starred e₁ sp] 0 pos) λ r O'=>∃ a,r = .ref a∧O'=(a,.is λ o=>SetO B.prog B.w o (x::es.map (·.1)))::O:=λ s S Q hQ=>by
 rw [arm_eval_Set]
 refine wpAny_bind (wpAny_standAt ?_)
 refine wpAny_bind (main_mod hcode (L.hd _ S.top) λ b=>?_)
 have he:starEach [e₀,.Starred e₁ sp] C.env=[(false,eval e₀ C.env),(true,eval e₁ C.env)]:=by
  cases e₀ <;> first | (show _=_; rfl) | (cases hs)
 rw [he]
 show wpAny _ _ (setDisplay .oneByOne b [(false,(do let v ← eval e₀ C.env; standAt pos; pure v)),(true,(do let v ← eval e₁ C.env; standAt pos; pure v))]) _ _ _
 refine setDisp2 ?_
 have X₁:Eff [] s { s with heap:=s.heap.push { cls:=.type "set",dict:=none,data:=.set #[] 0 (.fresh 0 0 (!Zeu B.w)) } }:=Eff.push _
 have S₁:=S.new X₁ (Nat.le_refl _) (sh:=.is λ o=>SetO B.prog B.w o []) ⟨_,Heap.get?_push_size _ rfl,setO_fresh,.inl (by show (Value.type "set") ≠ _; decide)⟩
 have had:s.heap.objs.size ≠ d:=Nat.ne_of_gt (ShAt.lt (S.objs _ hd.mem))
 generalize hA:s.heap.objs.size=a at S₁ had ⊢
 generalize ({ s with heap:=s.heap.push { cls:=.type "set",dict:=none,data:=.set #[] 0 (.fresh 0 0 (!Zeu B.w)) } }:Shared)=s₁ at X₁ S₁ ⊢
 refine wpAny_bind (h₀ _ s₁ S₁ _ λ v s₂ t₂ S₂ hv=>wpAny_bind (wpAny_standAt (wpAny_pure ?_)))
 refine E11 hv λ t Y1=>?_
 try clear hv
 subst Y1
 refine E13 (S₂.objs (a,.is λ o=>SetO B.prog B.w o []) List.mem_cons_self) λ o₂ ho₂ hS₂ n₂=>?_
 refine setAddS (Eff.refl [a] s₂) ho₂ hS₂ (.inr List.mem_cons_self) (by simp) (by decide) λ h₃ o₃ tk hg hS₃ hs₃ X₃=>?_
 have S₃:=S₂.put (sh:=.is λ o=>SetO B.prog B.w o [x]) .z X₃ ⟨o₃,hg,hS₃,.inl (by rw [hS₃.ex.1]; decide)⟩
 refine wpAny_bind (h₁ _ _ S₃ _ λ u s₄ t₄ S₄ hu=>wpAny_bind (wpAny_standAt (wpAny_pure ?_)))
 have hh:u = .ref d:=hu; subst hh
 refine E13 (S₄.objs (a,.is λ o=>SetO B.prog B.w o [x]) List.mem_cons_self) λ o₄ ho₄ hS₄ n₄=>?_
 refine E13 (S₄.objs _ (List.mem_cons_of_mem _ hd.mem)) λ kvs hm hkv _=>?_
 refine star_dict (W:=[a]) C.room.handled ?_ hm hkv hx (by rw [List.length_map]; exact h4) had (Eff.refl [a] s₄) (.inr List.mem_cons_self) (Nat.le_refl _) ho₄ hS₄ λ s₅ o₅ X₅ ho₅ hS₅=>?_
 ·exact beq_eq_false_iff_ne.mpr λ e=>S.low hd.mem (by rw [show (d,Sh.dict es).1=sysModules from e]; exact B.big)
 have S₅:=S₄.put (sh:=.is λ o=>SetO B.prog B.w o (x::es.map (·.1))) .z X₅ ⟨o₅,ho₅,hS₅,.inl (by rw [hS₅.ex.1]; decide)⟩
 exact hQ _ _ (.ref a) _ ⟨a,rfl,rfl⟩ (((X₁.tk.trans t₂).trans (X₃.tk.trans t₄)).trans X₅.tk) S₅ rfl
end
section
open PySem PySem.Builtin PySem.W PySem.Calls PyProof.Rows Builtin.ObjectAttr
set_option maxRecDepth 100000
set_option maxHeartbeats 2000000
theorem fn_lk_get:typeLookup (.type "function") "__get__" = pure (some (.builtin "function.__get__")):=by rw [typeLookup_type,builtinLookup_eq_fast]; kernel_rfl
theorem fn_lk_set:typeLookup (.type "function") "__set__" = pure none:=by rw [typeLookup_type,builtinLookup_eq_fast]; kernel_rfl
theorem fn_lk_del:typeLookup (.type "function") "__delete__" = pure none:=by rw [typeLookup_type,builtinLookup_eq_fast]; kernel_rfl
section
variable {prog:Program} {w:World} {A:Around} {E:Value→Shared→Prop} {h:Heap} {g:Array GenState} {d:Drawn} {t:Nat} {os:OsState}
variable {nm q:Str} {C N x f:Addr} {bs:List Value} {sn:List Str} {sub:List Value} {ab:Bool} {col:Option Bool} {dd:Option Addr} {k0 k1 k2 k3 k5:Option Value} {newId:String}
 {mN mA:Str→Option Value} {name:Str} {v:Value} {of:Obj}
theorem find_fn {Q:Builtin.ObjectAttr.Found→Shared→Prop}
  (hC:h.get? C=some (excClassObj nm q C N bs [.type "object"] true sn sub ab col dd k0 k1 k2 k3 k5 newId)) (hn:h.Ns N mN) (hf:mN name=some (.ref f)) (hfo:h.get? f=some of) (hfc:of.cls = .type "function")
  (hB:typeLookup (.type "object") name=pure none) (hcop:(["__module__", "__name__", "__qualname__", "__doc__", "__annotations__"]:List Str).contains name=false) (I:h.Inst x C mA) {o':Obj} {dx':Addr} (ho':h.get? x=some o') (hdx':o'.dict=some dx') (hv:mA name=none) (hq:Q (.bind (.builtin "function.__get__") (.ref f)) ⟨h,g,d,t,os⟩) :
  wpAny (model prog w) A (Builtin.ObjectAttr.find (.ref x) (.ref C) name) Q E ⟨h,g,d,t,os⟩:=by
 refine E14 I λ o hx hc hnc hd=>?_
 try clear I
 have hT:Shared.TypeIs ⟨h,g,d,t,os⟩ (.ref f) "function" := ⟨_,hfo,hfc⟩
 unfold Builtin.ObjectAttr.find
 repeat (first | (with_reducible refine wpAny_typeLookup_exc hC hn F.mro_object hB ?_; rw [hf]) | wp_step)
 refine wpAny_of_eq fn_lk_get ?_
 dsimp only
 unfold dataDescriptor? takesStores
 refine wpAny_bind (wpAny_bind (wpAny_bind (wpAny_specialOf hT fn_lk_set ?_)))
 dsimp only [Option.isSome_none]
 rw [if_neg Bool.false_ne_true]
 refine wpAny_bind (wpAny_specialOf hT fn_lk_del ?_)
 refine wpAny_pure ?_
 dsimp only [Option.isSome_none]
 rw [if_neg Bool.false_ne_true]
 refine wpAny_pure ?_
 dsimp only
 unfold ownThenClass
 refine wpAny_bind ?_
 unfold inOwnDict Builtin.ObjectAttr.ownDict inDict
 dsimp only
 rcases hd with ⟨hdn,_⟩ | ⟨dx,hdx,_,hns⟩
 ·rw [hx] at ho'; cases ho'; rw [hdn] at hdx'; cases hdx'
 repeat (first | (with_reducible refine wpAny_loadPart_at hx ?_; rw [hc]) | wp_step)
 split
 ·rename_i c hcd
  exact absurd hcd (hnc c)
 unfold instanceDict
 repeat (first | (with_reducible refine wpAny_loadPart_at hx ?_; rw [hc]) | with_reducible refine wpAny_loadPart_at hC ?_ | wp_step)
 rw [hdx]
 repeat (first | (with_reducible refine wpAny_nsGet hns.ns ?_; rw [hv]) | wp_step)
 rw [hcop,if_neg Bool.false_ne_true]
 refine wpAny_pure ?_
 unfold byTheClass
 exact wpAny_bind (wpAny_rule (wpAny_pure hq))
theorem load_bound {expr:Bool} {Q:Value→Shared→Prop}
  (hC:h.get? C=some (excClassObj nm q C N bs [.type "object"] true sn sub ab col dd k0 k1 k2 k3 k5 newId)) (hn:h.Ns N mN) (hng:mN "__getattribute__" = none) (hnh:mN "__getattr__" = none) (hf:mN name=some (.ref f)) (hfo:h.get? f=some of) (hfc:of.cls = .type "function")
  (hB:typeLookup (.type "object") name=pure none) (hcop:(["__module__", "__name__", "__qualname__", "__doc__", "__annotations__"]:List Str).contains name=false) (I:h.Inst x C mA) {o':Obj} {dx':Addr} (ho':h.get? x=some o') (hdx':o'.dict=some dx') (hv:mA name=none)
  (hq:Q (.ref h.objs.size) ⟨h.push (methodObj (.ref f) (.ref x)),g,d,t+1,os⟩) :
  wpAny (model prog w) A (getAttr (.ref x) name expr) Q E ⟨h,g,d,t,os⟩:=by
 refine E13 (id I) λ o hx hc _=>?_
 unfold getAttr getAttrBy
 repeat (first | (with_reducible refine wpAny_loadPart_at hx ?_; rw [hc]) | (with_reducible refine wpAny_typeLookup_exc hC hn F.mro_object F.lk_object_ga ?_; rw [hng]) | wp_step)
 show wpAny _ _ ((runValue (.builtin "proto.getattr_hooked" ⟨[.ref x,.str name t],[]⟩)).onRaise (noteIf true (.ref x) (.str name t))) _ _ _
 refine wpAny_onRaise (wpAny_runValue (codeAny_builtin F.plainObj_entry_getattr_hooked ?_))
 unfold Builtin.«proto.getattr_hooked»
 generalize hfd:Builtin.ObjectAttr.find=fd
 repeat (first | (with_reducible refine wpAny_loadPart_at hx ?_; rw [hc]) | wp_step)
 subst hfd
 refine find_fn hC hn hf hfo hfc hB hcop I ho' hdx' hv ?_
 dsimp only
 repeat (first | (with_reducible refine wpAny_typeLookup_exc hC hn F.mro_object F.lk_object_getattr ?_; rw [hnh]) | wp_step)
 have XK:Frag.In [(f,of)] h:=λ a o e=>by
  rw [List.lookup_cons] at e
  cases hb:a==f with
  | true=>rw [hb] at e; cases e; rw [eq_of_beq hb]; exact hfo
  | false=>rw [hb] at e; cases e
 refine fn_get (s:=⟨h,g,d,t+1,os⟩) XK ?_ ?_
 ·show (List.lookup f [(f,of)]).map (·.cls)=_
  rw [List.lookup_cons,beq_self_eq_true]; show some of.cls=_; rw [hfc]
 ·refine wpAny_pure ?_
  show wpAny _ _ (handedOut (.ref h.objs.size)) _ _ _
  exact wpAny_pure hq
end
variable {B:Bs} {C:Cx B} {σ σ':Loc} {O O':Led}
theorem EvX.bound {oe:Expr} {n:Str} {pos:Pos} {x dx K N f:Addr} {mN:Str→Option Value} {es:List (Str × D)} (c:Zim B K N mN) (ho:Ev C σ O oe (.ref x)) (hx:OAt O x (.obj K dx)) (hd:OAt O dx (.attrs es)) (hsh:n ∉ es.map (·.1)) (hf:mN n=some (.ref f)) (hfun:Zix B f)
  (hB:typeLookup (.type "object") n=pure Option.none) (hcop:(["__module__", "__name__", "__qualname__", "__doc__", "__annotations__"]:List Str).contains n=false)
  (he:autoParam (eval (.Attribute oe n pos) C.env=(do
   let o ← eval oe C.env
   standAt pos.atName
   let r ← holding [o] (getAttr o n true)
   letTemporaryGo oe o r
   pure r)) tW):EvX C σ O (.Attribute oe n pos) λ d O'=>∃ a,d = .ref a∧O'=(a,.is λ o=>o=methodObj (.ref f) (.ref x))::O:=λ s S Q hQ=>by
 refine Attribute_any_ (ho s S _ λ v s₁ t₁ S₁ hv=>?_) he
 have hh:v = .ref x:=hv; subst hh
 refine E16 (S₁.inst hx hd) λ m I hw nd hok hne Y1=>?_
 refine E12 Y1 λ o' ho' hdx'=>?_
 clear Y1
 obtain ⟨nm,q,bs,sn,sub,col,dd,k0,k1,k2,k3,k5,hK⟩:=c.at_
 refine E23 hfun λ of fd hdat hcls hfo=>?_
 try clear hfun
 have hmn:m n=none:=by
  cases e:m n with
  | none=>rfl
  | some v=>exact absurd (hw n (by rw [e]; exact λ q=>nomatch q)) hsh
 have X:Eff [] s₁ { s₁ with heap:=s₁.heap.push (methodObj (.ref f) (.ref x)),toks:=s₁.toks+1 }:=Eff.push _
 have S₂:=S₁.new X (Nat.le_refl _) (sh:=.is λ o=>o=methodObj (.ref f) (.ref x)) ⟨_,Heap.get?_push_size _ rfl,rfl,Zbf rfl⟩
 have:=hQ (.ref s₁.heap.objs.size) _ (.ref s₁.heap.objs.size) _ ⟨_,rfl,rfl⟩ (t₁.trans X.tk) S₂ rfl
 obtain ⟨hp,g,dr,tk,os⟩:=s₁
 exact load_bound (hK _ S₁.top) (c.ns _ S₁.top) c.noGa c.noGt hf (hfo _ S₁.top) hcls hB hcop I ho' hdx' hmn this
end
section
open PySem PySem.Builtin PySem.W PySem.Calls PyProof.Rows
set_option maxRecDepth 100000
set_option maxHeartbeats 2000000
variable {B:Bs} {C:Cx B} {σ σ':Loc} {O O':Led}
theorem EvX.callM {fe e:Expr} {es:List Expr} {pos:Pos} {f x q:Addr} {ds:List D} {n:Nat} {U R:Led} {P:D→Led→Prop} (hf:Ev C σ O fe (.ref q)) (hq:OAt O q (.is λ o=>o=methodObj (.ref f) (.ref x))) (hfun:Zix B f)
  (ha:EvL C σ O (e::es) ds) (hc:CallsC B n (.ref f) (.ref x::ds) U P) (hn:n≤C.n) (hp:(U++R).Perm O)
  (hs:autoParam (Zac (e::es)=true) tR)
  (he:autoParam (eval (.Call fe (e::es) [] pos) C.env=(do callWith pos (← eval fe C.env) [] (backTo pos (starEach (e::es) C.env)) (backToKw pos (keywordEach [] C.env)))) tR) :
  EvX C σ O (.Call fe (e::es) [] pos) λ d O'=>∃ U',P d U'∧O'=U'++R:=λ s S Q hQ=>by
 refine Call_ (hf s S _ λ v s₁ t₁ S₁ hv=>?_) he
 have hh:v = .ref q:=hv; subst hh
 refine E23 hfun λ of fd hdat hcls hfo=>?_
 try clear hfun
 refine E02 (Zaa (env:=C.env) hs) λ he1 hs1=>?_
 have hargs:=ha.args hs (pos:=pos) s₁ S₁
 rw [he1] at hargs ⊢
 refine callWith_of (P:=λ h=>h.get? q=some (methodObj (.ref f) (.ref x))∧h.get? f=some of) (by show ((false || (backTo pos (starEach es C.env)).any (·.1)) || false)=false; rw [Zbz hs1]; rfl) (λ h hh=>?_) (evalArgs_plain (hargs _ λ vs s₂ t₂ S₂ hvs=>?_))
 ·refine ⟨.boundFrame,.inr (.inr rfl),(Looks.ld (part:=none) hh.1).andThen ?_⟩
  refine (Looks.ld (part:=none) hh.2).andThen ?_
  rw [hdat]; exact .now
 ·refine E13 (S₂.objs _ hq.mem) λ oq hoq e1 _=>?_
  subst e1
  refine ⟨⟨hoq,hfo _ S₂.top⟩,?_⟩
  refine E04 (perm_two hp S₂.ond) λ p1 p2 p3 p4=>?_
  refine wpAny_call (method_call hoq (hc C.A s₂ (.ref x::vs) Q (C.room.le hn) S₂.top (Nat.le_trans C.low S₂.bsize) (λ p h=>S₂.objs p (p1 p h)) p3 (λ p h=>S₂.low (p1 p h)) (.cons rfl hvs) λ v s₃ d U' p X h nU fr hv=>?_))
  exact hQ v s₃ d _ ⟨U',p,rfl⟩ ((t₁.trans t₂).trans X.tk) (S₂.called p1 p2 p4 X h nU fr) hv
theorem compCoreD {kx vx target iter:Expr} {scope:Scope} {pos:Pos} {cl:List (Str × Addr)} (names:List Str) (hcell:∀ y∈scope.names,y.2 ≠ .cell) (hkind:scope.kind = .function)
  (nd:names.Nodup) (hloc:∀ x∈names,scope.names.lookup x=some .local) {it:Value} {Sf:Nat→Led} {Need:Led→Prop} {ds:List D} {O₁:Led} (src:∀ C':Cx B,Src C' target it Sf Need ds) {s₂:Shared} (S₂:St C σ (O₁++Sf 0) s₂)
  (need:∀ p,Need (p::O₁)) (f:D→Str × D) (hkd:((ds.map f).map (·.1)).Nodup)
  (turn:∀ C':Cx B,InComp C C' scope cl names→∀ (i:Nat) (d:D),ds[i]? = some d→∀ (a:Addr) (acc:List (Str × D)) (R:Led),∃ σ₁,Asg C' (unk names) ((a,.dict acc)::(O₁++R)) target d σ₁ ((a,.dict acc)::(O₁++R)) ∧
   Ev C' σ₁ ((a,.dict acc)::(O₁++R)) kx (.str (f d).1)∧Ev C' σ₁ ((a,.dict acc)::(O₁++R)) vx (f d).2)
  (hz:ds.length≤sizeLine) {RR:Value→Addr→Result→Shared→Prop}
  (hR:∀ a L s',Tk s₂.heap s'.heap→(∃ m,s'.heap.Ns L m)→L ≠ C.env.locals→C.base.heap.objs.size≤L→(∀ q∈(a,Sh.dict (ds.map f))::O₁,q.1 ≠ L)→St C σ ((a,.dict (ds.map f))::O₁) s'→RR (.ref a) L (.ok .next) s') :
  C.wp newDict (λ acc s₃=>C.wp (newFunctionEnv scope C.env.globals cl [] C.env.qual none .none (some C.env)) (λ cenv s₄=>
   codeAny (model B.prog B.w) C.A (.compStart (.DictComp kx vx [⟨target,iter,[],0⟩] scope pos) 0 it acc { cenv with scope:=relabel scope C.env }) (RR acc cenv.locals) s₄) s₃) s₂:=by
 refine wpAny_newObj_type ?_
 have X₃:Eff [] s₂ { s₂ with heap:=s₂.heap.push { cls:=.type "dict",data:=.dict #[] } }:=.push _
 have S₃:=S₂.new (a:=s₂.heap.objs.size) (sh:=.dict []) X₃ (Nat.le_refl _) ⟨[],Heap.DictOf.new _,rfl,.nil⟩
 have X₃':=X₃.tk
 generalize hs₃:({ s₂ with heap:=s₂.heap.push { cls:=.type "dict",data:=.dict #[] } }:Shared)=s₃ at S₃ X₃' ⊢
 generalize s₂.heap.objs.size=a at S₃ ⊢
 refine wpAny_newFunctionEnv hcell (by intro y hy; simp at hy) (λ h₁ hns hsb=>?_) hkind
 have old:∀ b o,s₃.heap.get? b=some o→h₁.get? b=some o:=λ b o e=>hsb.extBut b o (Nat.ne_of_lt (Heap.lt_size e)) (Heap.get?_push_of_some _ e)
 have X₄:Eff [] s₃ { s₃ with heap:=h₁,toks:=s₃.toks+([]:List (Str × Value)).length }:=.ext old
 let U:Led:=(a,.dict [])::(O₁++Sf 0)
 let C':Cx B:=⟨C.A,compEnvC scope cl s₃.heap.objs.size C.env,s₃,U.map (·.1),names,C.n,by show (relabel scope C.env).kind=_; exact hkind,C.gl,C.bl,nd,
  λ x hx=>lookup_relabel_local (hloc x hx),C.room,Nat.le_trans C.low S₃.bsize,Nat.le_refl _,λ q hq=>by
   refine E12 (List.mem_map.mp hq) λ r hr Y1=>?_
   subst Y1
   exact S₃.low hr⟩
 have S₄:St C' (Mine.Internal.unk names) U { s₃ with heap:=h₁,toks:=s₃.toks+([]:List (Str × Value)).length }:=by
  refine ⟨B.stable _ _ S₃.top λ b o _ e=>old b o e,unk_fst names,⟨_,hns,λ x d hx=>?_⟩,λ q hq=>ShAt.keep (λ o e=>old _ o e) X₄.tk (S₃.objs q hq),S₃.ond,λ q hq=>Nat.ne_of_lt (ShAt.lt (S₃.objs q hq)),λ q hq=>.inr (Zat hq),X₄.mono λ _ h=>nomatch h⟩
  refine E12 (List.mem_map.mp hx) λ y _ hy=>?_
  cases hy
 have IC:InComp C C' scope cl names:=⟨rfl,rfl,rfl⟩
 have fin:∀ s',St C' (Mine.Internal.unk names) ((a,.dict (ds.map f))::O₁) s'→RR (.ref a) s₃.heap.objs.size (.ok .next) s':=λ s' S'=>by
  obtain ⟨m,hm,_⟩:=S'.loc
  refine hR a _ s' (X₃'.trans S'.eff.tk) ⟨m,hm⟩ (Nat.ne_of_gt S₃.ltL) S₃.bsize (λ q hq=>S'.ol q hq) ?_
  have:=S₃.called (U:=U) (U':=(a,.dict (ds.map f))::O₁) (R:=[]) (λ _ h=>h) (λ _ h=>nomatch h) .nil S'.eff S'.objs S'.ond (λ q hq=>(S'.own q hq).symm)
  rw [List.append_nil] at this
  exact this
 have loop:∀ s,St C' (Mine.Internal.unk names) U s→codeAny (model B.prog B.w) C.A (.compLoop (.DictComp kx vx [⟨target,iter,[],0⟩] scope pos) 0 it (.ref a) C'.env) (RR (.ref a) s₃.heap.objs.size) s:=λ s S=>by
  refine codeAny_loop rfl (λ n s'=>∃ i,i≤ds.length∧n=ds.length - i∧St C' (Mine.Internal.unk names) ((a,.dict ((ds.take i).map f))::(O₁++Sf i)) s') ?_ ds.length ⟨0,Nat.zero_le _,rfl,S⟩
  intro n s hq0
  refine E13 hq0 λ i hi Y1 S=>?_
  try clear hq0
  subst Y1
  show wpAny _ C.A ((compTurn (.DictComp kx vx [⟨target,iter,[],0⟩] scope pos) 0 it (.ref a) C'.env).onRaise (λ x=>do noteFrame x C'.env; theTreesLotGoes x)) _ _ s
  refine wpAny_noted ?_
  rw [compTurn_dict]
  refine wpAny_bind (wpAny_standAt (wpAny_bind ?_))
  rcases Nat.lt_or_ge i ds.length with hlt | hge
  ·obtain ⟨d,hd⟩:∃ d,ds[i]? = some d:=⟨ds[i],List.getElem?_eq_getElem hlt⟩
   have hacc:((ds.take i).map f).length≤sizeLine:=by
    rw [List.length_map]
    exact Nat.le_trans (List.length_take_le _ _) (by exact Wn [_,_] (.v 0) (.n 16777216) [(1,.a (.v 0) (.n 1),.v 1),(1,.v 1,.n 16777216)] rfl hlt hz)
   let Good:Shared→Prop:=λ s₅=>∃ m,m < ds.length - i∧∃ j,j≤ds.length∧m=ds.length - j∧St C' (Mine.Internal.unk names) ((a,.dict ((ds.take j).map f))::(O₁++Sf j)) s₅
   have good:∀ s₅,St C' (Mine.Internal.unk names) ((a,.dict ((ds.take (i+1)).map f))::(O₁++Sf (i+1))) s₅→Good s₅:=λ s₅ S₅=>⟨ds.length - (i+1),by lia,i+1,hlt,rfl,S₅⟩
   have etake:(ds.take (i+1)).map f=(ds.take i).map f++[f d]:=by rw [List.take_add_one,hd]; simp
   have hfresh:(f d).1 ∉ ((ds.take i).map f).map (·.1):=by
    have hsub:(((ds.take (i+1)).map f).map (·.1)).Nodup:=hkd.sublist (((List.take_sublist _ _).map f).map _)
    rw [etake,List.map_append,List.nodup_append] at hsub
    exact λ q=>hsub.2.2 _ q _ List.mem_cons_self rfl
   refine E13 (turn C' IC i d hd a ((ds.take i).map f) (Sf (i+1))) λ σ₁ hasg hk hv=>?_
   have body:∀ v s₁,St C' (Mine.Internal.unk names) ((a,.dict ((ds.take i).map f))::(O₁++Sf (i+1))) s₁→Val s₁.heap v d→
     C'.wp (PySem.assign target C'.env v) (λ _ s₂=>C'.wp (eval kx C'.env) (λ kv s₄=>C'.wp (eval vx C'.env) (λ vv s₅=>C'.wp (dictSet a kv vv) (λ _ s₆=>Good s₆) s₅) s₄) s₂) s₁:=λ v s₁ S₁ hv₁=>by
    refine hasg s₁ v S₁ hv₁ _ λ s₂ _ S₂=>hk s₂ S₂ _ λ kv s₃ t₃ S₃ hkv=>hv s₃ S₃ _ λ vv s₄ t₄ S₄ hvv=>?_
    refine E11 hkv λ kt Y1=>?_
    try clear hkv
    subst Y1
    refine E13 (S₄.objs (a,.dict ((ds.take i).map f)) List.mem_cons_self) λ kvs hm hkeys hvals=>?_
    have hkl:kvs.length=((ds.take i).map f).length:=by
     have:=congrArg List.length hkeys
     simpa using this
    have hno:(f d).1 ∉ kvs.map (·.1):=by rw [hkeys]; exact hfresh
    refine wpAny_dictSet_pairs (hsz:=by rw [hkl]; exact hacc) (beq_self_eq_true (f d).1) hm λ h' hm' hs'=>good _ ?_
    have X:Eff [a] s₄ { s₄ with heap:=h',toks:=s₄.toks+1 }:=.but hs' λ vs=>ShAt.noTup (S₄.objs (a,.dict ((ds.take i).map f)) List.mem_cons_self) vs
    have e:stored kvs (f d).1 vv=kvs++[((f d).1,vv)]:=by
     unfold stored
     rw [if_neg]
     simp only [List.any_eq_true,decide_eq_true_eq,not_exists,not_and]
     exact λ x hx hxe=>hno (List.mem_map.mpr ⟨x,hx,hxe⟩)
    rw [e] at hm'
    rw [etake]
    refine (S₄.put (sh:=.dict ((ds.take i).map f++[f d])) .z X ⟨_,hm',?_,?_⟩).unk
    ·rw [List.map_append,List.map_append,hkeys]; rfl
    ·rw [List.map_append,List.map_append]
     exact (hvals.tk X.tk).snoc (hvv.tk X.tk)
   refine F0.to (wpAny_mono ((src C').item (O:=(a,.dict ((ds.take i).map f))::O₁) hd (need _) S (Q:=λ v s₁=>C'.wp (PySem.assign target C'.env v) (λ _ s₂=>C'.wp (eval kx C'.env) (λ kv s₄=>C'.wp (eval vx C'.env) (λ vv s₅=>C'.wp (dictSet a kv vv) (λ _ s₆=>Good s₆) s₅) s₄) s₂) s₁) λ v s₁ _ S₁ hv=>body v s₁ S₁ hv) (λ r s₁ h₁=>?_) λ _ _ q=>q)
   cases r with
   | none=>exact h₁.elim
   | some v=>
    refine wpAny_bind (F0.to (wpAny_mono h₁ (λ _ s₂ h₂=>?_) λ _ _ q=>q))
    refine wpAny_bind (F0.to (wpAny_mono h₂ (λ _ s₃ h₃=>?_) λ _ _ q=>q))
    refine wpAny_bind (m:=forIn [] true _) (wpAny_pure ?_)
    rw [if_pos rfl]
    refine wpAny_bind (wpAny_bind (F0.to (wpAny_mono h₃ (λ kv s₄ h₄=>?_) λ _ _ q=>q)))
    refine wpAny_bind (wpAny_holding (F0.to (wpAny_mono h₄ (λ vv s₅ h₅=>?_) λ _ _ q=>q)))
    exact wpAny_bind (wpAny_standAt (wpAny_holding (F0.to (wpAny_mono h₅ (λ _ s₆ h₆=>wpAny_pure ⟨rfl,h₆⟩) λ _ _ q=>q))))
  ·obtain rfl:i=ds.length:=Nat.le_antisymm hi hge
   rw [List.take_length] at S
   refine F0.to (wpAny_mono ((src C').done (need _) S (Q:=λ s'=>RR (.ref a) s₃.heap.objs.size (.ok .next) s') λ s' _ S'=>fin s' S') (λ r s₁ h₁=>?_) λ _ _ q=>q)
   cases r with
   | none=>exact wpAny_pure h₁
   | some _=>exact h₁.elim
 exact codeAny_compStart_dict (loop _ S₄) (F0.to ((src C').self (O:=(a,.dict [])::O₁) (need _) S₄ (loop _ S₄)))
theorem swaps_dict {kx vx:Expr} {gens:List Comprehension} {scope:Scope} {vpos tp:Pos} {y:Str} {l:Nat} (hk:C.env.kindOf y=some .local) (hl:(tp.line==vpos.line)=true) (hn:(scope.names.any λ x=>x.1==y&&(x.2 == .local || x.2 == .cell))=false) :
  swapsWith (.DictComp kx vx gens scope vpos) (some (.Name y tp)) l C.env=pure true:=by
 show pure (C.env.blockKind == .function&&C.env.kindOf y==some .local&&tp.line==vpos.line && !(scope.names.any λ x=>x.1==y&&(x.2 == .local || x.2 == .cell)))=_
 rw [hk,hl,hn]
 unfold Env.blockKind
 rw [C.kind]; rfl
structure CompD (C:Cx B) (O₁:Led) (Need:Led→Prop) (ds:List D) (kx vx target:Expr) (scope:Scope) (cl:List (Str × Addr)) (names:List Str) (f:D→Str × D):Prop where
 need:∀ q,Need (q::O₁)
 nd:((ds.map f).map (·.1)).Nodup
 turn:∀ C':Cx B,InComp C C' scope cl names→∀ (i:Nat) (d:D),ds[i]? = some d→∀ (a:Addr) (acc:List (Str × D)) (R:Led),∃ σ₁,Asg C' (unk names) ((a,.dict acc)::(O₁++R)) target d σ₁ ((a,.dict acc)::(O₁++R)) ∧
   Ev C' σ₁ ((a,.dict acc)::(O₁++R)) kx (.str (f d).1)∧Ev C' σ₁ ((a,.dict acc)::(O₁++R)) vx (f d).2
 hz:ds.length≤sizeLine
theorem Run.assignDictComp {kx vx target iter:Expr} {scope:Scope} {cpos py pos:Pos} {y:Str} {rest:List Stmt} {K:Flow→Shared→Prop} {cl:List (Str × Addr)} {names:List Str} (ok:ScopeOk C scope cl names) {P:Led→(Led→Prop)→List D→Prop}
  (hy:y ∈ σ.map (·.1)) (hn:(scope.names.any λ x=>x.1==y&&(x.2 == .local || x.2 == .cell))=false)
  (hi:IterX C σ O iter target P) (h:∀ O₁ Need ds,P O₁ Need ds→∃ f,CompD C O₁ Need ds kx vx target scope cl names f∧∀ a,Then C σ ((a,.dict (ds.map f))::O₁) y (.ref a) rest K)
  (hl:autoParam ((py.line==cpos.line)=true) tR)
  (hs:autoParam (∀ x,foldedSetIterable iter C.env x=pure x) tI):Run C σ O (.Assign [.Name y py] (.DictComp kx vx [⟨target,iter,[],0⟩] scope cpos) pos::rest) K:=Run.cons λ s S=>by
 have hsw:=swaps_dict (C:=C) (kx:=kx) (vx:=vx) (gens:=[⟨target,iter,[],0⟩]) (scope:=scope) (vpos:=cpos) (tp:=py) (l:=pos.line) (S.loc_of hy) hl hn
 rw [exec_Assign_Name_used _ _ _ _ hsw]
 refine wpAny_bind (wpAny_standAt (wpAny_bind ?_))
 show wpAny _ C.A (do let _ ← comprehension (.DictComp kx vx [⟨target,iter,[],0⟩] scope cpos) scope C.env _ newDict false (eval iter C.env) (some (PySem.assign (.Name y py) C.env))) _ _ s
 refine wpAny_bind (wpAny_mono (wpAny_comprehension_free (use:=some (PySem.assign (.Name y py) C.env)) (Q:=λ _ s'=>C.wp (execs rest C.env) K s') rfl hs ok.clo ok.kind ok.all (hi s S _ λ it s₂ Sf O₁ Need ds hP t₂ src S₂=>?_)) (λ _ s' hq=>wpAny_pure (wpAny_pure hq)) λ _ _ e=>e)
 refine E12 (h O₁ Need ds hP) λ f c hP'=>?_
 refine compCoreD (RR:=λ acc L=>compPost (model B.prog B.w) C.A F0 (some (PySem.assign (.Name y py) C.env)) (λ _ s'=>C.wp (execs rest C.env) K s') acc L) names ok.cell ok.kind ok.nd ok.loc src S₂ c.need f c.nd c.turn c.hz λ a L s' t₃ hn h2 h3 h1 S'=>?_
 obtain ⟨σ',hp,hr⟩:=hP' a
 have S₁:=S'.note (Sh.ns_of hn) h1 h2 h3
 show wpAny _ C.A (PySem.assign (.Name y py) C.env (.ref a)) _ _ _
 refine wpAny_assign_Name (S₁.store hp (d:=.ref a) rfl λ s₄ _ S₄=>?_)
 refine E11 (Sh.ns_to (S₄.objs (L,.ns) List.mem_cons_self)) λ m hm=>?_
 refine ⟨m,hm,λ h' hs'=>hr _ ?_⟩
 exact (St.sub S₄ (λ p hp=>List.mem_cons_of_mem _ hp) (List.nodup_cons.mp S₄.ond).2).letgo hs' ⟨m,hm⟩ h1 h2 h3
theorem Ev.field {e:Expr} {pos:Pos} {x:Str} (h:Ev C σ O e (.str x)) (hx:x.length≤sizeLine):Ev C σ O (.FormattedValue e (-1) Option.none pos) (.str x):=λ s S Q hQ=>
 wpAny_FormattedValue_plain (h s S _ <| by
  intro v s₁ t₁ S₁ hq0
  refine E11 hq0 λ t hv=>?_
  try clear hq0
  subst hv
  exact wpAny_formatField_str (hQ _ _ t₁ S₁ ⟨t,rfl⟩) (hQ _ _ t₁ S₁.tok ⟨_,rfl⟩) hx)
inductive EvS (C:Cx B) (σ : Loc) (O:Led):List Expr→List Str→Prop
 | nil:EvS C σ O [] []
 | cons {e:Expr} {x:Str} {es:List Expr} {xs:List Str} (h:Ev C σ O e (.str x)) (r:EvS C σ O es xs):EvS C σ O (e::es) (x::xs)
noncomputable def catS (a:Str) (l:List Str):Str:=l.foldl (· ++ ·) a
theorem Zhi:∀ (l:List Str) (a:Str),(catS a l).length=a.length+(l.map (·.length)).sum
 | [],a=>by simp [catS]
 | x::r,a=>by
  have:=Zhi r (a++x)
  simp only [catS,List.foldl_cons,List.map_cons,List.sum_cons] at this ⊢
  rw [this,strLen_append]; exact Nat.le_antisymm (Wn [_,_,_] (.a (.a (.v 0) (.v 1)) (.v 2)) (.a (.v 0) (.a (.v 1) (.v 2))) [] rfl) (Wn [_,_,_] (.a (.v 0) (.a (.v 1) (.v 2))) (.a (.a (.v 0) (.v 1)) (.v 2)) [] rfl)
theorem EvS.go {es:List Expr} {xs:List Str} (h:EvS C σ O es xs):∀ {a:Str} {s:Shared},St C σ O s→(catS a xs).length≤sizeLine→∀ {Q:Str→Shared→Prop},(∀ s',Tk s.heap s'.heap→St C σ O s'→Q (catS a xs) s')→
  Joins (model B.prog B.w) C.A F0 (evalEach es C.env) a Q s:=by
 induction h with
 | nil=>intro a s S _ Q hQ; exact hQ s (.refl _) S
 | @cons e x es xs h r ih=>
  intro a s S hz Q hQ
  refine h s S _ λ v s₁ t₁ S₁ ⟨t,hv⟩=>⟨x,t,hv,?_,ih S₁ hz λ s₂ t₂ S₂=>hQ s₂ (t₁.trans t₂) S₂⟩
  have e1:=Zhi xs (a++x)
  have:catS a (x::xs)=catS (a++x) xs:=rfl
  rw [this,e1] at hz
  exact Wn [_,_] (.v 0) (.n 16777216) [(1,.a (.v 0) (.v 1),.n 16777216)] rfl hz
theorem Ev.fstr {v₁ v₂:Expr} {rest:List Expr} {pos:Pos} {xs:List Str} (h:EvS C σ O (v₁::v₂::rest) xs) (hz:(catS Str.empty xs).length≤sizeLine):Ev C σ O (.JoinedStr (v₁::v₂::rest) pos) (.str (catS Str.empty xs)):=λ s S Q hQ=>
 wpAny_JoinedStr (h.go S hz λ s₁ t₁ S₁=>⟨hz,hQ _ _ t₁ S₁.tok ⟨_,rfl⟩⟩)
theorem EvX.appendX {oe e:Expr} {apos pos:Pos} {l:Addr} {P:D→Led→Prop} {P':D→Led→Prop} (ho:Ev C σ O oe (.ref l)) {ds:List D} (ha:OAt O l (.list ds)) (he:EvX C σ O e P)
  (h:∀ d O₁,P d O₁→∃ ds O',OAt O₁ l (.list ds)∧OPut O₁ l (.list (ds++[d])) O'∧ds.length≤sizeLine∧P' .none O')
  (hline:autoParam ((apos.endLine==pos.line)=true) tR) (hs:autoParam (Zac [e]=true) tR)
  (hbase:autoParam (attributeBase oe (Str.ofString "append") C.env (eval oe C.env)=eval oe C.env) tR)
  (hfew:autoParam (((backTo pos (starEach [e] C.env)).all (λ x=>!x.1)&&(backToKw pos (keywordEach [] C.env)).all (λ x=>x.1.isSome)
   && decide (([e]:List Expr).length+([]:List Keyword).length+(if ([]:List Keyword).isEmpty then 0 else 1) < 30))=true) tR) :
  EvX C σ O (.Call (.Attribute oe (Str.ofString "append") apos) [e] [] pos) P':=λ s S Q hQ=>by
 refine wpAny_Call_method hbase hfew hline F.plainAttrs_list F.slot_list_append F.type_list_append (ho s S _ λ v s₁ t₁ S₁ hv=>?_)
 refine E02 (lstT (S₁.objs _ ha.mem) hv) λ h1 h2=>?_
 have hh:v = .ref l:=hv; subst hh
 refine ⟨h1,h2,callWith_builtin (Zbz hs) (Zbh hs ?_)⟩
 rw [(Zaa hs).1]
 refine spliced_cons (he s₁ S₁ _ λ u s₂ d O₁ p t₂ S₂ hu=>spliced_nil ?_)
 refine E24 (h d O₁ p) λ ds' O' ha' hp hz hP'=>?_
 refine E12 (S₂.objs _ ha'.mem) λ items Y1 hvs=>?_
 refine E11 Y1 λ n e=>?_
 clear Y1
 refine wpAny_list_append_plain ⟨n,e⟩ (λ h' hl' hs'=>hQ _ _ _ _ hP' ((t₁.trans t₂).trans ?_) ?_ rfl) (by rw [hvs.sizeA]; exact hz)
 all_goals
  have X:Eff [l] s₂ { s₂ with heap:=h' }:=.but hs' λ vs=>ShAt.noTup (S₂.objs (l,.list ds') ha'.mem) vs
 ·exact X.tk
 ·exact S₂.put hp X ⟨_,hl',by simpa using (hvs.tk X.tk).snoc (hu.tk X.tk)⟩
theorem EvX.callApp {fe e:Expr} {pos:Pos} {q l:Addr} {ds:List D} {d:D} (hf:Ev C σ O fe (.ref q)) (hq:OAt O q (.is λ o=>o.cls = .type "builtin_function_or_method" ∧ o.data = .fields #[.builtin "list.append",.ref l]))
  (he:Ev C σ O e d) (ha:OAt O l (.list ds)) (hp:OPut O l (.list (ds++[d])) O') (hz:ds.length≤sizeLine)
  (hs:autoParam (Zac [e]=true) tR)
  (hev:autoParam (eval (.Call fe [e] [] pos) C.env=(do callWith pos (← eval fe C.env) [] (backTo pos (starEach [e] C.env)) (backToKw pos (keywordEach [] C.env)))) tR) :
  EvX C σ O (.Call fe [e] [] pos) λ d' O''=>d' = .none∧O''=O':=λ s S Q hQ=>by
 refine Call_ (hf s S _ λ v s₁ t₁ S₁ hv=>?_) hev
 have hh:v = .ref q:=hv; subst hh
 rw [(Zaa hs).1]
 refine callWith_of (P:=λ h=>∃ ob,h.get? q=some ob∧ob.cls = .type "builtin_function_or_method" ∧ ob.data = .fields #[.builtin "list.append",.ref l]) rfl (λ h hh=>?_) (evalArgs_plain (spliced_cons (he s₁ S₁ _ λ u s₂ t₂ S₂ hu=>spliced_nil ?_)))
 ·refine E13 hh λ ob h1 h2 h3=>?_
  try clear hh
  refine ⟨.machine,.inr (.inl rfl),(Looks.ld (part:=Option.none) h1).andThen ?_⟩
  rw [h3]
  dsimp only
  rw [h2]
  exact .now
 ·refine E13 (S₂.objs _ hq.mem) λ ob hob Y1 _=>?_
  refine E02 Y1 λ h2 h3=>?_
  clear Y1
  refine E12 (S₂.objs _ ha.mem) λ items Y1 hvs=>?_
  refine E11 Y1 λ n e=>?_
  clear Y1
  refine ⟨⟨ob,hob,h2,h3⟩,?_⟩
  have X:=(LstAt.upd (s:=s₂) (f:=λ xs=>xs.push u) (t:=s₂.toks) e)
  refine Zdh hob h2 h3 e (by rw [hvs.sizeA]; exact hz) ?_
  exact hQ .none _ .none _ ⟨rfl,rfl⟩ ((t₁.trans t₂).trans X.2.tk) (S₂.put hp X.2 ⟨_,X.1,by simpa using (hvs.tk X.2.tk).snoc (hu.tk X.2.tk)⟩) rfl
theorem Cmp.isNone:Cmp C σ O .Is .none .none true:=λ s v u S hv hu Q hQ=>by
 have hh:v = .none:=hv; subst hh; have hh:u = .none:=hu; subst hh
 exact wpAny_is_self (by rfl) (hQ s (.refl _) S)
theorem Cmp.isNotNone:Cmp C σ O .IsNot .none .none false:=λ s v u S hv hu Q hQ=>by
 have hh:v = .none:=hv; subst hh; have hh:u = .none:=hu; subst hh
 exact wpAny_isNot_self (by rfl) (hQ s (.refl _) S)
theorem Asg.tup3 {x y z:Expr} {k:Nat} {p:Pos} {d e f:D} {σ₁ σ₂ σ₃:Loc} {O₁ O₂ O₃:Led} (hx:Asg C σ O x d σ₁ O₁) (hy:Asg C σ₁ O₁ y e σ₂ O₂) (hz:Asg C σ₂ O₂ z f σ₃ O₃)
  (he:autoParam (assignEach [x,y,z] C.env=[(false,PySem.assign x C.env),(false,PySem.assign y C.env),(false,PySem.assign z C.env)]) tR):Asg C σ O (.Tuple [x,y,z] k p) (.tup [d,e,f]) σ₃ O₃:=λ s v S hv Q hQ=>by
 refine E23 hv λ a vs Y1 Y2 Y3=>?_
 try clear hv
 subst Y1
 refine E23 Y2 λ o n ho hc hd=>?_
 clear Y2
 refine E23 Y3 λ v₁ r Y4 h₁ Y5=>?_
 clear Y3
 subst Y4
 refine E23 Y5 λ v₂ r' Y6 h₂ Y7=>?_
 clear Y5
 subst Y6
 refine E23 Y7 λ v₃ r'' Y8 h₃ hn=>?_
 clear Y7
 subst Y8
 have hh:r''=[]:=hn; subst hh
 refine wpAny_assign_Tuple C.room.handled (items:=#[v₁,v₂,v₃]) ⟨o,ho,hc,n,hd⟩ (by rw [he]; rfl) (by rw [he]; rfl) λ h' hx'=>?_
 rw [he]
 have k':∀ b o,s.heap.get? b=some o→h'.get? b=some o:=λ b o e=>hx' b o (Nat.ne_of_lt (Heap.lt_size e)) e
 have e1:Eff [] s { s with heap:=h' }:=.ext k'
 show C.wp (do holding [v₂,v₃] (PySem.assign x C.env v₁); do holding [v₃] (PySem.assign y C.env v₂); do holding [] (PySem.assign z C.env v₃); pure ()) Q _
 refine wpAny_bind (wpAny_holding (hx _ _ (S.ext e1) (h₁.tk e1.tk) _ λ s₁ t₁ S₁=>?_))
 refine wpAny_bind (wpAny_holding (hy _ _ S₁ ((h₂.tk e1.tk).tk t₁) _ λ s₂ t₂ S₂=>?_))
 refine wpAny_bind (wpAny_holding (hz _ _ S₂ (((h₃.tk e1.tk).tk t₁).tk t₂) _ λ s₃ t₃ S₃=>wpAny_pure ?_))
 exact hQ _ (((e1.tk.trans t₁).trans t₂).trans t₃) S₃
theorem Run.assignT {elts:List Expr} {k:Nat} {tp pos:Pos} {e:Expr} {d:D} {rest:List Stmt} {K:Flow→Shared→Prop} {σ₁:Loc} {O₁:Led} (he:Ev C σ O e d) (ha:Asg C σ O (.Tuple elts k tp) d σ₁ O₁) (h:Run C σ₁ O₁ rest K)
  (hs:autoParam (swapsWithSole [.Tuple elts k tp] e pos.line C.env=pure false) tR)
  (hw:autoParam (swappedStores [.Tuple elts k tp] e C.env=pure Option.none) tR):Run C σ O (.Assign [.Tuple elts k tp] e pos::rest) K:=
 Run.cons λ s S=>Assign_Tuple (he s S _ λ v s₁ t₁ S₁ hv=>ha s₁ v S₁ hv _ λ s₂ t₂ S₂=>h s₂ S₂) hs hw
noncomputable abbrev Sh.set (B:Bs) (P:Str→Bool) (n:Nat):Sh:=.is λ o=>o.SetObjOf (Zfj B) P n
theorem setObj_noTup {P:Str→Bool} {n:Nat} {o:Obj} (h:o.SetObjOf (Zfj B) P n):NoTup o:=.inl (by rw [h.1.1]; decide)
theorem St.setOf {s:Shared} (S:St C σ O s) {a:Addr} {P:Str→Bool} {n:Nat} (ha:OAt O a (.set B P n)) (hn:n < scanBound):s.heap.SetOf (Zfj B) a P n:=by
 refine E13 (S.objs _ ha.mem) λ o ho h _=>?_
 exact h.setOf ho hn
theorem EvX.set0 {fe:Expr} {pos:Pos} (hf:Ev C σ O fe (.val (.type "set")))
  (he:autoParam (eval (.Call fe [] [] pos) C.env=(do callWith pos (← eval fe C.env) [] (backTo pos (starEach [] C.env)) (backToKw pos (keywordEach [] C.env)))) tR) :
  EvX C σ O (.Call fe [] [] pos) λ d O'=>∃ a,d = .ref a∧O'=(a,.set B (λ _=>false) 0)::O:=λ s S Q hQ=>by
 refine Call_ (hf s S _ λ v s₁ t₁ S₁ hv=>?_) he
 have hh:v = .type "set" := hv; subst hh
 refine callWith_type0 (call_set_0 λ led=>?_)
 have X:Eff [] s₁ { s₁ with heap:=s₁.heap.push { cls:=.type "set",dict:=none,data:=.set #[] 0 (.fresh 0 0 led) } }:=Eff.push _
 exact hQ (.ref s₁.heap.objs.size) _ (.ref s₁.heap.objs.size) _ ⟨_,rfl,rfl⟩ (t₁.trans X.tk) (S₁.new X (Nat.le_refl _) (sh:=.set B (λ _=>false) 0) ⟨_,Heap.get?_push_size _ rfl,setObjOf_fresh led,.inl (by show (Value.type "set") ≠ _; decide)⟩) rfl
theorem Cmp.notInSet {a:Addr} {P:Str→Bool} {n:Nat} {x:Str} (ha:OAt O a (.set B P n)) (hn:n < scanBound):Cmp C σ O .NotIn (.str x) (.ref a) (!P x):=by
 intro s v u S hq0 hu Q hQ
 refine E11 hq0 λ t hv=>?_
 try clear hq0
 subst hv
 have hh:u = .ref a:=hu; subst hh
 exact wpAny_notInSet_of (k:=x) (beq_self_eq_true x) rfl (S.setOf ha hn) (hQ _ (.refl _) S.tok)
theorem EvX.setAdd {oe e:Expr} {apos pos:Pos} {a:Addr} {P:Str→Bool} {n:Nat} {x:Str} (ho:Ev C σ O oe (.ref a)) (ha:OAt O a (.set B P n)) (hn:n+1 < scanBound) (he:Ev C σ O e (.str x)) (hp:OPut O a (.set B (λ k=>P k || decide (k=x)) (if P x then n else n+1)) O')
  (hline:autoParam ((apos.endLine==pos.line)=true) tR) (hs:autoParam (Zac [e]=true) tR)
  (hbase:autoParam (attributeBase oe (Str.ofString "add") C.env (eval oe C.env)=eval oe C.env) tR)
  (hfew:autoParam (((backTo pos (starEach [e] C.env)).all (λ x=>!x.1)&&(backToKw pos (keywordEach [] C.env)).all (λ x=>x.1.isSome)
   && decide (([e]:List Expr).length+([]:List Keyword).length+(if ([]:List Keyword).isEmpty then 0 else 1) < 30))=true) tR) :
  EvX C σ O (.Call (.Attribute oe (Str.ofString "add") apos) [e] [] pos) λ d' O''=>d' = .none∧O''=O':=
 .meth (T := "set") ho (λ s v S hv=>by
  have hh:v = .ref a:=hv; subst hh
  exact ⟨(S.setOf ha (by exact Wn [_,_] (.a (.v 0) (.n 1)) (.v 1) [(1,.a (.a (.v 0) (.n 1)) (.n 1),.v 1)] rfl hn)).typeIs,(S.setOf ha (by exact Wn [_,_] (.a (.v 0) (.n 1)) (.v 1) [(1,.a (.a (.v 0) (.n 1)) (.n 1),.v 1)] rfl hn)).noDict⟩) F.plainAttrs_set F.slot_set_add F.type_set_add (.cons he .nil) (by
  intro s v vs S hv hq0 Q hQ
  refine E12 (Vals.one hq0) λ u e1 Y1=>?_
  refine E11 Y1 λ t hu=>?_
  clear Y1
  have hh:v = .ref a:=hv; subst hh
  subst hu; subst e1
  refine call_set_add (k:=x) (beq_self_eq_true x) rfl (S.setOf ha (by exact Wn [_,_] (.a (.v 0) (.n 1)) (.v 1) [(1,.a (.a (.v 0) (.n 1)) (.n 1),.v 1)] rfl hn)) hn λ h' hs' hS'=>?_
  obtain ⟨o',ho',hob⟩:=hS'.objOf
  have X:Eff [a] s { s with heap:=h',toks:=s.toks+1 }:=.but hs' λ vs=>ShAt.noTup (S.objs _ ha.mem) vs
  exact hQ .none _ .none _ ⟨rfl,rfl⟩ X.tk (S.put hp X ⟨o',ho',hob,setObj_noTup hob⟩) rfl) hline hs hbase hfew
theorem Run.exprDrop {e:Expr} {pos:Pos} {rest:List Stmt} {P:D→Led→Prop} {K:Flow→Shared→Prop} (he:EvX C σ O e P) (h:∀ d O',P d O'→Run C σ O' rest K)
  (hs:autoParam (swapsWith e none pos.line C.env=pure false) tR):Run C σ O (.Expr e pos::rest) K:=Run.cons λ s S=>by
 exact wpAny_Expr_any (he s S _ λ v s₁ d O' p t₁ S₁ hv=>h d O' p s₁ S₁) (by unfold interactive; rw [C.kind]; rfl) hs
end
section
set_option maxRecDepth 100000
set_option maxHeartbeats 2000000
variable {B:Bs} {C:Cx B} {σ σ':Loc} {O O':Led}
noncomputable def Zia:List Str:=["_iter_namespaces", "_qname", "data", "_flush", "start", "_start", "end"]
theorem attr_obj:∀ n∈attrNames++Zia,typeLookup (.type "object") n=pure Option.none:=by
 simp only [attrNames,Zia,List.cons_append,List.nil_append,List.forall_mem_cons]
 refine ⟨?_,?_,?_,?_,?_,?_,?_,?_,?_,?_,?_,?_,?_,?_,?_,?_,?_,?_,?_,?_,?_,?_,?_,?_,λ _ h=>nomatch h⟩ <;> (rw [typeLookup_type,builtinLookup_eq_fast]; kernel_rfl)
theorem Zar {n:Str} (h:(attrNames++Zia).contains n=true):typeLookup (.type "object") n=pure Option.none:=attr_obj n (List.contains_iff_mem.mp h)
set_option genInjectivity false in
structure TopC (B:Bs) where
 T:Top B
 K:Addr
 N:Addr
 mN:Str→Option Value
 cls:Zim B K N mN
 glob:B.mg "C14NWriterTarget" = some (.ref K)
 noA:∀ {n},attrNames.contains n=true→mN n=Option.none
 mA:Nat→Addr
 dfl:Nat→Addr
 meth:∀ {i},[1,3,4,5,7,8,9].contains i=true→mN (Zcc (mAt i))=some (.ref (mA i))∧Zix B (mA i)
 gens:NsGen B (mA 1) (dfl 1) "C14NWriterTarget._iter_namespaces"
 def3:DefTop B (mA 3) (mAt 3) "C14NWriterTarget._qname" (.ref (dfl 3)) .none
 dfl3:∀ h,B.G h→∃ o n,h.get? (dfl 3)=some o∧o.data = .seq #[.none] n
 def4:DefTop B (mA 4) (mAt 4) "C14NWriterTarget.data" .none .none
 def5:DefTop B (mA 5) (mAt 5) "C14NWriterTarget._flush" (.ref (dfl 5)) .none
 def7:DefTop B (mA 7) (mAt 7) "C14NWriterTarget.start" .none .none
 def9:DefTop B (mA 9) (mAt 9) "C14NWriterTarget.end" .none .none
 c8:Addr
 def8:∃ o pm,o.data = .func (fdOf (mAt 8) "C14NWriterTarget._start" (.ref c8) pm (.ref (dfl 8)) .none)∧(∀ h,B.G h→h.get? (mA 8)=some o)∧∀ h,B.G h→h.CodeRec (.ref c8) "C14NWriterTarget._start"
 dfl8:∀ h,B.G h→∃ o n,h.get? (dfl 8)=some o∧o.data = .seq #[.none] n
 lam:LamTop B c8
 init:mN "__init__" = some (.ref (mA 0))∧Zix B (mA 0)
 kwd:Addr
 def0:DefTop B (mA 0) (mAt 0) "C14NWriterTarget.__init__" .none (.ref kwd)
 kwm:Str→Option Value
 kwN:∀ h,B.G h→h.Ns kwd kwm
 kwv:kwm "with_comments" = some (.bool false)∧kwm "strip_text" = some (.bool false)∧kwm "rewrite_prefixes" = some (.bool false)∧kwm "qname_aware_tags" = some .none∧kwm "qname_aware_attrs" = some .none∧kwm "exclude_attrs" = some .none∧kwm "exclude_tags" = some .none
 nsm:Addr
 nsG:B.mg "_namespace_map" = some (.ref nsm)
 nsNe:nsm ≠ sysModules
 nsD:∀ h,B.G h→∃ kvs,h.DictOf (Zfj B) nsm kvs∧kvs.length≤100
 join:Addr
 dfl5:∀ h,B.G h→∃ o n,h.get? (dfl 5)=some o∧o.data = .seq #[.ref join] n
 joinO:∀ h,B.G h→∃ o t,h.get? join=some o∧o.cls = .type "builtin_function_or_method" ∧ o.data = .fields #[.builtin "str.join",.str "" t]
set_option genInjectivity false in
structure Wr where
 x:Addr
 dx:Addr
 wr:Addr
 out:Addr
 dt:Addr
 decl:Addr
 n0:Addr
 nss:Addr
 pm:Addr
 ps:Addr
noncomputable def Wr.attrs (W:Wr) (seen done:Bool):List (Str × D):=[("_write",.ref W.wr),("_data",.ref W.dt),("_with_comments",.bool false),("_strip_text",.bool false),("_exclude_attrs",.none),("_exclude_tags",.none),("_rewrite_prefixes",.bool false),("_qname_aware_tags",.none),("_find_qname_aware_attrs",.none),("_declared_ns_stack",.ref W.decl),("_ns_stack",.ref W.nss),("_prefix_map",.ref W.pm),("_preserve_space",.ref W.ps),("_pending_start",.none),("_root_seen",.bool seen),("_root_done",.bool done),("_ignored_depth",.int 0)]
noncomputable def Zbj:D:=.tup [.str "http://www.w3.org/XML/1998/namespace",.str "xml"]
noncomputable def Wr.self (W:Wr) (K:Addr) (seen done:Bool):Led:=[(W.x,.obj K W.dx),(W.dx,.attrs (W.attrs seen done))]
noncomputable def Wr.nsL (W:Wr) (rs:List Addr):Led:=(W.decl,.list (.ref W.n0::rs.map D.ref))::(W.n0,.list [Zbj])::rs.map λ r=>(r,Sh.list [])
theorem AAt.nth:∀ {es:List (Str × D)} (i:Nat) {n:Str} {d:D},es[i]? = some (n,d)→AAt es n d
 | [],_,_,_,h=>by simp at h
 | p::r,0,n,d,h=>by simp at h; subst h; exact .z
 | p::r,i+1,n,d,h=>.u (AAt.nth i (by simpa using h))
theorem APut.nth:∀ {es:List (Str × D)} (i:Nat) {n:Str} {d e:D},es[i]? = some (n,e)→(es.map (·.1)).Nodup→APut es n d (es.set i (n,d))
 | [],_,_,_,_,h,_=>by simp at h
 | p::r,0,n,d,e,h,nd=>by simp at h; subst h; exact .z
 | p::r,i+1,n,d,e,h,nd=>by
  rw [List.map_cons,List.nodup_cons] at nd
  have hr:r[i]? = some (n,e):=by simpa using h
  exact .u (λ q=>nd.1 (q ▸ Zat (List.mem_of_getElem? hr))) (APut.nth i hr nd.2)
theorem Wr.attrs_names (W:Wr) (a b:Bool):(W.attrs a b).map (·.1)=attrNames:=rfl
theorem Zgq:attrNames.Nodup:=by decide +kernel
theorem Ev.at (T:TopC B) {oe:Expr} {n:Str} {pos:Pos} {x dx:Addr} {es:List (Str × D)} {d:D} (ho:Ev C σ O oe (.ref x)) (hx:OAt O x (.obj T.K dx)) (hd:OAt O dx (.attrs es)) (ha:AAt es n d) (hq:d.noB=true)
  (hn:autoParam (attrNames.contains n=true) tE)
  (he:autoParam (eval (.Attribute oe n pos) C.env=(do
   let o ← eval oe C.env
   standAt pos.atName
   let r ← holding [o] (getAttr o n true)
   letTemporaryGo oe o r
   pure r)) tW):Ev C σ O (.Attribute oe n pos) d:=
 .attr T.cls ho hx hd ha hq (T.noA hn) (Zar (by rw [List.contains_iff_mem] at hn ⊢; exact List.mem_append_left _ hn)) he
end
section
set_option maxRecDepth 100000
set_option maxHeartbeats 4000000
noncomputable def bsOf (w:World) (h₁:Heap) (mg mb:Str→Option Value) (lim:h₁.NoLimit) (hg:h₁.Ns mainGlobals mg) (hb:h₁.Ns builtinsNs mb) (big:sysModules < h₁.objs.size):Bs where
 prog:=PySem.Challenge.pw_kl0100_01
 w:=w
 T:=h₁.objs.size
 P:=123
 G h:=∀ a o,a ≠ 123→h₁.get? a=some o→h.get? a=some o
 stable:=λ h h' g k a o ne e=>k a o ⟨Heap.lt_size e,ne⟩ (g a o ne e)
 lim:=λ h g=>by refine E12 lim λ mc Y1 q=>?_; try clear lim; refine E32 Y1 λ o es ep e r=>?_; clear Y1; exact ⟨mc,⟨o,es,ep,g _ _ (by decide) e,r⟩,q⟩
 mg:=mg
 mb:=mb
 hg:=λ h g=>by refine E32 hg λ o es ep e r=>?_; try clear hg; exact ⟨o,es,ep,g _ _ (by decide) e,r⟩
 hb:=λ h g=>by refine E32 hb λ o es ep e r=>?_; try clear hb; exact ⟨o,es,ep,g _ _ (by decide) e,r⟩
 big:=⟨big,by decide⟩
theorem Zcd {α β : Type} {f g : α→β}:∀ {l:List α},l.map f=l.map g→∀ x∈l,f x=g x
 | _::_,e,x,hx=>by
  rw [List.map_cons,List.map_cons] at e
  refine E02 (List.cons.inj e) λ e1 e2=>?_
  rcases List.mem_cons.mp hx with rfl | hx
  ·exact e1
  ·exact Zcd e2 x hx
theorem codeQ_spec {h:Heap} {a:Addr} {x:Str} (e:codeQ h a=some x):∃ o vs t,h.get? a=some o∧o.data = .fields vs∧vs[1]? = some (.str x t):=by
 refine E12 (Option.bind_eq_some_iff.mp e) λ o ho e=>?_
 unfold codeO at e
 split at e
 ·rename_i c d vs sl
  split at e
  ·rename_i y t hv
   cases e
   exact ⟨_,vs,t,ho,rfl,hv⟩
  ·cases e
 ·cases e
theorem seqQ_spec {h:Heap} {a:Addr} {vs:List Value} (e:seqQ h a=some vs):∃ o n,h.get? a=some o∧o.data = .seq vs.toArray n:=by
 refine E12 (Option.bind_eq_some_iff.mp e) λ o ho e=>?_
 unfold seqO at e
 split at e
 ·rename_i c d us n sl
  cases e
  exact ⟨_,n,ho,rfl⟩
 ·cases e
theorem Zfp {v:Option Value} {i:Int} (e:intQ v=some i):∃ t,v=some (.int i t):=by
 unfold intQ at e
 split at e
 ·cases e; exact ⟨_,rfl⟩
 ·cases e
theorem Zho {v:Value} {x:Str} (e:strQ v=some x):∃ t,v = .str x t:=by
 unfold strQ at e
 split at e
 ·cases e; exact ⟨_,rfl⟩
 ·cases e
noncomputable def entQ (e:DictEntry):Int × (Option Int × Option Str) × (Option Int × Option Str):=(e.hash,(intQ (some e.key),strQ e.key),(intQ (some e.val),strQ e.val))
theorem dictQ_spec {h:Heap} {a:Addr} {l:List (Int × (Option Int × Option Str) × (Option Int × Option Str))} (e:dictQ h a=some l):∃ o es ep,h.get? a=some o∧o.ExactDict∧o.data = .dict es ep∧es.toList.map entQ=l:=by
 refine E12 (Option.bind_eq_some_iff.mp e) λ o ho e=>?_
 unfold dictO at e
 split at e
 ·rename_i es n sl
  cases hs:sl.size==0 with
  | false=>rw [hs] at e; cases e
  | true=>
   rw [hs] at e
   exact ⟨_,es,n,ho,⟨rfl,rfl,Array.eq_empty_of_size_eq_zero (beq_iff_eq.mp hs)⟩,rfl,Option.some.inj e⟩
 ·cases e
theorem ents_kv {K α : Type} [DecidableEq K] {prog:Program} {w:World} (knd:KeyKind prog w K) (h:Heap) (key : α→K) (d : α→D) (f : α→Int × (Option Int × Option Str) × (Option Int × Option Str))
  (hk:∀ p e,entQ e=f p→knd.is (key p) e.key=true∧e.hash=knd.hash (key p)∧Val h e.val (d p)) 
  {ps:List α} {es:List DictEntry} (q:es.map entQ=ps.map f):∃ kvs:List (K × Value),(∀ e∈es,∃ k,knd.is k e.key=true∧e.hash=knd.hash k)∧Pairs knd es kvs∧kvs.map (·.1)=ps.map key∧Vals h (kvs.map (·.2)) (ps.map d):=by
 induction ps generalizing es with
 | nil=>cases (List.map_eq_nil_iff.mp q); exact ⟨[],λ _ h=>(nomatch h),.nil,rfl,rfl⟩
 | cons p ps ih=>
  cases es with
  | nil=>cases q
  | cons e es=>
   refine E02 (List.cons.inj q) λ q1 q2=>?_
   refine E03 (hk p e q1) λ k1 k2 k3=>?_
   refine E14 (ih q2) λ kvs a b c v=>?_
   refine ⟨(key p,e.val)::kvs,λ x hx=>?_,.cons k1 rfl b,by rw [List.map_cons,List.map_cons,c],.cons k3 v⟩
   rcases List.mem_cons.mp hx with q | hx
   ·subst q; exact ⟨_,k1,k2⟩
   ·exact a x hx
theorem dict_kv {K α : Type} [DecidableEq K] {prog:Program} {w:World} (knd:KeyKind prog w K) {h h':Heap} {a:Addr} (key : α→K) (d : α→D) (f : α→Int × (Option Int × Option Str) × (Option Int × Option Str)) {ps:List α}
  (e:dictQ h a=some (ps.map f)) (keep:∀ o,h.get? a=some o→h'.get? a=some o)
  (hk:∀ p e,entQ e=f p→knd.is (key p) e.key=true∧e.hash=knd.hash (key p)∧Val h' e.val (d p)) (nd:(ps.map key).Nodup) :
  ∃ kvs:List (K × Value),h'.DictOf knd a kvs∧kvs.map (·.1)=ps.map key∧Vals h' (kvs.map (·.2)) (ps.map d):=by
 refine E34 (dictQ_spec e) λ o es ep hg hx hd q=>?_
 refine E14 (ents_kv knd h' key d f hk q) λ kvs b c e1 e2=>?_
 exact ⟨kvs,⟨o,es,ep,keep o hg,hx,hd,λ e he=>b e (Array.mem_toList_iff.mpr he),c,by rw [e1]; exact nd⟩,e1,e2⟩
theorem entQ_str {w:World} {e:DictEntry} {x:Str} {v:Option Int × Option Str} (q:entQ e=(hashStr w x,((none:Option Int),some x),v)):(∃ t,e.key = .str x t)∧e.hash=hashStr w x∧(intQ (some e.val),strQ e.val)=v:=by
 refine E02 (Prod.mk.inj q) λ q1 q2=>?_
 refine E02 (Prod.mk.inj q2) λ q2 q3=>?_
 exact ⟨Zho (Prod.mk.inj q2).2,q1,q3⟩
theorem entQ_int {e:DictEntry} {i:Int} {v:Option Int × Option Str} (q:entQ e=(hashInt i,(some i,(none:Option Str)),v)):(∃ t,e.key = .int i t)∧e.hash=hashInt i∧(intQ (some e.val),strQ e.val)=v:=by
 refine E02 (Prod.mk.inj q) λ q1 q2=>?_
 refine E02 (Prod.mk.inj q2) λ q2 q3=>?_
 refine E11 (Zfp (Prod.mk.inj q2).1) λ t ht=>?_
 exact ⟨⟨t,Option.some.inj ht⟩,q1,q3⟩
noncomputable def fnA (i:Nat):Addr:=((topFns.find? λ p=>p.1==i).map (·.2.1)).getD 0
noncomputable def methA (i:Nat):Addr:=((clsFns.find? λ p=>p.1==i).map (·.2.1)).getD 0
noncomputable def dflA:Nat→Addr | 1=>68 | 3=>83 | 5=>99 | 8=>121 | _=>0
theorem Zlg:topFns.all (λ p=>p.2.1 != 123&&p.2.1 - 1 != 123)=true:=by kernel_rfl
theorem clsFns_ok:clsFns.all (λ p=>p.2.1 != 123&&p.2.1 - 1 != 123)=true:=by kernel_rfl
theorem topFns_has:[5,8,9,12,13,66,67,69,70,71,72,73,74,75,76,77,78,79,80,81,82,83].all (λ i=>(topFns.find? λ p=>p.1==i).isSome)=true:=by kernel_rfl
theorem clsFns_has:[1,3,4,5,7,8,9].all (λ i=>(clsFns.find? λ p=>p.1==i).isSome)=true:=by kernel_rfl
theorem ns_same {h h₁:Heap} {a:Addr} {m:Str→Option Value} {x:Str} {v:Value} (q:h.nsMap a x=some v) (n:h₁.Ns a m) (k:∀ o,h.get? a=some o→h₁.get? a=some o):∀ y,m y=h.nsMap a y:=λ y=>by
 unfold Heap.nsMap at q ⊢
 cases ho:h.get? a with
 | none=>rw [ho] at q; cases q
 | some o=>
  rw [ho] at q
  refine E34 n λ o' es ep e1 e2 _ e4=>?_
  try clear n
  rw [k o ho] at e1
  cases e1
  dsimp only
  rw [e2]
  exact (e4 y).symm
theorem Zkz {h:Heap} {a:Addr} {x:Str} (e:codeQ h a=some x):h.CodeRec (.ref a) x:=by refine E33 (codeQ_spec e) λ o vs t a1 a2 a3=>?_; exact ⟨a,o,vs,t,rfl,a1,a2,a3⟩
theorem code_up {h h':Heap} {a:Addr} {x:Str} (e:h.CodeRec (.ref a) x) (k:∀ o,h.get? a=some o→h'.get? a=some o):h'.CodeRec (.ref a) x:=by
 refine E43 e λ c o vs t q a1 r=>?_
 try clear e
 cases q
 exact ⟨a,o,vs,t,rfl,k o a1,r⟩
theorem Zjo {α : Type} {x:Str} {v : α}:∀ {l:List (Str × α)},l.lookup x=some v→(x,v)∈l
 | (y,u)::r,h=>by
  rw [List.lookup_cons] at h
  cases hb:x==y with
  | true=>rw [hb] at h; cases h; rw [eq_of_beq hb]; exact List.mem_cons_self
  | false=>rw [hb] at h; exact List.mem_cons_of_mem _ (Zjo h)
section
variable {w:World} {s:Shared} {h₁:Heap} {mg mb:Str→Option Value} {lim:h₁.NoLimit} {hg:h₁.Ns mainGlobals mg} {hb:h₁.Ns builtinsNs mb} {big:sysModules < h₁.objs.size}
theorem topc_of (e:obsOf s=Zjl w) (k:∀ a o,s.heap.get? a=some o→h₁.get? a=some o):∃ T:TopC (bsOf w h₁ mg mb lim hg hb big),DefTop (bsOf w h₁ mg mb lim hg hb big) 300 (stAt 84) "law" .none .none∧h₁.get? 123=some (tabObj #[])∧isCodeTable h₁ 123∧mg "law" = some (.ref 300):=by
 have up:∀ h,(bsOf w h₁ mg mb lim hg hb big).G h→∀ a o,a ≠ 123→s.heap.get? a=some o→h.get? a=some o:=λ h g a o ne q=>g a o ne (k a o q)
 have o1:=(Prod.mk.inj e).1
 have e':=(Prod.mk.inj e).2
 have o2:=(Prod.mk.inj e').1
 have e':=(Prod.mk.inj e').2
 have o3:=(Prod.mk.inj e').1
 have e':=(Prod.mk.inj e').2
 have o4:=(Prod.mk.inj e').1
 have e':=(Prod.mk.inj e').2
 have o5:=(Prod.mk.inj e').1
 clear e' e
 have f1:=(Prod.mk.inj o1).1
 have o1:=(Prod.mk.inj o1).2
 have f2:=(Prod.mk.inj o1).1
 have o1:=(Prod.mk.inj o1).2
 have f3:=(Prod.mk.inj o1).1
 have f4:=(Prod.mk.inj o1).2
 clear o1
 -- the defs
 have dTop:∀ p∈topFns,DefTop (bsOf w h₁ mg mb lim hg hb big) p.2.1 (stAt p.1) (Zcc (stAt p.1)) .none .none:=λ p hp=>by
  have hne:=List.all_eq_true.mp Zlg p hp
  simp only [Bool.and_eq_true,bne_iff_ne] at hne
  exact ⟨_,_,_,rfl,λ h g=>up h g _ _ hne.1 (Zcd f1 p hp),λ h g=>code_up (Zkz (Zcd f3 p hp)) λ o q=>up h g _ _ hne.2 q⟩
 have fTop:∀ p∈topFns,Zix (bsOf w h₁ mg mb lim hg hb big) p.2.1:=λ p hp=>by
  have hne:=List.all_eq_true.mp Zlg p hp
  simp only [Bool.and_eq_true,bne_iff_ne] at hne
  exact ⟨_,_,rfl,rfl,λ h g=>up h g _ _ hne.1 (Zcd f1 p hp)⟩
 have dCls:∀ p∈clsFns,DefTop (bsOf w h₁ mg mb lim hg hb big) p.2.1 (mAt p.1) p.2.2.1 p.2.2.2.1 p.2.2.2.2:=λ p hp=>by
  have hne:=List.all_eq_true.mp clsFns_ok p hp
  simp only [Bool.and_eq_true,bne_iff_ne] at hne
  exact ⟨_,_,_,rfl,λ h g=>up h g _ _ hne.1 (Zcd f2 p hp),λ h g=>code_up (Zkz (Zcd f4 p hp)) λ o q=>up h g _ _ hne.2 q⟩
 have fCls:∀ p∈clsFns,Zix (bsOf w h₁ mg mb lim hg hb big) p.2.1:=λ p hp=>by
  have hne:=List.all_eq_true.mp clsFns_ok p hp
  simp only [Bool.and_eq_true,bne_iff_ne] at hne
  exact ⟨_,_,rfl,rfl,λ h g=>up h g _ _ hne.1 (Zcd f2 p hp)⟩
 -- the names at the top
 have g1:=(Prod.mk.inj o3).1
 have o3:=(Prod.mk.inj o3).2
 have g2:=(Prod.mk.inj o3).1
 have o3:=(Prod.mk.inj o3).2
 have g3:=(Prod.mk.inj o3).1
 have o3:=(Prod.mk.inj o3).2
 have g4:=(Prod.mk.inj o3).1
 have o3:=(Prod.mk.inj o3).2
 have g5:=(Prod.mk.inj o3).1
 have g6:=(Prod.mk.inj o3).2
 clear o3
 have n1:s.heap.nsMap mainGlobals "C14NWriterTarget" = some (.ref 150):=(List.cons.inj g2).1
 have g2:=(List.cons.inj g2).2
 have n2:s.heap.nsMap mainGlobals "_namespace_map" = some (.ref 44):=(List.cons.inj g2).1
 have g2:=(List.cons.inj g2).2
 have n3:s.heap.nsMap mainGlobals "COMPILER_FLAG_NAMES" = some (.ref 169):=(List.cons.inj g2).1
 have g2:=(List.cons.inj g2).2
 have n4:s.heap.nsMap mainGlobals "EXACT_TOKEN_TYPES" = some (.ref 184):=(List.cons.inj g2).1
 have g2:=(List.cons.inj g2).2
 have n5:s.heap.nsMap mainGlobals "__builtins__" = some (.ref 4):=(List.cons.inj g2).1
 clear g2
 have hmg:∀ y,mg y=s.heap.nsMap mainGlobals y:=ns_same n1 hg λ o q=>k _ o q
 have b1:s.heap.nsMap builtinsNs "enumerate" = some (.type "enumerate"):=Zcd g6 (("enumerate" : Str),.type "enumerate") List.mem_cons_self
 have hmb:∀ y,mb y=s.heap.nsMap builtinsNs y:=ns_same b1 hb λ o q=>k _ o q
 -- the class
 have c1:=(Prod.mk.inj o4).1
 have o4:=(Prod.mk.inj o4).2
 have c2:=(Prod.mk.inj o4).1
 have o4:=(Prod.mk.inj o4).2
 have c3:=(Prod.mk.inj o4).1
 have o4:=(Prod.mk.inj o4).2
 have c4:=(Prod.mk.inj o4).1
 have o4:=(Prod.mk.inj o4).2
 have c5:=(Prod.mk.inj o4).1
 have c6:=(Prod.mk.inj o4).2
 clear o4
 -- single objects
 have s1:=(Prod.mk.inj o2).1
 have o2:=(Prod.mk.inj o2).2
 have s2:=(Prod.mk.inj o2).1
 have o2:=(Prod.mk.inj o2).2
 have s3:=(Prod.mk.inj o2).1
 have o2:=(Prod.mk.inj o2).2
 have s4:=(Prod.mk.inj o2).1
 have o2:=(Prod.mk.inj o2).2
 have s5:=(Prod.mk.inj o2).1
 have o2:=(Prod.mk.inj o2).2
 have s6:=(Prod.mk.inj o2).1
 have o2:=(Prod.mk.inj o2).2
 have s7:=(Prod.mk.inj o2).1
 have o2:=(Prod.mk.inj o2).2
 have s8:=(Prod.mk.inj o2).1
 have s9:=(Prod.mk.inj o2).2
 clear o2
 have d2:=(Prod.mk.inj o5).1
 have d1:=(Prod.mk.inj o5).2
 clear o5
 have d3:=(Prod.mk.inj d1).1
 have d4:=(Prod.mk.inj d1).2
 clear d1
 have seq:∀ {a:Addr} {vs:List Value},a ≠ 123→seqQ s.heap a=some vs→∀ h,(bsOf w h₁ mg mb lim hg hb big).G h→∃ o n,h.get? a=some o∧o.data = .seq vs.toArray n:=λ ne q h g=>by refine E22 (seqQ_spec q) λ o n x y=>?_; exact ⟨o,n,up h g _ _ ne x,y⟩
 have ns:∀ {a:Addr},a ≠ 123→s.heap.isNs a=true→∀ h,(bsOf w h₁ mg mb lim hg hb big).G h→h.Ns a (s.heap.nsMap a):=λ ne q h g=>by refine E32 (Heap.Ns.of_isNs q) λ o es ep x y=>?_; exact ⟨o,es,ep,up h g _ _ ne x,y⟩
 have hK:∀ h,(bsOf w h₁ mg mb lim hg hb big).G h→h.get? 150=some clsObj:=λ h g=>up h g _ _ (by decide) s6
 have top:∃ T:Top (bsOf w h₁ mg mb lim hg hb big),True:=by
  refine ⟨{ fA:=fnA,bn:=λ {x v} q=>?_,gn:=λ {i} hi=>?_,eof:=?_,nt:=?_,cfn:=169,cfnG:=(hmg _).trans n3,cfnM:=⟨by decide,λ h g=>?_⟩,ett:=184,ettG:=(hmg _).trans n4,ettM:=⟨by decide,λ h g=>?_⟩ },trivial⟩
  ·have hm:=Zjo q
   exact ⟨(hmg _).trans (Zcd g5 (x,v) hm),(hmb _).trans (Zcd g6 (x,v) hm)⟩
  ·have hs:=List.all_eq_true.mp topFns_has i (List.contains_iff_mem.mp hi)
   refine E11 (Option.isSome_iff_exists.mp hs) λ p hp=>?_
   have e1:p.1=i:=beq_iff_eq.mp (List.find?_some (p:=λ p:Nat × Addr × Value=>p.1==i) hp)
   have e2:fnA i=p.2.1:=by unfold fnA; rw [hp]; rfl
   have hm:=List.mem_of_find?_eq_some hp
   subst e1
   rw [e2]
   exact ⟨(hmg _).trans (Zcd g1 p hm),dTop p hm⟩
  ·refine E11 (Zfp g3) λ t ht=>?_; exact ⟨t,(hmg _).trans ht⟩
  ·refine E11 (Zfp g4) λ t ht=>?_; exact ⟨t,(hmg _).trans ht⟩
  ·obtain ⟨kvs,a,b,c⟩:=dict_kv (ikind (bsOf w h₁ mg mb lim hg hb big)) (h':=h) (λ p:Str × Nat=>((2 ^ p.2:Nat):Int)) (λ p=>D.str p.1) _ d3 (λ o q=>up h g _ _ (by decide) q) (λ p x q=>by
    refine E03 (entQ_int q) λ Y1 q2 q3=>?_
    refine E11 Y1 λ t q1=>?_
    clear Y1
    refine ⟨by rw [q1]; exact beq_self_eq_true _,q2,Zho (Prod.mk.inj q3).2⟩) (by decide +kernel)
   exact ⟨_,a.mapOf,corr (b.trans (by rw [cfnEs,List.map_map]; rfl)) (by rw [cfnEs,List.map_map]; exact c)⟩
  ·obtain ⟨kvs,a,b,c⟩:=dict_kv (Zfj (bsOf w h₁ mg mb lim hg hb big)) (h':=h) (λ p:Str × Nat=>p.1) (λ p=>D.nat p.2) _ d4 (λ o q=>up h g _ _ (by decide) q) (λ p x q=>by
    refine E03 (entQ_str q) λ Y1 q2 q3=>?_
    refine E11 Y1 λ t q1=>?_
    clear Y1
    refine E11 (Zfp (Prod.mk.inj q3).1) λ t' q4=>?_
    refine ⟨by rw [q1]; exact beq_self_eq_true _,q2,⟨t',Option.some.inj q4⟩⟩) (by decide +kernel)
   exact ⟨_,a.mapOf,corr (b.trans (by rw [ettEs,List.map_map]; rfl)) (by rw [ettEs,List.map_map]; exact c)⟩
 refine E11 top λ T _=>?_
 try clear top
 have cm:∀ i p,clsFns[i]? = some p→p∈clsFns:=λ i p hp=>List.mem_of_getElem? hp
 have hKo:∃ o,s.heap.get? 150=some o:=⟨_,s6⟩
 have nN:=ns (by decide) c1
 have nkw:=ns (by decide) c2
 have jo:∀ h,(bsOf w h₁ mg mb lim hg hb big).G h→∃ o t,h.get? 98=some o∧o.cls = .type "builtin_function_or_method" ∧ o.data = .fields #[.builtin "str.join",.str "" t]:=λ h g=>⟨_,_,up h g _ _ (by decide) s5,rfl,rfl⟩
 refine ⟨{ T:=T,K:=150,N:=149,mN:=s.heap.nsMap 149,cls:=⟨⟨_,_,_,_,_,_,_,_,_,_,_,_,hK⟩,nN,(List.cons.inj c4).1,(List.cons.inj (List.cons.inj c4).2).1,(List.cons.inj (List.cons.inj (List.cons.inj c4).2).2).1,⟨Heap.lt_size (k _ _ s6),by show (150:Nat) ≠ 123; decide⟩⟩,glob:=(hmg _).trans n1,noA:=λ {n} hn=>Zcd c3 n (List.contains_iff_mem.mp hn),mA:=methA,dfl:=dflA,meth:=λ {i} hi=>?_,gens:=⟨dCls (1,75,_,_,_) (cm 1 _ rfl),fCls (1,75,_,_,_) (cm 1 _ rfl),seq (by decide) s1⟩,def3:=dCls (3,90,_,_,_) (cm 2 _ rfl),dfl3:=seq (by decide) s2,def4:=dCls (4,97,_,_,_) (cm 3 _ rfl),def5:=dCls (5,106,_,_,_) (cm 4 _ rfl),def7:=dCls (7,120,_,_,_) (cm 5 _ rfl),def9:=dCls (9,133,_,_,_) (cm 7 _ rfl),c8:=125,def8:=?_,dfl8:=seq (by decide) s4,lam:=⟨λ h g=>?_,λ h g=>?_,by show (3:Nat) ≠ 123; decide⟩,init:=⟨Zcd c5 _ (cm 0 _ rfl),fCls (0,67,_,_,_) (cm 0 _ rfl)⟩,kwd:=60,def0:=dCls (0,67,_,_,_) (cm 0 _ rfl),kwm:=s.heap.nsMap 60,kwN:=nkw,kwv:=?_,nsm:=44,nsG:=(hmg _).trans n2,nsNe:=by decide,nsD:=λ h g=>?_,join:=98,dfl5:=seq (by decide) s3,joinO:=jo },?_,?_,?_,(hmg _).trans (Zcd g1 (84,300,Zbx) (List.mem_of_getElem? (i:=22) rfl))⟩
 ·have hs:=List.all_eq_true.mp clsFns_has i (List.contains_iff_mem.mp hi)
  refine E11 (Option.isSome_iff_exists.mp hs) λ p hp=>?_
  have e1:p.1=i:=beq_iff_eq.mp (List.find?_some (p:=λ p:Nat × Addr × Str × Value × Value=>p.1==i) hp)
  have e2:methA i=p.2.1:=by unfold methA; rw [hp]; rfl
  have hm:=List.mem_of_find?_eq_some hp
  subst e1
  rw [e2]
  exact ⟨Zcd c5 p hm,fCls p hm⟩
 ·have hm:=cm 6 _ rfl
  exact ⟨_,_,rfl,λ h g=>up h g _ _ (by decide) (Zcd f2 _ hm),λ h g=>code_up (Zkz (Zcd f4 _ hm)) λ o q=>up h g _ _ (by decide) q⟩
 ·exact ⟨_,_,_,_,_,_,_,_,_,up h g _ _ (by decide) s7,rfl,rfl,rfl,rfl,rfl,rfl,rfl,rfl,by show (125:Nat) ≠ 123; decide⟩
 ·exact ⟨4,_,(hmg _).trans n5,by decide,by decide,by show (4:Nat) ≠ 123; decide,up h g _ _ (by decide) s9,rfl,rfl,rfl⟩
 ·exact ⟨(List.cons.inj c6).1,(List.cons.inj (List.cons.inj c6).2).1,(List.cons.inj (List.cons.inj (List.cons.inj c6).2).2).1,(List.cons.inj (List.cons.inj (List.cons.inj (List.cons.inj c6).2).2).2).1,(List.cons.inj (List.cons.inj (List.cons.inj (List.cons.inj (List.cons.inj c6).2).2).2).2).1,(List.cons.inj (List.cons.inj (List.cons.inj (List.cons.inj (List.cons.inj (List.cons.inj c6).2).2).2).2).2).1,(List.cons.inj (List.cons.inj (List.cons.inj (List.cons.inj (List.cons.inj (List.cons.inj (List.cons.inj c6).2).2).2).2).2).2).1⟩
 ·obtain ⟨kvs,a,b,c⟩:=dict_kv (Zfj (bsOf w h₁ mg mb lim hg hb big)) (h':=h) (λ p:Str × Str=>p.1) (λ p=>D.str p.2) _ d2 (λ o q=>up h g _ _ (by decide) q) (λ p x q=>by
    refine E03 (entQ_str q) λ Y1 q2 q3=>?_
    refine E11 Y1 λ t q1=>?_
    clear Y1
    refine ⟨by rw [q1]; exact beq_self_eq_true _,q2,Zho (Prod.mk.inj q3).2⟩) (by decide +kernel)
  refine ⟨kvs,a,?_⟩
  have:=congrArg List.length b
  rw [List.length_map,List.length_map] at this
  rw [this]
  decide
 ·exact dTop (84,300,Zbx) (List.mem_of_getElem? (i:=22) rfl)
 ·exact k _ _ s8
 ·exact ⟨125,_,_,k _ _ s7,rfl,rfl,rfl⟩
end
end
section
set_option maxRecDepth 100000
set_option maxHeartbeats 2000000
variable {B:Bs} {C:Cx B} {σ σ':Loc} {O O':Led}
noncomputable def qnU (K:Addr) (W:Wr) (seen done:Bool) (rs:List Addr):Led:=W.self K seen done++W.nsL rs
def plainName (q:Str):Prop:=Txt.slice q Option.none (some 1) ≠ "{" ∧ q.length≤100
theorem xml_ne:((Str.ofString "http://www.w3.org/XML/1998/namespace")==(Str.ofString ""))=false:=by kernel_rfl
theorem Zht (T:TopC B) {W:Wr} {rs:List Addr} {seen done:Bool} {q:Str} (hq:plainName q) :
  CallsC B 1 (.ref (T.mA 3)) [.ref W.x,.str q] (qnU T.K W seen done rs) λ d U'=>d = .tup [.str q,.str q,.str ""]∧U'=qnU T.K W seen done rs:=by
 have hzz:sizeLine=16777216:=by decide +kernel
 refine E02 hq λ hq1 hq2=>?_
 try clear hq
 refine .of_def T.def3 [("self",some (.ref W.x)),("qname",some (.str q)),("uri",some .none),("tag",none),("prefixes_seen",none),("u",none),("prefix",none)] [] (λ _=>[]) (λ L=>rfl) (λ L=>rfl) ⟨⟨rfl,rfl⟩,rfl⟩ (by show (["self", "qname", "uri", "tag", "prefixes_seen", "u", "prefix"]:List Str).Nodup; decide +kernel) (by show ∀ x∈(["self", "qname", "uri", "tag", "prefixes_seen", "u", "prefix"]:List Str),_; decide +kernel) .nil ?_ ?_
 ·intro cd pm s vs hG hq0
  refine E23 (Vals.two hq0) λ v u Y1 hv hu=>?_
  subst Y1
  refine E22 (T.dfl3 _ hG) λ o n ho hd=>?_
  refine ⟨[("self",v),("qname",u),("uri",.none)],BindsTo.of_defaults (T:=T.dfl 3) (items:=#[.none]) rfl ho hd (by rfl) (by rfl),?_,⟨⟨v,rfl,hv⟩,⟨u,rfl,hu⟩,⟨.none,rfl,rfl⟩,trivial⟩,trivial⟩
  intro x hx
  rcases List.mem_cons.mp hx with rfl | hx
  ·exact .inl rfl
  rcases List.mem_cons.mp hx with rfl | hx
  ·exact .inl rfl
  ·rw [List.mem_singleton.mp hx]; exact .inl rfl
 intro C I hn
 refine Run.kabs λ K hE=>?_
 show Run C _ (qnU T.K W seen done rs) _ _
 refine .ite (b:=true) (.cmp (.name .q2) .none .isNone) (λ _=>?_) (λ h=>nomatch h)
 refine .assignT (d:=.tup [.str "",.str q]) (.ifExp (b:=false) ((Tst.cmp (.sliceStr (.name .q1) .none (.some .int) (by (apply Wls;assumption;rfl))) .str .eqStr).cast (by simpa using hq1)) (λ h=>nomatch h) λ _=>.tup (.cons .str (.cons (.name .q1) .nil))) (.tup2 (.name .q2) (.name .q3)) (.next ?_)
 refine Run.assignX1 (EvX.set0 (.bn T.T I rfl)) λ a=>?_
 refine ⟨_,.q4,?_⟩
 refine Run.forNs (rs:=rs) (d:=Zbj) (σ₁:=[("self",some (.ref W.x)),("qname",some (.str q)),("uri",some (.str "")),("tag",some (.str q)),("prefixes_seen",some (.ref a)),("u",some (.str "http://www.w3.org/XML/1998/namespace")),("prefix",some (.str "xml"))])
  (σ₂:=[("self",some (.ref W.x)),("qname",some (.str q)),("uri",some (.str "")),("tag",some (.str q)),("prefixes_seen",some (.ref a)),("u",some (.str "http://www.w3.org/XML/1998/namespace")),("prefix",some (.str "xml"))])
  (O₂:=(a,.set B (λ k=>(λ _=>false) k || decide (k = "xml")) (if (λ _=>false) ("xml" : Str)=true then 0 else 0+1))::qnU T.K W seen done rs)
  T.gens T.cls (.name .z) .q1 .q2 (by rw [Wr.attrs_names]; decide +kernel) (T.meth (i:=1) (by kernel_rfl)).1 (.at T (.name .z) .q1 .q2 (.nth 9 rfl) rfl) (D:=W.decl) (n0:=W.n0) ?_ ?_ ?_ (λ g R=>?_) (λ g R=>?_) ?_ ?_
 ·exact List.mem_cons_of_mem _ (List.mem_cons_of_mem _ (List.mem_cons_of_mem _ List.mem_cons_self))
 ·exact List.mem_cons_of_mem _ (List.mem_cons_of_mem _ (List.mem_cons_of_mem _ (List.mem_cons_of_mem _ List.mem_cons_self)))
 ·exact λ r hr=>List.mem_cons_of_mem _ (List.mem_cons_of_mem _ (List.mem_cons_of_mem _ (List.mem_cons_of_mem _ (List.mem_cons_of_mem _ (List.mem_map.mpr ⟨r,hr,rfl⟩)))))
 ·exact .tup2 (.name .q5) (.name .q6)
 ·refine .ite (b:=false) ((Tst.and (b:=false) (c:=true) ((Tst.cmp (.name .q5) (.name .q2) .eqStr).cast xml_ne) λ h=>nomatch h)) (λ h=>nomatch h) λ _=>.next ?_
  refine .expr (.setAdd (x := "xml") (.name .q4) .z (by decide +kernel) (.name .q6) .z) (.nil λ s S=>S)
 ·exact List.mem_cons_of_mem _ (List.mem_cons_of_mem _ (List.mem_cons_of_mem _ (List.mem_cons_of_mem _ List.mem_cons_self)))
 refine .ite (b:=false) (.val (.at T (.name .z) .q1 .q2 (.nth 6 rfl) rfl) .bool) (λ h=>nomatch h) λ _=>.next ?_
 refine .ite (b:=true) ((Tst.and (b:=true) (c:=true) ((Tst.not (b:=false) (.val (.name .q2) (.str (by decide +kernel)))).cast rfl) λ _=>(Tst.cmp .str (.name .q4) (.notInSet .z (by decide +kernel))).cast (by kernel_rfl)).cast rfl) (λ _=>?_) (λ h=>nomatch h)
 refine .ret (.tup (.cons (.name .q3) (.cons (.name .q3) (.cons (.name .q2) .nil)))) λ v s S hv=>hE _ _ (Ends.of ⟨rfl,rfl⟩ S (.cons _ (.refl _)) hv)
end
section
open PySem PySem.Builtin PySem.W PySem.Calls PyProof.Rows
set_option maxRecDepth 100000
set_option maxHeartbeats 2000000
section
variable {prog:Program} {w:World} {A:Around} {E:Value→Shared→Prop} {s₀ s:Shared} {a:Addr} {vs:List Value} {ks xs:List Str}
def PairAt (h:Heap) (v:Value) (k x:Str):Prop:=∃ t o n u y,v = .ref t∧h.get? t=some o∧o.cls = .type "tuple" ∧ o.data = .seq #[.str k u,.str x y] n
def PairsAt (h:Heap):List Value→List Str→List Str→Prop
 | [],[],[]=>True
 | v::vs,k::ks,x::xs=>PairAt h v k x∧PairsAt h vs ks xs
 | _,_,_=>False
theorem PairsAt.tk {h h':Heap} (t:Tk h h') {vs:List Value} {ks xs:List Str} (y:PairsAt h vs ks xs):PairsAt h' vs ks xs:=by
 induction vs generalizing ks xs with
 | nil=>cases ks <;> cases xs <;> exact y
 | cons v vs ih=>
  cases ks with
  | nil=>exact y.elim
  | cons k ks=>
   cases xs with
   | nil=>exact y.elim
   | cons x xs=>
    have Y2:=y
    try clear y
    refine E02 Y2 λ Y1 r=>?_
    clear Y2
    refine E54 Y1 λ a o n u y e ho hc hd=>?_
    clear Y1
    refine E23 (t a [.str k u,.str x y] ⟨o,n,ho,hc,hd⟩) λ o' n' ho' hc' hd'=>?_
    exact ⟨⟨a,o',n',u,y,e,ho',hc',hd'⟩,ih r⟩
theorem PairsAt.len {h:Heap} {vs:List Value} {ks xs:List Str} (y:PairsAt h vs ks xs):ks.length=vs.length∧xs.length=vs.length:=by
 induction vs generalizing ks xs with
 | nil=>cases ks <;> cases xs <;> first | exact ⟨rfl,rfl⟩ | exact y.elim
 | cons v vs ih=>
  cases ks with
  | nil=>exact y.elim
  | cons k ks=>
   cases xs with
   | nil=>exact y.elim
   | cons x xs=>exact ⟨congrArg (· + 1) (ih y.2).1,congrArg (· + 1) (ih y.2).2⟩
theorem PairsAt.get {h:Heap} {vs:List Value} {ks xs:List Str} (y:PairsAt h vs ks xs) {i:Nat} (hi:i < vs.length):PairAt h (vs.getD i .none) (ks.getD i "") (xs.getD i ""):=by
 induction vs generalizing ks xs i with
 | nil=>exact absurd hi (Nat.not_lt_zero _)
 | cons v vs ih=>
  cases ks with
  | nil=>exact y.elim
  | cons k ks=>
   cases xs with
   | nil=>exact y.elim
   | cons x xs=>
    cases i with
    | zero=>exact y.1
    | succ i=>exact ih y.2 (Nat.lt_of_succ_lt_succ hi)
theorem PairsAt.tups {h:Heap}:∀ {vs:List Value} {ks xs:List Str},PairsAt h vs ks xs→∃ fs,KatTups h vs fs∧fs.length=vs.length∧∀ f∈fs,∃ k t,f = .str k t
 | [],[],[],_=>⟨[],trivial,rfl,λ _ h=>nomatch h⟩
 | v::vs,k::ks,x::xs,⟨⟨t,o,n,u,y,e,ho,hc,hd⟩,r⟩=>by
  obtain ⟨fs,h1,h2,h3⟩:=r.tups
  subst e
  refine ⟨.str k u::fs,⟨⟨t,o,_,n,rfl,ho,hc,hd,rfl⟩,h1⟩,by simp [h2],λ f hf=>?_⟩
  rcases List.mem_cons.mp hf with rfl | hf
  ·exact ⟨k,u,rfl⟩
  ·exact h3 f hf
theorem one_str {x y:Str} {t u:Tok} {Q:Bool→Shared→Prop} (b:Bool) (hu:A.units < cLine) (h:Q (decide (x.cps.toList < y.cps.toList)) s):wpAny (model prog w) A (oneLt' b (.str x t) (.str y u)) Q E s:=by
 cases b with
 | false=>exact kat_one _ _ (PyProof.Rows.lt_str h)
 | true=>exact oneLt_str h
theorem pair_lt {v v':Value} {k k' x:Str} {x':Str} {b:Bool} {Q:Bool→Shared→Prop} (hu:A.units < cLine) (h1:PairAt s.heap v k x) (h2:PairAt s.heap v' k' x') (hx:k=k'→x=x') (h:Q (decide (k.cps.toList < k'.cps.toList)) s) :
  wpAny (model prog w) A (keyLt' (tuples' b) v v') Q E s:=by
 refine E54 h1 λ t o n u y Y1 ho hc hd=>?_
 try clear h1
 subst Y1
 refine E54 h2 λ t' o' n' u' y' Y1 ho' hc' hd'=>?_
 try clear h2
 subst Y1
 refine kat_lt ho hd ho' hd' (kat_cons (wpAny_eqBool_str ?_))
 by_cases e:k=k'
 ·rw [decide_eq_true e]
  refine kat_yes (kat_cons (wpAny_eqBool_str ?_))
  rw [decide_eq_true (hx e)]
  refine kat_yes (kat_nil ?_)
  subst e
  rw [decide_eq_false (List.lt_irrefl _)] at h
  exact h
 ·rw [decide_eq_false e]
  exact kat_no (one_str _ hu h)
theorem nodup_inj {α : Type} {l:List α} (nd:l.Nodup) {i j:Nat} (hi:i < l.length) (hj:j < l.length) (e:l[i]=l[j]):i=j:=by
 rcases Nat.lt_trichotomy i j with h | h | h
 ·exact absurd e ((List.pairwise_iff_getElem.mp nd) i j hi hj h)
 ·exact h
 ·exact absurd e.symm ((List.pairwise_iff_getElem.mp nd) j i hj hi h)
theorem Chain.pairwise {L:Nat→Nat→Prop} (ht:∀ a b c,L a b→L b c→L a c):∀ {l:List Nat},Chain L l→l.Pairwise L
 | [],_=>.nil
 | [x],_=>List.pairwise_cons.mpr ⟨λ _ h=>(nomatch h),.nil⟩
 | x::y::r,⟨h1,h2⟩=>by
  have ih:=Chain.pairwise ht h2
  refine List.pairwise_cons.mpr ⟨λ z hz=>?_,ih⟩
  rcases List.mem_cons.mp hz with rfl | hz
  ·exact h1
  ·exact ht _ _ _ h1 ((List.pairwise_cons.mp ih).1 z hz)
theorem Zdc {α : Type} (l:List α) (d : α):((List.range l.length).map λ i=>l.getD i d)=l:=by
 refine List.ext_getElem? λ i=>?_
 rw [List.getElem?_map]
 rcases Nat.lt_or_ge i l.length with hi | hi
 ·rw [List.getElem?_range hi,List.getElem?_eq_getElem hi]
  show some (l.getD i d)=_
  rw [List.getD_eq_getElem?_getD,List.getElem?_eq_getElem hi]; rfl
 ·rw [List.getElem?_eq_none hi,List.getElem?_eq_none (by simpa using hi)]; rfl
theorem sorted_idx {ks:List Str} {p:List Nat} (hp:p.Perm (List.range ks.length)) (hc:Chain (λ i j=>leS (ks.getD i "") (ks.getD j "")=true) p):(p.map λ i=>ks.getD i "")=Zbb ks:=by
 have h1:(p.map λ i=>ks.getD i "").Perm ks:=by
  have:=hp.map λ i=>ks.getD i ""
  rwa [Zdc] at this
 refine List.Perm.eq_of_pairwise (le:=λ a b=>leS a b=true) (λ a b _ _=>Zgl) ?_ (List.pairwise_mergeSort Zeh leS_total ks) (h1.trans (Zav ks).symm)
 exact List.pairwise_map.mpr (Chain.pairwise (L:=λ i j=>leS (ks.getD i "") (ks.getD j "")=true) (λ a b c h1 h2=>Zeh _ _ _ h1 h2) hc)
theorem pair_sort {n:Nat} {P:PySem.Fin→Shared→Prop} (hu:A.units < cLine) (x:Eff [] s₀ s) (ha:s.heap.get? a=some (seqObj "list" vs.toArray n)) (la:s₀.heap.objs.size≤a) (hn:vs.length≤5) (hp:PairsAt s.heap vs ks xs) (nd:ks.Nodup)
  (h:∀ s' (p:List Nat) c,Eff [] s₀ s'→p.Perm (List.range vs.length)→(p.map λ i=>ks.getD i "")=Zbb ks→s'.heap.get? a=some (seqObj "list" (p.map λ i=>vs.getD i .none).toArray c)→P (.done (.ret .none)) s') :
  wpAny (model prog w) A (Builtin.«list.sort» ⟨[.ref a],[]⟩) P E s:=by
 have hzl:sizeLine=16777216:=by decide +kernel
 have hal:a < s.heap.objs.size:=Heap.lt_size ha
 obtain ⟨hlk,hlx⟩:=hp.len
 rw [list_sort_plain]
 refine wpAny_bind (listItems_at ha rfl ?_)
 refine wpAny_bind (listUpdate_at ha rfl ?_ (by rw [List.size_toArray]; (apply Wls;assumption;rfl)) (Nat.zero_le _))
 have x₁:=x.upd (g:=λ _=>#[]) ha la
 have y₁:Eff [a] s { s with heap:=s.heap.update a (Obj.mapSeq λ _=>(#[]:Array Value)) }:=.but (t:=s.toks) (Heap.SameBut.update ..) (NoTup.not ha (.inl (by show (Value.type "list") ≠ .type "tuple"; decide)))
 obtain ⟨e1,ha₁⟩:∃ e1,(s.heap.update a (Obj.mapSeq λ _=>(#[]:Array Value))).get? a=some (seqObj "list" #[] e1):=⟨_,get?_update_seq ha λ _=>#[]⟩
 have t₁:=y₁.tk
 generalize (s.heap.update a (Obj.mapSeq λ _=>(#[]:Array Value)))=h₁ at x₁ ha₁ t₁ ⊢
 refine wpAny_bind (seqEpoch_at ha₁ rfl ?_)
 refine wpAny_bind (wpAny_newTuple ?_ (by show vs.length≤_; (apply Wls;assumption;rfl)))
 refine wpAny_bind (wpAny_newList ?_ (Nat.zero_le _))
 refine wpAny_holding ?_
 have x₃:=(x₁.trans (Eff.push (t:=s.toks) { cls:=.type "tuple",data:=.seq vs.toArray })).trans (Eff.push (t:=s.toks) { cls:=.type "list",data:=.seq ([]:List Value).toArray })
 have t₃:Tk s.heap ((h₁.push { cls:=.type "tuple",data:=.seq vs.toArray }).push { cls:=.type "list",data:=.seq ([]:List Value).toArray }):=t₁.trans (.of_keep λ b o e=>Heap.get?_push_of_some _ (Heap.get?_push_of_some _ e))
 have ha₃:((h₁.push { cls:=.type "tuple",data:=.seq vs.toArray }).push { cls:=.type "list",data:=.seq ([]:List Value).toArray }).get? a=some (seqObj "list" #[] e1):=Heap.get?_push_of_some _ (Heap.get?_push_of_some _ ha₁)
 have hp₃:=hp.tk t₃
 generalize hs₃:({ s with heap:=(h₁.push { cls:=.type "tuple",data:=.seq vs.toArray }).push { cls:=.type "list",data:=.seq ([]:List Value).toArray },toks:=s.toks }:Shared)=s₃ at x₃
 have eh:s₃.heap=(h₁.push { cls:=.type "tuple",data:=.seq vs.toArray }).push { cls:=.type "list",data:=.seq ([]:List Value).toArray }:=by rw [← hs₃]
 rw [← eh] at ha₃ hp₃
 clear hs₃ eh
 have tail:∀ (st:SortSt) (s':Shared) (p:List Nat),s'=s₃→(arrOf st).map (·.2)=(p.map λ i=>vs.getD i .none).toArray→p.Perm (List.range vs.length)→(p.map λ i=>ks.getD i "")=Zbb ks→failedOf st=none→
   wpAny (model prog w) A (do
    let touched:=(← seqEpoch a) != e1
    Builtin.List.listUpdate (.ref a) λ _=>(arrOf st).map (·.2)
    if let some e:=failedOf st then rule "list.sort.comparison-raised"; throw e
    if touched then rule "list.sort.modified"; raiseError "ValueError" "list modified during sort"
    ret .none) P E s':=by
  rintro st s' p rfl hout hpp hsrt hf
  have hol:p.length=vs.length:=by have:=hpp.length_eq; rwa [List.length_range] at this
  rw [hout]
  refine wpAny_bind (seqEpoch_at ha₃ rfl ?_)
  refine wpAny_bind (listUpdate_at ha₃ rfl ?_ (Nat.zero_le _) (by rw [List.size_toArray,List.length_map]; exact Wn [_,_] (.v 0) (.a (.n 16777216) (.n 1)) [(1,.v 0,.v 1),(1,.v 1,.n 5)] rfl (We hol) hn))
  rw [hf]
  simp only [bne_self_eq_false,Bool.false_eq_true,if_false]
  exact wpAny_pure (h _ p _ (x₃.upd (g:=λ _=>(p.map λ i=>vs.getD i .none).toArray) ha₃ la) hpp hsrt (get?_update_seq ha₃ λ _=>(p.map λ i=>vs.getD i .none).toArray))
 dsimp only
 by_cases h2:vs.toArray.size < 2
 ·rw [if_pos h2,if_pos h2]
  refine wpAny_bind (wpAny_pure ?_)
  rw [StateT.run_pure]
  refine wpAny_bind (wpAny_pure ?_)
  refine tail _ s₃ (List.range vs.length) rfl ?_ (.refl _) ?_ rfl
  ·rw [Zdc]
   show ((vs.toArray.zip vs.toArray).map (·.2))=vs.toArray
   apply Array.toList_inj.mp
   rw [Array.toList_map,Array.toList_zip]
   show (vs.zip vs).map Prod.snd=vs
   rw [List.map_snd_zip]
   exact Wn [_] (.v 0) (.v 0) [] rfl
  ·rw [← hlk,Zdc]
   rw [List.size_toArray] at h2
   match ks,hlk with
   | [],_=>show []=List.mergeSort [] leS; rw [List.mergeSort_nil]
   | [k],_=>show [k]=List.mergeSort [k] leS; rw [List.mergeSort_singleton]
   | _::_::_,e=>simp at e; lia
 ·rw [if_neg h2,if_neg h2]
  rw [List.size_toArray] at h2
  obtain ⟨fs,hf1,hf2,hf3⟩:=hp₃.tups
  refine wpAny_bind (kat_kind (T:=.type "str") hf1 (by lia) (λ v hv=>?_) (by decide) ?_)
  ·refine E21 (hf3 v hv) λ k t Y1=>?_
   subst Y1
   exact .now
  ·refine wpAny_bind (wpAny_mono (kat_run (κ:=tuples' (Value.type "str" != Value.type "tuple")) (Q:=λ st s'=>s'=s₃∧∃ p:List Nat,(arrOf st).map (·.2)=(p.map λ i=>vs.getD i .none).toArray∧p.Perm (List.range vs.length)∧(p.map λ i=>ks.getD i "")=Zbb ks∧failedOf st=none)
    (G:=λ p s'=>s'=s₃∧p.toList.Perm (List.range vs.length)∧Chain (λ i j=>leS (ks.getD i "") (ks.getD j "")=true) p.toList) rfl (by exact Wn [_] (.n 2) (.v 0) [(1,.n 2,.v 0)] rfl (Wg h2)) (by exact Wn [_] (.a (.v 0) (.n 1)) (.n 64) [(1,.v 0,.n 5)] rfl hn) (λ p st' s' hp har hf hG=>?_)
    (sort_wp (L:=λ i j=>leS (ks.getD i "") (ks.getD j "")=true) (Inv:=λ s'=>s'=s₃) (λ a b c h1 h2=>Zeh _ _ _ h1 h2) hn (λ i j C s' hi hj hs hC=>?_) (λ p s' hp hc hs=>⟨hs,hp,hc⟩) rfl)) ?_ λ _ _ e=>e)
   ·exact ⟨hG.1,p.toList,kat_snds rfl har,hG.2.1,sorted_idx (by rw [hlk]; exact hG.2.1) hG.2.2,hf⟩
   ·subst hs
    show wpAny _ _ (keyLt' _ (vs.getD i .none) (vs.getD j .none)) _ _ _
    refine pair_lt hu (hp₃.get hi) (hp₃.get hj) (λ e=>?_) (hC _ _ ?_ rfl)
    ·have:i=j:=by
      rw [List.getD_eq_getElem?_getD,List.getD_eq_getElem?_getD,List.getElem?_eq_getElem (by exact Wn [_,_,_] (.a (.v 0) (.n 1)) (.v 1) [(1,.a (.v 0) (.n 1),.v 2),(1,.v 2,.v 1)] rfl hi (Wf hlk)),List.getElem?_eq_getElem (by exact Wn [_,_,_] (.a (.v 0) (.n 1)) (.v 1) [(1,.a (.v 0) (.n 1),.v 2),(1,.v 2,.v 1)] rfl hj (Wf hlk))] at e
      exact nodup_inj nd _ _ e
     rw [this]
    ·by_cases hlt:(ks.getD i "").cps.toList < (ks.getD j "").cps.toList
     ·rw [decide_eq_true hlt,if_pos rfl,Zga]; exact List.le_of_lt hlt
     ·rw [decide_eq_false hlt,if_neg Bool.false_ne_true,Zga]; exact List.not_lt.mp hlt
   ·rintro ⟨⟨⟩,st'⟩ s' ⟨e,p,h1,h2,h3,h4⟩
    exact tail st' s' p e h1 h2 h3 h4
end
end
section
open PySem PySem.Builtin PySem.W PySem.Calls PyProof.Rows
set_option maxRecDepth 100000
set_option maxHeartbeats 2000000
variable {B:Bs} {C:Cx B} {σ σ':Loc} {O O':Led}
theorem PairsAt.of {h:Heap} {vs:List Value} {ks xs:List Str} (a:ks.length=vs.length) (b:xs.length=vs.length) (g:∀ i,i < vs.length→PairAt h (vs.getD i .none) (ks.getD i "") (xs.getD i "")):PairsAt h vs ks xs:=by
 induction vs generalizing ks xs with
 | nil=>cases List.eq_nil_of_length_eq_zero a; cases List.eq_nil_of_length_eq_zero b; trivial
 | cons v vs ih=>
  cases ks with
  | nil=>cases a
  | cons k ks=>
   cases xs with
   | nil=>cases b
   | cons x xs=>exact ⟨g 0 (Nat.succ_pos _),ih (Nat.succ.inj a) (Nat.succ.inj b) λ i hi=>g (i+1) (Nat.succ_lt_succ hi)⟩
theorem PairAt.val {h:Heap} {v:Value} {k x:Str} (p:PairAt h v k x):Val h v (.tup [.str k,.str x]):=by
 refine E54 p λ t o n u y e ho hc hd=>?_
 try clear p
 exact ⟨t,[.str k u,.str x y],e,⟨o,n,ho,hc,hd⟩,_,_,rfl,⟨u,rfl⟩,_,_,rfl,⟨y,rfl⟩,rfl⟩
theorem EvX.items {oe:Expr} {apos pos:Pos} {d:Addr} {es:List (Str × D)} (ho:Ev C σ O oe (.ref d)) (ha:OAt O d (.dict es))
  (hline:autoParam ((apos.endLine==pos.line)=true) tR)
  (hbase:autoParam (attributeBase oe (Str.ofString "items") C.env (eval oe C.env)=eval oe C.env) tR)
  (hfew:autoParam (((backTo pos (starEach [] C.env)).all (λ x=>!x.1)&&(backToKw pos (keywordEach [] C.env)).all (λ x=>x.1.isSome)
   && decide (([]:List Expr).length+([]:List Keyword).length+(if ([]:List Keyword).isEmpty then 0 else 1) < 30))=true) tR) :
  EvX C σ O (.Call (.Attribute oe (Str.ofString "items") apos) [] [] pos) λ r O'=>∃ v,r = .ref v∧O'=(v,.is λ o=>o = { cls:=.type "dict_items",data:=.fields #[.ref d] })::O:=
 .meth (T := "dict") ho (λ s v S hv=>by
  have hh:v = .ref d:=hv; subst hh
  refine E12 (S.objs _ ha.mem) λ kvs hm _=>?_
  refine ⟨hm.typeIs,λ a e=>?_⟩
  cases e
  refine E33 hm λ o _ _ ho hx _=>?_
  try clear hm
  exact ⟨o,ho,hx.2.1⟩) F.plainAttrs_dict F.slot_dict_items F.type_dict_items .nil (λ s v vs S hv e Q hQ=>by
  have hh:v = .ref d:=hv; subst hh
  have hh:vs=[]:=e; subst hh
  refine E12 (S.objs _ ha.mem) λ kvs hm _=>?_
  have lo:(d==sysModules)=false:=beq_eq_false_iff_ne.mpr λ e=>S.low ha.mem (by rw [show (d,Sh.dict es).1=sysModules from e]; exact B.big)
  refine call_meetsIn F.slot_dict_items hm.typeIs F.entry_dict_items (F.args_dict_items_1 _) (meets_dict_items (Zfj B) d lo) ⟨⟨kvs,hm⟩,?_⟩
  have X:Eff [] s { s with heap:=s.heap.push { cls:=.type "dict_items",data:=.fields #[.ref d] } }:=Eff.push _
  exact hQ (.ref s.heap.objs.size) _ (.ref s.heap.objs.size) _ ⟨_,rfl,rfl⟩ X.tk (S.new X (Nat.le_refl _) ⟨_,Heap.get?_push_size _ rfl,rfl,Zbf rfl⟩) rfl) hline rfl hbase hfew
theorem EvX.sortedItems {fe e:Expr} {pos:Pos} {d:Addr} {ks:List Str} {c:Str} (hf:Ev C σ O fe (.val (.builtin "sorted"))) (he:EvX C σ O e λ r O'=>∃ v,r = .ref v∧O'=(v,.is λ o=>o = { cls:=.type "dict_items",data:=.fields #[.ref d] })::O)
  (ha:OAt O d (.dict (ks.map λ k=>(k,.str c)))) (hz:ks.length≤5) (hn:2≤C.n) (hs:autoParam (Zac [e]=true) tR)
  (hc:autoParam (eval (.Call fe [e] [] pos) C.env=(do callWith pos (← eval fe C.env) [] (backTo pos (starEach [e] C.env)) (backToKw pos (keywordEach [] C.env)))) tR) :
  EvX C σ O (.Call fe [e] [] pos) λ r O'=>∃ l,r = .ref l∧O'=(l,.list ((Zbb ks).map λ k=>.tup [.str k,.str c]))::O:=λ s S Q hQ=>by
 have hzl:sizeLine=16777216:=by decide +kernel
 refine Call_ (hf s S _ λ v s₁ t₁ S₁ hv=>?_) hc
 have hh:v = .builtin "sorted" := hv; subst hh
 refine callWith_builtin1 ?_ (Zaa hs).1 (by rfl)
 rw [(Zaa (env:=C.env) hs).1]
 refine spliced_cons (he s₁ S₁ _ λ u s₂ d' O' p t₂ S₂ hu=>spliced_nil ?_)
 refine E12 p λ v Y1 Y2=>?_
 try clear p
 subst Y1
 subst Y2
 have hh:u = .ref v:=hu; subst hh
 refine call_function_entry kind_sorted plain_sorted entry_sorted (args_sorted1 _) ?_
 unfold Builtin.«sorted»
 refine wpAny_bind (m:=checkCount "sorted" 1 1 _) (wpAny_pure ?_)
 refine E13 (S₂.objs (v,.is λ o=>o = { cls:=.type "dict_items",data:=.fields #[.ref d] }) List.mem_cons_self) λ ov hov e1 _=>?_
 subst e1
 refine E13 (S₂.objs _ (List.mem_cons_of_mem _ ha.mem)) λ kvs hm hkeys hvals=>?_
 have hkeys':kvs.map (·.1)=ks:=by rw [hkeys,List.map_map]; simp [Function.comp_def]
 have hkl:kvs.length=ks.length:=by rw [← hkeys',List.length_map]
 have hnd:ks.Nodup:=by
  refine E36 hm λ _ _ _ _ _ _ _ _ h=>?_
  try clear hm
  rw [hkeys'] at h; exact h
 obtain ⟨ep,hat⟩:=hm.dictAt
 refine wpAny_bind (kdx_collect (A:=C.A.in1) C.room.handled ⟨_,hov,rfl,rfl⟩ hat (by exact Wn [_,_] (.v 0) (.n 16777216) [(1,.v 0,.v 1),(1,.v 1,.n 5)] rfl (We hkl) hz) λ h₃ tk as k₃ hal hG=>?_)
 have X₃:Eff [] s₂ { s₂ with heap:=h₃,toks:=tk }:=.ext k₃
 have S₃:=S₂.ext X₃
 have hps:PairsAt h₃ (as.map Value.ref) ks (ks.map λ _=>c):=PairsAt.of (by rw [List.length_map]; exact Nat.le_antisymm (Wn [_,_,_] (.v 0) (.v 1) [(1,.v 2,.v 1),(1,.v 0,.v 2)] rfl (Wf hal) (Wf hkl)) (Wn [_,_,_] (.v 0) (.v 1) [(1,.v 0,.v 2),(1,.v 2,.v 1)] rfl (We hal) (We hkl))) (by rw [List.length_map,List.length_map]; exact Nat.le_antisymm (Wn [_,_,_] (.v 0) (.v 1) [(1,.v 2,.v 1),(1,.v 0,.v 2)] rfl (Wf hal) (Wf hkl)) (Wn [_,_,_] (.v 0) (.v 1) [(1,.v 0,.v 2),(1,.v 2,.v 1)] rfl (We hal) (We hkl))) λ i hi=>by
  rw [List.length_map] at hi
  refine E33 (hG.pairs i as[i] (List.getElem?_eq_getElem hi)) λ key k x g1 g2 g3=>?_
  refine E11 (Value.isStrOf_shape g2) λ t Y1=>?_
  subst Y1
  have hik:i < ks.length:=by exact Wn [_,_,_,_] (.a (.v 0) (.n 1)) (.v 1) [(1,.a (.v 0) (.n 1),.v 2),(1,.v 2,.v 3),(1,.v 3,.v 1)] rfl hi (We hal) (We hkl)
  have hk:ks[i]=k:=by
   have:(kvs.map (·.1))[i]? = some k:=by rw [List.getElem?_map,g1]; rfl
   rw [hkeys',List.getElem?_eq_getElem hik] at this
   exact Option.some.inj this
  refine E12 (hvals.get (i:=i) (d:=.str c) (by rw [List.getElem?_map,List.getElem?_map,List.getElem?_eq_getElem hik]; rfl)) λ x' g4 Y1=>?_
  refine E11 Y1 λ y g5=>?_
  clear Y1
  have g6:x'=x:=by
   rw [List.getElem?_map,g1] at g4
   exact (Option.some.inj g4).symm
  rw [← g6,g5] at g3
  rw [List.getD_eq_getElem?_getD,List.getD_eq_getElem?_getD,List.getD_eq_getElem?_getD,List.getElem?_map,List.getElem?_map,List.getElem?_eq_getElem hi,List.getElem?_eq_getElem hik]
  rw [← hk] at g3
  exact ⟨as[i],_,_,t,y,rfl,g3,rfl,rfl⟩
 generalize hs₃:({ s₂ with heap:=h₃,toks:=tk }:Shared)=s₃ at X₃ S₃ ⊢
 have hps':PairsAt s₃.heap (as.map Value.ref) ks (ks.map λ _=>c):=by rw [← hs₃]; exact hps
 refine wpAny_bind (wpAny_newList ?_ (by rw [List.length_map]; exact Wn [_,_,_] (.v 0) (.n 16777216) [(1,.v 0,.v 1),(1,.v 1,.v 2),(1,.v 2,.n 5)] rfl (We hal) (We hkl) hz))
 have X₄:Eff [] s₃ { s₃ with heap:=s₃.heap.push { cls:=.type "list",data:=.seq (as.map Value.ref).toArray } }:=Eff.push _
 have hl₄:(s₃.heap.push { cls:=.type "list",data:=.seq (as.map Value.ref).toArray }).get? s₃.heap.objs.size=some (seqObj "list" (as.map Value.ref).toArray 0):=Heap.get?_push_size _ rfl
 refine wpAny_bind (wpAny_holding (wpAny_call_entry slot_list_sort ⟨_,hl₄,rfl⟩ entry_list_sort ?body (args_list_sort _)))
 case body=>
  have room2:Room C.A.in1.in1 0:=(C.room.in1 (m:=C.n - 1) (by lia)).in1 (m:=0) (by lia)
  refine pair_sort (s₀:=s₃) room2.units X₄ hl₄ (Nat.le_refl _) (by rw [List.length_map]; exact Wn [_,_,_] (.v 0) (.n 5) [(1,.v 0,.v 1),(1,.v 1,.v 2),(1,.v 2,.n 5)] rfl (We hal) (We hkl) hz) (hps'.tk X₄.tk) hnd λ s₅ p cc X₅ hp hsrt hl₅=>?_
  refine ⟨_,rfl,wpAny_pure ⟨_,rfl,?_⟩⟩
  have S₅:=S₃.new X₅ (a:=s₃.heap.objs.size) (sh:=.list ((Zbb ks).map λ k=>.tup [.str k,.str c])) (Nat.le_refl _) ⟨_,⟨cc,hl₅⟩,?_⟩
  ·refine hQ _ _ (.ref s₃.heap.objs.size) _ ⟨_,rfl,rfl⟩ (((t₁.trans t₂).trans X₃.tk).trans X₅.tk) (S₅.subl ?_) rfl
   exact .cons_cons _ (.cons _ (.refl _))
  ·rw [← hsrt,List.toList_toArray,List.map_map]
   have hps5:=hps'.tk X₅.tk
   have key:∀ q:List Nat,(∀ i∈q,i < (as.map Value.ref).length)→Vals s₅.heap (q.map λ i=>(as.map Value.ref).getD i .none) (q.map ((λ k=>D.tup [.str k,.str c]) ∘ λ i=>ks.getD i "")):=by
    intro q
    induction q with
    | nil=>intro _; exact .nil
    | cons i q ih=>
     intro hq
     have hi:=hq i List.mem_cons_self
     have:=(hps5.get hi).val
     have e:(ks.map λ _=>c).getD i "" = c:=by
      rw [List.length_map] at hi
      rw [List.getD_eq_getElem?_getD,List.getElem?_map,List.getElem?_eq_getElem (by exact Wn [_,_,_,_] (.a (.v 0) (.n 1)) (.v 1) [(1,.a (.v 0) (.n 1),.v 2),(1,.v 2,.v 3),(1,.v 3,.v 1)] rfl hi (We hal) (We hkl))]; rfl
     rw [e] at this
     exact .cons this (ih λ j hj=>hq j (List.mem_cons_of_mem _ hj))
   exact key p λ i hi=>List.mem_range.mp (hp.mem_iff.mp hi)
end
section
set_option maxRecDepth 100000
set_option maxHeartbeats 4000000
variable {B:Bs} {C:Cx B} {σ σ':Loc} {O O':Led}
theorem EvX.perm {e:Expr} {P P':D→Led→Prop} (h:EvX C σ O e P) (g:∀ d O',P d O'→∃ O'',O''.Perm O'∧P' d O''):EvX C σ O e P':=λ s S Q hQ=>
 h s S Q λ v s' d O' p t S' hv=>by
  refine E12 (g d O' p) λ O'' hp p'=>?_
  exact hQ v s' d O'' p' t (S'.perm hp) hv
theorem Run.perm {sts:List Stmt} {K:Flow→Shared→Prop} (hp:O'.Perm O) (h:Run C σ O' sts K):Run C σ O sts K:=λ s S=>h s (S.perm hp)
noncomputable def stNames:List Str:=["tag", "attrs", "new_namespaces", "qname_text", "qnames", "resolved_names", "qattrs", "parsed_qnames", "attr_list", "k", "v", "attr_qname", "attr_name", "uri", "space_behaviour", "write"]
noncomputable def stLoc (tag:Str) (at_ nn:Addr):Loc:=[("tag",some (.str tag)),("attrs",some (.ref at_)),("new_namespaces",some (.ref nn)),("qname_text",some .none),("qnames",none),("resolved_names",none),("qattrs",none),("parsed_qnames",none),("attr_list",none),("k",none),("v",none),("attr_qname",none),("attr_name",none),("uri",none),("space_behaviour",none),("write",none)]
noncomputable def stCells (L:Addr):List (Str × Addr):=[("parse_qname",L+2),("self",L+1)]
noncomputable def stQual:Str:=("C14NWriterTarget._start" : Str) ++ ".<locals>."
theorem start_enter (T:TopC B) {x at_ nn:Addr} {tag:Str} {U:Led} {P:D→Led→Prop} {n:Nat}
  (run:∀ C:Cx B,In C (mAt 8) (stCells C.env.locals)→C.env.code = .ref T.c8→C.env.qual=stQual→C.n=n→Run C (stLoc tag at_ nn) ((C.env.locals+2,.cell none)::(C.env.locals+1,.cell (some (.ref x)))::U) (Zcv (mAt 8)) (Ends C P)) :
  CallsC B (n+1) (.ref (T.mA 8)) [.ref x,.str tag,.ref at_,.ref nn] U P:=by
 obtain ⟨o,pm,e,h,c⟩:=T.def8
 refine CallsC.of_run ⟨⟨o,e,h⟩,c,rfl,rfl,rfl,rfl,rfl,rfl,rfl⟩ stNames (by decide +kernel) (by show ∀ x∈stNames,(Zad (mAt 8)).names.lookup x=some .local; decide +kernel) (stLoc tag at_ nn) rfl [("parse_qname",none),("self",some (.ref x))] stCells (λ L=>rfl) (λ L=>rfl) (by show ([Str.ofString "parse_qname",Str.ofString "self"]).Nodup; decide +kernel) ?_ λ C hC hW hn' hN=>run C ⟨λ {x k} hx=>?_,λ {x a} hx=>?_⟩ ?_ ?_ hn'
 ·intro s vs hG hq0
  refine E23 hq0 λ v0 r Y1 h0 Y2=>?_
  try clear hq0
  subst Y1
  refine E23 Y2 λ v1 r Y3 h1 Y4=>?_
  clear Y2
  subst Y3
  refine E23 Y4 λ v2 r Y5 h2 Y6=>?_
  clear Y4
  subst Y5
  refine E23 Y6 λ v3 r Y7 h3 hr=>?_
  clear Y6
  subst Y7
  have hh:r=[]:=hr; subst hh
  refine E22 (T.dfl8 _ hG) λ od m ho hd=>?_
  refine ⟨[("self",v0),("tag",v1),("attrs",v2),("new_namespaces",v3),("qname_text",.none)],BindsTo.of_defaults (T:=T.dfl 8) (items:=#[.none]) rfl ho hd (by rfl) (by rfl),?_,⟨⟨v1,rfl,h1⟩,⟨v2,rfl,h2⟩,⟨v3,rfl,h3⟩,⟨.none,rfl,rfl⟩,trivial⟩,rfl,⟨v0,rfl,h0⟩,trivial⟩
  intro y hy
  rcases List.mem_cons.mp hy with rfl | hy
  ·exact .inr ⟨rfl,List.mem_cons_of_mem _ List.mem_cons_self⟩
  rcases List.mem_cons.mp hy with rfl | hy
  ·exact .inl rfl
  rcases List.mem_cons.mp hy with rfl | hy
  ·exact .inl rfl
  rcases List.mem_cons.mp hy with rfl | hy
  ·exact .inl rfl
  ·rw [List.mem_singleton.mp hy]; exact .inl rfl
 ·rw [hC]; exact hx
 ·rw [hC]
  show (cellsFrom (C.env.locals+1) (Zad (mAt 8)).names []).lookup x=some a
  exact hx
 ·rw [hC]; rfl
 ·rw [hC]; rfl
end
section
open PySem PySem.Builtin PySem.Builtin.Str PySem.W PySem.Calls PyProof.Rows
set_option maxRecDepth 100000
set_option maxHeartbeats 2000000
variable {B:Bs} {C:Cx B} {σ σ':Loc} {O O':Led}
def NoOcc (x y:Str):Prop:=(occurrences x y 0 x.length (limitOf x 1)).isEmpty=true
theorem EvX.split2 {oe e e2:Expr} {apos pos:Pos} {x y:Str} (ho:Ev C σ O oe (.str x)) (he:Ev C σ O e (.str y)) (he2:Ev C σ O e2 (.int 1)) (hy:(y.length==0)=false) (hn:NoOcc x y)
  (hline:autoParam ((apos.endLine==pos.line)=true) tR) (hs:autoParam (Zac [e,e2]=true) tR)
  (hbase:autoParam (attributeBase oe (Str.ofString "split") C.env (eval oe C.env)=eval oe C.env) tR)
  (hfew:autoParam (((backTo pos (starEach [e,e2] C.env)).all (λ x=>!x.1)&&(backToKw pos (keywordEach [] C.env)).all (λ x=>x.1.isSome)
   && decide (([e,e2]:List Expr).length+([]:List Keyword).length+(if ([]:List Keyword).isEmpty then 0 else 1) < 30))=true) tR) :
  EvX C σ O (.Call (.Attribute oe (Str.ofString "split") apos) [e,e2] [] pos) λ d O'=>∃ l,d = .ref l∧O'=(l,.list [.str x])::O:=
 .meth (T := "str") ho (λ s v S hv=>strT hv) F.plainAttrs_str F.slot_str_split F.type_str_split (.cons he (.cons he2 .nil)) (by
  intro s v vs S hq0 hq1 Q hQ
  refine E11 hq0 λ t ev=>?_
  try clear hq0
  refine E23 (Vals.two hq1) λ v₁ v₂ e1 Y1 Y2=>?_
  refine E11 Y1 λ u hu=>?_
  clear Y1
  refine E11 Y2 λ k hk=>?_
  clear Y2
  subst ev; subst hu; subst hk; subst e1
  have X1:Eff [] s { s with heap:=s.heap.push { cls:=.type "list",data:=.seq #[.str x t] } }:=.push _
  have fin:=hQ (.ref s.heap.objs.size) _ (.ref s.heap.objs.size) _ ⟨_,rfl,rfl⟩ X1.tk (S.new X1 (Nat.le_refl _) ⟨_,.new,(Zfd:Vals _ [Value.str x t] ([x].map .str))⟩) rfl
  cases h1:(decide (x.length < y.length) || decide (strKind x < strKind y))
  ·exact call_meets F.slot_str_split (typeIs_str _ _ _) F.entry_str_split (F.args_str_split_3 _ _ _) (meets_str_split_max_not_found x y 1 t u k (by decide) h1 hy hn) fin
  ·exact call_meets F.slot_str_split (typeIs_str _ _ _) F.entry_str_split (F.args_str_split_3 _ _ _) (meets_str_split_max_cannot_occur x y 1 t u k (by decide) h1) fin) hline hs hbase hfew
theorem Truth.dict {d:Addr} {es:List (Str × D)} (ha:OAt O d (.dict es)) (hz:es.length≤sizeLine):Truth C σ O (.ref d) (!es.isEmpty):=λ s v S e Q hQ=>by
 have hzz:sizeLine=16777216:=by decide +kernel
 have hh:v = .ref d:=e; subst hh
 refine E13 (S.objs _ ha.mem) λ kvs hm hk _=>?_
 have hl:kvs.length=es.length:=by
  have:=congrArg List.length hk
  simpa using this
 have lo:(d==sysModules)=false:=beq_eq_false_iff_ne.mpr λ e=>S.low ha.mem (by rw [show (d,Sh.dict es).1=sysModules from e]; exact B.big)
 refine wpAny_truthy_dict lo hm (by lia) ?_
 have e2:(!kvs.isEmpty) = !es.isEmpty:=by cases kvs <;> cases es <;> first | rfl | simp at hl
 rw [e2]
 exact hQ _ (.refl _) (S.tok.tok)
end
section
set_option maxRecDepth 100000
set_option maxHeartbeats 4000000
variable {B:Bs} {C:Cx B} {σ σ':Loc} {O O':Led}
theorem OAt.of_mem {a:Addr} {sh:Sh}:∀ {O:Led},(a,sh)∈O→OAt O a sh
 | [],h=>nomatch h
 | p::O,h=>by
  rcases List.mem_cons.mp h with e | h
  ·rw [← e]; exact .z
  ·exact .u (OAt.of_mem h)
theorem Run.subl {sts:List Stmt} {K:Flow→Shared→Prop} (hp:O'.Sublist O) (h:Run C σ O' sts K):Run C σ O sts K:=λ s S=>h s (S.subl hp)
theorem Tst.andF {x:Expr} {ys:List Expr} {pos:Pos} (h:Tst C σ O x false):Tst C σ O (.BoolOp .And (x::ys) pos) false:=λ s S Q hQ=>
 wpAny_isTrue_BoolOp (wpAny_allTrue_And_cons (h s S _ λ s₁ t₁ S₁=>hQ _ t₁ S₁))
noncomputable abbrev Zgx (out:Addr):Sh:=.is λ o=>o.cls = .type "builtin_function_or_method" ∧ o.data = .fields #[.builtin "list.append",.ref out]
noncomputable def stA (K:Addr) (W:Wr) (at_:Addr) (es:List (Str × D)) (nsl psl:List D) (outl:List Str) (seen done:Bool) (rs:List Addr):Led:=
 [(at_,.dict es),(W.nss,.list nsl),(W.ps,.list psl),(W.wr,Zgx W.out),(W.out,.list (outl.map .str)),(W.x,.obj K W.dx),(W.dx,.attrs (W.attrs seen done)),(W.decl,.list (.ref W.n0::rs.map D.ref)),(W.n0,.list [Zbj])]
noncomputable def rsL (rs:List Addr):Led:=rs.map λ r=>(r,Sh.list [])
noncomputable def Zbv:Pos:=⟨135,71,135,96⟩
noncomputable def lamQ:Str:=stQual ++ "<lambda>"
noncomputable def Zbm (w:Str):Str:=catS Str.empty [" ",w,"=\"", "&lt;","\""]
noncomputable def Zag (tag:Str) (ws:List Str):List Str:=[("<" : Str)++tag]++(if ws.isEmpty=true then [] else [Txt.join "" ((Zbb ws).map Zbm)])++[(">" : Str)]
structure Zgs (q:Str):Prop where
 plain:plainName q
 occ:NoOcc q "}"
noncomputable def Zck:Str := "{http://www.w3.org/XML/1998/namespace}space"
noncomputable def ltEs (ws:List Str):List (Str × D):=ws.map λ w=>(w,.str "<")
theorem Zdn (ws:List Str):(ltEs ws).map (·.1)=ws:=by simp [ltEs,Function.comp_def]
noncomputable def parsed (q:Str):D:=.tup [.str q,.str q,.str ""]
noncomputable def Zdj (ws:List Str):List D:=(Zbb ws).map λ w=>.tup [.str w,.str "<"]
noncomputable def tupKey:D→Str
 | .tup (.str x::_)=>x
 | _ => ""
theorem start_rest (T:TopC B) {W:Wr} {at_ nn qs rd pd L:Addr} {ws:List Str} {nsl psl:List D} {outl:List Str} {seen done:Bool} {rs:List Addr} {tab R₀:Led} {tag:Str} {es:List (Str × D)} (I:In C (mAt 8) (stCells L)) (hn:C.n=4)
  (htab:Zbl B.P Zbv lamQ tab) (hnn:nn∈rs) (hws:ws.length≤4) (hnd:(tag::ws).Nodup) (hok:∀ q∈tag::ws,Zgs q) (hsp:Zck ∉ ws) (hpsl:psl.getLast? = some (.bool false)) (hz:psl.length≤1000∧nsl.length≤1000∧outl.length≤10000)
  (hes:∀ q∈tag::ws,Zcp es q=some (parsed q)) :
  Run C [("tag",some (.str tag)),("attrs",some (.ref at_)),("new_namespaces",some (.ref nn)),("qname_text",some .none),("qnames",some (.ref qs)),("resolved_names",some (.ref rd)),("qattrs",some .none),("parsed_qnames",some (.ref pd)),("attr_list",none),("k",none),("v",none),("attr_qname",none),("attr_name",none),("uri",none),("space_behaviour",none),("write",none)]
   ((pd,.dict es)::(R₀++((L+1,.cell (some (.ref W.x)))::(stA T.K W at_ (ltEs ws) nsl psl outl seen done rs++(tab++rsL rs))))) ((Zcv (mAt 8)).drop 7)
   (Ends C λ d U'=>d = .none∧∃ tab' r,Zbl B.P Zbv lamQ tab'∧U'=stA T.K W at_ (ltEs ws) (nsl++[.ref r]) (psl++[.bool false]) (outl++Zag tag ws) true done rs++(tab'++rsL rs)):=by
 refine Run.kabs λ K hE=>?_
 have hzz:sizeLine=16777216:=by decide +kernel
 have hself:∀ {σ : Loc} {O:Led} {p:Pos},OAt O (L+1) (.cell (some (.ref W.x)))→Ev C σ O (.Name "self" p) (.ref W.x):=λ h=>.cell (I.cell rfl) (.inl (I.kinds rfl)) h
 refine Run.subl ((List.sublist_append_right R₀ _).cons_cons _) ?_
 unfold stA
 -- new_namespaces
 refine .ite (b:=false) (.val (.name (.q2)) (.list (l:=nn) (ds:=[]) (.of_mem ?_) (Nat.zero_le _))) (λ h=>nomatch h) λ _=>.assignX (EvX.list .nil) ?_
 ·exact List.mem_cons_of_mem _ (List.mem_cons_of_mem _ (List.mem_append_right _ (List.mem_append_right _ (List.mem_map.mpr ⟨nn,hnn,rfl⟩))))
 refine ex1 λ al=>?_
 refine ⟨_,.q8,.next ?_⟩
 -- attrs
 refine Run.iteJ [("tag",some (.str tag)),("attrs",some (.ref at_)),("new_namespaces",some (.ref nn)),("qname_text",some .none),("qnames",some (.ref qs)),("resolved_names",some (.ref rd)),("qattrs",some .none),("parsed_qnames",some (.ref pd)),("attr_list",some (.ref al)),("k",none),("v",none),("attr_qname",none),("attr_name",none),("uri",none),("space_behaviour",none),("write",none)]
  ((al,.list (Zdj ws))::(pd,.dict es)::(L+1,.cell (some (.ref W.x)))::([(at_,.dict (ltEs ws)),(W.nss,.list nsl),(W.ps,.list psl),(W.wr,Zgx W.out),(W.out,.list (outl.map .str)),(W.x,.obj T.K W.dx),(W.dx,.attrs (W.attrs seen done)),(W.decl,.list (.ref W.n0::rs.map D.ref)),(W.n0,.list [Zbj])]++(tab++rsL rs)))
  (.val (.name (.q1)) (.dict (.q3) (by rw [ltEs,List.length_map]; (apply Wls;assumption;rfl)))) (λ hb=>?_) (λ hb=>?_) ?_
 ·have hsl:(Zbb ws).length=ws.length:=(Zav ws).length_eq
  have hsm:∀ w∈Zbb ws,w∈ws:=λ w hw=>(Zav ws).mem_iff.mp hw
  refine Run.forX (IterX.list (P:=λ l ds O'=>ds=Zdj ws∧O'=(l,.list (Zdj ws))::(al,.list [])::(pd,.dict es)::(L+1,.cell (some (.ref W.x)))::([(at_,.dict (ltEs ws)),(W.nss,.list nsl),(W.ps,.list psl),(W.wr,Zgx W.out),(W.out,.list (outl.map .str)),(W.x,.obj T.K W.dx),(W.dx,.attrs (W.attrs seen done)),(W.decl,.list (.ref W.n0::rs.map D.ref)),(W.n0,.list [Zbj])]++(tab++rsL rs)))
   (.mono (.sortedItems (ks:=ws) (.bn T.T I rfl) (.items (.name (.q1)) (.q3)) (.q3) (by exact Wn [_] (.v 0) (.n 5) [(1,.v 0,.n 4)] rfl hws) (by (apply Wle;assumption;rfl))) ?_)) ?_
  ·refine ex1 λ l=>?_
   exact ⟨l,_,rfl,List.mem_cons_self,rfl,rfl⟩
  intro O₁ N ds hq0
  refine E23 hq0 λ l ds Y1 Y2 Y3=>?_
  try clear hq0
  subst Y2
  subst Y3
  refine E02 Y1 λ Y4 Y5=>?_
  clear Y1
  subst Y4
  subst Y5
  refine ⟨λ i=>[("tag",some (.str tag)),("attrs",some (.ref at_)),("new_namespaces",some (.ref nn)),("qname_text",some .none),("qnames",some (.ref qs)),("resolved_names",some (.ref rd)),("qattrs",some .none),("parsed_qnames",some (.ref pd)),("attr_list",some (.ref al)),("k",none),("v",none),("attr_qname",none),("attr_name",none),("uri",none),("space_behaviour",none),("write",none)],
   λ i=>(l,.list (Zdj ws))::(al,.list ((Zdj ws).take i))::(pd,.dict es)::(L+1,.cell (some (.ref W.x)))::([(at_,.dict (ltEs ws)),(W.nss,.list nsl),(W.ps,.list psl),(W.wr,Zgx W.out),(W.out,.list (outl.map .str)),(W.x,.obj T.K W.dx),(W.dx,.attrs (W.attrs seen done)),(W.decl,.list (.ref W.n0::rs.map D.ref)),(W.n0,.list [Zbj])]++(tab++rsL rs)),λ _=>False,⟨rfl,rfl⟩,λ i _=>List.mem_cons_self,λ i d hd S=>?_,?_,λ _ h=>h.elim⟩
  ·refine E12 (Zbt hd) λ w hw Y1=>?_
   subst Y1
   have hw':=hsm w (List.mem_of_getElem? hw)
   refine ⟨_,_,.tup2 (.name (.q9)) (.name (.q10)),?_⟩
   refine Run.kabs λ K hK=>?_
   refine .ite (b:=false) (.andF (.cmp (.name (.q6)) .none .isNotNone)) (λ h=>nomatch h) λ _=>.next ?_
   refine .assignT (d:=parsed w) (.dgetItem (.name (.q7)) (.name (.q9)) Zdt (OAt.map (.q2)) (hes w (List.mem_cons_of_mem _ hw'))) (.tup3 (.name (.q11)) (.name (.q12)) (.name (.q13))) ?_
   refine .expr (.append (.name (.q8)) (.q1) (.tup (.cons (.ifExp (b:=false) (.val (.name (.q13)) (.str (Nat.zero_le _))) (λ h=>nomatch h) λ _=>.name (.q12)) (.cons (.name (.q10)) .nil))) (.q1) ?_) ?_
   ·rw [List.length_take]; unfold Zdj; rw [List.length_map]; lia
   ·refine .done (.keep (.keep (.keep (.keep (.keep (.keep (.keep (.keep (.keep (.drop (.drop (.drop (.drop (.drop (.keep (.keep .nil)))))))))))))))) (.refl _) λ s S'=>?_
    refine hK _ _ ?_
    have e:(Zdj ws).take (i+1)=(Zdj ws).take i++[D.tup [.str w,.str "<"]]:=by rw [List.take_add_one,hd]; rfl
    show St C _ (_::(al,.list ((Zdj ws).take (i+1)))::_) s
    rw [e]; exact S'
  ·refine .done (.refl _) (.cons _ (.refl _)) λ s S'=>?_
   rw [List.take_length] at S'; exact wpAny_execs_nil S'
 ·refine .done (.refl _) (.refl _) λ s S=>?_
  have:ws=[]:=by cases ws with
   | nil=>rfl
   | cons a r=>cases hb
  subst this
  have e:Zdj []=[]:=by unfold Zdj; show (List.mergeSort [] leS).map _=[]; rw [List.mergeSort_nil]; rfl
  rw [e]; exact S
 -- the space
 have hget:(Zcp (ltEs ws) Zck).getD D.none = .none:=by
  have:Zcp (ltEs ws) Zck=none:=by
   unfold Zcp
   rw [List.find?_eq_none.mpr]; · rfl
   intro e he
   refine E12 (List.mem_map.mp he) λ w hw Y1=>?_
   subst Y1
   simp only [decide_eq_true_eq]
   exact λ q=>hsp (q ▸ hw)
  rw [this]; rfl
 refine .assign ((Ev.dget1 (k:=Zck) (.name (.q1)) .str Zdt (OAt.map (.q3))).cast hget) (.q14) ?_
 have hlast:psl[plc (-1) psl.length]? = some (D.bool false):=by
  rw [List.getLast?_eq_getElem?] at hpsl
  have:plc (-1) psl.length=psl.length - 1:=by
   unfold plc
   have hp:psl.length ≠ 0:=λ q=>by
    rw [List.length_eq_zero_iff.mp q] at hpsl; cases hpsl
   rw [if_pos (by decide)]; lia
  rw [this]; exact hpsl
 have hp1:1≤psl.length:=by
  cases psl with
  | nil=>cases hpsl
  | cons _ _=>simp
 refine .expr (.append (.at T (hself (.q2)) (.q8) (.q9) (.nth 12 rfl) rfl) (.q5) (.ifExp (b:=false) (.val (.name (.q14)) .none) (λ h=>nomatch h) λ _=>.item (.at T (hself (.q2)) (.q8) (.q9) (.nth 12 rfl) rfl) (.neg .int) (.q5) hlast (by lia)) (.q5) (by exact Wn [_] (.v 0) (.n 16777216) [(1,.v 0,.n 1000)] rfl hz.1)) ?_
 refine .assign (.at T (hself (.q2)) (.q8) (.q9) (.nth 0 rfl) rfl) (.q15) ?_
 have htl:=(hok tag List.mem_cons_self).plain.2
 refine .expr (.callApp (.name (.q15)) (.q6) (.addStr .str (.itemTup (.dgetItem (.name (.q7)) (.name (.z)) Zdt (OAt.map (.q1)) (hes tag List.mem_cons_self)) .int (by decide) rfl) ?_) (.q7) (.q7) ?_) ?_
 ·have:("<" : Str).length=1:=by decide +kernel
  exact Wn [_,_] (.a (.v 0) (.v 1)) (.n 16777216) [(1,.v 0,.n 1),(1,.v 1,.n 100)] rfl (We this) htl
 ·rw [List.length_map]; exact Wn [_] (.v 0) (.n 16777216) [(1,.v 0,.n 10000)] rfl hz.2.2
 -- the attributes
 have hsl:(Zbb ws).length=ws.length:=(Zav ws).length_eq
 have hsm:∀ w∈Zbb ws,w∈ws:=λ w hw=>(Zav ws).mem_iff.mp hw
 have hpl:∀ w∈ws,(Zbm w).length≤200:=λ w hw=>by
  have h2:=(hok w (List.mem_cons_of_mem _ hw)).plain.2
  unfold Zbm
  rw [Zhi]
  have h3:([(" " : Str),w,"=\"", "&lt;","\""].map (·.length)).sum=w.length+8:=by
   have e1:(" " : Str).length=1:=by decide +kernel
   have e2:("=\"" : Str).length=2:=by decide +kernel
   have e3:("&lt;" : Str).length=4:=by decide +kernel
   have e4:("\"" : Str).length=1:=by decide +kernel
   simp only [List.map_cons,List.map_nil,List.sum_cons,List.sum_nil,e1,e2,e3,e4]; exact Nat.le_antisymm (Wn [_] (.a (.n 1) (.a (.v 0) (.a (.n 2) (.a (.n 4) (.a (.n 1) (.n 0)))))) (.a (.v 0) (.n 8)) [] rfl) (Wn [_] (.a (.v 0) (.n 8)) (.a (.n 1) (.a (.v 0) (.a (.n 2) (.a (.n 4) (.a (.n 1) (.n 0)))))) [] rfl)
  have h4:Str.empty.length=0:=rfl
  exact Wn [_,_,_] (.a (.v 0) (.v 1)) (.n 200) [(1,.v 0,.n 0),(1,.v 1,.a (.v 2) (.n 8)),(1,.v 2,.n 100)] rfl (We h4) (We h3) h2
 refine Run.iteJ [("tag",some (.str tag)),("attrs",some (.ref at_)),("new_namespaces",some (.ref nn)),("qname_text",some .none),("qnames",some (.ref qs)),("resolved_names",some (.ref rd)),("qattrs",some .none),("parsed_qnames",some (.ref pd)),("attr_list",some (.ref al)),("k",none),("v",none),("attr_qname",none),("attr_name",none),("uri",none),("space_behaviour",some .none),("write",some (.ref W.wr))]
  ((al,.list (Zdj ws))::(pd,.dict es)::(L+1,.cell (some (.ref W.x)))::([(at_,.dict (ltEs ws)),(W.nss,.list nsl),(W.ps,.list (psl++[.bool false])),(W.wr,Zgx W.out),(W.out,.list ((outl.map .str++[.str (("<" : Str)++tag)])++(if ws.isEmpty=true then [] else [.str (Txt.join "" ((Zbb ws).map Zbm))]))),(W.x,.obj T.K W.dx),(W.dx,.attrs (W.attrs seen done)),(W.decl,.list (.ref W.n0::rs.map D.ref)),(W.n0,.list [Zbj])]++(tab++rsL rs)))
  (.val (.name (.q8)) (.list (.z) (by unfold Zdj; rw [List.length_map]; exact Wn [_,_] (.v 0) (.n 16777216) [(1,.v 0,.v 1),(1,.v 1,.n 4)] rfl (We hsl) hws))) (λ hb=>?_) (λ hb=>?_) ?_
 ·have hne:ws.isEmpty=false:=by
   cases ws with
   | nil=>unfold Zdj at hb; rw [List.length_map,hsl] at hb; cases hb
   | cons a r=>rfl
  refine .expr (.callApp (.name (.q15)) (.q6) (.joinX (ys:=(Zbb ws).map Zbm) .str (.listComp (cl:=[]) (names:=["k", "v"]) ⟨by decide +kernel,rfl,by decide +kernel,by decide +kernel,by decide +kernel,rfl⟩ (Iter.list (l:=al) (ds:=Zdj ws) (Ev.name (.q8)).toX List.mem_cons_self).toX ?_) ?_) (.q7) (.q7) ?_) ?_
  ·refine exN ?_
   refine ⟨λ _=>true,λ d=>.str (Zbm (tupKey d)),⟨λ _=>List.mem_cons_of_mem _ List.mem_cons_self,λ C' IC i d hd a acc R=>?_,by unfold Zdj; rw [List.length_map]; exact Wn [_,_] (.v 0) (.n 16777216) [(1,.v 0,.v 1),(1,.v 1,.n 4)] rfl (We hsl) hws⟩,λ a=>⟨a,[],rfl,?_⟩⟩
   ·refine E12 (Zbt hd) λ w hw Y1=>?_
    subst Y1
    have hw':=hsm w (List.mem_of_getElem? hw)
    have h2:=(hok w (List.mem_cons_of_mem _ hw')).plain.2
    have hesc:B.mg "_escape_attrib_c14n" = some (.ref (T.T.fA 9)):=by
     have e:(Zcc (stAt 9)==("_escape_attrib_c14n" : Str))=true:=by kernel_rfl
     rw [← eq_of_beq e]; exact (T.T.gn (i:=9) (by kernel_rfl)).1
    refine ⟨_,.tup2 (.name (.z)) (.name (.q1)),.nil,λ _=>.fstr (xs:=[" ",w,"=\"", "&lt;","\""]) (.cons .str (.cons (.field (.name (.z)) (by (apply Wls;assumption;rfl))) (.cons .str (.cons (.field (.cast (.call0 (f:=T.T.fA 9) (.glob (IC.kind rfl (by decide)) hesc λ _ _=>rfl) (T.T.gn (i:=9) (by kernel_rfl)).2.isDef (.cons (.name (.q1)) .nil) (attrib_calls T.T (x := "<") (by decide +kernel)) (by have:=IC.n; lia)) (congrArg D.str attr_lt)) (by decide +kernel)) (.cons .str .nil))))) (by have:=hpl w hw'; unfold Zbm at this; (apply Wls;assumption;rfl))⟩
   ·rw [List.filter_eq_self.mpr (λ _ _=>rfl)]
    show _=(a,Sh.list (((Zbb ws).map Zbm).map .str))::_
    have:(Zdj ws).map (λ d=>D.str (Zbm (tupKey d)))=((Zbb ws).map Zbm).map .str:=by unfold Zdj; rw [List.map_map,List.map_map]; rfl
    rw [this]; rfl
  ·have h1:(((Zbb ws).map Zbm).map (·.length)).sum≤200 * (Zbb ws).length:=by
    rw [List.map_map]
    exact Zcq _ 200 _ λ w hw=>hpl w (hsm w hw)
   have h2:("" : Str).length=0:=rfl
   rw [h2]; exact Wn [_,_,_,_] (.a (.v 0) (.r (.v 1) 0)) (.n 16777216) [(1,.v 0,.m 200 (.v 2)),(200,.v 2,.v 3),(200,.v 3,.n 4)] rfl h1 (We hsl) hws
  ·rw [List.length_append,List.length_map]; show outl.length+1≤_; exact Wn [_] (.a (.v 0) (.n 1)) (.n 16777216) [(1,.v 0,.n 10000)] rfl hz.2.2
  ·refine .done (.refl _) (.refl _) λ s S=>?_
   rw [if_neg (by rw [hne]; exact Bool.false_ne_true)]; exact S
 ·have he:ws=[]:=by
   cases ws with
   | nil=>rfl
   | cons a r=>unfold Zdj at hb; rw [List.length_map,hsl] at hb; cases hb
  refine .done (.refl _) (.refl _) λ s S=>?_
  rw [he] at S ⊢
  show St C _ (_::_::_::_::_::_::_::(W.out,.list ((outl.map .str++[.str (("<" : Str)++tag)])++[]))::_) s
  rw [List.append_nil]; exact S
 -- the end
 refine .expr (.callApp (.name (.q15)) (.q6) .str (.q7) (.q7) ?_) ?_
 ·split <;> simp <;> lia
 refine .ite (b:=false) (.cmp (.name (.q3)) .none .isNotNone) (λ h=>nomatch h) λ _=>.next ?_
 refine Run.setAttr0 (x:=W.x) T.cls (Ev.bool (b:=true)) (T.noA (by kernel_rfl)) (Zar (by kernel_rfl)) ?_
 refine ⟨hself (.q2),W.dx,W.attrs seen done,W.attrs true done,_,.q8,.q9,?_,(APut.nth 14 rfl (by rw [Wr.attrs_names]; exact Zgq):APut (W.attrs seen done) "_root_seen" (.bool true) (W.attrs true done)),.q9,?_⟩
 ·show 17≤_; exact Wlb rfl
 refine .exprX (EvX.appendX (P':=λ d O'=>∃ r,d=D.none∧O'=(r,.list [])::(al,.list (Zdj ws))::(pd,.dict es)::(L+1,.cell (some (.ref W.x)))::([(at_,.dict (ltEs ws)),(W.nss,.list (nsl++[.ref r])),(W.ps,.list (psl++[.bool false])),(W.wr,Zgx W.out),(W.out,.list ((outl++Zag tag ws).map .str)),(W.x,.obj T.K W.dx),(W.dx,.attrs (W.attrs true done)),(W.decl,.list (.ref W.n0::rs.map D.ref)),(W.n0,.list [Zbj])]++(tab++rsL rs)))
  (.at T (hself (.q2)) (.q8) (.q9) (.nth 10 rfl) rfl) (.q4) (EvX.list .nil) ?_) ?_ ?_
 ·refine ex1 λ r=>?_
  refine ⟨_,_,.q5,.q5,by exact Wn [_] (.v 0) (.n 16777216) [(1,.v 0,.n 1000)] rfl hz.2.1,r,rfl,?_⟩
  have e:(outl.map D.str++[D.str (("<" : Str)++tag)])++(if ws.isEmpty=true then [] else [D.str (Txt.join "" ((Zbb ws).map Zbm))])++[D.str ">"]=(outl++Zag tag ws).map D.str:=by
   unfold Zag
   cases ws.isEmpty <;> simp
  rw [← e]
  rfl
 ·refine ex1 λ r=>?_
  refine .nil λ s S=>hE _ _ ?_
  refine ⟨_,_,_,⟨rfl,tab,r,htab,rfl⟩,S,?_,?_⟩
  ·exact λ p hp=>List.mem_cons_of_mem _ (List.mem_cons_of_mem _ (List.mem_cons_of_mem _ (List.mem_cons_of_mem _ hp)))
  ·exact S.ond.sublist (((((List.Sublist.refl _).cons _).cons _).cons _).cons _ |>.map _)
 ·intro d O' hq0
  refine E12 hq0 λ r Y1 Y2=>?_
  try clear hq0
  subst Y1
  subst Y2; rfl
theorem lam_ok {q:Str}:LamOk B q { posonlyargs:=[],args:=[{ arg := "n",annotation:=none,pos:=⟨135,78,135,79⟩:PySem.Arg }],vararg:=none,kwonlyargs:=[],kw_defaults:=[],kwarg:=none,defaults:=[]:PySem.Arguments }
  (.Call (.Attribute (.Name "n" ⟨135,81,135,82⟩) "split" ⟨135,81,135,88⟩) [.Constant (.str "}") 0 ⟨135,89,135,92⟩,.Constant (.int 1) 0 ⟨135,94,135,95⟩] [] ⟨135,81,135,96⟩)
  { kind:=.function,names:=[(PySem.Str.ofString "n",.local)],isGenerator:=false,isCoroutine:=false,more:=[]:PySem.Scope } "n" where
 bind:=λ pm c' ctv v=>rfl
 kinds:=rfl
 nocell:=by decide +kernel
 co:=rfl
 gen:=rfl
 kind:=rfl
theorem Zhw {α : Type} (T A D S:List α):(T++(A++(D++S))).Perm (A++(D++(T++S))):=by
 classical
 rw [List.perm_iff_count]
 intro a
 simp only [List.count_append]
 lia
theorem perm_mid2 {α : Type} (A S P T R:List α):((A++S)++(P++(T++R))).Perm ((P++(A++(T++S)))++R):=by
 classical
 rw [List.perm_iff_count]
 intro a
 simp only [List.count_append]
 lia
theorem getD'_mem {K:Type} [DecidableEq K] {q:K} {d:D}:∀ {es:List (K × D)},(es.map (·.1)).Nodup→(q,d)∈es→Zcp es q=some d
 | [],_,h=>nomatch h
 | (k,e)::r,nd,h=>by
  rw [List.map_cons,List.nodup_cons] at nd
  unfold Zcp
  rcases List.mem_cons.mp h with e1 | h
  ·cases e1; rw [List.find?_cons_of_pos (by simp)]; rfl
  ·have hne:k ≠ q:=λ e1=>nd.1 (e1 ▸ List.mem_map_of_mem (f:=(·.1)) h)
   rw [List.find?_cons_of_neg (by simp [hne])]
   exact getD'_mem nd.2 h
theorem IterX.monoP {iter target:Expr} {P P':Led→(Led→Prop)→List D→Prop} (h:IterX C σ O iter target P) (g:∀ O' N ds,P O' N ds→P' O' N ds):IterX C σ O iter target P':=
 λ s S Q hQ=>h s S Q λ it s' Sf O' N ds p=>hQ it s' Sf O' N ds (g _ _ _ p)
theorem start_calls (T:TopC B) {W:Wr} {at_ nn:Addr} {ws:List Str} {nsl psl:List D} {outl:List Str} {seen done:Bool} {rs:List Addr} {tab:Led} {tag:Str}
  (htab:Zbl B.P Zbv lamQ tab) (hnn:nn∈rs) (hws:ws.length≤4) (hnd:(tag::ws).Nodup) (hok:∀ q∈tag::ws,Zgs q) (hsp:Zck ∉ ws) (hpsl:psl.getLast? = some (.bool false)) (hz:psl.length≤1000∧nsl.length≤1000∧outl.length≤10000) :
  CallsC B 5 (.ref (T.mA 8)) [.ref W.x,.str tag,.ref at_,.ref nn] (stA T.K W at_ (ltEs ws) nsl psl outl seen done rs++(tab++rsL rs))
   λ d U'=>d = .none∧∃ tab' r,Zbl B.P Zbv lamQ tab'∧U'=stA T.K W at_ (ltEs ws) (nsl++[.ref r]) (psl++[.bool false]) (outl++Zag tag ws) true done rs++(tab'++rsL rs):=by
 have hzz:sizeLine=16777216:=by decide +kernel
 refine start_enter T λ C I hcode hqual hn=>?_
 refine Run.kabs λ K hE=>?_
 generalize C.env.locals=L at I ⊢
 have hself:∀ {σ : Loc} {O:Led} {p:Pos},OAt O (L+1) (.cell (some (.ref W.x)))→Ev C σ O (.Name "self" p) (.ref W.x):=λ h=>.cell (I.cell rfl) (.inl (I.kinds rfl)) h
 unfold stLoc stA
 -- exclude_attrs
 refine .ite (b:=false) (.and (b:=false) (c:=true) (.cmp (.at T (hself (.q1)) (.q7) (.q8) (.nth 4 rfl) rfl) .none .isNotNone) λ h=>nomatch h) (λ h=>nomatch h) λ _=>.next ?_
 -- qnames,resolved_names
 refine Run.assignX1 (EvX.setStar T.lam hcode (λ _=>.name (.z)) (λ _=>.name (.q1)) (.q2) (by simpa [ltEs] using hws) (by rw [Zdn]; exact (List.nodup_cons.mp hnd).1)) λ qs=>?_
 refine ⟨_,.q4,?_⟩
 refine Run.assignX1 EvX.dict0 λ rd=>?_
 refine ⟨_,.q5,?_⟩
 refine .ite (b:=false) (.cmp (.name (.q3)) .none .isNotNone) (λ h=>nomatch h) λ _=>.next ?_
 refine .ite (b:=false) (.and (b:=false) (c:=true) (.cmp (.at T (hself (.q3)) (.q9) (.q10) (.nth 8 rfl) rfl) .none .isNotNone) λ h=>nomatch h) (λ h=>nomatch h) λ _=>.assign .none (.q6) (.next ?_)
 -- parse_qname
 refine Run.assignCellX (EvX.bound T.cls (hself (.q3)) (.q9) (.q10) (by rw [Wr.attrs_names]; decide +kernel) (T.meth (i:=3) (by kernel_rfl)).1 (T.meth (i:=3) (by kernel_rfl)).2 (Zar (by kernel_rfl)) (by kernel_rfl)) (I.kinds rfl) (I.cell rfl) ?_
 refine ex1 λ m=>?_
 refine ⟨_,_,.q3,.q3,?_⟩
 -- parsed_qnames
 have hcl:∀ {scope:Scope},(∀ x∈scope.names,x.2 = .free→x.1 = "parse_qname")→∀ x∈scope.names,x.2 = .free→C.env.cells.lookup x.1=some (L+2):=λ h x hx hf=>by
  rw [h x hx hf]; exact I.cell rfl
 refine Run.assignDictComp (names:=["n"]) (P:=λ O' N ds=>∃ (l:Addr) (ys:List Str) (U':Led) (F:Addr × Sh),ys.Perm (tag::(ltEs ws).map (·.1))∧Zbl B.P Zbv lamQ U'∧ds=ys.map .str∧N=(λ O=>(l,.list ds)∈O)∧O'=(l,.list (ys.map .str))::F::((m,.is λ o=>o=methodObj (.ref (T.mA 3)) (.ref W.x))::(rd,.dict [])::(qs,.is λ o=>SetO B.prog B.w o (tag::(ltEs ws).map (·.1)))::(L+2,.cell (some (.ref m)))::(L+1,.cell (some (.ref W.x)))::(stA T.K W at_ (ltEs ws) nsl psl outl seen done rs++(U'++rsL rs))))
  ⟨by decide +kernel,rfl,by decide +kernel,by decide +kernel,by decide +kernel,Zaw (λ x=>L+2) (hcl (by decide +kernel))⟩ (by show (Str.ofString "parsed_qnames")∈stNames; decide +kernel) (by kernel_rfl) ?_ ?_
 ·refine IterX.list (P:=λ l ds O'=>∃ (ys:List Str) (U':Led) (F:Addr × Sh),ys.Perm (tag::(ltEs ws).map (·.1))∧Zbl B.P Zbv lamQ U'∧ds=ys.map .str∧O'=(l,.list (ys.map .str))::F::((m,.is λ o=>o=methodObj (.ref (T.mA 3)) (.ref W.x))::(rd,.dict [])::(qs,.is λ o=>SetO B.prog B.w o (tag::(ltEs ws).map (·.1)))::(L+2,.cell (some (.ref m)))::(L+1,.cell (some (.ref W.x)))::(stA T.K W at_ (ltEs ws) nsl psl outl seen done rs++(U'++rsL rs)))) ?_ |>.monoP ?_
  ·refine EvX.perm (EvX.sortedKey (x := "n") (q:=lamQ) (U:=tab) (R:=[(m,.is λ o=>o=methodObj (.ref (T.mA 3)) (.ref W.x)),(rd,.dict []),(qs,.is λ o=>SetO B.prog B.w o (tag::(ltEs ws).map (·.1))),(L+2,.cell (some (.ref m))),(L+1,.cell (some (.ref W.x)))]++(stA T.K W at_ (ltEs ws) nsl psl outl seen done rs++rsL rs))
    (.bn T.T I rfl) (.name (.q4)) (.q2) T.lam htab ?_ hcode (by simp) (by simpa [ltEs] using hws) (by (apply Wle;assumption;rfl)) lam_ok (λ C' y c' f hy hC'=>?_) (by rw [hqual]; rfl)) λ d O' hq=>?_
   ·exact Zhw _ _ _ _
   ·rw [Zdn] at hy
    exact EvX.split2 (.name .z) .str .int (by kernel_rfl) (hok y hy).occ
   ·refine E44 hq λ l ys U' F e1 e2 e3 e4=>?_
    try clear hq
    subst e1; subst e4
    refine ⟨(l,.list (ys.map .str))::F::([(m,.is λ o=>o=methodObj (.ref (T.mA 3)) (.ref W.x)),(rd,.dict []),(qs,.is λ o=>SetO B.prog B.w o (tag::(ltEs ws).map (·.1))),(L+2,.cell (some (.ref m))),(L+1,.cell (some (.ref W.x)))]++(stA T.K W at_ (ltEs ws) nsl psl outl seen done rs++(U'++rsL rs))),?_,l,_,rfl,List.mem_cons_self,ys,U',F,e2,e3,rfl,rfl⟩
    exact ((Zhw U' _ _ _).symm.cons F).cons _
  ·intro O' N ds hq0
   refine E23 hq0 λ l ds Y1 e5 e6=>?_
   try clear hq0
   refine E34 Y1 λ ys U' F e1 e2 e3 e4=>?_
   clear Y1
   subst e6
   exact ⟨l,ys,U',F,e1,e2,e3,e5,e4⟩
 ·intro O₁ N ds hq0
  refine E45 hq0 λ l ys U' F hys hU' Y1 Y2 Y3=>?_
  try clear hq0
  subst Y1
  subst Y2
  subst Y3
  have hysn:ys.Nodup:=by rw [Zdn] at hys; exact hys.nodup_iff.mpr hnd
  have hyl:ys.length≤5:=by
   have:=hys.length_eq
   simp only [Zdn,List.length_cons] at this
   exact Wn [_,_] (.v 0) (.n 5) [(1,.v 0,.a (.v 1) (.n 1)),(1,.v 1,.n 4)] rfl (We this) hws
  have hok':∀ y∈ys,Zgs y:=λ y hy=>hok y (by rw [Zdn] at hys; exact hys.mem_iff.mp hy)
  refine ⟨λ d=>(dstr d,parsed (dstr d)),⟨λ q=>List.mem_cons_of_mem _ List.mem_cons_self,?_,λ C' IC i d hd a acc R=>?_,by rw [List.length_map]; (apply Wls;assumption;rfl)⟩,λ a=>⟨_,.q7,?_⟩⟩
  ·rw [List.map_map,List.map_map]
   simpa [Function.comp_def,dstr] using hysn
  ·refine E12 (Zbt hd) λ y hy Y1=>?_
   subst Y1
   have hy':=hok' y (List.mem_of_getElem? hy)
   refine ⟨_,.name .z,.name .z,.ofX (.perm (.callM (f:=T.mA 3) (x:=W.x) (q:=m) (U:=qnU T.K W seen done rs) (R:=(a,.dict acc)::(l,.list (ys.map .str))::F::(m,.is λ o=>o=methodObj (.ref (T.mA 3)) (.ref W.x))::(rd,.dict [])::(qs,.is λ o=>SetO B.prog B.w o (tag::(ltEs ws).map (·.1)))::(L+2,.cell (some (.ref m)))::(L+1,.cell (some (.ref W.x))) ::
    (at_,.dict (ltEs ws))::(W.nss,.list nsl)::(W.ps,.list psl)::(W.wr,Zgx W.out)::(W.out,.list (outl.map .str))::(U'++R)) (IC.cell (.q6) rfl) (.q3) (T.meth (i:=3) (by kernel_rfl)).2 (.cons (.name .z) .nil) (Zht T hy'.plain) (by have:=IC.n; lia) ?_) ?_)⟩
   ·exact perm_mid2 [(W.x,.obj T.K W.dx),(W.dx,.attrs (W.attrs seen done)),(W.decl,.list (.ref W.n0::rs.map D.ref)),(W.n0,.list [Zbj])] (rsL rs) [(a,Sh.dict acc),(l,.list (ys.map .str)),F,(m,.is λ o=>o=methodObj (.ref (T.mA 3)) (.ref W.x)),(rd,.dict []),(qs,.is λ o=>SetO B.prog B.w o (tag::(ltEs ws).map (·.1))),(L+2,.cell (some (.ref m))),(L+1,.cell (some (.ref W.x))),(at_,.dict (ltEs ws)),(W.nss,.list nsl),(W.ps,.list psl),(W.wr,Zgx W.out),(W.out,.list (outl.map .str))] U' R
   ·intro d O' hq0
    refine E12 hq0 λ U'' Y1 e3=>?_
    try clear hq0
    refine E02 Y1 λ e1 e2=>?_
    clear Y1
    subst e2; subst e3
    exact ⟨_,(perm_mid2 [(W.x,.obj T.K W.dx),(W.dx,.attrs (W.attrs seen done)),(W.decl,.list (.ref W.n0::rs.map D.ref)),(W.n0,.list [Zbj])] (rsL rs) [(a,Sh.dict acc),(l,.list (ys.map .str)),F,(m,.is λ o=>o=methodObj (.ref (T.mA 3)) (.ref W.x)),(rd,.dict []),(qs,.is λ o=>SetO B.prog B.w o (tag::(ltEs ws).map (·.1))),(L+2,.cell (some (.ref m))),(L+1,.cell (some (.ref W.x))),(at_,.dict (ltEs ws)),(W.nss,.list nsl),(W.ps,.list psl),(W.wr,Zgx W.out),(W.out,.list (outl.map .str))] U' R).symm,e1,rfl⟩
  have hkd:(((ys.map D.str).map λ d=>(dstr d,parsed (dstr d))).map (·.1)).Nodup:=by
   rw [List.map_map,List.map_map]
   simpa [Function.comp_def,dstr] using hysn
  refine .mono (start_rest T (L:=L) (R₀:=[(l,.list (ys.map .str)),F,(m,.is λ o=>o=methodObj (.ref (T.mA 3)) (.ref W.x)),(rd,.dict []),(qs,.is λ o=>SetO B.prog B.w o (tag::(ltEs ws).map (·.1))),(L+2,.cell (some (.ref m)))]) I hn hU' hnn hws hnd hok hsp hpsl hz λ q hq=>getD'_mem hkd (by
   rw [List.map_map]
   rw [Zdn] at hys
   exact List.mem_map.mpr ⟨q,hys.mem_iff.mpr hq,rfl⟩)) hE
end
section
open PySem PySem.Builtin PySem.W PySem.Calls PyProof.Rows
set_option maxRecDepth 100000
set_option maxHeartbeats 2000000
section
variable {prog:Program} {w:World} {A:Around} {E:Value→Shared→Prop} {h:Heap} {g:Array GenState} {d:Drawn} {t:Nat} {os:OsState}
variable {nm q:Str} {C N x:Addr} {bs:List Value} {sn:List Str} {sub:List Value} {ab:Bool} {col:Option Bool} {dd:Option Addr} {k0 k1 k2 k3 k5:Option Value} {newId:String}
 {mN mA:Str→Option Value} {name:Str} {v:Value}
theorem method_own {pl:Sem Bool} {Q:Value × List Value→Shared→Prop}
  (hC:h.get? C=some (excClassObj nm q C N bs [.type "object"] true sn sub ab col dd k0 k1 k2 k3 k5 newId)) (hn:h.Ns N mN) (hng:mN "__getattribute__" = none) (hnh:mN "__getattr__" = none) (hna:mN name=none)
  (hB:typeLookup (.type "object") name=pure none) (I:h.Inst x C mA) (hv:mA name=some v) (hh:handedOut v=pure v) (hq:Q (v,[]) ⟨h,g,d,t+1,os⟩) :
  wpAny (model prog w) A (getMethod (.ref x) name pl) Q E ⟨h,g,d,t,os⟩:=by
 refine E14 (id I) λ o hx hc hnc hd=>?_
 have hcan:=F.canon_object_ga
 unfold getMethod specialOf
 generalize hga:getAttr (.ref x) name=ga
 repeat (first | (with_reducible refine wpAny_loadPart_at hx ?_; rw [hc]) | (with_reducible refine wpAny_typeLookup_exc hC hn F.mro_object F.lk_object_ga ?_; rw [hng]) | (with_reducible refine wpAny_typeLookup_exc hC hn F.mro_object F.lk_object_getattr ?_; rw [hnh]) | (with_reducible refine wpAny_typeLookup_exc hC hn F.mro_object hB ?_; rw [hna]) | simp only [hcan,Bool.false_eq_true,if_false] | wp_step)
 subst hga
 exact load_attr hC hn hng hna hB I hv hh (wpAny_pure hq)
end
variable {B:Bs} {C:Cx B} {σ σ':Loc} {O O':Led}
theorem EvX.ownApp {oe e:Expr} {n:Str} {apos pos:Pos} {x dx K N q l:Addr} {mN:Str→Option Value} {es:List (Str × D)} {ds:List D} {d:D} (c:Zim B K N mN) (ho:Ev C σ O oe (.ref x)) (hx:OAt O x (.obj K dx)) (hd:OAt O dx (.attrs es)) (ha:AAt es n (.ref q))
  (hn:mN n=Option.none) (hB:typeLookup (.type "object") n=pure Option.none) (hq:OAt O q (.is λ o=>o.cls = .type "builtin_function_or_method" ∧ o.data = .fields #[.builtin "list.append",.ref l]))
  (he:Ev C σ O e d) (hl:OAt O l (.list ds)) (hp:OPut O l (.list (ds++[d])) O') (hz:ds.length≤sizeLine)
  (hline:autoParam ((apos.endLine==pos.line)=true) tR) (hs:autoParam (Zac [e]=true) tR)
  (hbase:autoParam (attributeBase oe n C.env (eval oe C.env)=eval oe C.env) tR)
  (hfew:autoParam (((backTo pos (starEach [e] C.env)).all (λ x=>!x.1)&&(backToKw pos (keywordEach [] C.env)).all (λ x=>x.1.isSome)
   && decide (([e]:List Expr).length+([]:List Keyword).length+(if ([]:List Keyword).isEmpty then 0 else 1) < 30))=true) tR) :
  EvX C σ O (.Call (.Attribute oe n apos) [e] [] pos) λ d' O''=>d' = .none∧O''=O':=λ s S Q hQ=>by
 rw [arm_eval_Call,hbase]
 refine wpAny_bind (ho s S _ λ v s₁ t₁ S₁ hv=>?_)
 have hh:v = .ref x:=hv; subst hh
 refine wpAny_bind (wpAny_standAt ?_)
 have hform:methodCallForm (([e]:List Expr).length+([]:List Keyword).length) (backTo pos (starEach [e] C.env)) (backToKw pos (keywordEach [] C.env))=true:=hfew
 have hpos:methodCallPos true oe C.env apos pos=pure pos:=by unfold methodCallPos; simp [hline]
 unfold methodCall
 rw [hform]
 refine E16 (S₁.inst hx hd) λ m I hw nd hok hne _=>?_
 refine E12 (ha.get hok) λ u e1 hu=>?_
 have hh:u = .ref q:=hu; subst hh
 obtain ⟨nm,qq,bs,sn,sub,col,dd,k0,k1,k2,k3,k5,hK⟩:=c.at_
 have hN:=c.ns _ S₁.top
 have hKt:=hK _ S₁.top
 refine wpAny_bind (wpAny_holding ?_)
 have go:∀ k,C.wp (callWith pos (.ref q) [] (backTo pos (starEach [e] C.env)) (backToKw pos (keywordEach [] C.env))) Q { s₁ with toks:=k }:=λ k=>by
  rw [(Zaa hs).1]
  have S₁':St C σ O { s₁ with toks:=k }:=S₁.tok
  refine callWith_of (P:=λ h=>∃ ob,h.get? q=some ob∧ob.cls = .type "builtin_function_or_method" ∧ ob.data = .fields #[.builtin "list.append",.ref l]) rfl (λ h hh=>?_) (evalArgs_plain (spliced_cons (he _ S₁' _ λ u s₂ t₂ S₂ hu=>spliced_nil ?_)))
  ·refine E13 hh λ ob h1 h2 h3=>?_
   try clear hh
   refine ⟨.machine,.inr (.inl rfl),(Looks.ld (part:=Option.none) h1).andThen ?_⟩
   rw [h3]
   dsimp only
   rw [h2]
   exact .now
  ·refine E13 (S₂.objs _ hq.mem) λ ob hob Y1 _=>?_
   refine E02 Y1 λ h2 h3=>?_
   clear Y1
   refine E12 (S₂.objs _ hl.mem) λ items Y1 hvs=>?_
   refine E11 Y1 λ n e=>?_
   clear Y1
   refine ⟨⟨ob,hob,h2,h3⟩,?_⟩
   have X:=(LstAt.upd (s:=s₂) (f:=λ xs=>xs.push u) (t:=s₂.toks) e)
   refine Zdh hob h2 h3 e (by rw [hvs.sizeA]; exact hz) ?_
   exact hQ .none _ .none _ ⟨rfl,rfl⟩ ((t₁.trans t₂).trans X.2.tk) (S₂.put hp X.2 ⟨_,X.1,by simpa using (hvs.tk X.2.tk).snoc (hu.tk X.2.tk)⟩) rfl
 have go':=go (s₁.toks+1)
 obtain ⟨hpp,g,dr,tk,os⟩:=s₁
 refine method_own hKt hN c.noGa c.noGt hn hB I e1 rfl ?_
 exact wpAny_bind (wpAny_of_eq hpos go')
section
variable {prog:Program} {w:World} {A:Around} {E:Value→Shared→Prop} {h:Heap} {g:Array GenState} {d:Drawn} {t:Nat} {os:OsState}
theorem del_one {l sl:Addr} {v:Value} {n:Nat} {Q:PySem.Fin→Shared→Prop} (hl:h.get? l=some { cls:=.type "list",dict:=none,data:=.seq #[v] n,slots:=#[] }) (hs:h.get? sl=some { cls:=.type "slice",data:=.fields #[.none,.none,.none] })
  (hq:∀ F:Array Value→Array Value,F #[v] = #[]→Q (.done (.ret .none)) ⟨h.update l (Obj.mapSeq F),g,d,t,os⟩) :
  wpAny (model prog w) A (Builtin.«list.__delitem__» ⟨[.ref l,.ref sl],[]⟩) Q E ⟨h,g,d,t,os⟩:=by
 have hT:Shared.TypeIs ⟨h,g,d,t,os⟩ (.ref sl) "slice" := ⟨_,hs,rfl⟩
 unfold Builtin.«list.__delitem__»
 refine wpAny_bind (m:=slotArgs _ _ _) (wpAny_of_eq (a:=(Value.ref l,[Value.ref sl])) (by first | rfl | kernel_rfl) ?_)
 dsimp only
 unfold Builtin.List.listSubscript?
 refine wpAny_bind (wpAny_bind (wpAny_specialOf hT slice_no_index ?_))
 refine wpAny_pure ?_
 dsimp only
 refine wpAny_bind (wpAny_typeOf hT ?_)
 rw [if_neg (by simp)]
 refine wpAny_bind ?_
 unfold Builtin.List.listSliceParts
 refine wpAny_bind (wpAny_field hs rfl (x:=.none) rfl (wpAny_bind (wpAny_pure ?_)))
 rw [if_neg (by simp [rawInt])]
 refine wpAny_bind (wpAny_field hs rfl (x:=.none) rfl (wpAny_bind (wpAny_pure ?_)))
 refine wpAny_bind (wpAny_field hs rfl (x:=.none) rfl (wpAny_bind (wpAny_pure ?_)))
 refine wpAny_pure ?_
 dsimp only
 refine wpAny_bind (listItems_at hl rfl ?_)
 refine wpAny_bind (wpAny_of_eq (a:=((0:Int),(1:Int),(1:Int))) (by first | rfl | kernel_rfl) ?_)
 dsimp only
 refine wpAny_bind (wpAny_rule ?_)
 refine wpAny_bind (listUpdate_at hl rfl ?_ (by show (1:Nat)≤sizeLine; decide +kernel) (by show (0:Nat)≤_; exact Nat.zero_le _))
 refine wpAny_bind (wpAny_letGo ?_)
 exact wpAny_pure (hq _ (by rfl))
end
variable {B:Bs} {C:Cx B} {σ σ':Loc} {O O':Led}
theorem Run.delOne {ve:Expr} {sp qp pos:Pos} {rest:List Stmt} {l:Addr} {d:D} {K:Flow→Shared→Prop} (hv:Ev C σ O ve (.ref l)) (ha:OAt O l (.list [d])) (hp:OPut O l (.list []) O') (h:Run C σ O' rest K) :
  Run C σ O (.Delete [.Subscript ve (.Slice none none none sp) qp] pos::rest) K:=Run.cons λ s S=>by
 refine wpAny_Delete (wpAny_deleteEach_cons ?_)
 show C.wp (do
  let ov ← eval ve C.env
  let iv ← holding [ov] (eval (.Slice none none none sp) C.env)
  standAt qp
  holding [ov,iv] (delItem ov iv)
  release [ov,iv] []) _ s
 refine wpAny_bind (hv s S _ λ v s₁ t₁ S₁ hv₁=>?_)
 have hh:v = .ref l:=hv₁; subst hh
 refine wpAny_bind (wpAny_holding ?_)
 rw [arm_eval_Slice]
 refine wpAny_bind (m:=valueOrNone (evalOpt none C.env)) (wpAny_pure ?_)
 refine wpAny_bind (m:=holding _ (valueOrNone (evalOpt none C.env))) (wpAny_holding (wpAny_pure ?_))
 refine wpAny_bind (m:=holding _ (valueOrNone (evalOpt none C.env))) (wpAny_holding (wpAny_pure ?_))
 show wpAny _ _ (newFields "slice" [.none,.none,.none]) _ _ _
 unfold newFields
 refine wpAny_newObj_type ?_
 have X:Eff [] s₁ { s₁ with heap:=s₁.heap.push { cls:=.type "slice",data:=.fields ([Value.none,.none,.none]:List Value).toArray } }:=Eff.push _
 have S₂:=S₁.ext X
 have hsl:(s₁.heap.push { cls:=.type "slice",data:=.fields ([Value.none,.none,.none]:List Value).toArray }).get? s₁.heap.objs.size=some { cls:=.type "slice",data:=.fields #[.none,.none,.none] }:=Heap.get?_push_size _ rfl
 refine wpAny_bind (wpAny_standAt (wpAny_bind (wpAny_holding ?_)))
 refine E12 (S₂.objs _ ha.mem) λ items Y1 hvs=>?_
 refine E11 Y1 λ n e=>?_
 clear Y1
 refine E12 (Vals.one hvs) λ u e1 hu=>?_
 have e2:items = #[u]:=Array.ext' (by simpa using e1)
 subst e2
 have hT:Shared.TypeIs { s₁ with heap:=s₁.heap.push { cls:=.type "slice",data:=.fields ([Value.none,.none,.none]:List Value).toArray } } (.ref l) "list" := ⟨_,e,rfl⟩
 refine wpAny_delItem_slot hT (by decide) F.slot_list_delitem (wpAny_call_entry F.slot_list_delitem hT F.entry_list_delitem ?_ (F.args_list_delitem_2 _ _))
 refine del_one e hsl λ F hF=>⟨_,rfl,?_⟩
 have Y:=(LstAt.upd (s:={ s₁ with heap:=s₁.heap.push { cls:=.type "slice",data:=.fields ([Value.none,.none,.none]:List Value).toArray } }) (f:=F) (t:=s₁.toks) e)
 rw [hF] at Y
 have fin:∀ {Q:Unit→Shared→Prop} {s':Shared},Q () s'→C.wp (release [.ref l,.ref s₁.heap.objs.size] []) Q s':=λ hq=>by
  unfold release
  show C.wp (release.go [] [.ref l,.ref s₁.heap.objs.size]) _ _
  unfold release.go
  refine wpAny_bind (wpAny_holding (wpAny_point ?_))
  exact wpAny_pure hq
 refine fin (wpAny_deleteEach_nil (h _ (S₂.put hp Y.2 ⟨#[],Y.1,rfl⟩)))
end
section
open PySem PySem.Builtin PySem.W PySem.Calls PyProof.Rows
set_option maxRecDepth 100000
set_option maxHeartbeats 2000000
variable {B:Bs} {C:Cx B} {σ σ':Loc} {O O':Led}
theorem Zgv (sep:Str) (t:Tok) (a:Addr):checkBoundCall "str.join" ⟨[.str sep t,.ref a],[]⟩=pure ():=by first | kernel_rfl | rfl
theorem Ev.callJoin {fe e:Expr} {pos:Pos} {j l:Addr} {sep:Str} {ys:List Str} (hf:Ev C σ O fe (.ref j)) (hj:∀ h,B.G h→∃ o t,h.get? j=some o∧o.cls = .type "builtin_function_or_method" ∧ o.data = .fields #[.builtin "str.join",.str sep t])
  (he:Ev C σ O e (.ref l)) (ha:OAt O l (.list (ys.map .str))) (hz:(ys.map (·.length)).sum+ys.length * sep.length≤16777216)
  (hs:autoParam (Zac [e]=true) tR)
  (hev:autoParam (eval (.Call fe [e] [] pos) C.env=(do callWith pos (← eval fe C.env) [] (backTo pos (starEach [e] C.env)) (backToKw pos (keywordEach [] C.env)))) tR) :
  Ev C σ O (.Call fe [e] [] pos) (.str (Txt.join sep ys)):=λ s S Q hQ=>by
 refine Call_ (hf s S _ λ v s₁ t₁ S₁ hv=>?_) hev
 have hh:v = .ref j:=hv; subst hh
 rw [(Zaa hs).1]
 refine callWith_of (P:=λ h=>∃ o t,h.get? j=some o∧o.cls = .type "builtin_function_or_method" ∧ o.data = .fields #[.builtin "str.join",.str sep t]) rfl (λ h hh=>?_) (evalArgs_plain (spliced_cons (he s₁ S₁ _ λ u s₂ t₂ S₂ hu=>spliced_nil ?_)))
 ·refine E23 hh λ ob t h1 h2 h3=>?_
  try clear hh
  refine ⟨.machine,.inr (.inl rfl),(Looks.ld (part:=Option.none) h1).andThen ?_⟩
  rw [h3]
  dsimp only
  rw [h2]
  exact .now
 ·refine E23 (hj _ S₂.top) λ ob t hob h2 h3=>?_
  refine ⟨⟨ob,t,hob,h2,h3⟩,?_⟩
  have hh:u = .ref l:=hu; subst hh
  refine E12 (Zae (S₂.objs _ ha.mem)) λ items x hv=>?_
  refine E12 (strsAre_values (Zdg hv)) λ lv hlv ht=>?_
  have e:items=(strValues lv).toArray:=by rw [← hlv]
  subst e
  have hok:=joinOk_of hz
  subst ht
  unfold JoinOk at hok
  rw [Bool.not_eq_true'] at hok
  refine wpAny_call (codeAny_of_tree ?_)
  show wpAny _ _ (callAny (.ref j) ⟨[.ref l],[]⟩) _ _ _
  unfold callAny
  refine wpAny_bind (wpAny_load hob ?_)
  rw [h3]
  dsimp only
  rw [h2]
  rw [if_pos (by kernel_rfl)]
  show wpAny _ _ (if (Value.type "builtin_function_or_method" != Value.type "method")=true then _ else _) _ _ _
  rw [if_pos (by kernel_rfl)]
  refine wpAny_bind (wpAny_of_eq (Zgv _ _ _) ?_)
  refine wpAny_pure ⟨plainId_quiet F.slot_str_join.plain _,?_⟩
  refine codeAny_builtin F.entry_str_join ?_
  rw [Around.under_plainId F.slot_str_join.plain _]
  exact meets_str_join_list sep t l lv hok B.prog B.w C.A (λ r s'=>match r with | .ok (.ret v)=>Q v s' | .ok _=>False | .error e=>F0 e s') s₂ ⟨x,post_join lv ⟨joinFit_length hok,λ t' k=>hQ _ _ (t₁.trans t₂) (S₂.tok (t:=k)) ⟨_,rfl⟩⟩⟩
end
section
set_option maxRecDepth 100000
set_option maxHeartbeats 4000000
variable {B:Bs} {C:Cx B} {σ σ':Loc} {O O':Led}
noncomputable def wU (K:Addr) (W:Wr) (nsl psl:List D) (outl:List Str) (dtl:List D) (seen done:Bool) (rs:List Addr) (tab:Led):Led:=
 [(W.nss,.list nsl),(W.ps,.list psl),(W.wr,Zgx W.out),(W.out,.list (outl.map .str)),(W.x,.obj K W.dx),(W.dx,.attrs (W.attrs seen done)),(W.decl,.list (.ref W.n0::rs.map D.ref)),(W.n0,.list [Zbj]),(W.dt,.list dtl)]++(tab++rsL rs)
theorem perm_st1 {α : Type} (A T S N D:List α):((A++(T++(S++N)))++D).Perm (N++(A++(D++(T++S)))):=by
 classical
 rw [List.perm_iff_count]
 intro a
 simp only [List.count_append]
 lia
theorem perm_st2 {α : Type} (A E D:List α):(A++(D++E)).Perm ((A++E)++D):=by
 classical
 rw [List.perm_iff_count]
 intro a
 simp only [List.count_append]
 exact Nat.le_antisymm (Wn [_,_,_] (.a (.v 0) (.a (.v 1) (.v 2))) (.a (.a (.v 0) (.v 2)) (.v 1)) [] rfl) (Wn [_,_,_] (.a (.a (.v 0) (.v 1)) (.v 2)) (.a (.v 0) (.a (.v 2) (.v 1))) [] rfl)
theorem Zkg (rs:List Addr) (r:Addr):rsL (rs++[r])=rsL rs++[(r,.list [])]:=by simp [rsL]
theorem Zlm (T:TopC B) {W:Wr} {at_:Addr} {ws:List Str} {nsl psl:List D} {outl:List Str} {seen done:Bool} {rs:List Addr} {tab:Led} {tag:Str}
  (htab:Zbl B.P Zbv lamQ tab) (hws:ws.length≤4) (hnd:(tag::ws).Nodup) (hok:∀ q∈tag::ws,Zgs q) (hsp:Zck ∉ ws) (hpsl:psl.getLast? = some (.bool false)) (hz:psl.length≤1000∧nsl.length≤1000∧outl.length≤10000) (hr:rs.length≤1000) :
  Calls B 6 (.ref (T.mA 7)) [.ref W.x,.str tag,.ref at_] ((at_,.dict (ltEs ws))::wU T.K W nsl psl outl [] seen done rs tab)
   λ d U'=>d = .none∧∃ tab' r nn,Zbl B.P Zbv lamQ tab'∧U'=(at_,.dict (ltEs ws))::wU T.K W (nsl++[.ref r]) (psl++[.bool false]) (outl++Zag tag ws) [] true done (rs++[nn]) tab':=by
 have hzz:sizeLine=16777216:=by decide +kernel
 refine .of_def T.def7 [("self",some (.ref W.x)),("tag",some (.str tag)),("attrs",some (.ref at_)),("new_namespaces",none)] [] (λ _=>[]) (λ L=>rfl) (λ L=>rfl) ⟨⟨rfl,rfl⟩,rfl⟩ (by show (["self", "tag", "attrs", "new_namespaces"]:List Str).Nodup; decide +kernel) (by show ∀ x∈(["self", "tag", "attrs", "new_namespaces"]:List Str),_; decide +kernel) .nil ?_ ?_
 ·intro cd pm s vs hG hq0
  refine E23 hq0 λ v r Y1 hv Y2=>?_
  try clear hq0
  subst Y1
  refine E23 Y2 λ u r' Y3 hu Y4=>?_
  clear Y2
  subst Y3
  refine E23 Y4 λ w r'' Y5 hw hr=>?_
  clear Y4
  subst Y5
  have hh:r''=[]:=hr; subst hh
  refine ⟨[("self",v),("tag",u),("attrs",w)],BindsTo.of_eq rfl,?_,⟨⟨v,rfl,hv⟩,⟨u,rfl,hu⟩,⟨w,rfl,hw⟩,trivial⟩,trivial⟩
  intro x hx
  rcases List.mem_cons.mp hx with rfl | hx
  ·exact .inl rfl
  rcases List.mem_cons.mp hx with rfl | hx
  ·exact .inl rfl
  ·rw [List.mem_singleton.mp hx]; exact .inl rfl
 intro C I hn
 refine Run.kabs λ K hE=>?_
 show Run C _ ((at_,.dict (ltEs ws))::wU T.K W nsl psl outl [] seen done rs tab) _ _
 unfold wU
 refine .ite (b:=false) (.andF (.cmp (.at T (.name .z) (.q5) (.q6) (.nth 5 rfl) rfl) .none .isNotNone)) (λ h=>nomatch h) λ _=>.next ?_
 refine .ite (b:=false) (.val (.at T (.name .z) (.q5) (.q6) (.nth 1 rfl) rfl) (.list (.q9) (Nat.zero_le _))) (λ h=>nomatch h) λ _=>.next ?_
 refine Run.assignX1 (EvX.list .nil) λ nn=>?_
 refine ⟨_,.q3,?_⟩
 refine .expr (.append (.at T (.name .z) (.q6) (.q7) (.nth 9 rfl) rfl) (.q8) (.name (.q3)) (.q8) (by simp; exact Wn [_] (.a (.v 0) (.n 1)) (.n 16777216) [(1,.v 0,.n 1000)] rfl hr)) ?_
 refine .ite (b:=false) (.andF (.cmp (.at T (.name .z) (.q6) (.q7) (.nth 7 rfl) rfl) .none .isNotNone)) (λ h=>nomatch h) λ _=>.next ?_
 have hdecl:((.ref W.n0::rs.map D.ref)++[D.ref nn]) = .ref W.n0::(rs++[nn]).map D.ref:=by simp
 rw [hdecl]
 refine .exprX (.methP (U:=stA T.K W at_ (ltEs ws) nsl psl outl seen done (rs++[nn])++(tab++rsL (rs++[nn]))) (R:=[(W.dt,.list [])]) T.cls (.name .z) (.q6) (.q7) (by rw [Wr.attrs_names]; decide +kernel) (T.meth (i:=8) (by kernel_rfl)).1 (T.meth (i:=8) (by kernel_rfl)).2 (Zar (by kernel_rfl)) (.cons (.name (.q1)) (.cons (.name (.q2)) (.cons (.name (.q3)) .nil)))
  (start_calls T (nn:=nn) htab (List.mem_append_right _ List.mem_cons_self) hws hnd hok hsp hpsl hz).calls (by (apply Wle;assumption;rfl)) ?_) ?_ ?_
 ·rw [Zkg]
  exact perm_st1 (stA T.K W at_ (ltEs ws) nsl psl outl seen done (rs++[nn])) tab (rsL rs) [(nn,.list [])] [(W.dt,.list [])]
 ·intro d O' hq0
  refine E12 hq0 λ U' Y1 Y2=>?_
  try clear hq0
  subst Y2
  refine E02 Y1 λ Y3 Y4=>?_
  clear Y1
  subst Y3
  refine E22 Y4 λ tab' r htab' Y5=>?_
  clear Y4
  subst Y5
  refine .perm (perm_st2 (stA T.K W at_ (ltEs ws) (nsl++[.ref r]) (psl++[.bool false]) (outl++Zag tag ws) true done (rs++[nn])) (tab'++rsL (rs++[nn])) [(W.dt,.list [])]) ?_
  exact .nil λ s S=>hE _ _ ⟨_,_,_,⟨rfl,tab',r,nn,htab',rfl⟩,S,λ p hp=>hp,S.ond⟩
 ·intro d O' hq0
  refine E12 hq0 λ U' Y1 _=>?_
  try clear hq0
  refine E02 Y1 λ Y2 _=>?_
  clear Y1
  subst Y2; rfl
theorem data_calls (T:TopC B) {W:Wr} {nsl psl:List D} {outl:List Str} {seen done:Bool} {rs:List Addr} {tab:Led} {t:Str} :
  Calls B 1 (.ref (T.mA 4)) [.ref W.x,.str t] (wU T.K W nsl psl outl [] seen done rs tab) λ d U'=>d = .none∧U'=wU T.K W nsl psl outl [.str t] seen done rs tab:=by
 have hzz:sizeLine=16777216:=by decide +kernel
 refine .of_def T.def4 [("self",some (.ref W.x)),("data",some (.str t))] [] (λ _=>[]) (λ L=>rfl) (λ L=>rfl) ⟨⟨rfl,rfl⟩,rfl⟩ (by show (["self", "data"]:List Str).Nodup; decide +kernel) (by show ∀ x∈(["self", "data"]:List Str),_; decide +kernel) .nil ?_ ?_
 ·intro cd pm s vs hG hq0
  refine E23 (Vals.two hq0) λ v u Y1 hv hu=>?_
  subst Y1
  refine ⟨[("self",v),("data",u)],BindsTo.of_eq rfl,?_,⟨⟨v,rfl,hv⟩,⟨u,rfl,hu⟩,trivial⟩,trivial⟩
  intro x hx
  rcases List.mem_cons.mp hx with rfl | hx
  ·exact .inl rfl
  ·rw [List.mem_singleton.mp hx]; exact .inl rfl
 intro C I hn
 refine Run.kabs λ K hE=>?_
 show Run C _ (wU T.K W nsl psl outl [] seen done rs tab) _ _
 unfold wU
 refine .ite (b:=true) (.cast (.not (.val (.at T (.name .z) (.q4) (.q5) (.nth 16 rfl) rfl) .int)) rfl) (λ _=>?_) (λ h=>nomatch h)
 refine .expr (.append (.at T (.name .z) (.q4) (.q5) (.nth 1 rfl) rfl) (.q8) (.name (.q1)) (.q8) (Nat.zero_le _)) (.next ?_)
 exact .nil λ s S=>hE _ _ ⟨_,_,_,⟨rfl,rfl⟩,S,λ p hp=>hp,S.ond⟩
theorem join_one (t:Str):Txt.join "" [t]=t:=by
 first | rfl | (unfold Txt.join; rfl) | (unfold Txt.join; simp)
noncomputable def Zdd (t:Str):List Str:=if t.length=0 then [] else [Zla t]
theorem flush_calls (T:TopC B) {W:Wr} {nsl psl:List D} {outl:List Str} {done:Bool} {rs:List Addr} {tab:Led} {t:Str} (hz:t.length≤4000) (ho:outl.length≤10000) :
  Calls B 2 (.ref (T.mA 5)) [.ref W.x] (wU T.K W nsl psl outl [.str t] true done rs tab) λ d U'=>d = .none∧U'=wU T.K W nsl psl (outl++Zdd t) [] true done rs tab:=by
 have hzz:sizeLine=16777216:=by decide +kernel
 refine .of_def T.def5 [("self",some (.ref W.x)),("_join_text",some (.ref T.join)),("data",none),("qname_text",none)] [] (λ _=>[]) (λ L=>rfl) (λ L=>rfl) ⟨⟨rfl,rfl⟩,rfl⟩ (by show (["self", "_join_text", "data", "qname_text"]:List Str).Nodup; decide +kernel) (by show ∀ x∈(["self", "_join_text", "data", "qname_text"]:List Str),_; decide +kernel) .nil ?_ ?_
 ·intro cd pm s vs hG hq0
  refine E12 (Vals.one hq0) λ v Y1 hv=>?_
  subst Y1
  refine E22 (T.dfl5 _ hG) λ o n ho hd=>?_
  refine ⟨[("self",v),("_join_text",.ref T.join)],BindsTo.of_defaults (T:=T.dfl 5) (items:=#[.ref T.join]) rfl ho hd (by rfl) (by rfl),?_,⟨⟨v,rfl,hv⟩,⟨.ref T.join,rfl,rfl⟩,trivial⟩,trivial⟩
  intro x hx
  rcases List.mem_cons.mp hx with rfl | hx
  ·exact .inl rfl
  ·rw [List.mem_singleton.mp hx]; exact .inl rfl
 intro C I hn
 refine Run.kabs λ K hE=>?_
 show Run C _ (wU T.K W nsl psl outl [.str t] true done rs tab) _ _
 unfold wU
 refine .assign ((Ev.callJoin (ys:=[t]) (.name (.q1)) T.joinO (.at T (.name .z) (.q4) (.q5) (.nth 1 rfl) rfl) (.q8) ?_).cast (congrArg D.str (join_one t))) (.q2) ?_
 ·have h0:("" : Str).length=0:=rfl
  simp [h0]; (apply Wls;assumption;rfl)
 refine .delOne (.at T (.name .z) (.q4) (.q5) (.nth 1 rfl) rfl) (.q8) (.q8) ?_
 refine .ite (b:=false) (.andF (.val (.at T (.name .z) (.q4) (.q5) (.nth 3 rfl) rfl) .bool)) (λ h=>nomatch h) λ _=>.next ?_
 refine .ite (b:=false) (.cmp (.at T (.name .z) (.q4) (.q5) (.nth 13 rfl) rfl) .none .isNotNone) (λ h=>nomatch h) λ _=>.next ?_
 refine .ite (.and (c:=true) (.val (.name (.q2)) (.str (by (apply Wls;assumption;rfl)))) λ _=>.val (.at T (.name .z) (.q4) (.q5) (.nth 14 rfl) rfl) .bool) (λ hb=>?_) (λ hb=>?_)
 ·have h0:t.length ≠ 0:=by simpa using hb
  refine .expr (.ownApp T.cls (.name .z) (.q4) (.q5) (.nth 0 rfl) (T.noA (by kernel_rfl)) (Zar (by kernel_rfl)) (.q2) (.call0 (.gn T.T I 8) (T.T.gn (i:=8) (by kernel_rfl)).2.isDef (.cons (.name (.q2)) .nil) (cdata_calls T.T hz) (by (apply Wle;assumption;rfl))) (.q3) (.q3) (by rw [List.length_map]; (apply Wls;assumption;rfl))) (.next ?_)
  refine .nil λ s S=>hE _ _ ⟨_,_,_,⟨rfl,rfl⟩,S,?_,?_⟩
  ·unfold wU Zdd
   rw [if_neg h0,List.map_append]
   exact λ p hp=>hp
  ·unfold wU Zdd
   rw [if_neg h0,List.map_append]; exact S.ond
 ·have h0:t.length=0:=by simpa using hb
  refine .next (.nil λ s S=>hE _ _ ⟨_,_,_,⟨rfl,rfl⟩,S,?_,?_⟩)
  ·unfold wU Zdd
   rw [if_pos h0,List.append_nil]
   exact λ p hp=>hp
  ·unfold wU Zdd
   rw [if_pos h0,List.append_nil]; exact S.ond
theorem perm_en {α : Type} (A S P D T:List α):((A++S)++(P++(D++T))).Perm (P++(A++(D++(T++S)))):=by
 classical
 rw [List.perm_iff_count]
 intro a
 simp only [List.count_append]
 lia
noncomputable def fl (tx:List Str):List Str:=match tx with
 | []=>[]
 | t::_=>Zdd t
noncomputable def Zaz (tag:Str):Str:=catS Str.empty ["</",tag, ">"]
theorem Zik (T:TopC B) {W:Wr} {nsl psl:List D} {outl tx:List Str} {done:Bool} {rs:List Addr} {tab:Led} {r nn:Addr} {tag:Str} (htx:tx=[]∨∃ t:Str,tx=[t]∧t.length≤4000) (hok:Zgs tag)
  (hz:psl.length≤1000∧nsl.length≤1000∧outl.length≤9000) (hr:rs.length≤1000) :
  Calls B 4 (.ref (T.mA 9)) [.ref W.x,.str tag] (wU T.K W (nsl++[.ref r]) (psl++[.bool false]) outl (tx.map .str) true done (rs++[nn]) tab) λ d U'=>d = .none∧∃ done',U'=wU T.K W nsl psl (outl++fl tx++[Zaz tag]) [] true done' rs tab:=by
 have hzz:sizeLine=16777216:=by decide +kernel
 have hfl:(fl tx).length≤1:=by
  rcases htx with rfl | ⟨t,rfl,_⟩
  ·exact Nat.zero_le _
  ·show (Zdd t).length≤1
   unfold Zdd; split <;> simp
 refine .of_def T.def9 [("self",some (.ref W.x)),("tag",some (.str tag))] [] (λ _=>[]) (λ L=>rfl) (λ L=>rfl) ⟨⟨rfl,rfl⟩,rfl⟩ (by show (["self", "tag"]:List Str).Nodup; decide +kernel) (by show ∀ x∈(["self", "tag"]:List Str),_; decide +kernel) .nil ?_ ?_
 ·intro cd pm s vs hG hq0
  refine E23 (Vals.two hq0) λ v u Y1 hv hu=>?_
  subst Y1
  refine ⟨[("self",v),("tag",u)],BindsTo.of_eq rfl,?_,⟨⟨v,rfl,hv⟩,⟨u,rfl,hu⟩,trivial⟩,trivial⟩
  intro x hx
  rcases List.mem_cons.mp hx with rfl | hx
  ·exact .inl rfl
  ·rw [List.mem_singleton.mp hx]; exact .inl rfl
 intro C I hn
 refine Run.kabs λ K hE=>?_
 show Run C _ (wU T.K W (nsl++[.ref r]) (psl++[.bool false]) outl (tx.map .str) true done (rs++[nn]) tab) _ _
 refine .ite (b:=false) (.val (.at T (.name .z) (.q4) (.q5) (.nth 16 rfl) rfl) .int) (λ h=>nomatch h) λ _=>.next ?_
 -- the data
 refine Run.iteJ [("self",some (.ref W.x)),("tag",some (.str tag))] (wU T.K W (nsl++[.ref r]) (psl++[.bool false]) (outl++fl tx) [] true done (rs++[nn]) tab) (.val (.at T (.name .z) (.q4) (.q5) (.nth 1 rfl) rfl) (.list (.q8) (by rw [List.length_map]; rcases htx with rfl | ⟨t,rfl,_⟩ <;> simp <;> exact Wlb rfl))) (λ hb=>?_) (λ hb=>?_) ?_
 ·rcases htx with rfl | ⟨t,rfl,ht⟩
  ·cases hb
  refine .exprX (.methP (U:=wU T.K W (nsl++[.ref r]) (psl++[.bool false]) outl [.str t] true done (rs++[nn]) tab) (R:=[]) T.cls (.name .z) (.q4) (.q5) (by rw [Wr.attrs_names]; decide +kernel) (T.meth (i:=5) (by kernel_rfl)).1 (T.meth (i:=5) (by kernel_rfl)).2 (Zar (by kernel_rfl)) .nil (flush_calls T ht (by exact Wn [_] (.v 0) (.n 10000) [(1,.v 0,.n 9000)] rfl hz.2.2)) (by (apply Wle;assumption;rfl)) ?_) ?_ ?_
  ·rw [List.append_nil]; exact .refl _
  ·refine exC0 ?_
   rw [List.append_nil]
   exact .nil λ s S=>S
  ·intro d O' hq0
   refine E12 hq0 λ U' Y1 _=>?_
   try clear hq0
   refine E02 Y1 λ Y2 _=>?_
   clear Y1
   subst Y2; rfl
 ·have:tx=[]:=by
   rcases htx with rfl | ⟨t,rfl,ht⟩
   ·rfl
   ·cases hb
  subst this
  refine .nil λ s S=>?_
  show St C _ (wU T.K W (nsl++[.ref r]) (psl++[.bool false]) (outl++[]) [] true done (rs++[nn]) tab) s
  rw [List.append_nil]; exact S
 -- the end tag
 have hperm:=perm_en (α:=Addr × Sh) [(W.x,.obj T.K W.dx),(W.dx,.attrs (W.attrs true done)),(W.decl,.list (.ref W.n0::(rs++[nn]).map D.ref)),(W.n0,.list [Zbj])] (rsL (rs++[nn])) [(W.nss,.list (nsl++[.ref r])),(W.ps,.list (psl++[.bool false])),(W.wr,Zgx W.out),(W.out,.list ((outl++fl tx).map .str))] [(W.dt,.list [])] tab
 have htl:=hok.plain.2
 have hcl:(Zaz tag).length≤200:=by
  unfold Zaz
  rw [Zhi]
  have e1:("</" : Str).length=2:=by decide +kernel
  have e2:(">" : Str).length=1:=by decide +kernel
  have e3:Str.empty.length=0:=rfl
  simp only [List.map_cons,List.map_nil,List.sum_cons,List.sum_nil,e1,e2,e3]; exact Wn [_] (.a (.n 0) (.a (.n 2) (.a (.v 0) (.a (.n 1) (.n 0))))) (.n 200) [(1,.v 0,.n 100)] rfl htl
 unfold wU
 refine .expr (.ownApp T.cls (.name .z) (.q4) (.q5) (.nth 0 rfl) (T.noA (by kernel_rfl)) (Zar (by kernel_rfl)) (.q2) (.fstr (xs:=["</",tag, ">"]) (.cons .str (.cons (.field (.itemTup (ds:=[.str tag,.str tag,.str ""]) (.ofX (.perm (.methP (U:=qnU T.K W true done (rs++[nn])) (R:=[(W.nss,.list (nsl++[.ref r])),(W.ps,.list (psl++[.bool false])),(W.wr,Zgx W.out),(W.out,.list ((outl++fl tx).map .str))]++([(W.dt,.list [])]++tab)) T.cls (.name .z) (.q4) (.q5) (by rw [Wr.attrs_names]; decide +kernel) (T.meth (i:=3) (by kernel_rfl)).1 (T.meth (i:=3) (by kernel_rfl)).2 (Zar (by kernel_rfl)) (.cons (.name (.q1)) .nil) (Zht T hok.plain).calls (by (apply Wle;assumption;rfl)) ?_) ?_)) .int (by decide) rfl) (by (apply Wls;assumption;rfl))) (.cons .str .nil))) (by unfold Zaz at hcl; (apply Wls;assumption;rfl))) (.q3) (.q3) ?_) ?_
 ·exact hperm
 ·intro d O' hq0
  refine E12 hq0 λ U'' Y1 e3=>?_
  try clear hq0
  refine E02 Y1 λ e1 e2=>?_
  clear Y1
  subst e2; subst e3
  exact ⟨_,hperm.symm,e1,rfl⟩
 ·rw [List.length_map,List.length_append]; exact Wn [_,_] (.a (.v 0) (.v 1)) (.n 16777216) [(1,.v 1,.n 1),(1,.v 0,.n 9000)] rfl hfl hz.2.2
 refine .expr (.pop (d:=.bool false) (.at T (.name .z) (.q4) (.q5) (.nth 12 rfl) rfl) (.q1) (by simp) (.q1) (by simp; exact Wn [_] (.a (.v 0) (.n 1)) (.n 16777216) [(1,.v 0,.n 1000)] rfl hz.1)) ?_
 rw [List.dropLast_concat]
 refine Run.setAttr0 (x:=W.x) T.cls (Ev.cmp (.lenList (.bn T.T I rfl) (.at T (.name .z) (.q4) (.q5) (.nth 12 rfl) rfl) (.q1) (by exact Wn [_] (.v 0) (.n 16777216) [(1,.v 0,.n 1000)] rfl hz.1)) (.intN 1) .eqN) (T.noA (by kernel_rfl)) (Zar (by kernel_rfl)) ?_
 refine ⟨.name .z,W.dx,W.attrs true done,W.attrs true (psl.length==1),_,.q4,.q5,?_,(APut.nth 15 rfl (by rw [Wr.attrs_names]; exact Zgq):APut (W.attrs true done) "_root_done" (.bool (psl.length==1)) (W.attrs true (psl.length==1))),.q5,?_⟩
 ·show 17≤_; exact Wlb rfl
 have hdecl:(D.ref W.n0::(rs++[nn]).map D.ref)=(.ref W.n0::rs.map D.ref)++[D.ref nn]:=by simp
 rw [hdecl]
 refine .exprDrop (.pop (d:=.ref nn) (.at T (.name .z) (.q4) (.q5) (.nth 9 rfl) rfl) (.q6) (by simp) (.q6) (by simp; exact Wn [_] (.a (.a (.v 0) (.n 1)) (.n 1)) (.n 16777216) [(1,.v 0,.n 1000)] rfl hr)) ?_
 refine ex0 ?_
 rw [List.dropLast_concat]
 refine .exprDrop (.pop (d:=.ref r) (.at T (.name .z) (.q4) (.q5) (.nth 10 rfl) rfl) (.z) (by simp) (.z) (by simp; exact Wn [_] (.a (.v 0) (.n 1)) (.n 16777216) [(1,.v 0,.n 1000)] rfl hz.2.1)) ?_
 refine ex0 ?_
 rw [List.dropLast_concat]
 have hout:(outl++fl tx).map D.str++[D.str (catS Str.empty ["</",tag, ">"])]=(outl++fl tx++[Zaz tag]).map D.str:=by
  rw [List.map_append (l₁:=outl++fl tx)]; rfl
 rw [hout]
 refine .nil λ s S=>hE _ _ ⟨wU T.K W nsl psl (outl++fl tx++[Zaz tag]) [] true (psl.length==1) rs tab,_,_,⟨rfl,_,rfl⟩,S,?_,?_⟩
 ·rw [Zkg]
  intro p hp
  unfold wU at hp
  rcases List.mem_append.mp hp with hp | hp
  ·exact List.mem_append_left (bs:=tab++(rsL rs++[(nn,.list [])])) hp
  ·refine List.mem_append_right (as:=[(W.nss,_),(W.ps,_),(W.wr,_),(W.out,_),(W.x,_),(W.dx,_),(W.decl,_),(W.n0,_),(W.dt,_)]) ?_
   rcases List.mem_append.mp hp with hp | hp
   ·exact List.mem_append_left _ hp
   ·exact List.mem_append_right _ (List.mem_append_left _ hp)
 ·have hn:=S.ond
  rw [Zkg] at hn
  refine hn.sublist (List.Sublist.map _ ?_)
  exact (List.Sublist.refl [(W.nss,_),(W.ps,_),(W.wr,_),(W.out,_),(W.x,_),(W.dx,_),(W.decl,_),(W.n0,_),(W.dt,_)]).append ((List.Sublist.refl tab).append (List.sublist_append_left _ _))
end
section
open PySem PySem.Builtin PySem.W PySem.Calls PyProof.Rows
set_option maxRecDepth 100000
set_option maxHeartbeats 2000000
variable {B:Bs} {C:Cx B} {σ σ':Loc} {O O':Led}
theorem APut.app:∀ {es:List (Str × D)} {n:Str} {d:D},n ∉ es.map (·.1)→APut es n d (es++[(n,d)])
 | [],_,_,_=>.new
 | p::r,n,d,h=>by
  rw [List.map_cons,List.mem_cons,not_or] at h
  exact .u (Ne.symm h.1) (APut.app h.2)
theorem EvX.list1 {e:Expr} {pos:Pos} {P P':D→Led→Prop} (he:EvX C σ O e P) (h:∀ d O₁ a,P d O₁→P' (.ref a) ((a,.list [d])::O₁)) (hs:autoParam (Zac [e]=true) tR):EvX C σ O (.List [e] pos) P':=λ s S Q hQ=>by
 refine wpAny_List_spliced ?_
 rw [(Zaa hs).1]
 refine spliced_cons (he s S _ λ v s₁ d O₁ p t₁ S₁ hv=>spliced_nil ⟨by show 1≤sizeLine; decide +kernel,?_⟩)
 have x:Eff [] s₁ { s₁ with heap:=s₁.heap.push { cls:=.type "list",data:=.seq [v].toArray } }:=Eff.push _
 exact hQ _ _ _ _ (h d O₁ _ p) (t₁.trans x.tk) (S₁.new x (Nat.le_refl _) ⟨[v].toArray,⟨0,Heap.get?_push_size _ rfl⟩,⟨v,[],rfl,hv.tk x.tk,rfl⟩⟩) rfl
theorem EvX.appendV {oe:Expr} {pos:Pos} {l:Addr} {ds:List D} (ho:Ev C σ O oe (.ref l)) (ha:OAt O l (.list ds))
  (he:autoParam (eval (.Attribute oe "append" pos) C.env=(do
   let o ← eval oe C.env
   standAt pos.atName
   let r ← holding [o] (getAttr o "append" true)
   letTemporaryGo oe o r
   pure r)) tW) :
  EvX C σ O (.Attribute oe "append" pos) λ d O'=>∃ q,d = .ref q∧O'=(q,.is λ o=>o.cls = .type "builtin_function_or_method" ∧ o.data = .fields #[.builtin "list.append",.ref l])::O:=λ s S Q hQ=>by
 refine Attribute_any_ (ho s S _ λ v s₁ t₁ S₁ hv=>?_) he
 have hh:v = .ref l:=hv; subst hh
 refine E12 (S₁.objs _ ha.mem) λ items Y1 hvs=>?_
 refine E11 Y1 λ n e=>?_
 clear Y1
 refine Ziu e λ k=>?_
 have X:Eff [] s₁ { s₁ with heap:=s₁.heap.push { cls:=.type "builtin_function_or_method",data:=.fields #[.builtin "list.append",.ref l] },toks:=k }:=Eff.push _
 exact hQ (.ref s₁.heap.objs.size) _ (.ref s₁.heap.objs.size) _ ⟨_,rfl,rfl⟩ (t₁.trans X.tk) (S₁.new X (Nat.le_refl _) ⟨_,Heap.get?_push_size _ rfl,⟨rfl,rfl⟩,Zbf rfl⟩) rfl
theorem Ev.listItems {fe ge:Expr} {apos ipos pos:Pos} {d:Addr} (hf:Ev C σ O fe (.val (.type "list"))) (hg:Ev C σ O ge (.ref d)) (hd:d ≠ sysModules) (hm:∀ h,B.G h→∃ kvs,h.DictOf (Zfj B) d kvs∧kvs.length≤100)
  (hline:autoParam ((apos.endLine==ipos.line)=true) tR)
  (hbase:autoParam (attributeBase ge (Str.ofString "items") C.env (eval ge C.env)=eval ge C.env) tR)
  (hfew:autoParam (((backTo ipos (starEach [] C.env)).all (λ x=>!x.1)&&(backToKw ipos (keywordEach [] C.env)).all (λ x=>x.1.isSome)
   && decide (([]:List Expr).length+([]:List Keyword).length+(if ([]:List Keyword).isEmpty then 0 else 1) < 30))=true) tR)
  (he:autoParam (eval (.Call fe [.Call (.Attribute ge (Str.ofString "items") apos) [] [] ipos] [] pos) C.env=(do callWith pos (← eval fe C.env) [] (backTo pos (starEach [.Call (.Attribute ge (Str.ofString "items") apos) [] [] ipos] C.env)) (backToKw pos (keywordEach [] C.env)))) tR) :
  EvX C σ O (.Call fe [.Call (.Attribute ge (Str.ofString "items") apos) [] [] ipos] [] pos) λ r O'=>∃ a,r = .ref a∧O'=O:=λ s S Q hQ=>by
 have hzl:sizeLine=16777216:=by decide +kernel
 have lo:(d==sysModules)=false:=beq_eq_false_iff_ne.mpr hd
 refine Call_ (hf s S _ λ v s₁ t₁ S₁ hv=>?_) he
 have hh:v = .type "list" := hv; subst hh
 refine PyProof.Rows.callWith_type1 (spliced_cons ?_)
 refine wpAny_Call_method hbase hfew hline F.plainAttrs_dict F.slot_dict_items F.type_dict_items (hg s₁ S₁ _ λ u s₂ t₂ S₂ hu=>?_)
 have hh:u = .ref d:=hu; subst hh
 refine E12 (hm _ S₂.top) λ kvs hmm hl=>?_
 refine ⟨hmm.typeIs,λ a e=>?_,callWith_builtin rfl (Zbh rfl (spliced_nil ?_))⟩
 ·cases e
  refine E33 hmm λ o _ _ ho hx _=>?_
  try clear hmm
  exact ⟨o,ho,hx.2.1⟩
 refine call_meetsIn F.slot_dict_items hmm.typeIs F.entry_dict_items (F.args_dict_items_1 _) (meets_dict_items (Zfj B) d lo) ⟨⟨kvs,hmm⟩,?_⟩
 have X:Eff [] s₂ { s₂ with heap:=s₂.heap.push { cls:=.type "dict_items",data:=.fields #[.ref d] } }:=Eff.push _
 have S₃:=S₂.ext X
 have hv₃:(s₂.heap.push { cls:=.type "dict_items",data:=.fields #[.ref d] }).IsItemsView s₂.heap.objs.size d:=⟨_,Heap.get?_push_size _ rfl,rfl,rfl⟩
 refine E11 ((hmm.push { cls:=.type "dict_items",data:=.fields #[.ref d] }).dictAt) λ ep hat=>?_
 refine spliced_nil ?_
 refine kdx_call C.room.handled hv₃ hat (by (apply Wls;assumption;rfl)) λ h' tk acc c as k hS hal hG hacc=>?_
 have X₂:Eff [] { s₂ with heap:=s₂.heap.push { cls:=.type "dict_items",data:=.fields #[.ref d] } } { s₂ with heap:=h',toks:=tk }:=.ext k
 exact hQ _ _ (.ref _) _ ⟨_,rfl,rfl⟩ (((t₁.trans t₂).trans X.tk).trans X₂.tk) (S₃.ext X₂) rfl
end
section
open PySem PySem.Builtin PySem.W PySem.Calls PyProof.Rows
set_option maxRecDepth 100000
set_option maxHeartbeats 2000000
section
variable {prog:Program} {w:World} {A:Around} {E:Value→Shared→Prop} {h:Heap} {g:Array GenState} {d:Drawn} {t:Nat} {os:OsState}
variable {nm q:Str} {C N:Addr} {bs:List Value} {sn:List Str} {sub:List Value} {col:Option Bool} {dd:Option Addr} {k0 k1 k2 k3 k5:Option Value} {newId:String}
noncomputable abbrev Zcr (h:Heap) (C:Addr):Heap:=(h.push { cls:=.type "dict",data:=.dict #[] }).push { cls:=.ref C,dict:=some h.objs.size,data:=.plain }
theorem Zcx {h:Heap} {C b:Addr} {o:Obj} (e:h.get? b=some o):(Zcr h C).get? b=some o:=Heap.get?_push_of_some _ (Heap.get?_push_of_some _ e)
theorem Zle (h:Heap) (C:Addr):(Zcr h C).get? (h.objs.size+1)=some { cls:=.ref C,dict:=some h.objs.size,data:=.plain }:=
 (show (h.push { cls:=.type "dict",data:=.dict #[] }).objs.size=h.objs.size+1 from Heap.size_push ..) ▸ Heap.get?_push_size _ rfl
theorem withObj_d (h:Heap) (C:Addr):(Zcr h C).get? h.objs.size=some { cls:=.type "dict",data:=.dict #[] }:=Heap.get?_push_of_some _ (Heap.get?_push_size _ rfl)
theorem obj_init_lk:typeLookup (.type "object") "__init__" = pure (some (.builtin "object.__init__")):=by rw [typeLookup_type,builtinLookup_eq_fast]; kernel_rfl
theorem call_made {mN:Str→Option Value} {fA:Addr} {oI:Obj} {v:Value} {Q:PySem.Fin→Shared→Prop}
  (hC:h.get? C=some (excClassObj nm q C N bs [.type "object"] true sn sub false col dd k0 k1 k2 k3 k5 "object.__new__")) (hn:h.Ns N mN) (hi:mN "__init__" = some (.ref fA)) (hf:h.get? fA=some oI) (hc:oI.cls = .type "function")
  (hq:wpAny (model prog w) A (PySem.call (.ref fA) [.ref (h.objs.size+1),v]) (λ r s'=>r = .none∧Q (.done (.ret (.ref (h.objs.size+1)))) s') E ⟨Zcr h C,g,d,t,os⟩) :
  wpAny (model prog w) A (Builtin.«type.__call__» ⟨[.ref C,v],[]⟩) Q E ⟨h,g,d,t,os⟩:=by
 have hm:(Value.ref C::[Value.type "object"]).contains (.ref C)=true:=by simp
 have C₁:=Zcx (C:=C) hC
 have N₁:(Zcr h C).Ns N mN:=hn.keeps λ b o e=>Zcx e
 have x₁:=Zle h C
 have f₁:=Zcx (C:=C) hf
 repeat (first | with_reducible refine wpAny_loadPart_at hC ?_ | with_reducible refine wpAny_madeBy_exc hC ?_ | wp_step)
 refine codeAny_call_builtin_code (Code.quiet_builtin _ F.objNew.quiet) (wpAny_check_obj_new F.objNew hC (codeAny_obj_new F.objNew hC hn hi ?_))
 dsimp only
 generalize hw:(Zcr h C)=H at hq C₁ N₁ x₁ f₁
 show wpAny _ _ _ _ _ ⟨Zcr h C,g,d,t,os⟩
 rw [hw]
 unfold isInstance
 repeat (first | with_reducible refine wpAny_loadPart_at x₁ ?_ | (with_reducible refine wpAny_isSubtype_exc C₁ ?_; rw [hm]) | wp_step)
 show wpAny _ _ (typeLookup (.ref C) _) _ _ _
 refine wpAny_typeLookup_exc C₁ N₁ F.mro_object obj_init_lk ?_
 rw [hi]
 refine wpAny_holding (wpAny_bind ?_)
 unfold bindSpecial
 refine wpAny_bind (wpAny_typeOf (T := "function") ⟨_,f₁,hc⟩ ?_)
 rw [if_pos (by decide)]
 refine wpAny_pure (wpAny_bind (wpAny_mono hq (λ r s' hr=>?_) λ _ _ e=>e))
 rw [hr.1]
 have:=hr.2
 wp_walk
 exact this
end
variable {B:Bs} {C:Cx B} {σ σ':Loc} {O O':Led}
theorem EvX.new {fe e:Expr} {pos:Pos} {K N fI:Addr} {mN:Str→Option Value} {n:Nat} {P P':D→Led→Prop} (c:Zim B K N mN) (hf:Ev C σ O fe (.ref K)) (he:EvX C σ O e P) (hi:mN "__init__" = some (.ref fI)) (hfun:Zix B fI) (hn:n+1≤C.n)
  (h:∀ d O₁ x dx,P d O₁→∃ Q',Calls B n (.ref fI) [.ref x,d] [(x,.obj K dx),(dx,.attrs [])] Q'∧∀ r U',Q' r U'→r = .none∧P' (.ref x) (U'++O₁))
  (hs:autoParam (Zac [e]=true) tR)
  (hev:autoParam (eval (.Call fe [e] [] pos) C.env=(do callWith pos (← eval fe C.env) [] (backTo pos (starEach [e] C.env)) (backToKw pos (keywordEach [] C.env)))) tR):EvX C σ O (.Call fe [e] [] pos) P':=λ s S Q hQ=>by
 refine Call_ (hf s S _ λ v s₁ t₁ S₁ hv=>?_) hev
 have hh:v = .ref K:=hv; subst hh
 rw [(Zaa hs).1]
 unfold callWith
 refine wpAny_bind (wpAny_holding (Calls.evalArgs_plain (spliced_cons (he s₁ S₁ _ λ u s₂ d O₁ p t₂ S₂ hu=>spliced_nil ?_))))
 obtain ⟨nm,q,bs,sn,sub,col,dd,k0,k1,k2,k3,k5,hK⟩:=c.at_
 have hC:=hK _ S₂.top
 have hN:=c.ns _ S₂.top
 refine E23 hfun λ of fd hdat hcls hfo=>?_
 try clear hfun
 have hst:((backTo pos ((false,eval e C.env)::starEach [] C.env)).any (λ x=>x.fst) || ([]:List (Option Str × Sem Value)).any λ x=>x.fst.isNone)=false:=rfl
 have go:C.wp (PySem.call (.ref K) [u] []) Q s₂:=by
  have hS:=S₂
  have hu':=hu
  obtain ⟨hh,g,dr,t,os⟩:=s₂
  have f1:=tc_lookup
  have f2:=tc_bind (.ref K)
  have hT:(⟨hh,g,dr,t,os⟩:Shared).TypeIs (.ref K) "type" := ⟨_,hC,rfl⟩
  refine wpAny_call (codeAny_of_tree ?_)
  show wpAny _ _ (callAny (.ref K) _) _ _ _
  repeat (any_goals (first | assumption | with_reducible refine wpAny_loadPart_at hC ?_ | wp_step))
  refine ⟨rfl,codeAny_call_builtin_at (Code.quiet_builtin _ (by kernel_rfl)) entry_typeCall (wpAny_check_type_call_sub hC (call_made hC hN hi (hfo _ S₂.top) hcls ?_))⟩
  have hx:=Zle hh K
  have hd:=withObj_d hh K
  have keeps:∀ b o,hh.get? b=some o→(Zcr hh K).get? b=some o:=λ b o e=>Zcx e
  have grows:hh.objs.size≤(Zcr hh K).objs.size:=by simp only [Heap.size_push]; exact Wn [_] (.v 0) (.a (.a (.v 0) (.n 1)) (.n 1)) [] rfl
  have hnsd:(Zcr hh K).Ns1 hh.objs.size λ _=>none:=Heap.Ns1.of_empty ⟨_,#[],_,hd,rfl,λ e he=>absurd he (by simp),λ _=>rfl⟩
  generalize Zcr hh K=h' at hx hd keeps grows hnsd ⊢
  obtain ⟨x,ex⟩:∃ x,x=hh.objs.size+1:=⟨_,rfl⟩
  obtain ⟨dx,ed⟩:∃ dx,dx=hh.objs.size:=⟨_,rfl⟩
  rw [← ex] at hx ⊢
  have hne:dx ≠ x:=by rw [ed,ex]; exact Nat.ne_of_lt (Nat.lt_succ_self _)
  have X:Eff [] (⟨hh,g,dr,t,os⟩:Shared) ⟨h',g,dr,t,os⟩:=.ext keeps
  have S₃:St C σ O₁ (⟨h',g,dr,t,os⟩:Shared):=hS.ext X
  refine E12 (h d O₁ x dx p) λ Q' hc hP'=>?_
  have room:Room (C.A.under (.builtin "type.__call__" ⟨.ref K::[u],[]⟩)) n:=by
   obtain ⟨a,b,cc⟩:=C.room
   exact ⟨by show C.A.depth+1+n < _; exact Wn [_,_,_,_] (.a (.a (.a (.v 0) (.n 1)) (.v 1)) (.n 1)) (.v 2) [(1,.a (.a (.v 0) (.v 3)) (.n 1),.v 2),(1,.a (.v 1) (.n 1),.v 3)] rfl a hn,by show C.A.units+1+8 * n < _; exact Wn [_,_,_,_] (.a (.a (.a (.v 0) (.n 1)) (.m 8 (.v 1))) (.n 1)) (.v 2) [(1,.a (.a (.v 0) (.m 8 (.v 3))) (.n 1),.v 2),(8,.a (.v 1) (.n 1),.v 3)] rfl b hn,cc⟩
  refine hc _ _ [.ref x,u] _ room S₃.top (Nat.le_trans C.low S₃.bsize) (λ z hz=>?_) ?_ (λ z hz=>?_) ⟨_,_,rfl,rfl,_,_,rfl,hu'.tk X.tk,rfl⟩ λ r s₄ dr' U' hq X₄ h₄ nd₄ fr₄ hr₄=>?_
  ·rcases List.mem_cons.mp hz with rfl | hz
   ·exact ⟨_,hx,rfl,λ k=>by simp,by rw [ed]⟩
   ·rw [List.mem_singleton.mp hz]
    exact ⟨_,by rw [ed]; exact hnsd,λ y hy=>absurd rfl hy,List.nodup_nil,trivial⟩
  ·simp [hne.symm]
  ·have lz:B.T≤hh.objs.size:=Nat.le_trans C.low S₂.bsize
   rcases List.mem_cons.mp hz with rfl | hz
   ·exact Bs.notOld (by rw [ex]; exact Nat.le_succ_of_le lz)
   ·rw [List.mem_singleton.mp hz]
    exact Bs.notOld (by rw [ed]; exact lz)
  ·refine E02 (hP' dr' U' hq) λ er hP''=>?_
   subst er
   refine ⟨hr₄,?_⟩
   have Y:Eff [] (⟨hh,g,dr,t,os⟩:Shared) s₄:=⟨λ b o _ e=>X₄.keep b o (λ hb=>?_) (keeps b o e),X.tk.trans X₄.tk,X₄.os,X₄.gens⟩
   ·have S₄:=hS.called (U:=[]) (U':=U') (R:=O₁) (λ _ h=>nomatch h) (λ p hp=>⟨hp,λ h=>nomatch h⟩) hS.ond Y h₄ nd₄ (λ p hp=>.inr ?_)
    ·exact hQ (.ref x) s₄ (.ref x) _ hP'' ((t₁.trans t₂).trans Y.tk) S₄ rfl
    ·rcases fr₄ p hp with q | q
     ·simp only [List.map_cons,List.map_nil,List.mem_cons,List.not_mem_nil,or_false] at q
      rcases q with q | q <;> rw [q]
      ·rw [ex]; exact Nat.le_succ _
      ·rw [ed]; exact Nat.le_refl _
     ·exact Nat.le_trans grows q
   ·have:=Heap.lt_size e
    simp only [List.map_cons,List.map_nil,List.mem_cons,List.not_mem_nil,or_false] at hb
    rcases hb with q | q <;> rw [q] at this
    ·rw [ex] at this; exact Nat.lt_irrefl _ (Nat.lt_of_succ_lt this)
    ·rw [ed] at this; exact Nat.lt_irrefl _ this
 generalize hcl : @PySem.call=cl at go ⊢
 have f1:=tc_lookup
 obtain ⟨hh,g,dr,t,os⟩:=s₂
 have hT:(⟨hh,g,dr,t,os⟩:Shared).TypeIs (.ref K) "type" := ⟨_,hC,rfl⟩
 refine wpAny_bind (wpAny_standAt ?_)
 show wpAny _ _ (keeperOf (.ref K) >>= _) _ _ _
 unfold keeperOf specialOf
 repeat (any_goals (first | assumption | with_reducible refine wpAny_loadPart_at hC ?_ | with_reducible refine wpAny_load' hC ?_ | wp_step))
 exact wpAny_mono go (λ r s' hr=>wpAny_bind (wpAny_holding (wpAny_point (wpAny_pure hr)))) λ _ _ x=>x
end
section
set_option maxRecDepth 100000
set_option maxHeartbeats 4000000
variable {B:Bs} {C:Cx B} {σ σ':Loc} {O O':Led}
theorem if_f {c:Bool} {α : Type} {x y : α} (h:c=false):(if c=true then x else y)=y:=by rw [h]; rfl
theorem if_t {c:Bool} {α : Type} {x y : α} (h:c=true):(if c=true then x else y)=x:=by rw [h]; rfl
theorem init_binds (T:TopC B) {s:Shared} (hG:B.G s.heap) (cd pm a b:Value):BindsTo s (fdOf (mAt 0) "C14NWriterTarget.__init__" cd pm .none (.ref T.kwd)) ⟨[a,b],[]⟩
  [("self",a),("write",b),("with_comments",.bool false),("strip_text",.bool false),("rewrite_prefixes",.bool false),("qname_aware_tags",.none),("qname_aware_attrs",.none),("exclude_attrs",.none),("exclude_tags",.none)]:=by
 have hn:=T.kwN _ hG
 obtain ⟨h1,h2,h3,h4,h5,h6,h7⟩:=T.kwv
 intro M A E Q hq
 unfold bindArgs
 dsimp only [fdOf]
 have e1:List.map (λ x=>x.arg) (Zem (mAt 0)).posonlyargs=[]:=rfl
 have e2:List.map (λ x=>x.arg) (Zem (mAt 0)).args=(["self", "write"]:List Str):=rfl
 have e3:List.map (λ x=>x.arg) (Zem (mAt 0)).kwonlyargs=(["with_comments", "strip_text", "rewrite_prefixes", "qname_aware_tags", "qname_aware_attrs", "exclude_attrs", "exclude_tags"]:List Str):=rfl
 have e4:(Zem (mAt 0)).vararg=Option.none:=rfl
 have e5:(Zem (mAt 0)).kwarg=Option.none:=rfl
 simp only [e1,e2,e3,e4,e5,List.nil_append,List.zip_cons_cons,List.zip_nil_right]
 rw [List.forIn_nil]
 refine wpAny_bind (wpAny_pure ?_)
 dsimp only
 refine wpAny_bind (wpAny_of_eq (a:=Option.none) (by rfl) ?_)
 rw [if_f (by rfl),if_f (by rfl)]
 refine wpAny_bind (m:=forIn [] _ _) (wpAny_pure ?_)
 refine wpAny_bind ?_
 rw [List.forIn_cons]
 refine wpAny_bind ?_
 rw [if_t (by rfl)]
 refine wpAny_bind (wpAny_nsGet hn ?_)
 rw [h1]
 refine wpAny_pure ?_
 dsimp only
 rw [List.forIn_cons]
 refine wpAny_bind ?_
 rw [if_t (by rfl)]
 refine wpAny_bind (wpAny_nsGet hn ?_)
 rw [h2]
 refine wpAny_pure ?_
 dsimp only
 rw [List.forIn_cons]
 refine wpAny_bind ?_
 rw [if_t (by rfl)]
 refine wpAny_bind (wpAny_nsGet hn ?_)
 rw [h3]
 refine wpAny_pure ?_
 dsimp only
 rw [List.forIn_cons]
 refine wpAny_bind ?_
 rw [if_t (by rfl)]
 refine wpAny_bind (wpAny_nsGet hn ?_)
 rw [h4]
 refine wpAny_pure ?_
 dsimp only
 rw [List.forIn_cons]
 refine wpAny_bind ?_
 rw [if_t (by rfl)]
 refine wpAny_bind (wpAny_nsGet hn ?_)
 rw [h5]
 refine wpAny_pure ?_
 dsimp only
 rw [List.forIn_cons]
 refine wpAny_bind ?_
 rw [if_t (by rfl)]
 refine wpAny_bind (wpAny_nsGet hn ?_)
 rw [h6]
 refine wpAny_pure ?_
 dsimp only
 rw [List.forIn_cons]
 refine wpAny_bind ?_
 rw [if_t (by rfl)]
 refine wpAny_bind (wpAny_nsGet hn ?_)
 rw [h7]
 refine wpAny_pure ?_
 dsimp only
 rw [List.forIn_nil]
 refine wpAny_pure ?_
 dsimp only
 rw [if_f (by rfl)]
 exact wpAny_pure hq
theorem init_calls (T:TopC B) {x dx wr out:Addr}:Calls B 2 (.ref (T.mA 0)) [.ref x,.ref wr] [(x,.obj T.K dx),(dx,.attrs [])]
  λ d U'=>d = .none∧∃ dt decl n0 nss pm ps r1 r2,U'=[(ps,.list [.bool false]),(nss,.list [.ref r1,.ref r2]),(decl,.list [.ref n0]),(n0,.list [Zbj]),(dt,.list []),(x,.obj T.K dx),(dx,.attrs (Wr.attrs ⟨x,dx,wr,out,dt,decl,n0,nss,pm,ps⟩ false false))]:=by
 have hzz:sizeLine=16777216:=by decide +kernel
 refine .of_def T.def0 [("self",some (.ref x)),("write",some (.ref wr)),("with_comments",some (.bool false)),("strip_text",some (.bool false)),("rewrite_prefixes",some (.bool false)),("qname_aware_tags",some .none),("qname_aware_attrs",some .none),("exclude_attrs",some .none),("exclude_tags",some .none)] [] (λ _=>[]) (λ L=>rfl) (λ L=>rfl) ⟨⟨rfl,rfl⟩,rfl⟩
  (by show (["self", "write", "with_comments", "strip_text", "rewrite_prefixes", "qname_aware_tags", "qname_aware_attrs", "exclude_attrs", "exclude_tags"]:List Str).Nodup; decide +kernel) (by show ∀ x∈(["self", "write", "with_comments", "strip_text", "rewrite_prefixes", "qname_aware_tags", "qname_aware_attrs", "exclude_attrs", "exclude_tags"]:List Str),_; decide +kernel) .nil ?_ ?_
 ·intro cd pm s vs hG hq0
  refine E23 (Vals.two hq0) λ v u Y1 hv hu=>?_
  subst Y1
  refine ⟨_,init_binds T hG cd pm v u,?_,⟨⟨v,rfl,hv⟩,⟨u,rfl,hu⟩,⟨_,rfl,rfl⟩,⟨_,rfl,rfl⟩,⟨_,rfl,rfl⟩,⟨_,rfl,rfl⟩,⟨_,rfl,rfl⟩,⟨_,rfl,rfl⟩,⟨_,rfl,rfl⟩,trivial⟩,trivial⟩
  intro y hy
  simp only [List.mem_cons,List.not_mem_nil,or_false] at hy
  rcases hy with rfl | rfl | rfl | rfl | rfl | rfl | rfl | rfl | rfl <;> exact .inl rfl
 intro C I hn
 refine Run.kabs λ K hE=>?_
 show Run C _ [(x,.obj T.K dx),(dx,.attrs [])] _ _
 refine Run.setAttr0 (x:=x) T.cls ((.name (.q1))) (T.noA (by kernel_rfl)) (Zar (by kernel_rfl)) ?_
 refine ⟨.name .z,dx,_,_,_,.z,.q1,(show 0≤sizeLine by exact Wlb rfl),.app (show _ ∉ attrNames.take 0 from by decide +kernel),.q1,?_⟩
 refine Run.setAttr1 (x:=x) T.cls (EvX.list .nil) (T.noA (by kernel_rfl)) (Zar (by kernel_rfl)) λ dt=>?_
 refine ⟨.name .z,dx,_,_,_,.q1,.q2,(show 1≤sizeLine by exact Wlb rfl),.app (show _ ∉ attrNames.take 1 from by decide +kernel),.q2,?_⟩
 refine Run.setAttr0 (x:=x) T.cls ((.name (.q2))) (T.noA (by kernel_rfl)) (Zar (by kernel_rfl)) ?_
 refine ⟨.name .z,dx,_,_,_,.q1,.q2,(show 2≤sizeLine by exact Wlb rfl),.app (show _ ∉ attrNames.take 2 from by decide +kernel),.q2,?_⟩
 refine Run.setAttr0 (x:=x) T.cls ((.name (.q3))) (T.noA (by kernel_rfl)) (Zar (by kernel_rfl)) ?_
 refine ⟨.name .z,dx,_,_,_,.q1,.q2,(show 3≤sizeLine by exact Wlb rfl),.app (show _ ∉ attrNames.take 3 from by decide +kernel),.q2,?_⟩
 refine Run.setAttr0 (x:=x) T.cls ((.ifExp (b:=false) (.val (.name (.q7)) .none) (λ h=>nomatch h) λ _=>.none)) (T.noA (by kernel_rfl)) (Zar (by kernel_rfl)) ?_
 refine ⟨.name .z,dx,_,_,_,.q1,.q2,(show 4≤sizeLine by exact Wlb rfl),.app (show _ ∉ attrNames.take 4 from by decide +kernel),.q2,?_⟩
 refine Run.setAttr0 (x:=x) T.cls ((.ifExp (b:=false) (.val (.name (.q8)) .none) (λ h=>nomatch h) λ _=>.none)) (T.noA (by kernel_rfl)) (Zar (by kernel_rfl)) ?_
 refine ⟨.name .z,dx,_,_,_,.q1,.q2,(show 5≤sizeLine by exact Wlb rfl),.app (show _ ∉ attrNames.take 5 from by decide +kernel),.q2,?_⟩
 refine Run.setAttr0 (x:=x) T.cls ((.name (.q4))) (T.noA (by kernel_rfl)) (Zar (by kernel_rfl)) ?_
 refine ⟨.name .z,dx,_,_,_,.q1,.q2,(show 6≤sizeLine by exact Wlb rfl),.app (show _ ∉ attrNames.take 6 from by decide +kernel),.q2,?_⟩
 refine .ite (b:=false) (.val (.name (.q5)) .none) (λ h=>nomatch h) λ _=>?_
 refine Run.setAttr0 (x:=x) T.cls .none (T.noA (by kernel_rfl)) (Zar (by kernel_rfl)) ?_
 refine ⟨.name .z,dx,_,_,_,.q1,.q2,(show 7≤sizeLine by exact Wlb rfl),.app (show _ ∉ attrNames.take 7 from by decide +kernel),.q2,?_⟩
 refine .next ?_
 refine .ite (b:=false) (.val (.name (.q6)) .none) (λ h=>nomatch h) λ _=>?_
 refine Run.setAttr0 (x:=x) T.cls .none (T.noA (by kernel_rfl)) (Zar (by kernel_rfl)) ?_
 refine ⟨.name .z,dx,_,_,_,.q1,.q2,(show 8≤sizeLine by exact Wlb rfl),.app (show _ ∉ attrNames.take 8 from by decide +kernel),.q2,?_⟩
 refine .next ?_
 refine .setAttrX (x:=x) T.cls (EvX.list1 (P':=λ d O'=>∃ a n0,d = .ref a∧O'=(a,.list [.ref n0])::(n0,.list [Zbj])::_) (EvX.list (.cons (.tup (.cons .str (.cons .str .nil))) .nil)) (λ d O₁ a ⟨n0,e1,e2⟩=>⟨a,n0,rfl,by rw [e1,e2]; rfl⟩)) (T.noA (by kernel_rfl)) (Zar (by kernel_rfl)) ?_
 intro d O₁ hq0
 refine E22 hq0 λ decl n0 Y1 Y2=>?_
 try clear hq0
 subst Y1
 subst Y2
 refine ⟨.name .z,dx,_,_,_,.q3,.q4,(show 9≤sizeLine by exact Wlb rfl),.app (show _ ∉ attrNames.take 9 from by decide +kernel),.q4,?_⟩
 refine Run.setAttr1 (x:=x) T.cls (EvX.list .nil) (T.noA (by kernel_rfl)) (Zar (by kernel_rfl)) λ nss=>?_
 refine ⟨.name .z,dx,_,_,_,.q4,.q5,(show 10≤sizeLine by exact Wlb rfl),.app (show _ ∉ attrNames.take 10 from by decide +kernel),.q5,?_⟩
 refine .ite (b:=true) (.cast (.not (.val (.name (.q4)) .bool)) rfl) (λ _=>?_) (λ h=>nomatch h)
 refine .exprX (.appendX (P':=λ d O'=>∃ r1,d=D.none∧O'=(nss,.list [.ref r1])::[(decl,.list [.ref n0]),(n0,.list [Zbj]),(dt,.list []),(x,.obj T.K dx),(dx,.attrs ((Wr.attrs ⟨x,dx,wr,out,dt,decl,n0,nss,x,x⟩ false false).take 11))]) (.at T (.name .z) (.q4) (.q5) (.nth 10 rfl) rfl) (.z) (Ev.listItems (.bn T.T I rfl) (.glob (I.kinds rfl) T.nsG λ _ _=>rfl) T.nsNe T.nsD) ?_) ?_ ?_
 ·refine ex1 λ r1=>?_
  exact ⟨_,_,.z,.z,Nat.zero_le _,r1,rfl,rfl⟩
 rotate_left
 ·intro d O' hq0
  refine E12 hq0 λ r1 Y1 _=>?_
  try clear hq0
  subst Y1; rfl
 refine ex1 λ r1=>?_
 refine .next ?_
 refine .exprX (.appendX (P':=λ d O'=>∃ r2,d=D.none∧O'=(r2,.list [])::(nss,.list [.ref r1,.ref r2])::[(decl,.list [.ref n0]),(n0,.list [Zbj]),(dt,.list []),(x,.obj T.K dx),(dx,.attrs ((Wr.attrs ⟨x,dx,wr,out,dt,decl,n0,nss,x,x⟩ false false).take 11))]) (.at T (.name .z) (.q4) (.q5) (.nth 10 rfl) rfl) (.z) (EvX.list .nil) ?_) ?_ ?_
 ·refine ex1 λ r2=>?_
  exact ⟨_,_,.q1,.q1,(show 1≤sizeLine by exact Wlb rfl),r2,rfl,rfl⟩
 rotate_left
 ·intro d O' hq0
  refine E12 hq0 λ r2 Y1 _=>?_
  try clear hq0
  subst Y1; rfl
 refine ex1 λ r2=>?_
 refine Run.setAttr1 (x:=x) T.cls (EvX.dict0) (T.noA (by kernel_rfl)) (Zar (by kernel_rfl)) λ pm=>?_
 refine ⟨.name .z,dx,_,_,_,.q6,.q7,(show 11≤sizeLine by exact Wlb rfl),.app (show _ ∉ attrNames.take 11 from by decide +kernel),.q7,?_⟩
 refine Run.setAttr1 (x:=x) T.cls (EvX.list (.cons .bool .nil)) (T.noA (by kernel_rfl)) (Zar (by kernel_rfl)) λ ps=>?_
 refine ⟨.name .z,dx,_,_,_,.q7,.q8,(show 12≤sizeLine by exact Wlb rfl),.app (show _ ∉ attrNames.take 12 from by decide +kernel),.q8,?_⟩
 refine Run.setAttr0 (x:=x) T.cls .none (T.noA (by kernel_rfl)) (Zar (by kernel_rfl)) ?_
 refine ⟨.name .z,dx,_,_,_,.q7,.q8,(show 13≤sizeLine by exact Wlb rfl),.app (show _ ∉ attrNames.take 13 from by decide +kernel),.q8,?_⟩
 refine Run.setAttr0 (x:=x) T.cls .bool (T.noA (by kernel_rfl)) (Zar (by kernel_rfl)) ?_
 refine ⟨.name .z,dx,_,_,_,.q7,.q8,(show 14≤sizeLine by exact Wlb rfl),.app (show _ ∉ attrNames.take 14 from by decide +kernel),.q8,?_⟩
 refine Run.setAttr0 (x:=x) T.cls .bool (T.noA (by kernel_rfl)) (Zar (by kernel_rfl)) ?_
 refine ⟨.name .z,dx,_,_,_,.q7,.q8,(show 15≤sizeLine by exact Wlb rfl),.app (show _ ∉ attrNames.take 15 from by decide +kernel),.q8,?_⟩
 refine Run.setAttr0 (x:=x) T.cls .int (T.noA (by kernel_rfl)) (Zar (by kernel_rfl)) ?_
 refine ⟨.name .z,dx,_,_,_,.q7,.q8,(show 16≤sizeLine by exact Wlb rfl),.app (show _ ∉ attrNames.take 16 from by decide +kernel),.q8,?_⟩
 refine .nil λ s S=>hE _ _ ⟨_,_,_,⟨rfl,dt,decl,n0,nss,pm,ps,r1,r2,rfl⟩,S,?_,?_⟩
 ·exact λ p hp=>(List.Sublist.cons_cons _ (.cons _ (.cons _ (.refl _)))).subset hp
 ·exact S.ond.sublist ((List.Sublist.cons_cons _ (.cons _ (.cons _ (.refl _)))).map _)
end
section
open PySem PySem.Builtin PySem.W PySem.Calls PyProof.Rows
set_option maxRecDepth 100000
set_option maxHeartbeats 2000000
variable {B:Bs} {C:Cx B} {σ σ':Loc} {O O':Led}
theorem stored_new {kvs:List (Str × Value)} {k:Str} {v:Value} (h:k ∉ kvs.map (·.1)):stored kvs k v=kvs++[(k,v)]:=by
 unfold stored
 rw [if_neg]
 simp only [List.any_eq_true,decide_eq_true_eq,not_exists,not_and]
 exact λ x hx hxe=>h (List.mem_map.mpr ⟨x,hx,hxe⟩)
theorem Run.dset {oe ie e:Expr} {p pos:Pos} {rest:List Stmt} {a:Addr} {es:List (Str × D)} {x:Str} {d:D} {K:Flow→Shared→Prop} (he:Ev C σ O e d) (ho:Ev C σ O oe (.ref a)) (hi:Ev C σ O ie (.str x)) (ha:OAt O a (.dict es)) (hx:x ∉ es.map (·.1)) (hz:es.length≤1000)
  (hp:OPut O a (.dict (es++[(x,d)])) O') (h:Run C σ O' rest K)
  (hs:autoParam (swapsWith e (some (.Subscript oe ie p)) pos.line C.env=pure false) tR):Run C σ O (.Assign [.Subscript oe ie p] e pos::rest) K:=Run.cons λ s S=>by
 have hzl:sizeLine=16777216:=by decide +kernel
 refine wpAny_Assign_Subscript (he s S _ λ v s₁ t₁ S₁ hv=>ho s₁ S₁ _ λ ov s₂ t₂ S₂ hov=>hi s₂ S₂ _ λ iv s₃ t₃ S₃ hiv=>?_) hs
 have hh:ov = .ref a:=hov; subst hh
 refine E11 hiv λ t Y1=>?_
 try clear hiv
 subst Y1
 refine E13 (S₃.objs _ ha.mem) λ kvs hm hk hvals=>?_
 have hl:kvs.length=es.length:=by
  have:=congrArg List.length hk
  simpa using this
 refine wpAny_setItem_pairs (hsz:=by exact Wn [_,_] (.v 0) (.n 16777216) [(1,.v 0,.v 1),(1,.v 1,.n 1000)] rfl (We hl) hz) (beq_self_eq_true x) hm λ h' hm' hs'=>h _ ?_
 have X:Eff [a] s₃ { s₃ with heap:=h',toks:=s₃.toks+1 }:=.but hs' λ vs=>ShAt.noTup (S₃.objs _ ha.mem) vs
 have hno:x ∉ kvs.map (·.1):=by
  have:kvs.map (·.1)=es.map (·.1):=hk
  rw [this]; exact hx
 rw [stored_new hno] at hm'
 refine S₃.put hp X ⟨_,hm',?_,?_⟩
 ·have:kvs.map (·.1)=es.map (·.1):=hk
  rw [List.map_append,List.map_append,this]; rfl
 ·rw [List.map_append,List.map_append]
  exact (hvals.tk X.tk).snoc (((hv.tk t₂).tk t₃).tk X.tk)
end
section
set_option maxRecDepth 100000
set_option maxHeartbeats 4000000
variable {B:Bs} {C:Cx B} {σ σ':Loc} {O O':Led}
theorem exC2 {α : Type} {d₀:D} {g : α→Led} {R₀:Led} {R:D→Led→Prop} (h:∀ a,R d₀ (g a++R₀)):∀ d O',(∃ U',(d=d₀∧∃ a,U'=g a)∧O'=U'++R₀)→R d O':=by
 intro d O' hq0
 refine E12 hq0 λ U' Y1 Y2=>?_
 try clear hq0
 subst Y2
 refine E02 Y1 λ Y3 Y4=>?_
 clear Y1
 subst Y3
 refine E11 Y4 λ a Y5=>?_
 clear Y4
 subst Y5; exact h a
noncomputable def Zam (first s:Nat):List Str:=if s &&& 15=0 then [] else Txt.split (Zap ((s &&& 15) <<< first)) ", "
structure WsOk (ws:List Str):Prop where
 len:ws.length≤4
 nd:((Str.ofString "e")::ws).Nodup
 ok:∀ q∈(Str.ofString "e")::ws,Zgs q
 sp:Zck ∉ ws
noncomputable def Zca (first:Nat) (st:Nat × List Str) (s:Nat):Nat × List Str:=
 if s=0 then (st.1 - 1,st.2++[Zaz "e"])
 else if 256≤s then (st.1+1,st.2++Zag "e" (Zam first s))
 else (st.1,st.2++Zag "e" (Zam first s)++[Zaz "e"])
noncomputable def Zaj (first:Nat) (syms:List Nat) (j:Nat):Nat × List Str:=(syms.take j).foldl (Zca first) (0,[])
theorem Zhm {first:Nat} {syms:List Nat} {j s:Nat} (h:syms[j]? = some s):Zaj first syms (j+1)=Zca first (Zaj first syms j) s:=by
 unfold Zaj
 rw [List.take_add_one,h,List.foldl_append]; rfl
theorem Zfg (tag:Str) (ws:List Str):(Zag tag ws).length≤3:=by
 unfold Zag; split <;> simp
theorem Zfu (first:Nat) (syms:List Nat):∀ j,(Zaj first syms j).1≤j∧(Zaj first syms j).2.length≤4 * j
 | 0=>by simp [Zaj]
 | j+1=>by
  refine E02 (Zfu first syms j) λ h1 h2=>?_
  cases h:syms[j]? with
  | none=>
   have:Zaj first syms (j+1)=Zaj first syms j:=by
    unfold Zaj; rw [List.take_add_one,h]; simp
   rw [this]; lia
  | some s=>
   rw [Zhm h]
   unfold Zca
   have h3:=Zfg "e" (Zam first s)
   split
   ·simp only [List.length_append,List.length_cons,List.length_nil]; lia
   split
   ·simp only [List.length_append]; lia
   ·simp only [List.length_append,List.length_cons,List.length_nil]; lia
structure TellOk (first:Nat) (syms:List Nat) (n:Nat):Prop where
 f28:first≤28
 n200:n≤200
 len:syms.length=n+1
 small:∀ s∈syms,s < 512
 ws:∀ s∈syms,WsOk (Zam first s)
 go:∀ j s,j < n→syms[j]? = some s→¬ ((Zaj first syms j).1=1∧s=0)
 pop:∀ j s,j < n→syms[j]? = some s→s=0→1≤(Zaj first syms j).1
 parts:∀ s∈syms,(Zap ((s &&& 15) <<< first)).length≤1000∧(PySem.Builtin.Str.partsBetween (Zap ((s &&& 15) <<< first)) (PySem.Builtin.Str.occurrences (Zap ((s &&& 15) <<< first)) ", " 0 (Zap ((s &&& 15) <<< first)).length ((Zap ((s &&& 15) <<< first)).length+1)) (", " : Str).length).length≤1000
 fin:(Zaj first syms n).1=1∧syms[n]? = some 0
theorem Run.forget {sts:List Stmt} {K:Flow→Shared→Prop} (f:Fg σ σ') (h:Run C σ' O sts K):Run C σ O sts K:=λ s S=>h s (S.forget f)
set_option genInjectivity false in
structure TS where
 j:Nat
 rs:List Addr
 ns:List Addr
 seen:Bool
 done:Bool
 tab:Led
noncomputable def tsLoc (b:Array UInt8) (first:Nat) (W:Wr) (it:Addr) (s o:Nat):Loc:=[("tape",some (.bytes b)),("first",some (.nat first)),("written",some (.ref W.out)),("writer",some (.ref W.x)),("iterator",some (.ref it)),("symbol",some (.nat s)),("opened",some (.nat o)),("attrs",none),("word",none)]
theorem fgTs (b:Array UInt8) (first:Nat) (W:Wr) (it:Addr) (s o:Nat) (x:Option D) (y:Option D):Fg [("tape",some (.bytes b)),("first",some (.nat first)),("written",some (.ref W.out)),("writer",some (.ref W.x)),("iterator",some (.ref it)),("symbol",some (.nat s)),("opened",some (.nat o)),("attrs",x),("word",y)] (tsLoc b first W it s o):=
 .keep (.keep (.keep (.keep (.keep (.keep (.keep (.drop (.drop .nil))))))))
noncomputable def psOf (k:Nat):List D:=List.replicate (k+1) (.bool false)
def TapeOk (b:Array UInt8) (syms:List Nat):Prop:=∀ j s,syms[j]? = some s→∃ c₁ c₂:UInt8,b[2 * j]? = some c₁∧b[2 * j+1]? = some c₂∧(c₁.toNat &&& 64 != 0)=true∧(c₂.toNat &&& 64 != 0)=false∧((c₁.toNat &&& 63) <<< 6) ||| (c₂.toNat &&& 63)=s
theorem tell_loop (T:TopC B) {W:Wr} {b:Array UInt8} {first n:Nat} {syms:List Nat} {it:Addr} {ns:List Addr} {tab:Led} (ok:TellOk first syms n) (tp:TapeOk b syms) (I:In C (stAt 74) []) (hn:8≤C.n) (hns:ns.length=2) (htab:Zbl B.P Zbv lamQ tab) :
  Run C (tsLoc b first W it (syms.getD 0 0) 0) ((it,.biter b 2)::wU T.K W (ns.map D.ref) (psOf 0) [] [] false false [] tab) ((Zcv (stAt 74)).drop 4)
   (Ends C λ d U'=>∃ (ns:List D) (nn r:Addr) (done:Bool) (tab':Led),ns.length≤100∧Zbl B.P Zbv lamQ tab'∧d = .ref W.x∧U'=wU T.K W (ns++[.ref r]) [.bool false,.bool false] (Zaj first syms n).2 [] true done [nn] tab'):=by
 refine Run.kabs λ K hE=>?_
 have hzz:sizeLine=16777216:=by decide +kernel
 obtain ⟨hfirst,hn200,hlen,hsmall,hwsok,hgo,hpop,hparts,hfin1,hfin2⟩:=ok
 refine Run.while_ (α:=TS) (λ a=>a.j≤n∧a.rs.length=(Zaj first syms a.j).1∧a.ns.length=(Zaj first syms a.j).1+2∧Zbl B.P Zbv lamQ a.tab∧(1≤(Zaj first syms a.j).1→a.seen=true)) (λ a=>n - a.j)
  (λ a=>tsLoc b first W it (syms.getD a.j 0) (Zaj first syms a.j).1)
  (λ a=>(it,.biter b (2 * (a.j+1)))::wU T.K W (a.ns.map D.ref) (psOf (Zaj first syms a.j).1) (Zaj first syms a.j).2 [] a.seen a.done a.rs a.tab)
  (λ a=>(Zaj first syms a.j).1 != 1 || !(syms.getD a.j 0==0)) (Kb:=λ _=>False) (λ a ha=>?_) ?_ ?_ (λ _ h=>h.elim) ⟨0,[],ns,false,false,tab⟩ ⟨Nat.zero_le _,rfl,hns,htab,λ h=>by exact absurd h (by show ¬ 1≤0; exact Nat.not_le_of_lt (Wn [] (.a (.n 0) (.n 1)) (.n 1) [] rfl))⟩ ⟨rfl,rfl⟩
 ·exact .or (.cmp (.name (.q6)) (.intN 1) .neN) λ _=>.not (.val (.call0 (.gn T.T I 67) (T.T.gn (i:=67) (by kernel_rfl)).2.isDef (.cons (.name (.q5)) .nil) (Zih T.T) (by lia)) .bool)
 ·intro hq0 hst hb
  obtain ⟨j,rs,ns,seen,done,tab⟩:=hq0
  refine E05 hst λ hj hrs hns' htab' hseen=>?_
  try clear hst
  dsimp only at hj hrs hns' htab' hseen hb ⊢
  have hjl:j < syms.length:=by exact Wn [_,_,_] (.a (.v 0) (.n 1)) (.v 1) [(1,.v 0,.v 2),(1,.a (.v 2) (.n 1),.v 1)] rfl hj (Wf hlen)
  obtain ⟨s,hs⟩:∃ s,syms[j]? = some s:=⟨syms[j],List.getElem?_eq_getElem hjl⟩
  have hsd:syms.getD j 0=s:=by rw [List.getD_eq_getElem?_getD,hs]; rfl
  have hjn:j < n:=by
   rcases Nat.lt_or_ge j n with h | h
   ·exact h
   ·obtain rfl:j=n:=by exact Nat.le_antisymm (Wn [_,_] (.v 0) (.v 1) [(1,.v 0,.v 1)] rfl hj) (Wn [_,_] (.v 0) (.v 1) [(1,.v 0,.v 1)] rfl h)
    rw [hfin1,hsd] at hb
    rw [hs] at hfin2
    cases hfin2
    cases hb
  rw [hsd]
  have hsm:s∈syms:=List.mem_of_getElem? hs
  obtain ⟨wl,wnd,wok,wsp⟩:=hwsok s hsm
  have hl1:=Zfu first syms j
  have hsucc:=Zhm (first:=first) hs
  generalize ho:Zaj first syms j=st at hrs hns' hseen hl1 hsucc hb ⊢
  obtain ⟨o,outl⟩:=st
  dsimp only at hrs hns' hseen hl1 hsucc hb ⊢
  -- the next symbol
  have fin:∀ {p1 p2 p3 p4 p5:Pos} {K:Flow→Shared→Prop} (rs' ns':List Addr) (seen' done':Bool) (tab':Led),rs'.length=(Zaj first syms (j+1)).1→ns'.length=(Zaj first syms (j+1)).1+2→Zbl B.P Zbv lamQ tab'→(1≤(Zaj first syms (j+1)).1→seen'=true)→
    (∀ s',(∃ a':TS,(a'.j≤n∧a'.rs.length=(Zaj first syms a'.j).1∧a'.ns.length=(Zaj first syms a'.j).1+2∧Zbl B.P Zbv lamQ a'.tab∧(1≤(Zaj first syms a'.j).1→a'.seen=true))∧n - a'.j < n - j∧St C (tsLoc b first W it (syms.getD a'.j 0) (Zaj first syms a'.j).1) ((it,.biter b (2 * (a'.j+1)))::wU T.K W (a'.ns.map D.ref) (psOf (Zaj first syms a'.j).1) (Zaj first syms a'.j).2 [] a'.seen a'.done a'.rs a'.tab) s')→K .next s')→
    Run C (tsLoc b first W it s (Zaj first syms (j+1)).1) ((it,.biter b (2 * (j+1)))::wU T.K W (ns'.map D.ref) (psOf (Zaj first syms (j+1)).1) (Zaj first syms (j+1)).2 [] seen' done' rs' tab')
     [.Assign [.Name "symbol" p1] (.Call (.Name "_parse_varint" p2) [.Name "iterator" p3] [] p4) p5] K:=λ rs' ns' seen' done' tab' g1 g2 g3 g4 hK=>by
   have hjl':j+1 < syms.length:=by exact Wn [_,_,_] (.a (.a (.v 0) (.n 1)) (.n 1)) (.v 1) [(1,.a (.v 0) (.n 1),.v 2),(1,.a (.v 2) (.n 1),.v 1)] rfl hjn (Wf hlen)
   obtain ⟨s',hs'⟩:∃ s',syms[j+1]? = some s':=⟨syms[j+1],List.getElem?_eq_getElem hjl'⟩
   have hsd':syms.getD (j+1) 0=s':=by rw [List.getD_eq_getElem?_getD,hs']; rfl
   refine E25 (tp (j+1) s' hs') λ c₁ c₂ h1 h2 f1 f2 hv=>?_
   refine Run.assignXC0 (EvX.callP (U:=[(it,.biter b (2 * (j+1)))]) (.gn T.T I 13) (T.T.gn (i:=13) (by kernel_rfl)).2.isDef (.cons (.name (.q4)) .nil) (Zgg T.T h1 h2 f1 f2) (by lia) (.refl _)) ?_
   refine ⟨_,.q5,.nil λ s₁ S=>hK s₁ ⟨⟨j+1,rs',ns',seen',done',tab'⟩,⟨by show j+1≤n; assumption,g1,g2,g3,g4⟩,by show n - (j+1) < n - j; lia,?_⟩⟩
   dsimp only
   rw [hsd',← hv]
   exact S
  have hps:psOf o=List.replicate o (.bool false)++[.bool false]:=by unfold psOf; rw [List.replicate_succ']
  have hlast:∀ {α : Type} (l:List α),1≤l.length→∃ l' x,l=l'++[x]:=λ l h=>⟨l.dropLast,l.getLast (λ e=>by rw [e] at h; simp at h),(List.dropLast_concat_getLast _).symm⟩
  refine .ite (b:=s==0) (.val (.call0 (.gn T.T I 67) (T.T.gn (i:=67) (by kernel_rfl)).2.isDef (.cons (.name (.q5)) .nil) (Zih T.T) (by lia)) .bool) (λ h0=>?_) (λ h0=>?_)
  ·have h0':s=0:=by simpa using h0
   have ho1:1≤o:=by have:=hpop j s hjn hs h0'; rw [ho] at this; exact this
   refine E21 (hlast rs (by exact Wn [_,_] (.n 1) (.v 0) [(1,.n 1,.v 1),(1,.v 1,.v 0)] rfl ho1 (Wf hrs))) λ rs nn Y1=>?_
   subst Y1
   refine E21 (hlast ns (by (apply Wle;assumption;rfl))) λ ns r Y1=>?_
   subst Y1
   have hse:seen=true:=hseen ho1
   subst hse
   have e1:Zaj first syms (j+1)=(o - 1,outl++[Zaz "e"]):=by rw [hsucc]; unfold Zca; rw [if_pos h0']
   rw [List.length_append] at hrs hns'
   simp only [List.length_cons,List.length_nil] at hrs hns'
   refine .exprX (.methP (U:=wU T.K W ((ns++[r]).map D.ref) (psOf o) outl [] true done (rs++[nn]) tab) (R:=[(it,.biter b (2 * (j+1)))]) T.cls (.name (.q3)) (.q5) (.q6) (by rw [Wr.attrs_names]; decide +kernel) (T.meth (i:=9) (by kernel_rfl)).1 (T.meth (i:=9) (by kernel_rfl)).2 (Zar (by kernel_rfl)) (.cons .str .nil)
    (by rw [hps,List.map_append]; exact Zik T (tx:=[]) (tag := "e") (.inl rfl) (wok _ List.mem_cons_self) ⟨by rw [List.length_replicate]; exact Wn [_,_,_] (.v 0) (.n 1000) [(1,.v 0,.v 1),(1,.a (.v 1) (.n 1),.v 2),(1,.v 2,.n 200)] rfl hl1.1 hjn hn200,by rw [List.length_map]; exact Wn [_,_,_,_] (.v 0) (.n 1000) [(1,.a (.v 0) (.a (.n 0) (.n 1)),.a (.v 1) (.n 2)),(1,.v 1,.v 2),(1,.a (.v 2) (.n 1),.v 3),(1,.v 3,.n 200)] rfl (We hns') hl1.1 hjn hn200,by exact Wn [_,_,_] (.v 0) (.n 9000) [(1,.v 0,.m 4 (.v 1)),(4,.a (.v 1) (.n 1),.v 2),(4,.v 2,.n 200)] rfl hl1.2 hjn hn200⟩ (by exact Wn [_,_,_,_] (.v 0) (.n 1000) [(1,.a (.v 0) (.a (.n 0) (.n 1)),.v 1),(1,.v 1,.v 2),(1,.a (.v 2) (.n 1),.v 3),(1,.v 3,.n 200)] rfl (We hrs) hl1.1 hjn hn200)) (by lia) List.perm_append_comm) ?_ ?_
   ·refine exC2 λ done'=>?_
    refine .perm (O':=(it,.biter b (2 * (j+1)))::wU T.K W (ns.map D.ref) (List.replicate o (.bool false)) (outl++fl []++[Zaz "e"]) [] true done' rs tab) (List.perm_append_comm (l₁:=[(it,Sh.biter b (2 * (j+1)))])) ?_
    refine .aug (.q6) (.intN 1) (.subN ho1) (.q6) (.next ?_)
    have e2:outl++fl []++[Zaz "e"]=outl++[Zaz "e"]:=by show outl++[]++_=_; rw [List.append_nil]
    have e3:List.replicate o (D.bool false)=psOf (o - 1):=by unfold psOf; rw [Nat.sub_add_cancel ho1]
    rw [e2,e3]
    have:=@fin
    rw [e1] at this
    exact this rs ns true done' tab (by show rs.length=o - 1; lia) (by show ns.length=o - 1+2; lia) htab' (λ _=>rfl) λ s' h=>h
   ·intro d O' hq0
    refine E12 hq0 λ U' Y1 _=>?_
    try clear hq0
    refine E02 Y1 λ Y2 _=>?_
    clear Y1
    subst Y2; rfl
  ·have h0':s ≠ 0:=by simpa using h0
   have hpt:=hparts s hsm
   have h15:s &&& 15 < 16:=Nat.lt_of_le_of_lt Nat.and_le_right (by decide)
   have hf32:(s &&& 15) <<< first < 2 ^ 32:=by
    rw [Nat.shiftLeft_eq]
    have:2 ^ first≤2 ^ 28:=Nat.pow_le_pow_right (by decide) hfirst
    calc (s &&& 15) * 2 ^ first≤15 * 2 ^ 28:=Nat.mul_le_mul (by exact Wn [_] (.v 0) (.n 15) [(1,.a (.v 0) (.n 1),.n 16)] rfl h15) this
     _ < 2 ^ 32:=by decide
   refine Run.assignX1 EvX.dict0 λ ad=>?_
   refine ⟨_,.q7,?_⟩
   refine Run.iteJ [("tape",some (.bytes b)),("first",some (.nat first)),("written",some (.ref W.out)),("writer",some (.ref W.x)),("iterator",some (.ref it)),("symbol",some (.nat s)),("opened",some (.nat o)),("attrs",some (.ref ad)),("word",none)]
    ((ad,.dict (ltEs (Zam first s)))::(it,.biter b (2 * (j+1)))::wU T.K W (ns.map D.ref) (psOf o) outl [] seen done rs tab) (.val (.andN (.name (.q5)) (.intN 15)) .nat) (λ hb1=>?_) (λ hb1=>?_) ?_
   ·have hne:s &&& 15 ≠ 0:=by simpa using hb1
    have htw:Zam first s=Txt.split (Zap ((s &&& 15) <<< first)) ", " := by unfold Zam; rw [if_neg hne]
    refine Run.forX (IterX.list (P:=λ l ds O'=>ds=(Zam first s).map .str∧O'=(l,.list ((Zam first s).map .str))::(ad,.dict [])::(it,.biter b (2 * (j+1)))::wU T.K W (ns.map D.ref) (psOf o) outl [] seen done rs tab) (.mono (.split1 (.call0 (.gn T.T I 12) (T.T.gn (i:=12) (by kernel_rfl)).2.isDef (.cons (.shlN (.andN (.name (.q5)) (.intN 15)) (.name (.q1)) (by exact Wn [_] (.v 0) (.n 1000000) [(1,.v 0,.n 28)] rfl hfirst) (by lia)) .nil) (Zed T.T hf32) (by lia)) .str (by kernel_rfl) (by exact Wn [_] (.v 0) (.n 16777216) [(1,.v 0,.n 1000)] rfl hpt.1) (by exact Wn [_] (.v 0) (.n 16777216) [(1,.v 0,.n 1000)] rfl hpt.2)) ?_)) ?_
    ·refine ex1 λ l=>?_
     rw [← htw]
     exact ⟨l,_,rfl,List.mem_cons_self,rfl,rfl⟩
    intro O₁ N ds hq0
    refine E23 hq0 λ l ds Y1 Y2 Y3=>?_
    try clear hq0
    subst Y2
    subst Y3
    refine E02 Y1 λ Y4 Y5=>?_
    clear Y1
    subst Y4
    subst Y5
    refine ⟨λ i=>[("tape",some (.bytes b)),("first",some (.nat first)),("written",some (.ref W.out)),("writer",some (.ref W.x)),("iterator",some (.ref it)),("symbol",some (.nat s)),("opened",some (.nat o)),("attrs",some (.ref ad)),("word",none)],
     λ i=>(l,.list ((Zam first s).map .str))::(ad,.dict (ltEs ((Zam first s).take i)))::(it,.biter b (2 * (j+1)))::wU T.K W (ns.map D.ref) (psOf o) outl [] seen done rs tab,λ _=>False,⟨rfl,rfl⟩,λ i _=>List.mem_cons_self,λ i d hd S=>?_,?_,λ _ h=>h.elim⟩
    ·refine E12 (Zbt hd) λ w hw Y1=>?_
     subst Y1
     have etk:(Zam first s).take (i+1)=(Zam first s).take i++[w]:=by rw [List.take_add_one,hw]; rfl
     have hnew:w ∉ (Zam first s).take i:=by
      have h1:((Zam first s).take (i+1)).Nodup:=(List.nodup_cons.mp wnd).2.sublist (List.take_sublist _ _)
      rw [etk,List.nodup_append] at h1
      exact λ q=>h1.2.2 w q w List.mem_cons_self rfl
     refine ⟨_,_,.name (.q8),?_⟩
     refine .dset .str (.name (.q7)) (.name (.q8)) (.q1) (by rw [Zdn]; exact hnew) (by unfold ltEs; rw [List.length_map,List.length_take]; lia) (.q1) ?_
     refine .done (.keep (.keep (.keep (.keep (.keep (.keep (.keep (.keep (.drop .nil))))))))) (.refl _) λ s' S'=>?_
     have e:ltEs ((Zam first s).take (i+1))=ltEs ((Zam first s).take i)++[(w,D.str "<")]:=by rw [etk]; unfold ltEs; rw [List.map_append]; rfl
     show St C _ (_::(ad,.dict (ltEs ((Zam first s).take (i+1))))::_) s'
     rw [e]; exact S'
    ·refine .done (.refl _) (.cons _ (.refl _)) λ s' S'=>?_
     rw [List.length_map,List.take_length] at S'
     exact wpAny_execs_nil S'
   ·have h0:s &&& 15=0:=by simpa using hb1
    refine .nil λ s' S'=>?_
    have e:Zam first s=[]:=by unfold Zam; rw [if_pos h0]
    rw [e]; exact S'
   -- start
   have hpl:(psOf o).getLast? = some (.bool false):=by rw [hps]; simp
   refine .exprX (.methP (U:=(ad,.dict (ltEs (Zam first s)))::wU T.K W (ns.map D.ref) (psOf o) outl [] seen done rs tab) (R:=[(it,.biter b (2 * (j+1)))]) T.cls (.name (.q3)) (.q6) (.q7) (by rw [Wr.attrs_names]; decide +kernel) (T.meth (i:=7) (by kernel_rfl)).1 (T.meth (i:=7) (by kernel_rfl)).2 (Zar (by kernel_rfl)) (.cons .str (.cons (.name (.q7)) .nil))
    (Zlm T (tag := "e") htab' wl wnd wok wsp hpl ⟨by unfold psOf; rw [List.length_replicate]; exact Wn [_,_,_] (.a (.v 0) (.n 1)) (.n 1000) [(1,.v 0,.v 1),(1,.a (.v 1) (.n 1),.v 2),(1,.v 2,.n 200)] rfl hl1.1 hjn hn200,by rw [List.length_map]; exact Wn [_,_,_,_] (.v 0) (.n 1000) [(1,.v 1,.v 2),(1,.v 0,.a (.v 1) (.n 2)),(1,.a (.v 2) (.n 1),.v 3),(1,.v 3,.n 200)] rfl hl1.1 (We hns') hjn hn200,by exact Wn [_,_,_] (.v 0) (.n 10000) [(1,.v 0,.m 4 (.v 1)),(4,.a (.v 1) (.n 1),.v 2),(4,.v 2,.n 200)] rfl hl1.2 hjn hn200⟩ (by exact Wn [_,_,_,_] (.v 0) (.n 1000) [(1,.v 1,.v 2),(1,.v 0,.v 1),(1,.a (.v 2) (.n 1),.v 3),(1,.v 3,.n 200)] rfl hl1.1 (We hrs) hjn hn200)) (by lia) ?_) ?_ ?_
   ·exact (List.perm_append_comm (l₁:=wU T.K W (ns.map D.ref) (psOf o) outl [] seen done rs tab) (l₂:=[(it,.biter b (2 * (j+1)))])).cons _
   ·intro d O' hq0
    refine E12 hq0 λ U' Y1 Y2=>?_
    try clear hq0
    subst Y2
    refine E02 Y1 λ Y3 Y4=>?_
    clear Y1
    subst Y3
    refine E32 Y4 λ tab' r nn htab'' Y5=>?_
    clear Y4
    subst Y5
    have hps1:psOf o++[.bool false]=psOf (o+1):=by unfold psOf; rw [List.replicate_succ' (n:=o+1)]
    refine .perm (O':=(ad,.dict (ltEs (Zam first s)))::(it,.biter b (2 * (j+1)))::wU T.K W (ns.map D.ref++[.ref r]) (psOf o++[.bool false]) (outl++Zag "e" (Zam first s)) [] true done (rs++[nn]) tab') ((List.perm_append_comm (l₁:=[(it,Sh.biter b (2 * (j+1)))])).cons _) ?_
    refine .subl (O':=(it,.biter b (2 * (j+1)))::wU T.K W (ns.map D.ref++[.ref r]) (psOf o++[.bool false]) (outl++Zag "e" (Zam first s)) [] true done (rs++[nn]) tab') (.cons _ (.refl _)) ?_
    refine .ite (b:=decide (256≤s)) (.val (.call0 (.gn T.T I 66) (T.T.gn (i:=66) (by kernel_rfl)).2.isDef (.cons (.name (.q5)) .nil) (isnt_calls T.T) (by lia)) .bool) (λ hb2=>?_) (λ hb2=>?_)
    ·have h256:256≤s:=by simpa using hb2
     have e1:Zaj first syms (j+1)=(o+1,outl++Zag "e" (Zam first s)):=by rw [hsucc]; unfold Zca; rw [if_neg h0',if_pos h256]
     refine .aug (.q6) (.intN 1) .addN (.q6) (.next (.next (.forget (fgTs b first W it s (o+1) _ _) ?_)))
     have:=@fin
     rw [e1] at this
     rw [hps1,show ns.map D.ref++[D.ref r]=(ns++[r]).map D.ref by rw [List.map_append]; rfl]
     exact this (rs++[nn]) (ns++[r]) true done tab' (by rw [List.length_append]; show rs.length+1=o+1; exact Nat.le_antisymm (Wn [_,_] (.a (.v 0) (.n 1)) (.a (.v 1) (.n 1)) [(1,.v 0,.v 1)] rfl (We hrs)) (Wn [_,_] (.a (.v 0) (.n 1)) (.a (.v 1) (.n 1)) [(1,.v 0,.v 1)] rfl (Wf hrs))) (by rw [List.length_append]; show ns.length+1=o+1+2; exact Nat.le_antisymm (Wn [_,_] (.a (.v 0) (.n 1)) (.a (.a (.v 1) (.n 1)) (.n 2)) [(1,.v 0,.a (.v 1) (.n 2))] rfl (We hns')) (Wn [_,_] (.a (.a (.v 0) (.n 1)) (.n 2)) (.a (.v 1) (.n 1)) [(1,.a (.v 0) (.n 2),.v 1)] rfl (Wf hns'))) htab'' (λ _=>rfl) λ s' h=>h
    ·have h256:¬ 256≤s:=by simpa using hb2
     have e1:Zaj first syms (j+1)=(o,outl++Zag "e" (Zam first s)++[Zaz "e"]):=by rw [hsucc]; unfold Zca; rw [if_neg h0',if_neg h256]
     have htl:=Zfg "e" (Zam first s)
     refine .exprX (.methP (U:=wU T.K W (ns.map D.ref++[.ref r]) (psOf o++[.bool false]) (outl++Zag "e" (Zam first s)) [] true done (rs++[nn]) tab') (R:=[(it,.biter b (2 * (j+1)))]) T.cls (.name (.q3)) (.q5) (.q6) (by rw [Wr.attrs_names]; decide +kernel) (T.meth (i:=9) (by kernel_rfl)).1 (T.meth (i:=9) (by kernel_rfl)).2 (Zar (by kernel_rfl)) (.cons .str .nil)
      (Zik T (tx:=[]) (tag := "e") (.inl rfl) (wok _ List.mem_cons_self) ⟨by unfold psOf; rw [List.length_replicate]; exact Wn [_,_,_] (.a (.v 0) (.n 1)) (.n 1000) [(1,.v 0,.v 1),(1,.a (.v 1) (.n 1),.v 2),(1,.v 2,.n 200)] rfl hl1.1 hjn hn200,by rw [List.length_map]; exact Wn [_,_,_,_] (.v 0) (.n 1000) [(1,.v 1,.v 2),(1,.v 0,.a (.v 1) (.n 2)),(1,.a (.v 2) (.n 1),.v 3),(1,.v 3,.n 200)] rfl hl1.1 (We hns') hjn hn200,by rw [List.length_append]; exact Wn [_,_,_,_] (.a (.v 0) (.v 1)) (.n 9000) [(1,.v 1,.n 3),(1,.v 0,.m 4 (.v 2)),(4,.a (.v 2) (.n 1),.v 3),(4,.v 3,.n 200)] rfl htl hl1.2 hjn hn200⟩ (by exact Wn [_,_,_,_] (.v 0) (.n 1000) [(1,.v 1,.v 2),(1,.v 0,.v 1),(1,.a (.v 2) (.n 1),.v 3),(1,.v 3,.n 200)] rfl hl1.1 (We hrs) hjn hn200)) (by lia) List.perm_append_comm) ?_ ?_
     ·refine exC2 λ done'=>?_
      refine .perm (O':=(it,.biter b (2 * (j+1)))::wU T.K W (ns.map D.ref) (psOf o) (outl++Zag "e" (Zam first s)++fl []++[Zaz "e"]) [] true done' rs tab') (List.perm_append_comm (l₁:=[(it,Sh.biter b (2 * (j+1)))])) ?_
      have e2:outl++Zag "e" (Zam first s)++fl []++[Zaz "e"]=outl++Zag "e" (Zam first s)++[Zaz "e"]:=by show outl++Zag "e" (Zam first s)++[]++_=_; rw [List.append_nil]
      rw [e2]
      refine .next (.next (.forget (fgTs b first W it s o _ _) ?_))
      have:=@fin
      rw [e1] at this
      exact this rs ns true done' tab' hrs hns' htab'' (λ _=>rfl) λ s' h=>h
     ·intro d O' hq0
      refine E12 hq0 λ U' Y1 _=>?_
      try clear hq0
      refine E02 Y1 λ Y2 _=>?_
      clear Y1
      subst Y2; rfl
   ·intro d O' hq0
    refine E12 hq0 λ U' Y1 _=>?_
    try clear hq0
    refine E02 Y1 λ Y2 _=>?_
    clear Y1
    subst Y2; rfl
 ·intro hq0 hst hb
  obtain ⟨j,rs,ns,seen,done,tab⟩:=hq0
  refine E05 hst λ hj hrs hns' htab' hseen=>?_
  try clear hst
  dsimp only at hj hrs hns' htab' hseen hb ⊢
  have hjl:j < syms.length:=by exact Wn [_,_,_] (.a (.v 0) (.n 1)) (.v 1) [(1,.v 0,.v 2),(1,.a (.v 2) (.n 1),.v 1)] rfl hj (Wf hlen)
  obtain ⟨s,hs⟩:∃ s,syms[j]? = some s:=⟨syms[j],List.getElem?_eq_getElem hjl⟩
  have hsd:syms.getD j 0=s:=by rw [List.getD_eq_getElem?_getD,hs]; rfl
  rw [hsd] at hb
  simp only [Bool.or_eq_false_iff,bne_eq_false_iff_eq,Bool.not_eq_false',beq_iff_eq] at hb
  obtain rfl:j=n:=by
   rcases Nat.lt_or_ge j n with h | h
   ·exact absurd hb (hgo j s h hs)
   ·exact Nat.le_antisymm (Wn [_,_] (.v 0) (.v 1) [(1,.v 0,.v 1)] rfl hj) (Wn [_,_] (.v 0) (.v 1) [(1,.v 0,.v 1)] rfl h)
  have hse:seen=true:=hseen (by (apply Wle;assumption;rfl))
  subst hse
  rw [hb.1] at hrs hns' ⊢
  obtain ⟨nn,rfl⟩:∃ nn,rs=[nn]:=List.length_eq_one_iff.mp hrs
  obtain ⟨ns',r,rfl⟩:∃ l' x,ns=l'++[x]:=⟨ns.dropLast,ns.getLast (λ e=>by rw [e] at hns'; simp at hns'),(List.dropLast_concat_getLast _).symm⟩
  rw [List.map_append]
  exact .ret (.name (.q3)) λ v s' S hv=>hE _ _ ⟨_,_,_,_,⟨ns'.map D.ref,nn,r,done,tab,by rw [List.length_append] at hns'; rw [List.length_map]; simp at hns'; exact Wn [_] (.v 0) (.n 100) [(1,.v 0,.n 2)] rfl (We hns'),htab',rfl,rfl⟩,S,λ p hp=>List.mem_cons_of_mem _ hp,(List.nodup_cons.mp S.ond).2,hv⟩
theorem perm_w {α : Type} (a b c d e f g h i : α) (T:List α):([a,b,c,d,e,f,g,h,i]++(T++[])).Perm ([b,a,g,h,i,e,f]++(c::d::T)):=by
 classical
 rw [List.perm_iff_count]
 intro x
 simp only [List.count_append,List.count_cons,List.count_nil]
 lia
theorem tell_calls (T:TopC B) {b:Array UInt8} {first n:Nat} {syms:List Nat} {out:Addr} {tab:Led} (ok:TellOk first syms n) (tp:TapeOk b syms) (htab:Zbl B.P Zbv lamQ tab) :
  Calls B 9 (.ref (T.T.fA 74)) [.bytes b,.nat first,.ref out] ((out,.list [])::tab)
   λ d U'=>∃ (W:Wr) (ns:List D) (nn r:Addr) (done:Bool) (tab':Led),W.out=out∧ns.length≤100∧Zbl B.P Zbv lamQ tab'∧d = .ref W.x∧U'=wU T.K W (ns++[.ref r]) [.bool false,.bool false] (Zaj first syms n).2 [] true done [nn] tab':=by
 have hzz:sizeLine=16777216:=by decide +kernel
 refine .of_def (T.T.gn (i:=74) (by kernel_rfl)).2 [("tape",some (.bytes b)),("first",some (.nat first)),("written",some (.ref out)),("writer",none),("iterator",none),("symbol",none),("opened",none),("attrs",none),("word",none)] [] (λ _=>[]) (λ L=>rfl) (λ L=>rfl) ⟨⟨rfl,rfl⟩,rfl⟩
  (by show (["tape", "first", "written", "writer", "iterator", "symbol", "opened", "attrs", "word"]:List Str).Nodup; decide +kernel) (by show ∀ x∈(["tape", "first", "written", "writer", "iterator", "symbol", "opened", "attrs", "word"]:List Str),_; decide +kernel) .nil ?_ ?_
 ·intro cd pm s vs hG hq0
  refine E23 hq0 λ v r Y1 hv Y2=>?_
  try clear hq0
  subst Y1
  refine E23 Y2 λ u r' Y3 hu Y4=>?_
  clear Y2
  subst Y3
  refine E23 Y4 λ w r'' Y5 hw hr=>?_
  clear Y4
  subst Y5
  have hh:r''=[]:=hr; subst hh
  refine ⟨[("tape",v),("first",u),("written",w)],BindsTo.of_eq rfl,?_,⟨⟨v,rfl,hv⟩,⟨u,rfl,hu⟩,⟨w,rfl,hw⟩,trivial⟩,trivial⟩
  intro x hx
  rcases List.mem_cons.mp hx with rfl | hx
  ·exact .inl rfl
  rcases List.mem_cons.mp hx with rfl | hx
  ·exact .inl rfl
  ·rw [List.mem_singleton.mp hx]; exact .inl rfl
 intro C I hn
 refine Run.kabs λ K hE=>?_
 show Run C _ ((out,.list [])::tab) _ _
 refine .assignX (EvX.new (P':=λ d O'=>∃ (W:Wr) (r1 r2:Addr),W.out=out∧d = .ref W.x∧(wU T.K W [.ref r1,.ref r2] (psOf 0) [] [] false false [] tab).Perm O') T.cls (.glob (I.kinds rfl) T.glob λ _ _=>rfl) (EvX.appendV (.name (.q2)) (.z)) T.init.1 T.init.2 (n:=2) (by (apply Wle;assumption;rfl)) ?_) ?_
 ·intro d O₁ x dx hq0
  refine E12 hq0 λ q Y1 Y2=>?_
  try clear hq0
  subst Y1
  subst Y2
  refine ⟨_,init_calls T (out:=out),?_⟩
  intro r U' hq0
  refine E02 hq0 λ Y1 Y2=>?_
  try clear hq0
  subst Y1
  refine E51 Y2 λ dt decl n0 nss pm Y3=>?_
  clear Y2
  refine E31 Y3 λ ps r1 r2 Y4=>?_
  clear Y3
  subst Y4
  refine ⟨rfl,⟨x,dx,q,out,dt,decl,n0,nss,pm,ps⟩,r1,r2,rfl,rfl,?_⟩
  exact perm_w _ _ _ _ _ _ _ _ _ tab
 intro d O' hq0
 refine E33 hq0 λ W r1 r2 hout Y1 hperm=>?_
 try clear hq0
 subst Y1
 subst hout
 refine ⟨_,.q3,.perm hperm ?_⟩
 obtain ⟨hf28,hn200,hlen,hrest⟩:=id ok
 obtain ⟨s0,hs0⟩:∃ s,syms[0]? = some s:=⟨syms[0]'(by (apply Wle;assumption;rfl)),List.getElem?_eq_getElem _⟩
 refine E25 (tp 0 s0 hs0) λ c₁ c₂ h1 h2 f1 f2 hv=>?_
 refine Run.assignX1 (EvX.iterB (.bn T.T I rfl) (.name (.z))) λ it=>?_
 refine ⟨_,.q4,?_⟩
 refine Run.assignXC0 (EvX.callP (U:=[(it,.biter b 0)]) (.gn T.T I 13) (T.T.gn (i:=13) (by kernel_rfl)).2.isDef (.cons (.name (.q4)) .nil) (Zgg T.T h1 h2 f1 f2) (by (apply Wle;assumption;rfl)) (.refl _)) ?_
 refine ⟨_,.q5,?_⟩
 refine .assign (.intN 0) (.q6) ?_
 rw [hv]
 have hs0d:syms.getD 0 0=s0:=by rw [List.getD_eq_getElem?_getD,hs0]; rfl
 have:=tell_loop (W:=W) (it:=it) (ns:=[r1,r2]) T ok tp I (by (apply Wle;assumption;rfl)) rfl htab
 rw [hs0d] at this
 refine .mono this λ f s' h=>hE f s' ?_
 cases f with
 | ret v=>
  refine E45 h λ d U' σ' O' Y1 S sub nd hv=>?_
  try clear h
  refine E53 Y1 λ ns nn r done tab' a1 a2 a3=>?_
  clear Y1
  exact ⟨d,U',σ',O',⟨W,ns,nn,r,done,tab',rfl,a1,a2,a3⟩,S,sub,nd,hv⟩
 | next=>
  refine E34 h λ U' σ' O' Y1 S sub nd=>?_
  try clear h
  refine E53 Y1 λ ns nn r done tab' a1 a2 a3=>?_
  clear Y1
  exact ⟨U',σ',O',⟨W,ns,nn,r,done,tab',rfl,a1,a2,a3⟩,S,sub,nd⟩
 | brk=>exact h
 | cont=>exact h
end
section
set_option maxRecDepth 100000
set_option maxHeartbeats 1000000
variable {B:Bs} {C:Cx B} {σ σ':Loc} {O O':Led}
def ArgsX (C:Cx B) (σ : Loc) (O:Led) (es:List Expr) (P:List D→Led→Prop):Prop:=∀ (pos:Pos) s,St C σ O s→∀ Q:List Value→Shared→Prop,
 (∀ vs s' ds O',P ds O'→Tk s.heap s'.heap→St C σ O' s'→Vals s'.heap vs ds→Q vs s')→C.wp (spliced (backTo pos (starEach es C.env))) Q s
theorem ArgsX.one {e:Expr} {P:D→Led→Prop} (he:EvX C σ O e P) (hs:autoParam (Zac [e]=true) tR):ArgsX C σ O [e] λ ds O'=>∃ d,P d O'∧ds=[d]:=λ pos s S Q hQ=>by
 rw [(Zaa (env:=C.env) hs).1]
 exact spliced_cons (he s S _ λ v s₁ d O' p t₁ S₁ hv=>spliced_nil (hQ [v] s₁ [d] O' ⟨d,p,rfl⟩ t₁ S₁ (.cons hv .nil)))
theorem ArgsX.two {e₀ e:Expr} {d₀:D} {P:D→Led→Prop} (h₀:Ev C σ O e₀ d₀) (he:EvX C σ O e P) (hs:autoParam (Zac [e₀,e]=true) tR):ArgsX C σ O [e₀,e] λ ds O'=>∃ d,P d O'∧ds=[d₀,d]:=λ pos s S Q hQ=>by
 refine E02 (Zaa (env:=C.env) hs) λ e1 h1=>?_
 rw [e1,(Zaa (env:=C.env) h1).1]
 refine spliced_cons (h₀ s S _ λ v₀ s₁ t₁ S₁ hv₀=>spliced_cons (he s₁ S₁ _ λ v s₂ d O' p t₂ S₂ hv=>spliced_nil ?_))
 exact hQ [v₀,v] s₂ [d₀,d] O' ⟨d,p,rfl⟩ (t₁.trans t₂) S₂ (.cons (hv₀.tk t₂) (.cons hv .nil))
theorem EvX.callX {fe:Expr} {f:Addr} {e:Expr} {es:List Expr} {pos:Pos} {n:Nat} {P₀:List D→Led→Prop} {P:D→Led→Prop} (hf:Ev C σ O fe (.ref f)) (hd:IsDef B f)
  (ha:ArgsX C σ O (e::es) P₀) (hn:n≤C.n) (hc:∀ ds O₁,P₀ ds O₁→∃ (U R:Led) (P':D→Led→Prop),Calls B n (.ref f) ds U P'∧(U++R).Perm O₁∧∀ d U',P' d U'→P d (U'++R))
  (hs:autoParam (Zac (e::es)=true) tR)
  (he:autoParam (eval (.Call fe (e::es) [] pos) C.env=(do callWith pos (← eval fe C.env) [] (backTo pos (starEach (e::es) C.env)) (backToKw pos (keywordEach [] C.env)))) tR) :
  EvX C σ O (.Call fe (e::es) [] pos) P:=λ s S Q hQ=>by
 refine Call_ (hf s S _ λ v s₁ t₁ S₁ hv=>?_) he
 have hh:v = .ref f:=hv; subst hh
 refine E22 hd λ o fd hfd hh=>?_
 try clear hd
 refine callWith_def hfd (ha pos s₁ S₁ _ λ vs s₂ ds O₁ p t₂ S₂ hvs=>⟨hh _ S₂.top,?_⟩) (Zaa hs).1
 refine E33 (hc ds O₁ p) λ U R P' hc hp hP=>?_
 have nd:((U++R).map (·.1)).Nodup:=(hp.map _).nodup_iff.mpr S₂.ond
 rw [List.map_append,List.nodup_append] at nd
 have hU:∀ p∈U,p∈O₁:=λ p h=>hp.mem_iff.mp (List.mem_append_left _ h)
 refine hc C.A s₂ vs Q (C.room.le hn) S₂.top (Nat.le_trans C.low S₂.bsize) (λ p hp=>S₂.objs p (hU p hp)) nd.1 (λ p hp=>S₂.low (hU p hp)) hvs λ v s₃ d U' p x h n fr hv=>?_
 exact hQ v s₃ d _ (hP d U' p) ((t₁.trans t₂).trans x.tk) (S₂.called hU (λ p h=>⟨hp.mem_iff.mp (List.mem_append_right _ h),λ q=>nd.2.2 _ q _ (Zat h) rfl⟩) nd.2.1 x h n fr) hv
theorem Ev.sumInts {fe e:Expr} {pos:Pos} {l:Addr} {ns:List Int} (hf:Ev C σ O fe (.val (.builtin "sum"))) (he:Ev C σ O e (.ref l)) (ha:OAt O l (.list (ns.map .int))) (hs:autoParam (Zac [e]=true) tR)
  (hc:autoParam (eval (.Call fe [e] [] pos) C.env=(do callWith pos (← eval fe C.env) [] (backTo pos (starEach [e] C.env)) (backToKw pos (keywordEach [] C.env)))) tR):Ev C σ O (.Call fe [e] [] pos) (.int ns.sum):=
 .ofX (.callB hf (.cons he .nil) (by
  intro s vs S hq0 Q hQ
  refine E12 (Vals.one hq0) λ v e1 ev=>?_
  have hh:v = .ref l:=ev; subst hh
  subst e1
  refine E12 (Zae (S.objs _ ha.mem)) λ items x hv=>?_
  have hi:=Zgb hv
  obtain ⟨xs,hx⟩:=hi.allInts.items
  have hxs:items=intItems xs:=by simpa using hx
  have e2:preSum (numAt xs) xs.size=ns.sum:=by
   have:ns=xs.toList.map (·.1):=by
    rw [← nums_intItems,← hxs]; exact hi.numsOf.symm
   rw [preSum_eq,this,List.take_of_length_le (by simp)]
  refine sum_intListG (xs:=xs) C.room.handled (hxs ▸ x) λ h' tk t' hk=>?_
  rw [e2]
  have X:Eff [] s { s with heap:=h',toks:=tk }:=.ext hk
  exact hQ _ _ _ _ ⟨rfl,rfl⟩ X.tk (S.ext X) ⟨_,rfl⟩) hs hc)
theorem Run.assignTX {elts:List Expr} {k:Nat} {tp pos:Pos} {e:Expr} {rest:List Stmt} {P:D→Led→Prop} {K:Flow→Shared→Prop} (he:EvX C σ O e P) (h:∀ d O',P d O'→ThenT C σ O' (.Tuple elts k tp) d rest K)
  (hs:autoParam (swapsWithSole [.Tuple elts k tp] e pos.line C.env=pure false) tR)
  (hw:autoParam (swappedStores [.Tuple elts k tp] e C.env=pure Option.none) tR):Run C σ O (.Assign [.Tuple elts k tp] e pos::rest) K:=
 Run.cons λ s S=>Assign_Tuple (he s S _ λ v s₁ d O' p t₁ S₁ hv=>by
  obtain ⟨σ₁,O₁,ha,hr⟩:=h d O' p
  exact ha s₁ v S₁ hv _ λ s₂ t₂ S₂=>hr s₂ S₂) hs hw
end
section
set_option maxRecDepth 100000
set_option maxHeartbeats 4000000
variable {B:Bs} {C:Cx B} {σ σ':Loc} {O O':Led}
theorem Zkr (ns:List Nat):ns.map D.nat=(ns.map λ (n:Nat)=>(n:Int)).map .int:=by simp [Function.comp_def]
theorem Cmp.neNats {l b:Addr} {xs ys:List Nat} (hl:OAt O l (.list (xs.map D.nat))) (hb:OAt O b (.list (ys.map D.nat))):Cmp C σ O .NotEq (.ref l) (.ref b) (xs != ys):=by
 rw [Zkr] at hl hb
 have:=Cmp.neInts (C:=C) (σ:=σ) hl hb
 rwa [show ((xs.map λ (n:Nat)=>(n:Int)) != ys.map λ (n:Nat)=>(n:Int))=(xs != ys) from ?_] at this
 rw [Bool.eq_iff_iff,bne_iff_ne,bne_iff_ne]
 refine not_congr ⟨λ h=>by
  have:=congrArg (List.map Int.toNat) h
  simpa [Function.comp_def] using this,λ h=>by rw [h]⟩
noncomputable def Zex (rules:List (Nat × Nat)) (p:Nat):List Nat:=(rules.filter λ r=>r.1==p).map (·.2)
noncomputable def Zcj (rules:List (Nat × Nat)) (p:Nat):List (Nat × Nat):=rules.filter λ r=>r.1 != p
noncomputable def Zeq (rules:List (Nat × Nat)) (drawn:List Nat) (p:Nat):List Nat:=if (Zex rules p).isEmpty=true then [Zbk p drawn] else [Zbk p drawn,p]
noncomputable def lawNames:List Str:=["script", "numbers", "symbols", "due", "drawn", "written", "writer", "body", "stem", "document", "page", "rules", "own", "led", "common"]
noncomputable def lawEnd (dr ru:Addr):Loc:=[("script",none),("numbers",none),("symbols",none),("due",none),("drawn",some (.ref dr)),("written",none),("writer",none),("body",none),("stem",none),("document",none),("page",none),("rules",some (.ref ru)),("own",none),("led",none),("common",none)]
noncomputable def Zhh (L:Addr):List (Str × Addr):=[("places",L+3),("words",L+2),("first",L+1)]
theorem law_loop (T:Top B) {L dr ru:Addr} {drawn:List Nat} {rules:List (Nat × Nat)} {tab:Led} (I:In C (stAt 84) (Zhh L)) (hn:8≤C.n) (hr:∀ r∈rules,r.2 < 16) (hz:rules.length≤1000)
  (h:∀ p,p < 16→Zex rules p++[Zdo (Zcj rules p) p]=Zeq rules drawn p) :
  Run C (lawEnd dr ru) ([(L+3,.cell Option.none),(ru,.list (rules.map Zax)),(dr,.list (drawn.map D.nat))]++tab) ((Zcv (stAt 84)).drop 16) (Ends C λ d U'=>d = .bool true∧U'=tab):=by
 refine Run.kabs λ K hE=>?_
 have hzz:sizeLine=16777216:=by decide +kernel
 have hcl:∀ {scope:Scope},(∀ x∈scope.names,x.2 = .free→x.1 = "places")→∀ x∈scope.names,x.2 = .free→C.env.cells.lookup x.1=some (L+3):=λ h x hx hf=>by
  rw [h x hx hf]; exact I.cell rfl
 refine Run.for_ (Iter.range1 (b:=16) (n:=16) (.bn T I rfl) .int (by decide +kernel) (by kernel_rfl))
  (λ i=>lawEnd dr ru)
  (λ i=>[(L+3,.cell (match i with | 0=>none | k+1=>some (.nat k))),(ru,.list (rules.map Zax)),(dr,.list (drawn.map D.nat))]++tab) (Kb:=λ _=>False) ⟨⟨rfl,rfl⟩,λ _ _=>trivial,λ i d hd S=>?_,?_,λ _ h=>h.elim⟩
 ·refine E02 (Zdl hd) λ hi Y1=>?_
  subst Y1
  have e1:D.int (0+(i:Int) * 1) = .nat i:=by simp
  rw [e1]
  replace h:=h i (by simpa using hi)
  generalize (match i with | 0=>none | k+1=>some (D.nat k):Option D)=cv
  refine ⟨_,_,.cell (I.kinds (by decide +kernel)) (I.cell rfl) (.z) (.z),?_⟩
  have hpl:∀ {σ O} {pos:Pos},OAt O (L+3) (.cell (some (.nat i)))→Ev C σ O (.Name "places" pos) (.nat i):=λ ho=>.cell (I.cell rfl) (.inl (I.kinds (by decide +kernel))) ho
  -- own
  refine Run.assignComp (names:=["ahead", "behind"]) ⟨by decide +kernel,rfl,by decide +kernel,by decide +kernel,by decide +kernel,Zaw (λ x=>L+3) (hcl (by decide +kernel))⟩ (by show Str.ofString "own" ∈ lawNames; decide +kernel) (by kernel_rfl)
   (Iter.list (l:=ru) (ds:=rules.map Zax) (Ev.name (.q11)).toX (List.mem_cons_of_mem _ List.mem_cons_self)).toX ?_
  refine exN ?_
  refine ⟨λ d=>(dp d).1==i,λ d=>.nat (dp d).2,⟨λ q=>List.mem_cons_of_mem _ (List.mem_cons_of_mem _ List.mem_cons_self),λ C' IC j d hd a acc R=>?_,by rw [List.length_map]; (apply Wls;assumption;rfl)⟩,λ ow=>⟨_,.q12,?_⟩⟩
  ·refine E12 (Zbt hd) λ r hr Y1=>?_
   subst Y1
   rw [Zgd]
   exact ⟨_,.tup2 (.name .z) (.name .q1),.one (.cmp (.name .z) (IC.cell (.q1) rfl) .eqN),λ _=>.name .q1⟩
  have e2:((rules.map Zax).filter λ d=>(dp d).1==i).map (λ d=>D.nat (dp d).2)=(Zex rules i).map D.nat:=by
   unfold Zex
   rw [List.filter_map,List.map_map,List.map_map]
   rfl
  rw [e2]
  have hol:(Zex rules i).length≤1000:=by
   unfold Zex
   rw [List.length_map]
   exact Nat.le_trans (List.length_filter_le _ _) hz
  -- led
  refine .assignX (EvX.callX (P:=λ d O'=>∃ rs,d = .nat (Zdo (Zcj rules i) i)∧O'=(rs,.list ((Zcj rules i).map Zax))::(ow,.list ((Zex rules i).map D.nat))::([(L+3,.cell (some (.nat i))),(ru,.list (rules.map Zax)),(dr,.list (drawn.map D.nat))]++tab)++S (i+1)) (.gn T I 83) (T.gn (i:=83) (by kernel_rfl)).2.isDef
   (.two (P:=λ d O'=>∃ rs,d = .ref rs∧O'=(rs,.list ((Zcj rules i).map Zax))::(ow,.list ((Zex rules i).map D.nat))::([(L+3,.cell (some (.nat i))),(ru,.list (rules.map Zax)),(dr,.list (drawn.map D.nat))]++tab)++S (i+1)) (hpl (.q1)) ?_) (n:=1) (by lia) ?_) ?_
  ·refine .listComp (names:=["rule"]) ⟨by decide +kernel,rfl,by decide +kernel,by decide +kernel,by decide +kernel,Zaw (λ x=>L+3) (hcl (by decide +kernel))⟩ (Iter.list (l:=ru) (ds:=rules.map Zax) (Ev.name (.q11)).toX (List.mem_cons_of_mem _ (List.mem_cons_of_mem _ List.mem_cons_self))).toX ?_
   refine exN ?_
   refine ⟨λ d=>(dp d).1 != i,λ d=>d,⟨λ q=>List.mem_cons_of_mem _ (List.mem_cons_of_mem _ (List.mem_cons_of_mem _ List.mem_cons_self)),λ C' IC j d hd a acc R=>?_,by rw [List.length_map]; (apply Wls;assumption;rfl)⟩,λ a=>⟨a,rfl,?_⟩⟩
   ·refine E12 (Zbt hd) λ r hr Y1=>?_
    subst Y1
    rw [Zgd]
    exact ⟨_,.name .z,.one (.cmp (.itemTup (ds:=[.nat r.1,.nat r.2]) (.name .z) .int (by decide) rfl) (IC.cell (.q2) rfl) .neN),λ _=>.name .z⟩
   ·unfold Zcj
    rw [List.map_id',List.filter_map]
    rfl
  ·intro ds O₁ hq0
   refine E12 hq0 λ d Y1 Y2=>?_
   try clear hq0
   subst Y2
   refine E12 Y1 λ rs Y3 Y4=>?_
   clear Y1
   subst Y3
   subst Y4
   have hr':∀ r∈Zcj rules i,r.2 < 16:=λ r hm=>hr r (List.mem_filter.mp hm).1
   refine ⟨_,_,_,led_calls T hr' (by simpa using hi),.refl ([_]++_),?_⟩
   intro d U' hq0
   refine E02 hq0 λ Y1 Y2=>?_
   try clear hq0
   subst Y1
   subst Y2
   exact ⟨rs,rfl,rfl⟩
  refine ex1 λ rs=>?_
  refine ⟨_,.q13,?_⟩
  refine .assign (.call1 (.gn T I 77) (T.gn (i:=77) (by kernel_rfl)).2.isDef (.cons (hpl (.q2)) (.cons (.name (.q4)) .nil)) (Zgo T) (by lia) (.q4)) (.q14) ?_
  refine .ite (b:=false) ((Tst.cmpX (b:=Zex rules i++[Zdo (Zcj rules i) i] != Zeq rules drawn i) (P1:=λ d O'=>∃ a b,d = .ref a∧O'=(a,.list ((Zex rules i++[Zdo (Zcj rules i) i]).map D.nat))::(b,.list ([Zdo (Zcj rules i) i].map D.nat))::(rs,.list ((Zcj rules i).map Zax))::(ow,.list ((Zex rules i).map D.nat))::([(L+3,.cell (some (.nat i))),(ru,.list (rules.map Zax)),(dr,.list (drawn.map D.nat))]++tab)++S (i+1))
   (P2:=λ d O1 e O2=>∃ c,e = .ref c∧O2=(c,.list ((Zeq rules drawn i).map D.nat))::O1) (.bin (Ev.name (.q12)).toX (P2:=λ d O1 e O2=>∃ b,e = .ref b∧O2=(b,.list ([Zdo (Zcj rules i) i].map D.nat))::O1) ?_ ?_) ?_ ?_).cast ?_) (λ h=>nomatch h) λ _=>?_
  ·intro d O1 hq0
   refine E02 hq0 λ Y1 Y2=>?_
   try clear hq0
   subst Y1
   subst Y2
   exact .list (.cons (.name (.q13)) .nil)
  ·intro d O1 e O2 hq0 hq1 s v u S ev eu Q hQ
   refine E02 hq0 λ Y1 Y2=>?_
   try clear hq0
   subst Y1
   subst Y2
   refine E12 hq1 λ b Y1 Y2=>?_
   try clear hq1
   subst Y1
   subst Y2
   refine BinX.addList (.q2) (.z) (by simp; exact Wn [_] (.a (.v 0) (.n 1)) (.n 16777216) [(1,.v 0,.n 1000)] rfl hol) s v u S ev eu Q λ r s' f O' ⟨a,e1,e2⟩=>hQ r s' f O' ⟨a,b,e1,?_⟩
   rw [e2,List.map_append]; rfl
  ·intro d O1 hq0
   refine E22 hq0 λ a b Y1 Y2=>?_
   try clear hq0
   subst Y1
   subst Y2
   refine .ifExp (b:=!(Zex rules i).isEmpty) ((Tst.neNil (.name (.q12)) (.q3)).cast (by rw [List.isEmpty_map])) (λ hb=>?_) (λ hb=>?_)
   ·have:Zeq rules drawn i=[Zbk i drawn,i]:=by
     unfold Zeq; rw [if_neg (by simpa using hb)]
    rw [this]
    exact .list (.cons (.name (.q14)) (.cons (hpl (.q4)) .nil))
   ·have:Zeq rules drawn i=[Zbk i drawn]:=by
     unfold Zeq; rw [if_pos (by simpa using hb)]
    rw [this]
    exact .list (.cons (.name (.q14)) .nil)
  ·intro d O1 e O2 hq0 hq1
   refine E22 hq0 λ a b Y1 Y2=>?_
   try clear hq0
   subst Y1
   subst Y2
   refine E12 hq1 λ c Y1 Y2=>?_
   try clear hq1
   subst Y1
   subst Y2
   exact ⟨.neNats (.q1) (.z),[_,_,_],rfl⟩
  ·rw [h]; simp
  refine .next (.done ?_ ?_ λ s S'=>S')
  ·exact .keep (.keep (.keep (.keep (.keep (.keep (.keep (.keep (.keep (.keep (.keep (.keep (.drop (.drop (.drop .nil))))))))))))))
  ·exact .cons _ (.cons _ (.refl _))
 ·exact .next (.ret .bool λ v s S x=>hE _ _ (Ends.of ⟨rfl,rfl⟩ S (.cons _ (.cons _ (.cons _ (.refl _)))) x))
theorem Ev.gnC {C':Cx B} {scope:Scope} {cl:List (Str × Addr)} {names:List Str} {x:Str} {pos:Pos} (T:Top B) (IC:InComp C C' scope cl names) (i:Nat) (h:autoParam ([5,8,9,12,13,66,67,69,70,71,72,73,74,75,76,77,78,79,80,81,82,83].contains i=true) tE)
  (hx:autoParam (scope.names.lookup x=some .globalImplicit) tD) (e:autoParam ((Zcc (stAt i)==x)=true) tE) (hd:autoParam ((x==("__debug__" : Str))=false) tE):Ev C' σ O (.Name x pos) (.ref (T.fA i)):=
 .glob (IC.kind hx (by decide)) (by rw [← eq_of_beq e]; exact (T.gn h).1) (λ _ _=>rfl) hd
noncomputable def Zaq (f:Nat→Str) (st:List (Nat × Nat)):List Str:=st.map λ r=>(f r.1 ++ " < ")++f r.2
theorem lines_eq (f:Nat→Str) (st:List (Nat × Nat)):((st.map Zax).filter λ _=>true).map (λ d=>D.str ((f (dp d).1 ++ " < ")++f (dp d).2))=(Zaq f st).map .str:=by
 unfold Zaq
 rw [List.filter_eq_self.mpr (λ _ _=>rfl),List.map_map,List.map_map]
 exact List.map_congr_left λ r _=>by show D.str _=D.str _; rw [Zgd]
theorem Zfy {f:Nat→Str} {st:List (Nat × Nat)} (hs:∀ r∈st,r.1 < 16∧r.2 < 16) (hf:∀ a < 16,(f a).length≤100) (hl:st.length≤16) :
  ((Zaq f st).map (·.length)).sum+(Zaq f st).length * (" &\r" : Str).length ≤ 4000 ∧ (Txt.join " &\r" (Zaq f st)).length≤4000:=by
 have h3:(" &\r" : Str).length=3:=by decide +kernel
 have h1:((Zaq f st).map (·.length)).sum≤203 * (Zaq f st).length:=by
  refine Zcq _ 203 _ λ x hx=>?_
  refine E12 (List.mem_map.mp hx) λ r hr Y1=>?_
  subst Y1
  have a1:=hf r.1 (hs r hr).1
  have a2:=hf r.2 (hs r hr).2
  rw [Zak,Zak]
  have:(" < " : Str).length=3:=by decide +kernel
  exact Wn [_,_,_] (.a (.a (.v 0) (.v 1)) (.v 2)) (.n 203) [(1,.v 1,.n 3),(1,.v 2,.n 100),(1,.v 0,.n 100)] rfl (We this) a2 a1
 have h2:(Zaq f st).length≤16:=by unfold Zaq; rw [List.length_map]; exact hl
 have h4:((Zaq f st).map (·.length)).sum+(Zaq f st).length * (" &\r" : Str).length≤4000:=by rw [h3]; exact Wn [_,_] (.a (.v 0) (.r (.v 1) 3)) (.n 4000) [(206,.v 1,.n 16),(1,.v 0,.m 203 (.v 1))] rfl h2 h1
 refine ⟨h4,?_⟩
 unfold Txt.join
 rw [size_glued]
 have:((Zaq f st).length - 1) * (" &\r" : Str).length ≤ (Zaq f st).length * (" &\r" : Str).length:=Nat.mul_le_mul_right _ (Nat.sub_le _ _)
 exact Wn [_,_,_] (.a (.v 0) (.v 1)) (.n 4000) [(1,.v 1,.v 2),(1,.a (.v 0) (.v 2),.n 4000)] rfl this h4
set_option genInjectivity false in
structure Mid where
 rw:RwSt
 pl:List Nat
 sp:List Nat
 pg:List Nat
 rl:RlSt
noncomputable def Mid.stem (m:Mid):List (Nat × Nat):=Zah (m.rw.1.drop 1)
noncomputable def Zer (first:Nat) (st:List (Nat × Nat)):Str:=Txt.join " &\r" (Zaq (λ a=>Zap (a <<< first)) st)
noncomputable def endOf (outl:List Str) (t:Str):List Str:=outl++fl [t]++[Zaz "e"]
structure MidOk (first:Nat) (ws outl:List Str) (bl drawn:List Nat) (m:Mid):Prop where
 f28:first≤28
 ws4:ws.length=4
 ws20:∀ x∈ws,x.length≤20
 blz:bl.length≤1000000
 rw:Zji ws (lex [] bl)=some m.rw
 small:∀ r∈m.stem,r.1 < 16∧r.2 < 16
 p100:∀ a < 16,(Zap (a <<< first)).length≤100
 s100:∀ a < 16,(Zdz a ws).length≤100
 page:Txt.join " &\r" (Zaq (λ a=>Zdz a ws) m.stem)=sl m.pl
 asc:m.pl.all (· < 128)=true
 oz:outl.length≤8000
 dz:((endOf outl (Zer first m.stem)).map (·.length)).sum≤2000000
 spz:(Zev m.pl).length≤1000000
 doc:Txt.join "" (endOf outl (Zer first m.stem))=(sl bl++Zev m.pl) ++ "</e>"
 slice:Txt.slice ((sl bl++Zev m.pl) ++ "</e>") (some bl.length) (some (-4))=sl m.sp
 slz:m.sp.length≤1000000
 unw:Zio (lex [] m.sp)=some m.pg
 pgz:m.pg.length≤900000
 rul:rulRun ws m.pg=some m.rl
 r16:∀ r∈m.rl.1,r.2 < 16
 rlz:m.rl.1.length≤1000
 want:∀ p,p < 16→Zex m.rl.1 p++[Zdo (Zcj m.rl.1 p) p]=Zeq m.rl.1 drawn p
noncomputable def lawMid (dr:Addr) (W:Wr) (bl:List Nat):Loc:=[("script",none),("numbers",none),("symbols",none),("due",none),("drawn",some (.ref dr)),("written",some (.ref W.out)),("writer",some (.ref W.x)),("body",some (strD bl)),("stem",none),("document",none),("page",none),("rules",none),("own",none),("led",none),("common",none)]
noncomputable def lowL (L w dr:Addr) (first:Nat) (ws:List Str) (drawn:List Nat):Led:=[(L+3,.cell Option.none),(L+2,.cell (some (.ref w))),(L+1,.cell (some (.nat first))),(w,.list (ws.map .str)),(dr,.list (drawn.map D.nat))]
theorem fgMid {a b c d e f g h i j:Option D} (dr ru:Addr):Fg [("script",a),("numbers",b),("symbols",c),("due",d),("drawn",some (.ref dr)),("written",e),("writer",f),("body",g),("stem",h),("document",i),("page",j),("rules",some (.ref ru)),("own",none),("led",none),("common",none)] (lawEnd dr ru):=
 .drop (.drop (.drop (.drop (.keep (.drop (.drop (.drop (.drop (.drop (.drop (.keep (.keep (.keep (.keep .nil))))))))))))))
theorem Zfl {α : Type} (x : α) (A B:List α):([x]++(A++B)).Perm (A++x::B):=by show (x::(A++B)).Perm _; exact List.perm_middle.symm
theorem nameOk_e:Zgs "e" := ⟨⟨by decide +kernel,by decide +kernel⟩,by unfold NoOcc; kernel_rfl⟩
theorem law_mid (T:TopC B) {L dr w r nn:Addr} {W:Wr} {first:Nat} {ws outl:List Str} {bl drawn:List Nat} {m:Mid} {ns:List D} {done:Bool} {tab:Led} (I:In C (stAt 84) (Zhh L)) (hn:8≤C.n) (hns:ns.length≤100) (ok:MidOk first ws outl bl drawn m) :
  Run C (lawMid dr W bl) (lowL L w dr first ws drawn++wU T.K W (ns++[.ref r]) [.bool false,.bool false] outl [] true done [nn] tab) ((Zcv (stAt 84)).drop 9) (Ends C λ d U'=>d = .bool true∧U'=tab):=by
 refine Run.kabs λ K hE=>?_
 have hzz:sizeLine=16777216:=by decide +kernel
 have hse:(" &\r" : Str).length=3:=by decide +kernel
 have h4:("</e>" : Str).length=4:=by decide +kernel
 have hlt:(" < " : Str).length=3:=by decide +kernel
 have h0:("" : Str).length=0:=rfl
 have hstl:m.stem.length≤16:=Zfh _ 16
 have hcl:∀ {scope:Scope} {x₀:Str} {k:Nat},(Zhh L).lookup x₀=some (L+k)→(∀ x∈scope.names,x.2 = .free→x.1=x₀)→∀ x∈scope.names,x.2 = .free→C.env.cells.lookup x.1=some (L+k):=λ hk h x hx hf=>by
  rw [h x hx hf]; exact I.cell hk
 have hws:=ok.ws4
 have hbz:=ok.blz
 have hf28:=ok.f28
 have hwo:∀ {σ O} {pos:Pos},OAt O (L+2) (.cell (some (.ref w)))→Ev C σ O (.Name "words" pos) (.ref w):=λ ho=>.cell (I.cell rfl) (.inl (I.kinds (by decide +kernel))) ho
 have hpow:∀ {a:Nat},a < 16→a <<< first < 2 ^ 32:=λ {a} ha=>by
  rw [Nat.shiftLeft_eq]
  have h1:2 ^ first≤2 ^ 28:=Nat.pow_le_pow_right (by decide) hf28
  have:a * 2 ^ first≤15 * 2 ^ 28:=Nat.mul_le_mul (by exact Wn [_] (.v 0) (.n 15) [(1,.a (.v 0) (.n 1),.n 16)] rfl ha) h1
  lia
 generalize hRR:wU T.K W (ns++[.ref r]) [.bool false,.bool false] outl [] true done [nn] tab=RR
 -- stem
 refine .assignX (EvX.callX (P:=λ d O'=>∃ st rw,d = .ref st∧O'=[(st,.list (m.stem.map Zax)),(rw,.list ((m.rw.1.drop 1).map D.nat))]++(lowL L w dr first ws drawn++RR)) (.gn T.T I 78) (T.T.gn (i:=78) (by kernel_rfl)).2.isDef
  (.one (P:=λ d O'=>∃ rw,d = .ref rw∧O'=[(rw,.list ((m.rw.1.drop 1).map D.nat))]++(lowL L w dr first ws drawn++RR)) ?_) (n:=2) (by lia) ?_) ?_
 ·refine EvX.perm (.callP (U:=[(w,.list (ws.map .str))]) (R:=[(L+3,.cell Option.none),(L+2,.cell (some (.ref w))),(L+1,.cell (some (.nat first)))]++((dr,.list (drawn.map D.nat))::RR)) (.gn T.T I 76) (T.T.gn (i:=76) (by kernel_rfl)).2.isDef (.cons (.name (.q7)) (.cons (hwo (.q1)) .nil)) (rows_calls T.T hbz (by exact Wn [_] (.v 0) (.n 64) [(1,.v 0,.n 4)] rfl (We hws)) ok.rw) (by lia) ?_) ?_
  ·exact Zfl _ [_,_,_] _
  ·refine exC1 λ a=>?_
   refine ⟨_,?_,a,rfl,rfl⟩
   exact (Zfl _ [_,_,_] _).symm.cons _
 ·intro ds O₁ hq0
  refine E12 hq0 λ d Y1 Y2=>?_
  try clear hq0
  subst Y2
  refine E12 Y1 λ rw' Y3 Y4=>?_
  clear Y1
  subst Y3
  subst Y4
  refine ⟨_,_,_,stem_calls T.T,.refl ([_]++_),?_⟩
  intro d U' hq0
  refine E12 hq0 λ a Y1 Y2=>?_
  try clear hq0
  subst Y1
  subst Y2
  exact ⟨a,rw',rfl,rfl⟩
 intro d O' hq0
 refine E22 hq0 λ st rw' Y1 Y2=>?_
 try clear hq0
 subst Y1
 subst Y2
 refine ⟨_,.q8,?_⟩
 subst hRR
 have hlines:=Zfy ok.small ok.p100 hstl
 have hlines2:=Zfy ok.small ok.s100 hstl
 -- data
 refine .exprX (.methP (U:=wU T.K W (ns++[.ref r]) [.bool false,.bool false] outl [] true done [nn] tab) (R:=[(st,.list (m.stem.map Zax)),(rw',.list ((m.rw.1.drop 1).map D.nat))]++lowL L w dr first ws drawn) (ds:=[.str (Zer first m.stem)]) T.cls (.name (.q6)) (.q11) (.q12) (by rw [Wr.attrs_names]; decide +kernel) (T.meth (i:=4) (by kernel_rfl)).1 (T.meth (i:=4) (by kernel_rfl)).2 (Zar (by kernel_rfl))
  (.cons (.joinX (ys:=Zaq (λ a=>Zap (a <<< first)) m.stem) .str ?_ ?_) .nil) (data_calls T) (by lia) ?_) ?_ ?_
 ·refine .listComp (names:=["ahead", "behind"]) ⟨by decide +kernel,rfl,by decide +kernel,by decide +kernel,by decide +kernel,Zaw (λ x=>L+1) (hcl (x₀ := "first") rfl (by decide +kernel))⟩ (Iter.list (l:=st) (ds:=m.stem.map Zax) (Ev.name (.q8)).toX List.mem_cons_self).toX ?_
  refine exN ?_
  refine ⟨λ _=>true,λ d=>.str ((Zap ((dp d).1 <<< first) ++ " < ")++Zap ((dp d).2 <<< first)),⟨λ q=>List.mem_cons_of_mem _ List.mem_cons_self,λ C' IC j d hd a acc R=>?_,by rw [List.length_map]; (apply Wls;assumption;rfl)⟩,λ a=>⟨a,[],rfl,?_⟩⟩
  ·refine E12 (Zbt hd) λ r hr Y1=>?_
   subst Y1
   refine E02 (ok.small r (List.mem_of_getElem? hr)) λ s1 s2=>?_
   have l1:=ok.p100 _ s1
   have l2:=ok.p100 _ s2
   rw [Zgd]
   refine ⟨_,.tup2 (.name .z) (.name .q1),.nil,λ _=>.addStr (.addStr (.call0 (.gnC T.T IC 12) (T.T.gn (i:=12) (by kernel_rfl)).2.isDef (.cons (.shlN (.name (.z)) (IC.cell (.q5) rfl) (by exact Wn [_] (.v 0) (.n 1000000) [(1,.v 0,.n 28)] rfl hf28) (by lia)) .nil) (Zed T.T (hpow s1)) (by rw [IC.n]; lia)) .str (by exact Wn [_,_] (.a (.v 0) (.v 1)) (.n 16777216) [(1,.v 0,.n 100),(1,.v 1,.n 3)] rfl l1 (We hlt)))
    (.call0 (.gnC T.T IC 12) (T.T.gn (i:=12) (by kernel_rfl)).2.isDef (.cons (.shlN (.name (.q1)) (IC.cell (.q5) rfl) (by exact Wn [_] (.v 0) (.n 1000000) [(1,.v 0,.n 28)] rfl hf28) (by lia)) .nil) (Zed T.T (hpow s2)) (by rw [IC.n]; lia)) (by rw [Zak]; exact Wn [_,_,_] (.a (.a (.v 0) (.v 1)) (.v 2)) (.n 16777216) [(1,.v 2,.n 100),(1,.v 0,.n 100),(1,.v 1,.n 3)] rfl l2 l1 (We hlt))⟩
  ·rw [lines_eq (λ a=>Zap (a <<< first))]; rfl
 ·exact Wn [_,_] (.a (.v 0) (.v 1)) (.n 16777216) [(1,.a (.v 0) (.v 1),.n 4000)] rfl hlines.1
 ·exact List.perm_append_comm
 ·refine exC0 ?_
  refine .perm List.perm_append_comm ?_
  -- end
  refine .exprX (.methP (U:=wU T.K W (ns++[.ref r]) ([.bool false]++[.bool false]) outl ([Zer first m.stem].map .str) true done ([]++[nn]) tab) (R:=[(st,.list (m.stem.map Zax)),(rw',.list ((m.rw.1.drop 1).map D.nat))]++lowL L w dr first ws drawn) (ds:=[.str "e"]) T.cls (.name (.q6)) (.q11) (.q12) (by rw [Wr.attrs_names]; decide +kernel) (T.meth (i:=9) (by kernel_rfl)).1 (T.meth (i:=9) (by kernel_rfl)).2 (Zar (by kernel_rfl))
   (.cons .str .nil) (Zik T (.inr ⟨_,rfl,hlines.2⟩) nameOk_e ⟨by decide,by exact Wn [_] (.v 0) (.n 1000) [(1,.v 0,.n 100)] rfl hns,by have:=ok.oz; exact Wn [_] (.v 0) (.n 9000) [(1,.v 0,.n 8000)] rfl this⟩ (Nat.zero_le _)) (by lia) List.perm_append_comm) ?_ ?_
  ·refine exC2 λ done'=>?_
   refine .perm List.perm_append_comm ?_
   refine .assign (d:=.str ((sl bl++Zev m.pl) ++ "</e>")) ((Ev.join (ys:=endOf outl (Zer first m.stem)) .str (.name (.q5)) (.q10) (by show ((endOf outl (Zer first m.stem)).map (·.length)).sum+_ * 0≤_; have:=ok.dz; (apply Wls;assumption;rfl))).cast (congrArg D.str ok.doc)) (.q9) ?_
   refine .assign (d:=.str (sl m.pl)) ((Ev.joinX (ys:=Zaq (λ a=>Zdz a ws) m.stem) .str ?_ ?_).cast (congrArg D.str ok.page)) (.q10) ?_
   ·refine .listComp (names:=["ahead", "behind"]) ⟨by decide +kernel,rfl,by decide +kernel,by decide +kernel,by decide +kernel,Zaw (λ x=>L+2) (hcl (x₀ := "words") rfl (by decide +kernel))⟩ (Iter.list (l:=st) (ds:=m.stem.map Zax) (Ev.name (.q8)).toX List.mem_cons_self).toX ?_
    refine exN ?_
    refine ⟨λ _=>true,λ d=>.str ((Zdz (dp d).1 ws ++ " < ")++Zdz (dp d).2 ws),⟨λ q=>List.mem_cons_of_mem _ List.mem_cons_self,λ C' IC j d hd a acc R=>?_,by rw [List.length_map]; (apply Wls;assumption;rfl)⟩,λ a=>⟨a,[],rfl,?_⟩⟩
    ·refine E12 (Zbt hd) λ r hr Y1=>?_
     subst Y1
     refine E02 (ok.small r (List.mem_of_getElem? hr)) λ s1 s2=>?_
     have l1:=ok.s100 _ s1
     have l2:=ok.s100 _ s2
     rw [Zgd]
     refine ⟨_,.tup2 (.name .z) (.name .q1),.nil,λ _=>.addStr (.addStr (.call1 (.gnC T.T IC 79) (T.T.gn (i:=79) (by kernel_rfl)).2.isDef (.cons (.name (.z)) (.cons (IC.cell (.q4) rfl) .nil)) (Zje T.T ok.ws4 ok.ws20) (by rw [IC.n]; lia) (.q6)) .str (by exact Wn [_,_] (.a (.v 0) (.v 1)) (.n 16777216) [(1,.v 0,.n 100),(1,.v 1,.n 3)] rfl l1 (We hlt)))
      (.call1 (.gnC T.T IC 79) (T.T.gn (i:=79) (by kernel_rfl)).2.isDef (.cons (.name (.q1)) (.cons (IC.cell (.q4) rfl) .nil)) (Zje T.T ok.ws4 ok.ws20) (by rw [IC.n]; lia) (.q6)) (by rw [Zak]; exact Wn [_,_,_] (.a (.a (.v 0) (.v 1)) (.v 2)) (.n 16777216) [(1,.v 2,.n 100),(1,.v 0,.n 100),(1,.v 1,.n 3)] rfl l2 l1 (We hlt))⟩
    ·rw [lines_eq (λ a=>Zdz a ws)]; rfl
   ·exact Wn [_,_] (.a (.v 0) (.v 1)) (.n 16777216) [(1,.a (.v 0) (.v 1),.n 4000)] rfl hlines2.1
   have hpl:m.pl.length≤1000000:=by rw [← Zal,← ok.page]; exact Wn [_] (.v 0) (.n 1000000) [(1,.v 0,.n 4000)] rfl hlines2.2
   have hspz:=ok.spz
   refine .ite (b:=false) ((Tst.cmp (.name (.q9)) (.addStr (.addStr (.name (.q7)) (.call0 (.gn T.T I 80) (T.T.gn (i:=80) (by kernel_rfl)).2.isDef (.cons (.name (.q10)) .nil) (spell_calls T.T hpl ok.asc) (by lia)) (by rw [Zal]; exact Wn [_,_] (.a (.v 0) (.v 1)) (.n 16777216) [(1,.v 1,.n 1000000),(1,.v 0,.n 1000000)] rfl hspz hbz)) .str (by rw [Zak,Zal]; exact Wn [_,_,_] (.a (.a (.v 0) (.v 1)) (.v 2)) (.n 16777216) [(1,.v 1,.n 1000000),(1,.v 0,.n 1000000),(1,.v 2,.n 4)] rfl hspz hbz (We h4))) .neStr).cast (by simp)) (λ h=>nomatch h) λ _=>.next ?_
   -- rules
   refine .assignX (EvX.callP (U:=[(w,.list (ws.map .str))]) (R:=[(st,.list (m.stem.map Zax)),(rw',.list ((m.rw.1.drop 1).map D.nat)),(L+3,.cell Option.none),(L+2,.cell (some (.ref w))),(L+1,.cell (some (.nat first)))]++((dr,.list (drawn.map D.nat))::wU T.K W ns [.bool false] (outl++fl [Zer first m.stem]++[Zaz "e"]) [] true done' [] tab)) (.gn T.T I 82) (T.T.gn (i:=82) (by kernel_rfl)).2.isDef
    (.cons (.call0 (.gn T.T I 81) (T.T.gn (i:=81) (by kernel_rfl)).2.isDef (.cons ((Ev.sliceStr (.name (.q9)) (.some (.lenStr (.bn T.T I rfl) (.name (.q7)) (by rw [Zal]; (apply Wls;assumption;rfl)))) (.some (.neg .int)) (by rw [Zak,Zak,Zal]; exact Wn [_,_,_] (.a (.a (.v 0) (.v 1)) (.v 2)) (.n 16777216) [(1,.v 1,.n 1000000),(1,.v 0,.n 1000000),(1,.v 2,.n 4)] rfl hspz hbz (We h4))).cast ?_) .nil) (Zju T.T ok.slz ok.unw (by have:=ok.pgz; exact Wn [_] (.v 0) (.n 1000000) [(1,.v 0,.n 900000)] rfl this)) (by lia)) (.cons (hwo (.q3)) .nil)) (rules_calls T.T ok.pgz (by exact Wn [_] (.v 0) (.n 64) [(1,.v 0,.n 4)] rfl (We hws)) ok.rul) (by lia) ?_) ?_
   ·rw [Zal]; exact congrArg D.str ok.slice
   ·exact Zfl _ [_,_,_,_,_] _
   refine exC1 λ ru=>?_
   refine ⟨_,.q11,?_⟩
   refine .forget (fgMid dr ru) ?_
   refine .subl (O':=[(ru,.list (m.rl.1.map Zax)),(L+3,.cell Option.none),(dr,.list (drawn.map D.nat))]++tab) ?_ (.perm (.swap _ _ _) (.mono (law_loop T.T I hn ok.r16 ok.rlz ok.want) hE))
   exact .cons_cons _ (.cons _ (.cons _ (.cons _ (.cons_cons _ (.cons _ (.cons _ (.cons_cons _ ((List.sublist_append_left tab (rsL [])).trans (List.sublist_append_right _ _)))))))))
  ·intro d O' hq0
   refine E12 hq0 λ U' Y1 _=>?_
   try clear hq0
   refine E02 Y1 λ Y2 _=>?_
   clear Y1
   subst Y2; rfl
 ·intro d O' hq0
  refine E12 hq0 λ U' Y1 _=>?_
  try clear hq0
  refine E02 Y1 λ Y2 _=>?_
  clear Y1
  subst Y2; rfl
noncomputable def Zao (ns:List Nat):Nat:=ns.sum % 29
noncomputable def outN (ns:List Nat):List Str:=(Zaj (Zao ns) (Zau ns) ((Zau ns).length - 1)).2
structure LawOk (xs:List Int) (ns:List Nat) (fin:DuSt) (bl:List Nat) (m:Mid):Prop where
 len:xs.length≤63
 nums:numsOf xs=ns.map λ (n:Nat)=>(n:Int)
 nlen:ns.length≤1000
 slen:(Zau ns).length≤1000
 tell:TellOk (Zao ns) (Zau ns) ((Zau ns).length - 1)
 tape:TapeOk (byteArr ((Zfm (Zau ns)).map λ (n:Nat)=>(n:Int))) (Zau ns)
 due:dueRun (wordsOf (Zao ns)) (Zau ns)=some fin
 same:Txt.join "" (outN ns) ++ "</e>" = fin.1
 body:Txt.join "" (outN ns)=sl bl
 bz:((outN ns).map (·.length)).sum≤1000000
 mid:MidOk (Zao ns) (wordsOf (Zao ns)) (outN ns) bl (fin.2.1.drop 1) m
theorem perm_law {α : Type} (A:List α) (a b c d e : α):([c,d,e,b,a]++A).Perm (A++[a,b,c,d,e]):=by
 classical
 rw [List.perm_iff_count]
 intro x
 simp only [List.count_append,List.count_cons,List.count_nil]
 lia
theorem perm_law2 {α : Type} (t:List α) (o : α) (R:List α):((o::t)++R).Perm (o::(R++t)):=by
 show (o::(t++R)).Perm _
 exact List.perm_append_comm.cons _
theorem Ends.imp {P P':D→Led→Prop} (h:∀ d U',P d U'→P' d U'):∀ f s,Ends C P f s→Ends C P' f s:=λ f s q=>by
 cases f with
 | ret v=>
  refine E42 q λ d U' σ' O' p r=>?_
  try clear q
  exact ⟨d,U',σ',O',h _ _ p,r⟩
 | next=>
  refine E32 q λ U' σ' O' p r=>?_
  try clear q
  exact ⟨U',σ',O',h _ _ p,r⟩
 | brk=>exact q
 | cont=>exact q
theorem law_calls (T:TopC B) {f l:Addr} {xs:List Int} {ns:List Nat} {fin:DuSt} {bl:List Nat} {m:Mid} {tab:Led} (d:DefTop B f (stAt 84) "law" .none .none) (ok:LawOk xs ns fin bl m) (htab:Zbl B.P Zbv lamQ tab) (hl:∀ h,B.G h→ShAt B h l (.list (xs.map .int))) :
  Calls B 10 (.ref f) [.ref l] tab λ d U'=>d = .bool true∧Zbl B.P Zbv lamQ U':=by
 have hzz:sizeLine=16777216:=by decide +kernel
 have h0:("" : Str).length=0:=rfl
 have h4:("</e>" : Str).length=4:=by decide +kernel
 refine .of_def d (("script",some (.ref l))::Zay ["numbers", "symbols", "due", "drawn", "written", "writer", "body", "stem", "document", "page", "rules", "own", "led", "common"]) [("places",none),("words",none),("first",none)] Zhh (λ L=>rfl) (λ L=>rfl) ⟨⟨rfl,rfl⟩,rfl⟩
  (by show lawNames.Nodup; decide +kernel) (by show ∀ x∈lawNames,_; decide +kernel) (by show (["places", "words", "first"]:List Str).Nodup; decide +kernel) ?_ ?_
 ·intro cd pm s vs _ hq0
  refine E12 (Vals.one hq0) λ v Y1 hv=>?_
  subst Y1
  refine ⟨[("script",v)],BindsTo.of_eq rfl,?_,⟨⟨v,rfl,hv⟩,noneOk _⟩,⟨rfl,rfl,rfl,trivial⟩⟩
  intro x hx
  rw [List.mem_singleton.mp hx]; exact .inl rfl
 intro C I hn
 generalize C.env.locals=L at I ⊢
 have hwo:∀ {σ O} {w:Addr} {pos:Pos},OAt O (L+2) (.cell (some (.ref w)))→Ev C σ O (.Name "words" pos) (.ref w):=λ ho=>.cell (I.cell rfl) (.inl (I.kinds (by decide +kernel))) ho
 have hfi:∀ {σ O} {k:Nat} {pos:Pos},OAt O (L+1) (.cell (some (.nat k)))→Ev C σ O (.Name "first" pos) (.nat k):=λ ho=>.cell (I.cell rfl) (.inl (I.kinds (by decide +kernel))) ho
 have hxs:=ok.len
 have hf28:=ok.tell.f28
 have hsl:=ok.slen
 have hw4:(wordsOf (Zao ns)).length=4:=ok.mid.ws4
 show Run C _ ([(L+3,.cell Option.none),(L+2,.cell Option.none),(L+1,.cell Option.none)]++tab) _ _
 -- numbers
 refine Run.assignXC1 (EvX.callP (U:=[]) (R:=[(L+3,.cell Option.none),(L+2,.cell Option.none),(L+1,.cell Option.none)]++tab) (.gn T.T I 69) (T.T.gn (i:=69) (by kernel_rfl)).2.isDef (.cons (.name (.z)) .nil) (Zkp T.T (by (apply Wls;assumption;rfl)) hl) (by (apply Wle;assumption;rfl)) (.refl _)) λ a=>?_
 refine ⟨_,.q1,?_⟩
 have hmap:(numsOf xs).map D.int=ns.map D.nat:=by rw [ok.nums,Zkr]
 rw [hmap]
 -- first
 have hsum:(D.int (((ns.map λ (n:Nat)=>(n:Int)).sum).fmod 29)) = .nat (Zao ns):=by
  have:∀ l:List Nat,(l.map λ (n:Nat)=>(n:Int)).sum=((l.sum:Nat):Int):=by
   intro l
   induction l with
   | nil=>rfl
   | cons a r ih=>simp only [List.map_cons,List.sum_cons,ih]; lia
  rw [this,Int.fmod_eq_emod_of_nonneg _ (by decide)]
  rfl
 refine .assignCell (d:=.nat (Zao ns)) ((Ev.mod (.sumInts (.bn T.T I rfl) (.name (.q1)) (by rw [Zkr]; exact .z)) .int (by decide)).cast hsum) (I.kinds (by decide +kernel)) (I.cell rfl) (.q3) (.q3) ?_
 -- words
 refine .assignCellX (EvX.callP (U:=[]) (R:=[(a,.list (ns.map D.nat)),(L+3,.cell Option.none),(L+2,.cell Option.none),(L+1,.cell (some (.nat (Zao ns))))]++tab) (.gn T.T I 72) (T.T.gn (i:=72) (by kernel_rfl)).2.isDef (.cons (hfi (.q3)) .nil) (words_calls T.T hf28) (by (apply Wle;assumption;rfl)) (.refl _)) (I.kinds (by decide +kernel)) (I.cell rfl) ?_
 refine exC1 λ w=>?_
 refine ⟨_,_,.q3,.q3,?_⟩
 -- symbols
 refine Run.assignXC1 (EvX.callP (U:=[(a,.list (ns.map D.nat))]) (R:=[(w,.list ((wordsOf (Zao ns)).map .str))]++([(L+3,.cell Option.none),(L+2,.cell (some (.ref w))),(L+1,.cell (some (.nat (Zao ns))))]++tab)) (.gn T.T I 70) (T.T.gn (i:=70) (by kernel_rfl)).2.isDef (.cons (.name (.q1)) .nil) (Zjz T.T ok.nlen) (by (apply Wle;assumption;rfl)) (Zfl _ [_] _)) λ sy=>?_
 refine ⟨_,.q2,?_⟩
 -- due,drawn
 refine .assignTX (EvX.callP (U:=[(sy,.list ((Zau ns).map D.nat)),(w,.list ((wordsOf (Zao ns)).map .str))]) (R:=[(a,.list (ns.map D.nat))]++([(L+3,.cell Option.none),(L+2,.cell (some (.ref w))),(L+1,.cell (some (.nat (Zao ns))))]++tab)) (.gn T.T I 73) (T.T.gn (i:=73) (by kernel_rfl)).2.isDef (.cons (.name (.q2)) (.cons (hwo (.q4)) .nil)) (due_calls T.T hsl hw4 ok.mid.ws20 ok.due) (by (apply Wle;assumption;rfl)) ((Zfl _ [_] _).cons _)) ?_
 refine exC1 λ dr=>?_
 refine ⟨_,_,.tup2 (.name (.q3)) (.name (.q4)),?_⟩
 -- written
 refine Run.assignX1 (EvX.list .nil) λ out=>?_
 refine ⟨_,.q5,?_⟩
 -- writer
 refine .assignX (EvX.callP (U:=(out,.list [])::tab) (R:=[(dr,.list ((fin.2.1.drop 1).map D.nat)),(sy,.list ((Zau ns).map D.nat)),(w,.list ((wordsOf (Zao ns)).map .str)),(a,.list (ns.map D.nat)),(L+3,.cell Option.none),(L+2,.cell (some (.ref w))),(L+1,.cell (some (.nat (Zao ns))))]) (.gn T.T I 74) (T.T.gn (i:=74) (by kernel_rfl)).2.isDef
  (.cons (.call1 (.gn T.T I 71) (T.T.gn (i:=71) (by kernel_rfl)).2.isDef (.cons (.name (.q2)) .nil) (tape_calls T.T hsl ok.tell.small) (by (apply Wle;assumption;rfl)) (.q2)) (.cons (hfi (.q7)) (.cons (.name (.q5)) .nil))) (tell_calls T ok.tell ok.tape htab) (by (apply Wle;assumption;rfl)) (perm_law2 _ _ _)) ?_
 intro d O' hq0
 refine E12 hq0 λ U' Y1 Y2=>?_
 try clear hq0
 subst Y2
 refine E51 Y1 λ W nsl nn r done Y3=>?_
 clear Y1
 refine E15 Y3 λ tab' Y4 hnsl htab' Y5 Y6=>?_
 clear Y3
 subst Y4
 subst Y5
 subst Y6
 refine ⟨_,.q6,?_⟩
 refine .subl (O':=wU T.K W (nsl++[.ref r]) [.bool false,.bool false] (outN ns) [] true done [nn] tab'++[(dr,.list ((fin.2.1.drop 1).map D.nat)),(w,.list ((wordsOf (Zao ns)).map .str)),(L+3,.cell Option.none),(L+2,.cell (some (.ref w))),(L+1,.cell (some (.nat (Zao ns))))]) ?_ (.perm (perm_law _ _ _ _ _ _) ?_)
 ·exact (List.Sublist.refl _).append (.cons_cons _ (.cons _ (.cons_cons _ (.cons _ (.refl _)))))
 -- body
 refine .assign (d:=strD bl) ((Ev.join (ys:=outN ns) .str (.name (.q5)) (.q8) (by rw [h0]; have:=ok.bz; (apply Wls;assumption;rfl))).cast (congrArg D.str ok.body)) (.q7) ?_
 have hbz:=ok.mid.blz
 refine .ite (b:=false) ((Tst.cmp (.addStr (.name (.q7)) .str (by rw [Zal]; exact Wn [_,_] (.a (.v 0) (.v 1)) (.n 16777216) [(1,.v 0,.n 1000000),(1,.v 1,.n 4)] rfl hbz (We h4))) (.name (.q3)) .neStr).cast ?_) (λ h=>nomatch h) λ _=>.next ?_
 ·rw [← ok.body,ok.same]; simp
 refine .mono (.forget (σ':=lawMid dr W bl) ?_ (law_mid T I (by (apply Wle;assumption;rfl)) hnsl ok.mid)) (Ends.imp λ d U' ⟨e1,e2⟩=>⟨e1,e2 ▸ htab'⟩)
 exact .drop (.drop (.drop (.drop (.keep (.keep (.keep (.keep (.drop (.drop (.drop (.drop (.drop (.drop (.drop .nil))))))))))))))
end
section
set_option maxRecDepth 100000
def Sub (a b:Nat):Prop:=∀ i,a.testBit i=true→b.testBit i=true
theorem sub_and {a b:Nat}:a &&& b=a ↔ Sub a b:=by
 constructor
 ·intro h i hi
  have:=congrArg (λ n=>n.testBit i) h
  simp only [Nat.testBit_and,hi,Bool.true_and] at this
  exact this
 ·intro h
  apply Nat.eq_of_testBit_eq
  intro i
  rw [Nat.testBit_and]
  cases q:a.testBit i
  ·rfl
  ·rw [h i q]; rfl
theorem sub_and' {a b:Nat}:b &&& a=a ↔ Sub a b:=by rw [Nat.and_comm]; exact sub_and
theorem Sub.refl (a:Nat):Sub a a:=λ _ h=>h
theorem Sub.trans {a b c:Nat} (h:Sub a b) (k:Sub b c):Sub a c:=λ i q=>k i (h i q)
theorem Sub.antisymm {a b:Nat} (h:Sub a b) (k:Sub b a):a=b:=by
 apply Nat.eq_of_testBit_eq
 intro i
 rw [Bool.eq_iff_iff]
 exact ⟨h i,k i⟩
theorem Sub.or {a b c:Nat} (h:Sub a c) (k:Sub b c):Sub (a ||| b) c:=λ i q=>by
 rw [Nat.testBit_or,Bool.or_eq_true] at q
 exact q.elim (h i) (k i)
theorem Sub.le {a b:Nat} (h:Sub a b):a≤b:=by
 rw [← sub_and.mpr h]; exact Nat.and_le_right
theorem Sub.orl {a b:Nat}:Sub a (a ||| b):=λ i q=>by rw [Nat.testBit_or,q]; rfl
theorem Zge (p:Nat):∀ (rows:List Nat) (c i:Nat),(rows.foldl (com1 p) c).testBit i=(c.testBit i&&rows.all λ r=>!(r &&& p==p) || r.testBit i)
 | [],c,i=>by simp
 | r::rows,c,i=>by
  rw [List.foldl_cons,Zge p rows,List.all_cons]
  unfold com1
  cases h:(r &&& p==p)
  ·simp
  ·rw [if_pos rfl,Nat.testBit_and,Bool.and_assoc]; simp
theorem bit15 {p i:Nat} (hp:p < 16) (h:p.testBit i=true):(15:Nat).testBit i=true:=by
 have:(15:Nat)=2 ^ 4 - 1:=rfl
 rw [this,Nat.testBit_two_pow_sub_one]
 have:i < 4:=by
  rcases Nat.lt_or_ge i 4 with h' | h'
  ·exact h'
  ·have:p < 2 ^ i:=Nat.lt_of_lt_of_le hp (by rw [show 16=2 ^ 4 from rfl]; exact Nat.pow_le_pow_right (by decide) h')
   rw [Nat.testBit_lt_two_pow this] at h; cases h
 simpa using this
theorem com_ext {p:Nat} (hp:p < 16) (rows:List Nat):Sub p (Zbk p rows):=λ i h=>by
 unfold Zbk
 rw [Zge,bit15 hp h,Bool.true_and,List.all_eq_true]
 intro r hr
 cases q:(r &&& p==p)
 ·rfl
 ·rw [sub_and'.mp (eq_of_beq q) i h]; rfl
theorem com_mono {p q:Nat} (h:Sub p q) (rows:List Nat):Sub (Zbk p rows) (Zbk q rows):=λ i hi=>by
 unfold Zbk at hi ⊢
 rw [Zge,Bool.and_eq_true,List.all_eq_true] at hi ⊢
 refine ⟨hi.1,λ r hr=>?_⟩
 cases k:(r &&& q==q)
 ·rfl
 ·have:=hi.2 r hr
  have e:(r &&& p==p)=true:=beq_iff_eq.mpr (sub_and'.mpr (h.trans (sub_and'.mp (eq_of_beq k))))
  rw [e] at this
  simpa using this
theorem com_idem (p:Nat) (rows:List Nat):Sub (Zbk (Zbk p rows) rows) (Zbk p rows):=λ i hi=>by
 have h1:∀ r∈rows,(r &&& p==p)=true→Sub (Zbk p rows) r:=λ r hr k j hj=>by
  unfold Zbk at hj
  rw [Zge,Bool.and_eq_true,List.all_eq_true] at hj
  have:=hj.2 r hr
  rw [k] at this
  simpa using this
 generalize hc:Zbk p rows=c at hi h1
 unfold Zbk at hi hc
 rw [Zge,Bool.and_eq_true,List.all_eq_true] at hi
 rw [← hc,Zge,Bool.and_eq_true,List.all_eq_true]
 refine ⟨hi.1,λ r hr=>?_⟩
 cases k:(r &&& p==p)
 ·rfl
 ·have:=hi.2 r hr
  have e:(r &&& c==c)=true:=beq_iff_eq.mpr (sub_and'.mpr (h1 r hr k))
  rw [e] at this
  simpa using this
theorem com_lt (p:Nat) (rows:List Nat):Zbk p rows < 16:=by
 have:∀ (rows:List Nat) (c:Nat),rows.foldl (com1 p) c≤c:=by
  intro rows
  induction rows with
  | nil=>intro c; exact Nat.le_refl _
  | cons r rows ih=>
   intro c
   refine Nat.le_trans (ih _) ?_
   unfold com1; split
   ·exact Nat.and_le_left
   ·exact Nat.le_refl _
 exact Nat.lt_of_le_of_lt (this rows 15) (by decide)
noncomputable def isPc (rows:List Nat) (q:Nat):Bool:=Zbk q rows != q&&((Zcg rows q).filter (Zda q)).isEmpty
theorem Zbs (rows:List Nat) (r:Nat × Nat):∀ i,r∈Zcg rows i ↔ r.1 < i∧r.2=Zbk r.1 rows∧isPc rows r.1=true
 | 0=>by simp [Zcg]
 | i+1=>by
  have ih:=Zbs rows r i
  unfold Zcg
  by_cases h:isPc rows i=true
  ·rw [if_pos (by exact h),List.mem_append,ih,List.mem_singleton]
   constructor
   ·rintro (⟨a,b⟩ | rfl)
    ·exact ⟨by exact Wn [_,_] (.a (.v 0) (.n 1)) (.a (.v 1) (.n 1)) [(1,.a (.v 0) (.n 1),.v 1)] rfl a,b⟩
    ·exact ⟨by show i < i+1; exact Wn [_] (.a (.v 0) (.n 1)) (.a (.v 0) (.n 1)) [] rfl,rfl,h⟩
   ·intro hq0
    refine E03 hq0 λ a b c=>?_
    try clear hq0
    rcases Nat.lt_or_ge r.1 i with q | q
    ·exact .inl ⟨q,b,c⟩
    ·obtain rfl:i=r.1:=by exact Nat.le_antisymm (Wn [_,_] (.v 0) (.v 1) [(1,.v 0,.v 1)] rfl q) (Wn [_,_] (.v 0) (.v 1) [(1,.a (.v 0) (.n 1),.a (.v 1) (.n 1))] rfl a)
     exact .inr (Prod.ext rfl b)
  ·rw [if_neg (by exact h),ih]
   constructor
   ·intro hq0
    refine E02 hq0 λ a b=>?_
    try clear hq0; exact ⟨by exact Wn [_,_] (.a (.v 0) (.n 1)) (.a (.v 1) (.n 1)) [(1,.a (.v 0) (.n 1),.v 1)] rfl a,b⟩
   ·intro hq0
    refine E03 hq0 λ a b c=>?_
    try clear hq0
    refine ⟨?_,b,c⟩
    rcases Nat.lt_or_ge r.1 i with q | q
    ·exact q
    ·obtain rfl:i=r.1:=by exact Nat.le_antisymm (Wn [_,_] (.v 0) (.v 1) [(1,.v 0,.v 1)] rfl q) (Wn [_,_] (.v 0) (.v 1) [(1,.a (.v 0) (.n 1),.a (.v 1) (.n 1))] rfl a)
     exact absurd c h
theorem stem_own (rows:List Nat) (p:Nat):∀ i,((Zcg rows i).filter λ r=>r.1==p).map (·.2)=if p < i∧isPc rows p=true then [Zbk p rows] else []
 | 0=>by simp [Zcg]
 | i+1=>by
  have ih:=stem_own rows p i
  unfold Zcg
  by_cases h:isPc rows i=true
  ·rw [if_pos (by exact h),List.filter_append,List.map_append,ih]
   by_cases hp:i=p
   ·subst hp
    rw [if_neg (by lia),if_pos ⟨by exact Wn [_] (.a (.v 0) (.n 1)) (.a (.v 0) (.n 1)) [] rfl,h⟩,List.filter_cons_of_pos (by simp)]; rfl
   ·rw [List.filter_cons_of_neg (by simpa using hp)]
    by_cases hq:p < i∧isPc rows p=true
    ·rw [if_pos hq,if_pos ⟨by exact Wn [_,_] (.a (.v 0) (.n 1)) (.a (.v 1) (.n 1)) [(1,.a (.v 0) (.n 1),.v 1)] rfl hq.1,hq.2⟩]; rfl
    ·rw [if_neg hq,if_neg (by intro hq0; refine E02 hq0 λ a b=>?_; try clear hq0; exact hq ⟨by lia,b⟩)]; rfl
  ·rw [if_neg (by exact h),ih]
   by_cases hq:p < i∧isPc rows p=true
   ·rw [if_pos hq,if_pos ⟨by exact Wn [_,_] (.a (.v 0) (.n 1)) (.a (.v 1) (.n 1)) [(1,.a (.v 0) (.n 1),.v 1)] rfl hq.1,hq.2⟩]
   ·rw [if_neg hq,if_neg]
    intro hq0
    refine E02 hq0 λ a b=>?_
    try clear hq0
    rcases Nat.lt_or_ge p i with q | q
    ·exact hq ⟨q,b⟩
    ·obtain rfl:p=i:=by exact Nat.le_antisymm (Wn [_,_] (.v 0) (.v 1) [(1,.a (.v 0) (.n 1),.a (.v 1) (.n 1))] rfl a) (Wn [_,_] (.v 0) (.v 1) [(1,.v 0,.v 1)] rfl q)
     exact h b
theorem ledN_ge (rules:List (Nat × Nat)) (p:Nat):∀ k,ledN rules k p≤ledN rules (k+1) p:=λ k=>Zkv rules _
theorem led_fix {rules:List (Nat × Nat)} (h:∀ r∈rules,r.2 < 16) {p:Nat} (hp:p < 16):pass rules (Zdo rules p)=Zdo rules p:=by
 have key:∀ k,(∃ j,j < k∧ledN rules j p=ledN rules (j+1) p)∨k≤ledN rules k p:=by
  intro k
  induction k with
  | zero=>exact .inr (Nat.zero_le _)
  | succ k ih=>
   rcases ih with ⟨j,a,b⟩ | q
   ·exact .inl ⟨j,by exact Wn [_,_] (.a (.v 0) (.n 1)) (.a (.v 1) (.n 1)) [(1,.a (.v 0) (.n 1),.v 1)] rfl a,b⟩
   ·by_cases e:ledN rules k p=ledN rules (k+1) p
    ·exact .inl ⟨k,by exact Wn [_] (.a (.v 0) (.n 1)) (.a (.v 0) (.n 1)) [] rfl,e⟩
    ·have:=ledN_ge rules p k
     exact .inr (by lia)
 rcases key 16 with ⟨j,hj,e⟩ | q
 ·have h1:=Zhg e (40 - j)
  have h2:=Zhg e (41 - j)
  rw [show j+(40 - j)=40 by lia] at h1
  rw [show j+(41 - j)=41 by lia] at h2
  show ledN rules 41 p=ledN rules 40 p
  rw [h1,h2]
 ·exact absurd (Zif h hp 16) (by exact Nat.not_lt_of_le (Wn [_] (.n 16) (.v 0) [(1,.n 16,.v 0)] rfl q))
theorem pass_fix {X:Nat}:∀ {rules:List (Nat × Nat)},pass rules X=X→∀ r∈rules,Sub r.1 X→Sub r.2 X
 | [],_,_,h=>nomatch h
 | r::rs,e,q,hq=>by
  unfold pass at e
  rw [List.foldl_cons] at e
  have h1:=led1_ge X r
  have h2:=Zkv rs (led1 X r)
  have h3:led1 X r=X:=by rw [e] at h2; exact Nat.le_antisymm (Wn [_,_] (.v 0) (.v 1) [(1,.v 0,.v 1)] rfl h2) (Wn [_,_] (.v 0) (.v 1) [(1,.v 0,.v 1)] rfl h1)
  rw [h3] at e
  rcases List.mem_cons.mp hq with rfl | hq
  ·intro hs
   unfold led1 at h3
   rw [if_pos (by rw [beq_iff_eq]; exact sub_and.mpr hs)] at h3
   intro i hi
   rw [← h3,Nat.testBit_or,hi,Bool.or_true]
  ·exact pass_fix e q hq
theorem led_sup {rules:List (Nat × Nat)} {c:Nat} (h:∀ r∈rules,Sub r.1 c→Sub r.2 c) {p:Nat} (hp:Sub p c):Sub p (Zdo rules p)∧Sub (Zdo rules p) c:=by
 have h1:∀ (rs:List (Nat × Nat)) (X:Nat),(∀ r∈rs,r∈rules)→Sub X c→Sub X (rs.foldl led1 X)∧Sub (rs.foldl led1 X) c:=by
  intro rs
  induction rs with
  | nil=>intro X _ hX; exact ⟨.refl _,hX⟩
  | cons r rs ih=>
   intro X hr hX
   have a1:Sub X (led1 X r)∧Sub (led1 X r) c:=by
    unfold led1; split
    ·rename_i hb
     exact ⟨Sub.orl,hX.or (h r (hr r List.mem_cons_self) ((sub_and.mp (eq_of_beq hb)).trans hX))⟩
    ·exact ⟨.refl _,hX⟩
   refine E02 (ih (led1 X r) (λ r' hr'=>hr r' (List.mem_cons_of_mem _ hr')) a1.2) λ b1 b2=>?_
   exact ⟨a1.1.trans b1,b2⟩
 have h2:∀ k,Sub p (ledN rules k p)∧Sub (ledN rules k p) c:=by
  intro k
  induction k with
  | zero=>exact ⟨.refl _,hp⟩
  | succ k ih=>
   refine E02 (h1 rules (ledN rules k p) (λ _ h=>h) ih.2) λ b1 b2=>?_
   exact ⟨ih.1.trans b1,b2⟩
 exact h2 40
theorem pc_closed {rows:List Nat} {X:Nat} (h:((Zcg rows X).filter (Zda X)).isEmpty=true) {r:Nat × Nat} (hr:r∈Zah rows) (hne:r.1 ≠ X) (hs:Sub r.1 X):Sub r.2 X:=by
 refine E03 ((Zbs rows r 16).mp hr) λ _ h2 h3=>?_
 have hl:=hs.le
 have hm:r∈Zcg rows X:=(Zbs rows r X).mpr ⟨by lia,h2,h3⟩
 have:Zda X r=false:=by
  cases q:Zda X r
  ·rfl
  ·have:r∈(Zcg rows X).filter (Zda X):=List.mem_filter.mpr ⟨hm,q⟩
   rw [List.isEmpty_iff.mp h] at this; cases this
 unfold Zda at this
 rw [Bool.and_eq_false_iff] at this
 rcases this with q | q
 ·exact absurd (sub_and.mpr hs) (by simpa using q)
 ·exact sub_and.mp (by simpa using q)
theorem Zjb (rows:List Nat):∀ r∈Zah rows,r.1 < 16∧r.2 < 16:=λ r hr=>by
 refine E03 ((Zbs rows r 16).mp hr) λ h1 h2 _=>?_
 exact ⟨h1,by rw [h2]; exact com_lt _ _⟩
theorem led_pc {rows:List Nat} {p:Nat} (hp:p < 16) (h:isPc rows p=true):Zdo ((Zah rows).filter λ r=>r.1 != p) p=p:=by
 unfold isPc at h
 rw [Bool.and_eq_true] at h
 obtain ⟨h1,h2⟩:=led_sup (rules:=(Zah rows).filter λ r=>r.1 != p) (c:=p) (p:=p) (λ r hr hs=>by
  refine E02 (List.mem_filter.mp hr) λ hm hn=>?_
  exact pc_closed h.2 hm (by simpa using hn) hs) (.refl _)
 exact h2.antisymm h1
theorem led_all {rows:List Nat} {p:Nat} (hp:p < 16):Zdo (Zah rows) p=Zbk p rows:=by
 have hsm:∀ r∈Zah rows,r.2 < 16:=λ r hr=>(Zjb rows r hr).2
 obtain ⟨h1,h2⟩:=led_sup (rules:=Zah rows) (c:=Zbk p rows) (p:=p) (λ r hr hs=>by
  refine E03 ((Zbs rows r 16).mp hr) λ _ e _=>?_
  rw [e]
  exact (com_mono hs rows).trans (com_idem p rows)) (com_ext hp rows)
 have hf:=pass_fix (led_fix hsm hp)
 have hlt:Zdo (Zah rows) p < 16:=Zif hsm hp 40
 generalize Zdo (Zah rows) p=X at h1 h2 hf hlt
 have hc:Zbk X rows=X:=by
  by_cases e:Zbk X rows=X
  ·exact e
  ·have hpc:isPc rows X=true:=by
    unfold isPc
    rw [Bool.and_eq_true]
    refine ⟨bne_iff_ne.mpr e,?_⟩
    rw [List.isEmpty_iff,List.filter_eq_nil_iff]
    intro r hr
    refine E03 ((Zbs rows r X).mp hr) λ a b c=>?_
    have hm:r∈Zah rows:=(Zbs rows r 16).mpr ⟨by exact Wn [_,_] (.a (.v 0) (.n 1)) (.n 16) [(1,.a (.v 0) (.n 1),.v 1),(1,.a (.v 1) (.n 1),.n 16)] rfl a hlt,b,c⟩
    unfold Zda
    rw [Bool.and_eq_true]
    intro hq0
    refine E02 hq0 λ q1 q2=>?_
    try clear hq0
    have:=sub_and.mpr (hf r hm (sub_and.mp (eq_of_beq q1)))
    rw [this] at q2
    simp at q2
   have hm:(X,Zbk X rows)∈Zah rows:=(Zbs rows _ 16).mpr ⟨hlt,rfl,hpc⟩
   exact (hf _ hm (.refl _)).antisymm (com_ext hlt rows)
 refine h2.antisymm ?_
 rw [← hc]
 exact com_mono h1 rows
end
section
open PySem PySem.Builtin.Str PySem.W PySem.Calls PyProof.Rows
set_option maxRecDepth 100000
noncomputable def Zfo (sep:List Nat):List (List Nat)→List Nat
 | []=>[]
 | [x]=>x
 | x::y::r=>x++sep++Zfo sep (y::r)
theorem join_sl (sep:List Nat):∀ xs:List (List Nat),Txt.join (sl sep) (xs.map λ x=>sl x)=sl (Zfo sep xs):=by
 intro xs
 unfold Txt.join
 rw [StrLaws.glued_eq_join]
 induction xs with
 | nil=>rfl
 | cons x r ih=>
  cases r with
  | nil=>rfl
  | cons y r=>
   show sl x++sl sep++Str.join (sl sep) ((y::r).map λ x=>sl x)=_
   rw [ih,Zbd,Zbd]; rfl
theorem joinL_nil:∀ xs:List (List Nat),Zfo [] xs=xs.flatten
 | []=>rfl
 | [x]=>by simp [Zfo]
 | x::y::r=>by
  show x++[]++Zfo [] (y::r)=_
  rw [joinL_nil (y::r),List.append_nil]; rfl
theorem Zen (xs:List Str):Txt.join "" xs=sl (xs.flatMap λ x=>x.cps.toList):=by
 have h:=join_sl [] (xs.map λ x=>x.cps.toList)
 rw [joinL_nil,List.map_map,show (xs.map ((λ x=>sl x) ∘ λ x:Str=>x.cps.toList))=xs from by
  rw [show ((λ x=>sl x) ∘ λ x:Str=>x.cps.toList)=id from funext λ x=>sl_cps x,List.map_id]] at h
 rw [List.flatMap_def]
 exact h
noncomputable def subL (c:Nat) (z l:List Nat):List Nat:=l.flatMap λ k=>if k=c then z else [k]
theorem Zcs {c:Nat} {z l:List Nat} (h:c ∉ l):subL c z l=l:=by
 unfold subL
 induction l with
 | nil=>rfl
 | cons k r ih=>
  rw [List.flatMap_cons,if_neg (λ e:k=c=>h (e ▸ List.mem_cons_self)),ih λ m=>h (List.mem_cons_of_mem _ m)]; rfl
theorem Zek (c:Nat) (z a b:List Nat):subL c z (a++b)=subL c z a++subL c z b:=List.flatMap_append
theorem Zlk (c:Nat) (z:List Nat):∀ parts:List Str,(∀ p∈parts,c ∉ p.cps.toList)→subL c z (Str.join ⟨#[c]⟩ parts).cps.toList=(Str.join (sl z) parts).cps.toList
 | [],_=>rfl
 | [p],h=>Zcs (h p (List.mem_singleton.mpr rfl))
 | p::q::r,h=>by
  have ih:=Zlk c z (q::r) λ a ha=>h a (List.mem_cons_of_mem _ ha)
  have e1:(Str.join ⟨#[c]⟩ (p::q::r)).cps.toList=(p.cps.toList++[c])++(Str.join ⟨#[c]⟩ (q::r)).cps.toList:=by
   show (p++⟨#[c]⟩++Str.join ⟨#[c]⟩ (q::r)).cps.toList=_
   simp only [Str.cps_append,Array.toList_append]
  have e2:(Str.join (sl z) (p::q::r)).cps.toList=(p.cps.toList++z)++(Str.join (sl z) (q::r)).cps.toList:=by
   show (p++sl z++Str.join (sl z) (q::r)).cps.toList=_
   simp only [Str.cps_append,Array.toList_append]
  rw [e1,e2,Zek,Zek,ih,Zcs (h p List.mem_cons_self)]
  congr 2
  unfold subL; simp
theorem Zki (c:Nat) (z l:List Nat):rep1 ⟨#[c]⟩ (sl z) (sl l)=sl (subL c z l):=by
 have hr:Txt.replace (sl l) ⟨#[c]⟩ (sl z)=sl (subL c z l):=by
  have h:=Zlk c z _ (StrLaws.split_free (sl l) c)
  rw [StrLaws.join_split,← StrLaws.replace_one] at h
  rw [← sl_cps (Txt.replace (sl l) ⟨#[c]⟩ (sl z)),← h]
 unfold rep1
 by_cases hc:Txt.contains (sl l) ⟨#[c]⟩=true
 ·rw [if_pos hc,hr]
 ·rw [if_neg hc]
  have:c ∉ l:=λ hm=>hc (by
   unfold Txt.contains
   rw [StrLaws.found_one]
   simpa using hm)
  rw [Zcs this]
noncomputable def Zbo (c:Nat):List Nat:=if c=38 then [38,97,109,112,59] else if c=60 then [38,108,116,59] else if c=13 then [38,35,120,68,59] else [c]
theorem sl_one {c d:Nat}:(sl [c]=sl [d]) ↔ c=d:=⟨λ h=>by have:=sl_inj h; simpa using this,λ h=>by rw [h]⟩
theorem spellC_sl (c:Nat):Zdy c=sl (Zbo c):=by
 unfold Zdy Zbo
 rw [show ("&" : Str)=sl [38] from by decide +kernel,show ("<" : Str)=sl [60] from by decide +kernel,show ("\r" : Str)=sl [13] from by decide +kernel]
 by_cases h1:c=38
 ·rw [if_pos (sl_one.mpr h1),if_pos h1]; decide +kernel
 rw [if_neg (λ h=>h1 (sl_one.mp h)),if_neg h1]
 by_cases h2:c=60
 ·rw [if_pos (sl_one.mpr h2),if_pos h2]; decide +kernel
 rw [if_neg (λ h=>h2 (sl_one.mp h)),if_neg h2]
 by_cases h3:c=13
 ·rw [if_pos (sl_one.mpr h3),if_pos h3]; decide +kernel
 rw [if_neg (λ h=>h3 (sl_one.mp h)),if_neg h3]
theorem Zfv (l:List Nat):Zev l=sl (l.flatMap Zbo):=by
 unfold Zev
 rw [Zen,List.flatMap_map]
 congr 2
 exact funext λ c=>by rw [spellC_sl]
theorem cdata_sl {l:List Nat} (h:62 ∉ l):Zla (sl l)=sl (l.flatMap Zbo):=by
 unfold Zla
 rw [show ("&" : Str)=⟨#[38]⟩ from by decide +kernel,show ("<" : Str)=⟨#[60]⟩ from by decide +kernel,show ("\r" : Str) = ⟨#[13]⟩ from by decide +kernel, show (">" : Str)=⟨#[62]⟩ from by decide +kernel,
  show ("&amp;" : Str)=sl [38,97,109,112,59] from by decide +kernel,show ("&lt;" : Str)=sl [38,108,116,59] from by decide +kernel,show ("&gt;" : Str)=sl [38,103,116,59] from by decide +kernel,show ("&#xD;" : Str)=sl [38,35,120,68,59] from by decide +kernel,
  Zki,Zki,Zki,Zki]
 congr 2
 induction l with
 | nil=>rfl
 | cons c r ih=>
  have hc:c ≠ 62:=λ e=>h (e ▸ List.mem_cons_self)
  have ih:=ih λ m=>h (List.mem_cons_of_mem _ m)
  have e:∀ z,subL 38 z (c::r)=subL 38 z [c]++subL 38 z r:=λ z=>Zek 38 z [c] r
  rw [e,Zek,Zek,Zek,ih,List.flatMap_cons]
  congr 1
  unfold Zbo
  by_cases h1:c=38
  ·subst h1; rfl
  rw [if_neg h1,Zcs (c:=38) (by simpa using λ e=>h1 e.symm)]
  by_cases h2:c=60
  ·subst h2; rfl
  rw [if_neg h2,Zcs (c:=60) (by simpa using λ e=>h2 e.symm),Zcs (c:=62) (by simpa using λ e=>hc e.symm)]
  by_cases h3:c=13
  ·subst h3; rfl
  rw [if_neg h3,Zcs (c:=13) (by simpa using λ e=>h3 e.symm)]
noncomputable def risk (d:Nat):Bool:=d==61 || d==42 || d==62 || d==46 || d==47 || d==60
theorem signs_second:(signs.all λ p=>match p.1.cps.toList with | _::d::_=>risk d | _=>true)=true:=by kernel_rfl
theorem sign_two {c d:Nat} {r:List Nat} (hd:risk d=false):Zai (c::d::r)=false:=by
 cases h:Zai (c::d::r)
 ·rfl
 ·refine E11 (Zii h) λ k hk=>?_
  unfold kindOf at hk
  refine E12 (Option.map_eq_some_iff.mp hk) λ p hp _=>?_
  have h1:=List.mem_of_find?_eq_some hp
  have h2:=List.find?_some hp
  have:=List.all_eq_true.mp signs_second p h1
  rw [show p.1=sl (c::d::r) from by simpa using h2] at this
  rw [show (match (sl (c::d::r)).cps.toList with | _::d::_=>risk d | _=>true)=risk d from rfl,hd] at this
  cases this
theorem long_one {c d:Nat} {r:List Nat} (h2:Zai [c,d]=false) (h3:∀ e,Zai [c,d,e]=false):Zas (c::d::r)=1:=by
 have e2:Zai ((c::d::r).take 2)=false:=h2
 have e3:Zai ((c::d::r).take 3)=false:=by
  cases r with
  | nil=>exact h2
  | cons e r=>exact h3 e
 unfold Zas
 rw [e2,e3,if_neg Bool.false_ne_true,if_neg Bool.false_ne_true]
theorem Zbg {cur r:List Nat} {c:Nat} (h:Zai [c]=false):lex cur (c::r)=lex (cur++[c]) r:=by
 rw [lex,if_neg (by rw [h]; exact Bool.false_ne_true)]
theorem Zco {r:List Nat}:∀ {w cur:List Nat},(∀ c∈w,Zai [c]=false)→lex cur (w++r)=lex (cur++w) r
 | [],cur,_=>by rw [List.append_nil]; rfl
 | c::w,cur,h=>by
  rw [List.cons_append,Zbg (h c List.mem_cons_self),Zco λ x hx=>h x (List.mem_cons_of_mem _ hx),List.append_assoc]; rfl
theorem lex_last {cur:List Nat} {c:Nat} (h:Zai [c]=true):lex cur [c]=[cur,[c],[]]:=by
 have e:Zas [c]=1:=by
  unfold Zas
  rw [show ([c]:List Nat).take 3=[c] from rfl,if_pos h]; rfl
 rw [lex,if_pos h,e]
 show _::_::lex [] []=_
 rw [lex]; rfl
theorem lex_cut {cur r:List Nat} {c d:Nat} (h:Zai [c]=true) (e:Zas (c::d::r)=1):lex cur (c::d::r)=cur::[c]::lex [] (d::r):=by
 rw [lex,if_pos h,e]; rfl
theorem Zbu {cur r:List Nat} {c:Nat} (h:Zai [c]=true) (hr:∀ d r',r=d::r'→risk d=false):lex cur (c::r)=cur::[c]::lex [] r:=by
 cases r with
 | nil=>rw [lex_last h,lex]
 | cons d r=>exact lex_cut h (long_one (sign_two (hr d r rfl)) λ e=>sign_two (hr d r rfl))
theorem lex_two (cur l:List Nat):∃ q r,lex cur l=q::r∧r.length % 2=0:=by
 have:=Zid _ cur l (Nat.le_refl _)
 cases h:lex cur l with
 | nil=>rw [h] at this; simp at this
 | cons q r=>exact ⟨q,r,rfl,by rw [h] at this; simp only [List.length_cons] at this; lia⟩
theorem k38:kindOf [38]=some 19:=by decide +kernel
theorem k44:kindOf [44]=some 12:=by decide +kernel
theorem k59:kindOf [59]=some 13:=by decide +kernel
theorem k60:kindOf [60]=some 20:=by decide +kernel
theorem k47:kindOf [47]=some 17:=by decide +kernel
theorem k61:kindOf [61]=some 22:=by decide +kernel
theorem k62:kindOf [62]=some 21:=by decide +kernel
theorem sg {c k:Nat} (h:kindOf [c]=some k):Zai [c]=true:=by
 unfold Zai
 rw [Zfq,h]; rfl
theorem calm {d:Nat} (h:Zai [d]=false):risk d=false:=by
 cases q:risk d
 ·rfl
 ·unfold risk at q
  simp only [Bool.or_eq_true,beq_iff_eq] at q
  have:Zai [d]=true:=by
   rcases q with ((((rfl | rfl) | rfl) | rfl) | rfl) | rfl <;> kernel_rfl
  rw [this] at h; cases h
noncomputable def okC (c:Nat):Bool:=c==38 || c==60 || c==44 || !Zai [c]
theorem spell_head {l:List Nat} (h:∀ c∈l,okC c=true):∀ d r,l.flatMap Zbo=d::r→risk d=false:=by
 intro d r e
 cases l with
 | nil=>cases e
 | cons c l=>
  rw [List.flatMap_cons] at e
  have hc:=h c List.mem_cons_self
  unfold okC at hc
  simp only [Bool.or_eq_true,beq_iff_eq,Bool.not_eq_true'] at hc
  unfold Zbo at e
  by_cases h1:c=38
  ·rw [if_pos h1] at e; cases e; rfl
  by_cases h2:c=60
  ·rw [if_neg h1,if_pos h2] at e; cases e; rfl
  by_cases h3:c=13
  ·rw [if_neg h1,if_neg h2,if_pos h3] at e; cases e; rfl
  ·rw [if_neg h1,if_neg h2,if_neg h3] at e
   cases e
   rcases hc with ((hc | hc) | rfl) | hc
   ·exact absurd hc h1
   ·exact absurd hc h2
   ·rfl
   ·exact calm hc
theorem unw_step {s q:List Nat} {r:List (List Nat)} {k:Nat} (hk:kindOf s=some k) (h:k ≠ 19) (hr:r.length % 2=0):Zbr (s::q::r)=(Zio (q::r)).map (s ++ ·):=by
 have hb:¬ ((k==19)=true):=by simpa using h
 match r,hr with
 | [],_=>
  show ((kindOf s).bind λ k=>if (k==19)=true then none else some (s++q))=_
  rw [hk,Option.bind_some,if_neg hb]
  show _=((Zbr []).map (q ++ ·)).map (s ++ ·)
  simp [Zbr]
 | [_],hr=>simp at hr
 | s₂::q₂::r,_=>
  show ((kindOf s).bind λ k=>if (k==19)=true then _ else (Zbr (s₂::q₂::r)).map λ u=>s++q++u)=_
  rw [hk,Option.bind_some,if_neg hb]
  show _=((Zbr (s₂::q₂::r)).map (q ++ ·)).map (s ++ ·)
  rw [Option.map_map]
  congr 1
  funext u
  simp
theorem unw_amp {w q g:List Nat} {r:List (List Nat)} (hg:sgnOf w=some g):Zbr ([38]::w::[59]::q::r)=(Zio (q::r)).map (g ++ ·):=by
 show ((kindOf [38]).bind λ k=>if (k==19)=true then ((kindOf [59]).bind λ k₂=>if (k₂==13)=true then (sgnOf w).bind λ g=>(Zbr r).map λ u=>g++q++u else _) else _)=_
 rw [k38,Option.bind_some,if_pos (show (19==19)=true from rfl),k59,Option.bind_some,if_pos (show (13==13)=true from rfl),hg,Option.bind_some]
 show _=((Zbr r).map (q ++ ·)).map (g ++ ·)
 rw [Option.map_map]
 congr 1
 funext u
 simp
theorem Zjv {cur rest w g:List Nat} (hw:∀ c∈w,Zai [c]=false) (h0:w ≠ []) (hg:sgnOf w=some g) (hr:∀ d r',rest=d::r'→risk d=false) :
  Zio (lex cur (38::(w++59::rest)))=(Zio (lex [] rest)).map (cur++g ++ ·):=by
 refine E22 (lex_two [] rest) λ q r e hl=>?_
 refine E21 (List.exists_cons_of_ne_nil h0) λ d w' Y1=>?_
 subst Y1
 rw [Zbu (sg k38) (by rintro d' r' q; cases q; exact calm (hw d List.mem_cons_self)),Zco hw,List.nil_append,Zbu (sg k59) hr,e]
 show (Zbr ([38]::_::[59]::q::r)).map (cur ++ ·)=_
 rw [unw_amp hg,Option.map_map]
 congr 1
 funext u
 simp
theorem Zlf:∀ (l:List Nat),(∀ c∈l,okC c=true)→∀ cur,Zio (lex cur (l.flatMap Zbo))=some (cur++l)
 | [],_,cur=>by
  show Zio (lex cur [])=_
  rw [lex]; simp [Zio,Zbr]
 | c::l,h,cur=>by
  have ih:=Zlf l λ x hx=>h x (List.mem_cons_of_mem _ hx)
  have hh:=spell_head λ x hx=>h x (List.mem_cons_of_mem _ hx)
  have hc:=h c List.mem_cons_self
  unfold okC at hc
  simp only [Bool.or_eq_true,beq_iff_eq,Bool.not_eq_true'] at hc
  have es:Zbo c=if c=38 then [38,97,109,112,59] else if c=60 then [38,108,116,59] else if c=13 then [38,35,120,68,59] else [c]:=rfl
  rw [List.flatMap_cons,es]
  by_cases h1:c=38
  ·subst h1
   rw [if_pos rfl]
   have:=Zjv (cur:=cur) (w:=[97,109,112]) (g:=[38]) (by decide +kernel) (by simp) (by decide +kernel) hh
   rw [ih] at this
   simpa using this
  by_cases h2:c=60
  ·subst h2
   rw [if_neg h1,if_pos rfl]
   have:=Zjv (cur:=cur) (w:=[108,116]) (g:=[60]) (by decide +kernel) (by simp) (by decide +kernel) hh
   rw [ih] at this
   simpa using this
  by_cases h3:c=13
  ·subst h3
   rw [if_neg h1,if_neg h2,if_pos rfl]
   have:=Zjv (cur:=cur) (w:=[35,120,68]) (g:=[13]) (by decide +kernel) (by simp) (by decide +kernel) hh
   rw [ih] at this
   simpa using this
  rw [if_neg h1,if_neg h2,if_neg h3]
  show Zio (lex cur (c::l.flatMap Zbo))=_
  rcases hc with ((hc | hc) | rfl) | hc
  ·exact absurd hc h1
  ·exact absurd hc h2
  ·rw [Zbu (sg k44) hh]
   refine E22 (lex_two [] (l.flatMap Zbo)) λ q r e hl=>?_
   have ih:=ih []
   rw [e] at ih ⊢
   show (Zbr ([44]::q::r)).map (cur ++ ·)=_
   rw [unw_step k44 (by decide) hl,ih]
   simp
  ·rw [Zbg hc,ih]; simp
noncomputable def Zcf (a:Nat):List Nat:=(List.range 4).filter λ i=>a.testBit i
noncomputable def Zcz (i:Nat):List Nat:=(Zab i).cps.toList
noncomputable def stripL (l:List Nat):Str:=Txt.strip (sl l)
theorem words_chars:((List.range 32).all λ i=>(Zcz i).all λ c=>!Zai [c]&&decide (c < 128))=true:=by kernel_rfl
theorem words_names:((List.range 32).all λ i=>Zab i != "e" && Zab i != "0x0" && Zab i != Zck)=true:=by kernel_rfl
theorem words_plain:((List.range 32).all λ i=>Txt.slice (Zab i) Option.none (some 1) != "{" && decide ((Zab i).length≤20))=true:=by kernel_rfl
theorem words_occ:((List.range 32).all λ i=>(occurrences (Zab i) "}" 0 (Zab i).length (limitOf (Zab i) 1)).isEmpty)=true:=by kernel_rfl
theorem words_nodup:((List.range 32).map Zab).Nodup:=by decide +kernel
theorem words_last:((List.range 32).all λ i=>Zdq ([101,32]++Zcz i)==some (Zab i)&&Zdq ([34,32]++Zcz i)==some (Zab i))=true:=by kernel_rfl
theorem words_strip:((List.range 32).all λ i=>[[],[32],[13]].all λ p=>[[],[32]].all λ q=>stripL (p++Zcz i++q)==Zab i)=true:=by kernel_rfl
theorem zero_strip:([[],[13],[32]].all λ p=>[[],[32]].all λ q=>stripL (p++[48,120,48]++q)==("0x0" : Str))=true:=by kernel_rfl
theorem bits_shift:((List.range 29).all λ f=>(List.range 16).all λ a=>Zbi (a <<< f) 32==(Zcf a).map (f + ·))=true:=by kernel_rfl
theorem bits_or:((List.range 16).all λ a=>(Zcf a).foldl (λ x i=>x ||| 1 <<< i) 0==a)=true:=by kernel_rfl
theorem idx_all:((List.range 29).all λ f=>(List.range 4).all λ i=>idxW (wordsOf f) (Zab (f+i))==some i)=true:=by kernel_rfl
noncomputable def someW (m b:Nat):List Str:=(m::((List.range 3).filter λ i=>b.testBit i).map (m+1 + ·)).map Zab
noncomputable def Zfi (m:Nat):Bool:=(List.range 8).all λ b=>Txt.split (Txt.join ", " (someW m b)) ", " == someW m b
theorem splits0:((List.range' 0 8).all Zfi)=true:=by kernel_rfl
theorem splits1:((List.range' 8 8).all Zfi)=true:=by kernel_rfl
theorem splits2:((List.range' 16 8).all Zfi)=true:=by kernel_rfl
theorem splits3:((List.range' 24 8).all Zfi)=true:=by kernel_rfl
theorem some_split {m b:Nat} (hm:m < 32) (hb:b < 8):Txt.split (Txt.join ", " (someW m b)) ", " = someW m b:=by
 have h:Zfi m=true:=by
  rcases Nat.lt_or_ge m 8 with h | h
  ·exact List.all_eq_true.mp splits0 m (by rw [List.mem_range']; exact ⟨m,by assumption,by exact Nat.le_antisymm (Wn [_] (.v 0) (.a (.n 0) (.m 1 (.v 0))) [] rfl) (Wn [_] (.a (.n 0) (.m 1 (.v 0))) (.v 0) [] rfl)⟩)
  rcases Nat.lt_or_ge m 16 with h | h
  ·exact List.all_eq_true.mp splits1 m (by rw [List.mem_range']; exact ⟨m - 8,by lia,by lia⟩)
  rcases Nat.lt_or_ge m 24 with h | h
  ·exact List.all_eq_true.mp splits2 m (by rw [List.mem_range']; exact ⟨m - 16,by lia,by lia⟩)
  ·exact List.all_eq_true.mp splits3 m (by rw [List.mem_range']; exact ⟨m - 24,by lia,by lia⟩)
 exact eq_of_beq (List.all_eq_true.mp h b (List.mem_range.mpr hb))
theorem bits_low:((List.range 16).all λ a=>a==0 || (List.range 4).any λ t=>(List.range 8).any λ b=>Zcf a==t::((List.range 3).filter λ i=>b.testBit i).map (t+1 + ·))=true:=by kernel_rfl
theorem bits_nil:((List.range 16).all λ a=>(Zcf a).isEmpty==(a==0))=true:=by kernel_rfl
noncomputable def told (f a:Nat):List Str:=(Zcf a).map λ i=>Zab (f+i)
theorem told_split {f a:Nat} (hf:f < 29) (ha:a < 16) (h0:a ≠ 0):Txt.split (Txt.join ", " (told f a)) ", " = told f a:=by
 have h:=List.all_eq_true.mp bits_low a (List.mem_range.mpr ha)
 rw [Bool.or_eq_true] at h
 rcases h with h | h
 ·exact absurd (eq_of_beq h) h0
 refine E12 (List.any_eq_true.mp h) λ t ht h=>?_
 refine E12 (List.any_eq_true.mp h) λ b hb h=>?_
 have e:told f a=someW (f+t) b:=by
  unfold told someW
  rw [eq_of_beq h,List.map_cons,List.map_map,List.map_cons,List.map_map]
  congr 1
  refine List.map_congr_left λ i _=>?_
  show Zab (f+(t+1+i))=Zab (f+t+1+i)
  congr 1; exact Nat.le_antisymm (Wn [_,_,_] (.a (.v 0) (.a (.a (.v 1) (.n 1)) (.v 2))) (.a (.a (.a (.v 0) (.v 1)) (.n 1)) (.v 2)) [] rfl) (Wn [_,_,_] (.a (.a (.a (.v 0) (.v 1)) (.n 1)) (.v 2)) (.a (.v 0) (.a (.a (.v 1) (.n 1)) (.v 2))) [] rfl)
 have:=List.mem_range.mp ht
 rw [e,some_split (by exact Wn [_,_] (.a (.a (.v 0) (.v 1)) (.n 1)) (.n 32) [(1,.a (.v 1) (.n 1),.n 4),(1,.a (.v 0) (.n 1),.n 29)] rfl this hf) (List.mem_range.mp hb)]
theorem bits_zero {a:Nat} (ha:a < 16):(Zcf a).isEmpty=(a==0):=eq_of_beq (List.all_eq_true.mp bits_nil a (List.mem_range.mpr ha))
noncomputable def Zfw (f a:Nat):Str:=if a=0 then "0x0" else Txt.join ", " (told f a)
theorem Zel {f a:Nat} (hf:f < 29) (ha:a < 16):Zap (a <<< f)=Zfw f a:=by
 have h:=eq_of_beq (List.all_eq_true.mp (List.all_eq_true.mp bits_shift f (List.mem_range.mpr hf)) a (List.mem_range.mpr ha))
 unfold Zap Zfw
 rw [h,List.map_map]
 by_cases h0:a=0
 ·subst h0; simp
 ·rw [if_neg h0,if_neg]
  ·rfl
  ·rw [Nat.shiftLeft_eq]
   have:=Nat.two_pow_pos f
   intro e
   rcases Nat.mul_eq_zero.mp e with e | e
   ·exact h0 e
   ·exact Wi (Wn [_] (.n 1) (.n 0) [(1,.v 0,.n 0),(1,.a (.n 0) (.n 1),.v 0)] rfl (We e) this)
theorem words_get {f i:Nat} (hi:i < 4):((wordsOf f)[i]?).getD ("" : Str)=Zab (f+i):=by
 unfold wordsOf
 rw [List.getElem?_map,List.getElem?_range hi]; rfl
theorem Zdi {a i:Nat} (h:i∈Zcf a):i < 4:=List.mem_range.mp (List.mem_filter.mp h).1
theorem Zja (f a:Nat):(Zcf a).map (λ i=>((wordsOf f)[i]?).getD ("" : Str))=told f a:=List.map_congr_left λ i hi=>words_get (Zdi hi)
theorem side_say {f a:Nat} (ha:a < 16):Zdz a (wordsOf f)=Zfw f a:=by
 unfold Zdz Zfw
 rw [show ((List.range 4).filter λ i=>a.testBit i)=Zcf a from rfl,Zja,bits_zero ha]
 by_cases h0:a=0
 ·rw [if_pos h0,if_pos (by simpa using h0)]
 ·rw [if_neg h0,if_neg (by simpa using h0)]
theorem bitsOf_and (s:Nat):Zcf (s &&& 15)=Zcf s:=by
 unfold Zcf
 refine List.filter_congr λ i hi=>?_
 have:i < 4:=List.mem_range.mp hi
 rw [Nat.testBit_and,show (15:Nat)=2 ^ 4 - 1 from rfl,Nat.testBit_two_pow_sub_one]
 simp [this]
theorem Zjy (f s:Nat):told f (s &&& 15)=told f s:=by unfold told; rw [bitsOf_and]
theorem and15 (s:Nat):s &&& 15 < 16:=Nat.lt_of_le_of_lt Nat.and_le_right (by decide)
theorem Zhl {f:Nat} (hf:f < 29) (s:Nat):Zam f s=told f s:=by
 unfold Zam
 by_cases h0:s &&& 15=0
 ·rw [if_pos h0,← Zjy,h0]; rfl
 ·rw [if_neg h0,Zel hf (and15 s)]
  unfold Zfw
  rw [if_neg h0,told_split hf (and15 s) h0,Zjy]
theorem toldOf_told (f s:Nat):Zff (wordsOf f) s=Zbb (told f s):=by
 unfold Zff
 rw [show ((List.range 4).filter λ i=>s.testBit i)=Zcf s from rfl,Zja]
theorem Zgz {f a:Nat} (hf:f < 29) {w:Str} (h:w∈told f a):∃ i,i < 32∧w=Zab i∧∃ j,j < 4∧i=f+j:=by
 refine E12 (List.mem_map.mp h) λ j hj Y1=>?_
 subst Y1
 have:=Zdi hj
 exact ⟨f+j,by exact Wn [_,_] (.a (.a (.v 0) (.v 1)) (.n 1)) (.n 32) [(1,.a (.v 1) (.n 1),.n 4),(1,.a (.v 0) (.n 1),.n 29)] rfl this hf,rfl,j,this,rfl⟩
theorem told_len (f a:Nat):(told f a).length≤4:=by
 unfold told Zcf
 rw [List.length_map]
 exact Nat.le_trans (List.length_filter_le _ _) (by simp)
theorem Zjt {i:Nat} (hi:i < 32):Zgs (Zab i)∧Zab i ≠ "e" ∧ Zab i ≠ "0x0" ∧ Zab i ≠ Zck:=by
 have h1:=List.all_eq_true.mp words_names i (List.mem_range.mpr hi)
 have h2:=List.all_eq_true.mp words_plain i (List.mem_range.mpr hi)
 have h3:=List.all_eq_true.mp words_occ i (List.mem_range.mpr hi)
 simp only [Bool.and_eq_true,bne_iff_ne,decide_eq_true_eq] at h1 h2
 exact ⟨⟨⟨h2.1,by exact Wn [_] (.v 0) (.n 100) [(1,.v 0,.n 20)] rfl h2.2⟩,h3⟩,h1.1.1,h1.1.2,h1.2⟩
theorem told_nodup {f a:Nat} (hf:f < 29):(told f a).Nodup:=by
 have h:((List.range 4).map λ i=>Zab (f+i)).Nodup:=by
  have hs:(List.range' f 4).Sublist (List.range 32):=by
   rw [List.range_eq_range',show (32:Nat)=f+(32 - f) by lia,← List.range'_append_1 (s:=0) (m:=f) (n:=32 - f)]
   refine List.Sublist.trans ?_ (List.sublist_append_right _ _)
   rw [Nat.zero_add,show 32 - f=4+(28 - f) by lia,← List.range'_append_1]
   exact List.sublist_append_left _ _
  have:=words_nodup.sublist (hs.map Zab)
  rwa [List.range'_eq_map_range,List.map_map] at this
 exact h.sublist (List.filter_sublist.map _)
theorem told_ws {f:Nat} (hf:f < 29) (s:Nat):WsOk (Zam f s):=by
 rw [Zhl hf]
 refine ⟨told_len f s,List.nodup_cons.mpr ⟨λ h=>?_,told_nodup hf⟩,λ q hq=>?_,λ h=>?_⟩
 ·refine E13 (Zgz hf h) λ i hi e _=>?_
  exact (Zjt hi).2.1 e.symm
 ·rcases List.mem_cons.mp hq with rfl | hq
  ·exact ⟨⟨by decide +kernel,by decide +kernel⟩,by unfold NoOcc; kernel_rfl⟩
  ·refine E13 (Zgz hf hq) λ i hi Y1 _=>?_
   subst Y1
   exact (Zjt hi).1
 ·refine E13 (Zgz hf h) λ i hi e _=>?_
  exact (Zjt hi).2.2.2 e.symm
theorem Zke {f a:Nat} (hf:f < 29):(Zfw f a).length≤100:=by
 unfold Zfw
 split
 ·decide +kernel
 ·unfold Txt.join
  rw [size_glued]
  have h1:((told f a).map (·.length)).sum≤20 * (told f a).length:=Zcq _ 20 _ λ w hw=>by
   refine E13 (Zgz hf hw) λ i hi Y1 _=>?_
   subst Y1
   exact wordLen hi
  have h2:=told_len f a
  have h3:(", " : Str).length=2:=by decide +kernel
  rw [h3]; lia
theorem Zld {f:Nat} (hf:f < 29):∀ x∈wordsOf f,x.length≤20:=λ x hx=>by
 refine E12 (List.mem_map.mp hx) λ i hi Y1=>?_
 subst Y1
 have:=List.mem_range.mp hi
 exact wordLen (by exact Wn [_,_] (.a (.a (.v 0) (.v 1)) (.n 1)) (.n 32) [(1,.a (.v 1) (.n 1),.n 4),(1,.a (.v 0) (.n 1),.n 29)] rfl this hf)
def okS:Nat→List Nat→Prop
 | _,[]=>False
 | d,s::r=>(s=0∧((d=1∧r=[])∨(2≤d∧okS (d - 1) r)))∨(s ≠ 0∧s < 512∧okS (if 256≤s then d+1 else d) r)
noncomputable def Zli:List Nat→Nat→List Nat
 | [],d=>List.replicate d 0
 | n::r,d=>(if (n % 4==3&&decide (1 < d))=true then [0] else []) ++
   ((if (n % 4==2)=true then 256 else 16)+n / 4 % 16)::Zli r ((if (n % 4==3&&decide (1 < d))=true then d - 1 else d)+(if (n % 4==2)=true then 1 else 0))
theorem Zlj:∀ (ns:List Nat) (p:List Nat) (d:Nat),(ns.foldl Zby (p,d)).1++List.replicate (ns.foldl Zby (p,d)).2 0=p++Zli ns d
 | [],p,d=>rfl
 | n::r,p,d=>by
  rw [List.foldl_cons]
  have e:Zby (p,d) n=(p++((if (n % 4==3&&decide (1 < d))=true then [0] else [])++[((if (n % 4==2)=true then 256 else 16)+n / 4 % 16)]),(if (n % 4==3&&decide (1 < d))=true then d - 1 else d)+(if (n % 4==2)=true then 1 else 0)):=by
   unfold Zby sym2 sym1
   cases h1:(n % 4==3&&decide (1 < d)) <;> cases h2:(n % 4==2) <;> simp
  have ht:Zli (n::r) d=(if (n % 4==3&&decide (1 < d))=true then [0] else []) ++
   ((if (n % 4==2)=true then 256 else 16)+n / 4 % 16)::Zli r ((if (n % 4==3&&decide (1 < d))=true then d - 1 else d)+(if (n % 4==2)=true then 1 else 0)):=rfl
  rw [e,Zlj r,ht,List.append_assoc,List.append_assoc]; rfl
theorem okS_rep:∀ d,1≤d→okS d (List.replicate d 0)
 | 0,h=>by lia
 | 1,_=>.inl ⟨rfl,.inl ⟨rfl,rfl⟩⟩
 | d+2,_=>.inl ⟨rfl,.inr ⟨by exact Wlb rfl,okS_rep (d+1) (by exact Wlb rfl)⟩⟩
theorem Zkm:∀ (ns:List Nat) (d:Nat),1≤d→okS d (Zli ns d)
 | [],d,h=>okS_rep d h
 | n::r,d,h=>by
  have key:∀ e,1≤e→okS e (((if (n % 4==2)=true then 256 else 16)+n / 4 % 16)::Zli r (e+(if (n % 4==2)=true then 1 else 0))):=λ e he=>by
   have h16:=Nat.mod_lt (n / 4) (show 0 < 16 by decide)
   cases h2:(n % 4==2)
   ·simp only [Bool.false_eq_true,if_false]
    refine .inr ⟨by lia,by exact Wn [_] (.a (.a (.n 16) (.v 0)) (.n 1)) (.n 512) [(1,.a (.v 0) (.n 1),.n 16)] rfl h16,?_⟩
    rw [if_neg (by exact Nat.not_le_of_lt (Wn [_] (.a (.a (.n 16) (.v 0)) (.n 1)) (.n 256) [(1,.a (.v 0) (.n 1),.n 16)] rfl h16))]
    exact Zkm r _ he
   ·simp only [if_true]
    refine .inr ⟨by lia,by exact Wn [_] (.a (.a (.n 256) (.v 0)) (.n 1)) (.n 512) [(1,.a (.v 0) (.n 1),.n 16)] rfl h16,?_⟩
    rw [if_pos (by exact Wn [_] (.n 256) (.a (.n 256) (.v 0)) [] rfl)]
    exact Zkm r _ (by exact Wlb rfl)
  unfold Zli
  cases h1:(n % 4==3&&decide (1 < d))
  ·simp only [Bool.false_eq_true,if_false,List.nil_append]
   exact key d h
  ·simp only [if_true]
   rw [Bool.and_eq_true,decide_eq_true_eq] at h1
   exact .inl ⟨rfl,.inr ⟨h1.2,key (d - 1) (by lia)⟩⟩
theorem syms_ok (ns:List Nat):∃ l,Zau ns=256::l∧okS 1 l:=by
 refine ⟨Zli ns 1,?_,Zkm ns 1 (by exact Wlb rfl)⟩
 unfold Zau
 rw [Zlj]; rfl
theorem syms_len {ns:List Nat} (h:ns.length=5):(Zau ns).length≤17:=by
 have h1:=Zej ns ns.length
 have e:Zdk ns ns.length=ns.foldl Zby ([256],1):=by unfold Zdk; rw [List.take_length]
 rw [e,h] at h1
 unfold Zau
 rw [List.length_append,List.length_replicate]; exact Wn [_,_] (.a (.v 0) (.v 1)) (.n 17) [(1,.v 1,.a (.n 1) (.n 5)),(1,.v 0,.a (.n 1) (.m 2 (.n 5)))] rfl h1.2.1 h1.1
noncomputable def depS (d s:Nat):Nat:=if s=0 then d - 1 else if 256≤s then d+1 else d
theorem tell_dep (f:Nat):∀ (l:List Nat) (st:Nat × List Str),(l.foldl (Zca f) st).1=l.foldl depS st.1
 | [],_=>rfl
 | s::r,st=>by
  rewrite [List.foldl_cons,List.foldl_cons,tell_dep f r]
  congr 1
  unfold Zca depS
  split
  ·rfl
  ·split <;> rfl
theorem okS_at:∀ {l:List Nat} {d:Nat},1≤d→okS d l→0 < l.length∧∀ j s,l[j]? = some s→s < 512∧1≤(l.take j).foldl depS d∧(j+1 < l.length→s=0→2≤(l.take j).foldl depS d)∧(j+1=l.length→s=0∧(l.take j).foldl depS d=1)
 | [],_,_,h=>h.elim
 | s::r,d,hd,h=>by
  refine ⟨Nat.zero_lt_succ _,λ j x hx=>?_⟩
  rcases h with ⟨rfl,⟨rfl,rfl⟩ | ⟨h2,h⟩⟩ | ⟨h0,h512,h⟩
  ·cases j with
   | zero=>simp at hx; subst hx; exact ⟨by decide,Nat.le_refl _,λ h=>by simp at h,λ _=>⟨rfl,rfl⟩⟩
   | succ j=>simp at hx
  ·have ih:=okS_at (by lia) h
   cases j with
   | zero=>
    simp at hx; subst hx
    exact ⟨by decide,hd,λ _ _=>h2,λ e=>by have:=ih.1; simp only [List.length_cons] at e; lia⟩
   | succ j=>
    have:=ih.2 j x (by simpa using hx)
    simp only [List.take_succ_cons,List.foldl_cons,List.length_cons]
    rw [show depS d 0=d - 1 from rfl]
    exact ⟨this.1,this.2.1,λ e=>this.2.2.1 (by exact Wn [_,_] (.a (.a (.v 0) (.n 1)) (.n 1)) (.v 1) [(1,.a (.a (.a (.v 0) (.n 1)) (.n 1)) (.n 1),.a (.v 1) (.n 1))] rfl e),λ e=>this.2.2.2 (by exact Nat.le_antisymm (Wn [_,_] (.a (.v 0) (.n 1)) (.v 1) [(1,.a (.a (.v 0) (.n 1)) (.n 1),.a (.v 1) (.n 1))] rfl (We e)) (Wn [_,_] (.v 0) (.a (.v 1) (.n 1)) [(1,.a (.v 0) (.n 1),.a (.a (.v 1) (.n 1)) (.n 1))] rfl (Wf e)))⟩
  ·have hdep:depS d s=if 256≤s then d+1 else d:=by unfold depS; rw [if_neg h0]
   have ih:=okS_at (by split <;> (first | assumption | lia)) h
   cases j with
   | zero=>
    simp at hx; subst hx
    exact ⟨h512,hd,λ _ e=>absurd e h0,λ e=>by have:=ih.1; simp only [List.length_cons] at e; lia⟩
   | succ j=>
    have:=ih.2 j x (by simpa using hx)
    simp only [List.take_succ_cons,List.foldl_cons,List.length_cons]
    rw [hdep]
    exact ⟨this.1,this.2.1,λ e=>this.2.2.1 (by exact Wn [_,_] (.a (.a (.v 0) (.n 1)) (.n 1)) (.v 1) [(1,.a (.a (.a (.v 0) (.n 1)) (.n 1)) (.n 1),.a (.v 1) (.n 1))] rfl e),λ e=>this.2.2.2 (by exact Nat.le_antisymm (Wn [_,_] (.a (.v 0) (.n 1)) (.v 1) [(1,.a (.a (.v 0) (.n 1)) (.n 1),.a (.v 1) (.n 1))] rfl (We e)) (Wn [_,_] (.v 0) (.a (.v 1) (.n 1)) [(1,.a (.v 0) (.n 1),.a (.a (.v 1) (.n 1)) (.n 1))] rfl (Wf e)))⟩
theorem parts_le {x y:Str} {n:Nat} (h:x.length+2≤n):(partsBetween x (occurrences x y 0 x.length (x.length+1)) y.length).length≤n:=by
 rw [length_partsBetween]
 have:=StrLaws.occ_length_le x y 0 x.length (x.length+1)
 exact Wn [_,_,_] (.a (.v 0) (.n 1)) (.v 1) [(1,.v 0,.a (.v 2) (.n 1)),(1,.a (.v 2) (.n 2),.v 1)] rfl this h
theorem tell_ok {f:Nat} (hf:f < 29) {ns:List Nat} (hn:ns.length=5):TellOk f (Zau ns) ((Zau ns).length - 1):=by
 refine E12 (syms_ok ns) λ l e ok=>?_
 have hl:=syms_len hn
 refine E02 (okS_at (Nat.le_refl 1) ok) λ h0 hat=>?_
 have hdep:∀ j,(Zaj f (Zau ns) (j+1)).1=(l.take j).foldl depS 1:=λ j=>by
  unfold Zaj
  rw [tell_dep,e]; rfl
 rw [e] at hl
 simp only [List.length_cons] at hl
 have hlen:(Zau ns).length=l.length+1:=by rw [e]; rfl
 have hsay:∀ s:Nat,(Zap ((s &&& 15) <<< f)).length≤100:=λ s=>by rw [Zel hf (and15 s)]; exact Zke hf
 refine ⟨by exact Wn [_] (.v 0) (.n 28) [(1,.a (.v 0) (.n 1),.n 29)] rfl hf,by lia,by lia,?_,λ s _=>told_ws hf s,?_,?_,λ s _=>⟨Nat.le_trans (hsay s) (by exact Wlb rfl),parts_le (by have:=hsay s; exact Wn [_] (.a (.v 0) (.n 2)) (.n 1000) [(1,.v 0,.n 100)] rfl this)⟩,?_⟩
 ·intro s hs
  rw [e] at hs
  rcases List.mem_cons.mp hs with rfl | hs
  ·decide
  ·refine E11 (List.getElem?_of_mem hs) λ j hj=>?_
   exact (hat j s hj).1
 ·intro j s hj hs
  cases j with
  | zero=>intro hq0; refine E02 hq0 λ a _=>?_; try clear hq0; exact absurd a (by show ¬ (0=1); decide)
  | succ j=>
   rw [hdep]
   rw [e] at hs
   have:=hat j s (by simpa using hs)
   intro hq0
   refine E02 hq0 λ a b=>?_
   try clear hq0
   have:=this.2.2.1 (by lia) b
   exact Wi (Wn [_] (.n 1) (.n 0) [(1,.n 2,.v 0),(1,.v 0,.n 1)] rfl this (We a))
 ·intro j s hj hs h0
  cases j with
  | zero=>rw [e] at hs; simp at hs; lia
  | succ j=>
   rw [hdep]
   rw [e] at hs
   exact (hat j s (by simpa using hs)).2.1
 ·obtain ⟨j,hj⟩:∃ j,l.length=j+1:=⟨l.length - 1,by lia⟩
  rw [hlen,hj,Nat.add_sub_cancel,hdep,e]
  obtain ⟨s,hs⟩:∃ s,l[j]? = some s:=⟨l[j]'(by exact Wn [_,_] (.a (.v 0) (.n 1)) (.v 1) [(1,.a (.v 0) (.n 1),.v 1)] rfl (Wf hj)),List.getElem?_eq_getElem (by exact Wn [_,_] (.a (.v 0) (.n 1)) (.v 1) [(1,.a (.v 0) (.n 1),.v 1)] rfl (Wf hj))⟩
  have:=(hat j s hs).2.2.2 (by exact Nat.le_antisymm (Wn [_,_] (.a (.v 0) (.n 1)) (.v 1) [(1,.a (.v 0) (.n 1),.v 1)] rfl (Wf hj)) (Wn [_,_] (.v 0) (.a (.v 1) (.n 1)) [(1,.v 0,.a (.v 1) (.n 1))] rfl (We hj)))
  rw [List.getElem?_cons_succ,hs,this.1]
  exact ⟨this.2,rfl⟩
theorem tell_small {ns:List Nat}:∀ s∈Zau ns,s < 512:=by
 refine E12 (syms_ok ns) λ l e ok=>?_
 intro s hs
 rw [e] at hs
 rcases List.mem_cons.mp hs with rfl | hs
 ·decide
 ·refine E11 (List.getElem?_of_mem hs) λ j hj=>?_
  exact ((okS_at (Nat.le_refl 1) ok).2 j s hj).1
noncomputable def Zgw (w:Str):List Nat:=32::(w.cps.toList++[61,34,38,108,116,59,34])
noncomputable def Zdv (f s:Nat):List Nat:=60::101::((Zbb (told f s)).flatMap Zgw++[62])
noncomputable def closeL:List Nat:=[60,47,101,62]
noncomputable def Zbq (f s:Nat):List Nat:=if s=0 then closeL else if 256≤s then Zdv f s else Zdv f s++closeL
noncomputable def Zdr (xs:List Str):List Nat:=xs.flatMap λ x=>x.cps.toList
theorem Zce (a b:List Str):Zdr (a++b)=Zdr a++Zdr b:=List.flatMap_append
theorem app_cps (a b:Str):(a++b).cps.toList=a.cps.toList++b.cps.toList:=by simp only [Str.cps_append,Array.toList_append]
theorem piece_cps (w:Str):(Zbm w).cps.toList=Zgw w:=by
 unfold Zbm catS
 simp only [List.foldl_cons,List.foldl_nil,app_cps]
 rw [show (" " : Str).cps.toList=[32] from by decide +kernel,show ("=\"" : Str).cps.toList=[61,34] from by decide +kernel,show ("&lt;" : Str).cps.toList=[38,108,116,59] from by decide +kernel,show ("\"" : Str).cps.toList=[34] from by decide +kernel,show Str.empty.cps.toList=[] from rfl]
 unfold Zgw
 simp
theorem flat_tag {f:Nat} (hf:f < 29) (s:Nat):Zdr (Zag "e" (Zam f s))=Zdv f s:=by
 rw [Zhl hf]
 unfold Zag
 rw [Zce,Zce]
 have h1:Zdr [("<" : Str) ++ "e"]=[60,101]:=by decide +kernel
 have h2:Zdr [(">" : Str)]=[62]:=by decide +kernel
 have h3:Zdr (if (told f s).isEmpty=true then [] else [Txt.join "" ((Zbb (told f s)).map Zbm)])=(Zbb (told f s)).flatMap Zgw:=by
  by_cases h:(told f s).isEmpty=true
  ·rw [if_pos h]
   have:Zbb (told f s)=[]:=by
    have:=(Zav (told f s)).length_eq
    rw [List.isEmpty_iff.mp h] at this ⊢
    exact List.length_eq_zero_iff.mp this
   rw [this]; rfl
  ·rw [if_neg h,Zen]
   unfold Zdr
   rw [List.flatMap_cons,List.flatMap_nil,List.append_nil,List.flatMap_map]
   show List.flatMap _ _=_
   congr 1
   exact funext λ w=>piece_cps w
 rw [h1,h2,h3]
 rfl
theorem Zgc:Zdr [Zaz "e"]=closeL:=by decide +kernel
theorem Zlh {f:Nat} (hf:f < 29):∀ (l:List Nat) (st:Nat × List Str),Zdr (l.foldl (Zca f) st).2=Zdr st.2++l.flatMap (Zbq f)
 | [],st=>by simp
 | s::r,st=>by
  rw [List.foldl_cons,Zlh hf r,List.flatMap_cons,← List.append_assoc]
  congr 1
  unfold Zca Zbq
  by_cases h0:s=0
  ·rw [if_pos h0,if_pos h0,Zce,Zgc]
  rw [if_neg h0,if_neg h0]
  by_cases h1:256≤s
  ·rw [if_pos h1,if_pos h1,Zce,flat_tag hf]
  ·rw [if_neg h1,if_neg h1,Zce,Zce,flat_tag hf,Zgc,List.append_assoc]
theorem out_flat {ns:List Nat} {l:List Nat} (hf:Zao ns < 29) (e:Zau ns=256::l) (h0:l ≠ []):Zdr (outN ns)=Zdv (Zao ns) 256++l.dropLast.flatMap (Zbq (Zao ns)):=by
 unfold outN Zaj
 rw [Zlh hf,← List.dropLast_eq_take,e,List.dropLast_cons_of_ne_nil h0]
 rfl
theorem Zhx (f s:Nat):Zcm (wordsOf f) s=sl (Zdv f s):=by
 unfold Zcm Zds
 rw [toldOf_told,Zen,List.flatMap_map]
 have h1:("<e" : Str)=sl [60,101]:=by decide +kernel
 have h2:(">" : Str)=sl [62]:=by decide +kernel
 have h3:(λ w:Str=>(((" " : Str)++w)++("=\"&lt;\"" : Str)).cps.toList)=Zgw:=funext λ w=>by
  rw [app_cps,app_cps,show (" " : Str).cps.toList=[32] from by decide +kernel,show ("=\"&lt;\"" : Str).cps.toList=[61,34,38,108,116,59,34] from by decide +kernel]
  rfl
 rw [h1,h2,h3,Zbd,Zbd]
 rfl
noncomputable def Zep (ar:List Nat):List Nat→List Nat
 | []=>[]
 | s::r=>if s=0 then Zep ar.dropLast r else ((s &&& 15) ||| ar.getLast?.getD 0)::Zep (if 256≤s then ar++[(s &&& 15) ||| ar.getLast?.getD 0] else ar) r
noncomputable def Zdu (ar:List Nat) (s:Nat):Nat:=(s &&& 15) ||| ar.getLast?.getD 0
theorem Zjf (ar r:List Nat):Zep ar (0::r)=Zep ar.dropLast r:=rfl
theorem Zjg {ar r:List Nat} {s:Nat} (h:256≤s):Zep ar (s::r)=Zdu ar s::Zep (ar++[Zdu ar s]) r:=by
 show (if s=0 then _ else _)=_
 rw [if_neg (by lia),if_pos h]; rfl
theorem Zjh {ar r:List Nat} {s:Nat} (h0:s ≠ 0) (h:¬ 256≤s):Zep ar (s::r)=Zdu ar s::Zep ar r:=by
 show (if s=0 then _ else _)=_
 rw [if_neg h0,if_neg h]; rfl
theorem Zhu {f s:Nat} (h:256≤s):Zbq f s=Zdv f s:=by unfold Zbq; rw [if_neg (by lia),if_pos h]
theorem Zhv {f s:Nat} (h0:s ≠ 0) (h:¬ 256≤s):Zbq f s=Zdv f s++closeL:=by unfold Zbq; rw [if_neg h0,if_neg h]
theorem Zfr:("</e>" : Str)=sl closeL:=by decide +kernel
theorem due_zero (f:Nat) {t rows ar:List Nat} {a:Nat} (h:ar.getLast? = some a):Zbn (wordsOf f) (sl t,rows,ar) 0=some (sl (t++closeL),rows,ar.dropLast):=by
 show (if (0==0)=true then ar.getLast?.map λ _=>(sl t++("</e>" : Str),rows,ar.dropLast) else _)=_
 rw [if_pos (show (0==0)=true from rfl),h,Zfr,Zbd]; rfl
theorem due_stay (f:Nat) {t rows ar:List Nat} {s:Nat} (h:256≤s):Zbn (wordsOf f) (sl t,rows,ar) s=some (sl (t++Zdv f s),rows++[Zdu ar s],ar++[Zdu ar s]):=by
 unfold Zbn
 rw [if_neg (by simp; lia),if_neg (by simpa using h),Zhx,Zbd]; rfl
theorem due_leaf (f:Nat) {t rows ar:List Nat} {s:Nat} (h0:s ≠ 0) (h:¬ 256≤s):Zbn (wordsOf f) (sl t,rows,ar) s=some (sl (t++(Zdv f s++closeL)),rows++[Zdu ar s],ar):=by
 unfold Zbn
 rw [if_neg (by simpa using h0),if_pos (by simpa using h),Zhx,Zfr,Zbd,Zbd,List.append_assoc]; rfl
theorem Zig {ar:List Nat} (h:1≤ar.length):∃ a,ar.getLast? = some a:=by
 cases e:ar.getLast? with
 | none=>rw [List.getLast?_eq_none_iff.mp e] at h; simp at h
 | some a=>exact ⟨a,rfl⟩
theorem Zkx (f:Nat):∀ (l:List Nat) (d:Nat) (t:List Nat) (rows ar:List Nat),okS d l→ar.length=d→1≤d→
  Zaf (Zbn (wordsOf f)) (sl t,rows,ar) l=some (sl (t++l.flatMap (Zbq f)),rows++Zep ar l,[])
 | [],_,_,_,_,h,_,_=>h.elim
 | s::r,d,t,rows,ar,h,hd,h1=>by
  have e0:Zaf (Zbn (wordsOf f)) (sl t,rows,ar) (s::r)=(Zbn (wordsOf f) (sl t,rows,ar) s).bind λ c=>Zaf (Zbn (wordsOf f)) c r:=rfl
  refine E11 (Zig (ar:=ar) (by exact Wn [_,_] (.n 1) (.v 0) [(1,.n 1,.v 1),(1,.v 1,.v 0)] rfl h1 (Wf hd))) λ a ha=>?_
  rw [e0,List.flatMap_cons]
  rcases h with ⟨rfl,h⟩ | ⟨h0,h512,h⟩
  ·rw [due_zero f ha,Option.bind_some,Zjf]
   show _=some (sl (t++(closeL++_)),_,_)
   rcases h with ⟨rfl,rfl⟩ | ⟨h2,h⟩
   ·refine E11 (List.length_eq_one_iff.mp hd) λ a' Y1=>?_
    subst Y1
    simp [Zaf,Zep]
   ·rw [Zkx f r (d - 1) _ _ _ h (by rw [List.length_dropLast]; lia) (by lia),List.append_assoc]
  ·by_cases h2:256≤s
   ·rw [if_pos h2] at h
    rw [due_stay f h2,Option.bind_some,Zjg h2,Zhu h2,Zkx f r (d+1) _ _ _ h (by rw [List.length_append]; simp; assumption) (by exact Wlb rfl),List.append_assoc,List.append_assoc]; rfl
   ·rw [if_neg h2] at h
    rw [due_leaf f h0 h2,Option.bind_some,Zjh h0 h2,Zhv h0 h2,Zkx f r d _ _ _ h hd h1]; simp only [List.append_assoc,List.singleton_append]
noncomputable def Zhd (c d:Nat):Bool:=signs.any λ p=>match p.1.cps.toList with | a::b::_=>a==c&&b==d | _=>false
theorem sign_pair {c d:Nat} {r:List Nat} (h:Zhd c d=false):Zai (c::d::r)=false:=by
 cases q:Zai (c::d::r)
 ·rfl
 ·refine E11 (Zii q) λ k hk=>?_
  unfold kindOf at hk
  refine E12 (Option.map_eq_some_iff.mp hk) λ p hp _=>?_
  have h1:=List.mem_of_find?_eq_some hp
  have h2:=List.find?_some hp
  have e:p.1=sl (c::d::r):=by simpa using h2
  have:Zhd c d=true:=by
   unfold Zhd
   refine List.any_eq_true.mpr ⟨p,h1,?_⟩
   rw [e]
   show (c==c&&d==d)=true
   simp
  rw [this] at h; cases h
theorem Zks {cur r:List Nat} {c d:Nat} (h:Zai [c]=true) (hp:Zhd c d=false):lex cur (c::d::r)=cur::[c]::lex [] (d::r):=
 lex_cut h (long_one (sign_pair hp) λ _=>sign_pair hp)
theorem Zcy:∀ (n:Nat) (cur l:List Nat),l.length≤n→∃ x r,lex cur l=(cur++x)::r
 | _,cur,[],_=>⟨[],[],by rw [lex,List.append_nil]⟩
 | 0,cur,c::r,h=>by simp at h
 | n+1,cur,c::r,h=>by
  by_cases hs:Zai [c]=true
  ·exact ⟨[],_,by rw [lex,if_pos hs,List.append_nil]⟩
  ·refine E21 (Zcy n (cur++[c]) r (by simp only [List.length_cons] at h; exact Wn [_,_] (.v 0) (.v 1) [(1,.a (.v 0) (.n 1),.a (.v 1) (.n 1))] rfl h)) λ x r' e=>?_
   exact ⟨c::x,r',by rw [lex,if_neg hs,e,List.append_assoc]; rfl⟩
theorem run3 {β : Type} (F : β→List Nat × List Nat × List Nat→Option β) (st : β) (p s q:List Nat) (r:List (List Nat)):Zaf F st (trip (p::s::q::r))=(F st (p,s,q)).bind λ c=>Zaf F c (trip (q::r)):=rfl
section
variable {ws:List Str} {rows ar:List Nat} {cl:Bool} {p q:List Nat} {a:Nat}
theorem row_open (ha:ar.getLast? = some a) (hq:q ≠ []):Zan ws (rows,ar,cl) (p,[60],q)=some (rows,ar++[a],cl):=by
 unfold Zan
 have:(sl q != ("" : Str))=true:=by
  rw [bne_iff_ne]; intro e
  exact hq (sl_inj (a:=q) (b:=[]) e)
 show ((kindOf [60]).bind λ k=>if (k==20&&sl q != ("" : Str))=true then ar.getLast?.map λ a=>(rows,ar++[a],cl) else _)=_
 rw [k60,Option.bind_some,this,if_pos (by rfl),ha]; rfl
theorem Zkh {s:List Nat} {k:Nat} (hk:kindOf s=some k) (h:(k==20&&sl q != ("" : Str))=false) (h1:k ≠ 17) (h2:k ≠ 22) (h3:k ≠ 21):Zan ws (rows,ar,cl) (p,s,q)=some (rows,ar,cl):=by
 unfold Zan
 show ((kindOf s).bind λ k=>if (k==20&&sl q != ("" : Str))=true then _ else if (k==17)=true then _ else if (k==22)=true then _ else if (k==21)=true then _ else some (rows,ar,cl))=_
 rw [hk,Option.bind_some,h,if_neg Bool.false_ne_true,if_neg (by simpa using h1),if_neg (by simpa using h2),if_neg (by simpa using h3)]
theorem row_slash (ha:ar.getLast? = some a):Zan ws (rows,ar,cl) (p,[47],q)=some (rows,ar.dropLast,true):=by
 unfold Zan
 show ((kindOf [47]).bind λ k=>if (k==20&&sl q != ("" : Str))=true then _ else if (k==17)=true then ar.getLast?.map λ _=>(rows,ar.dropLast,true) else _)=_
 rw [k47,Option.bind_some,if_neg (by simp),if_pos (show (17==17)=true from rfl),ha]; rfl
theorem row_eq {w:Str} {j:Nat} (ha:ar.getLast? = some a) (hw:Zdq p=some w) (hj:idxW ws w=some j):Zan ws (rows,ar,cl) (p,[61],q)=some (rows,ar.dropLast++[a ||| 1 <<< j],cl):=by
 unfold Zan
 show ((kindOf [61]).bind λ k=>if (k==20&&sl q != ("" : Str))=true then _ else if (k==17)=true then _ else if (k==22)=true then (Zdq p).bind λ w=>(idxW ws w).bind λ j=>ar.getLast?.map λ a=>(rows,ar.dropLast++[a ||| 1 <<< j],cl) else _)=_
 rw [k61,Option.bind_some,if_neg (by simp),if_neg (by simp),if_pos (show (22==22)=true from rfl),hw,Option.bind_some,hj,Option.bind_some,ha]; rfl
theorem row_gt (ha:ar.getLast? = some a):Zan ws (rows,ar,cl) (p,[62],q)=some (if cl=true then rows else rows++[a],ar,false):=by
 unfold Zan
 show ((kindOf [62]).bind λ k=>if (k==20&&sl q != ("" : Str))=true then _ else if (k==17)=true then _ else if (k==22)=true then _ else if (k==21)=true then (if cl=true then some (rows,ar,false) else ar.getLast?.map λ a=>(rows++[a],ar,false)) else _)=_
 rw [k62,Option.bind_some,if_neg (by simp),if_neg (by simp),if_neg (by simp),if_pos (show (21==21)=true from rfl)]
 cases cl
 ·rw [if_neg Bool.false_ne_true,if_neg Bool.false_ne_true,ha]; rfl
 ·rw [if_pos rfl,if_pos rfl]
end
def Zln (r:List Nat):Prop:=r=[]∨∃ r',r=60::r'
theorem lex_gt {cur r:List Nat} (h:Zln r):lex cur (62::r)=cur::[62]::lex [] r:=by
 rcases h with rfl | ⟨r',rfl⟩
 ·exact Zbu (sg k62) λ _ _ h=>nomatch h
 ·exact Zks (sg k62) (by kernel_rfl)
theorem n34:Zai [34]=false:=by kernel_rfl
theorem n101:Zai [101]=false:=by kernel_rfl
theorem n32:Zai [32]=false:=by kernel_rfl
theorem lex_close {r:List Nat} (h:Zln r):lex [] (closeL++r)=[]::[60]::[]::[47]::[101]::[62]::lex [] r:=by
 show lex [] (60::47::101::62::r)=_
 rw [Zks (sg k60) (by kernel_rfl),Zks (sg k47) (by kernel_rfl),Zbg n101,lex_gt h]; rfl
theorem close_run {ws:List Str} {rows ar r:List Nat} {a b:Nat} (h:Zln r) (ha:ar.getLast? = some a) (hb:ar.dropLast.getLast? = some b):Zaf (Zan ws) (rows,ar,false) (trip (lex [] (closeL++r)))=Zaf (Zan ws) (rows,ar.dropLast,false) (trip (lex [] r)):=by
 refine E21 (Zcy _ [] r (Nat.le_refl _)) λ x r' e=>?_
 rw [lex_close h,e,run3,Zkh k60 (by rfl) (by decide) (by decide) (by decide),Option.bind_some,run3,row_slash ha,Option.bind_some,run3,row_gt hb,Option.bind_some,if_pos rfl]
theorem Zei {i:Nat} (hi:i < 32):∀ c∈Zcz i,Zai [c]=false∧c < 128:=λ c hc=>by
 have:=List.all_eq_true.mp (List.all_eq_true.mp words_chars i (List.mem_range.mpr hi)) c hc
 simpa using this
noncomputable def orW (f a:Nat) (tl:List Str):Nat:=tl.foldl (λ x w=>x ||| 1 <<< ((idxW (wordsOf f) w).getD 0)) a
def fromF (f:Nat) (w:Str):Prop:=∃ j,j < 4∧w=Zab (f+j)
theorem Zgy {f j:Nat} (hf:f < 29) (hj:j < 4):idxW (wordsOf f) (Zab (f+j))=some j:=eq_of_beq (List.all_eq_true.mp (List.all_eq_true.mp idx_all f (List.mem_range.mpr hf)) j (List.mem_range.mpr hj))
theorem word_last {cur:List Nat} {i:Nat} (hc:cur=[101]∨cur=[34]) (hi:i < 32):Zdq (cur++[32]++Zcz i)=some (Zab i):=by
 have:=List.all_eq_true.mp words_last i (List.mem_range.mpr hi)
 rw [Bool.and_eq_true] at this
 rcases hc with rfl | rfl
 ·exact eq_of_beq this.1
 ·exact eq_of_beq this.2
theorem lex_attr {cur X:List Nat} {i:Nat} (hi:i < 32):lex cur (Zgw (Zab i)++X)=(cur++[32]++Zcz i)::[61]::[34]::[38]::[108,116]::[59]::lex [34] X:=by
 have e:Zgw (Zab i)++X=32::(Zcz i++61::34::38::108::([116]++59::34::X)):=by
  unfold Zgw Zcz; simp
 rw [e,Zbg n32,Zco λ c hc=>(Zei hi c hc).1,Zbu (sg k61) (by rintro d r q; cases q; rfl),Zbg n34,Zbu (sg k38) (by rintro d r q; cases q; rfl),Zbg (by kernel_rfl),Zco (by decide +kernel),Zbu (sg k59) (by rintro d r q; cases q; rfl),Zbg n34]
 rfl
theorem attrs_run {f:Nat} (hf:f < 29) {rows ar X:List Nat}:∀ (tl:List Str) (cur:List Nat) (a:Nat),(cur=[101]∨cur=[34])→(∀ w∈tl,fromF f w)→
  ∃ cur',(cur'=[101]∨cur'=[34])∧Zaf (Zan (wordsOf f)) (rows,ar++[a],false) (trip (lex cur (tl.flatMap Zgw++X)))=Zaf (Zan (wordsOf f)) (rows,ar++[orW f a tl],false) (trip (lex cur' X))
 | [],cur,a,hc,_=>⟨cur,hc,rfl⟩
 | w::tl,cur,a,hc,h=>by
  refine E12 (h w List.mem_cons_self) λ j hj Y1=>?_
  subst Y1
  have hi:f+j < 32:=by exact Wn [_,_] (.a (.a (.v 0) (.v 1)) (.n 1)) (.n 32) [(1,.a (.v 1) (.n 1),.n 4),(1,.a (.v 0) (.n 1),.n 29)] rfl hj hf
  obtain ⟨cur',hc',e⟩:=attrs_run hf tl [34] (a ||| 1 <<< j) (.inr rfl) λ w hw=>h w (List.mem_cons_of_mem _ hw)
  refine ⟨cur',hc',?_⟩
  have eo:orW f a (Zab (f+j)::tl)=orW f (a ||| 1 <<< j) tl:=by
   unfold orW
   rw [List.foldl_cons,Zgy hf hj]; rfl
  rw [eo,← e,List.flatMap_cons,List.append_assoc,lex_attr hi]
  refine E21 (Zcy _ [34] (tl.flatMap Zgw++X) (Nat.le_refl _)) λ x r' ex=>?_
  rw [ex,run3,row_eq (a:=a) (by simp) (word_last hc hi) (Zgy hf hj),Option.bind_some,run3,Zkh k38 (by rfl) (by decide) (by decide) (by decide),Option.bind_some,run3,Zkh k59 (by rfl) (by decide) (by decide) (by decide),Option.bind_some,List.dropLast_concat]
theorem or_set {f a s:Nat} (hf:f < 29):orW f a (Zbb (told f s))=a ||| (s &&& 15):=by
 have h1:orW f a (Zbb (told f s))=orW f a (told f s):=by
  unfold orW
  refine List.Perm.foldl_eq' (Zav _) (λ x _ y _ z=>?_) a
  rw [Nat.or_assoc,Nat.or_assoc,Nat.or_comm (1 <<< _)]
 have h2:∀ (l:List Nat) (a:Nat),(∀ i∈l,i < 4)→orW f a (l.map λ i=>Zab (f+i))=a ||| l.foldl (λ x i=>x ||| 1 <<< i) 0:=by
  intro l
  induction l with
  | nil=>intro a _; simp [orW]
  | cons i l ih=>
   intro a hl
   have e1:orW f a ((i::l).map λ i=>Zab (f+i))=orW f (a ||| 1 <<< i) (l.map λ i=>Zab (f+i)):=by
    unfold orW
    rw [List.map_cons,List.foldl_cons,Zgy hf (hl i List.mem_cons_self)]; rfl
   have e2:∀ (l:List Nat) (b:Nat),l.foldl (λ x i=>x ||| 1 <<< i) b=b ||| l.foldl (λ x i=>x ||| 1 <<< i) 0:=by
    intro l
    induction l with
    | nil=>intro b; simp
    | cons i l ih=>intro b; rw [List.foldl_cons,List.foldl_cons,ih (b ||| 1 <<< i),ih (0 ||| 1 <<< i),Nat.or_assoc,Nat.zero_or]
   rw [e1,ih _ λ i hi=>hl i (List.mem_cons_of_mem _ hi),List.foldl_cons,e2 l (0 ||| 1 <<< i),Nat.zero_or,Nat.or_assoc]
 rw [h1,← Zjy]
 unfold told
 rw [h2 _ a λ i hi=>Zdi hi]
 congr 1
 exact eq_of_beq (List.all_eq_true.mp bits_or _ (List.mem_range.mpr (and15 s)))
theorem told_from {f s:Nat}:∀ w∈Zbb (told f s),fromF f w:=λ w hw=>by
 refine E12 (List.mem_map.mp ((Zav _).mem_iff.mp hw)) λ j hj Y1=>?_
 subst Y1
 exact ⟨j,Zdi hj,rfl⟩
theorem Zkl {f s a:Nat} (hf:f < 29) {rows ar r:List Nat} (h:Zln r) (ha:ar.getLast? = some a) :
  Zaf (Zan (wordsOf f)) (rows,ar,false) (trip (lex [] (Zdv f s++r)))=Zaf (Zan (wordsOf f)) (rows++[a ||| (s &&& 15)],ar++[a ||| (s &&& 15)],false) (trip (lex [] r)):=by
 have e:Zdv f s++r=60::101::((Zbb (told f s)).flatMap Zgw++62::r):=by unfold Zdv; simp
 refine E21 (Zcy _ [101] ((Zbb (told f s)).flatMap Zgw++62::r) (Nat.le_refl _)) λ x r' ex=>?_
 rw [e,Zbu (sg k60) (by rintro d r q; cases q; rfl),Zbg n101,List.nil_append,ex,run3,row_open ha (by simp),Option.bind_some,← ex]
 refine E12 (attrs_run hf (rows:=rows) (ar:=ar) (X:=62::r) (Zbb (told f s)) [101] a (.inl rfl) told_from) λ cur' hc' e'=>?_
 refine E21 (Zcy _ [] r (Nat.le_refl _)) λ x' r'' ex'=>?_
 rw [e',or_set hf,lex_gt h,ex',run3,row_gt (a:=a ||| (s &&& 15)) (by simp),Option.bind_some,if_neg Bool.false_ne_true]
theorem Zjc (f:Nat):∀ l:List Nat,Zln (l.flatMap (Zbq f))
 | []=>.inl rfl
 | s::r=>by
  rw [List.flatMap_cons]
  unfold Zbq
  split
  ·exact .inr ⟨_,rfl⟩
  ·split
   ·exact .inr ⟨_,rfl⟩
   ·exact .inr ⟨_,rfl⟩
theorem Zhc {f:Nat} (hf:f < 29):∀ (l:List Nat) (d:Nat) (rows ar:List Nat),okS d l→ar.length=d→1≤d→
  ∃ st,Zaf (Zan (wordsOf f)) (rows,0::ar,false) (trip (lex [] (l.dropLast.flatMap (Zbq f))))=some (rows++Zep ar l,st)
 | [],_,_,_,h,_,_=>h.elim
 | s::r,d,rows,ar,h,hd,h1=>by
  refine E11 (Zig (ar:=ar) (by exact Wn [_,_] (.n 1) (.v 0) [(1,.n 1,.v 1),(1,.v 1,.v 0)] rfl h1 (Wf hd))) λ a ha=>?_
  have hne:ar ≠ []:=λ e=>by rw [e] at hd; simp at hd; exact Wi (Wn [_] (.n 1) (.n 0) [(1,.n 1,.v 0),(1,.v 0,.n 0)] rfl h1 (Wf hd))
  have ha':(0::ar).getLast? = some a:=by rw [List.getLast?_cons,ha]; rfl
  have hdl:(0::ar).dropLast=0::ar.dropLast:=List.dropLast_cons_of_ne_nil hne
  have hst:=Zjc f r.dropLast
  rcases h with ⟨rfl,⟨rfl,rfl⟩ | ⟨h2,h⟩⟩ | ⟨h0,h512,h⟩
  ·refine ⟨(0::ar,false),?_⟩
   show Zaf _ _ (trip (lex [] []))=_
   rw [lex]
   simp [trip,Zaf,Zep]
  ·have hr:r ≠ []:=λ e=>by rw [e] at h; exact h
   refine E11 (Zig (ar:=ar.dropLast) (by rw [List.length_dropLast]; lia)) λ b hb=>?_
   refine E11 (Zhc hf r (d - 1) rows ar.dropLast h (by rw [List.length_dropLast]; lia) (by lia)) λ st e=>?_
   refine ⟨st,?_⟩
   rw [List.dropLast_cons_of_ne_nil hr,List.flatMap_cons,show Zbq f 0=closeL from rfl,close_run hst ha' (by rw [hdl,List.getLast?_cons,hb]),hdl,e,Zjf]
  ·have hr:r ≠ []:=λ e=>by rw [e] at h; exact h
   have hp:a ||| (s &&& 15)=Zdu ar s:=by unfold Zdu; rw [ha,Nat.or_comm]; rfl
   by_cases h2:256≤s
   ·rw [if_pos h2] at h
    refine E11 (Zhc hf r (d+1) (rows++[Zdu ar s]) (ar++[Zdu ar s]) h (by rw [List.length_append]; simp; assumption) (by exact Wlb rfl)) λ st e=>?_
    refine ⟨st,?_⟩
    rw [List.dropLast_cons_of_ne_nil hr,List.flatMap_cons,Zhu h2,Zkl hf hst ha',hp,Zjg h2,show (0::ar)++[Zdu ar s]=0::(ar++[Zdu ar s]) from rfl,e]
    simp
   ·rw [if_neg h2] at h
    refine E11 (Zhc hf r d (rows++[Zdu ar s]) ar h hd h1) λ st e=>?_
    refine ⟨st,?_⟩
    rw [List.dropLast_cons_of_ne_nil hr,List.flatMap_cons,Zhv h0 h2,List.append_assoc,Zkl (r:=closeL++r.dropLast.flatMap (Zbq f)) hf (.inr ⟨_,rfl⟩) ha',hp,Zjh h0 h2,
     close_run (a:=Zdu ar s) (b:=a) hst List.getLast?_concat (by rw [List.dropLast_concat]; exact ha'),List.dropLast_concat,e]
    simp
theorem rows_body {f:Nat} (hf:f < 29) {l:List Nat} (ok:okS 1 l):∃ rw,Zji (wordsOf f) (lex [] (Zdv f 256++l.dropLast.flatMap (Zbq f)))=some rw∧rw.1.drop 1=Zep [0] l:=by
 refine E11 (Zhc hf l 1 [0] [0] ok rfl (Nat.le_refl _)) λ st e=>?_
 refine ⟨([0]++Zep [0] l,st),?_,rfl⟩
 unfold Zji
 rw [Zkl (a:=0) hf (Zjc f _) rfl]
 exact e
noncomputable def sayL (f a:Nat):List Nat:=if a=0 then [48,120,48] else Zfo [44,32] ((Zcf a).map λ i=>Zcz (f+i))
theorem say_sl (f a:Nat):Zfw f a=sl (sayL f a):=by
 unfold Zfw sayL
 split
 ·decide +kernel
 ·have h:=join_sl [44,32] ((Zcf a).map λ i=>Zcz (f+i))
  rw [← h,List.map_map,show (", " : Str)=sl [44,32] from by decide +kernel]
  unfold told
  congr 1
noncomputable def Zgu (f:Nat) (r:Nat × Nat):List Nat:=sayL f r.1++([32]++60::32::sayL f r.2)
noncomputable def Zcl (f:Nat) (st:List (Nat × Nat)):List Nat:=Zfo [32,38,13] (st.map (Zgu f))
theorem Zfz (f:Nat) (st:List (Nat × Nat)):Txt.join " &\r" (Zaq (Zfw f) st)=sl (Zcl f st):=by
 unfold Zcl
 rw [← join_sl,List.map_map,show (" &\r" : Str)=sl [32,38,13] from by decide +kernel]
 unfold Zaq
 congr 1
 refine List.map_congr_left λ r _=>?_
 rw [say_sl,say_sl,show (" < " : Str)=sl [32,60,32] from by decide +kernel,Zbd,Zbd]
 show sl _=sl _
 unfold Zgu
 simp
theorem Zku {p:Nat→Prop} {sep:List Nat} (hs:∀ c∈sep,p c):∀ xs:List (List Nat),(∀ x∈xs,∀ c∈x,p c)→∀ c∈Zfo sep xs,p c
 | [],_,_,h=>nomatch h
 | [x],hx,c,h=>hx x (List.mem_singleton.mpr rfl) c h
 | x::y::r,hx,c,h=>by
  rcases List.mem_append.mp (show c∈(x++sep)++Zfo sep (y::r) from h) with h | h
  ·rcases List.mem_append.mp h with h | h
   ·exact hx x List.mem_cons_self c h
   ·exact hs c h
  ·exact Zku hs (y::r) (λ z hz=>hx z (List.mem_cons_of_mem _ hz)) c h
def okP (c:Nat):Prop:=okC c=true∧c < 128
theorem say_ok {f a:Nat} (hf:f < 29):∀ c∈sayL f a,okP c:=by
 unfold sayL
 split
 ·unfold okP; decide +kernel
 ·refine Zku (by unfold okP; decide +kernel) _ λ x hx c hc=>?_
  refine E12 (List.mem_map.mp hx) λ i hi Y1=>?_
  subst Y1
  have:=Zdi hi
  refine E02 (Zei (i:=f+i) (by exact Wn [_,_] (.a (.a (.v 0) (.v 1)) (.n 1)) (.n 32) [(1,.a (.v 1) (.n 1),.n 4),(1,.a (.v 0) (.n 1),.n 29)] rfl this hf) c hc) λ h1 h2=>?_
  refine ⟨?_,h2⟩
  unfold okC
  rw [h1]; simp
theorem page_ok {f:Nat} (hf:f < 29) (st:List (Nat × Nat)):∀ c∈Zcl f st,okP c:=by
 refine Zku (by unfold okP; decide +kernel) _ λ x hx c hc=>?_
 refine E12 (List.mem_map.mp hx) λ r hr Y1=>?_
 subst Y1
 unfold Zgu at hc
 rcases List.mem_append.mp hc with hc | hc
 ·exact say_ok hf c hc
 ·have:c∈[32,60,32]∨c∈sayL f r.2:=by
   simp only [List.mem_append,List.mem_cons,List.not_mem_nil,or_false] at hc ⊢
   rcases hc with h | h | h | h
   ·exact .inl (.inl h)
   ·exact .inl (.inr (.inl h))
   ·exact .inl (.inl h)
   ·exact .inr h
  rcases this with h | h
  ·have hall:∀ c∈([32,60,32]:List Nat),okP c:=by unfold okP; decide +kernel
   exact hall c h
  ·exact say_ok hf c h
theorem page_62 {f:Nat} (hf:f < 29) (st:List (Nat × Nat)):62 ∉ Zcl f st:=λ h=>by
 have:=(page_ok hf st 62 h).1
 revert this; decide +kernel
noncomputable def addR (st:RlSt) (n:Nat):RlSt:=(st.1,if st.2.2.2=true then (st.2.1,st.2.2.1+n,true) else (st.2.1+n,st.2.2.1,false))
theorem addR_add (st:RlSt) (a b:Nat):addR (addR st a) b=addR st (a+b):=by
 obtain ⟨rs,x,y,fl⟩:=st
 cases fl <;> simp [addR,Nat.add_assoc]
theorem addR_zero (st:RlSt):addR st 0=st:=by
 obtain ⟨rs,x,y,fl⟩:=st
 cases fl <;> simp [addR]
noncomputable def sumR:List Nat→Nat
 | []=>0
 | i::r=>1 <<< i+sumR r
theorem sum_bits:((List.range 16).all λ a=>sumR (Zcf a)==a)=true:=by kernel_rfl
theorem word_strip {p q:List Nat} {i:Nat} (hp:p=[]∨p=[32]∨p=[13]) (hq:q=[]∨q=[32]) (hi:i < 32):Txt.strip (sl (p++Zcz i++q))=Zab i:=by
 have h1:=List.all_eq_true.mp words_strip i (List.mem_range.mpr hi)
 have h2:=List.all_eq_true.mp (List.all_eq_true.mp h1 p (by rcases hp with rfl | rfl | rfl <;> simp)) q (by rcases hq with rfl | rfl <;> simp)
 exact eq_of_beq h2
theorem Zjs {p q:List Nat} (hp:p=[]∨p=[32]∨p=[13]) (hq:q=[]∨q=[32]):Txt.strip (sl (p++[48,120,48]++q)) = "0x0" := by
 have h2:=List.all_eq_true.mp (List.all_eq_true.mp zero_strip p (by rcases hp with rfl | rfl | rfl <;> simp)) q (by rcases hq with rfl | rfl <;> simp)
 exact eq_of_beq h2
theorem rul_word {f j:Nat} (hf:f < 29) (hj:j < 4) {p q:List Nat} (hp:p=[]∨p=[32]∨p=[13]) (hq:q=[]∨q=[32]) (st:RlSt):Zdb (wordsOf f) st (p++Zcz (f+j)++q)=some (addR st (1 <<< j)):=by
 unfold Zdb
 rw [word_strip hp hq (by exact Wn [_,_] (.a (.a (.v 0) (.v 1)) (.n 1)) (.n 32) [(1,.a (.v 1) (.n 1),.n 4),(1,.a (.v 0) (.n 1),.n 29)] rfl hj hf),if_pos (bne_iff_ne.mpr (Zjt (i:=f+j) (by exact Wn [_,_] (.a (.a (.v 0) (.v 1)) (.n 1)) (.n 32) [(1,.a (.v 1) (.n 1),.n 4),(1,.a (.v 0) (.n 1),.n 29)] rfl hj hf)).2.2.1),Zgy hf hj]; rfl
theorem rul_zero {f:Nat} {p q:List Nat} (hp:p=[]∨p=[32]∨p=[13]) (hq:q=[]∨q=[32]) (st:RlSt):Zdb (wordsOf f) st (p++[48,120,48]++q)=some st:=by
 unfold Zdb
 rw [Zjs hp hq,if_neg (by simp)]
theorem Zkf {ws:List Str} {st st':RlSt} {p s q:List Nat} {k:Nat} (hw:Zdb ws st p=some st') (hk:kindOf s=some k):Zbe ws st (p,s,q)=Zch st' k:=by
 unfold Zbe
 rw [hw,Option.bind_some,hk,Option.bind_some]
theorem blank_ok {q:List Nat} (hq:q=[]∨q=[32]):∀ c∈q,Zai [c]=false:=by
 rcases hq with rfl | rfl
 ·exact λ _ h=>nomatch h
 ·intro c hc; rw [List.mem_singleton.mp hc]; exact n32
theorem Zlc {f c k:Nat} (hf:f < 29) {q X:List Nat} (hq:q=[]∨q=[32]) (hk:kindOf [c]=some k) (hX:∀ d r,X=d::r→risk d=false):∀ (is:List Nat) (cur:List Nat) (st:RlSt),is ≠ []→(∀ i∈is,i < 4)→(cur=[]∨cur=[32]∨cur=[13])→
  Zaf (Zbe (wordsOf f)) st (trip (lex cur (Zfo [44,32] (is.map λ i=>Zcz (f+i))++(q++c::X))))=(Zch (addR st (sumR is)) k).bind λ st=>Zaf (Zbe (wordsOf f)) st (trip (lex [] X))
 | [],_,_,h,_,_=>absurd rfl h
 | [i],cur,st,_,hi,hc=>by
  have hi4:=hi i List.mem_cons_self
  refine E21 (Zcy _ [] X (Nat.le_refl _)) λ x r' e=>?_
  show Zaf _ st (trip (lex cur (Zcz (f+i)++(q++c::X))))=_
  rw [Zco λ c hc=>(Zei (i:=f+i) (by exact Wn [_,_] (.a (.a (.v 0) (.v 1)) (.n 1)) (.n 32) [(1,.a (.v 1) (.n 1),.n 4),(1,.a (.v 0) (.n 1),.n 29)] rfl hi4 hf) c hc).1,Zco (blank_ok hq),Zbu (sg hk) hX,e,run3,Zkf (rul_word hf hi4 hc hq st) hk]
  rfl
 | i::j::is,cur,st,_,hi,hc=>by
  have hi4:=hi i List.mem_cons_self
  have ih:=Zlc hf hq hk hX (j::is) [32] (addR st (1 <<< i)) (by simp) (λ i h=>hi i (List.mem_cons_of_mem _ h)) (.inr (.inl rfl))
  have e1:Zfo [44,32] ((i::j::is).map λ i=>Zcz (f+i))++(q++c::X)=Zcz (f+i)++44::32::(Zfo [44,32] ((j::is).map λ i=>Zcz (f+i))++(q++c::X)):=by
   show (Zcz (f+i)++[44,32]++Zfo [44,32] ((j::is).map λ i=>Zcz (f+i)))++_=_
   simp
  refine E21 (Zcy _ [32] (Zfo [44,32] ((j::is).map λ i=>Zcz (f+i))++(q++c::X)) (Nat.le_refl _)) λ x r' e=>?_
  have hw:=rul_word hf hi4 hc (q:=[]) (.inl rfl) st
  rw [List.append_nil] at hw
  rw [e1,Zco λ c hc=>(Zei (i:=f+i) (by exact Wn [_,_] (.a (.a (.v 0) (.v 1)) (.n 1)) (.n 32) [(1,.a (.v 1) (.n 1),.n 4),(1,.a (.v 0) (.n 1),.n 29)] rfl hi4 hf) c hc).1,Zbu (sg k44) (by rintro d r q; cases q; rfl),Zbg n32,List.nil_append,e,run3,Zkf hw k44]
  show (Zch (addR st (1 <<< i)) 12).bind _=_
  rw [show Zch (addR st (1 <<< i)) 12=some (addR st (1 <<< i)) from rfl,Option.bind_some,← e,ih,addR_add]
  rfl
theorem n48:∀ c∈([48,120,48]:List Nat),Zai [c]=false:=by decide +kernel
theorem say_run {f c k a:Nat} (hf:f < 29) (ha:a < 16) {q X:List Nat} (hq:q=[]∨q=[32]) (hk:kindOf [c]=some k) (hX:∀ d r,X=d::r→risk d=false) {cur:List Nat} (hc:cur=[]∨cur=[32]∨cur=[13]) (st:RlSt) :
  Zaf (Zbe (wordsOf f)) st (trip (lex cur (sayL f a++(q++c::X))))=(Zch (addR st a) k).bind λ st=>Zaf (Zbe (wordsOf f)) st (trip (lex [] X)):=by
 unfold sayL
 by_cases h0:a=0
 ·subst h0
  refine E21 (Zcy _ [] X (Nat.le_refl _)) λ x r' e=>?_
  rw [if_pos rfl,Zco n48,Zco (blank_ok hq),Zbu (sg hk) hX,e,run3,Zkf (rul_zero hc hq st) hk,addR_zero]
 ·rewrite [if_neg h0,Zlc hf hq hk hX _ _ _ ?_ (λ i hi=>Zdi hi) hc]
  ·rw [eq_of_beq (List.all_eq_true.mp sum_bits a (List.mem_range.mpr ha))]
  intro e
  have:=bits_zero ha
  rw [e] at this
  simp at this
  exact h0 this
theorem line_run {f:Nat} (hf:f < 29) {r:Nat × Nat} (hr:r.1 < 16∧r.2 < 16) {q X:List Nat} (hq:q=[]∨q=[32]) (hX:∀ d r,X=d::r→risk d=false) {cur:List Nat} (hc:cur=[]∨cur=[32]∨cur=[13]) (rs:List (Nat × Nat)) :
  Zaf (Zbe (wordsOf f)) (rs,0,0,false) (trip (lex cur (Zgu f r++(q++38::X))))=Zaf (Zbe (wordsOf f)) (rs++[r],0,0,false) (trip (lex [] X)):=by
 have e1:Zgu f r++(q++38::X)=sayL f r.1++([32]++60::(32::(sayL f r.2++(q++38::X)))):=by unfold Zgu; simp
 rw [e1,say_run hf hr.1 (.inr rfl) k60 (by rintro d r q; cases q; rfl) hc]
 have e2:Zch (addR (rs,0,0,false) r.1) 20=some (rs,r.1,0,true):=by simp [Zch,addR]
 rw [e2,Option.bind_some,Zbg n32,List.nil_append,say_run hf hr.2 hq k38 hX (.inr (.inl rfl))]
 have e3:Zch (addR (rs,r.1,0,true) r.2) 19=some (rs++[r],0,0,false):=by simp [Zch,addR]
 rw [e3,Option.bind_some]
theorem page_run {f:Nat} (hf:f < 29):∀ (st:List (Nat × Nat)) (rs:List (Nat × Nat)) (cur:List Nat),st ≠ []→(∀ r∈st,r.1 < 16∧r.2 < 16)→(cur=[]∨cur=[32]∨cur=[13])→
  Zaf (Zbe (wordsOf f)) (rs,0,0,false) (trip (lex cur (Zcl f st++[38])))=some (rs++st,0,0,false)
 | [],_,_,h,_,_=>absurd rfl h
 | [r],rs,cur,_,hr,hc=>by
  show Zaf _ _ (trip (lex cur (Zgu f r++([]++38::[]))))=_
  rw [line_run (X:=[]) hf (hr r List.mem_cons_self) (.inl rfl) (λ _ _ h=>nomatch h) hc,lex]
  rfl
 | r::r'::st,rs,cur,_,hr,hc=>by
  have e1:Zcl f (r::r'::st)++[38]=Zgu f r++([32]++38::(13::(Zcl f (r'::st)++[38]))):=by
   show (Zgu f r++[32,38,13]++Zcl f (r'::st))++[38]=_
   simp
  rw [e1,line_run hf (hr r List.mem_cons_self) (.inr rfl) (by rintro d r q; cases q; rfl) hc,Zbg (by kernel_rfl),List.nil_append,page_run hf (r'::st) _ _ (by simp) (λ x hx=>hr x (List.mem_cons_of_mem _ hx)) (.inr (.inr rfl))]
  simp
theorem rul_page {f:Nat} (hf:f < 29) (st:List (Nat × Nat)) (hr:∀ r∈st,r.1 < 16∧r.2 < 16):rulRun (wordsOf f) (Zcl f st)=some (st,0,0,false):=by
 unfold rulRun Zba
 by_cases h:st=[]
 ·subst h
  rw [if_pos (by rfl)]; rfl
 ·rw [if_neg]
  ·exact page_run hf st [] [] h hr (.inl rfl)
  ·refine E21 (List.exists_cons_of_ne_nil h) λ r st' Y1=>?_
   subst Y1
   intro e
   have:(60:Nat)∈Zcl f (r::st'):=by
    have h1:(60:Nat)∈Zgu f r:=by unfold Zgu; simp
    cases st' with
    | nil=>exact h1
    | cons r' st'=>
     show 60∈Zgu f r++[32,38,13]++_
     exact List.mem_append_left _ (List.mem_append_left _ h1)
   rw [e] at this; cases this
theorem Zhz (xs:List Int):∀ i,∀ n∈Zcb xs i,0≤n
 | 0=>by show ∀ n∈([6,8,17,59,1312]:List Int),0≤n; decide
 | i+1=>by
  have ih:=Zhz xs i
  unfold Zcb
  cases (xs.take 60)[i]? with
  | none=>exact ih
  | some x=>
   intro n hn
   rcases List.mem_or_eq_of_mem_set hn with h | rfl
   ·exact ih n h
   ·have h1:0≤x.fmod 1000000:=Int.fmod_nonneg_of_pos _ (by decide)
    have h2:0≤(Zcb xs i)[i % 5]?.getD 0:=by
     cases h:(Zcb xs i)[i % 5]? with
     | none=>exact Int.le_refl _
     | some y=>exact ih y (List.mem_of_getElem? h)
    lia
theorem nums_nat (xs:List Int):∃ ns:List Nat,numsOf xs=ns.map (λ (n:Nat)=>(n:Int))∧ns.length=5:=by
 refine ⟨(numsOf xs).map Int.toNat,?_,by rw [List.length_map]; exact Zcn xs _⟩
 rw [List.map_map]
 conv=>lhs; rw [← List.map_id (numsOf xs)]
 refine List.map_congr_left λ n hn=>?_
 have:=Zhz xs _ n hn
 show n=((n.toNat:Nat):Int)
 lia
theorem tape_bits:((List.range 8).all λ a=>(List.range 2).all λ b=>((64+a+b * 128) &&& 64 != 0)&&(List.range 64).all λ c=>(c &&& 64==0)&&((((64+a+b * 128) &&& 63) <<< 6) ||| (c &&& 63)==a * 64+c))=true:=by kernel_rfl
theorem octs_get:∀ (xs:List Nat) (k j:Nat) {s:Nat},xs[j]? = some s→((xs.zipIdx k).flatMap oct1)[2 * j]? = some (64+s / 64+(k+j) % 2 * 128)∧((xs.zipIdx k).flatMap oct1)[2 * j+1]? = some (s % 64)
 | [],_,_,_,h=>by simp at h
 | x::xs,k,0,s,h=>by
  simp at h; subst h
  rw [List.zipIdx_cons,List.flatMap_cons]
  simp [oct1]
 | x::xs,k,j+1,s,h=>by
  have ih:=octs_get xs (k+1) j (by simpa using h)
  rw [List.zipIdx_cons,List.flatMap_cons,show oct1 (x,k)=[64+x / 64+k % 2 * 128,x % 64] from rfl]
  rw [show 2 * (j+1)=2 * j+2 by exact Nat.le_antisymm (Wn [_] (.m 2 (.a (.v 0) (.n 1))) (.a (.m 2 (.v 0)) (.n 2)) [] rfl) (Wn [_] (.a (.m 2 (.v 0)) (.n 2)) (.m 2 (.a (.v 0) (.n 1))) [] rfl),show k+(j+1)=k+1+j by exact Nat.le_antisymm (Wn [_,_] (.a (.v 0) (.a (.v 1) (.n 1))) (.a (.a (.v 0) (.n 1)) (.v 1)) [] rfl) (Wn [_,_] (.a (.a (.v 0) (.n 1)) (.v 1)) (.a (.v 0) (.a (.v 1) (.n 1))) [] rfl)]
  exact ih
theorem byte_get {ns:List Nat} {i n:Nat} (h:ns[i]? = some n):(byteArr (ns.map λ (n:Nat)=>(n:Int)))[i]? = some n.toUInt8:=by
 unfold byteArr
 simp [h]
theorem tape_ok {ns:List Nat}:TapeOk (byteArr ((Zfm (Zau ns)).map λ (n:Nat)=>(n:Int))) (Zau ns):=λ j s hs=>by
 have hsm:s < 512:=tell_small s (List.mem_of_getElem? hs)
 refine E02 (octs_get _ 0 j hs) λ h1 h2=>?_
 rw [Nat.zero_add] at h1
 refine ⟨_,_,byte_get h1,byte_get h2,?_⟩
 have h8:s / 64 < 8:=by lia
 have h64:s % 64 < 64:=by lia
 have hb:=List.all_eq_true.mp (List.all_eq_true.mp tape_bits (s / 64) (List.mem_range.mpr h8)) (j % 2) (List.mem_range.mpr (by lia))
 rw [Bool.and_eq_true] at hb
 have hc:=List.all_eq_true.mp hb.2 (s % 64) (List.mem_range.mpr h64)
 rw [Bool.and_eq_true] at hc
 have e1:((64+s / 64+j % 2 * 128).toUInt8).toNat=64+s / 64+j % 2 * 128:=by
  rw [Nat.toUInt8_eq,UInt8.toNat_ofNat']; lia
 have e2:((s % 64).toUInt8).toNat=s % 64:=by
  rw [Nat.toUInt8_eq,UInt8.toNat_ofNat']; lia
 rw [e1,e2]
 refine ⟨hb.1,by rw [eq_of_beq hc.1]; rfl,?_⟩
 rw [eq_of_beq hc.2]; lia
theorem Zkw (f:Nat→List Nat) (k:Nat) (h:∀ x,(f x).length≤k):∀ l:List Nat,(l.flatMap f).length≤k * l.length
 | []=>by simp
 | x::l=>by
  have h1:=Zkw f k h l
  have h2:=h x
  rw [List.flatMap_cons,List.length_append,List.length_cons,Nat.mul_succ]; exact Wn [_,_,_,_] (.a (.v 0) (.v 1)) (.a (.v 2) (.v 3)) [(1,.v 0,.v 3),(1,.v 1,.v 2)] rfl h2 h1
theorem spellL_len (c:Nat):(Zbo c).length≤5:=by
 unfold Zbo; split
 ·decide
 split
 ·decide
 split
 ·decide
 ·show 1≤5; decide
theorem open_len {f:Nat} (hf:f < 29) (s:Nat):(Zdv f s).length≤115:=by
 have h:=Zef (Zld hf) s
 rw [Zhx,Zal] at h
 exact h
theorem piece_len {f:Nat} (hf:f < 29) (s:Nat):(Zbq f s).length≤119:=by
 have h:=open_len hf s
 unfold Zbq
 split
 ·decide
 split
 ·exact Wn [_] (.v 0) (.n 119) [(1,.v 0,.n 115)] rfl h
 ·rw [List.length_append]; have:closeL.length=4:=rfl; exact Wn [_,_] (.a (.v 0) (.v 1)) (.n 119) [(1,.v 1,.n 4),(1,.v 0,.n 115)] rfl (We this) h
theorem flatS_len (xs:List Str):(xs.map (·.length)).sum=(Zdr xs).length:=by
 unfold Zdr
 induction xs with
 | nil=>rfl
 | cons x r ih=>rw [List.map_cons,List.sum_cons,List.flatMap_cons,List.length_append,ih]; rfl
theorem Zkn:∀ {l:List Nat} {d:Nat},okS d l→∃ l',l=l'++[0]
 | [],_,h=>h.elim
 | s::r,d,h=>by
  rcases h with ⟨rfl,⟨_,rfl⟩ | ⟨_,h⟩⟩ | ⟨_,_,h⟩
  ·exact ⟨[],rfl⟩
  ·refine E11 (Zkn h) λ l' e=>?_
   exact ⟨0::l',by rw [e]; rfl⟩
  ·refine E11 (Zkn h) λ l' e=>?_
   exact ⟨s::l',by rw [e]; rfl⟩
theorem Zic {f g:Nat→Str} {st:List (Nat × Nat)} (hs:∀ r∈st,r.1 < 16∧r.2 < 16) (h:∀ a,a < 16→f a=g a):Zaq f st=Zaq g st:=
 List.map_congr_left λ r hr=>by rw [h _ (hs r hr).1,h _ (hs r hr).2]
theorem want_ok (rows:List Nat) {p:Nat} (hp:p < 16):Zex (Zah rows) p++[Zdo (Zcj (Zah rows) p) p]=Zeq (Zah rows) rows p:=by
 have ho:Zex (Zah rows) p=if p < 16∧isPc rows p=true then [Zbk p rows] else []:=stem_own rows p 16
 unfold Zeq
 by_cases h:isPc rows p=true
 ·rw [ho,if_pos ⟨hp,h⟩]
  unfold Zcj
  rw [led_pc hp h]
  rfl
 ·have hr:Zcj (Zah rows) p=Zah rows:=by
   unfold Zcj
   rw [List.filter_eq_self]
   intro r hr
   rw [bne_iff_ne]
   rintro rfl
   exact h ((Zbs rows r 16).mp hr).2.2
  rw [ho,if_neg (λ q=>h q.2),hr,led_all hp]
  rfl
theorem slice_mid (a b c:List Nat) (hc:c.length=4):Txt.slice (sl (a++b++c)) (some a.length) (some (-4))=sl b:=by
 have h1:Txt.slice (sl (a++b++c)) (some (a.length:Int)) (some (-((4:Nat):Int)))=sl b:=by
  rw [slice_neg (by decide) (by simp only [List.length_append]; exact Wn [_,_,_] (.n 4) (.a (.a (.v 0) (.v 1)) (.v 2)) [(1,.n 4,.v 2)] rfl (Wf hc)),Zhr (by simp only [List.length_append]; exact Wn [_,_,_] (.v 0) (.a (.a (.v 0) (.v 1)) (.v 2)) [] rfl) (by simp only [List.length_append]; lia)]
  congr 2
  rw [List.append_assoc,List.drop_left]
  have:(a++(b++c)).length - 4 - a.length=b.length:=by simp only [List.length_append]; lia
  rw [this,List.take_left]
 exact h1
theorem mid_ok {f:Nat} (hf:f < 29) {outl:List Str} {bl drawn:List Nat} {rw:RwSt} (hb:bl.length≤10000) (hrun:Zji (wordsOf f) (lex [] bl)=some rw) (hd:rw.1.drop 1=drawn) (ho:outl.length≤8000) (hfl:Zdr outl=bl) :
  ∃ m,MidOk f (wordsOf f) outl bl drawn m:=by
 have hsm:=Zjb drawn
 have hstl:(Zah drawn).length≤16:=Zfh _ 16
 have e1:Zaq (λ a=>Zap (a <<< f)) (Zah drawn)=Zaq (Zfw f) (Zah drawn):=Zic hsm λ a ha=>Zel hf ha
 have e2:Zaq (λ a=>Zdz a (wordsOf f)) (Zah drawn)=Zaq (Zfw f) (Zah drawn):=Zic hsm λ a ha=>side_say ha
 have htext:Zer f (Zah drawn)=sl (Zcl f (Zah drawn)):=by unfold Zer; rw [e1,Zfz]
 have hz:=(Zfy (f:=Zfw f) hsm (λ a _=>Zke hf) hstl).2
 rw [Zfz,Zal] at hz
 have hsp:((Zcl f (Zah drawn)).flatMap Zbo).length≤20000:=Nat.le_trans (Zkw Zbo 5 spellL_len _) (by exact Wn [_] (.m 5 (.v 0)) (.n 20000) [(5,.v 0,.n 4000)] rfl hz)
 have hend:Zdr (endOf outl (Zer f (Zah drawn)))=bl++(Zcl f (Zah drawn)).flatMap Zbo++closeL:=by
  unfold endOf
  rw [Zce,Zce,hfl,Zgc,htext]
  congr 2
  show Zdr (Zdd _)=_
  unfold Zdd
  rw [Zal]
  by_cases h:(Zcl f (Zah drawn)).length=0
  ·rw [if_pos h,List.length_eq_zero_iff.mp h]; rfl
  ·rw [if_neg h,cdata_sl (page_62 hf _)]
   unfold Zdr
   simp
 have hcl:closeL.length=4:=rfl
 refine ⟨⟨rw,Zcl f (Zah drawn),(Zcl f (Zah drawn)).flatMap Zbo,Zcl f (Zah drawn),(Zah drawn,0,0,false)⟩,?_⟩
 have hst:Mid.stem ⟨rw,Zcl f (Zah drawn),(Zcl f (Zah drawn)).flatMap Zbo,Zcl f (Zah drawn),(Zah drawn,0,0,false)⟩=Zah drawn:=by unfold Mid.stem; rw [hd]
 exact {
  f28:=by exact Wn [_] (.v 0) (.n 28) [(1,.a (.v 0) (.n 1),.n 29)] rfl hf
  ws4:=by unfold wordsOf; simp
  ws20:=Zld hf
  blz:=by exact Wn [_] (.v 0) (.n 1000000) [(1,.v 0,.n 10000)] rfl hb
  rw:=hrun
  small:=by rw [hst]; exact hsm
  p100:=λ a ha=>by rw [Zel hf ha]; exact Zke hf
  s100:=λ a ha=>by rw [side_say ha]; exact Zke hf
  page:=by rw [hst,e2,Zfz]
  asc:=by
   rw [List.all_eq_true]
   intro c hc
   have:=(page_ok hf (Zah drawn) c hc).2
   simpa using this
  oz:=ho
  dz:=by rw [hst,flatS_len,hend,List.length_append,List.length_append]; exact Wn [_,_,_] (.a (.a (.v 0) (.v 1)) (.v 2)) (.n 2000000) [(1,.v 2,.n 4),(1,.v 1,.n 20000),(1,.v 0,.n 10000)] rfl (We hcl) hsp hb
  spz:=by rw [Zfv,Zal]; show ((Zcl f (Zah drawn)).flatMap Zbo).length≤_; exact Wn [_] (.v 0) (.n 1000000) [(1,.v 0,.n 20000)] rfl hsp
  doc:=by
   rw [hst,Zen,Zfv,Zbd,Zfr,Zbd]
   exact congrArg (λ l=>sl l) hend
  slice:=by rw [Zfv,Zbd,Zfr,Zbd]; exact slice_mid _ _ _ rfl
  slz:=by show ((Zcl f (Zah drawn)).flatMap Zbo).length≤_; exact Wn [_] (.v 0) (.n 1000000) [(1,.v 0,.n 20000)] rfl hsp
  unw:=by
   have:=Zlf (Zcl f (Zah drawn)) (λ c hc=>(page_ok hf _ c hc).1) []
   exact this
  pgz:=by show (Zcl f (Zah drawn)).length≤_; exact Wn [_] (.v 0) (.n 900000) [(1,.v 0,.n 4000)] rfl hz
  rul:=rul_page hf _ hsm
  r16:=λ r hr=>(hsm r hr).2
  rlz:=by show (Zah drawn).length≤_; exact Wn [_] (.v 0) (.n 1000) [(1,.v 0,.n 16)] rfl hstl
  want:=λ p hp=>want_ok drawn hp }
theorem law_plain {xs:List Int} (h:xs.length≤63):∃ ns fin bl m,LawOk xs ns fin bl m:=by
 refine E12 (nums_nat xs) λ ns hns h5=>?_
 refine E12 (syms_ok ns) λ l e ok=>?_
 have hf:Zao ns < 29:=Nat.mod_lt _ (by decide)
 have hl0:l ≠ []:=λ q=>by rw [q] at ok; exact ok
 have hlen:=syms_len h5
 refine E12 (rows_body hf ok) λ rw hrw hdr=>?_
 have hflat:=out_flat hf e hl0
 have hbl:(Zdv (Zao ns) 256++l.dropLast.flatMap (Zbq (Zao ns))).length≤10000:=by
  have h1:=open_len hf 256
  have h2:=Zkw _ 119 (piece_len hf) l.dropLast
  rw [e] at hlen
  rw [List.length_append]
  rw [List.length_dropLast] at h2
  simp only [List.length_cons] at hlen
  lia
 have hout:(outN ns).length≤8000:=by
  have:=(Zfu (Zao ns) (Zau ns) ((Zau ns).length - 1)).2
  unfold outN; lia
 refine E11 (mid_ok hf hbl hrw hdr hout hflat) λ m hm=>?_
 have hdue:dueRun (wordsOf (Zao ns)) (Zau ns)=some (sl ([]++Zdv (Zao ns) 256++l.flatMap (Zbq (Zao ns))),([]++[Zdu [] 256])++Zep ([]++[Zdu [] 256]) l,[]):=by
  rw [e]
  have h1:=due_stay (Zao ns) (t:=[]) (rows:=[]) (ar:=[]) (s:=256) (Nat.le_refl _)
  show (Zbn (wordsOf (Zao ns)) (sl [],[],[]) 256).bind (λ c=>Zaf (Zbn (wordsOf (Zao ns))) c l)=_
  rw [h1,Option.bind_some]
  exact Zkx (Zao ns) l 1 _ _ _ ok rfl (Nat.le_refl _)
 refine E11 (Zkn ok) λ l' el=>?_
 refine ⟨ns,(sl ([]++Zdv (Zao ns) 256++l.flatMap (Zbq (Zao ns))),([]++[Zdu [] 256])++Zep ([]++[Zdu [] 256]) l,[]),Zdv (Zao ns) 256++l.dropLast.flatMap (Zbq (Zao ns)),m,?_⟩
 exact {
  len:=h
  nums:=hns
  nlen:=by exact Wn [_] (.v 0) (.n 1000) [(1,.v 0,.n 5)] rfl (We h5)
  slen:=by exact Wn [_] (.v 0) (.n 1000) [(1,.v 0,.n 17)] rfl hlen
  tell:=tell_ok hf h5
  tape:=tape_ok
  due:=hdue
  same:=by
   rw [Zen,Zfr,Zbd]
   show sl (Zdr (outN ns)++closeL)=sl _
   rw [hflat,el,List.dropLast_concat,List.flatMap_append]
   rw [← List.append_assoc,List.nil_append]
   first | done | rfl
  body:=by
   rw [Zen]
   exact congrArg (λ l=>sl l) hflat
  bz:=by rw [flatS_len,hflat]; exact Wn [_] (.v 0) (.n 1000000) [(1,.v 0,.n 10000)] rfl hbl
  mid:=hm }
end
section
set_option maxRecDepth 100000
set_option maxHeartbeats 4000000
theorem ints_of {R:WRecords} {P:Params} {h:Heap} {xs:List WData} {vs:List Value} (hi:WShape.hasItems R xs .int=true) (hw:WellAll P h vs xs):∃ is:List Int,is.length=xs.length∧∀ h',Vals h' vs (is.map D.int):=by
 induction xs generalizing vs with
 | nil=>cases hw; exact ⟨[],rfl,λ _=>rfl⟩
 | cons x xs ih=>
  cases hw with
  | cons hx hr=>
   unfold WShape.hasItems at hi
   refine E02 (Bool.and_eq_true_iff.mp hi) λ h1 h2=>?_
   refine E11 (hasW_int h1) λ i q=>?_
   subst q
   refine E12 (ih h2 hr) λ is e V=>?_
   cases hx with
   | int _ t=>exact ⟨i::is,by rw [List.length_cons,List.length_cons,e],λ h'=>.cons ⟨t,rfl⟩ (V h')⟩
def saysV (w:World) (h:Heap):Prop:=∃ s,obsOf s=Zjl w∧∀ b o,s.heap.get? b=some o→h.get? b=some o
theorem post_ok (args:List WData):PySem.Challenge.rw_kl0100_01.row.toRowW.claim.post args (WData.bool true) args=true:=by
 show (WShape.has [] (WData.bool true) .bool&&WTm.holds [] (.eq .res (.lit (.bool true))) { args:=args,res:=some (WData.bool true),after:=args })=true
 simp [WShape.has,WShape.arms,WTm.holds,WTm.value,same_self]
theorem law_walk {d:DefRec} {kwd:List (Str × Expr)} (hn:d.name=("law" : Str)):WalkO qv Zfn (λ _ _=>True) saysV PySem.Challenge.rw_kl0100_01.row.toRowW d kwd λ f vs=>PySem.call f vs:=by
 intro w s₀ s₁ mg mb G Y a o pm cd doc dV kV ho hd hcd hD hmg hgens args vals as hpre hlay hrd hwl hlo
 refine E12 Y λ s e k=>?_
 try clear Y
 have big:sysModules < s₁.heap.objs.size:=Nat.lt_trans (by decide) G.T.g.lt
 refine E14 (topc_of (lim:=G.T.nolimit) (hg:=G.T.g) (hb:=G.T.b) (big:=big) e k) λ T dl ht hct hm=>?_
 rw [hn,hm] at hmg
 cases hmg
 -- the script
 refine E02 (pre_splitW hpre) λ p1 p2=>?_
 refine E23 (hasAllW_cons p1) λ x r Y1 px pr=>?_
 subst Y1
 cases hasAllW_nil pr
 refine E12 (hasW_list px) λ xs Y1 pi=>?_
 subst Y1
 have hlen:xs.length≤63:=by
  by_cases hc:xs.length≤63
  ·exact hc
  ·exfalso
   have hv:(PySem.Challenge.rw_kl0100_01.pre).value [] { args:=[WData.list xs] }=some (.bool false):=by
    show (WTm.and (.not (.lt (.lit (.int ((63:Nat):Int))) (.len (.arg 0)))) (.lit (.bool true))).value [] { args:=[WData.list xs] }=some (.bool false)
    have h63:(63:Int) < (xs.length:Int):=by lia
    have hd:Num.less? (WData.int 63) (WData.int (xs.length:Int))=some true:=congrArg some (decide_eq_true h63)
    simp [WTm.value,less?,hd]
   have:=condW_of p2 hv
   cases this
 cases hwl with
 | cons hx hr=>
  cases hr
  cases hx with
  | @list l us _ hl hus=>
   have ne:l ≠ 123:=λ q=>by
    subst q
    rw [ht] at hl
    cases hl
   obtain ⟨is,hi⟩:∃ is:List Int,is.length=xs.length∧∀ h',Vals h' us (is.map D.int):=ints_of pi hus
   refine E41 (law_plain (xs:=is) (by rw [hi.1]; exact hlen)) λ ns fin bl m ok=>?_
   have hsh:∀ h,(bsOf w s₁.heap mg mb G.T.nolimit G.T.g G.T.b big).G h→ShAt (bsOf w s₁.heap mg mb G.T.nolimit G.T.g G.T.b big) h l (.list (is.map D.int)):=λ h g=>⟨us.toArray,⟨_,g l _ ne hl⟩,hi.2 h⟩
   have hlaw:=law_calls T dl ok (tab:=[(123,.is λ o=>o=tabObj #[])]) (.inl rfl) hsh
   refine F0.to (hlaw callerA s₁ [.ref l] _ ⟨by decide,by decide,rfl⟩ (λ a o ne q=>q) (Nat.le_refl _) ?_ (by simp) ?_ (.cons rfl .nil) ?_)
   ·intro p hp
    rw [List.mem_singleton.mp hp]
    exact ⟨_,ht,rfl,Zbf rfl⟩
   ·intro p hp
    rw [List.mem_singleton.mp hp]
    exact λ q=>q.2 rfl
   ·intro v s' dv O' hq0 x hO nd fr hv
    refine E02 hq0 λ Y1 htab=>?_
    try clear hq0
    subst Y1
    have hh:v = .bool true:=hv; subst hh
    have keep:∀ b o,b ≠ 123→s₁.heap.get? b=some o→s'.heap.get? b=some o:=λ b o ne q=>x.keep b o (by simpa using ne) q
    have h123:∃ more,s'.heap.get? 123=some (tabObj (#[]++more)):=by
     rcases htab with rfl | ⟨c',rfl⟩
     ·refine E13 (hO _ List.mem_cons_self) λ o h1 h2 _=>?_
      exact ⟨#[],by rw [Array.append_empty,← show o=tabObj #[] from h2]; exact h1⟩
     ·refine E13 (hO _ List.mem_cons_self) λ o h1 h2 _=>?_
      exact ⟨tab1 Zbv c',by rw [Array.empty_append,← show o=tabObj (tab1 Zbv c') from h2]; exact h1⟩
    refine E11 h123 λ more hmore=>?_
    try clear h123
    refine ⟨.inl ⟨_,.bool true,[],rfl,λ _=>rfl,.bool true,post_ok _,λ _=>⟨.nil,λ a ha=>nomatch ha⟩⟩,⟨λ b o q=>?_,λ b o q=>?_⟩,x.os,λ y hy=>?_⟩
    ·by_cases hb:b=123
     ·subst hb
      rw [ht] at q
      cases q
      exact .inr (.inl ⟨hct,rfl,#[],more,rfl,hmore⟩)
     ·exact .inl (keep b o hb q)
    ·by_cases hb:b=123
     ·subst hb
      exact ⟨_,hmore⟩
     ·exact ⟨o,keep b o hb q⟩
    ·refine E11 (Array.mem_iff_getElem.mp hy) λ i Y1=>?_
     refine E11 Y1 λ hi' hy=>?_
     clear Y1
     rcases x.gens.bare i y (by rw [Array.getElem?_eq_getElem hi',hy]) with q | q
     ·exact q
     ·rw [hgens] at q
      simp at q
end
section
theorem left_law:LeftO PySem.Challenge.pw_kl0100_01 qv Zfn (λ _=>true) obsOf Zjl 6560:=
 left_of_T (m₀:=28) (ann:=6) λ w=>by
  have h:=left_obs (w.params.followText "special-get-raises") w
  rw [World.withFollow_self w "special-get-raises"] at h
  exact h
end
end Mine.Internal
set_option maxRecDepth 100000 in
set_option maxHeartbeats 8000000 in
theorem PySem.Challenge.cw_kl0100_01_holds : PySem.Challenge.rw_kl0100_01.Holds := by
 refine holds_law Mine.Internal.said_ok fun said => holds_open (q := Mine.Internal.qv) (loose := Mine.Internal.Zfn) (Xt := fun _ => true) (XP := fun _ _ => True) (Yf := Mine.Internal.obsOf) (Ya := Mine.Internal.Zjl) (YP := Mine.Internal.saysV) (N := 6560) Mine.Internal.left_law (fun _ s e => ⟨s, e, fun _ _ q => q⟩) (fun _ _ _ ⟨s, e, k⟩ kk => ⟨s, e, fun b o q => kk b o (k b o q)⟩) (fun _ _ => trivial) (fun _ _ _ _ _ => trivial) (by rfl) (by rfl) (by rfl) (fun s _ => recFacts_nil rfl) (by rfl) said (by decide +kernel) ⟨rfl, rfl, rfl, rfl, rfl, by decide +kernel⟩ ⟨[.list [.int 1, .int 2]], by decide +kernel, by decide +kernel⟩ (Mine.Internal.law_walk rfl)
