import PyProof.Rows.All
import Wide.All
import OpenK.AllK
import Wide.FinOn
import KE.BitLaws
import KE.KBits
import PySem.Challenge.RW_pk0017_01
open PySem PySem.W PyProof.Rows PySem.Calls
set_option Elab.async false
set_option linter.unusedVariables false
set_option maxRecDepth 100000
set_option maxHeartbeats 4000000
namespace Mine
open_top hd for PySem.Challenge.rw_pk0017_01

noncomputable abbrev PG : Program := PySem.Challenge.pw_pk0017_01
abbrev FM := Str → Option Value
abbrev Led := List (Addr × Obj)

structure Cx where
  w : World
  mean : ExcName → Option Value
  mg : FM
  mb : FM
  A : Around
  env : Env
  scr : Addr
  sv : List Value

structure Amb (c : Cx) (g : Heap) : Prop where
  X : (hd.heap_39 c.w.params).In g
  T : Top hd.view_39 (looseW hd.view_39 [Str.ofString "_twin_re_1", Str.ofString "_twin_re_2"]) c.mean c.mg c.mb g
  B : ∃ A₀ base outer, Below A₀ base outer g ∧ c.A.frames = some (c.env :: outer)
  S : g.IsList c.scr c.sv.toArray

def Sim (s s' : Shared) : Prop := ∃ h tk, s' = { s with heap := h, toks := tk }
theorem Sim.refl (s : Shared) : Sim s s := ⟨_, _, rfl⟩
theorem Sim.trans {a b d : Shared} (x : Sim a b) (y : Sim b d) : Sim a d := by
  obtain ⟨h, t, rfl⟩ := x; obtain ⟨h', t', rfl⟩ := y; exact ⟨h', t', rfl⟩

def Nd (n : Led) : Prop := (n.map (·.1)).Nodup

def Tri {α : Type} (c : Cx) (t : Sem α) (R : α → FM → Led → Prop) (m : FM) (n : Led) : Prop :=
  ∀ (fr : Led) (g : Heap) (s : Shared) (Q : α → Shared → Prop) (E : Value → Shared → Prop),
    Amb c g → Fr g c.env.locals s.heap m → News g c.env.locals s.heap (n ++ fr) → Nd (n ++ fr) →
    (∀ a s' m' n', Sim s s' → R a m' n' → Fr g c.env.locals s'.heap m' → News g c.env.locals s'.heap (n' ++ fr) → Nd (n' ++ fr) → Q a s') →
    wpAny (model PG c.w) c.A t Q E s

section
variable {α β : Type} {c : Cx} {m : FM} {n : Led} {e : Env}

theorem Tri.mono {t : Sem α} {R R' : α → FM → Led → Prop} (h : Tri c t R m n) (hR : ∀ a m' n', R a m' n' → R' a m' n') : Tri c t R' m n :=
  fun fr g s Q E hA F N D hQ => h fr g s Q E hA F N D fun a s' m' n' S r => hQ a s' m' n' S (hR a m' n' r)

/-- forget or turn over entries of the ledger -/
theorem Tri.sub {t : Sem α} {R : α → FM → Led → Prop} {n' : Led} (h : Tri c t R m n') (hs : ∀ p ∈ n', p ∈ n) (hd : Nd n → Nd n') : Tri c t R m n := by
  intro fr g s Q E hA F N D hQ
  have D' : Nd (n' ++ fr) := by
    unfold Nd at *
    simp only [List.map_append, List.nodup_append] at D ⊢
    refine ⟨hd D.1, D.2.1, fun a ha b hb => D.2.2 a ?_ b hb⟩
    obtain ⟨p, hp, rfl⟩ := List.mem_map.mp ha
    exact List.mem_map_of_mem (hs p hp)
  exact h fr g s Q E hA F (fun p hp => N p ((List.mem_append.mp hp).elim (fun q => List.mem_append_left _ (hs p q)) fun q => List.mem_append_right _ q)) D' hQ

theorem Tri.pure {a : α} {R : α → FM → Led → Prop} (h : R a m n) : Tri c (Pure.pure a) R m n :=
  fun _ _ s _ _ _ F N D hQ => wpAny_pure (hQ a s m n (Sim.refl s) h F N D)

theorem Tri.bind {t : Sem α} {f : α → Sem β} {R : β → FM → Led → Prop} (h : Tri c t (fun a => Tri c (f a) R) m n) : Tri c (t >>= f) R m n := by
  intro fr g s Q E hA F N D hQ
  refine wpAny_bind (h fr g s _ E hA F N D fun a s1 m1 n1 S1 h1 F1 N1 D1 => ?_)
  exact h1 fr g s1 _ E hA F1 N1 D1 fun b s2 m2 n2 S2 h2 F2 N2 D2 => hQ b s2 m2 n2 (S1.trans S2) h2 F2 N2 D2

theorem Tri.nil {R : Flow → FM → Led → Prop} (h : R .next m n) : Tri c (execs [] e) R m n :=
  fun _ _ s _ _ _ F N D hQ => wpAny_execs_nil (hQ _ s m n (Sim.refl s) h F N D)
theorem Tri.cons {st : Stmt} {rest : List Stmt} {R : Flow → FM → Led → Prop}
    (h : Tri c (exec st e) (fun f m' n' => match f with | .next => Tri c (execs rest e) R m' n' | f => R f m' n') m n) : Tri c (execs (st :: rest) e) R m n := by
  intro fr g s Q E hA F N D hQ
  refine wpAny_execs_cons (h fr g s _ E hA F N D fun f s1 m1 n1 S1 h1 F1 N1 D1 => ?_)
  cases f with
  | next => exact h1 fr g s1 _ E hA F1 N1 D1 fun b s2 m2 n2 S2 h2 F2 N2 D2 => hQ b s2 m2 n2 (S1.trans S2) h2 F2 N2 D2
  | brk => exact hQ _ s1 m1 n1 S1 h1 F1 N1 D1
  | cont => exact hQ _ s1 m1 n1 S1 h1 F1 N1 D1
  | ret v => exact hQ _ s1 m1 n1 S1 h1 F1 N1 D1
theorem Tri.ret {x : Expr} {pos : Pos} {R : Flow → FM → Led → Prop} (h : Tri c (eval x e) (fun v => R (.ret v)) m n) : Tri c (exec (.Return (some x) pos) e) R m n :=
  fun fr g s _ E hA F N D hQ => wpAny_Return_some (h fr g s _ E hA F N D fun v s1 m1 n1 S1 h1 F1 N1 D1 => hQ _ s1 m1 n1 S1 h1 F1 N1 D1)
theorem Tri.brk {pos : Pos} {R : Flow → FM → Led → Prop} (h : R .brk m n) : Tri c (exec (.Break pos) e) R m n :=
  fun _ _ s _ _ _ F N D hQ => wpAny_Break (hQ _ s m n (Sim.refl s) h F N D)
theorem Tri.expr {x : Expr} {pos : Pos} {R : Flow → FM → Led → Prop} (h : Tri c (eval x e) (fun v m' n' => v = .none ∧ R .next m' n') m n)
    (h1 : interactive e = false := by rfl) (h2 : swapsWith x none pos.line e = Pure.pure false := by rfl) : Tri c (exec (.Expr x pos) e) R m n :=
  fun fr g s _ E hA F N D hQ => wpAny_Expr (h fr g s _ E hA F N D fun v s1 m1 n1 S1 h1 F1 N1 D1 => by
    obtain ⟨rfl, h1⟩ := h1
    exact hQ _ s1 m1 n1 S1 h1 F1 N1 D1) h1 h2

def put (m : FM) (x : Str) (v : Value) : FM := fun y => if y = x then some v else m y

theorem Tri.assign {x : Str} {p' pos : Pos} {v : Expr} {R : Flow → FM → Led → Prop} (h : Tri c (eval v e) (fun a => Tri c (storeName e x a) (fun _ => R .next)) m n)
    (h1 : swapsWith v (some (.Name x p')) pos.line e = Pure.pure false := by rfl) : Tri c (exec (.Assign [.Name x p'] v pos) e) R m n := by
  intro fr g s Q E hA F N D hQ
  refine wpAny_Assign_Name (h fr g s _ E hA F N D fun a s1 m1 n1 S1 h1 F1 N1 D1 => ?_) h1
  exact h1 fr g s1 _ E hA F1 N1 D1 fun _ s2 m2 n2 S2 h2 F2 N2 D2 => hQ _ s2 m2 n2 (S1.trans S2) h2 F2 N2 D2
theorem Tri.aug {x : Str} {p' pos : Pos} {op : Operator} {v : Expr} {R : Flow → FM → Led → Prop}
    (h : Tri c (loadName e x) (fun old => Tri c (eval v e) (fun a => Tri c (inplaceOp op old a) (fun r => Tri c (storeName e x r) (fun _ => R .next)))) m n) : Tri c (exec (.AugAssign (.Name x p') op v pos) e) R m n := by
  intro fr g s Q E hA F N D hQ
  refine wpAny_AugAssign_Name (h fr g s _ E hA F N D fun a s1 m1 n1 S1 h1 F1 N1 D1 => ?_)
  refine h1 fr g s1 _ E hA F1 N1 D1 fun _ s2 m2 n2 S2 h2 F2 N2 D2 => ?_
  refine h2 fr g s2 _ E hA F2 N2 D2 fun _ s3 m3 n3 S3 h3 F3 N3 D3 => ?_
  exact h3 fr g s3 _ E hA F3 N3 D3 fun _ s4 m4 n4 S4 h4 F4 N4 D4 => hQ _ s4 m4 n4 (S1.trans (S2.trans (S3.trans S4))) h4 F4 N4 D4
theorem Tri.if_ {test : Expr} {body orelse : List Stmt} {pos : Pos} {R : Flow → FM → Led → Prop}
    (h : Tri c (PySem.isTrue test e (eval test e)) (fun b m' n' => (b = true → Tri c (execs body e) R m' n') ∧ (b = false → Tri c (execs orelse e) R m' n')) m n) : Tri c (exec (.If test body orelse pos) e) R m n := by
  intro fr g s Q E hA F N D hQ
  refine wpAny_If (h fr g s _ E hA F N D fun b s1 m1 n1 S1 h1 F1 N1 D1 => ?_)
  cases b with
  | true => exact h1.1 rfl fr g s1 _ E hA F1 N1 D1 fun _ s2 m2 n2 S2 h2 F2 N2 D2 => hQ _ s2 m2 n2 (S1.trans S2) h2 F2 N2 D2
  | false => exact h1.2 rfl fr g s1 _ E hA F1 N1 D1 fun _ s2 m2 n2 S2 h2 F2 N2 D2 => hQ _ s2 m2 n2 (S1.trans S2) h2 F2 N2 D2
theorem Tri.ifExp {test body orelse : Expr} {pos : Pos} {R : Value → FM → Led → Prop}
    (h : Tri c (PySem.isTrue test e (eval test e)) (fun b m' n' => (b = true → Tri c (eval body e) R m' n') ∧ (b = false → Tri c (eval orelse e) R m' n')) m n) : Tri c (eval (.IfExp test body orelse pos) e) R m n := by
  intro fr g s Q E hA F N D hQ
  refine IfExp_ (h fr g s _ E hA F N D fun b s1 m1 n1 S1 h1 F1 N1 D1 => ?_)
  cases b with
  | true => exact h1.1 rfl fr g s1 _ E hA F1 N1 D1 fun _ s2 m2 n2 S2 h2 F2 N2 D2 => hQ _ s2 m2 n2 (S1.trans S2) h2 F2 N2 D2
  | false => exact h1.2 rfl fr g s1 _ E hA F1 N1 D1 fun _ s2 m2 n2 S2 h2 F2 N2 D2 => hQ _ s2 m2 n2 (S1.trans S2) h2 F2 N2 D2

/-- tests -/
theorem Tri.testCmp {l r : Expr} {op : CmpOp} {pos : Pos} {whole : Sem Value} {R : Bool → FM → Led → Prop}
    (h : Tri c (eval l e) (fun a => Tri c (eval r e) (fun b => Tri c (compareOp op a b) (fun v m' n' => ∃ q, v = .bool q ∧ R q m' n'))) m n)
    (h1 : behindInMarks op r = false := by rfl) : Tri c (PySem.isTrue (.Compare l [op] [r] pos) e whole) R m n := by
  intro fr g s Q E hA F N D hQ
  refine wpAny_isTrue_Compare1 (h fr g s _ E hA F N D fun a s1 m1 n1 S1 h1 F1 N1 D1 => ?_) h1
  refine h1 fr g s1 _ E hA F1 N1 D1 fun _ s2 m2 n2 S2 h2 F2 N2 D2 => ?_
  refine h2 fr g s2 _ E hA F2 N2 D2 fun v s3 m3 n3 S3 h3 F3 N3 D3 => ?_
  obtain ⟨q, rfl, h3⟩ := h3
  exact wpAny_truthy_bool (hQ _ s3 m3 n3 (S1.trans (S2.trans S3)) h3 F3 N3 D3)
theorem Tri.testPlain {x : Expr} {whole : Sem Value} {R : Bool → FM → Led → Prop}
    (h : Tri c whole (fun v => Tri c (truthy v) R) m n) (he : PySem.isTrue x e whole = (do let v ← whole; standAt x.pos; holding [v] (truthy v)) := by rfl) : Tri c (PySem.isTrue x e whole) R m n := by
  intro fr g s Q E hA F N D hQ
  refine isTrue_plain (h fr g s _ E hA F N D fun a s1 m1 n1 S1 h1 F1 N1 D1 => ?_) he
  exact h1 fr g s1 _ E hA F1 N1 D1 fun _ s2 m2 n2 S2 h2 F2 N2 D2 => hQ _ s2 m2 n2 (S1.trans S2) h2 F2 N2 D2
theorem Tri.testAndNil {pos : Pos} {whole : Sem Value} {R : Bool → FM → Led → Prop} (h : R true m n) : Tri c (PySem.isTrue (.BoolOp .And [] pos) e whole) R m n :=
  fun _ _ s _ _ _ F N D hQ => isTrue_and_nil (hQ _ s m n (Sim.refl s) h F N D)
theorem Tri.testOrNil {pos : Pos} {whole : Sem Value} {R : Bool → FM → Led → Prop} (h : R false m n) : Tri c (PySem.isTrue (.BoolOp .Or [] pos) e whole) R m n :=
  fun _ _ s _ _ _ F N D hQ => isTrue_or_nil (hQ _ s m n (Sim.refl s) h F N D)
theorem Tri.testAnd {x : Expr} {rest : List Expr} {pos : Pos} {whole : Sem Value} {R : Bool → FM → Led → Prop}
    (h : Tri c (PySem.isTrue x e (eval x e)) (fun b m' n' => (b = true → Tri c (PySem.isTrue (.BoolOp .And rest pos) e whole) R m' n') ∧ (b = false → R false m' n')) m n) : Tri c (PySem.isTrue (.BoolOp .And (x :: rest) pos) e whole) R m n := by
  intro fr g s Q E hA F N D hQ
  refine isTrue_and (h fr g s _ E hA F N D fun b s1 m1 n1 S1 h1 F1 N1 D1 => ?_)
  cases b with
  | true => exact h1.1 rfl fr g s1 _ E hA F1 N1 D1 fun _ s2 m2 n2 S2 h2 F2 N2 D2 => hQ _ s2 m2 n2 (S1.trans S2) h2 F2 N2 D2
  | false => exact hQ _ s1 m1 n1 S1 (h1.2 rfl) F1 N1 D1
theorem Tri.testOr {x : Expr} {rest : List Expr} {pos : Pos} {whole : Sem Value} {R : Bool → FM → Led → Prop}
    (h : Tri c (PySem.isTrue x e (eval x e)) (fun b m' n' => (b = true → R true m' n') ∧ (b = false → Tri c (PySem.isTrue (.BoolOp .Or rest pos) e whole) R m' n')) m n) : Tri c (PySem.isTrue (.BoolOp .Or (x :: rest) pos) e whole) R m n := by
  intro fr g s Q E hA F N D hQ
  refine isTrue_or (h fr g s _ E hA F N D fun b s1 m1 n1 S1 h1 F1 N1 D1 => ?_)
  cases b with
  | false => exact h1.2 rfl fr g s1 _ E hA F1 N1 D1 fun _ s2 m2 n2 S2 h2 F2 N2 D2 => hQ _ s2 m2 n2 (S1.trans S2) h2 F2 N2 D2
  | true => exact hQ _ s1 m1 n1 S1 (h1.1 rfl) F1 N1 D1
theorem Tri.truthyBool {b : Bool} {R : Bool → FM → Led → Prop} (h : R b m n) : Tri c (truthy (.bool b)) R m n :=
  fun _ _ s _ _ _ F N D hQ => wpAny_truthy_bool (hQ _ s m n (Sim.refl s) h F N D)

/-- expressions -/
theorem Tri.cint {i : Int} {k : Nat} {pos : Pos} {R : Value → FM → Led → Prop} (h : ∀ t, R (.int i t) m n) : Tri c (eval (.Constant (.int i) k pos) e) R m n :=
  fun _ _ _ _ _ _ F N D hQ => wpAny_Constant_int (hQ _ _ m n ⟨_, _, rfl⟩ (h _) F N D)
theorem Tri.cstr {x : Str} {k : Nat} {pos : Pos} {R : Value → FM → Led → Prop} (h : ∀ t, R (.str x t) m n) : Tri c (eval (.Constant (.str x) k pos) e) R m n :=
  fun _ _ _ _ _ _ F N D hQ => Calls.Constant_str (hQ _ _ m n ⟨_, _, rfl⟩ (h _) F N D)
theorem Tri.binOp {l r : Expr} {op : Operator} {pos : Pos} {R : Value → FM → Led → Prop}
    (h : Tri c (eval l e) (fun a => Tri c (eval r e) (fun b => Tri c (binaryOp op a b) R)) m n) : Tri c (eval (.BinOp l op r pos) e) R m n := by
  intro fr g s Q E hA F N D hQ
  refine wpAny_BinOp (h fr g s _ E hA F N D fun a s1 m1 n1 S1 h1 F1 N1 D1 => ?_)
  refine h1 fr g s1 _ E hA F1 N1 D1 fun _ s2 m2 n2 S2 h2 F2 N2 D2 => ?_
  exact h2 fr g s2 _ E hA F2 N2 D2 fun v s3 m3 n3 S3 h3 F3 N3 D3 => hQ _ s3 m3 n3 (S1.trans (S2.trans S3)) h3 F3 N3 D3
theorem Tri.cmp {l r : Expr} {op : CmpOp} {pos : Pos} {R : Value → FM → Led → Prop}
    (h : Tri c (eval l e) (fun a => Tri c (eval r e) (fun b => Tri c (compareOp op a b) R)) m n) (h1 : behindInMarks op r = false := by rfl) : Tri c (eval (.Compare l [op] [r] pos) e) R m n := by
  intro fr g s Q E hA F N D hQ
  refine wpAny_Compare1 (h fr g s _ E hA F N D fun a s1 m1 n1 S1 h1 F1 N1 D1 => ?_) h1
  refine h1 fr g s1 _ E hA F1 N1 D1 fun _ s2 m2 n2 S2 h2 F2 N2 D2 => ?_
  exact h2 fr g s2 _ E hA F2 N2 D2 fun v s3 m3 n3 S3 h3 F3 N3 D3 => hQ _ s3 m3 n3 (S1.trans (S2.trans S3)) h3 F3 N3 D3
theorem Tri.sub_ {v i : Expr} {pos : Pos} {R : Value → FM → Led → Prop}
    (h : Tri c (eval v e) (fun a => Tri c (eval i e) (fun b => Tri c (subscriptTail v i a b) R)) m n) : Tri c (eval (.Subscript v i pos) e) R m n := by
  intro fr g s Q E hA F N D hQ
  refine Subscript_ (h fr g s _ E hA F N D fun a s1 m1 n1 S1 h1 F1 N1 D1 => ?_)
  refine h1 fr g s1 _ E hA F1 N1 D1 fun _ s2 m2 n2 S2 h2 F2 N2 D2 => ?_
  exact h2 fr g s2 _ E hA F2 N2 D2 fun v s3 m3 n3 S3 h3 F3 N3 D3 => hQ _ s3 m3 n3 (S1.trans (S2.trans S3)) h3 F3 N3 D3

/-- a leaf: the heap stands -/
theorem Tri.leaf {t : Sem α} {P : α → Prop} {R : α → FM → Led → Prop}
    (hl : ∀ (g : Heap) (s : Shared) (Q : α → Shared → Prop) (E : Value → Shared → Prop), Amb c g → Fr g c.env.locals s.heap m → (∀ fr, News g c.env.locals s.heap (n ++ fr) → (∀ a tk, P a → Q a { s with toks := tk }) → wpAny (model PG c.w) c.A t Q E s))
    (h : ∀ a, P a → R a m n) : Tri c t R m n :=
  fun fr g s Q E hA F N D hQ => hl g s Q E hA F fr N fun a _ p => hQ a _ m n ⟨_, _, rfl⟩ (h a p) F N D

theorem Tri.addInt {a b : Int} {t u : Tok} {R : Value → FM → Led → Prop} (h : ∀ t', R (.int (a + b) t') m n) : Tri c (binaryOp .Add (.int a t) (.int b u)) R m n :=
  fun _ _ _ _ _ _ F N D hQ => add_int (hQ _ _ m n ⟨_, _, rfl⟩ (h _) F N D)
theorem Tri.subInt {a b : Int} {t u : Tok} {R : Value → FM → Led → Prop} (h : ∀ t', R (.int (a - b) t') m n) : Tri c (binaryOp .Sub (.int a t) (.int b u)) R m n :=
  fun _ _ _ _ _ _ F N D hQ => sub_int (hQ _ _ m n ⟨_, _, rfl⟩ (h _) F N D)
theorem Tri.modInt {a b : Int} {t u : Tok} {R : Value → FM → Led → Prop} (hb : 0 < b) (h : ∀ t', R (.int (a % b) t') m n) : Tri c (binaryOp .Mod (.int a t) (.int b u)) R m n :=
  fun _ _ _ _ _ _ F N D hQ => mod_int (by omega) (by
    rw [Int.fmod_eq_emod_of_nonneg a (by omega)]
    exact hQ _ _ m n ⟨_, _, rfl⟩ (h _) F N D)
theorem Tri.andInt {a b : Int} {t u : Tok} {R : Value → FM → Led → Prop} (h : ∀ t', R (.int (Builtin.bitAnd a b) t') m n) : Tri c (binaryOp .BitAnd (.int a t) (.int b u)) R m n :=
  fun _ _ _ _ _ _ F N D hQ => and_int (hQ _ _ m n ⟨_, _, rfl⟩ (h _) F N D)
theorem Tri.orInt {a b : Int} {t u : Tok} {R : Value → FM → Led → Prop} (h : ∀ t', R (.int (Builtin.bitOr a b) t') m n) : Tri c (binaryOp .BitOr (.int a t) (.int b u)) R m n :=
  fun _ _ _ _ _ _ F N D hQ => or_int (hQ _ _ m n ⟨_, _, rfl⟩ (h _) F N D)
theorem Tri.ltInt {a b : Int} {t u : Tok} {R : Value → FM → Led → Prop} (h : R (.bool (decide (a < b))) m n) : Tri c (compareOp .Lt (.int a t) (.int b u)) R m n :=
  fun _ _ _ _ _ _ F N D hQ => lt_int (hQ _ _ m n (Sim.refl _) h F N D)
theorem Tri.eqInt {a b : Int} {t u : Tok} {R : Value → FM → Led → Prop} (h : R (.bool (a == b)) m n) : Tri c (compareOp .Eq (.int a t) (.int b u)) R m n :=
  fun _ _ _ _ _ _ F N D hQ => eq_int (hQ _ _ m n (Sim.refl _) h F N D)
theorem Tri.neInt {a b : Int} {t u : Tok} {R : Value → FM → Led → Prop} (h : R (.bool (a != b)) m n) : Tri c (compareOp .NotEq (.int a t) (.int b u)) R m n :=
  fun _ _ _ _ _ _ F N D hQ => ne_int (hQ _ _ m n (Sim.refl _) h F N D)
theorem Tri.eqStr {a b : Str} {t u : Tok} {R : Value → FM → Led → Prop} (h : R (.bool (a == b)) m n) : Tri c (compareOp .Eq (.str a t) (.str b u)) R m n :=
  fun _ _ _ _ _ _ F N D hQ => eq_str (hQ _ _ m n (Sim.refl _) h F N D)
theorem Tri.addStr {a b : Str} {t u : Tok} {R : Value → FM → Led → Prop} (hz : a.length + b.length ≤ sizeLine) (h : ∀ t', R (.str (a ++ b) t') m n) : Tri c (binaryOp .Add (.str a t) (.str b u)) R m n :=
  fun _ _ _ _ _ _ F N D hQ => SBL.add (fun _ _ _ => hQ _ _ m n ⟨_, _, rfl⟩ (h _) F N D) hz
end

section
variable {α β : Type} {c : Cx} {m : FM} {n : Led} {e : Env} {R : Value → FM → Led → Prop}

theorem Amb.K (hA : Amb c g) {s : Shared} (F : Fr g c.env.locals s.heap m) : (hd.heap_39 c.w.params).In s.heap := hA.X.keeps F.keep

/-- names -/
theorem Tri.nameL {x : Str} {pos : Pos} {v : Value} (hv : m x = some v) (h : R v m n)
    (hk : c.env.scope.kind = .function := by rfl) (hx : c.env.kindOf x = some .local := by rfl) (hd : (x == ("__debug__" : Str)) = false := by decide) : Tri c (eval (.Name x pos) c.env) R m n :=
  fun _ _ s _ _ _ F N D hQ => wpAny_Name (wpAny_loadName_local hk hx F.ns hv (hQ _ s m n (Sim.refl s) h F N D)) hd
theorem Tri.loadL {x : Str} {v : Value} (hv : m x = some v) (h : R v m n)
    (hk : c.env.scope.kind = .function := by rfl) (hx : c.env.kindOf x = some .local := by rfl) : Tri c (loadName c.env x) R m n :=
  fun _ _ s _ _ _ F N D hQ => wpAny_loadName_local hk hx F.ns hv (hQ _ s m n (Sim.refl s) h F N D)
theorem Tri.storeL {x : Str} {v : Value} {m' : FM} {R : Unit → FM → Led → Prop} (hp : put m x v = m') (h : R () m' n)
    (hk : c.env.scope.kind = .function := by rfl) (hx : c.env.kindOf x = some .local := by rfl) : Tri c (storeName c.env x v) R m n := by
  intro fr g s Q E hA F N D hQ
  subst hp
  exact wpAny_storeName_local hx F.ns (fun h' hn hs => hQ _ _ _ n ⟨_, _, rfl⟩ h (F.set hn hs) (N.set hs) D) (by rw [hk]; rfl)
theorem Tri.nameG {x : Str} {pos : Pos} {v : Value} (hn : nsIn (hd.heap_39 c.w.params) mainGlobals x = some (some v)) (h : R v m n)
    (hk : c.env.scope.kind = .function := by rfl) (hg : c.env.globals = mainGlobals := by rfl) (hx : c.env.kindOf x = some .globalImplicit := by rfl) (hd : (x == ("__debug__" : Str)) = false := by decide) : Tri c (eval (.Name x pos) c.env) R m n :=
  fun _ _ s _ _ hA F N D hQ => Name_function_global hk hx (loadGlobal_global (env := c.env) (show s.heap.Ns c.env.globals c.mg from hg ▸ (hA.T.keeps F.keep).g) (mg_of hA.X hA.T.g hn) (hQ _ s m n (Sim.refl s) h F N D)) hd
theorem Tri.nameB {x : Str} {pos : Pos} {v : Value} (hv : bootBuiltins x = some v) (hn : nsIn (hd.heap_39 c.w.params) mainGlobals x = some none) (h : R v m n)
    (hk : c.env.scope.kind = .function := by rfl) (hg : c.env.globals = mainGlobals := by rfl) (hb : c.env.builtins = builtinsNs := by rfl) (hx : c.env.kindOf x = some .globalImplicit := by rfl) (hd : (x == ("__debug__" : Str)) = false := by decide)
    (hnn : x ≠ ("__name__" : Str) := by decide) : Tri c (eval (.Name x pos) c.env) R m n :=
  fun _ _ s _ _ hA F N D hQ => Name_function_global hk hx (loadGlobal_builtin (env := c.env) (show s.heap.Ns c.env.globals c.mg from hg ▸ (hA.T.keeps F.keep).g) (mg_none_of hA.X hA.T.g hn) (show s.heap.Ns c.env.builtins c.mb from hb ▸ (hA.T.keeps F.keep).b) ((hA.T.builtins x hnn).trans hv) (hQ _ s m n (Sim.refl s) h F N D)) hd
theorem Tri.nameC {x : Str} {pos : Pos} {v : Value} {a : Addr} {o : Obj} (hm : (a, o) ∈ n) (hc : c.env.cells.lookup x = some a) (hd : o.data = .cell (some v)) (h : R v m n)
    (hk : c.env.scope.kind = .function := by rfl) (hx : c.env.kindOf x = some .cell := by rfl) (hb : (x == ("__debug__" : Str)) = false := by decide) : Tri c (eval (.Name x pos) c.env) R m n :=
  fun _ _ s _ _ hA F N D hQ => wpAny_Name (wpAny_loadName_cell hk hx hc ⟨o, N.get (List.mem_append_left _ hm), hd⟩ (hQ _ s m n (Sim.refl s) h F N D)) hb

/-- names in a comprehension -/
theorem Tri.compOwn {x : Str} {pos : Pos} {v : Value} {scope : Scope} {cl : List (Str × Addr)} {C : Addr} {oC : Obj} {m₂ : FM} (hm : (C, oC) ∈ n) (hC : LCg.NsObj oC m₂) (hv : m₂ x = some v) (h : R v m n)
    (hk : scope.kind = .function := by rfl) (hl : (compEnvC scope cl C c.env).kindOf x = some .local := by rfl) (hd : (x == ("__debug__" : Str)) = false := by decide) : Tri c (eval (.Name x pos) (compEnvC scope cl C c.env)) R m n :=
  fun _ _ s _ _ hA F N D hQ => LCgL.ld_own N (List.mem_append_left _ hm) hC hv (hQ _ s m n (Sim.refl s) h F N D) hk hl hd
theorem Tri.compG {x : Str} {pos : Pos} {v : Value} {scope : Scope} {cl : List (Str × Addr)} {C : Addr} (hn : nsIn (hd.heap_39 c.w.params) mainGlobals x = some (some v)) (h : R v m n)
    (hg : c.env.globals = mainGlobals := by rfl) (hk : scope.kind = .function := by rfl) (hx : (compEnvC scope cl C c.env).kindOf x = some .globalImplicit := by rfl) (hd : (x == ("__debug__" : Str)) = false := by decide) : Tri c (eval (.Name x pos) (compEnvC scope cl C c.env)) R m n :=
  fun _ _ s _ _ hA F N D hQ => LCgL.ld_global F hA.X hA.T hn (hQ _ s m n (Sim.refl s) h F N D) hg hk hx hd
theorem Tri.compB {x : Str} {pos : Pos} {v : Value} {scope : Scope} {cl : List (Str × Addr)} {C : Addr} (hv : bootBuiltins x = some v) (hn : nsIn (hd.heap_39 c.w.params) mainGlobals x = some none) (h : R v m n)
    (hg : c.env.globals = mainGlobals := by rfl) (hb : c.env.builtins = builtinsNs := by rfl) (hk : scope.kind = .function := by rfl) (hx : (compEnvC scope cl C c.env).kindOf x = some .globalImplicit := by rfl) (hd : (x == ("__debug__" : Str)) = false := by decide)
    (hnn : x ≠ ("__name__" : Str) := by decide) : Tri c (eval (.Name x pos) (compEnvC scope cl C c.env)) R m n :=
  fun _ _ s _ _ hA F N D hQ => LCgL.ld_built F hA.X hA.T hn hv hnn (hQ _ s m n (Sim.refl s) h F N D) hg hb hk hx hd
theorem Tri.compF {x : Str} {pos : Pos} {v : Value} {scope : Scope} {cl : List (Str × Addr)} {C : Addr} {a : Addr} {o : Obj} (hm : (a, o) ∈ n) (hc : cl.lookup x = some a) (hd : o.data = .cell (some v)) (h : R v m n)
    (hk : scope.kind = .function := by rfl) (hx : (compEnvC scope cl C c.env).kindOf x = some .free := by rfl) (hb : (x == ("__debug__" : Str)) = false := by decide) (hn : (x == ("__classdict__" : Str)) = false := by decide) : Tri c (eval (.Name x pos) (compEnvC scope cl C c.env)) R m n :=
  fun _ _ s _ _ hA F N D hQ => lcf_free N hc (List.mem_append_left _ hm) hd (hQ _ s m n (Sim.refl s) h F N D) hk hx hb hn

/-- calls -/
theorem Tri.call_ {func : Expr} {args : List Expr} {pos : Pos} (h : Tri c (eval func e) (fun f => Tri c (callWith pos f [] (backTo pos (starEach args e)) []) R) m n)
    (he : eval (.Call func args [] pos) e = (do callWith pos (← eval func e) [] (backTo pos (starEach args e)) (backToKw pos (keywordEach [] e))) := by rfl) : Tri c (eval (.Call func args [] pos) e) R m n := by
  intro fr g s Q E hA F N D hQ
  refine Call_ (h fr g s _ E hA F N D fun a s1 m1 n1 S1 h1 F1 N1 D1 => ?_) he
  exact h1 fr g s1 _ E hA F1 N1 D1 fun v s2 m2 n2 S2 h2 F2 N2 D2 => hQ _ s2 m2 n2 (S1.trans S2) h2 F2 N2 D2
theorem Tri.callK {f : Addr} {a : Expr} {rest : List Expr} {pos : Pos} (hk : keepIn (hd.heap_39 c.w.params) (.ref f) = true) (h : Tri c (spliced (backTo pos (starEach (a :: rest) e))) (fun vs => Tri c (call (.ref f) vs) R) m n)
    (he : starEach (a :: rest) e = (false, eval a e) :: starEach rest e := by rfl) (hplain : (backTo pos (starEach rest e)).any (·.1) = false := by rfl) :
    Tri c (callWith pos (.ref f) [] (backTo pos (starEach (a :: rest) e)) []) R m n := by
  intro fr g s Q E hA F N D hQ
  refine callWith_K hA.X hk (h fr g s _ E hA F N D fun a s1 m1 n1 S1 h1 F1 N1 D1 => ⟨hA.X.keeps F1.keep, ?_⟩) he hplain
  exact h1 fr g s1 _ E hA F1 N1 D1 fun v s2 m2 n2 S2 h2 F2 N2 D2 => hQ _ s2 m2 n2 (S1.trans S2) h2 F2 N2 D2
theorem Tri.callB {id : String} {a : Expr} {rest : List Expr} {pos : Pos} (h : Tri c (spliced (backTo pos (starEach (a :: rest) e))) (fun vs => Tri c (call (.builtin id) vs) R) m n)
    (he : starEach (a :: rest) e = (false, eval a e) :: starEach rest e := by rfl) (hplain : (backTo pos (starEach rest e)).any (·.1) = false := by rfl) :
    Tri c (callWith pos (.builtin id) [] (backTo pos (starEach (a :: rest) e)) []) R m n := by
  intro fr g s Q E hA F N D hQ
  refine PyProof.Rows.callWith_builtin1 (h fr g s _ E hA F N D fun a s1 m1 n1 S1 h1 F1 N1 D1 => ?_) he hplain
  exact h1 fr g s1 _ E hA F1 N1 D1 fun v s2 m2 n2 S2 h2 F2 N2 D2 => hQ _ s2 m2 n2 (S1.trans S2) h2 F2 N2 D2
theorem Tri.callT {id : String} {a : Expr} {rest : List Expr} {pos : Pos} (h : Tri c (spliced (backTo pos (starEach (a :: rest) e))) (fun vs => Tri c (call (.type id) vs) R) m n)
    (he : starEach (a :: rest) e = (false, eval a e) :: starEach rest e := by rfl) (hplain : (backTo pos (starEach rest e)).any (·.1) = false := by rfl) :
    Tri c (callWith pos (.type id) [] (backTo pos (starEach (a :: rest) e)) []) R m n := by
  intro fr g s Q E hA F N D hQ
  refine PyProof.Rows.callWith_type1 (h fr g s _ E hA F N D fun a s1 m1 n1 S1 h1 F1 N1 D1 => ?_) he hplain
  exact h1 fr g s1 _ E hA F1 N1 D1 fun v s2 m2 n2 S2 h2 F2 N2 D2 => hQ _ s2 m2 n2 (S1.trans S2) h2 F2 N2 D2
theorem Tri.more {a : Expr} {rest : List Expr} {pos : Pos} {R : List Value → FM → Led → Prop} (h : Tri c (eval a e) (fun v => Tri c (spliced (backTo pos (starEach rest e))) (fun vs => R (v :: vs))) m n)
    (he : starEach (a :: rest) e = (false, eval a e) :: starEach rest e := by rfl) : Tri c (spliced (backTo pos (starEach (a :: rest) e))) R m n := by
  intro fr g s Q E hA F N D hQ
  refine spliced_more (h fr g s _ E hA F N D fun a s1 m1 n1 S1 h1 F1 N1 D1 => ?_) he
  exact h1 fr g s1 _ E hA F1 N1 D1 fun v s2 m2 n2 S2 h2 F2 N2 D2 => hQ _ s2 m2 n2 (S1.trans S2) h2 F2 N2 D2
theorem Tri.noMore {pos : Pos} {R : List Value → FM → Led → Prop} (h : R [] m n) : Tri c (spliced (backTo pos (starEach [] e))) R m n :=
  fun _ _ s _ _ _ F N D hQ => spliced_none (hQ _ s m n (Sim.refl s) h F N D)
theorem Tri.meth {o : Expr} {name : Str} {apos pos : Pos} {args : List Expr} {pl : Sem Bool}
    (h : Tri c (eval o e) (fun ov => Tri c (getMethod ov name pl) (fun fx => Tri c (callWith pos fx.1 fx.2 (backTo pos (starEach args e)) []) R)) m n)
    (he : eval (.Call (.Attribute o name apos) args [] pos) e = (do
      let ov ← eval o e
      standAt apos.atName
      let (f, first) ← holding [ov] (getMethod ov name pl)
      callWith pos f first (backTo pos (starEach args e)) []) := by rfl) : Tri c (eval (.Call (.Attribute o name apos) args [] pos) e) R m n := by
  intro fr g s Q E hA F N D hQ
  refine MethodCall_ (h fr g s _ E hA F N D fun a s1 m1 n1 S1 h1 F1 N1 D1 => ?_) he
  refine h1 fr g s1 _ E hA F1 N1 D1 fun v s2 m2 n2 S2 h2 F2 N2 D2 => ?_
  exact h2 fr g s2 _ E hA F2 N2 D2 fun v s3 m3 n3 S3 h3 F3 N3 D3 => hQ _ s3 m3 n3 (S1.trans (S2.trans S3)) h3 F3 N3 D3
theorem Tri.callM {id : String} {first : List Value} {a : Expr} {rest : List Expr} {pos : Pos} (h : Tri c (spliced (backTo pos (starEach (a :: rest) e))) (fun vs => Tri c (call (.builtin id) (first ++ vs)) R) m n)
    (he : starEach (a :: rest) e = (false, eval a e) :: starEach rest e := by rfl) (hplain : (backTo pos (starEach rest e)).any (·.1) = false := by rfl) :
    Tri c (callWith pos (.builtin id) first (backTo pos (starEach (a :: rest) e)) []) R m n := by
  intro fr g s Q E hA F N D hQ
  refine callWith_method1 (h fr g s _ E hA F N D fun a s1 m1 n1 S1 h1 F1 N1 D1 => ?_) he hplain
  exact h1 fr g s1 _ E hA F1 N1 D1 fun v s2 m2 n2 S2 h2 F2 N2 D2 => hQ _ s2 m2 n2 (S1.trans S2) h2 F2 N2 D2

/-- the frame's room, and what a def's body is run in -/
def Room (c : Cx) (d : Nat) : Prop := c.A.handled = none ∧ c.A.depth + d < recursionLimit ∧ c.A.units + 8 * d < cLine ∧ c.env.frame = some c.env.locals ∧ c.env.scope.kind = .function
abbrev Cx.into (c : Cx) (env : Env) : Cx := { c with A := c.A.deeper env, env := env }
theorem Room.into {c : Cx} {d : Nat} {env : Env} (h : Room c (d + 1)) (h1 : env.frame = some env.locals) (h2 : env.scope.kind = .function) : Room (c.into env) d :=
  ⟨h.1, by have := h.2.1; show c.A.depth + 1 + d < _; omega, by have := h.2.2.1; show c.A.units + 3 + 8 * d < _; omega, h1, h2⟩
theorem Room.less {c : Cx} {d d' : Nat} (h : Room c d) (hd : d' ≤ d) : Room c d' := ⟨h.1, by have := h.2.1; omega, by have := h.2.2.1; omega, h.2.2.2⟩

def retOf : Flow → Value
  | .ret v => v
  | _ => .none

theorem Tri.enter {f : Addr} {args : List Value} {name qual : Str} {params : Arguments} {body : List Stmt} {scope : Scope} {dV kV doc pm cdv ct oc : Value} {an od : Option Addr} {osl : Array (Option Value)} {binds : List (Str × Value)} {m₀ : FM}
    (hr : Room c 1)
    (ho : (hd.heap_39 c.w.params).lookup f = some ⟨oc, od, .func (fnOf name qual params body scope dV kV doc pm an cdv ct), osl⟩)
    (hcd : codeIn (hd.heap_39 c.w.params) cdv qual = true)
    (hbind : bindArgs (fnOf name qual params body scope dV kV doc pm an cdv ct) ⟨args, []⟩ = Pure.pure binds)
    (hloc : (binds.all fun x => decide (scope.names.lookup x.1 = some .local)) = true)
    (hm : (fun y => binds.reverse.lookup y) = m₀)
    (h : ∀ L', Tri (c.into (envOf qual scope L' f cdv)) (execs body (envOf qual scope L' f cdv)) (fun fl _ n' => R (retOf fl) m n') m₀ n)
    (hco : scope.isCoroutine = false := by rfl) (hgen : scope.isGenerator = false := by rfl) (hk : scope.kind = .function := by rfl)
    (hcell : ∀ x ∈ scope.names, x.2 ≠ .cell := by decide) : Tri c (call (.ref f) args) R m n := by
  intro fr g s Q E hA F N D hQ
  obtain ⟨A₀, base, outer, B, hfr⟩ := hA.B
  refine wpAny_call ?_
  refine code_def B F hA.X N hA.T hfr hr.2.2.2.1 hr.2.2.2.2 ho hcd (by have := hr.2.1; omega) (BindsTo.of_eq hbind) (locs hloc) ?_ hco hgen hk hcell
  intro g' L' h₁ FG F' N' B' X' T'
  rw [hm] at F'
  refine h L' fr g' { s with heap := h₁, toks := s.toks + binds.length } _ _ ⟨X', T', ⟨c.A, base, c.env :: outer, B', ?_⟩, ?_⟩ F' N' D ?_
  · show (c.A.deeper _).frames = _
    exact Around.frames_deeper hfr
  · obtain ⟨o, ho, r⟩ := hA.S
    exact ⟨o, FG.keep _ _ ho, r⟩
  · intro fl s' m' n' S r F2 N2 D2
    refine ⟨L', m', n' ++ fr, F2, N2, fun F3 N3 => ?_⟩
    obtain ⟨h', tk', rfl⟩ := S
    have hq : ∀ v, retOf fl = v → Q v { s with heap := h', toks := tk' } := fun v hv => by
      subst hv
      exact hQ _ _ m n' ⟨h', tk', rfl⟩ r F3 N3 D2
    cases fl with
    | next => exact hq _ rfl
    | brk => exact hq _ rfl
    | cont => exact hq _ rfl
    | ret v => exact hq _ rfl

/-- built-in functions -/
theorem Tri.isiStr {x : Str} {t : Tok} (h : R (.bool true) m n) : Tri c (call (.builtin "isinstance") [.str x t, .type "str"]) R m n :=
  fun _ _ s _ _ _ F N D hQ => IsiPair.str_str (hQ _ s m n (Sim.refl s) h F N D)
theorem Tri.isiInt {x : Int} {t : Tok} (h : R (.bool false) m n) : Tri c (call (.builtin "isinstance") [.int x t, .type "str"]) R m n :=
  fun _ _ s _ _ _ F N D hQ => IsiPair.int_str (hQ _ _ m n ⟨_, _, rfl⟩ h F N D)
theorem Tri.chr {i : Int} {t : Tok} (h0 : 0 ≤ i) (h1 : i ≤ 1114111) (h : ∀ t', R (.str ⟨#[i.toNat]⟩ t') m n) : Tri c (call (.builtin "chr") [.int i t]) R m n :=
  fun _ _ _ _ _ _ F N D hQ => chr_of_range h0 h1 (hQ _ _ m n ⟨_, _, rfl⟩ (h _) F N D)
theorem Tri.ord {k : Nat} {t : Tok} (h : ∀ t', R (.int k t') m n) : Tri c (call (.builtin "ord") [.str ⟨#[k]⟩ t]) R m n :=
  fun _ _ _ _ _ _ F N D hQ => P.ord_of_char (hQ _ _ m n ⟨_, _, rfl⟩ (h _) F N D)
theorem Tri.lenStr {x : Str} {t : Tok} (hx : x.length ≤ sizeLine) (h : ∀ t', R (.int x.length t') m n) : Tri c (call (.builtin "len") [.str x t]) R m n :=
  fun _ _ _ _ _ _ F N D hQ => P.len_str (by have := sizeLine_eq; omega) (hQ _ _ m n ⟨_, _, rfl⟩ (h _) F N D)
end

abbrev LS (vs : List Value) (k : Nat) : Obj := listOf vs.toArray k
abbrev TP (vs : List Value) : Obj := { cls := .type "tuple", data := .seq vs.toArray }

theorem Nd.cons {n : Led} {l : Addr} {o : Obj} (D : Nd n) (h : ∀ p ∈ n, p.1 < l) : Nd ((l, o) :: n) := by
  unfold Nd at *
  simp only [List.map_cons, List.nodup_cons]
  refine ⟨fun q => ?_, D⟩
  obtain ⟨p, hp, e⟩ := List.mem_map.mp q
  have := h p hp
  rw [e] at this
  exact absurd this (Nat.lt_irrefl _)
theorem Nd.upd {pre post : Led} {d : Addr} {o o' : Obj} (D : Nd (pre ++ (d, o) :: post)) : Nd (pre ++ (d, o') :: post) := by
  unfold Nd at *
  simpa only [List.map_append, List.map_cons] using D
theorem Nd.off {pre post : Led} {d : Addr} {o : Obj} (D : Nd (pre ++ (d, o) :: post)) : (∀ p ∈ pre, p.1 ≠ d) ∧ (∀ p ∈ post, p.1 ≠ d) := by
  unfold Nd at D
  simp only [List.map_append, List.map_cons, List.nodup_append, List.nodup_cons] at D
  refine ⟨fun p hp q => D.2.2 p.1 (List.mem_map_of_mem hp) d (.head _) q, fun p hp q => D.2.1.1 (q ▸ List.mem_map_of_mem hp)⟩
theorem Nd.tail {n : Led} {p : Addr × Obj} (D : Nd (p :: n)) : Nd n := by
  unfold Nd at *
  simp only [List.map_cons, List.nodup_cons] at D
  exact D.2
theorem upd_of {d : Addr} {o o' : Obj} : ∀ {pre post : Led}, (∀ p ∈ pre, p.1 ≠ d) → (∀ p ∈ post, p.1 ≠ d) → Upd d o o' (pre ++ (d, o) :: post) (pre ++ (d, o') :: post)
  | [], _, _, h2 => .head h2
  | p :: pre, _, h1, h2 => .tail (h1 p (.head _)) (upd_of (fun q hq => h1 q (.tail _ hq)) h2)

section
variable {α β : Type} {c : Cx} {m : FM} {n : Led} {e : Env} {R : Value → FM → Led → Prop}

def At (c : Cx) (n : Led) (l : Addr) (vs : List Value) : Prop := (∃ k, (l, LS vs k) ∈ n) ∨ (l = c.scr ∧ vs = c.sv)
theorem At.isList {l : Addr} {vs : List Value} (h : At c n l vs) {g : Heap} {s : Shared} {fr : Led} (hA : Amb c g) (F : Fr g c.env.locals s.heap m) (N : News g c.env.locals s.heap (n ++ fr)) : s.heap.IsList l vs.toArray := by
  rcases h with ⟨k, hk⟩ | ⟨rfl, rfl⟩
  · exact ⟨_, (N _ (List.mem_append_left _ hk)).1, rfl, _, rfl⟩
  · obtain ⟨o, ho, r⟩ := hA.S
    exact ⟨o, F.keep _ _ ho, r⟩
theorem At.cons {l : Addr} {vs : List Value} {p : Addr × Obj} (h : At c n l vs) : At c (p :: n) l vs := h.elim (fun ⟨k, hk⟩ => .inl ⟨k, .tail _ hk⟩) .inr
theorem At.head {l : Addr} {vs : List Value} {k : Nat} : At c ((l, LS vs k) :: n) l vs := .inl ⟨k, .head _⟩
theorem At.mono {l : Addr} {vs : List Value} {n' : Led} (h : At c n l vs) (hs : ∀ p ∈ n, p ∈ n') : At c n' l vs := h.elim (fun ⟨k, hk⟩ => .inl ⟨k, hs _ hk⟩) .inr

/-- lists and tuples made -/
theorem Tri.list {elts : List Expr} {pos : Pos} (h : Tri c (spliced (backTo pos (starEach elts e))) (fun vs => Tri c (newList vs) R) m n) : Tri c (eval (.List elts pos) e) R m n := by
  intro fr g s Q E hA F N D hQ
  refine List_ (h fr g s _ E hA F N D fun a s1 m1 n1 S1 h1 F1 N1 D1 => ?_)
  exact h1 fr g s1 _ E hA F1 N1 D1 fun v s2 m2 n2 S2 h2 F2 N2 D2 => hQ _ s2 m2 n2 (S1.trans S2) h2 F2 N2 D2
theorem Tri.tuple {elts : List Expr} {k : Nat} {pos : Pos} (h : Tri c (spliced (backTo pos (starEach elts e))) (fun vs => Tri c (newTuple vs) R) m n) : Tri c (eval (.Tuple elts k pos) e) R m n := by
  intro fr g s Q E hA F N D hQ
  refine Tuple_ (h fr g s _ E hA F N D fun a s1 m1 n1 S1 h1 F1 N1 D1 => ?_)
  exact h1 fr g s1 _ E hA F1 N1 D1 fun v s2 m2 n2 S2 h2 F2 N2 D2 => hQ _ s2 m2 n2 (S1.trans S2) h2 F2 N2 D2
theorem Tri.newList {vs : List Value} (hsz : vs.length ≤ sizeLine) (h : ∀ l, R (.ref l) m ((l, LS vs 0) :: n)) : Tri c (newList vs) R m n := by
  intro fr g s Q E hA F N D hQ
  exact newList_K F N (fun l h' F' N' hlt => hQ _ _ m ((l, LS vs 0) :: n) ⟨_, _, rfl⟩ (h l) F' N' (D.cons hlt)) hsz
theorem Tri.newTuple {vs : List Value} (hsz : vs.length ≤ sizeLine) (h : ∀ l, R (.ref l) m ((l, TP vs) :: n)) : Tri c (newTuple vs) R m n := by
  intro fr g s Q E hA F N D hQ
  exact newTuple_N F N (fun h' F' N' => hQ _ _ m ((_, TP vs) :: n) ⟨_, _, rfl⟩ (h _) F' N' (D.cons fun p hp => Heap.lt_size (N p hp).1)) hsz

/-- methods of lists and texts -/
theorem Tri.mAppend {d : Addr} {vs : List Value} {k : Nat} {pl : Sem Bool} {R : Value × List Value → FM → Led → Prop} (hm : (d, LS vs k) ∈ n) (h : R (.builtin "list.append", [.ref d]) m n) : Tri c (getMethod (.ref d) (Str.ofString "append") pl) R m n :=
  fun _ _ s _ _ _ F N D hQ => listMethod_K N (List.mem_append_left _ hm) PySem.F.slot_list_append PySem.F.type_list_append (hQ _ s m n (Sim.refl s) h F N D)
theorem Tri.mExtend {d : Addr} {vs : List Value} {k : Nat} {pl : Sem Bool} {R : Value × List Value → FM → Led → Prop} (hm : (d, LS vs k) ∈ n) (h : R (.builtin "list.extend", [.ref d]) m n) : Tri c (getMethod (.ref d) (Str.ofString "extend") pl) R m n :=
  fun _ _ s _ _ _ F N D hQ => listMethod_K N (List.mem_append_left _ hm) PySem.F.slot_list_extend PySem.F.type_list_extend (hQ _ s m n (Sim.refl s) h F N D)
theorem Tri.mIndex {d : Addr} {vs : List Value} {k : Nat} {pl : Sem Bool} {R : Value × List Value → FM → Led → Prop} (hm : (d, LS vs k) ∈ n) (h : R (.builtin "list.index", [.ref d]) m n) : Tri c (getMethod (.ref d) (Str.ofString "index") pl) R m n :=
  fun _ _ s _ _ _ F N D hQ => listMethod_K N (List.mem_append_left _ hm) PySem.F.slot_list_index PySem.F.type_list_index (hQ _ s m n (Sim.refl s) h F N D)
theorem Tri.mJoin {x : Str} {t : Tok} {pl : Sem Bool} {R : Value × List Value → FM → Led → Prop} (h : R (.builtin "str.join", [.str x t]) m n) : Tri c (getMethod (.str x t) (Str.ofString "join") pl) R m n :=
  fun _ _ s _ _ _ F N D hQ => GM.join (hQ _ s m n (Sim.refl s) h F N D)
theorem Tri.append {d : Addr} {vs : List Value} {k : Nat} {x : Value} {pre post : Led} (hsz : vs.length ≤ sizeLine) (h : R .none m (pre ++ (d, LS (vs ++ [x]) (k + 1)) :: post)) :
    Tri c (call (.builtin "list.append") [.ref d, x]) R m (pre ++ (d, LS vs k) :: post) := by
  intro fr g s Q E hA F N D hQ
  rw [List.append_assoc, List.cons_append] at N D
  obtain ⟨o1, o2⟩ := D.off
  refine append_K F N (upd_of o1 o2) (fun h' F' N' => hQ _ _ m _ ⟨_, _, rfl⟩ h F' ?_ ?_) (by simpa using hsz)
  · rw [List.append_assoc, List.cons_append]
    simpa only [List.push_toArray] using N'
  · rw [List.append_assoc, List.cons_append]
    exact D.upd
theorem Tri.extend {d b : Addr} {vs ws : List Value} {k k' : Nat} {pre post : Led} (hb : (b, LS ws k') ∈ pre ++ post) (hw : ws ≠ []) (hsz : vs.length + ws.length ≤ 1000000) (h : R .none m (pre ++ (d, LS (vs ++ ws) (k + 1)) :: post)) :
    Tri c (call (.builtin "list.extend") [.ref d, .ref b]) R m (pre ++ (d, LS vs k) :: post) := by
  intro fr g s Q E hA F N D hQ
  have hsl := sizeLine_eq
  have hb' : (b, LS ws k') ∈ (pre ++ (d, LS vs k) :: post) ++ fr := by
    rcases List.mem_append.mp hb with q | q
    · exact List.mem_append_left _ (List.mem_append_left _ q)
    · exact List.mem_append_left _ (List.mem_append_right _ (.tail _ q))
  have hb2 := hb'
  rw [List.append_assoc, List.cons_append] at N D hb'
  obtain ⟨o1, o2⟩ := D.off
  refine kl_extend F N hb' (l := vs ++ ws) (by simp) (by simp only [List.length_eq_zero_iff, ne_eq]; exact hw) (upd_of o1 o2) ?_ (by simp; omega) (by simp; omega) (fun h' F' N' => hQ _ _ m _ ⟨_, _, rfl⟩ h F' ?_ ?_)
  · unfold Builtin.List.listTooLong
    simp only [List.size_toArray]
    intro q
    simp only [Bool.and_eq_true] at q
    have := q.2
    simp at this
    omega
  · rw [List.append_assoc, List.cons_append]
    exact N'
  · rw [List.append_assoc, List.cons_append]
    exact D.upd
/-- forget the newest entry -/
theorem Tri.drop {t : Sem α} {R : α → FM → Led → Prop} {p : Addr × Obj} (h : Tri c t R m n) : Tri c t R m (p :: n) := h.sub (fun _ hq => .tail _ hq) Nd.tail
/-- forget entries at the end -/
theorem Tri.weaken {t : Sem α} {R : α → FM → Led → Prop} (h : Tri c t (fun a m' n' => ∃ n'' : Led, n''.Sublist n' ∧ R a m' n'') m n) : Tri c t R m n := by
  intro fr g s Q E hA F N D hQ
  refine h fr g s Q E hA F N D fun a s' m' n' S1 h1 F1 N1 D1 => ?_
  obtain ⟨n'', hs, r⟩ := h1
  have hs2 : (n'' ++ fr).Sublist (n' ++ fr) := List.Sublist.append hs (List.Sublist.refl _)
  exact hQ a s' m' n'' S1 r F1 (fun p hp => N1 p (hs2.subset hp)) (List.Nodup.sublist (List.Sublist.map _ hs2) D1)
end

section
variable {α β : Type} {c : Cx} {m : FM} {n : Led} {e : Env} {R : Value → FM → Led → Prop}

theorem Tri.join {x : Str} {t : Tok} {D : Addr} {vs : List Value} {ys : List Str} (hl : At c n D vs) (hs : StrsAre vs ys) (hx : x.length ≤ 64) (hz : (ys.map Str.length).sum + ys.length * 64 ≤ 16777216)
    (h : ∀ t', R (.str (Txt.join x ys) t') m n) : Tri c (call (.builtin "str.join") [.str x t, .ref D]) R m n :=
  fun _ _ _ _ _ hA F N D hQ => join_listC (hl.isList hA F N) (by simpa using hs) hx hz (fun _ _ => hQ _ _ m n ⟨_, _, rfl⟩ (h _) F N D)
theorem Tri.sum {l : Addr} {vs : List Value} {ns : List Int} {t : Tok} (hr : c.A.handled = none) (hl : At c n l vs) (hi : IntsAre vs ns) (h : ∀ t', R (.int ns.sum t') m n) : Tri c (call (.builtin "sum") [.ref l]) R m n :=
  fun _ _ _ _ _ hA F N D hQ => sumK hr F N (hl.isList hA F N) hi (fun _ _ _ F' N' => hQ _ _ m n ⟨_, _, rfl⟩ (h _) F' N' D)
theorem Tri.item {value slice : Expr} {l : Addr} {vs : List Value} {k : Int} {u : Tok} {v : Value} (hl : At c n l vs) (h0 : 0 ≤ k) (hhi : k < 2 ^ 63) (hv : vs[k.toNat]? = some v) (h : R v m n)
    (hs : subscripted slice false (.ref l) (.int k u) = operate [.ref l, .int k u] (getItem (.ref l) (.int k u)) := by rfl) : Tri c (subscriptTail value slice (.ref l) (.int k u)) R m n :=
  fun _ _ s _ _ hA F N D hQ =>
    have hL := hl.isList hA F N
    tail_any hL.typeIs slot_list_getitem.lookup (wpAny_getItem_list hL h0 hhi (by simpa using hv) (hQ _ s m n (Sim.refl s) h F N D)) hs
theorem Tri.itemTup {value slice : Expr} {l : Addr} {vs : List Value} {k : Int} {u : Tok} {v : Value} (hl : (l, TP vs) ∈ n) (h0 : 0 ≤ k) (hhi : k < 2 ^ 63) (hk : k.toNat < vs.length) (hv : vs[k.toNat]? = some v) (h : R v m n)
    (hs : subscripted slice false (.ref l) (.int k u) = operate [.ref l, .int k u] (getItem (.ref l) (.int k u)) := by rfl) : Tri c (subscriptTail value slice (.ref l) (.int k u)) R m n :=
  fun _ _ s _ _ hA F N D hQ => item_tupleT (N.isTup (List.mem_append_left _ hl)) (by omega) hhi (j := k.toNat) (by unfold seqIndex?; simp; omega) (by simpa using hv) (hQ _ s m n (Sim.refl s) h F N D) hs
theorem Tri.itemStr {value slice : Expr} {x : Str} {t u : Tok} {i : Int} {k : Nat} (h0 : 0 ≤ i) (hx : x.length ≤ sizeLine) (hk : x.cps[i.toNat]? = some k) (h : ∀ t', R (.str ⟨#[k]⟩ t') m n)
    (hs : subscripted slice false (.str x t) (.int i u) = operate [.str x t, .int i u] (getItem (.str x t) (.int i u)) := by rfl) (ht : ∀ r, letTemporaryGo value (.str x t) r = Pure.pure () := by intro r; rfl) :
    Tri c (subscriptTail value slice (.str x t) (.int i u)) R m n := by
  intro fr g s Q E hA F N D hQ
  have hlt : i.toNat < x.cps.size := by
    rcases Nat.lt_or_ge i.toNat x.cps.size with q | q
    · exact q
    · rw [Array.getElem?_eq_none q] at hk; cases hk
  have hl : x.length = x.cps.size := rfl
  have hsl := sizeLine_eq
  refine item_str (fitsSsize_of (N := 9223372036854775808) (by omega) (by omega) (Int.le_refl _)) (by omega) (by omega) (fun _ => ?_) hs ht
  rw [item_meets h0 hk]
  exact hQ _ _ m n ⟨_, _, rfl⟩ (h _) F N D

/-- a part of a list -/
theorem Tri.slice {v : Expr} {lo hi : Option Expr} {p pos : Pos}
    (h : Tri c (eval v e) (fun a => Tri c (evalPart lo e) (fun x => Tri c (evalPart hi e) (fun y m' n' => ∃ l vs zs lo' hi', a = .ref l ∧ At c n' l vs ∧ vs.length ≤ sizeLine ∧ IsPart x lo' ∧ IsPart y hi' ∧ (slicePick vs.toArray lo' hi' none).toList = zs ∧ ∀ D, R (.ref D) m' ((D, LS zs 0) :: n')))) m n)
    (hs : ∀ l d, subscripted (.Slice lo hi none p) false (.ref l) (.ref d) = operate [.ref d, .ref l] (getItem (.ref l) (.ref d)) := by intro l d; rfl) : Tri c (eval (.Subscript v (.Slice lo hi none p) pos) e) R m n := by
  intro fr g s Q E hA F N D hQ
  refine Subscript_ (h fr g s _ E hA F N D fun a s1 m1 n1 S1 h1 F1 N1 D1 => ?_)
  refine wpAny_Slice (h1 fr g s1 _ E hA F1 N1 D1 fun x s2 m2 n2 S2 h2 F2 N2 D2 => ?_)
  refine h2 fr g s2 _ E hA F2 N2 D2 fun y s3 m3 n3 S3 h3 F3 N3 D3 => ?_
  obtain ⟨l, vs, zs, lo', hi', rfl, hl, hsz, px, py, hz, h4⟩ := h3
  refine evalPart_none_step ?_
  refine kba_turn (value' := .Name (Str.ofString "v") ⟨0, 0, 0, 0⟩) (fun _ => rfl) ?_
  refine kmk_slice_lit F3 N3 (hl.isList hA F3 N3) px py hz (fun D' h' F' N' hlt => ?_) (hs l _) (fun _ => rfl) (by simpa using hsz)
  exact hQ _ _ m3 _ (S1.trans (S2.trans (S3.trans ⟨_, _, rfl⟩))) (h4 D') F' N' (D3.cons hlt)
theorem Tri.partNone {R : Value → FM → Led → Prop} (h : R .none m n) : Tri c (evalPart none e) R m n :=
  fun _ _ s _ _ _ F N D hQ => evalPart_none_step (hQ _ s m n (Sim.refl s) h F N D)
theorem Tri.partSome {x : Expr} (h : Tri c (eval x e) R m n) : Tri c (evalPart (some x) e) R m n := h
theorem Tri.sliceRev {v x : Expr} {p pos : Pos}
    (h : Tri c (eval v e) (fun a => Tri c (eval x e) (fun y m' n' => ∃ l vs, a = .ref l ∧ At c n' l vs ∧ vs.length ≤ sizeLine ∧ IsPart y (some (-1)) ∧ ∀ D, R (.ref D) m' ((D, LS vs.reverse 0) :: n'))) m n)
    (hs : ∀ l d, ∃ ops, subscripted (.Slice none none (some x) p) false (.ref l) (.ref d) = operate ops (getItem (.ref l) (.ref d)) := by intro l d; exact ⟨_, rfl⟩) : Tri c (eval (.Subscript v (.Slice none none (some x) p) pos) e) R m n := by
  intro fr g s Q E hA F N D hQ
  refine Subscript_ (h fr g s _ E hA F N D fun a s1 m1 n1 S1 h1 F1 N1 D1 => ?_)
  refine wpAny_Slice (evalPart_none_step (evalPart_none_step (evalPart_some_step (h1 fr g s1 _ E hA F1 N1 D1 fun y s3 m3 n3 S3 h3 F3 N3 D3 => ?_))))
  obtain ⟨l, vs, rfl, hl, hsz, px, h4⟩ := h3
  obtain ⟨ops, hs⟩ := hs l s3.heap.objs.size
  refine kba_turn (value' := .Name (Str.ofString "v") ⟨0, 0, 0, 0⟩) (fun _ => rfl) ?_
  refine krv_lit (zs := vs.reverse) F3 N3 (hl.isList hA F3 N3) px (by simp) (fun D' h' F' N' hlt => ?_) hs (fun _ => rfl) (by simpa using hsz)
  exact hQ _ _ m3 _ (S1.trans (S3.trans ⟨_, _, rfl⟩)) (h4 D') F' N' (D3.cons hlt)

/-- more of arithmetic -/
theorem Tri.mulInt {a b : Int} {t u : Tok} (hz : IntMulOk a b) (h : ∀ t', R (.int (a * b) t') m n) : Tri c (binaryOp .Mult (.int a t) (.int b u)) R m n :=
  fun _ _ _ _ _ _ F N D hQ => mul_int (hQ _ _ m n ⟨_, _, rfl⟩ (h _) F N D) hz
theorem Tri.divInt {a b : Int} {t u : Tok} (hb : 0 < b) (hb2 : b < 1000000000) (h : ∀ t', R (.int (a / b) t') m n) : Tri c (binaryOp .FloorDiv (.int a t) (.int b u)) R m n :=
  fun _ _ _ _ _ _ F N D hQ => floordiv_int (by omega) (by
    rw [Int.fdiv_eq_ediv_of_nonneg a (by omega)]
    exact hQ _ _ m n ⟨_, _, rfl⟩ (h _) F N D) (Or.inl (PyProof.noPylong_small (by omega)))
theorem Tri.iaddInt {a b : Int} {t u : Tok} (h : ∀ t', R (.int (a + b) t') m n) : Tri c (inplaceOp .Add (.int a t) (.int b u)) R m n :=
  fun _ _ _ _ _ _ F N D hQ => iadd_int (hQ _ _ m n ⟨_, _, rfl⟩ (h _) F N D)
theorem Tri.isubInt {a b : Int} {t u : Tok} (h : ∀ t', R (.int (a - b) t') m n) : Tri c (inplaceOp .Sub (.int a t) (.int b u)) R m n :=
  fun _ _ _ _ _ _ F N D hQ => isub_int (hQ _ _ m n ⟨_, _, rfl⟩ (h _) F N D)
theorem Tri.leInt {a b : Int} {t u : Tok} (h : R (.bool (decide (a ≤ b))) m n) : Tri c (compareOp .LtE (.int a t) (.int b u)) R m n :=
  fun _ _ _ _ _ _ F N D hQ => le_int (hQ _ _ m n (Sim.refl _) h F N D)
theorem Tri.gtInt {a b : Int} {t u : Tok} (h : R (.bool (decide (a > b))) m n) : Tri c (compareOp .Gt (.int a t) (.int b u)) R m n :=
  fun _ _ _ _ _ _ F N D hQ => gt_int (hQ _ _ m n (Sim.refl _) h F N D)
theorem Tri.neStr {a b : Str} {t u : Tok} (h : R (.bool (a != b)) m n) : Tri c (compareOp .NotEq (.str a t) (.str b u)) R m n :=
  fun _ _ _ _ _ _ F N D hQ => ne_str (hQ _ _ m n (Sim.refl _) h F N D)
theorem Tri.inStr {x y : Str} {t u : Tok} (h : R (.bool (Txt.contains x y)) m n) : Tri c (compareOp .In (.str y u) (.str x t)) R m n :=
  fun _ _ _ _ _ _ F N D hQ => SB.contains (hQ _ _ m n (Sim.refl _) h F N D)
theorem Tri.inInts {l : Addr} {vs : List Value} {ns : List Int} {k : Int} {t : Tok} (hl : At c n l vs) (hi : IntsAre vs ns) (h : R (.bool (ns.any fun x => x == k)) m n) : Tri c (compareOp .In (.int k t) (.ref l)) R m n :=
  fun _ _ _ _ _ hA F N D hQ => in_list_ints (hl.isList hA F N) hi (hQ _ _ m n (Sim.refl _) h F N D)
theorem Tri.mulStr {x : Str} {k : Int} {t u : Tok} (hz : MulOk x k) (h : ∀ t', R (.str (Txt.mul x k) t') m n) : Tri c (binaryOp .Mult (.str x t) (.int k u)) R m n :=
  fun _ _ _ _ _ _ F N D hQ => SB.mul hz (fun _ _ => hQ _ _ m n ⟨_, _, rfl⟩ (h _) F N D)
theorem Tri.addList {l b : Addr} {vs ws : List Value} {ns ms : List Int} (hl : At c n l vs) (hb : At c n b ws) (hi : IntsAre vs ns) (hj : IntsAre ws ms) (hsz : ns.length + ms.length ≤ sizeLine) (h : ∀ d, R (.ref d) m ((d, LS (vs ++ ws) 0) :: n)) :
    Tri c (binaryOp .Add (.ref l) (.ref b)) R m n :=
  fun _ _ _ _ _ hA F N D hQ => add_arrays_ints F N (hl.isList hA F N) (hb.isList hA F N) (by simpa using hi) (by simpa using hj) (fun h' F' N' _ => hQ _ _ m _ ⟨_, _, rfl⟩ (h _) F' (by simpa using N') (D.cons fun p hp => Heap.lt_size (N p hp).1)) hsz

theorem Tri.cmp2 {l r₁ r₂ : Expr} {o₁ o₂ : CmpOp} {pos : Pos}
    (h : Tri c (eval l e) (fun a => Tri c (eval r₁ e) (fun b => Tri c (compareOp o₁ a b) (fun v m' n' => ∃ q, v = .bool q ∧ (q = true → Tri c (eval r₂ e) (fun d => Tri c (compareOp o₂ b d) R) m' n') ∧ (q = false → R (.bool false) m' n')))) m n)
    (hm : lastMarks [o₁, o₂] [r₁, r₂] = false := by rfl) : Tri c (eval (.Compare l [o₁, o₂] [r₁, r₂] pos) e) R m n := by
  intro fr g s Q E hA F N D hQ
  refine Compare_chain (h fr g s _ E hA F N D fun a s1 m1 n1 S1 h1 F1 N1 D1 => ?_) hm
  refine chain_link (h1 fr g s1 _ E hA F1 N1 D1 fun b s2 m2 n2 S2 h2 F2 N2 D2 => ?_)
  refine h2 fr g s2 _ E hA F2 N2 D2 fun v s3 m3 n3 S3 h3 F3 N3 D3 => ?_
  obtain ⟨q, rfl, ht, hf⟩ := h3
  refine wpAny_truthy_bool ?_
  cases q with
  | false =>
    simp only [Bool.false_eq_true, if_false]
    exact hQ _ s3 m3 n3 (S1.trans (S2.trans S3)) (hf rfl) F3 N3 D3
  | true =>
    simp only [if_true]
    refine chain_last (ht rfl fr g s3 _ E hA F3 N3 D3 fun d s4 m4 n4 S4 h4 F4 N4 D4 => ?_)
    exact h4 fr g s4 _ E hA F4 N4 D4 fun v s5 m5 n5 S5 h5 F5 N5 D5 => hQ _ s5 m5 n5 (S1.trans (S2.trans (S3.trans (S4.trans S5)))) h5 F5 N5 D5
theorem Tri.and31 {a : Int} {t u : Tok} (h : ∀ t', R (.int (a % 32) t') m n) : Tri c (binaryOp .BitAnd (.int a t) (.int 31 u)) R m n := .andInt fun t' => by rw [bitAnd_m5]; exact h t'
theorem Tri.and127 {a : Int} {t u : Tok} (h : ∀ t', R (.int (a % 128) t') m n) : Tri c (binaryOp .BitAnd (.int a t) (.int 127 u)) R m n := .andInt fun t' => by rw [bitAnd_m7]; exact h t'
theorem Tri.and128 {a : Int} {t u : Tok} (h : ∀ t', R (.int (a / 128 % 2 * 128) t') m n) : Tri c (binaryOp .BitAnd (.int a t) (.int 128 u)) R m n := .andInt fun t' => by rw [show (128 : Int) = 2 ^ 7 from rfl, kbt_bit]; exact h t'
theorem bitOr32 : ∀ k : Fin 128, Builtin.bitOr ((k.val : Nat) : Int) 32 = if k.val / 32 % 2 = 1 then ((k.val : Nat) : Int) else ((k.val : Nat) : Int) + 32 := by decide +kernel
theorem Tri.or32 {a : Int} {t u : Tok} (h0 : 0 ≤ a) (h1 : a < 128) (h : ∀ t', R (.int (if a / 32 % 2 = 1 then a else a + 32) t') m n) : Tri c (binaryOp .BitOr (.int a t) (.int 32 u)) R m n := .orInt fun t' => by
  have q := bitOr32 ⟨a.toNat, by omega⟩
  have e : ((a.toNat : Nat) : Int) = a := by omega
  simp only [e] at q
  rw [q]
  have e2 : (a.toNat / 32 % 2 = 1) ↔ (a / 32 % 2 = 1) := by omega
  simp only [e2]
  exact h t'
theorem Tri.truthyInt {a : Int} {t : Tok} {R : Bool → FM → Led → Prop} (h : R (a != 0) m n) : Tri c (truthy (.int a t)) R m n :=
  fun _ _ s _ _ _ F N D hQ => PyProof.Rows.truthy_int (hQ _ s m n (Sim.refl s) h F N D)
theorem Tri.iaddStr {a b : Str} {t u : Tok} (hz : a.length + b.length ≤ sizeLine) (h : ∀ t', R (.str (a ++ b) t') m n) : Tri c (inplaceOp .Add (.str a t) (.str b u)) R m n :=
  fun _ _ _ _ _ _ F N D hQ => PyProof.Rows.iadd_str (fun _ _ => hQ _ _ m n ⟨_, _, rfl⟩ (h _) F N D) hz
theorem Tri.lenList {l : Addr} {vs : List Value} (hl : At c n l vs) (hz : vs.length ≤ sizeLine) (h : ∀ t', R (.int vs.length t') m n) : Tri c (call (.builtin "len") [.ref l]) R m n :=
  fun _ _ _ _ _ hA F N D hQ => by
    have hsl := sizeLine_eq
    refine Calls.call_len_list (hl.isList hA F N) (by simp; omega) ?_
    rw [List.size_toArray]
    exact hQ _ _ m n ⟨_, _, rfl⟩ (h _) F N D
theorem Tri.unary {op : UnaryOp} {x : Expr} {pos : Pos} (h : Tri c (eval x e) (fun v => Tri c (unaryOp op v) R) m n) : Tri c (eval (.UnaryOp op x pos) e) R m n := by
  intro fr g s Q E hA F N D hQ
  refine UnaryOp_ (h fr g s _ E hA F N D fun a s1 m1 n1 S1 h1 F1 N1 D1 => ?_)
  exact h1 fr g s1 _ E hA F1 N1 D1 fun v s2 m2 n2 S2 h2 F2 N2 D2 => hQ _ s2 m2 n2 (S1.trans S2) h2 F2 N2 D2
theorem Tri.negInt {a : Int} {t : Tok} (h : ∀ t', R (.int (-a) t') m n) : Tri c (unaryOp .USub (.int a t)) R m n :=
  fun _ _ _ _ _ _ F N D hQ => neg_int (hQ _ _ m n ⟨_, _, rfl⟩ (h _) F N D)
end

theorem passesFalse {M : Model} {A : Around} {env : Env} : PassesOwn M A env (fun _ _ => False) := fun _ _ h => h.elim
section
variable {α β : Type} {c : Cx} {m : FM} {n : Led} {e : Env}

/-- what a loop goes through: n items, P i the i-th -/
structure Thru (c : Cx) (n0 : Led) (N : Nat) (P : Nat → Value → Prop) (keeps : Led → Prop) (xv : Value) : Prop where
  go : ∀ (fr : Led) (g : Heap) (s : Shared) (Q : Value → Shared → Prop) (E : Value → Shared → Prop) (m : FM), Amb c g → Fr g c.env.locals s.heap m → News g c.env.locals s.heap (n0 ++ fr) →
    (∀ (o : Obj) (fp : List Addr) (St : Nat → Heap → Prop), o.isFreed = false → Walks PG c.w c.A s.heap.objs.size fp [s.heap.objs.size] N P St → St 0 (s.heap.push o) → s.heap.objs.size ∈ fp →
      (∀ i h, St i h → ∃ o', h.get? s.heap.objs.size = some o') →
      (∀ i h h' o' n1, St i h → h.get? s.heap.objs.size = some o' → h'.get? s.heap.objs.size = some o' → (∀ b o, g.get? b = some o → h'.get? b = some o) → keeps n1 → News g c.env.locals h' n1 → St i h') →
      (∀ b ∈ fp, b ≠ s.heap.objs.size → (b < s.heap.objs.size ∧ b ≠ c.env.locals) ∧ ∀ (n1 : Led) (h1 : Heap), keeps n1 → News g c.env.locals h1 n1 → g.get? b = none → ∀ o', h1.get? b = some o' → ∀ (n2 : Led), keeps n2 → (b, o') ∈ n2) →
      Q (.ref s.heap.objs.size) { s with heap := s.heap.push o }) → wpAny (model PG c.w) c.A (pyIter xv) Q E s

theorem Tri.for_ {x : Str} {px pos : Pos} {iter : Expr} {body : List Stmt} {R : Flow → FM → Led → Prop}
    (h : Tri c (eval iter c.env) (fun xv m0 n0 => ∃ N P keeps, Thru c n0 N P keeps xv ∧ ∃ J : Nat → FM → Led → Prop, J 0 m0 n0 ∧ (∀ i m1 n1, J i m1 n1 → keeps n1) ∧
      (∀ i v m1 n1, i < N → P i v → J i m1 n1 → Tri c (execs body c.env) (fun fl m2 n2 => match fl with | .ret v => R (.ret v) m2 n2 | .brk => R .next m2 n2 | _ => J (i + 1) m2 n2) (put m1 x v) n1) ∧
      (∀ m1 n1, J N m1 n1 → R .next m1 n1)) m n)
    (hk : c.env.scope.kind = .function := by rfl) (hx : c.env.kindOf x = some .local := by rfl) (hs : ∀ x, foldedSetIterable iter c.env x = Pure.pure x := by intro _; rfl) : Tri c (exec (.For (.Name x px) iter body [] pos) c.env) R m n := by
  intro fr g s Q E hA F N D hQ
  refine wpAny_mono (E := fun _ _ => False) ?_ (fun _ _ q => q) (fun _ _ q => q.elim)
  refine For_invVF F hx (by rw [hk]; rfl) ?_ hs passesFalse
  refine h fr g s _ _ hA F N D fun xv s1 m1 n1 S1 h1 F1 N1 D1 => ?_
  obtain ⟨NN, P, keeps, T, J, J0, hkeep, turn, fin⟩ := h1
  refine T.go fr g s1 _ _ m1 hA F1 N1 fun o fp St ho W hst hI hIo hSt hfp => ?_
  have hnew : ∀ p ∈ n1 ++ fr, p.1 ≠ s1.heap.objs.size := fun p hp => Nat.ne_of_lt (Heap.lt_size (N1 p hp).1)
  refine ⟨s1.heap.objs.size, fp, [s1.heap.objs.size], NN, P, St, m1, n1 ++ fr, fun i m' nn => ∃ n', nn = n' ++ fr ∧ Nd nn ∧ J i m' n', rfl, W, ?_, ?_, ?_, hst, F1.push _, fun p hp => ⟨Heap.get?_push_of_some _ (N1 p hp).1, (N1 p hp).2⟩, ⟨n1, rfl, D1, J0⟩, ?_, ?_⟩
  · intro q
    by_cases e : c.env.locals = s1.heap.objs.size
    · exact absurd F1.ns.lt (e ▸ Nat.lt_irrefl _)
    · exact (hfp _ q e).1.2 rfl
  · intro b hb
    rw [List.mem_singleton.mp hb]
    exact next_is_new F1
  · intro p hp q
    exact hnew p hp (List.mem_singleton.mp q)
  · rintro i v m2 nn s2 own ⟨h2, tk2, rfl⟩ hi hP ⟨n2, rfl, D2, hJ⟩ hoff hown hownget hownall hst2 F2 N2
    have hInew : g.get? s1.heap.objs.size = none := next_is_new F1
    -- the iterator's object
    obtain ⟨oI, hIo⟩ := hIo _ _ hst2
    have D2' : Nd (n2 ++ (fr ++ [(s1.heap.objs.size, oI)])) := by
      rw [← List.append_assoc]
      unfold Nd at D2 ⊢
      rw [List.map_append, List.nodup_append]
      refine ⟨D2, by simp, fun a ha b hb q => ?_⟩
      obtain ⟨p, hp, rfl⟩ := List.mem_map.mp ha
      simp only [List.map_cons, List.map_nil, List.mem_singleton] at hb
      exact hoff p hp (by rw [List.mem_singleton, q, hb])
    have N2' : News g c.env.locals h2 (n2 ++ (fr ++ [(s1.heap.objs.size, oI)])) := by
      intro p hp
      rw [← List.append_assoc] at hp
      rcases List.mem_append.mp hp with hp | hp
      · exact N2 p (List.mem_append_right _ hp)
      · rw [List.mem_singleton.mp hp]
        exact ⟨hIo, Nat.ne_of_gt F1.ns.lt, hInew⟩
    refine turn i v m2 n2 hi hP hJ (fr ++ [(s1.heap.objs.size, oI)]) g _ _ _ hA F2 N2' D2' ?_
    intro fl s3 m3 n3 S3 r3 F3 N3 D3
    have D3' : Nd (n3 ++ fr) := by
      rw [← List.append_assoc] at D3
      unfold Nd at D3 ⊢
      rw [List.map_append, List.nodup_append] at D3
      exact D3.1
    have N3' : News g c.env.locals s3.heap (n3 ++ fr) := fun p hp => N3 p (by rw [← List.append_assoc]; exact List.mem_append_left _ hp)
    have step : J (i + 1) m3 n3 → LoopStepU g c.env.locals [s1.heap.objs.size] own (fun m' nn => ∃ n', nn = n' ++ fr ∧ Nd nn ∧ J (i + 1) m' n') { s1 with heap := h2, toks := tk2 } .next s3 := by
      intro hJ3
      obtain ⟨h3, tk3, rfl⟩ := S3
      refine LoopStepU.intro F3 (news₂ := n3 ++ fr) ?_ ?_ ⟨n3, rfl, D3', hJ3⟩
      · intro p hp
        rcases List.mem_append.mp hp with hp | hp
        · by_cases e : p.1 = s1.heap.objs.size
          · have := hownget p hp
            rw [e] at this
            have e2 : p.2 = oI := Option.some.inj (this.symm.trans hIo)
            have : p = (s1.heap.objs.size, oI) := Prod.ext e e2
            rw [this]
            exact N3 _ (by rw [← List.append_assoc]; exact List.mem_append_right _ (.head _))
          · have hg : g.get? p.1 = none := (N2 p (List.mem_append_left _ hp)).2.2
            have q := (hfp p.1 (hown p hp) e).2 n2 h2 (hkeep _ _ _ hJ) (fun p hp => N2 p (List.mem_append_right _ (List.mem_append_left _ hp))) hg p.2 (hownget p hp) n3 (hkeep _ _ _ hJ3)
            exact N3' p (List.mem_append_left _ q)
        · exact N3' p hp
      · intro p hp q
        rw [List.mem_singleton] at q
        rw [← List.append_assoc] at D3
        have := (Nd.off (pre := n3 ++ fr) (post := []) (d := s1.heap.objs.size) (o := oI) D3).1 p hp
        exact this q
    cases fl with
    | ret v => exact hQ _ s3 m3 n3 (S1.trans (Sim.trans ⟨_, _, rfl⟩ S3)) r3 F3 N3' D3'
    | brk => exact hQ _ s3 m3 n3 (S1.trans (Sim.trans ⟨_, _, rfl⟩ S3)) r3 F3 N3' D3'
    | cont => exact step r3
    | next => exact step r3
  · rintro h' tk m' nn F' N' hoff ⟨n', rfl, D', hJ⟩
    exact hQ _ _ m' n' (S1.trans ⟨_, _, rfl⟩) (fin _ _ hJ) F' N' D'

theorem Tri.while_ {test : Expr} {body : List Stmt} {pos : Pos} {R : Flow → FM → Led → Prop} (J : Nat → FM → Led → Prop) {k : Nat} (h0 : J k m n)
    (turn : ∀ k m1 n1, J k m1 n1 → Tri c (PySem.isTrue test c.env (eval test c.env)) (fun b m2 n2 => (b = true → Tri c (execs body c.env) (fun fl m3 n3 => fl = .next ∧ ∃ k', k' < k ∧ J k' m3 n3) m2 n2) ∧ (b = false → R .next m2 n2)) m1 n1) :
    Tri c (exec (.While test body [] pos) c.env) R m n := by
  intro fr g s Q E hA F N D hQ
  refine wpAny_mono (E := fun _ _ => False) ?_ (fun _ _ q => q) (fun _ _ q => q.elim)
  refine While_inv (L := c.env.locals) (fun k m1 nn => ∃ n1, nn = n1 ++ fr ∧ Nd nn ∧ J k m1 n1) F N ⟨n, rfl, D, h0⟩ ?_ passesFalse
  rintro k' m1 nn h1 tk1 F1 N1 ⟨n1, rfl, D1, hJ⟩
  refine turn k' m1 n1 hJ fr g _ _ _ hA F1 N1 D1 fun b s2 m2 n2 S2 h2 F2 N2 D2 => ?_
  cases b with
  | false =>
    simp only [Bool.false_eq_true, if_false]
    exact hQ _ s2 m2 n2 (Sim.trans ⟨_, _, rfl⟩ S2) (h2.2 rfl) F2 N2 D2
  | true =>
    simp only [if_true]
    refine h2.1 rfl fr g s2 _ _ hA F2 N2 D2 fun fl s3 m3 n3 S3 h3 F3 N3 D3 => ?_
    obtain ⟨rfl, k3, hk3, hJ3⟩ := h3
    obtain ⟨h', tk', rfl⟩ := (Sim.trans (a := s) ⟨_, _, rfl⟩ (S2.trans S3) : Sim s s3)
    exact WhileStep.intro F3 N3 hk3 ⟨n3, rfl, D3, hJ3⟩

/-- a comprehension's turns -/
theorem compRest {N : Nat} {P : Nat → Value → Prop} {elt : Expr} {x : Str} {scope : Scope} {cl : List (Str × Addr)} {Po : Nat → Value → Prop} {n0 fr : Led} {g : Heap} {s : Shared} {S : Led → Prop} {Fin : List Value → Led → Prop}
    (hA : Amb c g) (D0 : Nd (n0 ++ fr)) (hS : S (n0 ++ fr))
    (turn : ∀ i v C oC m₂, i < N → P i v → LCg.NsObj oC m₂ → m₂ x = some v → Tri c (eval elt (compEnvC scope cl C c.env)) (fun y m' n' => m' = m ∧ n' = (C, oC) :: n0 ∧ Po i y) m ((C, oC) :: n0))
    (fin : ∀ ys : List Value, ys.length = N → (∀ i y, ys[i]? = some y → Po i y) → Fin ys (n0 ++ fr)) :
    LCg.CompRest PG c.w c.A g c.env.locals m c.env elt x scope cl s S P Fin N 0 [] (n0 ++ fr) := by
  have key : ∀ (k i : Nat) (ys : List Value), i + k = N → ys.length = i → (∀ j y, ys[j]? = some y → Po j y) → LCg.CompRest PG c.w c.A g c.env.locals m c.env elt x scope cl s S P Fin k i ys (n0 ++ fr) := by
    intro k
    induction k with
    | zero => exact fun i ys hi hy hP => LCg.CompRest.zero (fin ys (by omega) hP)
    | succ k ih =>
      intro i ys hi hy hP
      refine LCg.CompRest.succ ?_
      intro v I oI C oC D m₂ h tk E' hv hC hx F N off ne
      have offm := off.mem
      have N' : News g c.env.locals h (((C, oC) :: n0) ++ (fr ++ [(I, oI), (D, LCg.lst ys)])) := by
        intro p hp
        refine N p ?_
        simp only [List.mem_append, List.mem_cons, List.not_mem_nil, or_false] at hp ⊢
        rcases hp with (h | h) | h | h | h
        · exact .inr (.inl h)
        · exact .inr (.inr (.inr (.inl h)))
        · exact .inr (.inr (.inr (.inr h)))
        · exact .inl h
        · exact .inr (.inr (.inl h))
      have D' : Nd (((C, oC) :: n0) ++ (fr ++ [(I, oI), (D, LCg.lst ys)])) := by
        rw [← List.append_assoc, List.cons_append]
        unfold Nd at D0 ⊢
        simp only [List.map_append, List.map_cons, List.map_nil, List.nodup_cons, List.nodup_append, List.mem_append, List.mem_cons, List.not_mem_nil, or_false, List.cons_append] at D0 ⊢
        have o1 : ∀ p ∈ n0, p.1 ≠ I ∧ p.1 ≠ C ∧ p.1 ≠ D := fun p hp => offm p (List.mem_append_left _ hp)
        have o2 : ∀ p ∈ fr, p.1 ≠ I ∧ p.1 ≠ C ∧ p.1 ≠ D := fun p hp => offm p (List.mem_append_right _ hp)
        have q1 : ∀ a ∈ n0.map (·.1), a ≠ I ∧ a ≠ C ∧ a ≠ D := fun a ha => by obtain ⟨p, hp, rfl⟩ := List.mem_map.mp ha; exact o1 p hp
        have q2 : ∀ a ∈ fr.map (·.1), a ≠ I ∧ a ≠ C ∧ a ≠ D := fun a ha => by obtain ⟨p, hp, rfl⟩ := List.mem_map.mp ha; exact o2 p hp
        refine ⟨?_, ⟨D0.1, D0.2.1, D0.2.2⟩, ⟨ne.2.1, not_false, List.nodup_nil⟩, ?_⟩
        · rintro ((h | h) | h | h)
          · exact (q1 _ h).2.1 rfl
          · exact (q2 _ h).2.1 rfl
          · exact ne.1 h.symm
          · exact ne.2.2 h
        · intro a ha b hb q
          subst q
          rcases ha with ha | ha <;> rcases hb with hb | hb
          · exact (q1 _ ha).1 hb
          · exact (q1 _ ha).2.2 hb
          · exact (q2 _ ha).1 hb
          · exact (q2 _ ha).2.2 hb
      refine turn i v C oC m₂ (by omega) hv hC hx (fr ++ [(I, oI), (D, LCg.lst ys)]) g _ _ _ hA F N' D' fun y s2 m2 n2 S2 h2 F2 N2 D2 => ?_
      obtain ⟨rfl, rfl, hpo⟩ := h2
      obtain ⟨h', tk', rfl⟩ := S2
      refine ⟨h', tk', n0 ++ fr, rfl, F2, ?_, off, hS, ih (i + 1) (ys ++ [y]) (by omega) (by simp; omega) ?_⟩
      · intro p hp
        refine N2 p ?_
        simp only [List.mem_append, List.mem_cons, List.not_mem_nil, or_false] at hp ⊢
        rcases hp with h | h | h | h | h
        · exact .inr (.inr (.inl h))
        · exact .inl (.inl h)
        · exact .inr (.inr (.inr h))
        · exact .inl (.inr h)
        · exact .inr (.inl h)
      · intro j z hj
        rcases Nat.lt_or_ge j ys.length with q | q
        · rw [List.getElem?_append_left q] at hj
          exact hP j z hj
        · rw [List.getElem?_append_right q] at hj
          cases hz : j - ys.length with
          | zero =>
            rw [hz] at hj
            simp only [List.getElem?_cons_zero, Option.some.injEq] at hj
            subst hj
            have : j = i := by omega
            subst this
            exact hpo
          | succ z' => rw [hz] at hj; simp at hj
  exact key N 0 [] (by omega) rfl (fun j y h => by simp at h)

theorem Tri.comp {elt iter : Expr} {x : Str} {px : Pos} {scope : Scope} {cl : List (Str × Addr)} {pos : Pos} {R : Value → FM → Led → Prop}
    (hclos : closureFor scope c.env = Pure.pure cl)
    (h : Tri c (eval iter c.env) (fun xv m0 n0 => ∃ (N : Nat) (P : Nat → Value → Prop) (keeps : Led → Prop) (Po : Nat → Value → Prop), m0 = m ∧ Thru c n0 N P keeps xv ∧ keeps n0 ∧ N ≤ sizeLine ∧
      (∀ i v C oC m₂, i < N → P i v → LCg.NsObj oC m₂ → m₂ x = some v → Tri c (eval elt (compEnvC scope cl C c.env)) (fun y m' n' => m' = m ∧ n' = (C, oC) :: n0 ∧ Po i y) m ((C, oC) :: n0)) ∧
      (∀ D (ys : List Value), ys.length = N → (∀ i y, ys[i]? = some y → Po i y) → R (.ref D) m ((D, LS ys ys.length) :: n0))) m n)
    (hcell : ∀ y ∈ scope.names, y.2 ≠ .cell := by decide) (hkind : scope.kind = .function := by rfl)
    (hnames : ∀ y ∈ scope.names, y.2 = .local → scope.names.lookup y.1 = some .local := by decide) (hx : scope.names.lookup x = some .local := by rfl)
    (hs : ∀ x, foldedSetIterable iter c.env x = Pure.pure x := by intro _; rfl) :
    Tri c (eval (.ListComp elt [⟨.Name x px, iter, [], 0⟩] scope pos) c.env) R m n := by
  intro fr g s Q E hA F N D hQ
  rw [eval_ListComp]
  refine wpAny_comprehension_free (use := none) rfl hs hclos hkind hnames (h fr g s _ E hA F N D fun xv s1 m1 n1 S1 h1 F1 N1 D1 => ?_)
  obtain ⟨NN, P, keeps, Po, rfl, T, hk, hsz, turn, fin⟩ := h1
  refine T.go fr g s1 _ _ m1 hA F1 N1 fun o fp St ho W hst hI hIo hSt hfp => ?_
  have up : ∀ b o', s1.heap.get? b = some o' → (s1.heap.push o).get? b = some o' := fun b o' e => Heap.get?_push_of_some _ e
  refine LCg.block_U (S := fun nw => ∃ n2, keeps n2 ∧ ∀ p ∈ n2, p ∈ nw) W hsz hIo (fun i h h' o' nw st e e' k Nn hS => ?_) hcell hkind hx hst (fun b hb => ?_) (F1.keeps up) (N1.grown up) (Nat.ne_of_lt F1.ns.lt) (next_is_new F1)
    (fun p hp => Nat.ne_of_lt (Heap.lt_size (N1 p hp).1)) ⟨n1, hk, fun p hp => List.mem_append_left _ hp⟩
    (compRest (Fin := fun ys nw => nw = n1 ++ fr ∧ ys.length = NN ∧ ∀ i y, ys[i]? = some y → Po i y) hA D1 ⟨n1, hk, fun p hp => List.mem_append_left _ hp⟩ turn fun ys h1 h2 => ⟨rfl, h1, h2⟩) ?_
  · obtain ⟨n2, hk2, sub⟩ := hS
    exact hSt i h h' o' n2 st e e' k hk2 fun p hp => Nn p (sub p hp)
  · show b < (s1.heap.push o).objs.size
    rw [Heap.size_push]
    by_cases q : b = s1.heap.objs.size
    · exact q ▸ Nat.lt_succ_self _
    · exact Nat.lt_succ_of_lt (hfp b hb q).1.1
  · intro D' C h2 tk2 m' ys news' F' N' o1 hn hC₀ hD₀ hCL hDL hCD offC fin'
    obtain ⟨rfl, hlen, hall⟩ := fin'
    refine ⟨m', hn, fun h'' hs'' => hQ _ _ m1 _ (S1.trans ⟨_, _, rfl⟩) (fin D' ys hlen hall) (F'.change hs'' hCL hC₀) (fun p hp => ?_) ?_⟩
    · refine ⟨hs''.extBut _ _ ?_ (N' p hp).1, (N' p hp).2⟩
      rcases List.mem_cons.mp hp with rfl | hp
      · exact Ne.symm hCD
      · exact offC p hp
    · show Nd ((D', LS ys ys.length) :: (n1 ++ fr))
      unfold Nd at D1 ⊢
      simp only [List.map_cons, List.nodup_cons]
      refine ⟨fun q => ?_, D1⟩
      obtain ⟨p, hp, e⟩ := List.mem_map.mp q
      have : ∀ {l : Led}, LCg.Off1 D' l → ∀ p ∈ l, p.1 ≠ D' := by
        intro l
        induction l with
        | nil => intro _ p hp; cases hp
        | cons a r ih =>
          intro o p hp
          rcases List.mem_cons.mp hp with rfl | hp
          · exact o.1
          · exact ih o.2 p hp
      exact this o1 p hp e

/-- the same, its list stored at once under a name -/
theorem Tri.assignComp {elt iter : Expr} {x y : Str} {px py : Pos} {scope : Scope} {cl : List (Str × Addr)} {pos spos : Pos} {R : Flow → FM → Led → Prop}
    (hclos : closureFor scope c.env = Pure.pure cl)
    (h : Tri c (eval iter c.env) (fun xv m0 n0 => ∃ (N : Nat) (P : Nat → Value → Prop) (keeps : Led → Prop) (Po : Nat → Value → Prop), m0 = m ∧ Thru c n0 N P keeps xv ∧ keeps n0 ∧ N ≤ sizeLine ∧
      (∀ i v C oC m₂, i < N → P i v → LCg.NsObj oC m₂ → m₂ x = some v → Tri c (eval elt (compEnvC scope cl C c.env)) (fun y m' n' => m' = m ∧ n' = (C, oC) :: n0 ∧ Po i y) m ((C, oC) :: n0)) ∧
      (∀ D (ys : List Value), ys.length = N → (∀ i y, ys[i]? = some y → Po i y) → R .next (put m y (.ref D)) ((D, LS ys ys.length) :: n0))) m n)
    (hsw : swapsWith (.ListComp elt [⟨.Name x px, iter, [], 0⟩] scope pos) (some (.Name y py)) spos.line c.env = Pure.pure true)
    (hk : c.env.scope.kind = .function := by rfl) (hy : c.env.kindOf y = some .local := by rfl)
    (hcell : ∀ y ∈ scope.names, y.2 ≠ .cell := by decide) (hkind : scope.kind = .function := by rfl)
    (hnames : ∀ y ∈ scope.names, y.2 = .local → scope.names.lookup y.1 = some .local := by decide) (hx : scope.names.lookup x = some .local := by rfl)
    (hs : ∀ x, foldedSetIterable iter c.env x = Pure.pure x := by intro _; rfl) :
    Tri c (exec (.Assign [.Name y py] (.ListComp elt [⟨.Name x px, iter, [], 0⟩] scope pos) spos) c.env) R m n := by
  intro fr g s Q E hA F N D hQ
  rw [exec_Assign_Name_used _ _ _ _ hsw]
  refine wpAny_bind (wpAny_standAt (wpAny_bind ?_))
  show wpAny _ c.A (do let _ ← comprehension (.ListComp elt [⟨.Name x px, iter, [], 0⟩] scope pos) scope c.env _ (PySem.newList []) false (eval iter c.env) (some (PySem.assign (.Name y py) c.env))) _ _ s
  refine wpAny_bind (wpAny_mono (wpAny_comprehension_free (use := some (PySem.assign (.Name y py) c.env)) (Q := fun _ s' => Q .next s') rfl hs hclos hkind hnames
    (h fr g s _ E hA F N D fun xv s1 m1 n1 S1 h1 F1 N1 D1 => ?_)) (fun _ s' hq => wpAny_pure (wpAny_pure hq)) fun _ _ e => e)
  obtain ⟨NN, P, keeps, Po, rfl, T, hk2, hsz, turn, fin⟩ := h1
  refine T.go fr g s1 _ _ m1 hA F1 N1 fun o fp St ho W hst hI hIo hSt hfp => ?_
  have up : ∀ b o', s1.heap.get? b = some o' → (s1.heap.push o).get? b = some o' := fun b o' e => Heap.get?_push_of_some _ e
  refine LCg.block_U (S := fun nw => ∃ n2, keeps n2 ∧ ∀ p ∈ n2, p ∈ nw) W hsz hIo (fun i h h' o' nw st e e' k Nn hS => ?_) hcell hkind hx hst (fun b hb => ?_) (F1.keeps up) (N1.grown up) (Nat.ne_of_lt F1.ns.lt) (next_is_new F1)
    (fun p hp => Nat.ne_of_lt (Heap.lt_size (N1 p hp).1)) ⟨n1, hk2, fun p hp => List.mem_append_left _ hp⟩
    (compRest (Fin := fun ys nw => nw = n1 ++ fr ∧ ys.length = NN ∧ ∀ i y, ys[i]? = some y → Po i y) hA D1 ⟨n1, hk2, fun p hp => List.mem_append_left _ hp⟩ turn fun ys h1 h2 => ⟨rfl, h1, h2⟩) ?_
  · obtain ⟨n2, hk2, sub⟩ := hS
    exact hSt i h h' o' n2 st e e' k hk2 fun p hp => Nn p (sub p hp)
  · show b < (s1.heap.push o).objs.size
    rw [Heap.size_push]
    by_cases q : b = s1.heap.objs.size
    · exact q ▸ Nat.lt_succ_self _
    · exact Nat.lt_succ_of_lt (hfp b hb q).1.1
  · intro D' C h2 tk2 m' ys news' F' N' o1 hn hC₀ hD₀ hCL hDL hCD offC fin'
    obtain ⟨rfl, hlen, hall⟩ := fin'
    show wpAny _ c.A (PySem.assign (.Name y py) c.env (.ref D')) _ _ _
    refine wpAny_assign_Name (wpAny_storeName_local hy F'.ns (fun h₂ hn₂ hs₂ => ?_) (by rw [hk]; rfl))
    have hL₀ : g.get? c.env.locals = none := Heap.get?_none_of_le F'.above
    have F₂ : Fr g c.env.locals h₂ (put m1 y (.ref D')) := ⟨hn₂, fun b o e => hs₂.extBut b o (fun q => by rw [q, hL₀] at e; cases e) (F'.keep b o e), F'.above⟩
    refine ⟨m', hn.sameBut hs₂ hCL, fun h'' hs'' => hQ _ _ _ _ (S1.trans ⟨_, _, rfl⟩) (fin D' ys hlen hall) (F₂.change hs'' hCL hC₀) (fun p hp => ?_) ?_⟩
    · have z : h₂.get? p.1 = some p.2 := hs₂.extBut _ _ (N' p hp).2.1 (N' p hp).1
      refine ⟨hs''.extBut _ _ ?_ z, (N' p hp).2⟩
      rcases List.mem_cons.mp hp with rfl | hp
      · exact Ne.symm hCD
      · exact offC p hp
    · show Nd ((D', LS ys ys.length) :: (n1 ++ fr))
      unfold Nd at D1 ⊢
      simp only [List.map_cons, List.nodup_cons]
      refine ⟨fun q => ?_, D1⟩
      obtain ⟨p, hp, e⟩ := List.mem_map.mp q
      have : ∀ {l : Led}, LCg.Off1 D' l → ∀ p ∈ l, p.1 ≠ D' := by
        intro l
        induction l with
        | nil => intro _ p hp; cases hp
        | cons a r ih =>
          intro o p hp
          rcases List.mem_cons.mp hp with rfl | hp
          · exact o.1
          · exact ih o.2 p hp
      exact this o1 p hp e

/-- sources -/
theorem Thru.list {n0 : Led} {l : Addr} {vs : List Value} {k : Nat} (hh : c.A.handled = none) (hm : (l, LS vs k) ∈ n0) : Thru c n0 vs.length (fun i v => vs[i]? = some v) (fun n1 => (l, LS vs k) ∈ n1) (.ref l) := by
  refine ⟨fun fr g s Q E m hA F N hQ => ?_⟩
  have z := N _ (List.mem_append_left fr hm)
  have hl : s.heap.IsList l vs.toArray := ⟨_, z.1, rfl, _, rfl⟩
  have hlt : l < s.heap.objs.size := Heap.lt_size z.1
  refine wpAny_pyIter_list hl ?_
  have W := Walks.list (prog := PG) (w := c.w) hh s.heap.objs.size l (Nat.ne_of_lt hlt) vs.toArray
  simp only [List.size_toArray, List.getElem?_toArray] at W
  refine hQ _ _ _ rfl W ⟨⟨_, Heap.get?_push_size _ rfl, rfl, rfl⟩, hl.push _⟩ (.head _) (fun i h st => by obtain ⟨o, e, _⟩ := st.1; exact ⟨o, e⟩)
    (fun i h h' o' n1 st e e' kk hk Nn => ⟨by obtain ⟨o, q, r⟩ := st.1; rw [e] at q; cases q; exact ⟨o', e', r⟩, ⟨_, (Nn _ hk).1, rfl, _, rfl⟩⟩) ?_
  intro b hb hne
  have hb' : b = l := by
    rcases List.mem_cons.mp hb with h | h
    · exact absurd h hne
    · exact List.mem_singleton.mp h
  subst hb'
  refine ⟨⟨hlt, z.2.1⟩, fun n1 h1 hk1 N1 _ o' ho' n2 hk2 => ?_⟩
  have := (N1 _ hk1).1
  rw [this] at ho'
  cases ho'
  exact hk2
theorem Thru.script {n0 : Led} (hh : c.A.handled = none) : Thru c n0 c.sv.length (fun i v => c.sv[i]? = some v) (fun _ => True) (.ref c.scr) := by
  refine ⟨fun fr g s Q E m hA F N hQ => ?_⟩
  obtain ⟨o, ho, hr⟩ := hA.S
  have hl : s.heap.IsList c.scr c.sv.toArray := ⟨o, F.keep _ _ ho, hr⟩
  have hlt : c.scr < s.heap.objs.size := Heap.lt_size (F.keep _ _ ho)
  refine wpAny_pyIter_list hl ?_
  have W := Walks.list (prog := PG) (w := c.w) hh s.heap.objs.size c.scr (Nat.ne_of_lt hlt) c.sv.toArray
  simp only [List.size_toArray, List.getElem?_toArray] at W
  refine hQ _ _ _ rfl W ⟨⟨_, Heap.get?_push_size _ rfl, rfl, rfl⟩, hl.push _⟩ (.head _) (fun i h st => by obtain ⟨o, e, _⟩ := st.1; exact ⟨o, e⟩)
    (fun i h h' o' n1 st e e' kk hk Nn => ⟨by obtain ⟨o, q, r⟩ := st.1; rw [e] at q; cases q; exact ⟨o', e', r⟩, ⟨o, kk _ _ ho, hr⟩⟩) ?_
  intro b hb hne
  have hb' : b = c.scr := by
    rcases List.mem_cons.mp hb with h | h
    · exact absurd h hne
    · exact List.mem_singleton.mp h
  subst hb'
  refine ⟨⟨hlt, fun q => ?_⟩, fun n1 h1 hk1 N1 hg o' ho' n2 hk2 => by rw [ho] at hg; cases hg⟩
  exact absurd (Heap.lt_size ho) (q ▸ Nat.not_lt.mpr F.above)
theorem Thru.str {n0 : Led} {x : Str} {t : Tok} (hh : c.A.handled = none) : Thru c n0 x.cps.size (SignAt x) (fun _ => True) (.str x t) := by
  refine ⟨fun fr g s Q E m hA F N hQ => ?_⟩
  have off : ∀ b ∈ [s.heap.objs.size], b ≠ s.heap.objs.size → (b < s.heap.objs.size ∧ b ≠ c.env.locals) ∧ ∀ (n1 : Led) (h1 : Heap), True → News g c.env.locals h1 n1 → g.get? b = none → ∀ o', h1.get? b = some o' → ∀ (n2 : Led), True → (b, o') ∈ n2 :=
    fun b hb hne => absurd (List.mem_singleton.mp hb) hne
  cases ha : x.cps.all (· < 128)
  · refine wpAny_pyIter_wide ha (hQ _ _ _ rfl (Walks.strWide hh _ x t) ⟨_, Heap.get?_push_size _ rfl, rfl, rfl⟩ (.head _) (fun i h st => by obtain ⟨o, e, _⟩ := st; exact ⟨o, e⟩) (fun i h h' o' n1 st e e' kk hk Nn => ?_) off)
    obtain ⟨o, q, r⟩ := st; rw [e] at q; cases q; exact ⟨o', e', r⟩
  · refine wpAny_pyIter_ascii ha (hQ _ _ _ rfl (Walks.strAscii hh _ x t) ⟨_, Heap.get?_push_size _ rfl, rfl, rfl⟩ (.head _) (fun i h st => by obtain ⟨o, e, _⟩ := st; exact ⟨o, e⟩) (fun i h h' o' n1 st e e' kk hk Nn => ?_) off)
    obtain ⟨o, q, r⟩ := st; rw [e] at q; cases q; exact ⟨o', e', r⟩
abbrev RG (k : Int) (t u v : Tok) : Obj := { cls := .type "range", dict := none, data := .fields #[.int 0 t, .int k u, .int 1 v], slots := #[] }
theorem Tri.range {k : Int} {t : Tok} {R : Value → FM → Led → Prop} (h : ∀ l t u v, R (.ref l) m ((l, RG k t u v) :: n)) : Tri c (call (.type "range") [.int k t]) R m n :=
  fun _ _ _ _ _ hA F N D hQ => call_range_1 (hQ _ _ m _ ⟨_, _, rfl⟩ (h _ _ _ _) (F.push _) (N.push F _) (D.cons fun p hp => Heap.lt_size (N p hp).1))
theorem Thru.range {n0 : Led} {l : Addr} {k : Nat} {t u v : Tok} (hh : c.A.handled = none) (hm : (l, RG k t u v) ∈ n0) (hk : k ≤ sizeLine) : Thru c n0 k (fun i v => ∃ t, v = .int (i : Int) t) (fun _ => True) (.ref l) := by
  refine ⟨fun fr g s Q E m hA F N hQ => ?_⟩
  have z := (N _ (List.mem_append_left fr hm)).1
  have hsl := sizeLine_eq
  refine wpAny_pyIter_range (a := 0) (b := k) (c := 1) z (small_one (by omega) (by omega) (by omega) (by omega)) ?_
  have W := LCg.range_walks (prog := PG) (w := c.w) (I := s.heap.objs.size) hh 0 k
  simp only [Int.zero_add] at W
  refine hQ _ _ _ rfl W ?_ (.head _) (fun i h st => ⟨_, st⟩) (fun i h h' o' n1 st e e' kk hk Nn => ?_) (fun b hb hne => absurd (List.mem_singleton.mp hb) hne)
  · show IsRangeIter _ _ _ _ _
    rw [rangeSize_nat]
    simpa using Heap.get?_push_size _ rfl
  · have st' : h.get? _ = some _ := st
    show h'.get? _ = some _
    rw [e', ← e]; exact st'
/-- two names at once -/
theorem Tri.assignPairS {a b : Str} {pa pb tpos pos : Pos} {k : Nat} {value : Expr} {R : Flow → FM → Led → Prop} (hh : c.A.handled = none)
    (h : Tri c (eval value e) (fun v m' n' => ∃ tp x y, v = .ref tp ∧ (tp, TP [x, y]) ∈ n' ∧ Tri c (storeName e b y) (fun _ => Tri c (storeName e a x) (fun _ => R .next)) m' n') m n)
    (h1 : swapsWithSole [.Tuple [.Name a pa, .Name b pb] k tpos] value pos.line e = Pure.pure false) (h2 : swappedStores [.Tuple [.Name a pa, .Name b pb] k tpos] value e = Pure.pure (some [a, b])) :
    Tri c (exec (.Assign [.Tuple [.Name a pa, .Name b pb] k tpos] value pos) e) R m n := by
  intro fr g s Q E hA F N D hQ
  refine Assign_Tuple_swapped (names := [a, b]) (h fr g s _ E hA F N D fun v s1 m1 n1 S1 h1 F1 N1 D1 => ?_) h1 h2
  obtain ⟨tp, x, y, rfl, hm, h3⟩ := h1
  refine unpackItemsN_ F1 N1 (N1.isTup (List.mem_append_left _ hm)) hh rfl fun h' F2 N2 => ?_
  refine assignInOrder_cons (bindName_ (h3 fr g { s1 with heap := h' } _ E hA F2 N2 D1 fun _ s3 m3 n3 S3 h4 F3 N3 D3 => ?_))
  refine assignInOrder_cons (bindName_ (h4 fr g s3 _ E hA F3 N3 D3 fun _ s4 m4 n4 S4 h5 F4 N4 D4 => ?_))
  exact assignInOrder_nil (hQ _ s4 m4 n4 (S1.trans (Sim.trans ⟨_, _, rfl⟩ (S3.trans S4))) h5 F4 N4 D4)
theorem Tri.assignPair {a b : Str} {pa pb tpos pos : Pos} {k : Nat} {value : Expr} {R : Flow → FM → Led → Prop} (hh : c.A.handled = none)
    (h : Tri c (eval value e) (fun v m' n' => ∃ tp x y, v = .ref tp ∧ (tp, TP [x, y]) ∈ n' ∧ Tri c (storeName e a x) (fun _ => Tri c (storeName e b y) (fun _ => R .next)) m' n') m n)
    (h1 : swapsWithSole [.Tuple [.Name a pa, .Name b pb] k tpos] value pos.line e = Pure.pure false) (h2 : swappedStores [.Tuple [.Name a pa, .Name b pb] k tpos] value e = Pure.pure none) :
    Tri c (exec (.Assign [.Tuple [.Name a pa, .Name b pb] k tpos] value pos) e) R m n := by
  intro fr g s Q E hA F N D hQ
  refine Assign_Tuple (h fr g s _ E hA F N D fun v s1 m1 n1 S1 h1 F1 N1 D1 => ?_) h1 h2
  obtain ⟨tp, x, y, rfl, hm, h3⟩ := h1
  refine unpackN_ F1 N1 (N1.isTup (List.mem_append_left _ hm)) hh rfl rfl fun h' F2 N2 => ?_
  refine assignInOrder_cons (PyProof.Rows.assign_Name (h3 fr g { s1 with heap := h' } _ E hA F2 N2 D1 fun _ s3 m3 n3 S3 h4 F3 N3 D3 => ?_))
  refine assignInOrder_cons (PyProof.Rows.assign_Name (h4 fr g s3 _ E hA F3 N3 D3 fun _ s4 m4 n4 S4 h5 F4 N4 D4 => ?_))
  exact assignInOrder_nil (hQ _ s4 m4 n4 (S1.trans (Sim.trans ⟨_, _, rfl⟩ (S3.trans S4))) h5 F4 N4 D4)
theorem Tri.storeC {x : Str} {v : Value} {a : Addr} {o : Obj} {v₀ : Option Value} {pre post : Led} {R : Unit → FM → Led → Prop} (hc : c.env.cells.lookup x = some a) (hd : o.data = .cell v₀)
    (h : ∀ o', o'.data = .cell (some v) → R () m (pre ++ (a, o') :: post)) (hk : c.env.scope.kind = .function := by rfl) (hx : c.env.kindOf x = some .cell := by rfl) : Tri c (storeName c.env x v) R m (pre ++ (a, o) :: post) := by
  intro fr g s Q E hA F N D hQ
  rw [List.append_assoc, List.cons_append] at N D
  obtain ⟨o1, o2⟩ := D.off
  have hmem := N (a, o) (List.mem_append_right _ (.head _))
  refine wpAny_storeName_cell hk hx hc ⟨o, hmem.1, hd⟩ fun h' hv hs => ?_
  obtain ⟨o', ho', hd'⟩ := hv
  refine hQ _ _ m _ ⟨_, _, rfl⟩ (h o' hd') (F.change hs hmem.2.1 hmem.2.2) ?_ ?_
  · rw [List.append_assoc, List.cons_append]
    exact news_set N o1 o2 hs ho'
  · rw [List.append_assoc, List.cons_append]
    exact D.upd
end

def frL : List Str → List (Option Value) → FM
  | x :: xs, v :: vs => fun y => if y = x then v else frL xs vs y
  | _, _ => fun _ => none
theorem frL_get : ∀ (i : Nat) {xs : List Str} {vs : List (Option Value)} {x : Str} {v : Option Value}, xs[i]? = some x → xs.Nodup → vs[i]? = some v → frL xs vs x = v
  | 0, y :: xs, w :: vs, x, v, h1, _, h3 => by
    simp only [List.getElem?_cons_zero, Option.some.injEq] at h1 h3
    subst h1; subst h3
    simp [frL]
  | i + 1, y :: xs, w :: vs, x, v, h1, h2, h3 => by
    simp only [List.getElem?_cons_succ] at h1 h3
    have hne : x ≠ y := fun q => (List.nodup_cons.mp h2).1 (q ▸ List.mem_of_getElem? h1)
    simp only [frL, if_neg hne]
    exact frL_get i h1 (List.nodup_cons.mp h2).2 h3
  | _, [], _, _, _, h1, _, _ => by simp at h1
  | _, _ :: _, [], _, _, _, _, h3 => by simp at h3
theorem frL_put : ∀ (i : Nat) {xs : List Str} {vs ws : List (Option Value)} {x : Str} {v : Value}, xs[i]? = some x → xs.Nodup → i < vs.length → vs.set i (some v) = ws → put (frL xs vs) x v = frL xs ws
  | 0, y :: xs, w :: vs, ws, x, v, h1, _, _, h3 => by
    simp only [List.getElem?_cons_zero, Option.some.injEq] at h1
    subst h1; subst h3
    funext z
    simp only [put, List.set_cons_zero, frL]
    split <;> rfl
  | i + 1, y :: xs, w :: vs, ws, x, v, h1, h2, h3, h4 => by
    simp only [List.getElem?_cons_succ] at h1
    subst h4
    have hne : x ≠ y := fun q => (List.nodup_cons.mp h2).1 (q ▸ List.mem_of_getElem? h1)
    have ih := frL_put i h1 (List.nodup_cons.mp h2).2 (by simpa using h3) (rfl : vs.set i (some v) = _)
    funext z
    have ihz := congrFun ih z
    simp only [put, List.set_cons_succ, frL] at ihz ⊢
    by_cases hz : z = y
    · subst hz
      rw [if_neg (fun q => hne q.symm), if_pos rfl, if_pos rfl]
    · rw [if_neg hz, if_neg hz]
      exact ihz
  | _, [], _, _, _, _, h1, _, _, _ => by simp at h1
  | _, _ :: _, [], _, _, _, _, _, h3, _ => by simp at h3

def nm_ctoi : List Str := [Str.ofString "c"]
theorem nd_ctoi : nm_ctoi.Nodup := by decide +kernel
theorem g_ctoi_c {u : Value} : frL nm_ctoi [some u] (Str.ofString "c") = some u := frL_get 0 rfl nd_ctoi rfl
theorem p_ctoi_c {v0 : Option Value} {u : Value} : put (frL nm_ctoi [v0]) (Str.ofString "c") u = frL nm_ctoi [some u] := frL_put 0 rfl nd_ctoi (by simp) rfl
def nm_isp : List Str := [Str.ofString "c"]
theorem nd_isp : nm_isp.Nodup := by decide +kernel
theorem g_isp_c {u : Value} : frL nm_isp [some u] (Str.ofString "c") = some u := frL_get 0 rfl nd_isp rfl
theorem p_isp_c {v0 : Option Value} {u : Value} : put (frL nm_isp [v0]) (Str.ofString "c") u = frL nm_isp [some u] := frL_put 0 rfl nd_isp (by simp) rfl
def nm_ctrl : List Str := [Str.ofString "c"]
theorem nd_ctrl : nm_ctrl.Nodup := by decide +kernel
theorem g_ctrl_c {u : Value} : frL nm_ctrl [some u] (Str.ofString "c") = some u := frL_get 0 rfl nd_ctrl rfl
theorem p_ctrl_c {v0 : Option Value} {u : Value} : put (frL nm_ctrl [v0]) (Str.ofString "c") u = frL nm_ctrl [some u] := frL_put 0 rfl nd_ctrl (by simp) rfl
def nm_unc : List Str := [Str.ofString "c", Str.ofString "bits", Str.ofString "rep"]
theorem nd_unc : nm_unc.Nodup := by decide +kernel
theorem g_unc_c {v1 v2 : Option Value} {u : Value} : frL nm_unc [some u, v1, v2] (Str.ofString "c") = some u := frL_get 0 rfl nd_unc rfl
theorem p_unc_c {v0 v1 v2 : Option Value} {u : Value} : put (frL nm_unc [v0, v1, v2]) (Str.ofString "c") u = frL nm_unc [some u, v1, v2] := frL_put 0 rfl nd_unc (by simp) rfl
theorem g_unc_bits {v0 v2 : Option Value} {u : Value} : frL nm_unc [v0, some u, v2] (Str.ofString "bits") = some u := frL_get 1 rfl nd_unc rfl
theorem p_unc_bits {v0 v1 v2 : Option Value} {u : Value} : put (frL nm_unc [v0, v1, v2]) (Str.ofString "bits") u = frL nm_unc [v0, some u, v2] := frL_put 1 rfl nd_unc (by simp) rfl
theorem g_unc_rep {v0 v1 : Option Value} {u : Value} : frL nm_unc [v0, v1, some u] (Str.ofString "rep") = some u := frL_get 2 rfl nd_unc rfl
theorem p_unc_rep {v0 v1 v2 : Option Value} {u : Value} : put (frL nm_unc [v0, v1, v2]) (Str.ofString "rep") u = frL nm_unc [v0, v1, some u] := frL_put 2 rfl nd_unc (by simp) rfl
def nm_quo : List Str := [Str.ofString "data"]
theorem nd_quo : nm_quo.Nodup := by decide +kernel
theorem g_quo_data {u : Value} : frL nm_quo [some u] (Str.ofString "data") = some u := frL_get 0 rfl nd_quo rfl
theorem p_quo_data {v0 : Option Value} {u : Value} : put (frL nm_quo [v0]) (Str.ofString "data") u = frL nm_quo [some u] := frL_put 0 rfl nd_quo (by simp) rfl
def nm_codes : List Str := [Str.ofString "script", Str.ofString "tempting", Str.ofString "codes", Str.ofString "x", Str.ofString "kind", Str.ofString "rest"]
theorem nd_codes : nm_codes.Nodup := by decide +kernel
theorem g_codes_script {v1 v2 v3 v4 v5 : Option Value} {u : Value} : frL nm_codes [some u, v1, v2, v3, v4, v5] (Str.ofString "script") = some u := frL_get 0 rfl nd_codes rfl
theorem p_codes_script {v0 v1 v2 v3 v4 v5 : Option Value} {u : Value} : put (frL nm_codes [v0, v1, v2, v3, v4, v5]) (Str.ofString "script") u = frL nm_codes [some u, v1, v2, v3, v4, v5] := frL_put 0 rfl nd_codes (by simp) rfl
theorem g_codes_tempting {v0 v2 v3 v4 v5 : Option Value} {u : Value} : frL nm_codes [v0, some u, v2, v3, v4, v5] (Str.ofString "tempting") = some u := frL_get 1 rfl nd_codes rfl
theorem p_codes_tempting {v0 v1 v2 v3 v4 v5 : Option Value} {u : Value} : put (frL nm_codes [v0, v1, v2, v3, v4, v5]) (Str.ofString "tempting") u = frL nm_codes [v0, some u, v2, v3, v4, v5] := frL_put 1 rfl nd_codes (by simp) rfl
theorem g_codes_codes {v0 v1 v3 v4 v5 : Option Value} {u : Value} : frL nm_codes [v0, v1, some u, v3, v4, v5] (Str.ofString "codes") = some u := frL_get 2 rfl nd_codes rfl
theorem p_codes_codes {v0 v1 v2 v3 v4 v5 : Option Value} {u : Value} : put (frL nm_codes [v0, v1, v2, v3, v4, v5]) (Str.ofString "codes") u = frL nm_codes [v0, v1, some u, v3, v4, v5] := frL_put 2 rfl nd_codes (by simp) rfl
theorem g_codes_x {v0 v1 v2 v4 v5 : Option Value} {u : Value} : frL nm_codes [v0, v1, v2, some u, v4, v5] (Str.ofString "x") = some u := frL_get 3 rfl nd_codes rfl
theorem p_codes_x {v0 v1 v2 v3 v4 v5 : Option Value} {u : Value} : put (frL nm_codes [v0, v1, v2, v3, v4, v5]) (Str.ofString "x") u = frL nm_codes [v0, v1, v2, some u, v4, v5] := frL_put 3 rfl nd_codes (by simp) rfl
theorem g_codes_kind {v0 v1 v2 v3 v5 : Option Value} {u : Value} : frL nm_codes [v0, v1, v2, v3, some u, v5] (Str.ofString "kind") = some u := frL_get 4 rfl nd_codes rfl
theorem p_codes_kind {v0 v1 v2 v3 v4 v5 : Option Value} {u : Value} : put (frL nm_codes [v0, v1, v2, v3, v4, v5]) (Str.ofString "kind") u = frL nm_codes [v0, v1, v2, v3, some u, v5] := frL_put 4 rfl nd_codes (by simp) rfl
theorem g_codes_rest {v0 v1 v2 v3 v4 : Option Value} {u : Value} : frL nm_codes [v0, v1, v2, v3, v4, some u] (Str.ofString "rest") = some u := frL_get 5 rfl nd_codes rfl
theorem p_codes_rest {v0 v1 v2 v3 v4 v5 : Option Value} {u : Value} : put (frL nm_codes [v0, v1, v2, v3, v4, v5]) (Str.ofString "rest") u = frL nm_codes [v0, v1, v2, v3, v4, some u] := frL_put 5 rfl nd_codes (by simp) rfl
def nm_rounds : List Str := [Str.ofString "first", Str.ofString "second", Str.ofString "marks"]
theorem nd_rounds : nm_rounds.Nodup := by decide +kernel
theorem g_rounds_first {v1 v2 : Option Value} {u : Value} : frL nm_rounds [some u, v1, v2] (Str.ofString "first") = some u := frL_get 0 rfl nd_rounds rfl
theorem p_rounds_first {v0 v1 v2 : Option Value} {u : Value} : put (frL nm_rounds [v0, v1, v2]) (Str.ofString "first") u = frL nm_rounds [some u, v1, v2] := frL_put 0 rfl nd_rounds (by simp) rfl
theorem g_rounds_second {v0 v2 : Option Value} {u : Value} : frL nm_rounds [v0, some u, v2] (Str.ofString "second") = some u := frL_get 1 rfl nd_rounds rfl
theorem p_rounds_second {v0 v1 v2 : Option Value} {u : Value} : put (frL nm_rounds [v0, v1, v2]) (Str.ofString "second") u = frL nm_rounds [v0, some u, v2] := frL_put 1 rfl nd_rounds (by simp) rfl
theorem g_rounds_marks {v0 v1 : Option Value} {u : Value} : frL nm_rounds [v0, v1, some u] (Str.ofString "marks") = some u := frL_get 2 rfl nd_rounds rfl
theorem p_rounds_marks {v0 v1 v2 : Option Value} {u : Value} : put (frL nm_rounds [v0, v1, v2]) (Str.ofString "marks") u = frL nm_rounds [v0, v1, some u] := frL_put 2 rfl nd_rounds (by simp) rfl
def nm_sent : List Str := [Str.ofString "codes", Str.ofString "sent", Str.ofString "before", Str.ofString "code"]
theorem nd_sent : nm_sent.Nodup := by decide +kernel
theorem g_sent_codes {v1 v2 v3 : Option Value} {u : Value} : frL nm_sent [some u, v1, v2, v3] (Str.ofString "codes") = some u := frL_get 0 rfl nd_sent rfl
theorem p_sent_codes {v0 v1 v2 v3 : Option Value} {u : Value} : put (frL nm_sent [v0, v1, v2, v3]) (Str.ofString "codes") u = frL nm_sent [some u, v1, v2, v3] := frL_put 0 rfl nd_sent (by simp) rfl
theorem g_sent_sent {v0 v2 v3 : Option Value} {u : Value} : frL nm_sent [v0, some u, v2, v3] (Str.ofString "sent") = some u := frL_get 1 rfl nd_sent rfl
theorem p_sent_sent {v0 v1 v2 v3 : Option Value} {u : Value} : put (frL nm_sent [v0, v1, v2, v3]) (Str.ofString "sent") u = frL nm_sent [v0, some u, v2, v3] := frL_put 1 rfl nd_sent (by simp) rfl
theorem g_sent_before {v0 v1 v3 : Option Value} {u : Value} : frL nm_sent [v0, v1, some u, v3] (Str.ofString "before") = some u := frL_get 2 rfl nd_sent rfl
theorem p_sent_before {v0 v1 v2 v3 : Option Value} {u : Value} : put (frL nm_sent [v0, v1, v2, v3]) (Str.ofString "before") u = frL nm_sent [v0, v1, some u, v3] := frL_put 2 rfl nd_sent (by simp) rfl
theorem g_sent_code {v0 v1 v2 : Option Value} {u : Value} : frL nm_sent [v0, v1, v2, some u] (Str.ofString "code") = some u := frL_get 3 rfl nd_sent rfl
theorem p_sent_code {v0 v1 v2 v3 : Option Value} {u : Value} : put (frL nm_sent [v0, v1, v2, v3]) (Str.ofString "code") u = frL nm_sent [v0, v1, v2, some u] := frL_put 3 rfl nd_sent (by simp) rfl
def nm_look : List Str := [Str.ofString "code", Str.ofString "low", Str.ofString "ahead"]
theorem nd_look : nm_look.Nodup := by decide +kernel
theorem g_look_code {v1 v2 : Option Value} {u : Value} : frL nm_look [some u, v1, v2] (Str.ofString "code") = some u := frL_get 0 rfl nd_look rfl
theorem p_look_code {v0 v1 v2 : Option Value} {u : Value} : put (frL nm_look [v0, v1, v2]) (Str.ofString "code") u = frL nm_look [some u, v1, v2] := frL_put 0 rfl nd_look (by simp) rfl
theorem g_look_low {v0 v2 : Option Value} {u : Value} : frL nm_look [v0, some u, v2] (Str.ofString "low") = some u := frL_get 1 rfl nd_look rfl
theorem p_look_low {v0 v1 v2 : Option Value} {u : Value} : put (frL nm_look [v0, v1, v2]) (Str.ofString "low") u = frL nm_look [v0, some u, v2] := frL_put 1 rfl nd_look (by simp) rfl
theorem g_look_ahead {v0 v1 : Option Value} {u : Value} : frL nm_look [v0, v1, some u] (Str.ofString "ahead") = some u := frL_get 2 rfl nd_look rfl
theorem p_look_ahead {v0 v1 v2 : Option Value} {u : Value} : put (frL nm_look [v0, v1, v2]) (Str.ofString "ahead") u = frL nm_look [v0, v1, some u] := frL_put 2 rfl nd_look (by simp) rfl
def nm_halves : List Str := [Str.ofString "a", Str.ofString "rests", Str.ofString "parts", Str.ofString "k", Str.ofString "carets", Str.ofString "least", Str.ofString "rest", Str.ofString "cut"]
theorem nd_halves : nm_halves.Nodup := by decide +kernel
theorem g_halves_a {v1 v2 v3 v4 v5 v6 v7 : Option Value} {u : Value} : frL nm_halves [some u, v1, v2, v3, v4, v5, v6, v7] (Str.ofString "a") = some u := frL_get 0 rfl nd_halves rfl
theorem p_halves_a {v0 v1 v2 v3 v4 v5 v6 v7 : Option Value} {u : Value} : put (frL nm_halves [v0, v1, v2, v3, v4, v5, v6, v7]) (Str.ofString "a") u = frL nm_halves [some u, v1, v2, v3, v4, v5, v6, v7] := frL_put 0 rfl nd_halves (by simp) rfl
theorem g_halves_rests {v0 v2 v3 v4 v5 v6 v7 : Option Value} {u : Value} : frL nm_halves [v0, some u, v2, v3, v4, v5, v6, v7] (Str.ofString "rests") = some u := frL_get 1 rfl nd_halves rfl
theorem p_halves_rests {v0 v1 v2 v3 v4 v5 v6 v7 : Option Value} {u : Value} : put (frL nm_halves [v0, v1, v2, v3, v4, v5, v6, v7]) (Str.ofString "rests") u = frL nm_halves [v0, some u, v2, v3, v4, v5, v6, v7] := frL_put 1 rfl nd_halves (by simp) rfl
theorem g_halves_parts {v0 v1 v3 v4 v5 v6 v7 : Option Value} {u : Value} : frL nm_halves [v0, v1, some u, v3, v4, v5, v6, v7] (Str.ofString "parts") = some u := frL_get 2 rfl nd_halves rfl
theorem p_halves_parts {v0 v1 v2 v3 v4 v5 v6 v7 : Option Value} {u : Value} : put (frL nm_halves [v0, v1, v2, v3, v4, v5, v6, v7]) (Str.ofString "parts") u = frL nm_halves [v0, v1, some u, v3, v4, v5, v6, v7] := frL_put 2 rfl nd_halves (by simp) rfl
theorem g_halves_k {v0 v1 v2 v4 v5 v6 v7 : Option Value} {u : Value} : frL nm_halves [v0, v1, v2, some u, v4, v5, v6, v7] (Str.ofString "k") = some u := frL_get 3 rfl nd_halves rfl
theorem p_halves_k {v0 v1 v2 v3 v4 v5 v6 v7 : Option Value} {u : Value} : put (frL nm_halves [v0, v1, v2, v3, v4, v5, v6, v7]) (Str.ofString "k") u = frL nm_halves [v0, v1, v2, some u, v4, v5, v6, v7] := frL_put 3 rfl nd_halves (by simp) rfl
theorem g_halves_carets {v0 v1 v2 v3 v5 v6 v7 : Option Value} {u : Value} : frL nm_halves [v0, v1, v2, v3, some u, v5, v6, v7] (Str.ofString "carets") = some u := frL_get 4 rfl nd_halves rfl
theorem p_halves_carets {v0 v1 v2 v3 v4 v5 v6 v7 : Option Value} {u : Value} : put (frL nm_halves [v0, v1, v2, v3, v4, v5, v6, v7]) (Str.ofString "carets") u = frL nm_halves [v0, v1, v2, v3, some u, v5, v6, v7] := frL_put 4 rfl nd_halves (by simp) rfl
theorem g_halves_least {v0 v1 v2 v3 v4 v6 v7 : Option Value} {u : Value} : frL nm_halves [v0, v1, v2, v3, v4, some u, v6, v7] (Str.ofString "least") = some u := frL_get 5 rfl nd_halves rfl
theorem p_halves_least {v0 v1 v2 v3 v4 v5 v6 v7 : Option Value} {u : Value} : put (frL nm_halves [v0, v1, v2, v3, v4, v5, v6, v7]) (Str.ofString "least") u = frL nm_halves [v0, v1, v2, v3, v4, some u, v6, v7] := frL_put 5 rfl nd_halves (by simp) rfl
theorem g_halves_rest {v0 v1 v2 v3 v4 v5 v7 : Option Value} {u : Value} : frL nm_halves [v0, v1, v2, v3, v4, v5, some u, v7] (Str.ofString "rest") = some u := frL_get 6 rfl nd_halves rfl
theorem p_halves_rest {v0 v1 v2 v3 v4 v5 v6 v7 : Option Value} {u : Value} : put (frL nm_halves [v0, v1, v2, v3, v4, v5, v6, v7]) (Str.ofString "rest") u = frL nm_halves [v0, v1, v2, v3, v4, v5, some u, v7] := frL_put 6 rfl nd_halves (by simp) rfl
theorem g_halves_cut {v0 v1 v2 v3 v4 v5 v6 : Option Value} {u : Value} : frL nm_halves [v0, v1, v2, v3, v4, v5, v6, some u] (Str.ofString "cut") = some u := frL_get 7 rfl nd_halves rfl
theorem p_halves_cut {v0 v1 v2 v3 v4 v5 v6 v7 : Option Value} {u : Value} : put (frL nm_halves [v0, v1, v2, v3, v4, v5, v6, v7]) (Str.ofString "cut") u = frL nm_halves [v0, v1, v2, v3, v4, v5, v6, some u] := frL_put 7 rfl nd_halves (by simp) rfl
def nm_more : List Str := [Str.ofString "sign", Str.ofString "marks", Str.ofString "more", Str.ofString "mark"]
theorem nd_more : nm_more.Nodup := by decide +kernel
theorem g_more_sign {v1 v2 v3 : Option Value} {u : Value} : frL nm_more [some u, v1, v2, v3] (Str.ofString "sign") = some u := frL_get 0 rfl nd_more rfl
theorem p_more_sign {v0 v1 v2 v3 : Option Value} {u : Value} : put (frL nm_more [v0, v1, v2, v3]) (Str.ofString "sign") u = frL nm_more [some u, v1, v2, v3] := frL_put 0 rfl nd_more (by simp) rfl
theorem g_more_marks {v0 v2 v3 : Option Value} {u : Value} : frL nm_more [v0, some u, v2, v3] (Str.ofString "marks") = some u := frL_get 1 rfl nd_more rfl
theorem p_more_marks {v0 v1 v2 v3 : Option Value} {u : Value} : put (frL nm_more [v0, v1, v2, v3]) (Str.ofString "marks") u = frL nm_more [v0, some u, v2, v3] := frL_put 1 rfl nd_more (by simp) rfl
theorem g_more_more {v0 v1 v3 : Option Value} {u : Value} : frL nm_more [v0, v1, some u, v3] (Str.ofString "more") = some u := frL_get 2 rfl nd_more rfl
theorem p_more_more {v0 v1 v2 v3 : Option Value} {u : Value} : put (frL nm_more [v0, v1, v2, v3]) (Str.ofString "more") u = frL nm_more [v0, v1, some u, v3] := frL_put 2 rfl nd_more (by simp) rfl
theorem g_more_mark {v0 v1 v2 : Option Value} {u : Value} : frL nm_more [v0, v1, v2, some u] (Str.ofString "mark") = some u := frL_get 3 rfl nd_more rfl
theorem p_more_mark {v0 v1 v2 v3 : Option Value} {u : Value} : put (frL nm_more [v0, v1, v2, v3]) (Str.ofString "mark") u = frL nm_more [v0, v1, v2, some u] := frL_put 3 rfl nd_more (by simp) rfl
def nm_grown : List Str := [Str.ofString "shown", Str.ofString "halves", Str.ofString "marks", Str.ofString "grown", Str.ofString "place", Str.ofString "sign"]
theorem nd_grown : nm_grown.Nodup := by decide +kernel
theorem g_grown_shown {v1 v2 v3 v4 v5 : Option Value} {u : Value} : frL nm_grown [some u, v1, v2, v3, v4, v5] (Str.ofString "shown") = some u := frL_get 0 rfl nd_grown rfl
theorem p_grown_shown {v0 v1 v2 v3 v4 v5 : Option Value} {u : Value} : put (frL nm_grown [v0, v1, v2, v3, v4, v5]) (Str.ofString "shown") u = frL nm_grown [some u, v1, v2, v3, v4, v5] := frL_put 0 rfl nd_grown (by simp) rfl
theorem g_grown_halves {v0 v2 v3 v4 v5 : Option Value} {u : Value} : frL nm_grown [v0, some u, v2, v3, v4, v5] (Str.ofString "halves") = some u := frL_get 1 rfl nd_grown rfl
theorem p_grown_halves {v0 v1 v2 v3 v4 v5 : Option Value} {u : Value} : put (frL nm_grown [v0, v1, v2, v3, v4, v5]) (Str.ofString "halves") u = frL nm_grown [v0, some u, v2, v3, v4, v5] := frL_put 1 rfl nd_grown (by simp) rfl
theorem g_grown_marks {v0 v1 v3 v4 v5 : Option Value} {u : Value} : frL nm_grown [v0, v1, some u, v3, v4, v5] (Str.ofString "marks") = some u := frL_get 2 rfl nd_grown rfl
theorem p_grown_marks {v0 v1 v2 v3 v4 v5 : Option Value} {u : Value} : put (frL nm_grown [v0, v1, v2, v3, v4, v5]) (Str.ofString "marks") u = frL nm_grown [v0, v1, some u, v3, v4, v5] := frL_put 2 rfl nd_grown (by simp) rfl
theorem g_grown_grown {v0 v1 v2 v4 v5 : Option Value} {u : Value} : frL nm_grown [v0, v1, v2, some u, v4, v5] (Str.ofString "grown") = some u := frL_get 3 rfl nd_grown rfl
theorem p_grown_grown {v0 v1 v2 v3 v4 v5 : Option Value} {u : Value} : put (frL nm_grown [v0, v1, v2, v3, v4, v5]) (Str.ofString "grown") u = frL nm_grown [v0, v1, v2, some u, v4, v5] := frL_put 3 rfl nd_grown (by simp) rfl
theorem g_grown_place {v0 v1 v2 v3 v5 : Option Value} {u : Value} : frL nm_grown [v0, v1, v2, v3, some u, v5] (Str.ofString "place") = some u := frL_get 4 rfl nd_grown rfl
theorem p_grown_place {v0 v1 v2 v3 v4 v5 : Option Value} {u : Value} : put (frL nm_grown [v0, v1, v2, v3, v4, v5]) (Str.ofString "place") u = frL nm_grown [v0, v1, v2, v3, some u, v5] := frL_put 4 rfl nd_grown (by simp) rfl
theorem g_grown_sign {v0 v1 v2 v3 v4 : Option Value} {u : Value} : frL nm_grown [v0, v1, v2, v3, v4, some u] (Str.ofString "sign") = some u := frL_get 5 rfl nd_grown rfl
theorem p_grown_sign {v0 v1 v2 v3 v4 v5 : Option Value} {u : Value} : put (frL nm_grown [v0, v1, v2, v3, v4, v5]) (Str.ofString "sign") u = frL nm_grown [v0, v1, v2, v3, v4, some u] := frL_put 5 rfl nd_grown (by simp) rfl
def nm_law : List Str := [Str.ofString "script", Str.ofString "codes", Str.ofString "total", Str.ofString "first", Str.ofString "second", Str.ofString "common", Str.ofString "marks", Str.ofString "due", Str.ofString "sent", Str.ofString "told", Str.ofString "mark", Str.ofString "typed", Str.ofString "shown"]
theorem nd_law : nm_law.Nodup := by decide +kernel
theorem g_law_script {v1 v2 v3 v4 v5 v6 v7 v8 v9 v10 v11 v12 : Option Value} {u : Value} : frL nm_law [some u, v1, v2, v3, v4, v5, v6, v7, v8, v9, v10, v11, v12] (Str.ofString "script") = some u := frL_get 0 rfl nd_law rfl
theorem p_law_script {v0 v1 v2 v3 v4 v5 v6 v7 v8 v9 v10 v11 v12 : Option Value} {u : Value} : put (frL nm_law [v0, v1, v2, v3, v4, v5, v6, v7, v8, v9, v10, v11, v12]) (Str.ofString "script") u = frL nm_law [some u, v1, v2, v3, v4, v5, v6, v7, v8, v9, v10, v11, v12] := frL_put 0 rfl nd_law (by simp) rfl
theorem g_law_codes {v0 v2 v3 v4 v5 v6 v7 v8 v9 v10 v11 v12 : Option Value} {u : Value} : frL nm_law [v0, some u, v2, v3, v4, v5, v6, v7, v8, v9, v10, v11, v12] (Str.ofString "codes") = some u := frL_get 1 rfl nd_law rfl
theorem p_law_codes {v0 v1 v2 v3 v4 v5 v6 v7 v8 v9 v10 v11 v12 : Option Value} {u : Value} : put (frL nm_law [v0, v1, v2, v3, v4, v5, v6, v7, v8, v9, v10, v11, v12]) (Str.ofString "codes") u = frL nm_law [v0, some u, v2, v3, v4, v5, v6, v7, v8, v9, v10, v11, v12] := frL_put 1 rfl nd_law (by simp) rfl
theorem g_law_total {v0 v1 v3 v4 v5 v6 v7 v8 v9 v10 v11 v12 : Option Value} {u : Value} : frL nm_law [v0, v1, some u, v3, v4, v5, v6, v7, v8, v9, v10, v11, v12] (Str.ofString "total") = some u := frL_get 2 rfl nd_law rfl
theorem p_law_total {v0 v1 v2 v3 v4 v5 v6 v7 v8 v9 v10 v11 v12 : Option Value} {u : Value} : put (frL nm_law [v0, v1, v2, v3, v4, v5, v6, v7, v8, v9, v10, v11, v12]) (Str.ofString "total") u = frL nm_law [v0, v1, some u, v3, v4, v5, v6, v7, v8, v9, v10, v11, v12] := frL_put 2 rfl nd_law (by simp) rfl
theorem g_law_first {v0 v1 v2 v4 v5 v6 v7 v8 v9 v10 v11 v12 : Option Value} {u : Value} : frL nm_law [v0, v1, v2, some u, v4, v5, v6, v7, v8, v9, v10, v11, v12] (Str.ofString "first") = some u := frL_get 3 rfl nd_law rfl
theorem p_law_first {v0 v1 v2 v3 v4 v5 v6 v7 v8 v9 v10 v11 v12 : Option Value} {u : Value} : put (frL nm_law [v0, v1, v2, v3, v4, v5, v6, v7, v8, v9, v10, v11, v12]) (Str.ofString "first") u = frL nm_law [v0, v1, v2, some u, v4, v5, v6, v7, v8, v9, v10, v11, v12] := frL_put 3 rfl nd_law (by simp) rfl
theorem g_law_second {v0 v1 v2 v3 v5 v6 v7 v8 v9 v10 v11 v12 : Option Value} {u : Value} : frL nm_law [v0, v1, v2, v3, some u, v5, v6, v7, v8, v9, v10, v11, v12] (Str.ofString "second") = some u := frL_get 4 rfl nd_law rfl
theorem p_law_second {v0 v1 v2 v3 v4 v5 v6 v7 v8 v9 v10 v11 v12 : Option Value} {u : Value} : put (frL nm_law [v0, v1, v2, v3, v4, v5, v6, v7, v8, v9, v10, v11, v12]) (Str.ofString "second") u = frL nm_law [v0, v1, v2, v3, some u, v5, v6, v7, v8, v9, v10, v11, v12] := frL_put 4 rfl nd_law (by simp) rfl
theorem g_law_common {v0 v1 v2 v3 v4 v6 v7 v8 v9 v10 v11 v12 : Option Value} {u : Value} : frL nm_law [v0, v1, v2, v3, v4, some u, v6, v7, v8, v9, v10, v11, v12] (Str.ofString "common") = some u := frL_get 5 rfl nd_law rfl
theorem p_law_common {v0 v1 v2 v3 v4 v5 v6 v7 v8 v9 v10 v11 v12 : Option Value} {u : Value} : put (frL nm_law [v0, v1, v2, v3, v4, v5, v6, v7, v8, v9, v10, v11, v12]) (Str.ofString "common") u = frL nm_law [v0, v1, v2, v3, v4, some u, v6, v7, v8, v9, v10, v11, v12] := frL_put 5 rfl nd_law (by simp) rfl
theorem g_law_marks {v0 v1 v2 v3 v4 v5 v7 v8 v9 v10 v11 v12 : Option Value} {u : Value} : frL nm_law [v0, v1, v2, v3, v4, v5, some u, v7, v8, v9, v10, v11, v12] (Str.ofString "marks") = some u := frL_get 6 rfl nd_law rfl
theorem p_law_marks {v0 v1 v2 v3 v4 v5 v6 v7 v8 v9 v10 v11 v12 : Option Value} {u : Value} : put (frL nm_law [v0, v1, v2, v3, v4, v5, v6, v7, v8, v9, v10, v11, v12]) (Str.ofString "marks") u = frL nm_law [v0, v1, v2, v3, v4, v5, some u, v7, v8, v9, v10, v11, v12] := frL_put 6 rfl nd_law (by simp) rfl
theorem g_law_due {v0 v1 v2 v3 v4 v5 v6 v8 v9 v10 v11 v12 : Option Value} {u : Value} : frL nm_law [v0, v1, v2, v3, v4, v5, v6, some u, v8, v9, v10, v11, v12] (Str.ofString "due") = some u := frL_get 7 rfl nd_law rfl
theorem p_law_due {v0 v1 v2 v3 v4 v5 v6 v7 v8 v9 v10 v11 v12 : Option Value} {u : Value} : put (frL nm_law [v0, v1, v2, v3, v4, v5, v6, v7, v8, v9, v10, v11, v12]) (Str.ofString "due") u = frL nm_law [v0, v1, v2, v3, v4, v5, v6, some u, v8, v9, v10, v11, v12] := frL_put 7 rfl nd_law (by simp) rfl
theorem g_law_sent {v0 v1 v2 v3 v4 v5 v6 v7 v9 v10 v11 v12 : Option Value} {u : Value} : frL nm_law [v0, v1, v2, v3, v4, v5, v6, v7, some u, v9, v10, v11, v12] (Str.ofString "sent") = some u := frL_get 8 rfl nd_law rfl
theorem p_law_sent {v0 v1 v2 v3 v4 v5 v6 v7 v8 v9 v10 v11 v12 : Option Value} {u : Value} : put (frL nm_law [v0, v1, v2, v3, v4, v5, v6, v7, v8, v9, v10, v11, v12]) (Str.ofString "sent") u = frL nm_law [v0, v1, v2, v3, v4, v5, v6, v7, some u, v9, v10, v11, v12] := frL_put 8 rfl nd_law (by simp) rfl
theorem g_law_told {v0 v1 v2 v3 v4 v5 v6 v7 v8 v10 v11 v12 : Option Value} {u : Value} : frL nm_law [v0, v1, v2, v3, v4, v5, v6, v7, v8, some u, v10, v11, v12] (Str.ofString "told") = some u := frL_get 9 rfl nd_law rfl
theorem p_law_told {v0 v1 v2 v3 v4 v5 v6 v7 v8 v9 v10 v11 v12 : Option Value} {u : Value} : put (frL nm_law [v0, v1, v2, v3, v4, v5, v6, v7, v8, v9, v10, v11, v12]) (Str.ofString "told") u = frL nm_law [v0, v1, v2, v3, v4, v5, v6, v7, v8, some u, v10, v11, v12] := frL_put 9 rfl nd_law (by simp) rfl
theorem g_law_mark {v0 v1 v2 v3 v4 v5 v6 v7 v8 v9 v11 v12 : Option Value} {u : Value} : frL nm_law [v0, v1, v2, v3, v4, v5, v6, v7, v8, v9, some u, v11, v12] (Str.ofString "mark") = some u := frL_get 10 rfl nd_law rfl
theorem p_law_mark {v0 v1 v2 v3 v4 v5 v6 v7 v8 v9 v10 v11 v12 : Option Value} {u : Value} : put (frL nm_law [v0, v1, v2, v3, v4, v5, v6, v7, v8, v9, v10, v11, v12]) (Str.ofString "mark") u = frL nm_law [v0, v1, v2, v3, v4, v5, v6, v7, v8, v9, some u, v11, v12] := frL_put 10 rfl nd_law (by simp) rfl
theorem g_law_typed {v0 v1 v2 v3 v4 v5 v6 v7 v8 v9 v10 v12 : Option Value} {u : Value} : frL nm_law [v0, v1, v2, v3, v4, v5, v6, v7, v8, v9, v10, some u, v12] (Str.ofString "typed") = some u := frL_get 11 rfl nd_law rfl
theorem p_law_typed {v0 v1 v2 v3 v4 v5 v6 v7 v8 v9 v10 v11 v12 : Option Value} {u : Value} : put (frL nm_law [v0, v1, v2, v3, v4, v5, v6, v7, v8, v9, v10, v11, v12]) (Str.ofString "typed") u = frL nm_law [v0, v1, v2, v3, v4, v5, v6, v7, v8, v9, v10, some u, v12] := frL_put 11 rfl nd_law (by simp) rfl
theorem g_law_shown {v0 v1 v2 v3 v4 v5 v6 v7 v8 v9 v10 v11 : Option Value} {u : Value} : frL nm_law [v0, v1, v2, v3, v4, v5, v6, v7, v8, v9, v10, v11, some u] (Str.ofString "shown") = some u := frL_get 12 rfl nd_law rfl
theorem p_law_shown {v0 v1 v2 v3 v4 v5 v6 v7 v8 v9 v10 v11 v12 : Option Value} {u : Value} : put (frL nm_law [v0, v1, v2, v3, v4, v5, v6, v7, v8, v9, v10, v11, v12]) (Str.ofString "shown") u = frL nm_law [v0, v1, v2, v3, v4, v5, v6, v7, v8, v9, v10, v11, some u] := frL_put 12 rfl nd_law (by simp) rfl
theorem ns_ctoi (P : Params) : nsIn (hd.heap_39 P) mainGlobals (Str.ofString "_ctoi") = some (some (.ref 38)) := by rfl
theorem kp_ctoi (P : Params) : keepIn (hd.heap_39 P) (.ref 38) = true := by rfl
theorem nsisprint (P : Params) : nsIn (hd.heap_39 P) mainGlobals (Str.ofString "isprint") = some (some (.ref 45)) := by rfl
theorem kpisprint (P : Params) : keepIn (hd.heap_39 P) (.ref 45) = true := by rfl
theorem nsctrl (P : Params) : nsIn (hd.heap_39 P) mainGlobals (Str.ofString "ctrl") = some (some (.ref 52)) := by rfl
theorem kpctrl (P : Params) : keepIn (hd.heap_39 P) (.ref 52) = true := by rfl
theorem nsunctrl (P : Params) : nsIn (hd.heap_39 P) mainGlobals (Str.ofString "unctrl") = some (some (.ref 59)) := by rfl
theorem kpunctrl (P : Params) : keepIn (hd.heap_39 P) (.ref 59) = true := by rfl
theorem nsquotedata (P : Params) : nsIn (hd.heap_39 P) mainGlobals (Str.ofString "quotedata") = some (some (.ref 76)) := by rfl
theorem kpquotedata (P : Params) : keepIn (hd.heap_39 P) (.ref 76) = true := by rfl
theorem ns_law_codes (P : Params) : nsIn (hd.heap_39 P) mainGlobals (Str.ofString "_law_codes") = some (some (.ref 83)) := by rfl
theorem kp_law_codes (P : Params) : keepIn (hd.heap_39 P) (.ref 83) = true := by rfl
theorem ns_law_rounds (P : Params) : nsIn (hd.heap_39 P) mainGlobals (Str.ofString "_law_rounds") = some (some (.ref 90)) := by rfl
theorem kp_law_rounds (P : Params) : keepIn (hd.heap_39 P) (.ref 90) = true := by rfl
theorem ns_law_sent (P : Params) : nsIn (hd.heap_39 P) mainGlobals (Str.ofString "_law_sent") = some (some (.ref 97)) := by rfl
theorem kp_law_sent (P : Params) : keepIn (hd.heap_39 P) (.ref 97) = true := by rfl
theorem ns_law_look (P : Params) : nsIn (hd.heap_39 P) mainGlobals (Str.ofString "_law_look") = some (some (.ref 104)) := by rfl
theorem kp_law_look (P : Params) : keepIn (hd.heap_39 P) (.ref 104) = true := by rfl
theorem ns_law_halves (P : Params) : nsIn (hd.heap_39 P) mainGlobals (Str.ofString "_law_halves") = some (some (.ref 109)) := by rfl
theorem kp_law_halves (P : Params) : keepIn (hd.heap_39 P) (.ref 109) = true := by rfl
theorem ns_law_more (P : Params) : nsIn (hd.heap_39 P) mainGlobals (Str.ofString "_law_more") = some (some (.ref 116)) := by rfl
theorem kp_law_more (P : Params) : keepIn (hd.heap_39 P) (.ref 116) = true := by rfl
theorem ns_law_grown (P : Params) : nsIn (hd.heap_39 P) mainGlobals (Str.ofString "_law_grown") = some (some (.ref 123)) := by rfl
theorem kp_law_grown (P : Params) : keepIn (hd.heap_39 P) (.ref 123) = true := by rfl
theorem nsLF (P : Params) : nsIn (hd.heap_39 P) mainGlobals (Str.ofString "LF") = some (some (.int 10 284)) := by rfl
theorem nsCR (P : Params) : nsIn (hd.heap_39 P) mainGlobals (Str.ofString "CR") = some (some (.int 13 286)) := by rfl
theorem ns_twin_re_1 (P : Params) : nsIn (hd.heap_39 P) mainGlobals (Str.ofString "_twin_re_1") = some (some (.ref 64)) := by rfl
theorem ns_twin_re_2 (P : Params) : nsIn (hd.heap_39 P) mainGlobals (Str.ofString "_twin_re_2") = some (some (.ref 69)) := by rfl
theorem nsCRLF (P : Params) : nsIn (hd.heap_39 P) mainGlobals (Str.ofString "CRLF") = some (some (.str (Str.ofString "\x0d\n") 378)) := by rfl
theorem nsBisinstance (P : Params) : nsIn (hd.heap_39 P) mainGlobals (Str.ofString "isinstance") = some none := by rfl
theorem nsBstr (P : Params) : nsIn (hd.heap_39 P) mainGlobals (Str.ofString "str") = some none := by rfl
theorem nsBord (P : Params) : nsIn (hd.heap_39 P) mainGlobals (Str.ofString "ord") = some none := by rfl
theorem nsBchr (P : Params) : nsIn (hd.heap_39 P) mainGlobals (Str.ofString "chr") = some none := by rfl
theorem nsBlen (P : Params) : nsIn (hd.heap_39 P) mainGlobals (Str.ofString "len") = some none := by rfl
theorem nsBsum (P : Params) : nsIn (hd.heap_39 P) mainGlobals (Str.ofString "sum") = some none := by rfl
theorem nsBrange (P : Params) : nsIn (hd.heap_39 P) mainGlobals (Str.ofString "range") = some none := by rfl

local macro_rules | `(tactic| walk_at "boot") => `(tactic| first | exact boot_isinstance | exact PyProof.Rows.boot_str | exact boot_ord | exact boot_chr | exact boot_len | exact boot_sum | exact boot_range)
local macro_rules | `(tactic| walk_at "none") => `(tactic| first | exact nsBisinstance _ | exact nsBstr _ | exact nsBord _ | exact nsBchr _ | exact nsBlen _ | exact nsBsum _ | exact nsBrange _)
local macro_rules | `(tactic| walk_at "glob") => `(tactic| first | exact ns_ctoi _ | exact nsisprint _ | exact nsctrl _ | exact nsunctrl _ | exact nsquotedata _ | exact ns_law_codes _ | exact ns_law_rounds _ | exact ns_law_sent _ | exact ns_law_look _ | exact ns_law_halves _ | exact ns_law_more _ | exact ns_law_grown _ | exact nsLF _ | exact nsCR _ | exact ns_twin_re_1 _ | exact ns_twin_re_2 _ | exact nsCRLF _)
local macro_rules | `(tactic| walk_at "keep") => `(tactic| first | exact kp_ctoi _ | exact kpisprint _ | exact kpctrl _ | exact kpunctrl _ | exact kpquotedata _ | exact kp_law_codes _ | exact kp_law_rounds _ | exact kp_law_sent _ | exact kp_law_look _ | exact kp_law_halves _ | exact kp_law_more _ | exact kp_law_grown _)
local macro_rules | `(tactic| walk_at "r") => `(tactic| with_unfolding_all rfl)
local macro_rules | `(tactic| walk_at "d") => `(tactic| with_unfolding_all decide)
local macro_rules | `(tactic| walk_at "t") => `(tactic| with_reducible first
  | refine Tri.cons ?_
  | refine Tri.nil ?_
  | refine Tri.ret ?_
  | ((refine Tri.expr ?_ ?ta ?tb); (case ta => walk_at "r"); (case tb => walk_at "r"))
  | ((refine Tri.assign ?_ ?ta); (case ta => walk_at "r"))
  | ((refine' Tri.storeL ?tp ?_ ?ta ?tb); (case tp => walk_at "set"); (case ta => walk_at "r"); (case tb => walk_at "r"))
  | refine Tri.aug ?_
  | ((refine' Tri.loadL ?tg ?_ ?ta ?tb); (case tg => walk_at "get"); (case ta => walk_at "r"); (case tb => walk_at "r"))
  | refine Tri.if_ ?_
  | refine Tri.ifExp ?_
  | ((refine Tri.testCmp ?_ ?ta); (case ta => walk_at "r"))
  | refine Tri.testAndNil ?_
  | refine Tri.testOrNil ?_
  | refine Tri.testAnd ?_
  | refine Tri.testOr ?_
  | ((refine Tri.testPlain ?_ ?ta); (case ta => walk_at "r"))
  | ((refine Tri.cint ?_); intro _)
  | ((refine Tri.cstr ?_); intro _)
  | refine Tri.binOp ?_
  | refine Tri.unary ?_
  | ((refine Tri.negInt ?_); intro _)
  | ((refine Tri.gtInt ?_))
  | ((refine Tri.cmp ?_ ?ta); (case ta => walk_at "r"))
  | ((refine Tri.cmp2 ?_ ?ta); (case ta => walk_at "r"))
  | ((refine' Tri.nameL ?tg ?_ ?ta ?tb ?tc); (case tg => walk_at "get"); (case ta => walk_at "r"); (case tb => walk_at "r"); (case tc => walk_at "d"))
  | ((refine' Tri.nameG ?tg ?_ ?ta ?tb ?tc ?td); (case tg => walk_at "glob"); (case ta => walk_at "r"); (case tb => walk_at "r"); (case tc => walk_at "r"); (case td => walk_at "d"))
  | ((refine' Tri.nameB ?tg ?th ?_ ?ta ?tb ?tc ?td ?te ?tf); (case tg => walk_at "boot"); (case th => walk_at "none"); (case ta => walk_at "r"); (case tb => walk_at "r"); (case tc => walk_at "r"); (case td => walk_at "r"); (case te => walk_at "d"); (case tf => walk_at "d"))
  | ((refine' Tri.compG ?tg ?_ ?ta ?tb ?tc ?td); (case tg => walk_at "glob"); (case ta => walk_at "r"); (case tb => walk_at "r"); (case tc => walk_at "r"); (case td => walk_at "d"))
  | ((refine' Tri.compB ?tg ?th ?_ ?ta ?tb ?tc ?td ?te ?tf); (case tg => walk_at "boot"); (case th => walk_at "none"); (case ta => walk_at "r"); (case tb => walk_at "r"); (case tc => walk_at "r"); (case td => walk_at "r"); (case te => walk_at "d"); (case tf => walk_at "d"))
  | ((refine' Tri.meth ?_ ?ta); (case ta => walk_at "r"))
  | ((refine Tri.call_ ?_ ?ta); (case ta => walk_at "r"))
  | ((refine Tri.callK ?tg ?_ ?ta ?tb); (case tg => walk_at "keep"); (case ta => walk_at "r"); (case tb => walk_at "r"))
  | ((refine Tri.callB ?_ ?ta ?tb); (case ta => walk_at "r"); (case tb => walk_at "r"))
  | ((refine Tri.callT ?_ ?ta ?tb); (case ta => walk_at "r"); (case tb => walk_at "r"))
  | ((refine Tri.callM ?_ ?ta ?tb); (case ta => walk_at "r"); (case tb => walk_at "r"))
  | ((refine Tri.more ?_ ?ta); (case ta => walk_at "r"))
  | refine Tri.noMore ?_
  | refine Tri.list ?_
  | refine Tri.tuple ?_
  | ((refine Tri.sliceRev ?_ ?ta); (case ta => (intro _ _; exact ⟨_, by walk_at "r"⟩)))
  | ((refine Tri.slice ?_ ?ta); (case ta => (intro _ _; walk_at "r")))
  | ((refine Tri.sub_ ?_))
  | ((refine Tri.addInt ?_); intro _)
  | ((refine Tri.subInt ?_); intro _)
  | ((refine Tri.and31 ?_); intro _)
  | ((refine Tri.and127 ?_); intro _)
  | ((refine Tri.and128 ?_); intro _)
  | ((refine Tri.andInt ?_); intro _)
  | ((refine Tri.iaddInt ?_); intro _)
  | ((refine Tri.isubInt ?_); intro _)
  | refine Tri.eqInt ?_
  | refine Tri.ltInt ?_
  | refine Tri.neInt ?_
  | refine Tri.leInt ?_
  | refine Tri.eqStr ?_
  | refine Tri.neStr ?_
  | refine Tri.inStr ?_
  | ((refine Tri.ord ?_); intro _)
  | refine Tri.truthyBool ?_
  | refine Tri.truthyInt ?_
  | refine Tri.isiStr ?_
  | refine Tri.isiInt ?_
  | refine Tri.mJoin ?_
  | refine Tri.partNone ?_
  | refine Tri.partSome ?_
  | refine ⟨fun _ => ?_, fun h => Bool.noConfusion h⟩
  | refine ⟨fun h => Bool.noConfusion h, fun _ => ?_⟩
  | refine ⟨_, rfl, ?_⟩
  | refine ⟨rfl, ?_⟩)


theorem initFr1 {x : Str} {v : Value} {xs : List Str} {k : Nat} : (fun y => ([(x, v)] : List (Str × Value)).reverse.lookup y) = frL (x :: xs) (some v :: List.replicate k none) := by
  funext y
  have hnone : ∀ (xs : List Str) (k : Nat), frL xs (List.replicate k none) y = none := by
    intro xs
    induction xs with
    | nil => intro k; cases k <;> rfl
    | cons a r ih =>
      intro k
      cases k with
      | zero => rfl
      | succ k => simp only [List.replicate_succ, frL, ih]; split <;> rfl
  simp only [List.reverse_cons, List.reverse_nil, List.nil_append, List.lookup_cons, List.lookup_nil, frL, hnone]
  by_cases h : y = x
  · subst h; simp
  · have : (y == x) = false := by simpa using h
    simp [h, this]

section
variable {c : Cx} {m : FM} {n : Led} {R : Value → FM → Led → Prop}

local macro_rules | `(tactic| walk_at "get") => `(tactic| first | exact g_ctoi_c | exact g_isp_c | exact g_ctrl_c | exact g_unc_c | exact g_unc_bits | exact g_unc_rep)
local macro_rules | `(tactic| walk_at "set") => `(tactic| first | exact p_unc_bits | exact p_unc_rep)
theorem ctoi_int {b : Int} {t : Tok} (hr : Room c 1) (h : ∀ t', R (.int b t') m n) : Tri c (call (.ref 38) [.int b t]) R m n := by
  refine Tri.enter (binds := [(Str.ofString "c", .int b t)]) (m₀ := frL nm_ctoi [some (.int b t)]) hr rfl rfl rfl rfl (initFr1 (k := 0)) (fun L' => ?_)
  repeat walk_at "t"
  exact h _
theorem ctoi_str {k : Nat} {t : Tok} (hr : Room c 1) (h : ∀ t', R (.int k t') m n) : Tri c (call (.ref 38) [.str ⟨#[k]⟩ t]) R m n := by
  refine Tri.enter (binds := [(Str.ofString "c", .str ⟨#[k]⟩ t)]) (m₀ := frL nm_ctoi [some (.str ⟨#[k]⟩ t)]) hr rfl rfl rfl rfl (initFr1 (k := 0)) (fun L' => ?_)
  repeat walk_at "t"
  exact h _
end


abbrev S (l : List Nat) : Str := ⟨l.toArray⟩
def isp (b : Int) : Bool := decide (32 ≤ b) && decide (b ≤ 126)
def unc (b : Int) : List Nat :=
  let rep := if b = 127 then [94, 63] else if isp (b % 128) then [(b % 128).toNat] else [94, ((if b % 128 / 32 % 2 = 1 then b % 128 else b % 128 + 32) + 32).toNat]
  if b / 128 % 2 = 1 then 33 :: rep else rep
section
variable {c : Cx} {m : FM} {n : Led} {R : Value → FM → Led → Prop}
local macro_rules | `(tactic| walk_at "get") => `(tactic| first | exact g_isp_c | exact g_ctrl_c | exact g_unc_c | exact g_unc_bits | exact g_unc_rep)
local macro_rules | `(tactic| walk_at "set") => `(tactic| first | exact p_unc_bits | exact p_unc_rep)
theorem isprint_int {b : Int} {t : Tok} (hr : Room c 2) (h : R (.bool (isp b)) m n) : Tri c (call (.ref 45) [.int b t]) R m n := by
  refine Tri.enter (binds := [(Str.ofString "c", .int b t)]) (m₀ := frL nm_isp [some (.int b t)]) (hr.less (by decide)) rfl rfl rfl rfl (initFr1 (k := 0)) (fun L' => ?_)
  repeat walk_at "t"
  refine ctoi_int (hr.into rfl rfl) fun _ => ?_
  repeat walk_at "t"
  refine ⟨fun hb => ?_, fun hb => ?_⟩
  · repeat walk_at "t"
    have e : isp b = decide (b ≤ 126) := by unfold isp; rw [hb]; rfl
    rw [e] at h
    exact h
  · have e : isp b = false := by unfold isp; rw [hb]; rfl
    rw [e] at h
    exact h
theorem ctrl_int {b : Int} {t : Tok} (hr : Room c 2) (h : ∀ t', R (.int (b % 32) t') m n) : Tri c (call (.ref 52) [.int b t]) R m n := by
  refine Tri.enter (binds := [(Str.ofString "c", .int b t)]) (m₀ := frL nm_ctrl [some (.int b t)]) (hr.less (by decide)) rfl rfl rfl rfl (initFr1 (k := 0)) (fun L' => ?_)
  repeat walk_at "t"
  refine ctoi_int (hr.into rfl rfl) fun _ => ?_
  repeat walk_at "t"
  exact h _
theorem ctrl_str {k : Nat} {t : Tok} (hr : Room c 2) (h : ∀ t', R (.str (S [k % 32]) t') m n) : Tri c (call (.ref 52) [.str (S [k]) t]) R m n := by
  refine Tri.enter (binds := [(Str.ofString "c", .str (S [k]) t)]) (m₀ := frL nm_ctrl [some (.str (S [k]) t)]) (hr.less (by decide)) rfl rfl rfl rfl (initFr1 (k := 0)) (fun L' => ?_)
  repeat walk_at "t"
  refine ctoi_str (hr.into rfl rfl) fun _ => ?_
  repeat walk_at "t"
  refine Tri.chr (by omega) (by omega) fun _ => ?_
  have e : ((k : Int) % 32).toNat = k % 32 := by omega
  rw [e]
  exact h _
theorem S_append (a b : List Nat) : S a ++ S b = S (a ++ b) := by
  show Str.mk (a.toArray ++ b.toArray) = _
  rw [List.append_toArray]
theorem S_length (a : List Nat) : (S a).length = a.length := by simp [Str.length]
theorem lit_bang : Str.ofString "!" = S [33] := by decide +kernel
theorem lit_caret : Str.ofString "^" = S [94] := by decide +kernel
theorem lit_caretq : Str.ofString "^?" = S [94, 63] := by decide +kernel
theorem sl_ge : 16000000 ≤ sizeLine := by rw [sizeLine_eq]; decide
theorem unctrl_bits {v : Value} {b : Int} (hr : Room c 3) (h : ∀ t', R (.str (S (unc b)) t') m n)
    (hv : ∀ (c' : Cx) (m' : FM) (R' : Value → FM → Led → Prop), Room c' 1 → (∀ t', R' (.int b t') m' n) → Tri c' (call (.ref 38) [v]) R' m' n) : Tri c (call (.ref 59) [v]) R m n := by
  have hr2 : ∀ {env : Env}, env.frame = some env.locals → env.scope.kind = .function → Room (c.into env) 2 := fun h1 h2 => hr.into h1 h2
  have hsl := sl_ge
  refine Tri.enter (binds := [(Str.ofString "c", v)]) (m₀ := frL nm_unc [some v, none, none]) (hr.less (by decide)) rfl rfl rfl rfl (initFr1 (k := 2)) (fun L' => ?_)
  repeat walk_at "t"
  refine hv _ _ _ ((hr2 rfl rfl).less (by decide)) fun _ => ?_
  repeat walk_at "t"
  refine ⟨fun hb => ?_, fun hb => ?_⟩
  · have hb : b = 127 := by simpa using hb
    subst hb
    repeat walk_at "t"
    rw [lit_caretq]
    exact h _
  · have hb : b ≠ 127 := by simpa using hb
    repeat walk_at "t"
    refine isprint_int (hr2 rfl rfl) ?_
    repeat walk_at "t"
    refine ⟨fun hp => ?_, fun hp => ?_⟩
    · repeat walk_at "t"
      refine Tri.chr (by omega) (by omega) fun _ => ?_
      repeat walk_at "t"
      refine ⟨fun hc => ?_, fun hc => ?_⟩
      · have hc : b / 128 % 2 = 1 := by
          have : b / 128 % 2 * 128 ≠ 0 := by simpa using hc
          omega
        repeat walk_at "t"
        rw [lit_bang]
        refine Tri.addStr (by simp [S_length, Str.length]; omega) fun _ => ?_
        have e : S (unc b) = S [33] ++ S [(b % 128).toNat] := by rw [S_append]; simp [unc, hc, hb, hp]
        rw [e] at h
        exact h _
      · have hc : ¬ b / 128 % 2 = 1 := by
          have : b / 128 % 2 * 128 = 0 := by simpa using hc
          omega
        repeat walk_at "t"
        have e : S (unc b) = S [(b % 128).toNat] := by simp [unc, hc, hb, hp]
        rw [e] at h
        exact h _
    · repeat walk_at "t"
      refine Tri.or32 (by omega) (by omega) fun _ => ?_
      repeat walk_at "t"
      refine Tri.chr (by split <;> omega) (by split <;> omega) fun _ => ?_
      rw [lit_caret]
      refine Tri.addStr (by simp [S_length, Str.length]; omega) fun _ => ?_
      repeat walk_at "t"
      refine ⟨fun hc => ?_, fun hc => ?_⟩
      · have hc : b / 128 % 2 = 1 := by
          have : b / 128 % 2 * 128 ≠ 0 := by simpa using hc
          omega
        repeat walk_at "t"
        rw [lit_bang]
        refine Tri.addStr (by simp only [S_append, S_length]; simp; omega) fun _ => ?_
        have e : S (unc b) = S [33] ++ (S [94] ++ S [((if b % 128 / 32 % 2 = 1 then b % 128 else b % 128 + 32) + 32).toNat]) := by rw [S_append, S_append]; simp [unc, hc, hb, hp]
        rw [e] at h
        exact h _
      · have hc : ¬ b / 128 % 2 = 1 := by
          have : b / 128 % 2 * 128 = 0 := by simpa using hc
          omega
        repeat walk_at "t"
        have e : S (unc b) = S [94] ++ S [((if b % 128 / 32 % 2 = 1 then b % 128 else b % 128 + 32) + 32).toNat] := by rw [S_append]; simp [unc, hc, hb, hp]
        rw [e] at h
        exact h _
theorem unctrl_int {b : Int} {t : Tok} (hr : Room c 3) (h : ∀ t', R (.str (S (unc b)) t') m n) : Tri c (call (.ref 59) [.int b t]) R m n := unctrl_bits hr h fun _ _ _ hr' h' => ctoi_int hr' h'
theorem unctrl_str {k : Nat} {t : Tok} (hr : Room c 3) (h : ∀ t', R (.str (S (unc k)) t') m n) : Tri c (call (.ref 59) [.str (S [k]) t]) R m n := unctrl_bits hr h fun _ _ _ hr' h' => ctoi_str hr' h'
end

section
open PySem.Sre
def P1 : Array Nat := #[14, 4, 0, 1, 1, 6, 1, 16, 46, 1]
def P2 : Array Nat := #[14, 9, 4, 1, 2, 16, 10, 16, 13, 0, 7, 7, 16, 13, 16, 10, 15, 18, 5, 16, 10, 15, 13, 11, 16, 13, 5, 5, 0, 16, 10, 1, 15, 2, 0, 1]

theorem runFor_succ (n : Nat) (m : M) : M.runFor (n + 1) m = if m.outcome.isSome = true then m else M.runFor n m.step := rfl
theorem runFor_done {m : M} (h : m.outcome.isSome = true) : ∀ n, M.runFor n m = m
  | 0 => rfl
  | n + 1 => by rw [runFor_succ, if_pos h]
theorem runFor_add : ∀ (a b : Nat) (m : M), M.runFor (a + b) m = M.runFor b (M.runFor a m)
  | 0, b, m => by rw [Nat.zero_add]; rfl
  | a + 1, b, m => by
    rw [Nat.succ_add, runFor_succ, runFor_succ]
    by_cases h : m.outcome.isSome = true
    · rw [if_pos h, if_pos h, runFor_done h]
    · rw [if_neg h, if_neg h]
      exact runFor_add a b m.step

def A1 (T : Array Nat) (s : Nat) (f : Bool) (seen : Sre.Seen) (pc p h : Nat) (ans : Option Bool) (fr : List Sre.Frame) (w : Nat) : M :=
  { code := P1, text := T, lim := T.size, start := s, lastStart := T.size, wholeText := false, mustAdvance := false, pc := pc, pos := p, handed := h, outermost := f, marks := #[], lastmark := -1, lastindex := -1, loops := #[], inner := none,
    frames := fr, weight := w, answer := ans, seen := seen, outcome := none }
def fr1 (s : Nat) (f : Bool) : Sre.Frame := { wait := .nextStart, pc := 5, pos := s, outermost := f }
def bol (T : Array Nat) (s : Nat) : Bool := s == 0 || T.getD (s - 1) 0 == 10
theorem step_exec {m : M} (h1 : m.outcome = none) (h2 : m.answer = none) (h3 : m.pc < m.code.size) : m.step = m.exec := by
  unfold M.step
  rw [h1, h2]
  simp [h3]
theorem step_resume {m : M} {yes : Bool} {f : Sre.Frame} {rest : List Sre.Frame} (h1 : m.outcome = none) (h2 : m.answer = some yes) (h3 : m.frames = f :: rest) :
    m.step = M.resume { m with answer := none, frames := rest, weight := m.weight - (1 + f.kept.marks.size), pc := f.pc, pos := f.pos, outermost := f.outermost } f yes := by
  unfold M.step
  rw [h1, h2, h3]
  simp
theorem step_at {T s f seen fr w} : (A1 T s f seen 5 s s none fr w).step = if bol T s = true then A1 T s f ((seen.add 6).add 44) 7 s s none fr w else A1 T s f ((seen.add 6).add 44) 5 s s (some false) fr w := by rfl
theorem step_lit {T s f seen fr w} : (A1 T s f seen 7 s s none fr w).step = if s ≥ T.size then A1 T s f (seen.add 16) 7 s s (some false) fr w else if (T.getD s 0 == 46) = true then A1 T s f (seen.add 16) 9 (s + 1) s none fr w else A1 T s f (seen.add 16) 7 s s (some false) fr w := by
  rw [step_exec rfl rfl (show (7 : Nat) < 10 by decide)]
  unfold M.exec
  show (if s ≥ T.size then _ else _) = _
  split
  · rfl
  · show (match (Except.ok (T.getD s 0 == 46, seen.add 16) : Except String (Bool × Sre.Seen)) with | .error why => _ | .ok (false, seen) => _ | .ok (true, seen) => _) = _
    cases h : T.getD s 0 == 46
    · rfl
    · rfl
theorem step_suc {T s f seen fr w} : (A1 T s f seen 9 (s + 1) s none fr w).step = A1 T s f (seen.add 1) 9 (s + 1) (s + 1) (some true) fr w := by
  rw [step_exec rfl rfl (show (9 : Nat) < 10 by decide)]
  unfold M.exec
  show (if _ then _ else _) = _
  rw [if_neg (by simp [A1])]
  rfl
theorem step_no {T s f seen pc p h} : (A1 T s f seen pc p h (some false) [fr1 s f] 1).step = if s < T.size then A1 T (s + 1) false seen 5 (s + 1) (s + 1) none [fr1 (s + 1) false] 1 else A1 T s f seen 5 s h (some false) [] 0 := by
  rw [step_resume rfl rfl rfl]
  unfold M.resume
  show (if s < T.size then _ else _) = _
  split
  · show (if _ then _ else _) = _
    rw [if_pos (by rfl)]
    unfold M.attemptAt M.attempt
    rw [if_neg (by simp [A1, fr1])]
    rfl
  · rfl
theorem step_yes {T s f seen pc p h} : (A1 T s f seen pc p h (some true) [fr1 s f] 1).step = A1 T s f seen 5 s h (some true) [] 0 := by rfl

theorem run1 {m : M} (h : m.outcome = none) (n : Nat) : M.runFor (n + 1) m = M.runFor n m.step := by rw [runFor_succ, if_neg (by rw [h]; decide)]
theorem end_yes {T s f seen pc p h w} : (M.runFor 1 (A1 T s f seen pc p h (some true) [] w)) = { A1 T s f seen pc p h (some true) [] w with outcome := some .matched } := rfl
theorem end_no {T s f seen pc p h w} : (M.runFor 1 (A1 T s f seen pc p h (some false) [] w)) = { A1 T s f seen pc p h (some false) [] w with outcome := some .failed } := rfl

/-- what a search comes to -/
def Ends (m : M) (N : Nat) (r : Option (Nat × Nat)) : Prop :=
  ∃ k, k ≤ N ∧ match r with
    | none => ∃ m', M.runFor k m = m' ∧ (∃ o, m'.outcome = some o ∧ o = .failed)
    | some (s, e) => ∃ m', M.runFor k m = m' ∧ (∃ o, m'.outcome = some o ∧ o = .matched) ∧ m'.start = s ∧ m'.handed = e
theorem Ends.step {m : M} {N : Nat} {r : Option (Nat × Nat)} (h0 : m.outcome = none) (h : Ends m.step N r) : Ends m (N + 1) r := by
  obtain ⟨k, hk, h⟩ := h
  refine ⟨k + 1, by omega, ?_⟩
  rw [run1 h0]
  exact h
theorem Ends.le {m : M} {N N' : Nat} {r : Option (Nat × Nat)} (h : Ends m N r) (hN : N ≤ N') : Ends m N' r := by
  obtain ⟨k, hk, h⟩ := h
  exact ⟨k, by omega, h⟩

/-- the first place from s on, k left, where a dot begins a row -/
def find1 (T : Array Nat) : Nat → Nat → Option (Nat × Nat)
  | 0, _ => none
  | k + 1, s => if bol T s = true ∧ T.getD s 0 = 46 then some (s, s + 1) else find1 T k (s + 1)
theorem search1 (T : Array Nat) : ∀ (k s : Nat) (f : Bool) (seen : Sre.Seen), s + k = T.size → Ends (A1 T s f seen 5 s s none [fr1 s f] 1) (3 * k + 10) (find1 T k s) := by
  intro k
  induction k with
  | zero =>
    intro s f seen hs
    have hns : ¬ s < T.size := by omega
    refine Ends.le (N := 4) ?_ (by omega)
    have last : ∀ seen' pc, Ends (A1 T s f seen' pc s s (some false) [fr1 s f] 1) 2 (find1 T 0 s) := by
      intro seen' pc
      refine Ends.step rfl ?_
      rw [step_no, if_neg hns]
      exact ⟨1, Nat.le_refl _, _, end_no, _, rfl, rfl⟩
    refine Ends.step rfl ?_
    rw [step_at]
    split
    · refine Ends.step rfl ?_
      rw [step_lit, if_pos (by omega)]
      exact last _ _
    · exact (last _ _).le (by omega)
  | succ k ih =>
    intro s f seen hs
    have hlt : s < T.size := by omega
    have next : ∀ seen' pc, Ends (A1 T s f seen' pc s s (some false) [fr1 s f] 1) (3 * k + 10 + 1) (find1 T k (s + 1)) := by
      intro seen' pc
      refine Ends.step rfl ?_
      rw [step_no, if_pos hlt]
      exact ih (s + 1) false seen' (by omega)
    refine Ends.le (N := 3 * k + 10 + 3) ?_ (by omega)
    refine Ends.step rfl ?_
    rw [step_at]
    unfold find1
    by_cases hb : bol T s = true
    · rw [if_pos hb]
      refine Ends.step rfl ?_
      rw [step_lit, if_neg (by omega)]
      by_cases hc : T.getD s 0 = 46
      · rw [if_pos (by simpa using hc), if_pos ⟨hb, hc⟩]
        refine Ends.le (N := 1 + 1 + 1) ?_ (by omega)
        refine Ends.step rfl ?_
        rw [step_suc]
        refine Ends.step rfl ?_
        rw [step_yes]
        exact ⟨1, Nat.le_refl _, _, end_yes, ⟨_, rfl, rfl⟩, rfl, rfl⟩
      · rw [if_neg (by simpa using hc), if_neg (fun q => hc q.2)]
        exact next _ _
    · rw [if_neg hb, if_neg (fun q => hb q.1)]
      exact (next _ _).le (by omega)
theorem forSearch1 (T : Array Nat) (s : Nat) (hs : s ≤ T.size) : Ends (Sre.forSearch P1 T 0 s T.size false) (3 * T.size + 20) (find1 T (T.size - s) s) := by
  by_cases h : s = T.size
  · subst h
    have e : Sre.forSearch P1 T 0 T.size T.size false = { A1 T T.size true (({} : Sre.Seen).add 14) 5 T.size T.size (some false) [] 0 with lastStart := 0 } := by
      unfold Sre.forSearch
      rw [if_pos]
      · rfl
      · show (decide (T.size > T.size) || decide (T.size - T.size < 1)) = true
        simp
    rw [e, Nat.sub_self]
    exact ⟨1, by omega, _, rfl, _, rfl, rfl⟩
  · have e : Sre.forSearch P1 T 0 s T.size false = A1 T s true (({} : Sre.Seen).add 14) 5 s s none [fr1 s true] 1 := by
      unfold Sre.forSearch
      rw [if_neg]
      · rfl
      · show ¬ (decide (s > T.size) || decide (T.size - s < 1)) = true
        simp
        omega
    rw [e]
    exact (search1 T (T.size - s) s true _ (by omega)).le (by omega)
end


section
open PySem.Sre
def B2 (T : Array Nat) (s : Nat) (seen : Sre.Seen) (pc p h : Nat) (o : Bool) (ans : Option Bool) (fr : List Sre.Frame) (w : Nat) : M :=
  { code := P2, text := T, lim := T.size, start := s, lastStart := T.size, wholeText := false, mustAdvance := false, pc := pc, pos := p, handed := h, outermost := o, marks := #[], lastmark := -1, lastindex := -1, loops := #[], inner := none,
    frames := fr, weight := w, answer := ans, seen := seen, outcome := none }
def ns2 (s : Nat) : Sre.Frame := { wait := .nextStart, pc := 10, pos := s, outermost := true }
def nb2 (s pc : Nat) : Sre.Frame := { wait := .nextBranch, pc := pc, pos := s, outermost := true, kept := { lastmark := -1, lastindex := -1, whole := false, marks := #[] } }
def ln2 (s : Nat) : Sre.Frame := { wait := .lookNot, pc := 26, pos := s + 1, outermost := true, kept := { lastmark := -1, lastindex := -1, whole := false, marks := #[] } }
theorem b_branch {T s seen p h} : (B2 T s seen 10 p h true none [ns2 s] 1).step = B2 T s (seen.add 7) 12 p p true none [nb2 p 11, ns2 s] 2 := by rfl
theorem b_no11 {T s seen pc p h o} : (B2 T s seen pc p h o (some false) [nb2 s 11, ns2 s] 2).step = B2 T s seen 19 s s true none [nb2 s 18, ns2 s] 2 := by rfl
theorem b_no18 {T s seen pc p h o} : (B2 T s seen pc p h o (some false) [nb2 s 18, ns2 s] 2).step = B2 T s seen 24 s s true none [nb2 s 23, ns2 s] 2 := by rfl
theorem b_yes {T s seen pc p h o k} : (B2 T s seen pc p h o (some true) [nb2 s k, ns2 s] 2).step = B2 T s seen k s h true (some true) [ns2 s] 1 := by rfl
theorem b_yes1 {T s seen pc p h o} : (B2 T s seen pc p h o (some true) [ns2 s] 1).step = B2 T s seen 10 s h true (some true) [] 0 := by rfl
theorem b_jump16 {T s seen p h fr w} : (B2 T s seen 16 p h true none fr w).step = B2 T s (seen.add 15) 35 p h true none fr w := by rfl
theorem b_jump21 {T s seen p h fr w} : (B2 T s seen 21 p h true none fr w).step = B2 T s (seen.add 15) 35 p h true none fr w := by rfl
theorem b_jump32 {T s seen p h fr w} : (B2 T s seen 32 p h true none fr w).step = B2 T s (seen.add 15) 35 p h true none fr w := by rfl
theorem b_suc {T s seen p h fr w} : (B2 T s seen 35 p h true none fr w).step = B2 T s (seen.add 1) 35 p p true (some true) fr w := by rfl
theorem b_look {T s seen h} : (B2 T s seen 26 (s + 1) h true none [nb2 s 23, ns2 s] 2).step = B2 T s (seen.add 5) 29 (s + 1) (s + 1) false none [ln2 s, nb2 s 23, ns2 s] 3 := by
  rw [step_exec rfl rfl (show (26 : Nat) < 36 by decide)]
  unfold M.exec
  rfl
theorem b_lookNo {T s seen pc p h o} : (B2 T s seen pc p h o (some false) [ln2 s, nb2 s 23, ns2 s] 3).step = B2 T s seen 32 (s + 1) h true none [nb2 s 23, ns2 s] 2 := by rfl
theorem b_end {T s seen pc p h} : (M.runFor 1 (B2 T s seen pc p h true (some true) [] 0)) = { B2 T s seen pc p h true (some true) [] 0 with outcome := some .matched } := rfl
theorem b_lit {T s seen p h o fr w} (pc c : Nat) (hpc : pc < 36) (h0 : P2.getD pc 0 = 16) (h1 : P2.getD (pc + 1) 0 = c) :
    (B2 T s seen pc p h o none fr w).step = if p ≥ T.size then B2 T s (seen.add 16) pc p h o (some false) fr w else if T.getD p 0 = c then B2 T s (seen.add 16) (pc + 2) (p + 1) h o none fr w else B2 T s (seen.add 16) pc p h o (some false) fr w := by
  rw [step_exec rfl rfl (show pc < 36 from hpc)]
  have w0 : (B2 T s seen pc p h o none fr w).word 0 = 16 := h0
  unfold M.exec
  rw [w0]
  show (if p ≥ T.size then _ else _) = _
  split
  · rfl
  · have ha : ∀ sn, accepts P2 pc (T.getD p 0) sn = .ok (T.getD p 0 == c, sn) := by
      intro sn
      unfold accepts
      rw [h0, h1]
      rfl
    have hw : itemWidth P2 pc = 2 := by unfold itemWidth; rw [h0]; rfl
    show (match accepts P2 pc (T.getD p 0) (seen.add 16) with | .error why => _ | .ok (false, seen) => _ | .ok (true, seen) => _) = _
    rw [ha]
    by_cases hc : T.getD p 0 = c
    · have hb : (T.getD p 0 == c) = true := by simpa using hc
      rw [hb, if_pos hc]
      show B2 T s (seen.add 16) (pc + itemWidth P2 pc) (p + 1) h o none fr w = _
      rw [hw]
    · have hb : (T.getD p 0 == c) = false := by simpa using hc
      rw [hb, if_neg hc]
      rfl
def eol (T : Array Nat) (s : Nat) : Bool := T.getD s 0 == 10 || T.getD s 0 == 13
def eolEnd (T : Array Nat) (s : Nat) : Nat := if T.getD s 0 = 13 ∧ s + 1 < T.size ∧ T.getD (s + 1) 0 = 10 then s + 2 else s + 1
theorem fin2 {T s seen p h k N} (hN : 4 ≤ N) : Ends (B2 T s seen 35 p h true none [nb2 s k, ns2 s] 2) N (some (s, p)) := by
  refine Ends.le (N := 1 + 1 + 1 + 1) ?_ hN
  refine Ends.step rfl ?_
  rw [b_suc]
  refine Ends.step rfl ?_
  rw [b_yes]
  refine Ends.step rfl ?_
  rw [b_yes1]
  exact ⟨1, Nat.le_refl _, _, b_end, ⟨_, rfl, rfl⟩, rfl, rfl⟩
theorem match2 (T : Array Nat) (s : Nat) (seen : Sre.Seen) (hs : s < T.size) (he : eol T s = true) : Ends (B2 T s seen 10 s s true none [ns2 s] 1) 40 (some (s, eolEnd T s)) := by
  have hns : ¬ s ≥ T.size := by omega
  refine Ends.step rfl ?_
  rw [b_branch]
  refine Ends.step rfl ?_
  rw [b_lit 12 13 (by decide) rfl rfl, if_neg hns]
  by_cases h13 : T.getD s 0 = 13
  · rw [if_pos h13]
    refine Ends.step rfl ?_
    rw [b_lit 14 10 (by decide) rfl rfl]
    have third : ∀ seen' pc p', ¬ (s + 1 < T.size ∧ T.getD (s + 1) 0 = 10) → Ends (B2 T s seen' pc p' s true (some false) [nb2 s 11, ns2 s] 2) 37 (some (s, eolEnd T s)) := by
      intro seen' pc p' hno
      have ee : eolEnd T s = s + 1 := by unfold eolEnd; rw [if_neg (fun q => hno q.2)]
      rw [ee]
      refine Ends.step rfl ?_
      rw [b_no11]
      refine Ends.step rfl ?_
      rw [b_lit 19 10 (by decide) rfl rfl, if_neg hns, if_neg (by omega)]
      refine Ends.step rfl ?_
      rw [b_no18]
      refine Ends.step rfl ?_
      rw [b_lit 24 13 (by decide) rfl rfl, if_neg hns, if_pos h13]
      refine Ends.step rfl ?_
      rw [b_look]
      refine Ends.step rfl ?_
      rw [b_lit 29 10 (by decide) rfl rfl]
      have tail : ∀ seen' pc p' h', Ends (B2 T s seen' pc p' h' false (some false) [ln2 s, nb2 s 23, ns2 s] 3) 31 (some (s, s + 1)) := by
        intro seen' pc p' h'
        refine Ends.step rfl ?_
        rw [b_lookNo]
        refine Ends.step rfl ?_
        rw [b_jump32]
        exact fin2 (by decide)
      split
      · exact tail _ _ _ _
      · split
        · exact absurd ⟨by omega, by assumption⟩ hno
        · exact tail _ _ _ _
    by_cases h1 : s + 1 ≥ T.size
    · rw [if_pos h1]
      exact third _ _ _ (fun q => by omega)
    · rw [if_neg h1]
      by_cases h2 : T.getD (s + 1) 0 = 10
      · rw [if_pos h2]
        have ee : eolEnd T s = s + 1 + 1 := by unfold eolEnd; rw [if_pos ⟨h13, by omega, h2⟩]
        rw [ee]
        refine Ends.step rfl ?_
        rw [b_jump16]
        exact fin2 (by decide)
      · rw [if_neg h2]
        exact third _ _ _ (fun q => h2 q.2)
  · have h10 : T.getD s 0 = 10 := by
      unfold eol at he
      simp only [Bool.or_eq_true, beq_iff_eq] at he
      exact he.resolve_right h13
    have ee : eolEnd T s = s + 1 := by unfold eolEnd; rw [if_neg (fun q => h13 q.1)]
    rw [if_neg h13, ee]
    refine Ends.step rfl ?_
    rw [b_no11]
    refine Ends.step rfl ?_
    rw [b_lit 19 10 (by decide) rfl rfl, if_neg hns, if_pos h10]
    refine Ends.step rfl ?_
    rw [b_jump21]
    exact fin2 (by decide)
/-- the first place from s on, k left, where a row ends -/
def place2 (T : Array Nat) : Nat → Nat → Option Nat
  | 0, _ => none
  | k + 1, s => if eol T s = true then some s else place2 T k (s + 1)
def find2 (T : Array Nat) (k s : Nat) : Option (Nat × Nat) := (place2 T k s).map fun s => (s, eolEnd T s)
theorem inSet2 (c : Nat) (seen : Sre.Seen) : ∃ seen', inSet P2 c P2.size 5 true seen = .ok (c == 10 || c == 13, seen') := by
  show ∃ seen', inSet P2 c 36 5 true seen = _
  unfold inSet
  show ∃ seen', (if (c == 10) = true then Except.ok (true, _) else _) = _
  cases h10 : c == 10 with
  | true => exact ⟨_, rfl⟩
  | false =>
    rw [if_neg (by decide)]
    unfold inSet
    show ∃ seen', (if (c == 13) = true then Except.ok (true, _) else _) = _
    cases h13 : c == 13 with
    | true => exact ⟨_, rfl⟩
    | false =>
      rw [if_neg (by decide)]
      exact ⟨_, rfl⟩
theorem admitted2 {m : M} (hc : m.code = P2) (hl : m.lim = m.text.size) : ∀ (k s : Nat) (seen : Sre.Seen), s + k = m.text.size → ∃ seen', M.admitted m (k + 1) s seen = .ok (place2 m.text k s, seen') := by
  intro k
  induction k with
  | zero =>
    intro s seen hs
    unfold M.admitted
    rw [if_pos (by omega)]
    exact ⟨_, rfl⟩
  | succ k ih =>
    intro s seen hs
    unfold M.admitted
    rw [if_neg (by omega), hc]
    obtain ⟨seen', e⟩ := inSet2 (m.text.getD s 0) seen
    rw [e]
    unfold place2 eol
    cases h : (m.text.getD s 0 == 10 || m.text.getD s 0 == 13) with
    | true => exact ⟨_, rfl⟩
    | false => exact ih (s + 1) seen' (by omega)
theorem place2_mem (T : Array Nat) : ∀ (k s : Nat) {r : Nat}, place2 T k s = some r → s ≤ r ∧ r < s + k ∧ eol T r = true := by
  intro k
  induction k with
  | zero => intro s r h; cases h
  | succ k ih =>
    intro s r h
    unfold place2 at h
    split at h
    · cases h
      exact ⟨Nat.le_refl _, by omega, by assumption⟩
    · have := ih (s + 1) h
      exact ⟨by omega, by omega, this.2.2⟩
theorem forSearch2 (T : Array Nat) (s : Nat) (hs : s ≤ T.size) : Ends (Sre.forSearch P2 T 0 s T.size false) (3 * T.size + 50) (find2 T (T.size - s) s) := by
  by_cases h : s = T.size
  · subst h
    have e : Sre.forSearch P2 T 0 T.size T.size false = { B2 T T.size (({} : Sre.Seen).add 14) 10 T.size T.size true (some false) [] 0 with lastStart := 0 } := by
      unfold Sre.forSearch
      rw [if_pos]
      · rfl
      · show (decide (T.size > T.size) || decide (T.size - T.size < 1)) = true
        simp
    rw [e, Nat.sub_self]
    exact ⟨1, by omega, _, rfl, _, rfl, rfl⟩
  · have e : Sre.forSearch P2 T 0 s T.size false = M.attemptFrom (B2 T s (({} : Sre.Seen).add 14) 10 s s true none [] 0) s true := by
      unfold Sre.forSearch
      rw [if_neg]
      · rfl
      · show ¬ (decide (s > T.size) || decide (T.size - s < 1)) = true
        simp
        omega
    rw [e]
    unfold M.attemptFrom
    rw [if_neg (by exact Bool.false_ne_true)]
    obtain ⟨seen', ea⟩ := admitted2 (m := B2 T s (({} : Sre.Seen).add 14) 10 s s true none [] 0) rfl rfl (T.size - s) s (({} : Sre.Seen).add 14) (show s + (T.size - s) = T.size by omega)
    have ef : (B2 T s (({} : Sre.Seen).add 14) 10 s s true none [] 0).lim + 1 - s = T.size - s + 1 := by show T.size + 1 - s = _; omega
    rw [ef]
    show Ends (match M.admitted (B2 T s (({} : Sre.Seen).add 14) 10 s s true none [] 0) (T.size - s + 1) s (({} : Sre.Seen).add 14) with | .ok (some s, seen) => _ | .ok (none, seen) => _ | .error why => _) _ _
    rw [ea]
    show Ends (match (Except.ok (place2 T (T.size - s) s, seen') : Except String (Option Nat × Sre.Seen)) with | .ok (some s, seen) => _ | .ok (none, seen) => _ | .error why => _) _ _
    unfold find2
    cases hp : place2 T (T.size - s) s with
    | none => exact ⟨1, by omega, _, rfl, _, rfl, rfl⟩
    | some r =>
      have q := place2_mem T _ _ hp
      exact (match2 T r seen' (by omega) q.2.2).le (by omega)
end


section
open PySem.Builtin.Re
theorem pa_re : PlainAttrs "re.Pattern" :=
  ⟨⟨"object.__getattribute__", by rw [typeLookup_type, builtinLookup_eq_fast]; kernel_rfl, by decide +kernel⟩, by rw [typeLookup_type, builtinLookup_eq_fast]; kernel_rfl⟩
theorem slot_sub : Slot "re.Pattern" "sub" "re.Pattern.sub" :=
  .of (owner := "re.Pattern") (n := "sub") (by rw [typeLookup_type, builtinLookup_eq_fast]; kernel_rfl) (by decide +kernel) (by decide +kernel) (by decide +kernel)
    (by first | exact .inl (by decide +kernel) | exact .inr (by decide +kernel)) (by rw [isSubtype_type]; kernel_rfl)
theorem type_sub : typeOf (.builtin "re.Pattern.sub") = pure (.type "method_descriptor") := by show builtinType _ = _; rw [builtinType_eq_fast]; kernel_rfl
theorem entry_sub : entryFor table "re.Pattern.sub" = some Builtin.«re.Pattern.sub» := entryFor_of_tree (by kernel_rfl)
theorem entry_loop : entryFor table "re.Pattern.sub.loop" = some Builtin.«re.Pattern.sub.loop» := entryFor_of_tree (by kernel_rfl)
theorem args_sub (a b d : Value) : argsOk "re.Pattern.sub" ⟨[a, b, d], []⟩ := by unfold argsOk; kernel_rfl
theorem wp_drive {prog : Program} {w : World} {A : Around} {E : Value → Shared → Prop} {s : Shared} : ∀ (turns : Nat) (m : Sre.M) (Q : Sre.M → Shared → Prop), (Sre.M.runFor (4 * (turns + 1)) m).outcome.isSome = true → Q (Sre.M.runFor (4 * (turns + 1)) m) s →
    wpAny (model prog w) A (reDrive (turns + 1) m) Q E s := by
  intro turns
  induction turns with
  | zero =>
    intro m Q h hq
    unfold reDrive
    show wpAny _ A (if (Sre.M.runFor 4 m).outcome.isSome = true then _ else _) Q E s
    rw [if_pos h]
    exact wpAny_pure hq
  | succ turns ih =>
    intro m Q h hq
    have e : Sre.M.runFor (4 * (turns + 1 + 1)) m = Sre.M.runFor (4 * (turns + 1)) (Sre.M.runFor 4 m) := by
      rw [← runFor_add]
      congr 1
      omega
    unfold reDrive
    show wpAny _ A (if (Sre.M.runFor 4 m).outcome.isSome = true then _ else _) Q E s
    by_cases h4 : (Sre.M.runFor 4 m).outcome.isSome = true
    · rw [if_pos h4]
      rw [e, runFor_done h4] at hq
      exact wpAny_pure hq
    · rw [if_neg h4]
      rw [e] at h hq
      exact wpAny_bind (wpAny_rule (ih _ Q h hq))
theorem wp_rules {prog : Program} {w : World} {A : Around} {E : Value → Shared → Prop} {s : Shared} {b : Nat → Bool} {f : Nat → String} {Q : PUnit → Shared → Prop} : ∀ (l : List Nat), Q PUnit.unit s →
    wpAny (model prog w) A (forIn l PUnit.unit fun i _ => if b i = true then do rule (f i); pure (ForInStep.yield PUnit.unit) else pure (ForInStep.yield PUnit.unit)) Q E s
  | [], h => wpAny_pure h
  | i :: l, h => by
    rw [List.forIn_cons]
    refine wpAny_bind ?_
    have ih := wp_rules (prog := prog) (w := w) (A := A) (E := E) (b := b) (f := f) l h
    by_cases hb : b i = true
    · rw [if_pos hb]
      exact wpAny_bind (wpAny_rule (wpAny_pure ih))
    · rw [if_neg hb]
      exact wpAny_pure ih
theorem wp_toEnd {prog : Program} {w : World} {A : Around} {E : Value → Shared → Prop} {s : Shared} {m m' : Sre.M} {N : Nat} {Q : Option Sre.M → Shared → Prop} (hN : N ≤ 1000000000) (hr : Sre.M.runFor N m = m')
    (h : (m'.outcome = some .matched ∧ Q (some m') s) ∨ (m'.outcome = some .failed ∧ Q none s)) : wpAny (model prog w) A (reRunToEnd m) Q E s := by
  have hs : m'.outcome.isSome = true := by rcases h with h | h <;> rw [h.1] <;> rfl
  have e : Sre.M.runFor (4 * (2 ^ 64 - 1 + 1)) m = m' := by
    rw [show 4 * (2 ^ 64 - 1 + 1) = N + (4 * (2 ^ 64 - 1 + 1) - N) by omega, runFor_add, hr, runFor_done hs]
  unfold reRunToEnd
  refine wpAny_bind (wp_drive (2 ^ 64 - 1) m _ (by rw [e]; exact hs) ?_)
  rw [e]
  refine wpAny_bind (wp_rules (b := fun i => m'.seen.has i) (f := fun i => Sre.names.getD i "") _ ?_)
  rcases h with h | h
  · rw [h.1]
    exact wpAny_pure h.2
  · rw [h.1]
    exact wpAny_pure h.2
theorem wp_next_none {prog : Program} {w : World} {A : Around} {E : Value → Shared → Prop} {s : Shared} {t : ReTarget} {start N : Nat} {Q : Option Sre.M → Shared → Prop} (hN : N ≤ 1000000000)
    (hE : Ends (Sre.forSearch t.code t.text t.groups start t.lim false) N none) (h : Q none s) : wpAny (model prog w) A (reNextFound t start false) Q E s := by
  obtain ⟨k, hk, m', hr, o, ho, rfl⟩ := hE
  exact wp_toEnd (N := k) (by omega) hr (.inr ⟨ho, h⟩)
theorem wp_next_some {prog : Program} {w : World} {A : Around} {E : Value → Shared → Prop} {s : Shared} {t : ReTarget} {start N b e : Nat} {Q : Option Sre.M → Shared → Prop} (hN : N ≤ 1000000000)
    (hE : Ends (Sre.forSearch t.code t.text t.groups start t.lim false) N (some (b, e))) (h : ∀ m', m'.start = b → m'.handed = e → Q (some m') s) : wpAny (model prog w) A (reNextFound t start false) Q E s := by
  obtain ⟨k, hk, m', hr, ⟨o, ho, rfl⟩, h1, h2⟩ := hE
  exact wp_toEnd (N := k) (by omega) hr (.inl ⟨ho, h m' h1 h2⟩)
theorem wp_fields {M : Model} {A : Around} {E : Value → Shared → Prop} {s : Shared} {a : Addr} {o : Obj} {vs : Array Value} {Q : Array Value → Shared → Prop} (ho : s.heap.get? a = some o) (hd : o.data = .fields vs) (h : Q vs s) : wpAny M A (fieldsOf (.ref a)) Q E s := by
  unfold fieldsOf
  refine wpAny_bind (wpAny_load ho ?_)
  rw [hd]
  exact wpAny_pure h
theorem wp_seq {M : Model} {A : Around} {E : Value → Shared → Prop} {s : Shared} {a : Addr} {o : Obj} {vs : Array Value} {k : Nat} {Q : Option (Array Value) → Shared → Prop} (ho : s.heap.get? a = some o) (hd : o.data = .seq vs k) (h : Q (some vs) s) : wpAny M A (seqItems? (.ref a)) Q E s := by
  unfold seqItems?
  refine wpAny_bind (wpAny_load ho ?_)
  rw [hd]
  exact wpAny_pure h
theorem wp_whole {prog : Program} {w : World} {A : Around} {E : Value → Shared → Prop} {s : Shared} {pat tup : Addr} {o o' : Obj} {a0 a1 a3 a4 : Value} {g2 g6 : Tok} {items : Array Value} {ep : Nat} {P : Array Nat} {T : Str} {t : Tok} {Q : ReTarget → Shared → Prop}
    (ho : s.heap.get? pat = some o) (hd : o.data = .fields #[a0, a1, .int 0 g2, a3, a4, .ref tup, .int 0 g6]) (ho' : s.heap.get? tup = some o') (hd' : o'.data = .seq items ep) (hP : (items.map reRawOf).map (·.toNat) = P)
    (h : Q ⟨.ref pat, .str T t, P, T.cps, 0, 0, 0, T.cps.size⟩ s) : wpAny (model prog w) A (reWholeTarget (.ref pat) (.str T t)) Q E s := by
  unfold reWholeTarget
  refine wpAny_bind (wp_fields ho hd ?_)
  refine wpAny_bind ?_
  show wpAny _ A (reTextOf (.str T t)) _ E s
  unfold reTextOf
  refine wpAny_bind (wpAny_pure ?_)
  refine wpAny_pure ?_
  dsimp only
  refine wpAny_bind ?_
  refine wpAny_ite_false rfl ?_
  refine wpAny_pure ?_
  refine wpAny_bind ?_
  unfold reRawItems
  refine wpAny_bind (wp_seq ho' hd' ?_)
  refine wpAny_pure (wpAny_pure ?_)
  show Q ⟨.ref pat, .str T t, (items.map reRawOf).map (·.toNat), T.cps, 0, 0, 0, T.cps.size⟩ s
  rw [hP]
  exact h
theorem wp_push {M : Model} {A : Around} {E : Value → Shared → Prop} {s : Shared} {g : Heap} {L d : Addr} {m : FM} {vs : List Value} {k : Nat} {x : Value} {rest : Led} {Q : Unit → Shared → Prop}
    (F : Fr g L s.heap m) (N : News g L s.heap ((d, LS vs k) :: rest)) (D : Nd ((d, LS vs k) :: rest)) (hz : vs.length ≤ sizeLine)
    (h : ∀ h', Fr g L h' m → News g L h' ((d, LS (vs ++ [x]) (k + 1)) :: rest) → Q () { s with heap := h' }) : wpAny M A (updateSeq d (·.push x)) Q E s := by
  have z := N _ (.head _)
  have off := (Nd.off (pre := []) D).2
  have e : Obj.mapSeq (·.push x) (LS vs k) = LS (vs ++ [x]) (k + 1) := by
    show (Obj.mk _ _ (.seq (vs.toArray.push x) (if (vs.toArray.push x).size == vs.toArray.size then k else k + 1)) _) = _
    have : ((vs.toArray.push x).size == vs.toArray.size) = false := by simp
    rw [this]
    simp only [List.push_toArray]
    rfl
  have ho' : (s.heap.update d (Obj.mapSeq (·.push x))).get? d = some (LS (vs ++ [x]) (k + 1)) := by
    have := Heap.get?_update_self (h := s.heap) (f := Obj.mapSeq (·.push x)) z.1 (by rw [e]; rfl)
    rw [this, e]
  unfold updateSeq
  refine wpAny_bind (wpAny_load z.1 ?_)
  show wpAny M A (do update d (Obj.mapSeq (·.push x)); lookBehind d) Q E s
  refine wpAny_bind (wpAny_update z.1 ?_)
  refine wpAny_lookBehind ho' (pastItsLine_seq (by simp; omega)) ?_
  exact h _ (F.change (Heap.SameBut.update ..) z.2.1 z.2.2) (news_set (pre := []) N (fun p hp => nomatch hp) off (Heap.SameBut.update ..) ho')
theorem join_S (ls : List (List Nat)) : Txt.join (S []) (ls.map S) = S ls.flatten := by
  have key : ∀ (ls : List (List Nat)) (a : List Nat), (ls.map S).foldl (fun acc p => acc ++ (S []).cps ++ p.cps) a.toArray = (a ++ ls.flatten).toArray := by
    intro ls
    induction ls with
    | nil => intro a; simp
    | cons l r ih =>
      intro a
      simp only [List.map_cons, List.foldl_cons, List.flatten_cons]
      have : a.toArray ++ (S []).cps ++ (S l).cps = (a ++ l).toArray := by simp
      rw [this, ih, List.append_assoc]
  cases ls with
  | nil => rfl
  | cons l r =>
    show Str.mk ((r.map S).foldl (fun acc p => acc ++ (S []).cps ++ p.cps) l.toArray) = _
    rw [key r l]
    rfl
theorem strs_snoc {l : List Nat} {t : Tok} {vs : List Value} {ls : List (List Nat)} (h : StrsAre vs (ls.map S)) : StrsAre (vs ++ [.str (S l) t]) ((ls ++ [l]).map S) := by
  rw [List.map_append]
  exact kct_snoc h

/-- what a literal substitution comes to -/
def subAll (T repl : List Nat) (fnd : Nat → Option (Nat × Nat)) : Nat → Nat → List Nat
  | 0, st => T.drop st
  | k + 1, st => match fnd st with
    | none => T.drop st
    | some (b, e) => (T.drop st).take (b - st) ++ repl ++ subAll T repl fnd k e

theorem slice_S (T : List Nat) (b e : Nat) : (⟨T.toArray.extract b e⟩ : Str) = S ((T.drop b).take (e - b)) := by
  simp [List.extract_toArray, List.extract]

theorem sub_loop {c : Cx} {g : Heap} {fr n : Led} {m : FM} {A : Around} {R : Result → Shared → Prop} {pat tup : Addr} {o o' : Obj} {a0 a1 a3 a4 : Value} {g2 g6 : Tok} {items : Array Value} {ep0 : Nat} {P : Array Nat} {t u : Tok} (T repl : List Nat) {fnd : Nat → Option (Nat × Nat)} {N : Nat}
    (ho : g.get? pat = some o) (hd : o.data = .fields #[a0, a1, .int 0 g2, a3, a4, .ref tup, .int 0 g6]) (ho' : g.get? tup = some o') (hd' : o'.data = .seq items ep0) (hP : (items.map reRawOf).map (·.toNat) = P)
    (hN : N ≤ 1000000000) (hE : ∀ st, st ≤ T.length → Ends (Sre.forSearch P T.toArray 0 st T.length false) N (fnd st)) (hf : ∀ st b e, st ≤ T.length → fnd st = some (b, e) → st ≤ b ∧ b < e ∧ e ≤ T.length) (hrl : repl.length ≤ 2) (hTl : T.length ≤ 2000000) :
    ∀ (k st : Nat) (cnt : Int) (ls : List (List Nat)) (vs : List Value) (ep : Nat) (p : Addr) (s : Shared), st ≤ T.length → T.length - st ≤ k → StrsAre vs (ls.map S) → ls.flatten.length ≤ 2 * st → vs.length ≤ 2 * st →
      Fr g c.env.locals s.heap m → News g c.env.locals s.heap ((p, LS vs ep) :: (n ++ fr)) → Nd ((p, LS vs ep) :: (n ++ fr)) →
      (∀ s' t', Sim s s' → Fr g c.env.locals s'.heap m → News g c.env.locals s'.heap (n ++ fr) → R (.ok (.ret (.str (S (ls.flatten ++ subAll T repl fnd k st)) t'))) s') →
      codeAny (model PG c.w) A (.builtin "re.Pattern.sub.loop" ⟨[.ref pat, .str (S T) t, .str (S repl) u, rawInt 0, rawInt 0, rawInt cnt, rawInt st, rawInt st, .bool false, .ref p, .bool false], []⟩) R s := by
  have hsl := sl_ge
  have hsub : ∀ k st, st ≤ T.length → T.length - st ≤ k → subAll T repl fnd k st = match fnd st with | none => T.drop st | some (b, e) => (T.drop st).take (b - st) ++ repl ++ subAll T repl fnd (k - 1) e := by
    intro k st hst hk
    cases k with
    | succ k => rfl
    | zero =>
      cases hfn : fnd st with
      | none => rfl
      | some be =>
        obtain ⟨b, e⟩ := be
        have := hf st b e hst hfn
        omega
  intro k
  induction k using Nat.strongRecOn with
  | ind k ih =>
    intro st cnt ls vs ep p s hst hk hS hlen hvl F Nw D hR
    rw [hsub k st hst hk] at hR
    refine codeAny_builtin entry_loop ?_
    unfold Builtin.«re.Pattern.sub.loop»
    dsimp only [rawInt]
    refine wpAny_bind (wp_whole (F.keep _ _ ho) hd (F.keep _ _ ho') hd' hP ?_)
    refine wpAny_ite_true rfl (wpAny_bind ?_)
    unfold reLiteralCannotBeTurned
    refine wpAny_bind (wpAny_pure ?_)
    refine wpAny_ite_false rfl (wpAny_pure ?_)
    have eT : (S T).cps.size = T.length := by simp
    refine wpAny_bind (wpAny_ite_false rfl ?_)
    have hst' : ((st : Int)).toNat = st := by omega
    have hEs : Ends (Sre.forSearch P T.toArray 0 ((st : Int)).toNat (S T).cps.size false) N (fnd st) := by rw [hst', eT]; exact hE st hst
    cases hfn : fnd st with
    | none =>
      rw [hfn] at hR hEs
      dsimp only at hR
      refine wp_next_none (N := N) hN hEs ?_
      have fin : ∀ (ls' : List (List Nat)) (vs' : List Value) (ep' : Nat) (s1 : Shared), Sim s s1 → StrsAre vs' (ls'.map S) → ls'.flatten = ls.flatten ++ T.drop st → Fr g c.env.locals s1.heap m → News g c.env.locals s1.heap ((p, LS vs' ep') :: (n ++ fr)) →
          wpAny (model PG c.w) (A.under (.builtin "re.Pattern.sub.loop" ⟨[.ref pat, .str (S T) t, .str (S repl) u, .int 0 0, .int 0 0, .int cnt 0, .int st 0, .int st 0, .bool false, .ref p, .bool false], []⟩)) (do
            let joiner ← reSlice (S T).cps 0 0 0
            let its ← seqItems? (.ref p)
            if (its.getD #[]).isEmpty = true then do
              let text ← pure joiner
              if false = true then do
                let r ← holding [text] do
                  let k ← mkInt cnt
                  newTuple [text, k]
                ret r
              else ret text
            else do
              let text ← call (.builtin (if ((0 : Nat) == 0) = true then "str.join" else "bytes.join")) [joiner, .ref p]
              if false = true then do
                let r ← holding [text] do
                  let k ← mkInt cnt
                  newTuple [text, k]
                ret r
              else ret text)
            (fun fin s' => match fin with | .done f => R (.ok f) s' | .again c' => c'.quiet = true ∧ codeAny (model PG c.w) A c' R s') (fun e s' => R (.error e) s') s1 := by
        intro ls' vs' ep' s1 S1 hS' hfl F1 N1
        have z := N1 _ (.head _)
        have hlen' : ls'.flatten.length ≤ 3 * T.length := by
          rw [hfl, List.length_append, List.length_drop]; omega
        refine wpAny_bind ?_
        show wpAny _ _ (mkStr _) _ _ s1
        refine wpAny_mkStr ?_ (by simp [Str.length])
        refine wpAny_bind (wp_seq z.1 rfl ?_)
        have hj : (⟨(S T).cps.extract 0 0⟩ : Str) = S [] := by simp
        show wpAny _ _ (if (vs'.toArray).isEmpty = true then _ else _) _ _ _
        by_cases hv : vs' = []
        · subst hv
          rw [if_pos (by rfl)]
          refine wpAny_bind (wpAny_pure ?_)
          refine wpAny_ite_false rfl (wpAny_pure ?_)
          have : ls' = [] := by
            cases ls' with
            | nil => rfl
            | cons a r => cases hS'
          subst this
          rw [← hfl] at hR
          rw [hj]
          exact hR _ _ (S1.trans ⟨_, _, rfl⟩) F1 (fun q hq => N1 q (.tail _ hq))
        · rw [if_neg (by simpa using hv)]
          refine wpAny_bind ?_
          show wpAny _ _ (call (.builtin "str.join") [.str ⟨(S T).cps.extract 0 0⟩ _, .ref p]) _ _ _
          rw [hj]
          refine PyProof.Rows.join_list (items := vs'.toArray) (ys := ls'.map S) ⟨_, z.1, rfl, _, rfl⟩ (by simpa using hS') ?_ ?_
          · have : ((ls'.map S).map (fun x => x.length)).sum = ls'.flatten.length := by
              rw [List.map_map, List.length_flatten]
              congr 1
            have hz : (S []).length = 0 := rfl
            rw [this, hz]
            omega
          · intro t' k'
            refine wpAny_ite_false rfl (wpAny_pure ?_)
            rw [join_S, hfl]
            exact hR _ _ (S1.trans ⟨_, _, rfl⟩) F1 (fun q hq => N1 q (.tail _ hq))
      dsimp only
      rw [hst', eT]
      by_cases hlt : st < T.length
      · rw [if_pos hlt]
        refine wpAny_bind ?_
        show wpAny _ _ (mkStr _) _ _ s
        refine wpAny_mkStr ?_ (by simp [Str.length]; omega)
        refine wpAny_bind (wp_push F Nw D (by omega) fun h' F' N' => ?_)
        have e1 : (⟨(S T).cps.extract st T.length⟩ : Str) = S (T.drop st) := by
          have := slice_S T st T.length
          rw [List.take_of_length_le (by simp)] at this
          exact this
        rw [e1] at N'
        exact fin (ls ++ [T.drop st]) _ _ _ ⟨_, _, rfl⟩ (strs_snoc hS) (by simp) F' N'
      · rw [if_neg hlt]
        exact fin ls vs ep s (Sim.refl s) hS (by simp [List.drop_of_length_le (Nat.le_of_not_lt hlt)]) F Nw
    | some be =>
      obtain ⟨b, e⟩ := be
      rw [hfn] at hR hEs
      dsimp only at hR
      have hbe := hf st b e hst hfn
      refine wp_next_some (N := N) hN hEs ?_
      intro m' hb he
      have again : ∀ (ls' : List (List Nat)) (vs' : List Value) (ep' : Nat) (s1 : Shared), Sim s s1 → StrsAre vs' (ls'.map S) → ls'.flatten = ls.flatten ++ (T.drop st).take (b - st) → vs'.length ≤ 2 * st + 1 → Fr g c.env.locals s1.heap m → News g c.env.locals s1.heap ((p, LS vs' ep') :: (n ++ fr)) → Nd ((p, LS vs' ep') :: (n ++ fr)) →
          wpAny (model PG c.w) (A.under (.builtin "re.Pattern.sub.loop" ⟨[.ref pat, .str (S T) t, .str (S repl) u, .int 0 0, .int 0 0, .int cnt 0, .int st 0, .int st 0, .bool false, .ref p, .bool false], []⟩)) (do
            updateSeq p fun x => x.push (.str (S repl) u)
            PySem.again (.builtin "re.Pattern.sub.loop" ⟨[.ref pat, .str (S T) t, .str (S repl) u, .int 0 0, .int 0 0, .int (cnt + 1) 0, .int m'.handed 0, .int m'.handed 0, .bool (m'.handed == m'.start), .ref p, .bool false], []⟩))
            (fun fin s' => match fin with | .done f => R (.ok f) s' | .again c' => c'.quiet = true ∧ codeAny (model PG c.w) A c' R s') (fun e s' => R (.error e) s') s1 := by
        intro ls' vs' ep' s1 S1 hS' hfl hvl' F1 N1 D1
        refine wpAny_bind (wp_push F1 N1 D1 (by omega) fun h' F' N' => ?_)
        refine wpAny_pure ⟨plainId_quiet (by decide +kernel) _, ?_⟩
        have hm : (m'.handed == m'.start) = false := by
          rw [hb, he]
          simp
          omega
        rw [hm, he]
        have htk : ((T.drop st).take (b - st)).length = b - st := by
          rw [List.length_take, List.length_drop]; omega
        refine ih (k - 1) (by omega) e (cnt + 1) (ls' ++ [repl]) _ _ p _ hbe.2.2 (by omega) (strs_snoc hS') ?_ ?_ F' N' (Nd.upd (pre := []) D1) ?_
        · rw [List.flatten_append, hfl]
          simp only [List.length_append, htk, List.flatten_cons, List.flatten_nil, List.append_nil]
          omega
        · rw [List.length_append]
          simp only [List.length_cons, List.length_nil]
          omega
        · intro s' t' S2 F2 N2
          have q := hR s' t' (S1.trans (Sim.trans ⟨_, _, rfl⟩ S2)) F2 N2
          have eq : (ls' ++ [repl]).flatten ++ subAll T repl fnd (k - 1) e = ls.flatten ++ ((T.drop st).take (b - st) ++ repl ++ subAll T repl fnd (k - 1) e) := by
            rw [List.flatten_append, hfl]
            simp
          rw [eq]
          exact q
      dsimp only
      rw [hst', hb]
      by_cases hlt : st < b
      · rw [if_pos hlt]
        refine wpAny_bind ?_
        show wpAny _ _ (mkStr _) _ _ s
        refine wpAny_mkStr ?_ (by simp [Str.length]; omega)
        refine wpAny_bind (wp_push F Nw D (by omega) fun h' F' N' => ?_)
        have e1 : (⟨(S T).cps.extract st b⟩ : Str) = S ((T.drop st).take (b - st)) := slice_S T st b
        rw [e1] at N'
        refine wpAny_ite_true rfl (wpAny_bind (wpAny_pure (wpAny_ite_true rfl ?_)))
        rw [← hb]
        exact again (ls ++ [(T.drop st).take (b - st)]) _ _ _ ⟨_, _, rfl⟩ (strs_snoc hS) (by simp) (by rw [List.length_append]; simp only [List.length_cons, List.length_nil]; omega) F' N' (Nd.upd (pre := []) D)
      · rw [if_neg hlt]
        refine wpAny_ite_true rfl (wpAny_bind (wpAny_pure (wpAny_ite_true rfl ?_)))
        have : b - st = 0 := by omega
        rw [← hb]
        exact again ls vs ep s (Sim.refl s) hS (by rw [this]; simp) (by omega) F Nw D
end


section
open PySem.Builtin.Re
theorem named_sub (a b : Value) : reNamed "re.Pattern.sub" "sub" ["repl", "string", "count"] 2 [a, b] [] = pure [some a, some b, none] := by rfl
theorem call_str : typeLookup (.type "str") "__call__" = pure none := by rw [typeLookup_type, builtinLookup_eq_fast]; kernel_rfl
variable {c : Cx} {m : FM} {n : Led} {R : Value → FM → Led → Prop}
theorem Tri.mSub {pat : Addr} {o : Obj} {pl : Sem Bool} {R : Value × List Value → FM → Led → Prop} (ho : (hd.heap_39 c.w.params).lookup pat = some o) (hc : o.cls = .type "re.Pattern") (hdn : o.dict = none) (h : R (.builtin "re.Pattern.sub", [.ref pat]) m n) :
    Tri c (getMethod (.ref pat) (Str.ofString "sub") pl) R m n := by
  intro fr g s Q E hA F N D hQ
  have hg := F.keep _ _ (hA.X _ _ ho)
  exact getMethod_builtin ⟨o, hg, hc⟩ pa_re slot_sub type_sub (fun a e => by cases e; exact ⟨o, hg, hdn⟩) (hQ _ s m n (Sim.refl s) h F N D)
theorem Tri.reSub {pat tup : Addr} {o o' : Obj} {a0 a1 a3 a4 : Value} {g2 g6 : Tok} {items : Array Value} {ep0 : Nat} {P : Array Nat} {t u : Tok} (T repl : List Nat) {fnd : Nat → Option (Nat × Nat)} {N : Nat}
    (ho : (hd.heap_39 c.w.params).lookup pat = some o) (hc : o.cls = .type "re.Pattern") (hdt : o.data = .fields #[a0, a1, .int 0 g2, a3, a4, .ref tup, .int 0 g6]) (ho' : (hd.heap_39 c.w.params).lookup tup = some o') (hd' : o'.data = .seq items ep0) (hP : (items.map reRawOf).map (·.toNat) = P)
    (hN : N ≤ 1000000000) (hE : ∀ st, st ≤ T.length → Ends (Sre.forSearch P T.toArray 0 st T.length false) N (fnd st)) (hf : ∀ st b e, st ≤ T.length → fnd st = some (b, e) → st ≤ b ∧ b < e ∧ e ≤ T.length) (hrl : repl.length ≤ 2) (hTl : T.length ≤ 2000000)
    (h92 : repl.contains 92 = false) (h : ∀ t', R (.str (S (subAll T repl fnd T.length 0)) t') m n) :
    Tri c (call (.builtin "re.Pattern.sub") [.ref pat, .str (S repl) u, .str (S T) t]) R m n := by
  intro fr g s Q E hA F Nw D hQ
  have hg := hA.X _ _ ho
  have hg' := hA.X _ _ ho'
  refine wpAny_call (codeAny_call_builtin slot_sub.plain entry_sub (slot_sub.check _ _ _ _ _ _ _ _ ⟨o, F.keep _ _ hg, hc⟩ (args_sub _ _ _) ?_))
  show wpAny _ _ (reSubstitute "re.Pattern.sub" "sub" false ⟨[.ref pat, .str (S repl) u, .str (S T) t], []⟩) _ _ s
  unfold reSubstitute
  dsimp only
  rw [named_sub]
  refine wpAny_bind (wpAny_pure ?_)
  dsimp only
  refine wpAny_bind (wpAny_pure ?_)
  refine wpAny_bind (wpAny_specialOf (typeIs_str _ _ _) call_str ?_)
  refine wpAny_bind (wpAny_pure ?_)
  refine wpAny_bind (wpAny_pure ?_)
  refine wpAny_ite_false rfl ?_
  have hlit : (!(S repl).cps.contains 92) = true := by
    rw [show (S repl).cps.contains 92 = repl.contains 92 by simp [List.contains_toArray], h92]
    rfl
  rw [if_pos hlit]
  refine wpAny_bind (wpAny_pure ?_)
  refine wpAny_bind (wpAny_holding (wp_whole (F.keep _ _ hg) hdt (F.keep _ _ hg') hd' hP ?_))
  refine wpAny_ite_false rfl ?_
  refine wpAny_bind (newList_K F Nw (fun l h' F' N' hlt => ?_) (by simp))
  refine wpAny_pure ⟨plainId_quiet (by decide +kernel) _, ?_⟩
  refine sub_loop (c := c) (g := g) (fr := fr) (n := n) (m := m) T repl hg hdt hg' hd' hP hN hE hf hrl hTl T.length 0 0 [] [] 0 l _ (Nat.zero_le _) (by omega) .nil (by simp) (by simp) F' N' (D.cons hlt) ?_
  intro s' t' S1 F1 N1
  exact hQ _ _ m n (Sim.trans ⟨_, _, rfl⟩ S1) (by simpa using h t') F1 N1 D
end

/-- each end of a row a return and a feed -/
def crlf : List Nat → List Nat
  | [] => []
  | x :: r => if x = 13 then (match r with | 10 :: r' => 13 :: 10 :: crlf r' | r => 13 :: 10 :: crlf r) else if x = 10 then 13 :: 10 :: crlf r else x :: crlf r
/-- a dot that begins a row has a dot more -/
def dots : Bool → List Nat → List Nat
  | _, [] => []
  | b, x :: r => if b = true ∧ x = 46 then 46 :: 46 :: dots false r else x :: dots (x == 10) r
theorem dots_cons (b : Bool) (x : Nat) (r : List Nat) : dots b (x :: r) = if b = true ∧ x = 46 then 46 :: 46 :: dots false r else x :: dots (x == 10) r := rfl
theorem drop_cons {T : List Nat} {s : Nat} (h : s < T.length) : T.drop s = T.getD s 0 :: T.drop (s + 1) := by
  rw [List.drop_eq_getElem_cons h]
  congr 1
  simp [List.getD, List.getElem?_eq_getElem h]
theorem getD_arr (T : List Nat) (s : Nat) : T.toArray.getD s 0 = T.getD s 0 := by
  simp [Array.getD_eq_getD_getElem?, List.getD]
theorem bol_next (T : List Nat) (s : Nat) : bol T.toArray (s + 1) = (T.getD s 0 == 10) := by
  unfold bol
  rw [getD_arr]
  simp
theorem find1_spec (T : List Nat) : ∀ (k s : Nat), s + k = T.length → match find1 T.toArray k s with
    | none => dots (bol T.toArray s) (T.drop s) = T.drop s
    | some (r, e) => e = r + 1 ∧ s ≤ r ∧ r < T.length ∧ dots (bol T.toArray s) (T.drop s) = (T.drop s).take (r - s) ++ [46, 46] ++ dots (bol T.toArray e) (T.drop e) := by
  intro k
  induction k with
  | zero =>
    intro s hs
    rw [List.drop_of_length_le (by omega)]
    rfl
  | succ k ih =>
    intro s hs
    have hlt : s < T.length := by omega
    have ih' := ih (s + 1) (by omega)
    unfold find1
    rw [drop_cons hlt, dots_cons, getD_arr]
    by_cases hc : bol T.toArray s = true ∧ T.getD s 0 = 46
    · rw [if_pos hc, if_pos hc]
      refine ⟨rfl, Nat.le_refl _, hlt, ?_⟩
      rw [bol_next, hc.2]
      simp
    · rw [if_neg hc, if_neg hc]
      rw [bol_next] at ih'
      cases hfn : find1 T.toArray k (s + 1) with
      | none =>
        rw [hfn] at ih'
        dsimp only at ih' ⊢
        rw [ih']
      | some re =>
        obtain ⟨r, e⟩ := re
        rw [hfn] at ih'
        dsimp only at ih' ⊢
        obtain ⟨h1, h2, h3, h4⟩ := ih'
        refine ⟨h1, by omega, h3, ?_⟩
        rw [h4, show r - s = (r - (s + 1)) + 1 by omega, List.take_succ_cons]
        rfl
theorem sub1 (T : List Nat) : ∀ (k st : Nat), st ≤ T.length → T.length - st ≤ k → subAll T [46, 46] (fun st => find1 T.toArray (T.length - st) st) k st = dots (bol T.toArray st) (T.drop st) := by
  intro k
  induction k with
  | zero =>
    intro st h1 h2
    show T.drop st = _
    rw [List.drop_of_length_le (by omega)]
    rfl
  | succ k ih =>
    intro st h1 h2
    have sp := find1_spec T (T.length - st) st (by omega)
    show (match find1 T.toArray (T.length - st) st with | none => _ | some (b, e) => _) = _
    cases hfn : find1 T.toArray (T.length - st) st with
    | none =>
      rw [hfn] at sp
      exact sp.symm
    | some re =>
      obtain ⟨r, e⟩ := re
      rw [hfn] at sp
      dsimp only at sp ⊢
      obtain ⟨h3, h4, h5, h6⟩ := sp
      rw [h6, ih e (by omega) (by omega)]
theorem crlf_ne {x : Nat} {r : List Nat} (h1 : x ≠ 13) (h2 : x ≠ 10) : crlf (x :: r) = x :: crlf r := by
  rw [crlf.eq_def]
  simp only [if_neg h1, if_neg h2]
theorem eol_step {T : List Nat} {s : Nat} (h : s < T.length) (he : eol T.toArray s = true) : crlf (T.drop s) = [13, 10] ++ crlf (T.drop (eolEnd T.toArray s)) ∧ s < eolEnd T.toArray s ∧ eolEnd T.toArray s ≤ T.length := by
  unfold eol at he
  unfold eolEnd
  simp only [getD_arr, List.size_toArray] at he ⊢
  rw [drop_cons h]
  by_cases h13 : T.getD s 0 = 13
  · by_cases h10 : s + 1 < T.length ∧ T.getD (s + 1) 0 = 10
    · rw [if_pos ⟨h13, h10⟩, drop_cons h10.1, h10.2, h13]
      refine ⟨?_, by omega, by omega⟩
      rw [crlf.eq_def]
      simp
    · rw [if_neg (fun q => h10 q.2), h13]
      refine ⟨?_, by omega, by omega⟩
      rw [crlf.eq_def]
      simp only [if_true]
      by_cases hl : s + 1 < T.length
      · rw [drop_cons hl]
        have hne : T.getD (s + 1) 0 ≠ 10 := fun q => h10 ⟨hl, q⟩
        split
        · rename_i r' heq
          exact absurd (List.cons.inj heq).1 hne
        · rfl
      · rw [List.drop_of_length_le (Nat.le_of_not_lt hl)]
        rfl
  · have h10 : T.getD s 0 = 10 := by
      simp only [Bool.or_eq_true, beq_iff_eq] at he
      exact he.resolve_right h13
    rw [if_neg (fun q => h13 q.1), h10]
    refine ⟨?_, by omega, by omega⟩
    rw [crlf.eq_def]
    simp
theorem place2_spec (T : List Nat) : ∀ (k s : Nat), s + k = T.length → match place2 T.toArray k s with
    | none => crlf (T.drop s) = T.drop s
    | some r => s ≤ r ∧ r < T.length ∧ eol T.toArray r = true ∧ crlf (T.drop s) = (T.drop s).take (r - s) ++ crlf (T.drop r) := by
  intro k
  induction k with
  | zero =>
    intro s hs
    rw [List.drop_of_length_le (by omega)]
    rfl
  | succ k ih =>
    intro s hs
    have hlt : s < T.length := by omega
    have ih' := ih (s + 1) (by omega)
    unfold place2
    by_cases hc : eol T.toArray s = true
    · rw [if_pos hc]
      exact ⟨Nat.le_refl _, hlt, hc, by simp⟩
    · rw [if_neg hc, drop_cons hlt]
      have hne : T.getD s 0 ≠ 13 ∧ T.getD s 0 ≠ 10 := by
        unfold eol at hc
        simp only [getD_arr, Bool.or_eq_true, beq_iff_eq, not_or] at hc
        exact ⟨hc.2, hc.1⟩
      rw [crlf_ne hne.1 hne.2]
      cases hfn : place2 T.toArray k (s + 1) with
      | none =>
        rw [hfn] at ih'
        dsimp only at ih' ⊢
        rw [ih']
      | some r =>
        rw [hfn] at ih'
        dsimp only at ih' ⊢
        obtain ⟨h1, h2, h3, h4⟩ := ih'
        refine ⟨by omega, h2, h3, ?_⟩
        rw [h4, show r - s = (r - (s + 1)) + 1 by omega, List.take_succ_cons]
        rfl
theorem sub2 (T : List Nat) : ∀ (k st : Nat), st ≤ T.length → T.length - st ≤ k → subAll T [13, 10] (fun st => find2 T.toArray (T.length - st) st) k st = crlf (T.drop st) := by
  intro k
  induction k with
  | zero =>
    intro st h1 h2
    show T.drop st = _
    rw [List.drop_of_length_le (by omega)]
    rfl
  | succ k ih =>
    intro st h1 h2
    have sp := place2_spec T (T.length - st) st (by omega)
    show (match find2 T.toArray (T.length - st) st with | none => _ | some (b, e) => _) = _
    cases hfn : place2 T.toArray (T.length - st) st with
    | none =>
      rw [hfn] at sp
      have e2 : find2 T.toArray (T.length - st) st = none := by unfold find2; rw [hfn]; rfl
      rw [e2]
      exact sp.symm
    | some r =>
      rw [hfn] at sp
      have e2 : find2 T.toArray (T.length - st) st = some (r, eolEnd T.toArray r) := by unfold find2; rw [hfn]; rfl
      rw [e2]
      dsimp only at sp ⊢
      obtain ⟨h3, h4, h5, h6⟩ := sp
      obtain ⟨h7, h8, h9⟩ := eol_step h4 h5
      rw [h6, h7, ih _ h9 (by omega)]
      simp
theorem crlf_10 (r : List Nat) : crlf (10 :: r) = 13 :: 10 :: crlf r := by rw [crlf.eq_def]; simp
theorem crlf_1310 (r : List Nat) : crlf (13 :: 10 :: r) = 13 :: 10 :: crlf r := by rw [crlf.eq_def]; simp
theorem crlf_13 {r : List Nat} (h : ∀ r', r ≠ 10 :: r') : crlf (13 :: r) = 13 :: 10 :: crlf r := by
  rw [crlf.eq_def]
  simp only [if_true]
theorem crlf_length : ∀ (k : Nat) (T : List Nat), T.length ≤ k → (crlf T).length ≤ 2 * T.length := by
  intro k
  induction k with
  | zero =>
    intro T h
    have : T = [] := List.length_eq_zero_iff.mp (by omega)
    subst this
    simp [crlf]
  | succ k ih =>
    intro T h
    cases T with
    | nil => simp [crlf]
    | cons x r =>
      simp only [List.length_cons] at h
      have ihr := ih r (by omega)
      by_cases h13 : x = 13
      · subst h13
        by_cases h10 : ∃ r', r = 10 :: r'
        · obtain ⟨r', rfl⟩ := h10
          have := ih r' (by simp only [List.length_cons] at h; omega)
          rw [crlf_1310]
          simp only [List.length_cons]
          omega
        · rw [crlf_13 (fun r' q => h10 ⟨r', q⟩)]
          simp only [List.length_cons]
          omega
      · by_cases h10 : x = 10
        · subst h10
          rw [crlf_10]
          simp only [List.length_cons]
          omega
        · rw [crlf_ne h13 h10]
          simp only [List.length_cons]
          omega
theorem dots_length : ∀ (T : List Nat) (b : Bool), (dots b T).length ≤ 2 * T.length
  | [], _ => by simp [dots]
  | x :: r, b => by
    rw [dots_cons]
    have h1 := dots_length r false
    have h2 := dots_length r (x == 10)
    split <;> simp only [List.length_cons] <;> omega
def quo (T : List Nat) : List Nat := dots true (crlf T)
theorem quo_length (T : List Nat) : (quo T).length ≤ 4 * T.length := by
  have h1 := dots_length (crlf T) true
  have h2 := crlf_length _ T (Nat.le_refl _)
  unfold quo
  omega
theorem lit_crlf : Str.ofString "\x0d\n" = S [13, 10] := by decide +kernel
theorem lit_dots : Str.ofString ".." = S [46, 46] := by decide +kernel
section
variable {c : Cx} {m : FM} {n : Led} {R : Value → FM → Led → Prop}
local macro_rules | `(tactic| walk_at "get") => `(tactic| exact g_quo_data)
theorem quotedata_str {T : List Nat} {t : Tok} (hr : Room c 1) (hT : T.length ≤ 500000) (h : ∀ t', R (.str (S (quo T)) t') m n) : Tri c (call (.ref 76) [.str (S T) t]) R m n := by
  refine Tri.enter (binds := [(Str.ofString "data", .str (S T) t)]) (m₀ := frL nm_quo [some (.str (S T) t)]) hr rfl rfl rfl rfl (initFr1 (k := 0)) (fun L' => ?_)
  have h2 := crlf_length _ T (Nat.le_refl _)
  walk_at "t"
  walk_at "t"
  walk_at "t"
  walk_at "t"
  refine Tri.mSub (pat := 64) rfl rfl rfl ?_
  repeat walk_at "t"
  refine Tri.mSub (pat := 69) rfl rfl rfl ?_
  repeat walk_at "t"
  rw [lit_crlf]
  refine Tri.reSub (pat := 69) (tup := 68) (P := P2) T [13, 10] (fnd := fun st => find2 T.toArray (T.length - st) st) (N := 3 * T.length + 50) rfl rfl rfl rfl rfl (by decide +kernel) (by omega) ?_ ?_ (by simp) (by omega) (by decide) ?_
  · intro st hst
    have := forSearch2 T.toArray st (by simpa using hst)
    simpa using this
  · intro st b e hst hfn
    have sp := place2_spec T (T.length - st) st (by omega)
    cases hp : place2 T.toArray (T.length - st) st with
    | none => simp [find2, hp] at hfn
    | some r =>
      rw [hp] at sp
      dsimp only at sp
      simp only [find2, hp, Option.map_some, Option.some.injEq, Prod.mk.injEq] at hfn
      obtain ⟨rfl, rfl⟩ := hfn
      have := eol_step sp.2.1 sp.2.2.1
      exact ⟨sp.1, this.2.1, this.2.2⟩
  intro t'
  rw [sub2 T T.length 0 (Nat.zero_le _) (by omega), List.drop_zero]
  repeat walk_at "t"
  rw [lit_dots]
  refine Tri.reSub (pat := 64) (tup := 63) (P := P1) (crlf T) [46, 46] (fnd := fun st => find1 (crlf T).toArray ((crlf T).length - st) st) (N := 3 * (crlf T).length + 20) rfl rfl rfl rfl rfl (by decide +kernel) (by omega) ?_ ?_ (by simp) (by omega) (by decide) ?_
  · intro st hst
    have := forSearch1 (crlf T).toArray st (by simpa using hst)
    simpa using this
  · intro st b e hst hfn
    have sp := find1_spec (crlf T) ((crlf T).length - st) st (by omega)
    rw [hfn] at sp
    dsimp only at sp
    omega
  intro t''
  rw [sub1 (crlf T) (crlf T).length 0 (Nat.zero_le _) (by omega), List.drop_zero]
  exact h _
end


theorem contains_S (l : List Nat) (k : Nat) : Txt.contains (S l) (S [k]) = decide (k ∈ l) := by
  show (!(Builtin.Str.occurrences (S l) ⟨#[k]⟩ 0 (S l).length 1).isEmpty) = _
  rw [StrLaws.found_one]
theorem lit_Mm : Str.ofString "Mm-" = S [77, 109, 45] := by decide +kernel
theorem lit_Jj : Str.ofString "Jj*" = S [74, 106, 42] := by decide +kernel
theorem lit_J : Str.ofString "J" = S [74] := by decide +kernel
theorem lit_dot : Str.ofString "." = S [46] := by decide +kernel
theorem lit_nil : Str.ofString "" = S [] := by decide +kernel
theorem lit_9f : Str.ofString "\u009f" = S [159] := by decide +kernel
theorem lit_9f3 : Str.ofString "!^_" = S [33, 94, 95] := by decide +kernel
theorem lit_c9f : Str.ofString "^\u009f" = S [94, 159] := by decide +kernel
theorem lit_table : Str.ofString "@ABCDEFGHIJKLMNOPQRSTUVWXYZ[\\]^_" = S ((List.range 32).map (64 + ·)) := by decide +kernel
theorem beq_S (a b : List Nat) : (S a == S b) = decide (a = b) := by
  by_cases h : a = b
  · subst h; simp
  · have : S a ≠ S b := fun q => h (by have := congrArg Str.cps q; simpa using this)
    simp [h, beq_eq_false_iff_ne.mpr this]
def ahd (k : Nat) : List Nat := if k / 128 % 2 = 1 then [33] else []
theorem unc_low {k : Nat} (h : k % 128 < 32) : unc k = ahd k ++ [94, 64 + k % 128] := by
  have h1 : ¬ ((k : Int) = 127) := by omega
  have h2 : isp ((k : Int) % 128) = false := by
    have : ¬ (32 ≤ (k : Int) % 128) := by omega
    simp [isp, this]
  have h3 : ¬ ((k : Int) % 128 / 32 % 2 = 1) := by omega
  have h4 : ((k : Int) % 128 + 32 + 32).toNat = 64 + k % 128 := by omega
  unfold unc ahd
  simp only [h1, h2, h3, h4, if_false, Bool.false_eq_true]
  by_cases hc : k / 128 % 2 = 1
  · have : (k : Int) / 128 % 2 = 1 := by omega
    simp [hc, this]
  · have : ¬ (k : Int) / 128 % 2 = 1 := by omega
    simp [hc, this]
theorem unc_127 : unc ((127 : Nat) : Int) = [94, 63] := by decide +kernel
theorem unc_del {k : Nat} (h : k % 128 = 127) (hk : k ≠ 127) : unc k = ahd k ++ [94, 159] := by
  have h1 : ¬ ((k : Int) = 127) := by omega
  have h2 : isp ((k : Int) % 128) = false := by
    have : ¬ ((k : Int) % 128 ≤ 126) := by omega
    simp [isp, this]
  have h3 : ((k : Int) % 128 / 32 % 2 = 1) := by omega
  have h4 : ((k : Int) % 128 + 32).toNat = 159 := by omega
  unfold unc ahd
  simp only [h1, h2, h3, h4, if_false, if_true, Bool.false_eq_true]
  by_cases hc : k / 128 % 2 = 1
  · have : (k : Int) / 128 % 2 = 1 := by omega
    simp [hc, this]
  · have : ¬ (k : Int) / 128 % 2 = 1 := by omega
    simp [hc, this]
theorem unc_mid {k : Nat} (h0 : 32 ≤ k % 128) (h : k % 128 ≤ 126) : unc k = ahd k ++ [k % 128] := by
  have h1 : ¬ ((k : Int) = 127) := by omega
  have h2 : isp ((k : Int) % 128) = true := by
    have a : (32 ≤ (k : Int) % 128) := by omega
    have b : ((k : Int) % 128 ≤ 126) := by omega
    simp [isp, a, b]
  have h4 : ((k : Int) % 128).toNat = k % 128 := by omega
  unfold unc ahd
  simp only [h1, h2, h4, if_false, if_true]
  by_cases hc : k / 128 % 2 = 1
  · have : (k : Int) / 128 % 2 = 1 := by omega
    simp [hc, this]
  · have : ¬ (k : Int) / 128 % 2 = 1 := by omega
    simp [hc, this]
section
variable {c : Cx} {m : FM} {n : Led} {R : Value → FM → Led → Prop}
local macro_rules | `(tactic| walk_at "get") => `(tactic| first | exact g_look_code | exact g_look_low | exact g_look_ahead)
local macro_rules | `(tactic| walk_at "set") => `(tactic| first | exact p_look_low | exact p_look_ahead)
theorem look_int {k : Nat} {t : Tok} (hr : Room c 1) (h : ∀ t', R (.str (S (unc k)) t') m n) : Tri c (call (.ref 104) [.int k t]) R m n := by
  have hsl := sl_ge
  refine Tri.enter (binds := [(Str.ofString "code", .int k t)]) (m₀ := frL nm_look [some (.int k t), none, none]) hr rfl rfl rfl rfl (initFr1 (k := 2)) (fun L' => ?_)
  repeat walk_at "t"
  refine Tri.modInt (by decide) fun _ => ?_
  repeat walk_at "t"
  refine Tri.divInt (by decide) (by decide) fun _ => ?_
  repeat walk_at "t"
  refine Tri.modInt (by decide) fun _ => ?_
  repeat walk_at "t"
  refine ⟨fun hc => ?_, fun hc => ?_⟩
  all_goals
    have ha : ahd k = [33] ∨ ahd k = [] := by unfold ahd; split <;> simp
    first
      | (have ha : ahd k = [33] := by (have hc : (k : Int) / 128 % 2 = 1 := by simpa using hc); unfold ahd; rw [if_pos (by omega)])
      | (have ha : ahd k = [] := by (have hc : ¬ (k : Int) / 128 % 2 = 1 := by simpa using hc); unfold ahd; rw [if_neg (by omega)])
    repeat walk_at "t"
    first | rw [lit_bang] | rw [lit_nil]
    refine ⟨fun hl => ?_, fun hl => ?_⟩
    · have hl : (k : Int) % 128 < 32 := by simpa using hl
      repeat walk_at "t"
      rw [lit_caret]
      refine Tri.addStr (by simp [Str.length]; omega) fun _ => ?_
      repeat walk_at "t"
      rw [lit_table]
      refine Tri.itemStr (k := 64 + k % 128) (by omega) (by simp [Str.length]; omega) ?_ (fun _ => ?_)
      · have e : ((k : Int) % 128).toNat = k % 128 := by omega
        rw [e]
        have : k % 128 < 32 := by omega
        simp [this]
      · refine Tri.addStr (by rw [S_append, S_length]; simp [Str.length]; omega) fun _ => ?_
        rw [unc_low (by omega), ha] at h
        rw [S_append, S_append]
        exact h _
    · have hl : ¬ (k : Int) % 128 < 32 := by simpa using hl
      repeat walk_at "t"
      refine ⟨fun hk => ?_, fun hk => ?_⟩
      · have hk : (k : Int) = 127 := by simpa using hk
        have hk : k = 127 := by omega
        subst hk
        repeat walk_at "t"
        rw [unc_127] at h
        rw [lit_caretq]
        exact h _
      · have hk : (k : Int) ≠ 127 := by simpa using hk
        repeat walk_at "t"
        refine ⟨fun hd => ?_, fun hd => ?_⟩
        · have hd : (k : Int) % 128 = 127 := by simpa using hd
          repeat walk_at "t"
          rw [lit_c9f]
          refine Tri.addStr (by simp [Str.length]; omega) fun _ => ?_
          rw [unc_del (by omega) (by omega), ha] at h
          rw [S_append]
          exact h _
        · have hd : (k : Int) % 128 ≠ 127 := by simpa using hd
          repeat walk_at "t"
          refine Tri.chr (by omega) (by omega) fun _ => ?_
          refine Tri.addStr (by simp [Str.length]; omega) fun _ => ?_
          rw [unc_mid (by omega) (by omega), ha] at h
          have e : ((k : Int) % 128).toNat = k % 128 := by omega
          have q := h
          rw [← S_append, ← e] at q
          exact q _
end


theorem lookup_snoc (y x : Str) (v : Value) : ∀ (l : List (Str × Value)), x ∉ l.map (·.1) → (l ++ [(x, v)]).lookup y = if y = x then some v else l.lookup y
  | [], _ => by
    simp only [List.nil_append, List.lookup_cons, List.lookup_nil]
    by_cases h : y = x
    · subst h; simp
    · have : (y == x) = false := by simpa using h
      simp [h, this]
  | (a, w) :: l, hn => by
    simp only [List.map_cons, List.mem_cons, not_or] at hn
    have ih := lookup_snoc y x v l hn.2
    simp only [List.cons_append, List.lookup_cons]
    by_cases ha : y = a
    · subst ha
      have : ¬ y = x := fun q => hn.1 q.symm
      simp [this]
    · have hb : (y == a) = false := by simpa using ha
      simp only [hb]
      exact ih
theorem initFr (ps : List (Str × Value)) (xs : List Str) (k : Nat) (hn : (ps.map (·.1)).Nodup) : (fun y => ps.reverse.lookup y) = frL (ps.map (·.1) ++ xs) (ps.map (fun p => some p.2) ++ List.replicate k none) := by
  funext y
  induction ps with
  | nil =>
    have hnone : ∀ (xs : List Str) (k : Nat), frL xs (List.replicate k none) y = none := by
      intro xs
      induction xs with
      | nil => intro k; cases k <;> rfl
      | cons a r ih =>
        intro k
        cases k with
        | zero => rfl
        | succ k => simp only [List.replicate_succ, frL, ih]; split <;> rfl
    simp only [List.reverse_nil, List.lookup_nil, List.map_nil, List.nil_append, hnone]
  | cons p ps ih =>
    simp only [List.map_cons, List.nodup_cons] at hn
    rw [List.reverse_cons, show [p] = [(p.1, p.2)] from rfl, lookup_snoc _ _ _ _ (by simpa [List.map_reverse] using hn.1), ih hn.2]
    simp only [List.map_cons, List.cons_append, frL]
def moreF : Nat → List Int → Nat
  | _, [] => 0
  | k, x :: r => if (x = 13 ∧ k ∈ [77, 109, 45]) ∨ (x = 10 ∧ k ∈ [74, 106, 42]) then moreF 74 r + 1 else moreF k r
theorem moreF_cons (k : Nat) (x : Int) (r : List Int) : moreF k (x :: r) = if (x = 13 ∧ k ∈ [77, 109, 45]) ∨ (x = 10 ∧ k ∈ [74, 106, 42]) then moreF 74 r + 1 else moreF k r := rfl
section
variable {c : Cx} {m : FM} {n : Led} {R : Value → FM → Led → Prop}
local macro_rules | `(tactic| walk_at "get") => `(tactic| first | exact g_more_sign | exact g_more_marks | exact g_more_more | exact g_more_mark)
local macro_rules | `(tactic| walk_at "set") => `(tactic| first | exact p_more_sign | exact p_more_more | exact p_more_mark)
theorem more_str {k : Nat} {t : Tok} {l : Addr} {vs : List Value} {ep : Nat} {marks : List Int} (hr : Room c 1) (hl : (l, LS vs ep) ∈ n) (hi : IntsAre vs marks) (hlen : marks.length ≤ 1000) (h : ∀ t', R (.int (moreF k marks) t') m n) :
    Tri c (call (.ref 116) [.str (S [k]) t, .ref l]) R m n := by
  have hsl := sl_ge
  have hll : vs.length = marks.length := hi.length
  refine Tri.enter (binds := [(Str.ofString "sign", .str (S [k]) t), (Str.ofString "marks", .ref l)]) (m₀ := frL nm_more [some (.str (S [k]) t), some (.ref l), none, none]) hr rfl rfl rfl rfl (initFr _ [Str.ofString "more", Str.ofString "mark"] 2 (by simp only [List.map_cons, List.map_nil]; decide +kernel)) (fun L' => ?_)
  repeat walk_at "t"
  refine Tri.for_ ?_
  repeat walk_at "t"
  refine ⟨_, _, _, Thru.list (hr.into rfl rfl : Room _ 0).1 hl, fun i m' n' => n' = n ∧ ∃ k' t1 cnt t2 v3, m' = frL nm_more [some (.str (S [k']) t1), some (.ref l), some (.int (cnt : Nat) t2), v3] ∧ cnt + moreF k' (marks.drop i) = moreF k marks, ⟨rfl, k, t, 0, _, none, rfl, by simp⟩, ?_, ?_, ?_⟩
  · rintro i m1 n1 ⟨rfl, -⟩
    exact hl
  · rintro i v m1 n1 hlt hv ⟨rfl, k', t1, cnt, t2, v3, rfl, hc⟩
    obtain ⟨x, t3, rfl, hx⟩ := IntsAre.at hi i v hv
    have hlt' : i < marks.length := by omega
    have hd : marks.drop i = x :: marks.drop (i + 1) := by
      rw [List.drop_eq_getElem_cons hlt']
      congr 1
      rw [List.getElem?_eq_getElem hlt'] at hx
      exact Option.some.inj hx
    rw [hd, moreF_cons] at hc
    rw [p_more_mark]
    have hit : ∀ t4 t5, ((x = 13 ∧ k' ∈ [77, 109, 45]) ∨ (x = 10 ∧ k' ∈ [74, 106, 42])) → n1 = n1 ∧ ∃ k'' t1 cnt' t2 v3, frL nm_more [some (.str (Str.ofString "J") t4), some (.ref l), some (.int ((cnt : Int) + 1) t5), some (.int x t3)] = frL nm_more [some (.str (S [k'']) t1), some (.ref l), some (.int (cnt' : Nat) t2), v3] ∧ cnt' + moreF k'' (marks.drop (i + 1)) = moreF k marks := by
      intro t4 t5 hh
      rw [if_pos hh] at hc
      refine ⟨rfl, 74, t4, cnt + 1, t5, _, by rw [lit_J]; rfl, by omega⟩
    have miss : ¬ ((x = 13 ∧ k' ∈ [77, 109, 45]) ∨ (x = 10 ∧ k' ∈ [74, 106, 42])) → n1 = n1 ∧ ∃ k'' t1' cnt' t2' v3, frL nm_more [some (.str (S [k']) t1), some (.ref l), some (.int (cnt : Int) t2), some (.int x t3)] = frL nm_more [some (.str (S [k'']) t1'), some (.ref l), some (.int (cnt' : Nat) t2'), v3] ∧ cnt' + moreF k'' (marks.drop (i + 1)) = moreF k marks := by
      intro hh
      rw [if_neg hh] at hc
      exact ⟨rfl, k', t1, cnt, t2, _, rfl, hc⟩
    have eM : Txt.contains (Str.ofString "Mm-") (S [k']) = decide (k' ∈ [77, 109, 45]) := by rw [lit_Mm, contains_S]
    have eJ : Txt.contains (Str.ofString "Jj*") (S [k']) = decide (k' ∈ [74, 106, 42]) := by rw [lit_Jj, contains_S]
    repeat walk_at "t"
    refine ⟨fun h13 => ?_, fun h13 => ?_⟩
    · have h13 : x = 13 := by simpa using h13
      repeat walk_at "t"
      rw [eM]
      refine ⟨fun hs => ?_, fun hs => ?_⟩
      · have hs := of_decide_eq_true hs
        repeat walk_at "t"
        exact (hit _ _ (.inl ⟨h13, hs⟩)).2
      · have hs := of_decide_eq_false hs
        repeat walk_at "t"
        refine ⟨fun h10 => ?_, fun h10 => ?_⟩
        · have h10 : x = 10 := by simpa using h10
          omega
        · repeat walk_at "t"
          exact (miss (fun q => q.elim (fun q => hs q.2) (fun q => by omega))).2
    · have h13 : x ≠ 13 := by simpa using h13
      repeat walk_at "t"
      refine ⟨fun h10 => ?_, fun h10 => ?_⟩
      · have h10 : x = 10 := by simpa using h10
        repeat walk_at "t"
        rw [eJ]
        refine ⟨fun hs => ?_, fun hs => ?_⟩
        · have hs := of_decide_eq_true hs
          repeat walk_at "t"
          exact (hit _ _ (.inr ⟨h10, hs⟩)).2
        · have hs := of_decide_eq_false hs
          repeat walk_at "t"
          exact (miss (fun q => q.elim (fun q => h13 q.1) (fun q => hs q.2))).2
      · have h10 : x ≠ 10 := by simpa using h10
        repeat walk_at "t"
        exact (miss (fun q => q.elim (fun q => h13 q.1) (fun q => h10 q.1))).2
  · rintro m1 n1 ⟨rfl, k', t1, cnt, t2, v3, rfl, hc⟩
    rw [hll, List.drop_length] at hc
    have hc : cnt = moreF k marks := by simpa [moreF] using hc
    subst hc
    repeat walk_at "t"
    exact h _
end


def sentF : Nat → List Nat → List Nat
  | _, [] => []
  | b, x :: r => (if x = 13 ∨ (x = 10 ∧ b ≠ 13) then [13, 10] else if x ≠ 10 then (if x = 46 ∧ (b = 10 ∨ b = 13) then [46, x] else [x]) else []) ++ sentF x r
theorem sentF_cons (b x : Nat) (r : List Nat) : sentF b (x :: r) = (if x = 13 ∨ (x = 10 ∧ b ≠ 13) then [13, 10] else if x ≠ 10 then (if x = 46 ∧ (b = 10 ∨ b = 13) then [46, x] else [x]) else []) ++ sentF x r := rfl
abbrev nis (l : List Nat) : List Int := l.map (fun k => ((k : Nat) : Int))
theorem nis_snoc {vs : List Value} {l : List Nat} {k : Nat} {t : Tok} (h : IntsAre vs (nis l)) : IntsAre (vs ++ [.int k t]) (nis (l ++ [k])) := by
  have : nis (l ++ [k]) = nis l ++ [(k : Int)] := by simp [nis]
  rw [this]
  exact IntsAre.append h (.cons _ _ .nil)
theorem beqT {x y : Int} (h : (x == y) = true) : x = y := by simpa using h
theorem beqF {x y : Int} (h : (x == y) = false) : x ≠ y := by simpa using h
theorem bneT {x y : Int} (h : (x != y) = true) : x ≠ y := by simpa using h
theorem bneF {x y : Int} (h : (x != y) = false) : x = y := by simpa using h
def SentJ (d l : Addr) (n : Led) (codes : List Nat) (i : Nat) (m' : FM) (n' : Led) : Prop := ∃ ws k out b t v3, n' = (d, LS ws k) :: n ∧ IntsAre ws (nis out) ∧ out.length ≤ 2 * i ∧ m' = frL nm_sent [some (.ref l), some (.ref d), some (.int (b : Nat) t), v3] ∧ out ++ sentF b (codes.drop i) = sentF 10 codes
section
variable {c : Cx} {m : FM} {n : Led} {R : Value → FM → Led → Prop}
local macro_rules | `(tactic| walk_at "get") => `(tactic| first | exact g_sent_codes | exact g_sent_sent | exact g_sent_before | exact g_sent_code)
local macro_rules | `(tactic| walk_at "set") => `(tactic| first | exact p_sent_codes | exact p_sent_sent | exact p_sent_before | exact p_sent_code)
theorem sent_list {l : Addr} {vs : List Value} {ep : Nat} {codes : List Nat} (hr : Room c 1) (hl : (l, LS vs ep) ∈ n) (hi : IntsAre vs (nis codes)) (hlen : codes.length ≤ 1000)
    (h : ∀ d ws k, IntsAre ws (nis (sentF 10 codes)) → R (.ref d) m ((d, LS ws k) :: n)) : Tri c (call (.ref 97) [.ref l]) R m n := by
  have hsl := sl_ge
  have hll : vs.length = codes.length := by rw [hi.length]; simp
  refine Tri.enter (binds := [(Str.ofString "codes", .ref l)]) (m₀ := frL nm_sent [some (.ref l), none, none, none]) hr rfl rfl rfl rfl (initFr1 (k := 3)) (fun L' => ?_)
  repeat walk_at "t"
  refine Tri.newList (by simp) fun d => ?_
  repeat walk_at "t"
  refine Tri.for_ ?_
  repeat walk_at "t"
  refine ⟨_, _, _, Thru.list (hr.into rfl rfl : Room _ 0).1 (.tail _ hl), SentJ d l n codes,
    ⟨[], 0, [], 10, _, none, rfl, .nil, by simp, rfl, by simp⟩, ?_, ?_, ?_⟩
  · rintro i m1 n1 ⟨ws, k, out, b, t, v3, rfl, -⟩
    exact .tail _ hl
  · rintro i v m1 n1 hlt hv ⟨ws, k, out, b, t, v3, rfl, hws, hol, rfl, hout⟩
    obtain ⟨x', t3, rfl, hx⟩ := IntsAre.at hi i v hv
    have hlt' : i < codes.length := by omega
    obtain ⟨x, rfl⟩ : ∃ x : Nat, x' = x := by
      rw [List.getElem?_map, List.getElem?_eq_getElem hlt'] at hx
      exact ⟨_, (Option.some.inj hx).symm⟩
    have hd : codes.drop i = x :: codes.drop (i + 1) := by
      rw [List.drop_eq_getElem_cons hlt']
      congr 1
      rw [List.getElem?_map, List.getElem?_eq_getElem hlt'] at hx
      have this : ((codes[i] : Nat) : Int) = (x : Int) := Option.some.inj hx
      omega
    rw [hd, sentF_cons] at hout
    have hwl : ws.length = out.length := by rw [hws.length]; simp
    rw [p_sent_code]
    have fin : ∀ ws' k' ex t4, IntsAre ws' (nis (out ++ ex)) → ex.length ≤ 2 → ex ++ sentF x (codes.drop (i + 1)) = (if x = 13 ∨ (x = 10 ∧ b ≠ 13) then [13, 10] else if x ≠ 10 then (if x = 46 ∧ (b = 10 ∨ b = 13) then [46, x] else [x]) else []) ++ sentF x (codes.drop (i + 1)) →
        SentJ d l n codes (i + 1) (frL nm_sent [some (.ref l), some (.ref d), some (.int (x : Nat) t4), some (.int (x : Nat) t3)]) ((d, LS (ws') k') :: n) := by
      intro ws' k' ex t4 h1 h2 h3
      refine ⟨ws', k', out ++ ex, x, t4, _, rfl, h1, by rw [List.length_append]; omega, rfl, ?_⟩
      rw [List.append_assoc, h3, hout]
    have two : ∀ (hx : x = 13 ∨ (x = 10 ∧ b ≠ 13)) t5 t6 k' t4, SentJ d l n codes (i + 1) (frL nm_sent [some (.ref l), some (.ref d), some (.int (x : Nat) t4), some (.int (x : Nat) t3)]) ((d, LS ((ws ++ [.int 13 t5, .int 10 t6])) k') :: n) := by
      intro hx t5 t6 k' t4
      refine fin _ k' [13, 10] t4 ?_ (by simp) (by rw [if_pos hx])
      have : nis (out ++ [13, 10]) = nis out ++ [13, 10] := by simp [nis]
      rw [this]
      exact IntsAre.append hws (.cons _ _ (.cons _ _ .nil))
    repeat walk_at "t"
    refine ⟨fun h13 => ?_, fun h13 => ?_⟩
    · have h13 : x = 13 := by have := beqT h13; omega
      repeat walk_at "t"
      refine Tri.mExtend (.head _) ?_
      repeat walk_at "t"
      refine Tri.newList (by simp; omega) fun tmp => ?_
      walk_at "t"
      refine Tri.extend (pre := [(tmp, LS [.int 13 _, .int 10 _] 0)]) (post := n) (d := d) (vs := ws) (k := k) (ws := [.int 13 _, .int 10 _]) (k' := 0) (List.mem_append_left _ (.head _)) (by simp) (by simp; omega) ?_
      refine ⟨rfl, ?_⟩
      refine Tri.drop ?_
      repeat walk_at "t"
      exact two (.inl h13) _ _ _ _
    · have h13 : x ≠ 13 := by have := beqF h13; omega
      repeat walk_at "t"
      refine ⟨fun h10 => ?_, fun h10 => ?_⟩
      · have h10 : x = 10 := by have := beqT h10; omega
        repeat walk_at "t"
        refine ⟨fun hb => ?_, fun hb => ?_⟩
        · have hb : b ≠ 13 := by have := bneT hb; omega
          repeat walk_at "t"
          refine Tri.mExtend (.head _) ?_
          repeat walk_at "t"
          refine Tri.newList (by simp; omega) fun tmp => ?_
          walk_at "t"
          refine Tri.extend (pre := [(tmp, LS [.int 13 _, .int 10 _] 0)]) (post := n) (d := d) (vs := ws) (k := k) (ws := [.int 13 _, .int 10 _]) (k' := 0) (List.mem_append_left _ (.head _)) (by simp) (by simp; omega) ?_
          refine ⟨rfl, ?_⟩
          refine Tri.drop ?_
          repeat walk_at "t"
          exact two (.inr ⟨h10, hb⟩) _ _ _ _
        · have hb : b = 13 := by have := bneF hb; omega
          repeat walk_at "t"
          refine ⟨fun q => ?_, fun _ => ?_⟩
          · have := bneT q
            omega
          · repeat walk_at "t"
            exact fin ws k [] _ (by simpa using hws) (by simp) (by rw [if_neg (by omega), if_neg (by omega)])
      · have h10 : x ≠ 10 := by have := beqF h10; omega
        repeat walk_at "t"
        refine ⟨fun _ => ?_, fun q => ?_⟩
        · have e0 : ¬ (x = 13 ∨ (x = 10 ∧ b ≠ 13)) := by omega
          have one : ∀ (hx : ¬ (x = 46 ∧ (b = 10 ∨ b = 13))) k' t4, SentJ d l n codes (i + 1) (frL nm_sent [some (.ref l), some (.ref d), some (.int (x : Nat) t4), some (.int (x : Nat) t3)]) ((d, LS ((ws ++ [.int x t3])) k') :: n) := by
            intro hx k' t4
            exact fin _ k' [x] t4 (nis_snoc hws) (by simp) (by rw [if_neg e0, if_pos h10, if_neg hx])
          repeat walk_at "t"
          refine ⟨fun h46 => ?_, fun h46 => ?_⟩
          · have h46 : x = 46 := by have := beqT h46; omega
            repeat walk_at "t"
            refine Tri.newList (by simp; omega) fun tmp => ?_
            refine Tri.inInts At.head (.cons _ _ (.cons _ _ .nil)) ?_
            repeat walk_at "t"
            refine ⟨fun hb => ?_, fun hb => ?_⟩
            · have hb : b = 10 ∨ b = 13 := by
                simp only [List.any_cons, List.any_nil, Bool.or_false, Bool.or_eq_true, beq_iff_eq] at hb
                omega
              repeat walk_at "t"
              refine Tri.mAppend (.tail _ (.head _)) ?_
              repeat walk_at "t"
              refine Tri.append (pre := [_]) (post := n) (d := d) (vs := ws) (k := k) (by omega) ?_
              refine ⟨rfl, ?_⟩
              refine Tri.drop ?_
              repeat walk_at "t"
              refine Tri.mAppend (.head _) ?_
              repeat walk_at "t"
              refine Tri.append (pre := []) (post := n) (d := d) (vs := ws ++ [_]) (k := k + 1) (by simp; omega) ?_
              repeat walk_at "t"
              refine fin _ _ [46, x] _ ?_ (by simp) (by rw [if_neg e0, if_pos h10, if_pos ⟨h46, hb⟩])
              have : nis (out ++ [46, x]) = nis ((out ++ [46]) ++ [x]) := by simp
              rw [this]
              exact nis_snoc (nis_snoc (k := 46) hws)
            · have hb : ¬ (b = 10 ∨ b = 13) := by
                simp only [List.any_cons, List.any_nil, Bool.or_false, Bool.or_eq_false_iff, beq_eq_false_iff_ne] at hb
                omega
              repeat walk_at "t"
              refine Tri.mAppend (.tail _ (.head _)) ?_
              repeat walk_at "t"
              refine Tri.append (pre := [_]) (post := n) (d := d) (vs := ws) (k := k) (by omega) ?_
              refine ⟨rfl, ?_⟩
              refine Tri.drop ?_
              repeat walk_at "t"
              exact one (fun q => hb q.2) _ _
          · have h46 : x ≠ 46 := by have := beqF h46; omega
            repeat walk_at "t"
            refine Tri.mAppend (.head _) ?_
            repeat walk_at "t"
            refine Tri.append (pre := []) (post := n) (d := d) (vs := ws) (k := k) (by omega) ?_
            repeat walk_at "t"
            exact one (fun q => h46 q.1) _ _
        · have := bneF q
          omega
  · rintro m1 n1 ⟨ws, k, out, b, t, v3, rfl, hws, hol, rfl, hout⟩
    rw [hll, List.drop_length] at hout
    have hout : out = sentF 10 codes := by simpa [sentF] using hout
    subst hout
    repeat walk_at "t"
    exact h _ _ _ hws
end


def rnd : Nat → Nat → Nat → Nat × List Int
  | 0, a, _ => (a, [])
  | f + 1, a, b => if a = b then (a, []) else if a < b then ((rnd f a (b - a)).1, 13 :: (rnd f a (b - a)).2) else ((rnd f (a - b) b).1, 10 :: (rnd f (a - b) b).2)
theorem rnd_succ (f a b : Nat) : rnd (f + 1) a b = if a = b then (a, []) else if a < b then ((rnd f a (b - a)).1, 13 :: (rnd f a (b - a)).2) else ((rnd f (a - b) b).1, 10 :: (rnd f (a - b) b).2) := rfl
def RoundsJ (d : Addr) (n : Led) (a0 b0 k : Nat) (m' : FM) (n' : Led) : Prop := ∃ ws ep out a b t u, n' = (d, LS ws ep) :: n ∧ IntsAre ws out ∧ out.length + k = a0 + b0 ∧ m' = frL nm_rounds [some (.int (a : Nat) t), some (.int (b : Nat) u), some (.ref d)] ∧ 1 ≤ a ∧ 1 ≤ b ∧ a + b ≤ k ∧ (rnd k a b).1 = (rnd (a0 + b0) a0 b0).1 ∧ out ++ (rnd k a b).2 = (rnd (a0 + b0) a0 b0).2
section
variable {c : Cx} {m : FM} {n : Led} {R : Value → FM → Led → Prop}
local macro_rules | `(tactic| walk_at "get") => `(tactic| first | exact g_rounds_first | exact g_rounds_second | exact g_rounds_marks)
local macro_rules | `(tactic| walk_at "set") => `(tactic| first | exact p_rounds_first | exact p_rounds_second | exact p_rounds_marks)
theorem rounds_ints {a b : Nat} {t u : Tok} (hr : Room c 1) (ha : 1 ≤ a) (hb : 1 ≤ b) (hs : a + b ≤ 1000)
    (h : ∀ tp d ws t', IntsAre ws (rnd (a + b) a b).2.reverse → R (.ref tp) m ((tp, TP [.int ((rnd (a + b) a b).1 : Nat) t', .ref d]) :: (d, LS ws 0) :: n)) : Tri c (call (.ref 90) [.int a t, .int b u]) R m n := by
  have hsl := sl_ge
  refine Tri.enter (binds := [(Str.ofString "first", .int a t), (Str.ofString "second", .int b u)]) (m₀ := frL nm_rounds [some (.int a t), some (.int b u), none]) hr rfl rfl rfl rfl (initFr _ [Str.ofString "marks"] 1 (by simp only [List.map_cons, List.map_nil]; decide +kernel)) (fun L' => Tri.weaken ?_)
  repeat walk_at "t"
  refine Tri.newList (by simp) fun d => ?_
  walk_at "t"
  walk_at "t"
  refine Tri.while_ (RoundsJ d n a b) (k := a + b) ⟨[], 0, [], a, b, t, u, rfl, .nil, by simp, rfl, ha, hb, Nat.le_refl _, rfl, rfl⟩ ?_
  rintro k m1 n1 ⟨ws, ep, out, a', b', t1, u1, rfl, hws, hol, rfl, ha', hb', hab, h1, h2⟩
  have hwl := hws.length
  repeat walk_at "t"
  refine ⟨fun hne => ?_, fun heq => ?_⟩
  · have hne : a' ≠ b' := by have := bneT hne; omega
    obtain ⟨k', rfl⟩ : ∃ k', k = k' + 1 := ⟨k - 1, by omega⟩
    rw [rnd_succ k' a' b', if_neg hne] at h1 h2
    repeat walk_at "t"
    refine ⟨fun hlt => ?_, fun hlt => ?_⟩
    · have hlt : a' < b' := by have := of_decide_eq_true hlt; omega
      rw [if_pos hlt] at h1 h2
      repeat walk_at "t"
      refine Tri.mAppend (.head _) ?_
      repeat walk_at "t"
      refine Tri.append (pre := []) (post := n) (d := d) (vs := ws) (k := ep) (by omega) ?_
      repeat walk_at "t"
      have e : (b' : Int) - (a' : Int) = ((b' - a' : Nat) : Int) := by omega
      rw [e]
      refine ⟨k', by omega, _, _, out ++ [13], a', b' - a', _, _, rfl, IntsAre.append hws (.cons _ _ .nil), by simp; omega, rfl, ha', by omega, by omega, h1, ?_⟩
      rw [List.append_assoc]
      exact h2
    · have hlt : ¬ a' < b' := by have := of_decide_eq_false hlt; omega
      rw [if_neg hlt] at h1 h2
      repeat walk_at "t"
      refine Tri.mAppend (.head _) ?_
      repeat walk_at "t"
      refine Tri.append (pre := []) (post := n) (d := d) (vs := ws) (k := ep) (by omega) ?_
      repeat walk_at "t"
      have e : (a' : Int) - (b' : Int) = ((a' - b' : Nat) : Int) := by omega
      rw [e]
      refine ⟨k', by omega, _, _, out ++ [10], a' - b', b', _, _, rfl, IntsAre.append hws (.cons _ _ .nil), by simp; omega, rfl, by omega, hb', by omega, h1, ?_⟩
      rw [List.append_assoc]
      exact h2
  · have heq : a' = b' := by have := bneF heq; omega
    obtain ⟨k', rfl⟩ : ∃ k', k = k' + 1 := ⟨k - 1, by omega⟩
    rw [rnd_succ k' a' b', if_pos heq] at h1 h2
    simp only [List.append_nil] at h2
    repeat walk_at "t"
    refine ⟨d, ws, rfl, At.head, by omega, IsPart.int _ _, fun d2 => ?_⟩
    repeat walk_at "t"
    refine Tri.newTuple (by simp; omega) fun tp => ?_
    have h1 : a' = (rnd (a + b) a b).1 := h1
    rw [h1]
    have hrev : IntsAre ws.reverse (rnd (a + b) a b).2.reverse := by
      rw [← h2]
      exact hws.reverse
    refine ⟨_, ?_, h tp d2 ws.reverse t1 hrev⟩
    exact List.Sublist.cons₂ _ (List.Sublist.cons₂ _ (List.Sublist.cons _ (List.Sublist.refl _)))
end


theorem foldl_one (a : Nat) : ∀ (k : Nat) (acc : List Nat), (List.replicate k #[a]).foldl (· ++ ·) acc.toArray = (acc ++ List.replicate k a).toArray
  | 0, acc => by simp
  | k + 1, acc => by
    rw [List.replicate_succ, List.foldl_cons]
    have : acc.toArray ++ #[a] = (acc ++ [a]).toArray := by simp
    rw [this, foldl_one a k, List.replicate_succ, List.append_assoc]
    rfl
theorem mul_S (a k : Nat) : Txt.mul (S [a]) (k : Int) = S (List.replicate k a) := by
  unfold Txt.mul
  by_cases h0 : (k : Int) < 1
  · have : k = 0 := by omega
    subst this
    rfl
  · rw [if_neg h0]
    by_cases h1 : k = 1
    · subst h1
      rfl
    · rw [if_neg (by simp [Str.length]; omega)]
      have := foldl_one a k []
      simp only [List.nil_append] at this
      show Str.mk ((List.replicate (k : Int).toNat #[a]).foldl (· ++ ·) #[]) = _
      rw [Int.toNat_natCast, this]
theorem mulOk_S {a k : Nat} (hk : k ≤ 100000) : MulOk (S [a]) (k : Int) := by
  have hsl := sl_ge
  refine ⟨by simp; omega, fun _ _ => ?_, fun _ _ => ?_⟩
  · have e : (S [a]).length = 1 := rfl
    rw [e]
    have : (1 : Int) ≤ (2 ^ 63 - 1) / (k : Int) := by
      rw [Int.le_ediv_iff_mul_le (by omega)]
      omega
    omega
  · have e : (S [a]).length = 1 := rfl
    rw [e]
    unfold Builtin.Str.tooLong
    simp
    omega
theorem moreF_le : ∀ (marks : List Int) (k : Nat), moreF k marks ≤ marks.length
  | [], _ => Nat.le_refl _
  | x :: r, k => by
    rw [moreF_cons]
    have h1 := moreF_le r 74
    have h2 := moreF_le r k
    split <;> simp only [List.length_cons] <;> omega
def dotsG (marks : List Int) (prev : Option Nat) (k : Nat) : List Nat := if k = 46 then List.replicate (match prev with | none => marks.length | some p => moreF p marks) 46 else []
def signG (h0 h1 : List Nat) (k : Nat) : List Nat := if k ∈ [77, 109, 45] ∧ 1 < h0.length then h0 else if k ∈ [74, 106, 42] ∧ 1 < h1.length then h1 else if k = 159 then [33, 94, 95] else [k]
def growF (h0 h1 : List Nat) (marks : List Int) : Option Nat → List Nat → List Nat
  | _, [] => []
  | p, k :: r => dotsG marks p k ++ signG h0 h1 k ++ growF h0 h1 marks (some k) r
theorem growF_cons (h0 h1 : List Nat) (marks : List Int) (p : Option Nat) (k : Nat) (r : List Nat) : growF h0 h1 marks p (k :: r) = dotsG marks p k ++ signG h0 h1 k ++ growF h0 h1 marks (some k) r := rfl
def prevAt (sh : List Nat) : Nat → Option Nat
  | 0 => none
  | i + 1 => sh[i]?
def GrownJ (sh h0 h1 : List Nat) (marks : List Int) (v0 v1 v2 : Value) (n0 : Led) (i : Nat) (m' : FM) (n' : Led) : Prop := ∃ out t v4 v5, n' = n0 ∧ m' = frL nm_grown [some v0, some v1, some v2, some (.str (S out) t), v4, v5] ∧ out.length ≤ 1200 * i ∧ out ++ growF h0 h1 marks (prevAt sh i) (sh.drop i) = growF h0 h1 marks none sh
section
variable {c : Cx} {m : FM} {n : Led} {R : Value → FM → Led → Prop}
local macro_rules | `(tactic| walk_at "get") => `(tactic| first | exact g_grown_shown | exact g_grown_halves | exact g_grown_marks | exact g_grown_grown | exact g_grown_place | exact g_grown_sign)
local macro_rules | `(tactic| walk_at "set") => `(tactic| first | exact p_grown_grown | exact p_grown_place | exact p_grown_sign)
theorem grown_str {sh h0 h1 : List Nat} {t t0 t1 : Tok} {tp l : Addr} {vs : List Value} {ep : Nat} {marks : List Int} (hr : Room c 2) (htp : (tp, TP [.str (S h0) t0, .str (S h1) t1]) ∈ n) (hl : (l, LS vs ep) ∈ n) (hi : IntsAre vs marks) (hml : marks.length ≤ 100)
    (hh0 : h0.length ≤ 1000) (hh1 : h1.length ≤ 1000) (hsh : sh.length ≤ 5000) (h : ∀ t', R (.str (S (growF h0 h1 marks none sh)) t') m n) : Tri c (call (.ref 123) [.str (S sh) t, .ref tp, .ref l]) R m n := by
  have hsl := sl_ge
  have hll : vs.length = marks.length := hi.length
  have hshl : (S sh).length = sh.length := S_length sh
  have hr1 : ∀ {env : Env}, env.frame = some env.locals → env.scope.kind = .function → Room (c.into env) 1 := fun h1 h2 => hr.into h1 h2
  refine Tri.enter (binds := [(Str.ofString "shown", .str (S sh) t), (Str.ofString "halves", .ref tp), (Str.ofString "marks", .ref l)]) (m₀ := frL nm_grown [some (.str (S sh) t), some (.ref tp), some (.ref l), none, none, none]) (hr.less (by decide)) rfl rfl rfl rfl (initFr _ [Str.ofString "grown", Str.ofString "place", Str.ofString "sign"] 3 (by simp only [List.map_cons, List.map_nil]; decide +kernel)) (fun L' => Tri.weaken ?_)
  repeat walk_at "t"
  rw [lit_nil]
  refine Tri.for_ ?_
  repeat walk_at "t"
  refine Tri.lenStr (by rw [hshl]; omega) fun _ => ?_
  rw [hshl]
  repeat walk_at "t"
  refine Tri.range fun rg ta tb tc => ?_
  refine ⟨_, _, _, Thru.range (hr1 rfl rfl : Room _ 1).1 (.head _) (by omega), GrownJ sh h0 h1 marks _ _ _ _, ⟨[], _, _, _, rfl, rfl, by simp, by simp [prevAt]⟩, fun _ _ _ _ => trivial, ?_, ?_⟩
  · rintro i v m1 n1 hlt ⟨t3, rfl⟩ ⟨out, t4, v4, v5, rfl, rfl, hol, hout⟩
    rw [p_grown_place]
    have hki : sh[i]? = some sh[i] := List.getElem?_eq_getElem hlt
    generalize hk : sh[i] = k at hki
    have hd : sh.drop i = k :: sh.drop (i + 1) := by rw [List.drop_eq_getElem_cons hlt, hk]
    rw [hd, growF_cons] at hout
    have hpn : prevAt sh (i + 1) = some k := hki
    rw [← hpn] at hout
    walk_at "t"
    repeat walk_at "t"
    refine Tri.itemStr (k := k) (by omega) (by rw [hshl]; omega) (by simpa using hki) (fun _ => ?_)
    walk_at "t"
    -- the dots
    refine Tri.cons (Tri.mono (R := fun f m' n' => f = .next ∧ n' = (rg, RG (sh.length : Nat) ta tb tc) :: n ∧ ∃ t6 t7, m' = frL nm_grown [some (.str (S sh) t), some (.ref tp), some (.ref l), some (.str (S (out ++ dotsG marks (prevAt sh i) k)) t6), some (.int i t3), some (.str (S [k]) t7)]) ?_ ?_)
    · repeat walk_at "t"
      rw [lit_dot, beq_S]
      refine ⟨fun h46 => ?_, fun h46 => ?_⟩
      · have h46 : k = 46 := by simpa using h46
        repeat walk_at "t"
        refine ⟨fun hz => ?_, fun hz => ?_⟩
        · have hz : i = 0 := by have := beqT hz; omega
          subst hz
          repeat walk_at "t"
          refine Tri.lenList (.inl ⟨ep, .tail _ hl⟩) (by omega) fun _ => ?_
          rw [hll]
          refine Tri.mulStr (mulOk_S (by omega)) fun _ => ?_
          rw [mul_S]
          refine Tri.iaddStr (by rw [S_length, S_length, List.length_replicate]; omega) fun _ => ?_
          rw [S_append]
          repeat walk_at "t"
          have e : dotsG marks (prevAt sh 0) k = List.replicate marks.length 46 := by unfold dotsG; rw [if_pos h46]; rfl
          rw [e]
          exact ⟨_, _, rfl⟩
        · have hz : i ≠ 0 := by have := beqF hz; omega
          obtain ⟨j, rfl⟩ : ∃ j, i = j + 1 := ⟨i - 1, by omega⟩
          have hjl : j < sh.length := by omega
          have hpj : prevAt sh (j + 1) = some sh[j] := List.getElem?_eq_getElem hjl
          repeat walk_at "t"
          rw [beq_S]
          refine ⟨fun _ => ?_, fun q => ?_⟩
          · repeat walk_at "t"
            refine Tri.itemStr (k := sh[j]) (by omega) (by rw [hshl]; omega) ?_ (fun _ => ?_)
            · have : (((j + 1 : Nat) : Int) - 1).toNat = j := by omega
              rw [this]
              simp [List.getElem?_eq_getElem hjl]
            · repeat walk_at "t"
              refine more_str (hr1 rfl rfl) (.tail _ hl) hi (by omega) fun _ => ?_
              have hm := moreF_le marks sh[j]
              refine Tri.mulStr (mulOk_S (by omega)) fun _ => ?_
              rw [mul_S]
              refine Tri.iaddStr (by rw [S_length, S_length, List.length_replicate]; omega) fun _ => ?_
              rw [S_append]
              repeat walk_at "t"
              have e : dotsG marks (prevAt sh (j + 1)) k = List.replicate (moreF sh[j] marks) 46 := by unfold dotsG; rw [if_pos h46, hpj]
              rw [e]
              exact ⟨_, _, rfl⟩
          · simp [h46] at q
      · have h46 : k ≠ 46 := by simpa using h46
        repeat walk_at "t"
        rw [beq_S]
        refine ⟨fun q => ?_, fun _ => ?_⟩
        · simp [h46] at q
        · repeat walk_at "t"
          have e : dotsG marks (prevAt sh i) k = [] := by unfold dotsG; rw [if_neg h46]
          rw [e, List.append_nil]
          exact ⟨_, _, rfl⟩
    · rintro _ _ _ ⟨rfl, rfl, t6, t7, rfl⟩
      have hdl : (dotsG marks (prevAt sh i) k).length ≤ 100 := by
        unfold dotsG
        split
        · rw [List.length_replicate]
          split
          · exact hml
          · exact Nat.le_trans (moreF_le _ _) hml
        · simp
      have fin : ∀ ex t8, ex = signG h0 h1 k → GrownJ sh h0 h1 marks (.str (S sh) t) (.ref tp) (.ref l) ((rg, RG (sh.length : Nat) ta tb tc) :: n) (i + 1) (frL nm_grown [some (.str (S sh) t), some (.ref tp), some (.ref l), some (.str (S (out ++ dotsG marks (prevAt sh i) k) ++ S ex) t8), some (.int i t3), some (.str (S [k]) t7)]) ((rg, RG (sh.length : Nat) ta tb tc) :: n) := by
        intro ex t8 he
        subst he
        have hgl : (signG h0 h1 k).length ≤ 1000 := by
          unfold signG
          split
          · exact hh0
          · split
            · exact hh1
            · split <;> simp
        refine ⟨out ++ dotsG marks (prevAt sh i) k ++ signG h0 h1 k, t8, _, _, rfl, by rw [S_append], ?_, ?_⟩
        · rw [List.length_append, List.length_append]
          omega
        · rw [← hout]
          simp only [List.append_assoc]
      have lenO : (S (out ++ dotsG marks (prevAt sh i) k)).length ≤ 1200 * 5000 + 100 := by
        rw [S_length, List.length_append]
        omega
      have eM : Txt.contains (Str.ofString "Mm-") (S [k]) = decide (k ∈ [77, 109, 45]) := by rw [lit_Mm, contains_S]
      have eJ : Txt.contains (Str.ofString "Jj*") (S [k]) = decide (k ∈ [74, 106, 42]) := by rw [lit_Jj, contains_S]
      have e9 : (S [k] == Str.ofString "\u009f") = decide (k = 159) := by rw [lit_9f, beq_S]; simp
      have last : ¬ (k ∈ [77, 109, 45] ∧ 1 < h0.length) → ¬ (k ∈ [74, 106, 42] ∧ 1 < h1.length) → signG h0 h1 k = if k = 159 then [33, 94, 95] else [k] := by
        intro q1 q2
        unfold signG
        rw [if_neg q1, if_neg q2]
      have i0 : ((0 : Int)).toNat < [Value.str (S h0) t0, .str (S h1) t1].length := by simp
      have i1 : ((1 : Int)).toNat < [Value.str (S h0) t0, .str (S h1) t1].length := by simp
      repeat walk_at "t"
      rw [eM]
      -- the rest of the choice, once the first arm is out
      refine ⟨fun hM => ?_, fun hM => ?_⟩
      · have hM := of_decide_eq_true hM
        have hJ : k ∉ [74, 106, 42] := by
          intro q
          simp at hM q
          omega
        have h9 : k ≠ 159 := by
          simp at hM
          omega
        repeat walk_at "t"
        refine Tri.itemTup (.tail _ htp) (by decide) (by decide) i0 rfl ?_
        repeat walk_at "t"
        refine Tri.lenStr (by rw [S_length]; omega) fun _ => ?_
        rw [S_length]
        repeat walk_at "t"
        refine ⟨fun hg => ?_, fun hg => ?_⟩
        · have hg : 1 < h0.length := by have := of_decide_eq_true hg; omega
          repeat walk_at "t"
          refine Tri.itemTup (.tail _ htp) (by decide) (by decide) i0 rfl ?_
          refine Tri.iaddStr (by rw [S_length h0]; omega) fun _ => ?_
          repeat walk_at "t"
          exact fin _ _ (by unfold signG; rw [if_pos ⟨hM, hg⟩])
        · have hg : ¬ 1 < h0.length := by have := of_decide_eq_false hg; omega
          repeat walk_at "t"
          rw [eJ]
          refine ⟨fun q => absurd (of_decide_eq_true q) hJ, fun _ => ?_⟩
          repeat walk_at "t"
          rw [e9]
          refine ⟨fun q => absurd (of_decide_eq_true q) h9, fun _ => ?_⟩
          repeat walk_at "t"
          refine Tri.iaddStr (by rw [S_length [k]]; simp only [List.length_cons, List.length_nil]; omega) fun _ => ?_
          repeat walk_at "t"
          exact fin _ _ (by rw [last (fun q => hg q.2) (fun q => hJ q.1), if_neg h9])
      · have hM := of_decide_eq_false hM
        repeat walk_at "t"
        rw [eJ]
        refine ⟨fun hJ => ?_, fun hJ => ?_⟩
        · have hJ := of_decide_eq_true hJ
          have h9 : k ≠ 159 := by
            simp at hJ
            omega
          repeat walk_at "t"
          refine Tri.itemTup (.tail _ htp) (by decide) (by decide) i1 rfl ?_
          repeat walk_at "t"
          refine Tri.lenStr (by rw [S_length]; omega) fun _ => ?_
          rw [S_length]
          repeat walk_at "t"
          refine ⟨fun hg => ?_, fun hg => ?_⟩
          · have hg : 1 < h1.length := by have := of_decide_eq_true hg; omega
            repeat walk_at "t"
            refine Tri.itemTup (.tail _ htp) (by decide) (by decide) i1 rfl ?_
            refine Tri.iaddStr (by rw [S_length h1]; omega) fun _ => ?_
            repeat walk_at "t"
            exact fin _ _ (by unfold signG; rw [if_neg (fun q => hM q.1), if_pos ⟨hJ, hg⟩])
          · have hg : ¬ 1 < h1.length := by have := of_decide_eq_false hg; omega
            repeat walk_at "t"
            rw [e9]
            refine ⟨fun q => absurd (of_decide_eq_true q) h9, fun _ => ?_⟩
            repeat walk_at "t"
            refine Tri.iaddStr (by rw [S_length [k]]; simp only [List.length_cons, List.length_nil]; omega) fun _ => ?_
            repeat walk_at "t"
            exact fin _ _ (by rw [last (fun q => hM q.1) (fun q => hg q.2), if_neg h9])
        · have hJ := of_decide_eq_false hJ
          repeat walk_at "t"
          rw [e9]
          refine ⟨fun h9 => ?_, fun h9 => ?_⟩
          · have h9 := of_decide_eq_true h9
            repeat walk_at "t"
            rw [lit_9f3]
            refine Tri.iaddStr (by rw [S_length [33, 94, 95]]; simp only [List.length_cons, List.length_nil]; omega) fun _ => ?_
            repeat walk_at "t"
            exact fin _ _ (by rw [last (fun q => hM q.1) (fun q => hJ q.1), if_pos h9])
          · have h9 := of_decide_eq_false h9
            repeat walk_at "t"
            refine Tri.iaddStr (by rw [S_length [k]]; simp only [List.length_cons, List.length_nil]; omega) fun _ => ?_
            repeat walk_at "t"
            exact fin _ _ (by rw [last (fun q => hM q.1) (fun q => hJ q.1), if_neg h9])
  · rintro m1 n1 ⟨out, t4, v4, v5, rfl, rfl, hol, hout⟩
    rw [List.drop_length] at hout
    have hout : out = growF h0 h1 marks none sh := by simpa [growF] using hout
    subst hout
    repeat walk_at "t"
    exact ⟨_, List.Sublist.cons _ (List.Sublist.refl _), h _⟩
end


def temptL : List Nat := [33, 94, 127, 138, 141, 174, 202, 237, 255, 133, 8232, 11, 12, 28, 302, 383]
def letL : List Nat := [77, 109, 74, 106, 45, 42, 93, 90]
def codeK (x : Int) : List Nat :=
  if x % 8 = 0 then [10] else if x % 8 = 1 then [13] else if x % 8 = 2 then [13, 10] else if x % 8 = 3 then [46]
  else if x % 8 = 4 then [letL.getD (x / 8 % 8).toNat 0] else if x % 8 = 5 then [temptL.getD (x / 8 % 16).toNat 0] else if x % 8 = 6 then [(x / 8 % 256).toNat] else [(x / 8 % 55296).toNat]
def codesF (script : List Int) : List Nat := (script.take 4).flatMap codeK ++ [10, 46, 109, 10, 46].take (3 + (script.sum % 2 * 2).toNat)
theorem lit_let : Str.ofString "MmJj-*]Z" = S letL := by decide +kernel
theorem codeK_len (x : Int) : (codeK x).length ≤ 2 := by
  unfold codeK
  (repeat' split) <;> simp
def CodesJ (d tm sl : Addr) (zs vt : List Value) (n : Led) (xs : List Int) (v0 : Value) (i : Nat) (m' : FM) (n' : Led) : Prop := ∃ (ws : List Value) (k : Nat) (out : List Nat) (vx vk vr : Option Value), n' = (sl, LS zs 0) :: (d, LS ws k) :: (tm, LS vt 0) :: n ∧ IntsAre ws (nis out) ∧ m' = frL nm_codes [some v0, some (.ref tm), some (.ref d), vx, vk, vr] ∧ out = (xs.take i).flatMap codeK
theorem flat_len (xs : List Int) : (xs.flatMap codeK).length ≤ 2 * xs.length := by
  induction xs with
  | nil => simp
  | cons x r ih =>
    have := codeK_len x
    rw [List.flatMap_cons, List.length_append, List.length_cons]
    omega
theorem tempt_at (vt : List Value) (k : Nat) (hk : k < 16) (hv : IntsAre vt (nis temptL)) : ∃ t, vt[k]? = some (.int (temptL.getD k 0 : Nat) t) := by
  have hl : vt.length = 16 := by rw [hv.length]; rfl
  have hx : k < vt.length := by omega
  obtain ⟨y, t, he, hy⟩ := IntsAre.at hv k vt[k] (List.getElem?_eq_getElem hx)
  refine ⟨t, ?_⟩
  rw [List.getElem?_eq_getElem hx, he]
  rw [List.getElem?_map] at hy
  have h16 : k < temptL.length := hk
  rw [List.getElem?_eq_getElem h16] at hy
  have : ((temptL[k] : Nat) : Int) = y := Option.some.inj hy
  rw [← this]
  congr 2
  simp [List.getD, List.getElem?_eq_getElem h16]
section
variable {c : Cx} {m : FM} {n : Led} {R : Value → FM → Led → Prop}
local macro_rules | `(tactic| walk_at "get") => `(tactic| first | exact g_codes_script | exact g_codes_tempting | exact g_codes_codes | exact g_codes_x | exact g_codes_kind | exact g_codes_rest)
local macro_rules | `(tactic| walk_at "set") => `(tactic| first | exact p_codes_tempting | exact p_codes_codes | exact p_codes_x | exact p_codes_kind | exact p_codes_rest)
theorem Tri.newInts {vs : List Value} {ns : List Int} (hi : IntsAre vs ns) (hsz : ns.length ≤ 1000) (h : ∀ l ws, IntsAre ws ns → R (.ref l) m ((l, LS ws 0) :: n)) : Tri c (PySem.newList vs) R m n :=
  .newList (by have := hi.length; have := sl_ge; omega) fun l => h l vs hi
theorem codes_script {script : List Int} (hr : Room c 1) (hi : IntsAre c.sv script) (hsz : script.length ≤ 63)
    (h : ∀ d ws, IntsAre ws (nis (codesF script)) → R (.ref d) m ((d, LS ws 0) :: n)) : Tri c (call (.ref 83) [.ref c.scr]) R m n := by
  have hsl := sl_ge
  have hll : c.sv.length = script.length := hi.length
  have hr0 : ∀ {env : Env}, env.frame = some env.locals → env.scope.kind = .function → Room (c.into env) 0 := fun h1 h2 => hr.into h1 h2
  refine Tri.enter (binds := [(Str.ofString "script", .ref c.scr)]) (m₀ := frL nm_codes [some (.ref c.scr), none, none, none, none, none]) hr rfl rfl rfl rfl (initFr1 (k := 5)) (fun L' => Tri.weaken ?_)
  repeat walk_at "t"
  refine Tri.newInts (ns := nis temptL) (.cons _ _ (.cons _ _ (.cons _ _ (.cons _ _ (.cons _ _ (.cons _ _ (.cons _ _ (.cons _ _ (.cons _ _ (.cons _ _ (.cons _ _ (.cons _ _ (.cons _ _ (.cons _ _ (.cons _ _ (.cons _ _ (.nil))))))))))))))))) (by decide) fun tm vt hvt => ?_
  repeat walk_at "t"
  refine Tri.newList (by simp) fun d => ?_
  repeat walk_at "t"
  refine Tri.for_ ?_
  repeat walk_at "t"
  refine ⟨c.scr, c.sv, c.sv.take 4, none, some 4, rfl, .inr ⟨rfl, rfl⟩, by omega, .none, .int _ _, by rw [show (some (4 : Int)) = some (((4 : Nat)) : Int) from rfl, slicePick_upto'], fun sl => ?_⟩
  have hzi : IntsAre (c.sv.take 4) (script.take 4) := IntsAre.take hi 4
  have hzl : (c.sv.take 4).length = (script.take 4).length := hzi.length
  refine ⟨_, _, _, Thru.list (hr0 rfl rfl).1 (.head _), CodesJ d tm sl (c.sv.take 4) vt n (script.take 4) (.ref c.scr), ⟨[], 0, [], _, _, _, rfl, .nil, rfl, by simp⟩, ?_, ?_, ?_⟩
  · rintro i m1 n1 ⟨ws, k, out, vx, vk, vr, rfl, -⟩
    exact .head _
  · rintro i v m1 n1 hlt hv ⟨ws, k, out, vx, vk, vr, rfl, hws, rfl, hout⟩
    obtain ⟨x, t3, rfl, hx⟩ := IntsAre.at hzi i v hv
    rw [p_codes_x]
    have hlt4 : (script.take 4).length ≤ 4 := by rw [List.length_take]; omega
    have hwl : ws.length = out.length := by rw [hws.length]; simp
    have hol : out.length ≤ 8 := by
      rw [hout]
      have := flat_len ((script.take 4).take i)
      have h2 : ((script.take 4).take i).length ≤ 4 := by rw [List.length_take]; omega
      omega
    have fin : ∀ (ws' : List Value) (k' : Nat) (ex : List Nat) (vx vk vr : Option Value), IntsAre ws' (nis (out ++ ex)) → ex = codeK x →
        CodesJ d tm sl (c.sv.take 4) vt n (script.take 4) (.ref c.scr) (i + 1) (frL nm_codes [some (.ref c.scr), some (.ref tm), some (.ref d), vx, vk, vr]) ((sl, LS (c.sv.take 4) 0) :: (d, LS ws' k') :: (tm, LS vt 0) :: n) := by
      intro ws' k' ex vx vk vr h1 h2
      refine ⟨ws', k', out ++ ex, vx, vk, vr, rfl, h1, rfl, ?_⟩
      have : (script.take 4).take (i + 1) = (script.take 4).take i ++ [x] := by rw [List.take_add_one, hx]; rfl
      rw [this, List.flatMap_append, hout, h2]
      simp
    walk_at "t"
    refine Tri.assignPairS (hr0 rfl rfl).1 ?_ (by walk_at "r") (by walk_at "r")
    repeat walk_at "t"
    refine Tri.modInt (by decide) fun _ => ?_
    repeat walk_at "t"
    refine Tri.divInt (by decide) (by decide) fun _ => ?_
    repeat walk_at "t"
    refine Tri.newTuple (by simp; omega) fun tp => ?_
    refine ⟨tp, _, _, rfl, .head _, Tri.drop ?_⟩
    repeat walk_at "t"
    refine ⟨fun h4 => ?_, fun h4 => ?_⟩
    · have h4 : x % 8 < 4 := of_decide_eq_true h4
      repeat walk_at "t"
      refine Tri.mExtend (.tail _ (.head _)) ?_
      repeat walk_at "t"
      refine Tri.newList (by simp; omega) fun l1 => ?_
      repeat walk_at "t"
      refine Tri.newList (by simp; omega) fun l2 => ?_
      repeat walk_at "t"
      refine Tri.newList (by simp; omega) fun l3 => ?_
      repeat walk_at "t"
      refine Tri.newList (by simp; omega) fun l4 => ?_
      repeat walk_at "t"
      refine Tri.newList (by simp; omega) fun lo => ?_
      repeat walk_at "t"
      have hc4 : x % 8 = 0 ∨ x % 8 = 1 ∨ x % 8 = 2 ∨ x % 8 = 3 := by omega
      rcases hc4 with h0 | h0 | h0 | h0
      · refine Tri.item At.head (v := .ref l1) (by omega) (by omega) (by rw [h0]; rfl) ?_
        walk_at "t"
        refine Tri.extend (pre := [_, _, _, _, _, _]) (post := _ :: n) (d := d) (vs := ws) (k := k) (ws := [.int 10 _]) (k' := 0) (List.mem_append_left _ (.tail _ (.tail _ (.tail _ (.tail _ (.head _)))))) (by simp) (by simp; omega) ?_
        refine ⟨rfl, Tri.drop (Tri.drop (Tri.drop (Tri.drop (Tri.drop ?_))))⟩
        repeat walk_at "t"
        exact fin _ _ [10] _ _ _ (nis_snoc (k := 10) hws) (by unfold codeK; rw [if_pos h0])
      · refine Tri.item At.head (v := .ref l2) (by omega) (by omega) (by rw [h0]; rfl) ?_
        walk_at "t"
        refine Tri.extend (pre := [_, _, _, _, _, _]) (post := _ :: n) (d := d) (vs := ws) (k := k) (ws := [.int 13 _]) (k' := 0) (List.mem_append_left _ (.tail _ (.tail _ (.tail _ (.head _))))) (by simp) (by simp; omega) ?_
        refine ⟨rfl, Tri.drop (Tri.drop (Tri.drop (Tri.drop (Tri.drop ?_))))⟩
        repeat walk_at "t"
        exact fin _ _ [13] _ _ _ (nis_snoc (k := 13) hws) (by unfold codeK; rw [if_neg (by omega), if_pos h0])
      · refine Tri.item At.head (v := .ref l3) (by omega) (by omega) (by rw [h0]; rfl) ?_
        walk_at "t"
        refine Tri.extend (pre := [_, _, _, _, _, _]) (post := _ :: n) (d := d) (vs := ws) (k := k) (ws := [.int 13 _, .int 10 _]) (k' := 0) (List.mem_append_left _ (.tail _ (.tail _ (.head _)))) (by simp) (by simp; omega) ?_
        refine ⟨rfl, Tri.drop (Tri.drop (Tri.drop (Tri.drop (Tri.drop ?_))))⟩
        repeat walk_at "t"
        refine fin _ _ [13, 10] _ _ _ ?_ (by unfold codeK; rw [if_neg (by omega), if_neg (by omega), if_pos h0])
        have : nis (out ++ [13, 10]) = nis out ++ [13, 10] := by simp [nis]
        rw [this]
        exact IntsAre.append hws (.cons _ _ (.cons _ _ .nil))
      · refine Tri.item At.head (v := .ref l4) (by omega) (by omega) (by rw [h0]; rfl) ?_
        walk_at "t"
        refine Tri.extend (pre := [_, _, _, _, _, _]) (post := _ :: n) (d := d) (vs := ws) (k := k) (ws := [.int 46 _]) (k' := 0) (List.mem_append_left _ (.tail _ (.head _))) (by simp) (by simp; omega) ?_
        refine ⟨rfl, Tri.drop (Tri.drop (Tri.drop (Tri.drop (Tri.drop ?_))))⟩
        repeat walk_at "t"
        exact fin _ _ [46] _ _ _ (nis_snoc (k := 46) hws) (by unfold codeK; rw [if_neg (by omega), if_neg (by omega), if_neg (by omega), if_pos h0])
    · have h4 : ¬ x % 8 < 4 := of_decide_eq_false h4
      repeat walk_at "t"
      refine ⟨fun h => ?_, fun h5 => ?_⟩
      · have h0 : x % 8 = 4 := beqT h
        repeat walk_at "t"
        refine Tri.mAppend (.tail _ (.head _)) ?_
        repeat walk_at "t"
        refine Tri.modInt (by decide) fun _ => ?_
        rw [lit_let]
        have hk : (x / 8 % 8).toNat < letL.length := by show _ < 8; omega
        refine Tri.itemStr (k := letL.getD (x / 8 % 8).toNat 0) (by omega) (by rw [S_length]; show 8 ≤ _; omega) ?_ (fun _ => ?_)
        · simp [List.getD, List.getElem?_eq_getElem hk]
        · repeat walk_at "t"
          refine Tri.append (pre := [_]) (post := _ :: n) (d := d) (vs := ws) (k := k) (by omega) ?_
          repeat walk_at "t"
          exact fin _ _ [_] _ _ _ (nis_snoc hws) (by unfold codeK; rw [if_neg (by omega), if_neg (by omega), if_neg (by omega), if_neg (by omega), if_pos h0])
      · have h5 : x % 8 ≠ 4 := beqF h5
        repeat walk_at "t"
        refine ⟨fun h => ?_, fun h6 => ?_⟩
        · have h0 : x % 8 = 5 := beqT h
          repeat walk_at "t"
          refine Tri.mAppend (.tail _ (.head _)) ?_
          repeat walk_at "t"
          refine Tri.modInt (by decide) fun _ => ?_
          obtain ⟨t9, ht9⟩ := tempt_at vt (x / 8 % 16).toNat (by omega) hvt
          refine Tri.item (.inl ⟨0, .tail _ (.tail _ (.head _))⟩) (by omega) (by omega) ht9 ?_
          repeat walk_at "t"
          refine Tri.append (pre := [_]) (post := _ :: n) (d := d) (vs := ws) (k := k) (by omega) ?_
          repeat walk_at "t"
          exact fin _ _ [_] _ _ _ (nis_snoc hws) (by unfold codeK; rw [if_neg (by omega), if_neg (by omega), if_neg (by omega), if_neg (by omega), if_neg h5, if_pos h0])
        · have h6 : x % 8 ≠ 5 := beqF h6
          repeat walk_at "t"
          refine ⟨fun h => ?_, fun h7 => ?_⟩
          · have h0 : x % 8 = 6 := beqT h
            repeat walk_at "t"
            refine Tri.mAppend (.tail _ (.head _)) ?_
            repeat walk_at "t"
            refine Tri.modInt (by decide) fun _ => ?_
            repeat walk_at "t"
            have e : x / 8 % 256 = (((x / 8 % 256).toNat : Nat) : Int) := by omega
            rw [e]
            refine Tri.append (pre := [_]) (post := _ :: n) (d := d) (vs := ws) (k := k) (by omega) ?_
            repeat walk_at "t"
            exact fin _ _ [_] _ _ _ (nis_snoc hws) (by unfold codeK; rw [if_neg (by omega), if_neg (by omega), if_neg (by omega), if_neg (by omega), if_neg h5, if_neg h6, if_pos h0])
          · have h7 : x % 8 ≠ 6 := beqF h7
            repeat walk_at "t"
            refine Tri.mAppend (.tail _ (.head _)) ?_
            repeat walk_at "t"
            refine Tri.modInt (by decide) fun _ => ?_
            repeat walk_at "t"
            have e : x / 8 % 55296 = (((x / 8 % 55296).toNat : Nat) : Int) := by omega
            rw [e]
            refine Tri.append (pre := [_]) (post := _ :: n) (d := d) (vs := ws) (k := k) (by omega) ?_
            repeat walk_at "t"
            exact fin _ _ [_] _ _ _ (nis_snoc hws) (by unfold codeK; rw [if_neg (by omega), if_neg (by omega), if_neg (by omega), if_neg (by omega), if_neg h5, if_neg h6, if_neg h7])
  · rintro m1 n1 ⟨ws, k, out, vx, vk, vr, rfl, hws, rfl, hout⟩
    rw [hzl, List.take_length] at hout
    have hwl : ws.length = out.length := by rw [hws.length]; simp
    have hol : out.length ≤ 8 := by
      rw [hout]
      have := flat_len (script.take 4)
      have h2 : (script.take 4).length ≤ 4 := by rw [List.length_take]; omega
      omega
    repeat walk_at "t"
    refine Tri.newInts (ns := nis [10, 46, 109, 10, 46]) (.cons _ _ (.cons _ _ (.cons _ _ (.cons _ _ (.cons _ _ .nil))))) (by decide) fun tq vq hti => ?_
    have hql := hti.length
    have hq5 : (nis [10, 46, 109, 10, 46]).length = 5 := rfl
    repeat walk_at "t"
    refine Tri.sum (t := 0) (hr0 rfl rfl).1 (.inr ⟨rfl, rfl⟩) hi fun _ => ?_
    repeat walk_at "t"
    refine Tri.modInt (by decide) fun _ => ?_
    repeat walk_at "t"
    refine Tri.mulInt (IntMulOk.of_right (PySem.intBits_le_64 (by decide) (by decide))) fun _ => ?_
    repeat walk_at "t"
    have e3 : (3 : Int) + script.sum % 2 * 2 = ((3 + (script.sum % 2 * 2).toNat : Nat) : Int) := by omega
    rw [e3]
    refine ⟨tq, _, _, none, some ((3 + (script.sum % 2 * 2).toNat : Nat) : Int), rfl, At.head, by omega, .none, .int _ _, by rw [slicePick_upto'], fun ts => ?_⟩
    refine Tri.addList (ns := nis out) (ms := (nis [10, 46, 109, 10, 46]).take (3 + (script.sum % 2 * 2).toNat)) (.inl ⟨k, .tail _ (.tail _ (.tail _ (.head _)))⟩) At.head hws (IntsAre.take hti _) (by rw [List.length_take, hq5, List.length_map]; omega) fun dr => ?_
    refine ⟨_, List.Sublist.cons₂ _ (List.Sublist.cons _ (List.Sublist.cons _ (List.Sublist.cons _ (List.Sublist.cons _ (List.Sublist.cons _ (List.Sublist.refl _)))))), h dr _ ?_⟩
    have : nis (codesF script) = nis out ++ (nis [10, 46, 109, 10, 46]).take (3 + (script.sum % 2 * 2).toNat) := by
      unfold codesF nis
      rw [List.map_append, List.map_take, hout]
    rw [this]
    exact IntsAre.append hws (IntsAre.take hti _)
end


section
variable {c : Cx} {e : Env} {m : FM} {n : Led} {R : Value → FM → Led → Prop}
theorem Tri.enterC {f : Addr} {args : List Value} {name qual : Str} {params : Arguments} {body : List Stmt} {scope : Scope} {dV kV doc pm cdv ct oc : Value} {an od : Option Addr} {osl : Array (Option Value)} {binds : List (Str × Value)} {m₀ : FM} {x1 x2 : Str} {w1 w2 : Option Value}
    (hr : Room c 1)
    (ho : (hd.heap_39 c.w.params).lookup f = some ⟨oc, od, .func (fnOf name qual params body scope dV kV doc pm an cdv ct), osl⟩)
    (hcd : codeIn (hd.heap_39 c.w.params) cdv qual = true)
    (hbind : bindArgs (fnOf name qual params body scope dV kV doc pm an cdv ct) ⟨args, []⟩ = Pure.pure binds)
    (hkind : (binds.all fun y => scope.names.lookup y.1 == some .local || scope.names.lookup y.1 == some .cell) = true)
    (hcf : ∀ p, cellsFrom p scope.names [] = [(x2, p + 1), (x1, p)]) (hne : x2 ≠ x1)
    (hm : ∀ L', bindL (envOfC qual scope L' f cdv).kindOf binds (fun _ => none) = m₀)
    (hw1 : ∀ L', bindC (envOfC qual scope L' f cdv).kindOf binds (fun _ => none) x1 = w1) (hw2 : ∀ L', bindC (envOfC qual scope L' f cdv).kindOf binds (fun _ => none) x2 = w2)
    (h : ∀ (L' : Nat) o1 o2, o1.data = .cell w1 → o2.data = .cell w2 → Tri (c.into (envOfC qual scope L' f cdv)) (execs body (envOfC qual scope L' f cdv)) (fun fl _ n' => R (retOf fl) m n') m₀ ((L' + 1 + 1, o2) :: (L' + 1, o1) :: n))
    (hco : scope.isCoroutine = false := by rfl) (hgen : scope.isGenerator = false := by rfl) (hk : scope.kind = .function := by rfl) : Tri c (call (.ref f) args) R m n := by
  intro fr g s Q E hA F N D hQ
  obtain ⟨A₀, base, outer, B, hfr⟩ := hA.B
  refine wpAny_call ?_
  refine code_defC B F hA.X N hA.T hfr hr.2.2.2.1 hr.2.2.2.2 ho hcd (by have := hr.2.1; omega) (BindsTo.of_eq hbind) hkind ?_ ?_ hco hgen hk
  · rw [hcf]
    simp [hne]
  intro g' L' h₁ tk cells FG F' N' Y B' X' T' hlt
  rw [hm] at F'
  rw [hcf] at Y
  obtain ⟨o2, o1, rfl, hd2, hd1⟩ := Y.two
  rw [hw2] at hd2
  rw [hw1] at hd1
  have D' : Nd (((L' + 1 + 1, o2) :: (L' + 1, o1) :: n) ++ fr) := by
    refine Nd.cons (Nd.cons D fun p hp => Nat.lt_succ_of_lt (hlt p hp)) ?_
    intro p hp
    rcases List.mem_cons.mp hp with rfl | hp
    · exact Nat.lt_succ_self _
    · exact Nat.lt_succ_of_lt (Nat.lt_succ_of_lt (hlt p hp))
  refine h L' o1 o2 hd1 hd2 fr g' { s with heap := h₁, toks := tk } _ _ ⟨X', T', ⟨c.A, base, c.env :: outer, B', ?_⟩, ?_⟩ F' N' D' ?_
  · show (c.A.deeper _).frames = _
    exact Around.frames_deeper hfr
  · obtain ⟨o, ho, r⟩ := hA.S
    exact ⟨o, FG.keep _ _ ho, r⟩
  · intro fl s' m' n' S r F2 N2 D2
    refine ⟨L', m', n' ++ fr, F2, N2, fun F3 N3 => ?_⟩
    obtain ⟨h', tk', rfl⟩ := S
    have hq : ∀ v, retOf fl = v → Q v { s with heap := h', toks := tk' } := fun v hv => by
      subst hv
      exact hQ _ _ m n' ⟨h', tk', rfl⟩ r F3 N3 D2
    cases fl with
    | next => exact hq _ rfl
    | brk => exact hq _ rfl
    | cont => exact hq _ rfl
    | ret v => exact hq _ rfl
theorem kf_ints_of {vs : List Value} {ns : List Int} (h : IntsAre vs ns) : kf_ints vs = true := by
  induction h with
  | nil => rfl
  | cons x t _ ih => exact ih
theorem kf_at_of {k : Int} {vs : List Value} {ns : List Int} (h : IntsAre vs ns) (hk : k ∈ ns) : kf_at k vs = some (ns.idxOf k) := by
  induction h with
  | nil => cases hk
  | cons x t _ ih =>
    rw [List.idxOf_cons]
    unfold kf_at
    by_cases e : x = k
    · subst e
      simp [isInt]
    · have e1 : isInt k (.int x t) = false := by simpa [isInt] using e
      have e2 : (x == k) = false := by simpa using e
      have hk' := (List.mem_cons.mp hk).resolve_left (fun q => e q.symm)
      rw [e1, e2, ih hk']
      rfl
theorem Tri.compC {x : Str} {pos : Pos} {v : Value} {scope : Scope} {cl : List (Str × Addr)} {C : Addr} {a : Addr} {o : Obj} (hm : (a, o) ∈ n) (hc : cl.lookup x = some a) (hd : o.data = .cell (some v)) (h : R v m n)
    (hk : (compEnvC scope cl C c.env).scope.kind = .function := by rfl) (hx : (compEnvC scope cl C c.env).kindOf x = some .cell := by rfl) (hb : (x == ("__debug__" : Str)) = false := by decide) : Tri c (eval (.Name x pos) (compEnvC scope cl C c.env)) R m n :=
  fun _ _ s _ _ hA F N D hQ => wpAny_Name (wpAny_loadName_cell hk hx hc ⟨o, N.get (List.mem_append_left _ hm), hd⟩ (hQ _ s m n (Sim.refl s) h F N D)) hb
theorem Tri.index {d : Addr} {vs : List Value} {k : Nat} {x : Int} {t : Tok} {ns : List Int} (hm : (d, LS vs k) ∈ n) (hi : IntsAre vs ns) (hx : x ∈ ns) (hsz : ns.length ≤ sizeLine) (h : ∀ t', R (.int (ns.idxOf x : Nat) t') m n) : Tri c (call (.builtin "list.index") [.ref d, .int x t]) R m n :=
  fun _ _ _ _ _ _ F N D hQ => kf_index N (List.mem_append_left _ hm) (by simpa using kf_ints_of hi) (by simpa using kf_at_of hi hx) rfl (by simpa [hi.length] using hsz) (hQ _ _ m n ⟨_, _, rfl⟩ (h _) F N D)
theorem Tri.sliceStr {v x : Expr} {p pos : Pos}
    (h : Tri c (eval v e) (fun a => Tri c (eval x e) (fun y m' n' => ∃ l t i u, a = .str l t ∧ y = .int i u ∧ l.length ≤ sizeLine ∧ ∀ t', R (.str (Txt.slice l (some i) none) t') m' n')) m n)
    (hs : ∀ l t d, subscripted (.Slice (some x) none none p) false (.str l t) (.ref d) = operate [.ref d, .str l t] (getItem (.str l t) (.ref d)) := by intro l t d; rfl)
    (ht : ∀ l t r, letTemporaryGo v (.str l t) r = Pure.pure () := by intro l t r; rfl) : Tri c (eval (.Subscript v (.Slice (some x) none none p) pos) e) R m n := by
  intro fr g s Q E hA F N D hQ
  refine Subscript_ (h fr g s _ E hA F N D fun a s1 m1 n1 S1 h1 F1 N1 D1 => ?_)
  refine wpAny_Slice (evalPart_some_step (h1 fr g s1 _ E hA F1 N1 D1 fun y s3 m3 n3 S3 h3 F3 N3 D3 => ?_))
  obtain ⟨l, t, i, u, rfl, rfl, hsz, h4⟩ := h3
  refine evalPart_none_step (evalPart_none_step ?_)
  refine slice_strN_sn F3 N3 (fun h' t' k F' N' => hQ _ _ m3 n3 (S1.trans (S3.trans ⟨_, _, rfl⟩)) (h4 _) F' N' D3) (hs _ _ _) (ht _ _) hsz
end
theorem lit_M : Str.ofString "M" = S [77] := by decide +kernel
theorem frL_nones (xs : List Str) (k : Nat) : frL xs (List.replicate k none) = fun _ => none := by
  funext y
  induction xs generalizing k with
  | nil => cases k <;> rfl
  | cons a r ih =>
    cases k with
    | zero => rfl
    | succ k => simp only [List.replicate_succ, frL, ih]; split <;> rfl
theorem ints_at : ∀ {ys : List Value} {ns : List Int}, ys.length = ns.length → (∀ (i : Nat) (y : Value), ys[i]? = some y → ∃ (t : Tok) (x : Int), ns[i]? = some x ∧ y = Value.int x t) → IntsAre ys ns
  | [], [], _, _ => .nil
  | [], _ :: _, h, _ => by cases h
  | _ :: _, [], h, _ => by cases h
  | y :: ys, x :: ns, h, hp => by
    obtain ⟨t, x', hx, rfl⟩ := hp 0 y rfl
    have hx : x = x' := by simpa using hx
    subst hx
    exact .cons _ _ (ints_at (by simpa using h) fun i y hy => hp (i + 1) y hy)
theorem strs_at : ∀ {ys : List Value} {ns : List Str}, ys.length = ns.length → (∀ (i : Nat) (y : Value), ys[i]? = some y → ∃ (t : Tok) (x : Str), ns[i]? = some x ∧ y = Value.str x t) → StrsAre ys ns
  | [], [], _, _ => .nil
  | [], _ :: _, h, _ => by cases h
  | _ :: _, [], h, _ => by cases h
  | y :: ys, x :: ns, h, hp => by
    obtain ⟨t, x', hx, rfl⟩ := hp 0 y rfl
    have hx : x = x' := by simpa using hx
    subst hx
    exact .cons _ _ (strs_at (by simpa using h) fun i y hy => hp (i + 1) y hy)
def restsF (a b : Nat) : List Nat := (List.range (a + b)).map fun k => k * b % (a + b)
def caretsF (rk : Nat) : Nat → Nat → List Nat → Nat
  | _, cr, [] => cr
  | least, cr, r :: l => if r < rk then cr else if r < least then caretsF rk r (cr + 1) l else caretsF rk least cr l
def partF (a b k : Nat) : List Nat := List.replicate (caretsF ((restsF a b).getD k 0) (a + b) (if k = 0 then 0 else 1) ((restsF a b).drop (k + 1))) 94 ++ [if (restsF a b).getD k 0 < a then 77 else 74]
def halvesF (a b : Nat) : List Nat × List Nat :=
  let parts := (List.range (a + b)).map (partF a b)
  let cut := (restsF a b).idxOf 1
  ((parts.take cut).flatten.drop 1, (parts.drop cut).flatten.drop 1)
theorem restsF_length (a b : Nat) : (restsF a b).length = a + b := by simp [restsF]
theorem caretsF_cons (rk least cr r : Nat) (l : List Nat) : caretsF rk least cr (r :: l) = if r < rk then cr else if r < least then caretsF rk r (cr + 1) l else caretsF rk least cr l := rfl
theorem caretsF_le (rk : Nat) : ∀ (l : List Nat) (least cr : Nat), caretsF rk least cr l ≤ cr + l.length
  | [], _, _ => Nat.le_refl _
  | r :: l, least, cr => by
    rw [caretsF_cons]
    have h1 := caretsF_le rk l r (cr + 1)
    have h2 := caretsF_le rk l least cr
    simp only [List.length_cons]
    split
    · omega
    · split <;> omega
theorem slice1_S (l : List Nat) : Txt.slice (S l) (some 1) none = S (l.drop 1) := by
  cases l with
  | nil => decide +kernel
  | cons x r =>
    show StrLaws.sliceText (S (x :: r)) (some 1) none = _
    rw [StrLaws.sliceText_from (by simp; omega)]
    simp
theorem sum_S (B : Nat) : ∀ (ls : List (List Nat)), (∀ l ∈ ls, l.length ≤ B) → ((ls.map S).map Str.length).sum ≤ B * ls.length
  | [], _ => by simp
  | l :: ls, h => by
    have ih := sum_S B ls fun x hx => h x (.tail _ hx)
    have := h l (.head _)
    rw [List.map_cons, List.map_cons, List.sum_cons, S_length, List.length_cons, Nat.mul_succ]
    omega
theorem idxOf_nis (l : List Nat) (k : Nat) : (nis l).idxOf (k : Int) = l.idxOf k := by
  induction l with
  | nil => rfl
  | cons x r ih =>
    show ((x : Int) :: nis r).idxOf (k : Int) = _
    rw [List.idxOf_cons, List.idxOf_cons, ih]
    by_cases h : x = k
    · subst h; simp
    · have e1 : (x == k) = false := by simpa using h
      have e2 : ((x : Int) == (k : Int)) = false := by simpa using (by omega : ¬ ((x : Int) = k))
      rw [e1, e2]


/-- the plain law, first half: what quotedata gives is what _law_sent gives -/
theorem dots_ne {b : Bool} {x : Nat} {r : List Nat} (h : x ≠ 46) : dots b (x :: r) = x :: dots (x == 10) r := by
  rw [dots_cons, if_neg (fun q => h q.2)]
theorem sent_quo : ∀ (k : Nat) (T : List Nat), T.length ≤ k → (∀ b, b ≠ 13 → sentF b T = dots (b == 10) (crlf T)) ∧ sentF 13 T = dots true (crlf (match T with | 10 :: r => r | r => r))
  | 0, T, h => by
    have : T = [] := List.length_eq_zero_iff.mp (by omega)
    subst this
    refine ⟨fun b _ => ?_, ?_⟩ <;> simp [sentF, crlf, dots]
  | k + 1, [], _ => by
    refine ⟨fun b _ => ?_, ?_⟩ <;> simp [sentF, crlf, dots]
  | k + 1, x :: r, h => by
    simp only [List.length_cons] at h
    have ih := sent_quo k r (by omega)
    have e10 : ∀ l, dots true (10 :: l) = 10 :: dots true l := fun l => dots_ne (by decide)
    have e13 : ∀ b l, dots b (13 :: 10 :: l) = 13 :: 10 :: dots true l := fun b l => by
      rw [dots_ne (by decide), show ((13 : Nat) == 10) = false from rfl, dots_ne (by decide)]
      rfl
    by_cases h13 : x = 13
    · subst h13
      have e1 : ∀ b, sentF b (13 :: r) = dots (b == 10) (crlf (13 :: r)) ∧ sentF b (13 :: r) = dots true (crlf (13 :: r)) := by
        intro b
        have e : sentF b (13 :: r) = 13 :: 10 :: sentF 13 r := by rw [sentF_cons, if_pos (.inl rfl)]; rfl
        rw [e, ih.2]
        cases r with
        | nil => rw [crlf_13 (fun r' q => by cases q), e13, e13]; exact ⟨rfl, rfl⟩
        | cons y r =>
          by_cases hy : y = 10
          · subst hy
            rw [crlf_1310, e13, e13]
            exact ⟨rfl, rfl⟩
          · rw [crlf_13 (fun r' q => hy (by cases q; rfl)), e13, e13]
            have : (match y :: r with | 10 :: r => r | r => r) = y :: r := by
              split
              · rename_i heq
                cases heq
                exact absurd rfl hy
              · rfl
            rw [this]
            exact ⟨rfl, rfl⟩
      exact ⟨fun b _ => (e1 b).1, (e1 13).2⟩
    · by_cases h10 : x = 10
      · subst h10
        refine ⟨fun b hb => ?_, ?_⟩
        · rw [sentF_cons, if_pos (.inr ⟨rfl, hb⟩), crlf_10, e13, ih.1 10 (by decide)]
          rfl
        · rw [sentF_cons, if_neg (by decide), if_neg (by decide), ih.1 10 (by decide)]
          rfl
      · have hnx : (x == 10) = false := by simpa using h10
        have go : ∀ b, sentF b (x :: r) = (if x = 46 ∧ (b = 10 ∨ b = 13) then [46, x] else [x]) ++ dots false (crlf r) := by
          intro b
          rw [sentF_cons, if_neg (by omega), if_pos h10, ih.1 x h13, hnx]
        have go2 : ∀ b, dots b (crlf (x :: r)) = (if b = true ∧ x = 46 then [46, x] else [x]) ++ dots false (crlf r) := by
          intro b
          rw [crlf_ne h13 h10, dots_cons, hnx]
          split
          · rename_i q
            rw [q.2]
            rfl
          · rfl
        have hm : (match x :: r with | 10 :: r => r | r => r) = x :: r := by
          split
          · rename_i heq
            cases heq
            exact absurd rfl h10
          · rfl
        refine ⟨fun b hb => ?_, ?_⟩
        · rw [go, go2]
          by_cases hb10 : b = 10
          · subst hb10
            simp
          · have : (b == 10) = false := by simpa using hb10
            simp [this, hb10, hb]
        · rw [hm, go, go2]
          simp
theorem sent_is_quo (T : List Nat) : sentF 10 T = quo T := (sent_quo _ T (Nat.le_refl _)).1 10 (by decide)

/-- the plain law, second half: the rounds grow the text -/
abbrev hit (m : Int) (k : Nat) : Prop := (m = 13 ∧ k ∈ [77, 109, 45]) ∨ (m = 10 ∧ k ∈ [74, 106, 42])
def WW : List Int → Nat → List Nat
  | [], k => [k]
  | m :: r, k => if hit m k then 94 :: (WW r 77 ++ 94 :: WW r 74) else if k = 159 then [33, 94, 95] else WW r k
def GG (marks : List Int) : Option Nat → List Nat → List Nat
  | _, [] => []
  | p, k :: r => dotsG marks p k ++ WW marks k ++ GG marks (some k) r
def rdF (m : Int) : Bool → List Nat → List Nat
  | _, [] => []
  | b, k :: r => (if b = true ∧ k = 46 then [46] else []) ++ (if hit m k then [94, 77, 94, 74] else if k = 159 then [33, 94, 95] else [k]) ++ rdF m (decide (hit m k)) r
theorem GG_cons (marks : List Int) (p : Option Nat) (k : Nat) (r : List Nat) : GG marks p (k :: r) = dotsG marks p k ++ WW marks k ++ GG marks (some k) r := rfl
theorem rdF_cons (m : Int) (b : Bool) (k : Nat) (r : List Nat) : rdF m b (k :: r) = (if b = true ∧ k = 46 then [46] else []) ++ (if hit m k then [94, 77, 94, 74] else if k = 159 then [33, 94, 95] else [k]) ++ rdF m (decide (hit m k)) r := rfl
theorem hit_no {m : Int} {k : Nat} (h : k ∉ [77, 109, 45, 74, 106, 42]) : ¬ hit m k := by
  rintro (⟨_, q⟩ | ⟨_, q⟩)
  · exact h (by simp at q ⊢; omega)
  · exact h (by simp at q ⊢; omega)
theorem WW_cons (m : Int) (r : List Int) (k : Nat) : WW (m :: r) k = if hit m k then 94 :: (WW r 77 ++ 94 :: WW r 74) else if k = 159 then [33, 94, 95] else WW r k := rfl
theorem WW_self {k : Nat} (h : k ∉ [77, 109, 45, 74, 106, 42]) (h2 : k ≠ 159) : ∀ (marks : List Int), WW marks k = [k]
  | [] => rfl
  | m :: r => by
    rw [WW_cons, if_neg (hit_no h), if_neg h2]
    exact WW_self h h2 r
theorem WW_hit {m : Int} {k : Nat} (r : List Int) (h : hit m k) : WW (m :: r) k = 94 :: (WW r 77 ++ 94 :: WW r 74) := by rw [WW_cons, if_pos h]
theorem WW_159 (m : Int) (r : List Int) : WW (m :: r) 159 = [33, 94, 95] := by rw [WW_cons, if_neg (hit_no (by decide)), if_pos rfl]
theorem WW_miss {m : Int} {k : Nat} (r : List Int) (h : ¬ hit m k) (h2 : k ≠ 159) : WW (m :: r) k = WW r k := by
  rw [WW_cons, if_neg h, if_neg h2]
theorem moreF_hit {m : Int} {k : Nat} (r : List Int) (h : hit m k) : moreF k (m :: r) = moreF 74 r + 1 := by rw [moreF_cons]; exact if_pos h
theorem moreF_miss {m : Int} {k : Nat} (r : List Int) (h : ¬ hit m k) : moreF k (m :: r) = moreF k r := by rw [moreF_cons]; exact if_neg h
theorem moreF_self {k : Nat} (h : k ∉ [77, 109, 45, 74, 106, 42]) : ∀ (marks : List Int), moreF k marks = 0
  | [] => rfl
  | m :: r => by rw [moreF_miss r (hit_no h)]; exact moreF_self h r
theorem dotsG_ne {marks : List Int} {p : Option Nat} {k : Nat} (h : k ≠ 46) : dotsG marks p k = [] := by unfold dotsG; rw [if_neg h]
def cntG (marks : List Int) : Option Nat → Nat
  | none => marks.length
  | some p => moreF p marks
theorem dotsG_46 (marks : List Int) (p : Option Nat) : dotsG marks p 46 = List.replicate (cntG marks p) 46 := by unfold dotsG; rw [if_pos rfl]; cases p <;> rfl
/-- the sign before a place, once the round is over -/
def Follows (m : Int) (r : List Int) (b : Bool) (p p' : Option Nat) : Prop :=
  (dotsG (m :: r) p 46 = (if b = true then [46] else []) ++ dotsG r p' 46)
theorem grow_step (m : Int) (r : List Int) : ∀ (T : List Nat) (b : Bool) (p p' : Option Nat), Follows m r b p p' → GG r p' (rdF m b T) = GG (m :: r) p T
  | [], _, _, _, _ => rfl
  | k :: T, b, p, p', hF => by
    have none46 : ∀ q, dotsG r (some q) 46 = List.replicate (moreF q r) 46 := fun q => dotsG_46 r (some q)
    have none46' : ∀ q, dotsG (m :: r) (some q) 46 = List.replicate (moreF q (m :: r)) 46 := fun q => dotsG_46 (m :: r) (some q)
    rw [rdF_cons, GG_cons]
    by_cases hh : hit m k
    · have h46 : k ≠ 46 := by rintro rfl; exact hit_no (by decide) hh
      have ih := grow_step m r T true (some k) (some 74) (by
        unfold Follows
        rw [none46, none46', moreF_hit r hh, if_pos rfl, List.replicate_succ]
        rfl)
      rw [if_neg (fun q => h46 q.2), if_pos hh, decide_eq_true hh, WW_hit r hh, dotsG_ne h46, ← ih]
      simp only [List.nil_append, List.cons_append, GG_cons]
      rw [dotsG_ne (by decide : (94 : Nat) ≠ 46), dotsG_ne (by decide : (77 : Nat) ≠ 46), dotsG_ne (by decide : (94 : Nat) ≠ 46), dotsG_ne (by decide : (74 : Nat) ≠ 46), WW_self (by decide) (by decide)]
      simp
    · have ihF : ∀ q, moreF q r = moreF k r → Follows m r false (some k) (some q) := fun q hq => by
        unfold Follows
        rw [none46, none46', moreF_miss r hh, hq]
        rfl
      rw [if_neg hh, decide_eq_false hh]
      by_cases h159 : k = 159
      · subst h159
        have ih := grow_step m r T false (some 159) (some 95) (ihF 95 (by rw [moreF_self (by decide), moreF_self (by decide)]))
        rw [if_neg (fun q => absurd q.2 (by decide)), if_pos rfl, WW_159, dotsG_ne (by decide), ← ih]
        simp only [List.nil_append, List.cons_append, GG_cons]
        rw [dotsG_ne (by decide : (33 : Nat) ≠ 46), dotsG_ne (by decide : (94 : Nat) ≠ 46), dotsG_ne (by decide : (95 : Nat) ≠ 46), WW_self (by decide) (by decide), WW_self (by decide) (by decide), WW_self (by decide) (by decide)]
        rfl
      · have ih := grow_step m r T false (some k) (some k) (ihF k rfl)
        rw [if_neg h159, WW_miss r hh h159, ← ih]
        by_cases h46 : k = 46
        · subst h46
          rw [hF]
          cases b with
          | false =>
            simp only [Bool.false_eq_true, false_and, if_false, List.nil_append, List.cons_append, GG_cons]
          | true =>
            have w46 : WW r 46 = [46] := WW_self (by decide) (by decide) r
            have z46 : dotsG r (some 46) 46 = [] := by rw [none46, moreF_self (by decide)]; rfl
            have hrep : ∀ n : Nat, List.replicate n 46 ++ [46] = 46 :: List.replicate n 46 := fun n => by rw [← List.replicate_succ', List.replicate_succ]
            simp only [true_and, if_true, List.nil_append, List.cons_append, GG_cons, w46, z46]
            rw [dotsG_46]
            have := hrep (cntG r p')
            simp only [List.append_assoc, List.cons_append, List.nil_append, List.append_nil]
            rw [← List.cons_append, ← this, List.append_assoc]
            rfl
        · rw [if_neg (fun q => h46 q.2), dotsG_ne h46]
          simp only [List.nil_append, List.cons_append, GG_cons, dotsG_ne h46]
theorem grow_first (m : Int) (r : List Int) (T : List Nat) : GG r none (rdF m true T) = GG (m :: r) none T :=
  grow_step m r T true none none (by unfold Follows; rw [dotsG_46, dotsG_46]; exact List.replicate_succ)
theorem GG_nil : ∀ (T : List Nat) (p : Option Nat), GG [] p T = T ∨ p = none
  | _, none => .inr rfl
  | [], some _ => .inl rfl
  | k :: T, some p => by
    refine .inl ?_
    rw [GG_cons]
    have := (GG_nil T (some k)).resolve_right (by simp)
    rw [this]
    unfold dotsG
    split <;> simp [moreF, WW]
theorem GG_nil_none (T : List Nat) : GG [] none T = T := by
  cases T with
  | nil => rfl
  | cons k T =>
    rw [GG_cons, (GG_nil T (some k)).resolve_right (by simp)]
    unfold dotsG
    split <;> simp [WW]
theorem grow_all : ∀ (marks : List Int) (T : List Nat), marks.foldl (fun T m => rdF m true T) T = GG marks none T
  | [], T => (GG_nil_none T).symm
  | m :: r, T => by rw [List.foldl_cons, grow_all r, grow_first]


def alF (k : Nat) : Prop := (32 ≤ k ∧ k ≤ 126) ∨ k = 159
def subF (d k : Nat) : Nat := if k % 32 = d then d else k
theorem unc_shift {k : Nat} (t : Int) (h : k < 256) (hk : k ≠ 127) : unc ((k : Int) + 256 * t) = unc k := by
  have e1 : ((k : Int) + 256 * t) % 128 = (k : Int) % 128 := by omega
  have e2 : ((k : Int) + 256 * t) / 128 % 2 = (k : Int) / 128 % 2 := by omega
  have e3 : ¬ ((k : Int) + 256 * t) = 127 := by omega
  have e4 : ¬ (k : Int) = 127 := by omega
  unfold unc
  rw [e1, e2, if_neg e3, if_neg e4]
theorem unc_13 : unc ((13 : Nat) : Int) = [94, 77] := by decide +kernel
theorem unc_10 : unc ((10 : Nat) : Int) = [94, 74] := by decide +kernel
theorem unc_159 : unc ((159 : Nat) : Int) = [33, 94, 95] := by decide +kernel
theorem unc_46 : unc ((46 : Nat) : Int) = [46] := by decide +kernel
theorem unc_pr {k : Nat} (h : 32 ≤ k ∧ k ≤ 126) : unc (k : Int) = [k] := by
  have e : k % 128 = k := by omega
  rw [unc_mid (by omega) (by omega), e]
  have : ¬ k / 128 % 2 = 1 := by omega
  simp [ahd, this]
theorem unc_al (k : Nat) : ∀ x ∈ unc (k : Int), alF x := by
  intro x hx
  have ha : ∀ x ∈ ahd k, x = 33 := by
    intro x hx
    unfold ahd at hx
    split at hx
    · simpa using hx
    · cases hx
  by_cases h0 : k % 128 < 32
  · rw [unc_low h0] at hx
    rcases List.mem_append.mp hx with q | q
    · exact .inl (by have := ha x q; omega)
    · simp only [List.mem_cons, List.not_mem_nil, or_false] at q
      exact .inl (by omega)
  · by_cases h1 : k = 127
    · subst h1
      rw [unc_127] at hx
      simp only [List.mem_cons, List.not_mem_nil, or_false] at hx
      exact .inl (by omega)
    · by_cases h2 : k % 128 = 127
      · rw [unc_del h2 h1] at hx
        rcases List.mem_append.mp hx with q | q
        · exact .inl (by have := ha x q; omega)
        · simp only [List.mem_cons, List.not_mem_nil, or_false] at q
          rcases q with q | q
          · exact .inl (by omega)
          · exact .inr q
      · rw [unc_mid (by omega) (by omega)] at hx
        rcases List.mem_append.mp hx with q | q
        · exact .inl (by have := ha x q; omega)
        · simp only [List.mem_cons, List.not_mem_nil, or_false] at q
          exact .inl (by omega)
theorem unc_len (b : Int) : (unc b).length ≤ 3 := by
  unfold unc
  (repeat' split) <;> simp
theorem hit_al {d k : Nat} (hd : d = 13 ∨ d = 10) (hk : alF k) : hit (d : Int) k ↔ k % 32 = d := by
  unfold alF at hk
  unfold hit
  simp only [List.mem_cons, List.not_mem_nil, or_false]
  omega
def uncs (t : Int) (T : List Nat) : List Nat := T.flatMap fun (k : Nat) => unc ((k : Int) + 256 * t)
theorem uncs_cons (t : Int) (k : Nat) (T : List Nat) : uncs t (k :: T) = unc ((k : Int) + 256 * t) ++ uncs t T := by unfold uncs; rw [List.flatMap_cons]
theorem round_is {d : Nat} (hd : d = 13 ∨ d = 10) (t : Int) : ∀ (T : List Nat) (b : Bool), (∀ k ∈ T, alF k) → uncs t (dots b (crlf (T.map (subF d)))) = rdF (d : Int) b T
  | [], b, _ => by simp [crlf, dots, uncs, rdF]
  | k :: T, b, h => by
    have hk := h k (.head _)
    have hT := fun x hx => h x (.tail _ hx)
    have e13 : ∀ l, uncs t (dots b (13 :: 10 :: l)) = [94, 77, 94, 74] ++ uncs t (dots true l) := fun l => by
      rw [dots_ne (by decide), show ((13 : Nat) == 10) = false from rfl, dots_ne (by decide), uncs_cons, uncs_cons, unc_shift t (by decide) (by decide), unc_shift t (by decide) (by decide), unc_13, unc_10]
      rfl
    have ihT := round_is hd t T true hT
    have ihF := round_is hd t T false hT
    rw [rdF_cons, List.map_cons]
    by_cases hh : hit (d : Int) k
    · have hm : k % 32 = d := (hit_al hd hk).mp hh
      have h46 : k ≠ 46 := by rintro rfl; exact hit_no (by decide) hh
      have es : subF d k = d := by unfold subF; rw [if_pos hm]
      rw [if_neg (fun q => h46 q.2), if_pos hh, decide_eq_true hh, es, ← ihT]
      rcases hd with rfl | rfl
      · rw [crlf_13, e13]
        · rfl
        · intro r' q
          cases T with
          | nil => cases q
          | cons y T =>
            rw [List.map_cons] at q
            have q1 : subF 13 y = 10 := (List.cons.inj q).1
            have hy := hT y (.head _)
            unfold subF at q1
            unfold alF at hy
            split at q1 <;> omega
      · rw [crlf_10, e13]
        rfl
    · have hm : ¬ k % 32 = d := fun q => hh ((hit_al hd hk).mpr q)
      have es : subF d k = k := by unfold subF; rw [if_neg hm]
      have hk' : k ≠ 13 ∧ k ≠ 10 ∧ k < 256 ∧ k ≠ 127 := by unfold alF at hk; omega
      have eu : unc ((k : Int) + 256 * t) = if k = 159 then [33, 94, 95] else [k] := by
        rw [unc_shift t hk'.2.2.1 hk'.2.2.2]
        split
        · rename_i q
          subst q
          exact unc_159
        · exact unc_pr (hk.resolve_right (by assumption))
      rw [if_neg hh, decide_eq_false hh, es, crlf_ne hk'.1 hk'.2.1, dots_cons, ← ihF]
      have hn : (k == 10) = false := by simpa using hk'.2.1
      by_cases h46 : k = 46
      · subst h46
        cases b with
        | true => rw [if_pos ⟨rfl, rfl⟩, if_pos ⟨rfl, rfl⟩, uncs_cons, uncs_cons, eu]; rfl
        | false => rw [if_neg (by simp), if_neg (by simp), uncs_cons, eu, hn]; rfl
      · rw [if_neg (fun q => h46 q.2), if_neg (fun q => h46 q.2), uncs_cons, eu, hn]
        rfl
theorem rdF_al (m : Int) : ∀ (T : List Nat) (b : Bool), (∀ k ∈ T, alF k) → ∀ k ∈ rdF m b T, alF k
  | [], _, _ => by intro k hk; cases hk
  | k :: T, b, h => by
    intro x hx
    rw [rdF_cons] at hx
    rcases List.mem_append.mp hx with q | q
    · rcases List.mem_append.mp q with q | q
      · split at q
        · simp only [List.mem_cons, List.not_mem_nil, or_false] at q
          exact .inl (by omega)
        · cases q
      · split at q
        · simp only [List.mem_cons, List.not_mem_nil, or_false] at q
          exact .inl (by omega)
        · split at q
          · simp only [List.mem_cons, List.not_mem_nil, or_false] at q
            exact .inl (by omega)
          · simp only [List.mem_cons, List.not_mem_nil, or_false] at q
            rw [q]
            exact h k (.head _)
    · exact rdF_al m T _ (fun y hy => h y (.tail _ hy)) x q
theorem rdF_len (m : Int) : ∀ (T : List Nat) (b : Bool), (rdF m b T).length ≤ 5 * T.length
  | [], _ => by simp [rdF]
  | k :: T, b => by
    rw [rdF_cons]
    have ih := rdF_len m T (decide (hit m k))
    have h1 : (if b = true ∧ k = 46 then [46] else []).length ≤ 1 := by split <;> simp
    have h2 : (if hit m k then [94, 77, 94, 74] else if k = 159 then [33, 94, 95] else [k]).length ≤ 4 := by (repeat' split) <;> simp
    simp only [List.length_append, List.length_cons]
    omega

/-- the twenty pairs -/
def okPair (a b : Nat) : Bool :=
  let g := (rnd (a + b) a b).1
  let ms := (rnd (a + b) a b).2.reverse
  let hv := halvesF (a / g) (b / g)
  decide (ms ≠ []) && decide (ms.length ≤ 4) && ms.all (fun m => m == 13 || m == 10) && decide (1 ≤ g) && decide (g ≤ 5) && decide (1 ∈ restsF (a / g) (b / g)) && decide (a / g + b / g ≤ 20) && decide (0 < a / g + b / g) && decide (hv.1.length ≤ 1000) && decide (hv.2.length ≤ 1000)
    && (if ms.contains 13 then decide (WW ms 77 = hv.1) && decide (1 < hv.1.length) else decide (hv.1.length ≤ 1))
    && (if ms.contains 10 then decide (WW ms 74 = hv.2) && decide (1 < hv.2.length) else decide (hv.2.length ≤ 1))
theorem ok_all : ∀ i : Fin 5, ∀ j : Fin 4, okPair (1 + i.val) (1 + (i.val + 1 + j.val) % 5) = true := by decide +kernel
theorem WW_M : ∀ (ms : List Int) (k : Nat), k ∈ [77, 109, 45] → WW ms k = if (13 : Int) ∈ ms then WW ms 77 else [k]
  | [], _, _ => by simp [WW]
  | m :: r, k, hk => by
    have h159 : k ≠ 159 := by simp at hk; omega
    by_cases hm : m = 13
    · subst hm
      rw [WW_hit r (.inl ⟨rfl, hk⟩), WW_hit r (.inl ⟨rfl, .head _⟩), if_pos (.head _)]
    · have hn : ∀ k, k ∈ [77, 109, 45] → ¬ hit m k := by
        rintro k hk (⟨q, _⟩ | ⟨_, q⟩)
        · exact hm q
        · simp at hk q
          omega
      have : (13 : Int) ∈ m :: r ↔ (13 : Int) ∈ r := by
        simp only [List.mem_cons, or_iff_right_iff_imp]
        intro q
        exact absurd q.symm hm
      rw [WW_miss r (hn k hk) h159, WW_miss r (hn 77 (.head _)) (by decide), WW_M r k hk]
      simp only [this]
theorem WW_J : ∀ (ms : List Int) (k : Nat), k ∈ [74, 106, 42] → WW ms k = if (10 : Int) ∈ ms then WW ms 74 else [k]
  | [], _, _ => by simp [WW]
  | m :: r, k, hk => by
    have h159 : k ≠ 159 := by simp at hk; omega
    by_cases hm : m = 10
    · subst hm
      rw [WW_hit r (.inr ⟨rfl, hk⟩), WW_hit r (.inr ⟨rfl, .head _⟩), if_pos (.head _)]
    · have hn : ∀ k, k ∈ [74, 106, 42] → ¬ hit m k := by
        rintro k hk (⟨_, q⟩ | ⟨q, _⟩)
        · simp at hk q
          omega
        · exact hm q
      have : (10 : Int) ∈ m :: r ↔ (10 : Int) ∈ r := by
        simp only [List.mem_cons, or_iff_right_iff_imp]
        intro q
        exact absurd q.symm hm
      rw [WW_miss r (hn k hk) h159, WW_miss r (hn 74 (.head _)) (by decide), WW_J r k hk]
      simp only [this]
structure OkP (a b : Nat) (g : Nat) (ms : List Int) (h0 h1 : List Nat) : Prop where
  ne : ms ≠ []
  len : ms.length ≤ 4
  mrk : ∀ m ∈ ms, m = 13 ∨ m = 10
  g1 : 1 ≤ g
  g5 : g ≤ 5
  one : 1 ∈ restsF (a / g) (b / g)
  le : a / g + b / g ≤ 20
  pos : 0 < a / g + b / g
  l0 : h0.length ≤ 1000
  l1 : h1.length ≤ 1000
  sg : ∀ k, signG h0 h1 k = WW ms k
theorem okP {a b : Nat} (h : okPair a b = true) : OkP a b (rnd (a + b) a b).1 (rnd (a + b) a b).2.reverse (halvesF (a / (rnd (a + b) a b).1) (b / (rnd (a + b) a b).1)).1 (halvesF (a / (rnd (a + b) a b).1) (b / (rnd (a + b) a b).1)).2 := by
  unfold okPair at h
  simp only at h
  generalize hms : (rnd (a + b) a b).2.reverse = ms at h
  generalize hg : (rnd (a + b) a b).1 = g at h
  generalize halvesF (a / g) (b / g) = hv at h
  simp only [Bool.and_eq_true, decide_eq_true_eq] at h
  obtain ⟨⟨⟨⟨⟨⟨⟨⟨⟨⟨⟨q1, q2⟩, q3⟩, q4⟩, q5⟩, q6⟩, q7⟩, q8⟩, q9⟩, q10⟩, q11⟩, q12⟩ := h
  have c13 : ms.contains 13 = decide ((13 : Int) ∈ ms) := by simp
  have c10 : ms.contains 10 = decide ((10 : Int) ∈ ms) := by simp
  rw [c13] at q11
  rw [c10] at q12
  refine ⟨q1, q2, fun m hm => ?_, q4, q5, q6, q7, q8, q9, q10, fun k => ?_⟩
  · have := List.all_eq_true.mp q3 m hm
    simpa using this
  · unfold signG
    by_cases kM : k ∈ [77, 109, 45]
    · have kJ : k ∉ [74, 106, 42] := by
        intro q
        simp at kM q
        omega
      have k9 : k ≠ 159 := by simp at kM; omega
      rw [WW_M ms k kM]
      by_cases m13 : (13 : Int) ∈ ms
      · rw [decide_eq_true m13, if_pos rfl] at q11
        simp only [Bool.and_eq_true, decide_eq_true_eq] at q11
        rw [if_pos ⟨kM, q11.2⟩, if_pos m13, q11.1]
      · rw [decide_eq_false m13, if_neg (by decide)] at q11
        have q11 := of_decide_eq_true q11
        rw [if_neg (fun q => by omega), if_neg (fun q => kJ q.1), if_neg k9, if_neg m13]
    · by_cases kJ : k ∈ [74, 106, 42]
      · have k9 : k ≠ 159 := by simp at kJ; omega
        rw [WW_J ms k kJ]
        by_cases m10 : (10 : Int) ∈ ms
        · rw [decide_eq_true m10, if_pos rfl] at q12
          simp only [Bool.and_eq_true, decide_eq_true_eq] at q12
          rw [if_neg (fun q => kM q.1), if_pos ⟨kJ, q12.2⟩, if_pos m10, q12.1]
        · rw [decide_eq_false m10, if_neg (by decide)] at q12
          have q12 := of_decide_eq_true q12
          rw [if_neg (fun q => kM q.1), if_neg (fun q => by omega), if_neg k9, if_neg m10]
      · rw [if_neg (fun q => kM q.1), if_neg (fun q => kJ q.1)]
        by_cases k9 : k = 159
        · subst k9
          rw [if_pos rfl]
          cases ms with
          | nil => exact absurd rfl q1
          | cons m r => rw [WW_159]
        · rw [if_neg k9, WW_self (fun q => ?_) k9]
          simp only [List.mem_cons, List.not_mem_nil, or_false] at q kM kJ
          omega
theorem growF_is {h0 h1 : List Nat} {ms : List Int} (h : ∀ k, signG h0 h1 k = WW ms k) : ∀ (T : List Nat) (p : Option Nat), growF h0 h1 ms p T = GG ms p T
  | [], _ => rfl
  | k :: T, p => by rw [growF_cons, GG_cons, h k, growF_is h T]
theorem pair_ok (x : Int) : okPair (1 + (x % 5).toNat) (1 + ((x + 1 + x / 5 % 4) % 5).toNat) = true := by
  have := ok_all ⟨(x % 5).toNat, by omega⟩ ⟨(x / 5 % 4).toNat, by omega⟩
  have e : ((x % 5).toNat + 1 + (x / 5 % 4).toNat) % 5 = ((x + 1 + x / 5 % 4) % 5).toNat := by omega
  rw [← e]
  exact this

section
variable {c : Cx} {m : FM} {n : Led} {R : Value → FM → Led → Prop}
local macro_rules | `(tactic| walk_at "get") => `(tactic| first | exact g_halves_a | exact g_halves_rests | exact g_halves_parts | exact g_halves_k | exact g_halves_carets | exact g_halves_least | exact g_halves_rest | exact g_halves_cut)
local macro_rules | `(tactic| walk_at "set") => `(tactic| first | exact p_halves_rests | exact p_halves_parts | exact p_halves_k | exact p_halves_carets | exact p_halves_least | exact p_halves_rest | exact p_halves_cut)
theorem halves_ints {a b : Nat} {t u : Tok} (hr : Room c 1) (hab : a + b ≤ 20) (hs : 0 < a + b) (h1 : 1 ∈ restsF a b)
    (h : ∀ tp t0 t1, R (.ref tp) m ((tp, TP [.str (S (halvesF a b).1) t0, .str (S (halvesF a b).2) t1]) :: n)) : Tri c (call (.ref 109) [.int a t, .int b u]) R m n := by
  have hsl := sl_ge
  have hr0 : ∀ {env : Env}, env.frame = some env.locals → env.scope.kind = .function → Room (c.into env) 0 := fun h1 h2 => hr.into h1 h2
  refine Tri.enterC (binds := [(Str.ofString "a", .int a t), (Str.ofString "b", .int b u)]) (m₀ := frL nm_halves [some (.int a t), none, none, none, none, none, none, none]) (x1 := Str.ofString "b") (x2 := Str.ofString "size") (w1 := some (.int b u)) (w2 := none) hr rfl rfl rfl rfl (fun p => rfl) (by decide +kernel)
    (fun L' => ?_) (fun L' => by rfl) (fun L' => by rfl) (fun L' o1 o2 ho1 ho2 => Tri.weaken ?_)
  · refine Eq.trans ?_ (p_halves_a (v0 := none))
    have e0 : frL nm_halves [none, none, none, none, none, none, none, none] = fun _ => none := frL_nones nm_halves 8
    rw [e0, bindL, bindL, bindL, if_neg (fun q => absurd (q.symm.trans (show _ = some NameKind.cell by with_unfolding_all rfl)) (by decide)), if_pos (by with_unfolding_all rfl)]
    rfl
  have hsi : ((a : Int) + b) = ((a + b : Nat) : Int) := by omega
  repeat walk_at "t"
  refine Tri.nameC (.tail _ (.head _)) rfl ho1 ?_
  repeat walk_at "t"
  refine Tri.storeC (pre := []) rfl ho2 fun o2' ho2' => ?_
  rw [hsi] at ho2'
  rw [List.nil_append]
  repeat walk_at "t"
  refine Tri.assignComp (by with_unfolding_all rfl) ?_ (by with_unfolding_all rfl)
  repeat walk_at "t"
  refine Tri.nameC (.head _) rfl ho2' ?_
  repeat walk_at "t"
  refine Tri.range fun l t1 t2 t3 => ?_
  refine ⟨a + b, _, _, fun i v => ∃ t, v = .int ((i * b % (a + b) : Nat) : Int) t, rfl, Thru.range (hr0 rfl rfl).1 (.head _) (by omega), trivial, by omega, ?_, ?_⟩
  · rintro i v C oC m₂ hi ⟨ti, rfl⟩ hC hx
    repeat walk_at "t"
    refine Tri.compOwn (.head _) hC hx ?_
    repeat walk_at "t"
    refine Tri.compC (.tail _ (.tail _ (.tail _ (.head _)))) rfl ho1 ?_ (hx := by with_unfolding_all rfl)
    repeat walk_at "t"
    refine Tri.mulInt (IntMulOk.of_right (PySem.intBits_le_64 (by omega) (by omega))) fun _ => ?_
    refine Tri.compC (.tail _ (.tail _ (.head _))) rfl ho2' ?_ (hx := by with_unfolding_all rfl)
    repeat walk_at "t"
    refine Tri.modInt (by omega) fun _ => ?_
    repeat walk_at "t"
    exact ⟨_, rfl⟩
  intro D ys hys hP
  rw [p_halves_rests]
  have hR : IntsAre ys (nis (restsF a b)) := ints_at (by simp [hys, restsF]) fun i y hy => by
    obtain ⟨t, rfl⟩ := hP i y hy
    have hi : i < a + b := by rw [← hys]; exact (List.getElem?_eq_some_iff.mp hy).1
    exact ⟨t, _, by simp [restsF, hi], rfl⟩
  have hRl := restsF_length a b
  clear hP
  repeat walk_at "t"
  refine Tri.newList (by simp) fun P => ?_
  repeat walk_at "t"
  have hpart : ∀ i, (partF a b i).length ≤ 30 := by
    intro i
    unfold partF
    have := caretsF_le ((restsF a b).getD i 0) ((restsF a b).drop (i + 1)) (a + b) (if i = 0 then 0 else 1)
    simp only [List.length_append, List.length_replicate, List.length_drop, hRl, List.length_cons, List.length_nil] at this ⊢
    split at this <;> split <;> omega
  generalize hNR : ((D, LS ys ys.length) :: (l, RG ((a + b : Nat) : Int) t1 t2 t3) :: (L' + 1 + 1, o2') :: (L' + 1, o1) :: n) = NR
  have hcell : (L' + 1 + 1, o2') ∈ NR := by rw [← hNR]; exact .tail _ (.tail _ (.head _))
  have hlist : (D, LS ys ys.length) ∈ NR := by rw [← hNR]; exact .head _
  refine Tri.mono (R := fun f m' n' => f = .next ∧ ∃ p ws kk v3 v4 v5 v6, n' = p :: (P, LS ws kk) :: NR ∧ m' = frL nm_halves [some (.int a t), some (.ref D), some (.ref P), v3, v4, v5, v6, none] ∧ StrsAre ws (((List.range (a + b)).map (partF a b)).map S)) ?_ ?_
  · refine Tri.for_ ?_
    repeat walk_at "t"
    refine Tri.nameC (.tail _ hcell) rfl ho2' ?_
    repeat walk_at "t"
    refine Tri.range fun l' t1' t2' t3' => ?_
    refine ⟨_, _, _, Thru.range (hr0 rfl rfl).1 (.head _) (by omega), fun i m' n' => ∃ p ws kk v3 v4 v5 v6, n' = p :: (P, LS ws kk) :: NR ∧ m' = frL nm_halves [some (.int a t), some (.ref D), some (.ref P), v3, v4, v5, v6, none] ∧ StrsAre ws (((List.range i).map (partF a b)).map S), ⟨_, _, _, _, _, _, _, rfl, rfl, .nil⟩, ?_, ?_, ?_⟩
    · intros; trivial
    · rintro i v m1 n1 hlt ⟨ti, rfl⟩ ⟨p, ws, kk, v3, v4, v5, v6, rfl, rfl, hws⟩
      rw [p_halves_k]
      have hil : i < (restsF a b).length := by omega
      obtain ⟨rk, hrk⟩ : ∃ rk, (restsF a b).getD i 0 = rk := ⟨_, rfl⟩
      have hrk' : (restsF a b)[i]? = some rk := by rw [← hrk, List.getD_eq_getElem?_getD, List.getElem?_eq_getElem hil]; rfl
      obtain ⟨trk, hvk⟩ : ∃ trk, ys[i]? = some (.int (rk : Nat) trk) := by
        have hy : i < ys.length := by omega
        obtain ⟨x, tx, hx, hn⟩ := IntsAre.at hR i ys[i] (List.getElem?_eq_getElem hy)
        rw [List.getElem?_map, hrk'] at hn
        have hn : ((rk : Nat) : Int) = x := Option.some.inj hn
        exact ⟨tx, by rw [List.getElem?_eq_getElem hy, hx, hn]⟩
      refine Tri.weaken ?_
      refine Tri.cons ?_
      refine Tri.mono (R := fun f m' n' => f = .next ∧ n' = p :: (P, LS ws kk) :: NR ∧ ∃ t4, m' = frL nm_halves [some (.int a t), some (.ref D), some (.ref P), some (.int i ti), some (.int ((if i = 0 then 0 else 1 : Nat) : Int) t4), v5, v6, none]) ?_ ?_
      · repeat walk_at "t"
        refine ⟨fun q => ?_, fun q => ?_⟩
        · have q : i = 0 := by have := beqT q; omega
          repeat walk_at "t"
          rw [if_pos q]
          exact ⟨_, rfl⟩
        · have q : i ≠ 0 := by have := beqF q; omega
          repeat walk_at "t"
          rw [if_neg q]
          exact ⟨_, rfl⟩
      rintro f m1 n1 ⟨rfl, rfl, t4, rfl⟩
      generalize hc0 : (if i = 0 then 0 else 1 : Nat) = c0
      repeat walk_at "t"
      refine Tri.nameC (.tail _ (.tail _ hcell)) rfl ho2' ?_
      repeat walk_at "t"
      have hZ : IntsAre (ys.drop (i + 1)) (nis ((restsF a b).drop (i + 1))) := by
        have := IntsAre.drop hR (i + 1)
        rwa [← List.map_drop] at this
      generalize hrd : (restsF a b).drop (i + 1) = rs at hZ
      have hZl : (ys.drop (i + 1)).length = rs.length := by rw [hZ.length]; simp [nis]
      refine Tri.mono (R := fun f m' n' => f = .next ∧ ∃ q t5 ls v6', n' = q :: p :: (P, LS ws kk) :: NR ∧ m' = frL nm_halves [some (.int a t), some (.ref D), some (.ref P), some (.int i ti), some (.int (caretsF rk (a + b) c0 rs : Nat) t5), ls, v6', none]) ?_ ?_
      · refine Tri.for_ ?_
        repeat walk_at "t"
        refine ⟨D, ys, ys.drop (i + 1), some ((i + 1 : Nat) : Int), none, rfl, .inl ⟨_, .tail _ (.tail _ hlist)⟩, by omega, ?_, .none, by rw [slicePick_from'], fun sl => ?_⟩
        · rw [show ((i : Int) + 1) = ((i + 1 : Nat) : Int) from by omega]
          exact .int _ _
        refine ⟨_, _, _, Thru.list (hr0 rfl rfl).1 (.head _), fun j m' n' => n' = (sl, LS (ys.drop (i + 1)) 0) :: p :: (P, LS ws kk) :: NR ∧ ∃ cr t5 ls t6 v6', m' = frL nm_halves [some (.int a t), some (.ref D), some (.ref P), some (.int i ti), some (.int (cr : Nat) t5), some (.int (ls : Nat) t6), v6', none] ∧ caretsF rk ls cr (rs.drop j) = caretsF rk (a + b) c0 rs, ⟨rfl, _, _, _, _, _, rfl, rfl⟩, ?_, ?_, ?_⟩
        · rintro j m1 n1 ⟨rfl, -⟩
          exact .head _
        · rintro j v m1 n1 hj hv ⟨rfl, cr, t5, ls, t6, v6', rfl, hcr⟩
          obtain ⟨x, tx, rfl, hx⟩ := IntsAre.at hZ j v hv
          have hj' : j < rs.length := by omega
          rw [List.getElem?_map, List.getElem?_eq_getElem hj'] at hx
          have hx : ((rs[j] : Nat) : Int) = x := Option.some.inj hx
          subst hx
          rw [List.drop_eq_getElem_cons hj', caretsF_cons] at hcr
          generalize rs[j] = r at hcr
          rw [p_halves_rest]
          repeat walk_at "t"
          refine Tri.item (k := (i : Nat)) (.inl ⟨_, .tail _ (.tail _ (.tail _ hlist))⟩) (by omega) (by omega) (by simpa using hvk) ?_
          repeat walk_at "t"
          refine ⟨fun q => ?_, fun q => ?_⟩
          · have q : r < rk := by have := of_decide_eq_true q; omega
            rw [if_pos q] at hcr
            subst hcr
            repeat walk_at "t"
            refine Tri.brk ?_
            exact ⟨rfl, _, _, _, _, rfl, rfl⟩
          · have q : ¬ r < rk := by have := of_decide_eq_false q; omega
            rw [if_neg q] at hcr
            repeat walk_at "t"
            refine ⟨fun q' => ?_, fun q' => ?_⟩
            · have q' : r < ls := by have := of_decide_eq_true q'; omega
              rw [if_pos q'] at hcr
              repeat walk_at "t"
              exact ⟨cr + 1, _, r, _, _, rfl, hcr⟩
            · have q' : ¬ r < ls := by have := of_decide_eq_false q'; omega
              rw [if_neg q'] at hcr
              repeat walk_at "t"
              exact ⟨cr, _, ls, _, _, rfl, hcr⟩
        · rintro m1 n1 ⟨rfl, cr, t5, ls, t6, v6', rfl, hcr⟩
          rw [hZl, List.drop_length] at hcr
          rw [← hcr]
          exact ⟨rfl, _, _, _, _, rfl, rfl⟩
      rintro f m1 n1 ⟨rfl, q, t5, ls, v6', rfl, rfl⟩
      have hcl := caretsF_le rk rs (a + b) c0
      have hrsl : rs.length ≤ 20 := by rw [← hrd, List.length_drop]; omega
      have hc1 : c0 ≤ 1 := by rw [← hc0]; split <;> omega
      have hpe : ∀ x, x = (if rk < a then 77 else 74) → List.replicate (caretsF rk (a + b) c0 rs) 94 ++ [x] = partF a b i := by
        rintro x rfl
        unfold partF
        rw [hrk, hc0, hrd]
      have hwl : ws.length = i := by rw [hws.length]; simp
      have hdone : ∀ x tx, x = partF a b i → StrsAre (ws ++ [.str (S x) tx]) (((List.range (i + 1)).map (partF a b)).map S) := by
        rintro x tx rfl
        rw [List.range_succ, List.map_append, List.map_append]
        exact StrsAre.append' hws (.cons _ _ .nil)
      repeat walk_at "t"
      refine Tri.mAppend (.tail _ (.tail _ (.head _))) ?_
      repeat walk_at "t"
      rw [lit_caret]
      refine Tri.mulStr (mulOk_S (by omega)) fun _ => ?_
      rw [mul_S]
      repeat walk_at "t"
      refine Tri.item (k := (i : Nat)) (.inl ⟨_, .tail _ (.tail _ (.tail _ hlist))⟩) (by omega) (by omega) (by simpa using hvk) ?_
      repeat walk_at "t"
      refine ⟨fun q' => ?_, fun q' => ?_⟩
      · have q' : rk < a := by have := of_decide_eq_true q'; omega
        repeat walk_at "t"
        rw [lit_M]
        refine Tri.addStr (by simp [S_length]; omega) fun _ => ?_
        rw [S_append]
        repeat walk_at "t"
        refine Tri.append (pre := [q, p]) (post := NR) (d := P) (vs := ws) (k := kk) (by omega) ?_
        repeat walk_at "t"
        exact ⟨p :: (P, LS _ _) :: NR, List.sublist_cons_self _ _, p, _, _, _, _, _, _, rfl, rfl, hdone _ _ (hpe _ (if_pos q').symm)⟩
      · have q' : ¬ rk < a := by have := of_decide_eq_false q'; omega
        repeat walk_at "t"
        rw [lit_J]
        refine Tri.addStr (by simp [S_length]; omega) fun _ => ?_
        rw [S_append]
        repeat walk_at "t"
        refine Tri.append (pre := [q, p]) (post := NR) (d := P) (vs := ws) (k := kk) (by omega) ?_
        repeat walk_at "t"
        exact ⟨p :: (P, LS _ _) :: NR, List.sublist_cons_self _ _, p, _, _, _, _, _, _, rfl, rfl, hdone _ _ (hpe _ (if_neg q').symm)⟩
    · rintro m1 n1 ⟨p, ws, kk, v3, v4, v5, v6, rfl, rfl, hws⟩
      exact ⟨rfl, p, ws, kk, v3, v4, v5, v6, rfl, rfl, hws⟩
  · rintro f m1 n1 ⟨rfl, p, ws, kk, v3, v4, v5, v6, rfl, rfl, hws⟩
    have hwl : ws.length = a + b := by rw [hws.length]; simp
    repeat walk_at "t"
    refine Tri.mIndex (.tail _ (.tail _ hlist)) ?_
    repeat walk_at "t"
    refine Tri.index (.tail _ (.tail _ hlist)) hR (x := 1) (List.mem_map.mpr ⟨1, h1, rfl⟩) (by simp [hRl]; omega) fun _ => ?_
    walk_at "t"
    walk_at "t"
    walk_at "t"
    walk_at "t"
    walk_at "t"
    refine Tri.sliceStr ?_
    repeat walk_at "t"
    have hcut : (nis (restsF a b)).idxOf 1 = (restsF a b).idxOf 1 := idxOf_nis _ 1
    rw [hcut]
    generalize hcu : (restsF a b).idxOf 1 = cut
    generalize hpa : (List.range (a + b)).map (partF a b) = parts at hws
    have hpal : parts.length = a + b := by rw [← hpa]; simp
    have hpab : ∀ l ∈ parts, l.length ≤ 30 := by
      rw [← hpa]
      intro l hl
      obtain ⟨i, _, rfl⟩ := List.mem_map.mp hl
      exact hpart i
    have hhf : halvesF a b = ((parts.take cut).flatten.drop 1, (parts.drop cut).flatten.drop 1) := by
      rw [← hpa, ← hcu]
      rfl
    have hws1 : StrsAre (ws.take cut) ((parts.take cut).map S) := by rw [List.map_take]; exact StrsAre.take' hws cut
    have hws2 : StrsAre (ws.drop cut) ((parts.drop cut).map S) := by rw [List.map_drop]; exact StrsAre.drop' hws cut
    have hs1 := sum_S 30 (parts.take cut) fun l hl => hpab l (List.mem_of_mem_take hl)
    have hs2 := sum_S 30 (parts.drop cut) fun l hl => hpab l (List.mem_of_mem_drop hl)
    have hl1 : (parts.take cut).length ≤ 20 := by rw [List.length_take]; omega
    have hl2 : (parts.drop cut).length ≤ 20 := by rw [List.length_drop]; omega
    have hf1 : (parts.take cut).flatten.length ≤ 600 := by
      rw [List.length_flatten]
      have : ((parts.take cut).map List.length) = ((parts.take cut).map S).map Str.length := by rw [List.map_map]; rfl
      rw [this]
      omega
    have hf2 : (parts.drop cut).flatten.length ≤ 600 := by
      rw [List.length_flatten]
      have : ((parts.drop cut).map List.length) = ((parts.drop cut).map S).map Str.length := by rw [List.map_map]; rfl
      rw [this]
      omega
    rw [hhf] at h
    rw [lit_nil]
    refine ⟨P, ws, ws.take cut, none, some ((cut : Nat) : Int), rfl, .inl ⟨kk, .tail _ (.head _)⟩, by omega, .none, .int _ _, by rw [slicePick_upto'], fun D1 => ?_⟩
    walk_at "t"
    refine Tri.join At.head hws1 (by decide +kernel) (by rw [List.length_map]; omega) fun _ => ?_
    rw [join_S]
    repeat walk_at "t"
    refine ⟨_, _, _, _, rfl, rfl, by rw [S_length]; omega, fun _ => ?_⟩
    rw [slice1_S]
    walk_at "t"
    refine Tri.sliceStr ?_
    repeat walk_at "t"
    refine ⟨P, ws, ws.drop cut, some ((cut : Nat) : Int), none, rfl, .inl ⟨kk, .tail _ (.tail _ (.head _))⟩, by omega, .int _ _, .none, by rw [slicePick_from'], fun D2 => ?_⟩
    walk_at "t"
    refine Tri.join At.head hws2 (by decide +kernel) (by rw [List.length_map]; omega) fun _ => ?_
    rw [join_S]
    repeat walk_at "t"
    refine ⟨_, _, _, _, rfl, rfl, by rw [S_length]; omega, fun _ => ?_⟩
    rw [slice1_S]
    repeat walk_at "t"
    refine Tri.newTuple (by simp; omega) fun tp => ?_
    have hn : n.Sublist NR := by
      rw [← hNR]
      exact List.Sublist.cons _ (List.Sublist.cons _ (List.Sublist.cons _ (List.Sublist.cons _ (List.Sublist.refl _))))
    exact ⟨_, List.Sublist.cons_cons _ (List.Sublist.cons _ (List.Sublist.cons _ (List.Sublist.cons _ (List.Sublist.cons _ hn)))), h tp _ _⟩
end


/-- from the head's goal to a walk of this layer -/
theorem to_tri {w : World} {mean : ExcName → Option Value} {mg mb : FM} {s₁ : Shared} {scope : Scope} {name : Str} {fa scr : Addr} {cd : Value} {h₁ : Heap} {tk : Nat} {sv : List Value} {n₀ : Led} {m₀ m₁ : FM} {body : List Stmt} {Q : Flow → Shared → Prop} {E : Value → Shared → Prop}
    (X : (hd.heap_39 w.params).In s₁.heap) (T : Top hd.view_39 (looseW hd.view_39 [Str.ofString "_twin_re_1", Str.ofString "_twin_re_2"]) mean mg mb s₁.heap) (K : Below callerA s₁.heap [] s₁.heap) (hL : s₁.heap.IsList scr sv.toArray)
    (F : Fr s₁.heap s₁.heap.objs.size h₁ m₁) (N : News s₁.heap s₁.heap.objs.size h₁ n₀) (hm : m₁ = m₀) (D : Nd n₀)
    (h : Tri ⟨w, mean, mg, mb, callerA.deeper (envOfC name scope s₁.heap.objs.size fa cd), envOfC name scope s₁.heap.objs.size fa cd, scr, sv⟩ (execs body (envOfC name scope s₁.heap.objs.size fa cd)) (fun fl _ _ => fl = .ret (.bool true)) m₀ n₀)
    (hQ : ∀ h' tk' m', Fr s₁.heap s₁.heap.objs.size h' m' → Q (.ret (.bool true)) { s₁ with heap := h', toks := tk' }) :
    wpAny (model PG w) (callerA.deeper (envOfC name scope s₁.heap.objs.size fa cd)) (execs body (envOfC name scope s₁.heap.objs.size fa cd)) Q E { s₁ with heap := h₁, toks := tk } := by
  subst hm
  have hfr : (callerA.deeper (envOfC name scope s₁.heap.objs.size fa cd)).frames = some (envOfC name scope s₁.heap.objs.size fa cd :: []) := Around.frames_deeper rfl
  refine h [] s₁.heap { s₁ with heap := h₁, toks := tk } Q E ⟨X, T, ⟨callerA, s₁.heap, [], K, hfr⟩, hL⟩ F (by rw [List.append_nil]; exact N) (by rw [List.append_nil]; exact D) ?_
  rintro a s' m' n' ⟨h', tk', rfl⟩ rfl F' N' D'
  exact hQ h' tk' m' F'
theorem codeK_lt (x : Int) : ∀ k ∈ codeK x, k < 55296 := by
  intro k hk
  have ht : ∀ i : Fin 16, temptL.getD i.val 0 < 55296 := by decide +kernel
  have hl : ∀ i : Fin 8, letL.getD i.val 0 < 55296 := by decide +kernel
  have h1 := ht ⟨(x / 8 % 16).toNat, by omega⟩
  have h2 := hl ⟨(x / 8 % 8).toNat, by omega⟩
  dsimp only at h1 h2
  unfold codeK at hk
  (repeat' split at hk) <;> simp only [List.mem_cons, List.not_mem_nil, or_false] at hk <;> omega
theorem codesF_lt (script : List Int) : ∀ k ∈ codesF script, k < 55296 := by
  intro k hk
  unfold codesF at hk
  rcases List.mem_append.mp hk with q | q
  · obtain ⟨x, _, hx⟩ := List.mem_flatMap.mp q
    exact codeK_lt x k hx
  · have := List.mem_of_mem_take q
    simp only [List.mem_cons, List.not_mem_nil, or_false] at this
    omega
theorem codesF_len (script : List Int) : (codesF script).length ≤ 13 := by
  unfold codesF
  have h1 := flat_len (script.take 4)
  have h2 : (script.take 4).length ≤ 4 := by rw [List.length_take]; omega
  rw [List.length_append, List.length_take]
  simp only [List.length_cons, List.length_nil]
  omega
theorem sentF_lt : ∀ (l : List Nat) (b : Nat), (∀ k ∈ l, k < 55296) → ∀ k ∈ sentF b l, k < 55296
  | [], _, _ => by intro k hk; cases hk
  | x :: r, b, h => by
    intro k hk
    have hx := h x (.head _)
    rw [sentF_cons] at hk
    rcases List.mem_append.mp hk with q | q
    · (repeat' split at q) <;> simp only [List.mem_cons, List.not_mem_nil, or_false] at q <;> omega
    · exact sentF_lt r x (fun y hy => h y (.tail _ hy)) k q
theorem sentF_len : ∀ (l : List Nat) (b : Nat), (sentF b l).length ≤ 2 * l.length
  | [], _ => by simp [sentF]
  | x :: r, b => by
    have := sentF_len r x
    rw [sentF_cons, List.length_append, List.length_cons]
    have h2 : (if x = 13 ∨ (x = 10 ∧ b ≠ 13) then [13, 10] else if x ≠ 10 then (if x = 46 ∧ (b = 10 ∨ b = 13) then [46, x] else [x]) else []).length ≤ 2 := by (repeat' split) <;> simp
    omega
/-- one sign a place -/
theorem strs_signs {ys : List Value} {l : List Nat} (hl : ys.length = l.length) (h : ∀ (i : Nat) (y : Value), ys[i]? = some y → ∃ k t, l[i]? = some k ∧ y = Value.str (S [k]) t) : StrsAre ys ((l.map fun k => [k]).map S) :=
  strs_at (by simp [hl]) fun i y hy => by
    obtain ⟨k, t, hk, rfl⟩ := h i y hy
    exact ⟨t, S [k], by simp [hk], rfl⟩
theorem flatten_signs (l : List Nat) : (l.map fun k => [k]).flatten = l := by
  induction l with
  | nil => rfl
  | cons x r ih => simp [ih]
theorem join_signs (l : List Nat) : Txt.join (S []) ((l.map fun k => [k]).map S) = S l := by rw [join_S, flatten_signs]
theorem sum_signs (l : List Nat) : (((l.map fun k => [k]).map S).map Str.length).sum + ((l.map fun k => [k]).map S).length * 64 = l.length * 65 := by
  rw [List.length_map, List.length_map]
  have : (((l.map fun k => [k]).map S).map Str.length).sum = l.length := by
    induction l with
    | nil => rfl
    | cons x r ih =>
      simp only [List.map_cons, List.sum_cons, List.length_cons] at ih ⊢
      rw [ih, S_length]
      simp
      omega
  omega
/-- a text a place -/
theorem strs_texts {ys : List Value} {f : Nat → List Nat} {l : List Nat} (hl : ys.length = l.length) (h : ∀ (i : Nat) (y : Value), ys[i]? = some y → ∃ k t, l[i]? = some k ∧ y = Value.str (S (f k)) t) : StrsAre ys ((l.map f).map S) :=
  strs_at (by simp [hl]) fun i y hy => by
    obtain ⟨k, t, hk, rfl⟩ := h i y hy
    exact ⟨t, S (f k), by simp [hk], rfl⟩
theorem join_texts (f : Nat → List Nat) (l : List Nat) : Txt.join (S []) ((l.map f).map S) = S (l.flatMap f) := by rw [join_S, List.flatMap_def]
theorem flat_lenB (f : Nat → List Nat) (B : Nat) (hf : ∀ k, (f k).length ≤ B) : ∀ (l : List Nat), (l.flatMap f).length ≤ B * l.length
  | [] => by simp
  | x :: r => by
    have := flat_lenB f B hf r
    have := hf x
    rw [List.flatMap_cons, List.length_append, List.length_cons, Nat.mul_succ]
    omega
theorem sign_at {l : List Nat} {i : Nat} {v : Value} (h : SignAt (S l) i v) : ∃ k t, l[i]? = some k ∧ v = .str (S [k]) t := by
  obtain ⟨c, u, hc, rfl⟩ := h
  exact ⟨c, u, by simpa using hc, rfl⟩
theorem flatMap_one (f : Nat → Nat) (l : List Nat) : (l.flatMap fun k => [f k]) = l.map f := by
  induction l with
  | nil => rfl
  | cons x r ih => rw [List.flatMap_cons, ih]; rfl
theorem pow5_le {i : Nat} (h : i ≤ 4) : 5 ^ i ≤ 625 := Nat.pow_le_pow_right (by decide) h
theorem foldl_drop {α β : Type} {f : β → α → β} {l : List α} {i : Nat} {x : α} {b c : β} (hx : l[i]? = some x) (h : (l.drop i).foldl f b = c) : (l.drop (i + 1)).foldl f (f b x) = c := by
  have hi : i < l.length := (List.getElem?_eq_some_iff.mp hx).1
  rw [List.drop_eq_getElem_cons hi, List.foldl_cons] at h
  have : l[i] = x := (List.getElem?_eq_some_iff.mp hx).2
  rw [this] at h
  exact h
def LawM (scr dC dM dD : Addr) (total : Int) (a b g : Nat) (due T : List Nat) (v1 v2 v3 : Option Value) (m' : FM) : Prop := ∃ q1 q2 q3 q4 q5 q6, m' = frL nm_law [some (.ref scr), some (.ref dC), some (.int total q1), some (.int (a : Nat) q2), some (.int (b : Nat) q3), some (.int (g : Nat) q4), some (.ref dM), some (.ref dD), some (.str (S due) q5), some (.str (S T) q6), v1, v2, v3]
def LawJ (scr dC dM dD : Addr) (total : Int) (a b g : Nat) (due : List Nat) (ms : List Int) (fin : List Nat) (NB : Led) (i : Nat) (m' : FM) (n' : Led) : Prop :=
  n' = NB ∧ ∃ T v1 v2, LawM scr dC dM dD total a b g due T v1 v2 none m' ∧ (∀ k ∈ T, alF k) ∧ T.length ≤ 80 * 5 ^ i ∧ (ms.drop i).foldl (fun T m => rdF m true T) T = fin


section
local macro_rules | `(tactic| walk_at "get") => `(tactic| first | exact g_law_script | exact g_law_codes | exact g_law_total | exact g_law_first | exact g_law_second | exact g_law_common | exact g_law_marks | exact g_law_due | exact g_law_sent | exact g_law_told | exact g_law_mark | exact g_law_typed | exact g_law_shown)
local macro_rules | `(tactic| walk_at "set") => `(tactic| first | exact p_law_codes | exact p_law_total | exact p_law_first | exact p_law_second | exact p_law_common | exact p_law_marks | exact p_law_due | exact p_law_sent | exact p_law_told | exact p_law_mark | exact p_law_typed | exact p_law_shown)
theorem law_holds : PySem.Challenge.rw_pk0017_01.Holds := hd (by
  k_go0
  rename_i w s₀ s₁ mg mb G Y fa o pm doc ho hg KX X V GL T B TE TW x1 x2 M cdA x3 hcd script hs hlay0 hL1 hr1 hl2 x4 x5 scr sv x6 hL ra w1 r0 hI hr2 hc1 hc2 K0 hD h1 tk1 F oN oF hoN hoF N0 X0
  have hlen : script.length ≤ 63 := by omega
  refine to_tri (m₀ := frL nm_law [some (.ref scr), none, none, none, none, none, none, none, none, none, none, none, none]) KX T K0 hL F N0 ?_ ?_ ?_ ?_
  · refine Eq.trans (b := bindL (envOfC (Str.ofString "law") _ s₁.heap.objs.size fa (Value.ref cdA)).kindOf [(Str.ofString "script", .ref scr)] (fun _ => none)) (by rfl) ?_
    refine Eq.trans ?_ (p_law_script (v0 := none))
    have e0 : frL nm_law [none, none, none, none, none, none, none, none, none, none, none, none, none] = fun _ => none := frL_nones nm_law 13
    rw [e0, bindL, bindL, if_pos (by with_unfolding_all rfl)]
    rfl
  · unfold Nd
    simp
  · have hN : oN.data = .cell none := hoN.trans (by rfl)
    have hF : oF.data = .cell none := hoF.trans (by rfl)
    clear hoN hoF N0 X0 hcd F G KX K0 hD M TE TW B T GL V X Y hr2 r0 w1 ra hL hl2 hr1 hL1 hs ho x1 x2 x3 x4 x5 x6 hlay0 hc1 hc2 hg
    have hr4 : ∀ env : Env, env.frame = some env.locals → env.scope.kind = .function → Room ⟨w, ExcName.means s₀.heap, mg, mb, callerA.deeper env, env, scr, sv⟩ 4 := fun env h1 h2 => ⟨rfl, by show callerA.depth + 1 + 4 < _; decide +kernel, by show callerA.units + 3 + 8 * 4 < _; decide +kernel, h1, h2⟩
    generalize s₁.heap.objs.size = L
    dsimp only
    repeat walk_at "t"
    have hsl := sl_ge
    have hr0 : ∀ env : Env, (callerA.deeper env).handled = none := fun _ => rfl
    refine codes_script ((hr4 _ rfl rfl).less (by decide)) hI hlen fun dC wC hwC => ?_
    repeat walk_at "t"
    refine Tri.sum (t := 0) rfl (.inr ⟨rfl, rfl⟩) hI fun _ => ?_
    repeat walk_at "t"
    generalize script.sum + 17 = total
    refine Tri.assignPair rfl ?_ (by walk_at "r") (by walk_at "r")
    repeat walk_at "t"
    refine Tri.mulInt (IntMulOk.of_left (PySem.intBits_le_64 (by decide) (by decide))) fun _ => ?_
    repeat walk_at "t"
    refine Tri.mulInt (IntMulOk.of_left (PySem.intBits_le_64 (by decide) (by decide))) fun _ => ?_
    repeat walk_at "t"
    refine Tri.modInt (by decide) fun _ => ?_
    repeat walk_at "t"
    refine Tri.newTuple (by simp; omega) fun tp1 => ?_
    refine ⟨tp1, _, _, rfl, .head _, Tri.drop ?_⟩
    refine Tri.storeC (pre := [(dC, _), (L + 1 + 1, oN)]) rfl hF fun oF' hF' => ?_
    rw [List.cons_append, List.singleton_append]
    refine Tri.storeC (pre := [(dC, _)]) rfl hN fun oN' hN' => ?_
    rw [List.singleton_append]
    repeat walk_at "t"
    refine Tri.assignPairS rfl ?_ (by walk_at "r") (by walk_at "r")
    repeat walk_at "t"
    refine Tri.modInt (by decide) fun _ => ?_
    repeat walk_at "t"
    refine Tri.divInt (by decide) (by decide) fun _ => ?_
    repeat walk_at "t"
    refine Tri.modInt (by decide) fun _ => ?_
    repeat walk_at "t"
    refine Tri.modInt (by decide) fun _ => ?_
    repeat walk_at "t"
    refine Tri.newTuple (by simp; omega) fun tp2 => ?_
    refine ⟨tp2, _, _, rfl, .head _, Tri.drop ?_⟩
    repeat walk_at "t"
    have hA : (1 : Int) + total % 5 = ((1 + (total % 5).toNat : Nat) : Int) := by omega
    have hB : (1 : Int) + (total + 1 + total / 5 % 4) % 5 = ((1 + ((total + 1 + total / 5 % 4) % 5).toNat : Nat) : Int) := by omega
    have hok := okP (pair_ok total)
    have hAl : 1 ≤ 1 + (total % 5).toNat ∧ 1 + (total % 5).toNat ≤ 5 := by omega
    have hBl : 1 ≤ 1 + ((total + 1 + total / 5 % 4) % 5).toNat ∧ 1 + ((total + 1 + total / 5 % 4) % 5).toNat ≤ 5 := by omega
    rw [hA, hB]
    generalize 1 + (total % 5).toNat = a at hok hAl
    generalize 1 + ((total + 1 + total / 5 % 4) % 5).toNat = b at hok hBl
    clear hA hB
    refine Tri.assignPair rfl ?_ (by walk_at "r") (by walk_at "r")
    repeat walk_at "t"
    refine rounds_ints ((hr4 _ rfl rfl).less (by decide)) hAl.1 hBl.1 (by omega) fun tp3 dM wM _ hwM => ?_
    generalize (rnd (a + b) a b).2.reverse = ms at hok hwM
    generalize (rnd (a + b) a b).1 = g at hok
    refine ⟨tp3, _, _, rfl, .head _, Tri.drop ?_⟩
    repeat walk_at "t"
    refine sent_list (ep := 0) ((hr4 _ rfl rfl).less (by decide)) (.tail _ (.head _)) hwC ?_ fun dD wD kD hwD => ?_
    · have := codesF_len script
      omega
    repeat walk_at "t"
    have hcl := codesF_len script
    have hcb := codesF_lt script
    generalize codesF script = cs at hwC hwD hcl hcb
    have hwCl : wC.length = cs.length := by rw [hwC.length]; simp
    refine Tri.comp (by with_unfolding_all rfl) ?_
    repeat walk_at "t"
    refine ⟨_, _, _, fun i v => ∃ k t, cs[i]? = some k ∧ v = .str (S [k]) t, rfl, Thru.list rfl (.tail _ (.tail _ (.head _))), .tail _ (.tail _ (.head _)), ?_, ?_, ?_⟩
    · omega
    · rintro i v C oC m₂ hi hv hC hx
      obtain ⟨x, tx, rfl, hn⟩ := IntsAre.at hwC i v hv
      have hil : i < cs.length := by omega
      have hk : cs[i]? = some cs[i] := List.getElem?_eq_getElem hil
      have hkb := hcb cs[i] (List.getElem_mem hil)
      generalize cs[i] = k at hk hkb
      rw [List.getElem?_map, hk] at hn
      have hn : ((k : Nat) : Int) = x := Option.some.inj hn
      subst hn
      repeat walk_at "t"
      refine Tri.compOwn (.head _) hC hx ?_
      repeat walk_at "t"
      refine ⟨fun q => ?_, fun q => ?_⟩
      · have q : k < 32 := by have := of_decide_eq_true q; omega
        repeat walk_at "t"
        refine Tri.compOwn (.head _) hC hx ?_
        repeat walk_at "t"
        refine Tri.compC (.tail _ (.tail _ (.tail _ (.tail _ (.head _))))) rfl hN' ?_ (hx := by with_unfolding_all rfl)
        repeat walk_at "t"
        refine Tri.chr (by omega) (by omega) fun _ => ?_
        repeat walk_at "t"
        refine ctrl_str ((hr4 _ rfl rfl).less (by decide)) fun _ => ?_
        have e : ((k : Int) + 32 * total % 54400).toNat % 32 = k := by omega
        rw [e]
        exact ⟨rfl, rfl, k, _, hk, rfl⟩
      · have q : ¬ k < 32 := by have := of_decide_eq_false q; omega
        repeat walk_at "t"
        refine Tri.compOwn (.head _) hC hx ?_
        repeat walk_at "t"
        refine Tri.chr (by omega) (by omega) fun _ => ?_
        rw [Int.toNat_natCast]
        exact ⟨rfl, rfl, k, _, hk, rfl⟩
    · intro dS ys hys hP
      have hS := strs_signs (hys.trans hwCl) hP
      repeat walk_at "t"
      rw [lit_nil]
      refine Tri.join At.head hS (by decide +kernel) (by rw [sum_signs]; omega) fun _ => ?_
      rw [join_signs]
      repeat walk_at "t"
      refine quotedata_str ((hr4 _ rfl rfl).less (by decide)) (by omega) fun _ => ?_
      rw [← sent_is_quo]
      have hdl := sentF_len cs 10
      have hdb := sentF_lt cs 10 hcb
      generalize sentF 10 cs = due at hwD hdl hdb
      have hwDl : wD.length = due.length := by rw [hwD.length]; simp
      repeat walk_at "t"
      refine Tri.comp (by with_unfolding_all rfl) ?_
      repeat walk_at "t"
      refine ⟨_, _, _, fun i v => ∃ k t, due[i]? = some k ∧ v = .str (S [k]) t, rfl, Thru.list rfl (.tail _ (.head _)), .tail _ (.head _), by omega, ?_, ?_⟩
      · rintro i v C oC m₂ hi hv hC hx
        obtain ⟨x, tx, rfl, hn⟩ := IntsAre.at hwD i v hv
        have hil : i < due.length := by omega
        have hk : due[i]? = some due[i] := List.getElem?_eq_getElem hil
        have hkb := hdb due[i] (List.getElem_mem hil)
        generalize due[i] = k at hk hkb
        rw [List.getElem?_map, hk] at hn
        have hn : ((k : Nat) : Int) = x := Option.some.inj hn
        subst hn
        repeat walk_at "t"
        refine Tri.compOwn (.head _) hC hx ?_
        repeat walk_at "t"
        refine Tri.chr (by omega) (by omega) fun _ => ?_
        rw [Int.toNat_natCast]
        exact ⟨rfl, rfl, k, _, hk, rfl⟩
      intro dT zs hzs hQ
      have hS2 := strs_signs (hzs.trans hwDl) hQ
      repeat walk_at "t"
      refine Tri.join At.head hS2 (by decide +kernel) (by rw [sum_signs]; omega) fun _ => ?_
      rw [join_signs]
      repeat walk_at "t"
      refine ⟨fun q => ?_, fun _ => ?_⟩
      · rw [bne_self_eq_false] at q
        cases q
      repeat walk_at "t"
      refine Tri.comp (by with_unfolding_all rfl) ?_
      repeat walk_at "t"
      refine ⟨_, _, _, fun i v => ∃ k t, due[i]? = some k ∧ v = .str (S (unc (k : Nat))) t, rfl, Thru.str rfl, trivial, by show due.length ≤ _; omega, ?_, ?_⟩
      · rintro i v C oC m₂ hi hv hC hx
        obtain ⟨k, tx, hk, rfl⟩ := sign_at hv
        repeat walk_at "t"
        refine Tri.compOwn (.head _) hC hx ?_
        repeat walk_at "t"
        refine unctrl_str ((hr4 _ rfl rfl).less (by decide)) fun _ => ?_
        exact ⟨rfl, rfl, k, _, hk, rfl⟩
      intro dU us hus hU
      have hS3 := strs_texts (f := fun (k : Nat) => unc k) (l := due) (hus.trans rfl) hU
      have hs3 := sum_S 3 (due.map fun (k : Nat) => unc k) (fun l hl => by
        obtain ⟨k, _, rfl⟩ := List.mem_map.mp hl
        exact unc_len k)
      have hs3l : (due.map fun (k : Nat) => unc k).length = due.length := List.length_map _
      have hTl := flat_lenB (fun (k : Nat) => unc k) 3 (fun k => unc_len k) due
      have hTa : ∀ x ∈ due.flatMap (fun (k : Nat) => unc k), alF x := fun x hx => by
        obtain ⟨k, _, h⟩ := List.mem_flatMap.mp hx
        exact unc_al k x h
      repeat walk_at "t"
      refine Tri.join At.head hS3 (by decide +kernel) (by rw [List.length_map]; omega) fun _ => ?_
      rw [join_texts]
      generalize hT0 : (due.flatMap fun (k : Nat) => unc k) = T0 at hTl hTa
      walk_at "t"
      walk_at "t"
      generalize hNB : ((dU, LS us us.length) :: _ : Led) = NB
      have hmM : (dM, LS wM 0) ∈ NB := by rw [← hNB]; exact .tail _ (.tail _ (.tail _ (.tail _ (.head _))))
      have hmD : (dD, LS wD kD) ∈ NB := by rw [← hNB]; exact .tail _ (.tail _ (.tail _ (.head _)))
      have hmF : (L + 1, oF') ∈ NB := by rw [← hNB]; exact .tail _ (.tail _ (.tail _ (.tail _ (.tail _ (.tail _ (.tail _ (.head _)))))))
      have hmN : (L + 1 + 1, oN') ∈ NB := by rw [← hNB]; exact .tail _ (.tail _ (.tail _ (.tail _ (.tail _ (.tail _ (.head _))))))
      clear hNB hS hP hQ hS2 hU hS3 hs3 hs3l hus hzs hys zs us ys
      refine Tri.for_ ?_
      repeat walk_at "t"
      refine ⟨_, _, _, Thru.list rfl hmM, LawJ scr dC dM dD total a b g due ms (ms.foldl (fun T m => rdF m true T) T0) NB, ⟨rfl, T0, _, _, ⟨_, _, _, _, _, _, rfl⟩, hTa, by omega, rfl⟩, ?_, ?_, ?_⟩
      · rintro i m1 n1 ⟨rfl, -⟩
        exact hmM
      · rintro i v m1 n1 hi hv ⟨rfl, T, v1, v2, ⟨q1, q2, q3, q4, q5, q6, rfl⟩, hal, hTlen, hfold⟩
        obtain ⟨x, tx, rfl, hx⟩ := IntsAre.at hwM i v hv
        have hxm := hok.mrk x (List.mem_of_getElem? hx)
        have hf' := foldl_drop hx hfold
        have hwl := hwM.length
        have hi4 := hok.len
        have h5 := pow5_le (i := i) (by omega)
        obtain ⟨d, hd, rfl⟩ : ∃ d : Nat, (d = 13 ∨ d = 10) ∧ x = d := by
          rcases hxm with h | h
          · exact ⟨13, .inl rfl, h⟩
          · exact ⟨10, .inr rfl, h⟩
        rw [p_law_mark]
        refine Tri.weaken ?_
        refine Tri.cons ?_
        refine Tri.mono (R := fun f m' n' => f = .next ∧ ∃ dV vs, n' = (dV, LS vs vs.length) :: n1 ∧ StrsAre vs ((T.map fun k => [subF d k]).map S) ∧ LawM scr dC dM dD total a b g due T (some (.int d tx)) (some (.ref dV)) none m') ?_ ?_
        · repeat walk_at "t"
          refine ⟨fun q => ?_, fun q => ?_⟩
          · have q : d = 13 := by have := beqT q; omega
            subst q
            repeat walk_at "t"
            refine Tri.assignComp (by with_unfolding_all rfl) ?_ (by with_unfolding_all rfl)
            repeat walk_at "t"
            refine ⟨_, _, _, fun i v => ∃ k t, T[i]? = some k ∧ v = .str (S [subF 13 k]) t, rfl, Thru.str rfl, trivial, by show T.length ≤ _; omega, ?_, ?_⟩
            · rintro j v C oC m₂ hj hv' hC hx'
              obtain ⟨k, tk, hk, rfl⟩ := sign_at hv'
              have hka := hal k (List.mem_of_getElem? hk)
              repeat walk_at "t"
              refine Tri.compOwn (.head _) hC hx' ?_
              repeat walk_at "t"
              refine Tri.compC (.tail _ hmF) rfl hF' ?_ (hx := by with_unfolding_all rfl)
              repeat walk_at "t"
              refine ctrl_int ((hr4 _ rfl rfl).less (by decide)) fun _ => ?_
              repeat walk_at "t"
              refine ⟨fun q => ?_, fun q => ?_⟩
              · have q : k % 32 = 13 := by have := beqT q; omega
                repeat walk_at "t"
                refine Tri.chr (by decide) (by decide) fun _ => ?_
                exact ⟨rfl, rfl, k, _, hk, by unfold subF; rw [if_pos q]; rfl⟩
              · have q : ¬ k % 32 = 13 := by have := beqF q; omega
                repeat walk_at "t"
                refine Tri.compOwn (.head _) hC hx' ?_
                exact ⟨rfl, rfl, k, _, hk, by unfold subF; rw [if_neg q]⟩
            · intro dV vs hvs hV
              repeat walk_at "t"
              exact ⟨dV, vs, rfl, strs_texts (f := fun k => [subF 13 k]) (hvs.trans rfl) hV, _, _, _, _, _, _, p_law_typed⟩
          · have q : d = 10 := by have := beqF q; omega
            subst q
            repeat walk_at "t"
            refine Tri.assignComp (by with_unfolding_all rfl) ?_ (by with_unfolding_all rfl)
            repeat walk_at "t"
            refine ⟨_, _, _, fun i v => ∃ k t, T[i]? = some k ∧ v = .str (S [subF 10 k]) t, rfl, Thru.str rfl, trivial, by show T.length ≤ _; omega, ?_, ?_⟩
            · rintro j v C oC m₂ hj hv' hC hx'
              obtain ⟨k, tk, hk, rfl⟩ := sign_at hv'
              have hka := hal k (List.mem_of_getElem? hk)
              repeat walk_at "t"
              refine Tri.compOwn (.head _) hC hx' ?_
              repeat walk_at "t"
              refine Tri.compC (.tail _ hmN) rfl hN' ?_ (hx := by with_unfolding_all rfl)
              repeat walk_at "t"
              have hkb : k ≤ 159 := by unfold alF at hka; omega
              refine Tri.chr (by omega) (by omega) fun _ => ?_
              repeat walk_at "t"
              refine ctrl_str ((hr4 _ rfl rfl).less (by decide)) fun _ => ?_
              repeat walk_at "t"
              refine Tri.chr (by decide) (by decide) fun _ => ?_
              repeat walk_at "t"
              have e : ((k : Int) + 32 * total % 54400).toNat % 32 = k % 32 := by omega
              refine ⟨fun q => ?_, fun q => ?_⟩
              · have q : k % 32 = 10 := by
                  have q := q
                  rw [show (Str.mk #[(10 : Int).toNat]) = S [10] from rfl, beq_S, e] at q
                  simpa using q
                repeat walk_at "t"
                refine Tri.compOwn (.head _) hC hx' ?_
                repeat walk_at "t"
                refine ctrl_str ((hr4 _ rfl rfl).less (by decide)) fun _ => ?_
                exact ⟨rfl, rfl, k, _, hk, by unfold subF; rw [if_pos q, q]⟩
              · have q : ¬ k % 32 = 10 := by
                  have q := q
                  rw [show (Str.mk #[(10 : Int).toNat]) = S [10] from rfl, beq_S, e] at q
                  simpa using q
                repeat walk_at "t"
                refine Tri.compOwn (.head _) hC hx' ?_
                exact ⟨rfl, rfl, k, _, hk, by unfold subF; rw [if_neg q]⟩
            · intro dV vs hvs hV
              repeat walk_at "t"
              exact ⟨dV, vs, rfl, strs_texts (f := fun k => [subF 10 k]) (hvs.trans rfl) hV, _, _, _, _, _, _, p_law_typed⟩
        · rintro f m2 n2 ⟨rfl, dV, vs, rfl, hvs, ⟨q1', q2', q3', q4', q5', q6', rfl⟩⟩
          repeat walk_at "t"
          have hv1 := sum_S 1 (T.map fun k => [subF d k]) (fun l hl => by
            obtain ⟨k, _, rfl⟩ := List.mem_map.mp hl
            simp)
          have hv1l : (T.map fun k => [subF d k]).length = T.length := List.length_map _
          have hrd := round_is hd total T true hal
          have hql := quo_length (T.map (subF d))
          have hml : (T.map (subF d)).length = T.length := List.length_map _
          refine Tri.comp (by with_unfolding_all rfl) ?_
          repeat walk_at "t"
          refine Tri.join At.head hvs (by decide +kernel) (by rw [List.length_map]; omega) fun _ => ?_
          rw [join_texts, flatMap_one]
          repeat walk_at "t"
          refine quotedata_str ((hr4 _ rfl rfl).less (by decide)) (by omega) fun _ => ?_
          generalize hqu : quo (T.map (subF d)) = qu at hql
          have hrd : uncs total qu = rdF (d : Int) true T := by rw [← hqu]; exact hrd
          refine ⟨_, _, _, fun i v => ∃ k t, qu[i]? = some k ∧ v = .str (S (unc ((k : Nat) + 256 * total))) t, rfl, Thru.str rfl, trivial, by show qu.length ≤ _; omega, ?_, ?_⟩
          · rintro j v C oC m₂ hj hv' hC hx'
            obtain ⟨k, tk, hk, rfl⟩ := sign_at hv'
            repeat walk_at "t"
            refine Tri.compOwn (.head _) hC hx' ?_
            repeat walk_at "t"
            refine Tri.compC (.tail _ (.tail _ hmF)) rfl hF' ?_ (hx := by with_unfolding_all rfl)
            repeat walk_at "t"
            refine Tri.mulInt (IntMulOk.of_left (PySem.intBits_le_64 (by decide) (by decide))) fun _ => ?_
            repeat walk_at "t"
            refine unctrl_int ((hr4 _ rfl rfl).less (by decide)) fun _ => ?_
            have e : (k : Int) + 8 * (32 * total) = (k : Int) + 256 * total := by omega
            rw [e]
            exact ⟨rfl, rfl, k, _, hk, rfl⟩
          intro dW rs hrs hW
          have hS4 := strs_texts (f := fun (k : Nat) => unc ((k : Nat) + 256 * total)) (l := qu) (hrs.trans rfl) hW
          have hs4 := sum_S 3 (qu.map fun (k : Nat) => unc ((k : Nat) + 256 * total)) (fun l hl => by
            obtain ⟨k, _, rfl⟩ := List.mem_map.mp hl
            exact unc_len _)
          have hs4l : (qu.map fun (k : Nat) => unc ((k : Nat) + 256 * total)).length = qu.length := List.length_map _
          repeat walk_at "t"
          refine Tri.join At.head hS4 (by decide +kernel) (by rw [List.length_map]; omega) fun _ => ?_
          rw [join_texts]
          have hrd : (qu.flatMap fun (k : Nat) => unc ((k : Nat) + 256 * total)) = rdF (d : Int) true T := hrd
          rw [hrd]
          repeat walk_at "t"
          have hrl := rdF_len (d : Int) T true
          exact ⟨n1, List.Sublist.cons _ (List.Sublist.cons _ (List.Sublist.refl _)), rfl, rdF (d : Int) true T, _, _, ⟨_, _, _, _, _, _, rfl⟩, rdF_al _ T true hal, by rw [Nat.pow_succ]; omega, hf'⟩
      · rintro m1 n1 ⟨rfl, T, v1, v2, ⟨q1, q2, q3, q4, q5, q6, rfl⟩, hal, hTlen, hfold⟩
        rw [hwM.length, List.drop_length, List.foldl_nil] at hfold
        subst hfold
        repeat walk_at "t"
        refine Tri.comp (by with_unfolding_all rfl) ?_
        repeat walk_at "t"
        refine ⟨_, _, _, fun i v => ∃ k t, due[i]? = some k ∧ v = .str (S (unc (k : Nat))) t, rfl, Thru.list rfl hmD, hmD, by omega, ?_, ?_⟩
        · rintro i v C oC m₂ hi hv hC hx
          obtain ⟨x, tx, rfl, hn⟩ := IntsAre.at hwD i v hv
          have hil : i < due.length := by omega
          have hk : due[i]? = some due[i] := List.getElem?_eq_getElem hil
          generalize due[i] = k at hk
          rw [List.getElem?_map, hk] at hn
          have hn : ((k : Nat) : Int) = x := Option.some.inj hn
          subst hn
          repeat walk_at "t"
          refine Tri.compOwn (.head _) hC hx ?_
          repeat walk_at "t"
          refine look_int ((hr4 _ rfl rfl).less (by decide)) fun _ => ?_
          exact ⟨rfl, rfl, k, _, hk, rfl⟩
        intro dW rs hrs hW
        have hS4 := strs_texts (f := fun (k : Nat) => unc k) (l := due) (hrs.trans hwDl) hW
        have hs4 := sum_S 3 (due.map fun (k : Nat) => unc k) (fun l hl => by
          obtain ⟨k, _, rfl⟩ := List.mem_map.mp hl
          exact unc_len k)
        have hs4l : (due.map fun (k : Nat) => unc k).length = due.length := List.length_map _
        repeat walk_at "t"
        refine Tri.join At.head hS4 (by decide +kernel) (by rw [List.length_map]; omega) fun _ => ?_
        rw [join_texts, hT0]
        have hg1 := hok.g1
        have hg5 := hok.g5
        repeat walk_at "t"
        refine Tri.divInt (by omega) (by omega) fun _ => ?_
        repeat walk_at "t"
        refine Tri.divInt (by omega) (by omega) fun _ => ?_
        repeat walk_at "t"
        rw [← Int.natCast_ediv, ← Int.natCast_ediv]
        refine halves_ints ((hr4 _ rfl rfl).less (by decide)) hok.le hok.pos hok.one fun tpH t0 t1 => ?_
        repeat walk_at "t"
        refine grown_str ((hr4 _ rfl rfl).less (by decide)) (.head _) (.tail _ (.tail _ hmM)) hwM (by have := hok.len; omega) hok.l0 hok.l1 (by omega) fun _ => ?_
        repeat walk_at "t"
        rw [growF_is hok.sg, ← grow_all, beq_S]
        show Flow.ret _ = Flow.ret (Value.bool true)
        rw [decide_eq_true rfl]
  · intro h' tk' m' F'
    refine goodW_bool F' hg (fun _ => rfl) ?_
    refine' postW_of ?qs ?qv ?qe
    case qs => o_shape
    case qv => wtm_val
    case qe => rfl)
end

end Mine
theorem PySem.Challenge.cw_pk0017_01_holds : PySem.Challenge.rw_pk0017_01.Holds :=
  Mine.law_holds
