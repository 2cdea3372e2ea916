import PyProof.Rows.All
import Wide.All
import OpenK.AllK
import Wide.FinOn
import Lean
import PySem.Challenge.RW_fc5025_03
set_option Elab.async false
section
open PySem PySem.W PySem.Calls PyProof.Rows
namespace Mine
abbrev Led := List (Addr × Obj)
structure Hold (P : Prop) : Prop where
  out : P
abbrev ent (P : Params) (x : Str) (t : Tok) (v : Value) : DictEntry := ⟨PyData.keyHash P x, .str x t, v⟩
abbrev tabEs (P : Params) (k1 k2 k3 k4 k5 k6 k7 k8 : Tok) (v1 v2 v3 v4 v5 v6 v7 v8 : Value) : List DictEntry :=
  [ent P (Str.ofString "log2_size") k1 v1, ent P (Str.ofString "usable") k2 v2, ent P (Str.ofString "indices") k3 v3, ent P (Str.ofString "entries") k4 v4,
   ent P (Str.ofString "resume_slots") k5 v5, ent P (Str.ofString "maybe_dups") k6 v6, ent P (Str.ofString "nslots") k7 v7, ent P (Str.ofString "mask") k8 v8]
abbrev coldEs (P : Params) (k1 k2 k3 k4 k5 k6 : Tok) (v1 v2 v3 v4 v5 v6 : Value) : List DictEntry :=
  [ent P (Str.ofString "log2_size") k1 v1, ent P (Str.ofString "usable") k2 v2, ent P (Str.ofString "indices") k3 v3, ent P (Str.ofString "entries") k4 v4,
   ent P (Str.ofString "resume_slots") k5 v5, ent P (Str.ofString "maybe_dups") k6 v6]

section
variable {prog : Program} {w : World} {A : Around} {E : Value → Shared → Prop} {s : Shared} {K : Frag} {x C L : Addr} {h₀ : Heap} {m : Str → Option Value} {ox : Obj} {es : List DictEntry} {n : Nat} {name : Str} {v : Value} {expr : Bool} {Q : Value → Shared → Prop} {a g : Value}
theorem findObj_shadow {od : Obj} (hh : hasDictIn K C = true) (ha : findIn K (.ref C) name = some (some a)) (hn : specialIn K a "__get__" = some (some g)) (ht : takesIn K a = some false) (hl : lookIn name od = some (some v)) :
    findObj K C (some od) name = some (.value v) := by
  obtain ⟨cd, hc, hd⟩ := any_some hh
  unfold findObj
  have ho : PySem.W.ownOf cd (some od) name = some (some v) := by unfold PySem.W.ownOf; rw [if_pos hd]; exact hl
  rw [hc, Option.bind_some, ha, Option.bind_some]
  simp [hn, ht, ho]
theorem findObj_late {od : Obj} (hh : hasDictIn K C = true) (ha : findIn K (.ref C) name = some (some a)) (hn : specialIn K a "__get__" = some (some g)) (ht : takesIn K a = some false) (hc' : copiedNames.contains name = false) (hl : lookIn name od = some none) :
    findObj K C (some od) name = some (.bind g a) := by
  obtain ⟨cd, hc, hd⟩ := any_some hh
  unfold findObj
  have ho : PySem.W.ownOf cd (some od) name = some none := by unfold PySem.W.ownOf; rw [if_pos hd]; exact hl
  rw [hc, Option.bind_some, ha, Option.bind_some]
  simp only [hn, ht, ho, hc', Option.bind_some, Bool.false_and, Bool.false_eq_true, if_false]
theorem get_shadow (F : Fr h₀ L s.heap m) (X₀ : K.In h₀) (I : InstAt s.heap x ox C (some (dictOf es n))) (hg : plainGet K C name = true) (hh : hasDictIn K C = true)
    (ha : findIn K (.ref C) name = some (some a)) (hn : specialIn K a "__get__" = some (some g)) (ht : takesIn K a = some false) (hl : getL name es = some (some v)) (hv : handedIn v = true) (h : Q v { s with toks := s.toks + 1 }) :
    wpAny (model prog w) A (getAttr (.ref x) name expr) Q E s :=
  get_value (X₀.keeps F.keep) I (plainGet_of hg).1 (findObj_shadow hh ha hn ht hl) hv h
theorem get_late (F : Fr h₀ L s.heap m) (X₀ : K.In h₀) (I : InstAt s.heap x ox C (some (dictOf es n))) (hg : plainGet K C name = true) (hh : hasDictIn K C = true)
    (ha : findIn K (.ref C) name = some (some a)) (hn : specialIn K a "__get__" = some (some g)) (ht : takesIn K a = some false) (hc : copiedNames.contains name = false) (hl : getL name es = some none)
    (h : wpAny (model prog w) A.in1 (call g [a, .ref x, .ref C]) (fun v s' => wpAny (model prog w) A (handedOut v) Q E s') (fun e s' => wpAny (model prog w) A (noteIf true (.ref x) (.str name s.toks) e) (fun _ s'' => E e s'') E s') { s with toks := s.toks + 1 }) :
    wpAny (model prog w) A (getAttr (.ref x) name expr) Q E s :=
  get_bind (X₀.keeps F.keep) I (plainGet_of hg).1 (findObj_late hh ha hn ht hc hl) (plainGet_of hg).2 h
end

section
variable {prog : Program} {w : World} {A : Around} {E Q : Value → Shared → Prop} {s : Shared} {x : Int} {k : Nat} {t u : Tok}
theorem and_mask (h : Q (.int (x % 2 ^ k) s.toks) { s with toks := s.toks + 1 }) : wpAny (model prog w) A (binaryOp .BitAnd (.int x t) (.int (2 ^ k - 1) u)) Q E s := and_int (by rw [kbt_mask]; exact h)
theorem shl_one (hk : k ≤ 1000) (h : Q (.int (2 ^ k) s.toks) { s with toks := s.toks + 1 }) : wpAny (model prog w) A (binaryOp .LShift (.int 1 t) (.int (k : Int) u)) Q E s :=
  lshift_int_small (by omega) (by omega) (by decide) (by rw [Int.one_mul, Int.toNat_natCast]; exact h)
theorem and_mask' (h : Q (.int (x % 2 ^ k) s.toks) { s with toks := s.toks + 1 }) : wpAny (model prog w) A (binaryOp .BitAnd (.int (2 ^ k - 1) u) (.int x t)) Q E s := and_int (by rw [kbt_mask']; exact h)
end

section
variable {prog : Program} {w : World} {A : Around} {E Q : Value → Shared → Prop} {s : Shared} {x : Int} {t u : Tok}
theorem shr5 (h : Q (.int (x / 32) s.toks) { s with toks := s.toks + 1 }) : wpAny (model prog w) A (inplaceOp .RShift (.int x t) (.int 5 u)) Q E s :=
  irshift_int (by decide) (by
    have : x.fdiv (2 ^ (5 : Int).toNat) = x / 32 := by
      show x.fdiv 32 = x / 32
      exact Int.fdiv_eq_ediv_of_nonneg _ (by decide)
    rw [this]; exact h)
end

/-- the tail's walk -/
def tl (n : Nat) (s : Int) : Nat → Int
  | 0 => s
  | k + 1 => (tl n s k * 5 + 1) % 2 ^ n
theorem pow2_pos (n : Nat) : (0 : Int) < 2 ^ n := Int.pow_pos (by decide)
theorem tl_range {n : Nat} {s : Int} (h0 : 0 ≤ s) (h1 : s < 2 ^ n) : ∀ k, 0 ≤ tl n s k ∧ tl n s k < 2 ^ n
  | 0 => ⟨h0, h1⟩
  | k + 1 => ⟨Int.emod_nonneg _ (by have := pow2_pos n; omega), Int.emod_lt_of_pos _ (pow2_pos n)⟩

/-- what is left of the hash, and its walk -/
def pt (h : Int) : Nat → Int
  | 0 => h
  | k + 1 => pt h k / 32
def wk (n : Nat) (h : Int) : Nat → Int
  | 0 => h % 2 ^ n
  | k + 1 => (wk n h k * 5 + pt h (k + 1) + 1) % 2 ^ n
theorem wk_range {n : Nat} {h : Int} : ∀ k, 0 ≤ wk n h k ∧ wk n h k < 2 ^ n
  | 0 => ⟨Int.emod_nonneg _ (by have := pow2_pos n; omega), Int.emod_lt_of_pos _ (pow2_pos n)⟩
  | k + 1 => ⟨Int.emod_nonneg _ (by have := pow2_pos n; omega), Int.emod_lt_of_pos _ (pow2_pos n)⟩
theorem pt_nonneg {h : Int} (h0 : 0 ≤ h) : ∀ k, 0 ≤ pt h k
  | 0 => h0
  | k + 1 => Int.ediv_nonneg (pt_nonneg h0 k) (by decide)
theorem pt_zero {h : Int} {k : Nat} (e : pt h k = 0) : ∀ j, pt h (k + j) = 0
  | 0 => e
  | j + 1 => by
    show pt h (k + j) / 32 = 0
    rw [pt_zero e j]; rfl
theorem wk_tl {n : Nat} {h : Int} {k : Nat} (e : pt h k = 0) : ∀ j, wk n h (k + j) = tl n (wk n h k) j
  | 0 => rfl
  | j + 1 => by
    show (wk n h (k + j) * 5 + pt h (k + j + 1) + 1) % 2 ^ n = (tl n (wk n h k) j * 5 + 1) % 2 ^ n
    rw [wk_tl e j, show pt h (k + j + 1) = 0 from pt_zero e (j + 1), Int.add_zero]
theorem pow_le_1024 {n : Nat} (h : n ≤ 10) : (2 : Int) ^ n ≤ 1024 := by
  have h1 : (2 : Nat) ^ n ≤ 1024 := Nat.pow_le_pow_right (by decide) h
  have h2 : ((2 ^ n : Nat) : Int) ≤ ((1024 : Nat) : Int) := Int.ofNat_le.mpr h1
  rwa [Int.natCast_pow] at h2
theorem len_cast {ns : List Int} {n : Nat} (h : ns.length = 2 ^ n) : (ns.length : Int) = 2 ^ n := by rw [h]; push_cast; rfl
theorem val_int {m : Str → Option Value} {x : Str} {a b : Int} {t : Tok} (e : m x = some (.int a t)) (h : a = b) : m x = some (.int b t) := h ▸ e
end Mine
end

section
open PySem PySem.W PySem.Calls PyProof.Rows
namespace Mine

/-- the one code whose presence on the stack the model asks for where a dict is handed out -/
def isFin : Code → Bool
  | .builtin "lifetime.gc.finalise" _ => true
  | _ => false

structure BelowOK (Γ : Ctx) (A : Around) : Prop where
  b : Γ.Below A
  f : ∀ c ∈ Γ.below.map (·.1), isFin c = false
structure InOK (Γ : Ctx) (A : Around) : Prop where
  i : Γ.In A
  f : ∀ c ∈ Γ.code :: Γ.below.map (·.1), isFin c = false

theorem InOK.enter {Γ : Ctx} {A : Around} (h : InOK Γ A) (c : Code) (p : Pos) : BelowOK (Γ.enter c none p) A :=
  ⟨h.i.enter c none p (by intro x; cases x), fun c' hc => h.f c' (by simpa [Ctx.enter] using hc)⟩
theorem BelowOK.in {Γ : Ctx} {A : Around} (h : BelowOK Γ A) (hc : isFin Γ.code = false) : InOK Γ (A.under Γ.code) :=
  ⟨h.b.in, fun c' hc' => by
    rcases List.mem_cons.mp hc' with rfl | hc'
    · exact hc
    · exact h.f c' hc'⟩
theorem BelowOK.goto {Γ : Ctx} {A : Around} (h : BelowOK Γ A) (c : Code) : BelowOK (Γ.goto c) A := ⟨h.b, h.f⟩

def wpAt {α : Type} (M : Model) (Γ : Ctx) (t : Sem α) (Q : α → Shared → Prop) (s : Shared) : Prop :=
  ∀ p, Sem.wp M Γ t (fun a _ s' => Q a s') (fun _ _ _ => False) p s
def codeAt (M : Model) (Γ : Ctx) (R : Result → Shared → Prop) (s : Shared) : Prop := ∀ p, wpCode M Γ R p s

section
variable {α β : Type} {M : Model} {Γ : Ctx} {A : Around} {s : Shared}

theorem at_any {t : Sem α} {Q : α → Shared → Prop} (hΓ : InOK Γ A) (h : wpAny M A t Q (fun _ _ => False) s) : wpAt M Γ t Q s := fun p => h Γ p hΓ.i
theorem at_mono {t : Sem α} {Q Q' : α → Shared → Prop} (h : wpAt M Γ t Q s) (k : ∀ a s, Q a s → Q' a s) : wpAt M Γ t Q' s :=
  fun p => Sem.wp_mono M Γ t (fun a _ s => k a s) (fun _ _ _ x => x) p s (h p)
theorem at_pure {a : α} {Q : α → Shared → Prop} (h : Q a s) : wpAt M Γ (pure a) Q s := fun _ => h
theorem at_bind {m : Sem α} {f : α → Sem β} {Q : β → Shared → Prop} (h : wpAt M Γ m (fun a s' => wpAt M Γ (f a) Q s') s) : wpAt M Γ (m >>= f) Q s := fun p => by
  rw [Sem.wp_bind']
  exact Sem.wp_mono M Γ m (fun a p' s' h' => h' p') (fun _ _ _ h' => h') p s (h p)
theorem at_bindA {m : Sem α} {f : α → Sem β} {Q : β → Shared → Prop} (hΓ : InOK Γ A) (h : wpAny M A m (fun a s' => wpAt M Γ (f a) Q s') (fun _ _ => False) s) : wpAt M Γ (m >>= f) Q s :=
  at_bind (at_any hΓ h)
theorem at_holding {vs : List Value} {m : Sem α} {Q : α → Shared → Prop} (h : wpAt M Γ m Q s) : wpAt M Γ (holding vs m) Q s := fun p => by rw [Sem.wp_holding]; exact h p
theorem at_keep {vs : List Value} {m : Sem α} {Q : α → Shared → Prop} (h : wpAt M Γ m Q s) : wpAt M Γ (m.keep vs) Q s := fun p => by rw [Sem.wp_keep]; exact h p
theorem at_onRaise {m : Sem α} {k : Value → Sem Unit} {Q : α → Shared → Prop} (h : wpAt M Γ m Q s) : wpAt M Γ (m.onRaise k) Q s := fun p => by
  rw [Sem.wp_onRaise]
  exact Sem.wp_mono M Γ m (fun _ _ _ x => x) (fun _ _ _ x => x.elim) p s (h p)
theorem at_attempt {m : Sem α} {Q : Except Value α → Shared → Prop} (h : wpAt M Γ m (fun a => Q (.ok a)) s) : wpAt M Γ m.attempt Q s := fun p => by
  rw [Sem.wp_attempt]
  exact Sem.wp_mono M Γ m (fun _ _ _ x => x) (fun _ _ _ x => x.elim) p s (h p)
theorem at_standAt {p' : Pos} {Q : Unit → Shared → Prop} (h : Q () s) : wpAt M Γ (standAt p') Q s := fun _ => h
theorem at_point {Q : Unit → Shared → Prop} (h : Q () s) : wpAt M Γ point Q s := fun _ => h
theorem at_rule {t : String} {Q : Unit → Shared → Prop} (h : Q () s) : wpAt M Γ (rule t) Q s := fun _ => h

theorem at_runValue {c : Code} {Q : Value → Shared → Prop} (h : ∀ p, codeAt M (Γ.enter c none p) (fun r s' => match r with | .ok (.ret v) => Q v s' | _ => False) s) : wpAt M Γ (runValue c) Q s := fun p => by
  rw [Sem.wp_runValue]
  refine wpCode_mono (fun r s' hr => ?_) (h p p)
  cases r with
  | error e => exact hr
  | ok f => cases f <;> exact hr
theorem at_run {c : Code} {Q : Flow → Shared → Prop} (h : ∀ p, codeAt M (Γ.enter c none p) (fun r s' => match r with | .ok f => Q f s' | _ => False) s) : wpAt M Γ (run c) Q s := fun p => by
  rw [Sem.wp_run]
  refine wpCode_mono (fun r s' hr => ?_) (h p p)
  cases r with
  | error e => exact hr
  | ok f => exact hr
theorem at_call {f : Value} {pos : List Value} {kw : List (Str × Value)} {Q : Value → Shared → Prop}
    (h : ∀ p, codeAt M (Γ.enter (.call f ⟨pos, kw⟩) none p) (fun r s' => match r with | .ok (.ret v) => Q v s' | _ => False) s) : wpAt M Γ (call f pos kw) Q s := at_runValue h

theorem codeAt_mono {R R' : Result → Shared → Prop} (h : codeAt M Γ R s) (k : ∀ r s, R r s → R' r s) : codeAt M Γ R' s := fun p => wpCode_mono k (h p)
theorem codeAt_any {R : Result → Shared → Prop} (hΓ : BelowOK Γ A) (h : codeAny M A Γ.code R s) : codeAt M Γ R s := fun p => h Γ p rfl hΓ.b
theorem codeAt_tree {R : Result → Shared → Prop}
    (h : wpAt M Γ (M.den Γ.code) (fun fin s' => match fin with | .done f => R (.ok f) s' | .again c' => c'.quiet = true ∧ codeAt M (Γ.goto c') R s') s) : codeAt M Γ R s := fun p => by
  rw [wpCode_iff_wp]
  refine Sem.wp_mono M Γ _ (fun fin p' s' h' => ?_) (fun _ _ _ h' => h'.elim) p s (h p)
  cases fin with
  | done f => exact h'
  | again c' => exact ⟨h'.1, h'.2 p'⟩

theorem codeAt_loop {R : Result → Shared → Prop} (hq : Γ.code.quiet = true) (I : Nat → Shared → Prop)
    (turn : ∀ n s, I n s → wpAt M Γ (M.den Γ.code)
      (fun fin s' => match fin with | .done f => R (.ok f) s' | .again c' => c' = Γ.code ∧ ∃ m, m < n ∧ I m s') s)
    (n : Nat) (h : I n s) : codeAt M Γ R s := by
  induction n using Nat.strongRecOn generalizing s with
  | ind n ih =>
    refine codeAt_tree (at_mono (turn n s h) fun fin s' hf => ?_)
    cases fin with
    | done f => exact hf
    | again c' => obtain ⟨rfl, m, hm, hI⟩ := hf; exact ⟨hq, ih m hm hI⟩
end

section
variable {prog : Program} {w : World} {Γ : Ctx} {A : Around} {s : Shared} {env : Env} {R : Result → Shared → Prop}

theorem codeAt_builtin {id : String} {args : Args} {b : Builtin} (hc : Γ.code = .builtin id args) (hb : entryFor table id = some b)
    (h : wpAt (model prog w) Γ (b args) (fun fin s' => match fin with | .done f => R (.ok f) s' | .again c' => c'.quiet = true ∧ codeAt (model prog w) (Γ.goto c') R s') s) :
    codeAt (model prog w) Γ R s := by
  refine codeAt_tree ?_
  rw [hc]
  show wpAt _ _ (match entryFor table id with | some b => b args | none => unsupported ((withoutEnding? id "#data").getD id)) _ s
  rw [hb]; exact h

theorem at_execs_cons {st : Stmt} {rest : List Stmt} {Q : Flow → Shared → Prop}
    (h : wpAt (model prog w) Γ (exec st env) (fun f s' => match f with | .next => wpAt (model prog w) Γ (execs rest env) Q s' | f => Q f s') s) :
    wpAt (model prog w) Γ (execs (st :: rest) env) Q s := by
  rw [execs_cons]
  refine at_bind (at_mono h fun f s' hf => ?_)
  cases f with
  | next => exact hf
  | brk => exact at_pure hf
  | cont => exact at_pure hf
  | ret v => exact at_pure hf
theorem at_execs_consA {st : Stmt} {rest : List Stmt} {Q : Flow → Shared → Prop} (hΓ : InOK Γ A)
    (h : wpAny (model prog w) A (exec st env) (fun f s' => match f with | .next => wpAt (model prog w) Γ (execs rest env) Q s' | f => Q f s') (fun _ _ => False) s) :
    wpAt (model prog w) Γ (execs (st :: rest) env) Q s := at_execs_cons (at_any hΓ h)

theorem codeAt_func {body : List Stmt} (hc : Γ.code = .func body env)
    (h : wpAt (model prog w) Γ (execs body env) (fun f s' => R (.ok (.ret (match f with | .ret v => v | _ => .none))) s') s) : codeAt (model prog w) Γ R s := by
  refine codeAt_tree ?_
  rw [hc]
  show wpAt _ _ (do point; match ← (execs body env).onRaise (leaving env) with | .ret v => ret v | _ => ret .none) _ s
  refine at_bind (at_point (at_bind (at_onRaise (at_mono h fun f s' h' => ?_))))
  cases f <;> exact at_pure h'

theorem at_If {test : Expr} {body orelse : List Stmt} {pos : Pos} {Q : Flow → Shared → Prop}
    (h : wpAt (model prog w) Γ (isTrue test env (eval test env)) (fun b s₂ => if b then wpAt (model prog w) Γ (execs body env) Q s₂ else wpAt (model prog w) Γ (execs orelse env) Q s₂) s) :
    wpAt (model prog w) Γ (exec (.If test body orelse pos) env) Q s := by
  rw [exec_If]
  refine at_bind (at_standAt (at_bind (at_mono h fun b s₂ h₂ => ?_)))
  cases b <;> exact h₂
theorem at_Assign_Name {x : Str} {pos' pos : Pos} {value : Expr} {Q : Flow → Shared → Prop} (hΓ : InOK Γ A)
    (h : wpAt (model prog w) Γ (eval value env) (fun v s₁ => wpAny (model prog w) A (storeName env x v) (fun _ => Q .next) (fun _ _ => False) s₁) s)
    (hs : swapsWith value (some (.Name x pos')) pos.line env = pure false := by rfl) :
    wpAt (model prog w) Γ (exec (.Assign [.Name x pos'] value pos) env) Q s := fun p => by
  simp only [exec_Assign_Name env x pos' value pos hs, Sem.wp_bind', Sem.wp_cmd_standAt, Sem.wp_bindName, Sem.wp_pure']
  exact Sem.wp_mono _ Γ _ (fun v _ s₁ h₁ => h₁ Γ _ hΓ.i) (fun _ _ _ h' => h') _ _ (h _)
theorem at_Return {e : Expr} {pos : Pos} {Q : Flow → Shared → Prop} (h : wpAt (model prog w) Γ (eval e env) (fun v => Q (.ret v)) s) :
    wpAt (model prog w) Γ (exec (.Return (some e) pos) env) Q s := by
  rw [exec_Return_some]
  exact at_bind (at_standAt (at_bind (at_mono h fun v s' h' => at_pure h')))
theorem at_Try {body orelse : List Stmt} {h₀ : ExceptHandler} {hs : List ExceptHandler} {pos : Pos} {Q : Flow → Shared → Prop}
    (h : wpAt (model prog w) Γ (execs body env) (fun f s₁ => match f with | .next => wpAt (model prog w) Γ (execs orelse env) Q s₁ | f => Q f s₁) s) :
    wpAt (model prog w) Γ (exec (.Try body (h₀ :: hs) orelse [] pos) env) Q s := by
  rw [arm_exec_Try]
  refine at_bind (at_standAt ?_)
  unfold tryStmt
  simp only [List.isEmpty_nil, if_true]
  refine at_bind (at_attempt (at_mono h fun f s₁ h₁ => ?_))
  cases f with
  | next => exact h₁
  | brk => exact at_pure h₁
  | cont => exact at_pure h₁
  | ret v => exact at_pure h₁

theorem codeAt_call_function {a : Addr} {args : Args} {o : Obj} {fd : FuncData} {body : List Stmt} (hc : Γ.code = .call (.ref a) args) (hΓ : BelowOK Γ A) (hroom : A.depth < recursionLimit)
    (ho : s.heap.get? a = some o)
    (hd' : o.data = .func fd) (hco : fd.scope.isCoroutine = false) (hgen : fd.scope.isGenerator = false) (hbody : fd.body = .stmts body) (hcd : s.heap.CodeRec fd.code fd.qualname)
    (h : wpAny (model prog w) A.in1 (bindArgs fd args) (fun binds s₁ =>
      wpAny (model prog w) A.in1 (newFunctionEnv fd.scope fd.globals fd.closure binds (fd.qualname ++ ".<locals>.") (some a) fd.code none fd.builtins)
        (fun env s₂ => s₂.heap.NoLimit ∧ codeAt (model prog w) (Γ.goto (.func body env)) R s₂) (fun _ _ => False) s₁) (fun _ _ => False) s) :
    codeAt (model prog w) Γ R s := by
  refine codeAt_tree ?_
  have hin : InOK Γ A.in1 := by
    have := hΓ.in (by rw [hc]; rfl)
    rw [hc] at this
    exact this
  rw [hc]
  refine at_any hin ?_
  show wpAny _ A.in1 (callAny (.ref a) args) _ _ s
  simp only [callAny]
  refine wpAny_bind (wpAny_load ho ?_)
  obtain ⟨c, oc, vs, tq, hc', hoc, hdc, hq⟩ := hcd
  simp only [hd', callFunction, hco, hgen, hbody, hc']
  rw [hc'] at h
  refine wpAny_bind (m := field (.ref c) 1) (wpAny_field hoc hdc hq (wpAny_bind (wpAny_pure ?_)))
  exact wpAny_bind (wpAny_mono h (fun binds s₁ h₁ => wpAny_bind (wpAny_mono h₁ (fun env s₂ h₂ => wpAny_bind (wpAny_enterFrame h₂.1 hroom
    (wpAny_pure (And.intro rfl h₂.2)))) fun _ _ h' => h')) fun _ _ h' => h')

theorem codeAt_defX {K : Frag} {A₀ : Around} {base h₀ : Heap} {outer : List Env} {L f : Addr} {m mg mb : Str → Option Value} {cenv : Env} {news : List (Addr × Obj)} {p : Program} {loose : List Str} {mean : ExcName → Option Value}
    {name qual : Str} {params : Arguments} {body : List Stmt} {scope : Scope} {dV kV doc pm cdv ct oc : Value} {an od : Option Addr} {osl : Array (Option Value)} {args : Args} {binds : List (Str × Value)}
    (hc : Γ.code = .call (.ref f) args) (hΓ : BelowOK Γ A)
    (B : Below A₀ base outer h₀) (F : Fr h₀ L s.heap m) (X₀ : K.In h₀) (N : News h₀ L s.heap news) (T : Top p loose mean mg mb h₀) (hA : A.frames = some (cenv :: outer)) (hf : cenv.frame = some L) (hke : cenv.scope.kind = .function)
    (ho : K.lookup f = some ⟨oc, od, .func (fnOf name qual params body scope dV kV doc pm an cdv ct), osl⟩) (hcd : codeIn K cdv qual = true) (hroom : A.depth < recursionLimit)
    (hbind : BindsTo s (fnOf name qual params body scope dV kV doc pm an cdv ct) args binds) (hloc : ∀ y ∈ binds, scope.names.lookup y.1 = some .local)
    (h : ∀ g L' h₁ Γ', Fr h₀ L g m → Fr g L' h₁ (fun y => binds.reverse.lookup y) → News g L' h₁ news → Below A base (cenv :: outer) g → K.In g → Top p loose mean mg mb g →
      InOK Γ' (A.deeper (envOf qual scope L' f cdv)) →
      wpAt (model prog w) Γ' (execs body (envOf qual scope L' f cdv))
        (fun fl s' => LeaveK h₀ L m g R (match fl with | .ret v => v | _ => .none) s')
        { s with heap := h₁, toks := s.toks + binds.length })
    (hco : scope.isCoroutine = false) (hgen : scope.isGenerator = false) (hk : scope.kind = .function)
    (hcell : ∀ x ∈ scope.names, x.2 ≠ .cell) : codeAt (model prog w) Γ R s := by
  obtain ⟨FG, BG, st, lv⟩ := groundX (R := R) B F N hA hf hke
  refine codeAt_call_function (fd := fnOf name qual params body scope dV kV doc pm an cdv ct) (body := body) hc hΓ hroom ((X₀.keeps F.keep) _ _ ho) rfl hco hgen rfl (codeRec_of (X₀.keeps F.keep) hcd) (hbind _ _ _ _ ?_)
  refine wpAny_newFunctionEnv hcell hloc (fun h₁ hns₁ hsb₁ => ⟨(T.nolimit.keeps F.keep).fresh _ hsb₁, ?_⟩) hk
  have hk₁ : ∀ b o, s.heap.get? b = some o → h₁.get? b = some o := fun b o e => hsb₁.extBut b o (Nat.ne_of_lt (Heap.lt_size e)) (Heap.get?_push_of_some _ e)
  refine codeAt_func rfl ?_
  refine at_mono (h _ s.heap.objs.size h₁ _ FG ⟨hns₁, fun b o e => hk₁ b o (of_hideAll _ e), Nat.le_of_eq (hideAll_size _ _)⟩
    (fun p hp => ⟨hk₁ _ _ (N p hp).1, Nat.ne_of_lt (Heap.lt_size (N p hp).1), hideAll_none _ (List.mem_map_of_mem hp)⟩) BG (X₀.keeps st) (T.keeps st) ((hΓ.goto _).in rfl)) (fun fl s' hl => lv _ _ hl)
end
end Mine
end

section
open PySem PySem.W PySem.Calls PyProof.Rows PySem.Builtin PySem.Builtin.ObjectAttr PySem.Builtin.Getset_descriptor
namespace Mine
section
variable {prog : Program} {w : World} {Γ : Ctx} {A : Around} {s : Shared} {env : Env}

theorem at_Attribute_name {n attr : Str} {np pos : Pos} {Q : Value → Shared → Prop} (hΓ : InOK Γ A)
    (h : wpAny (model prog w) A (eval (.Name n np) env) (fun o s₁ => wpAt (model prog w) Γ (getAttr o attr true) Q s₁) (fun _ _ => False) s) :
    wpAt (model prog w) Γ (eval (.Attribute (.Name n np) attr pos) env) Q s := by
  rw [arm_eval_Attribute]
  have e1 : attributeBase (.Name n np) attr env (eval (.Name n np) env) = eval (.Name n np) env := rfl
  rw [e1]
  refine at_bindA hΓ (wpAny_mono h (fun o s₁ h₁ => at_bind (at_standAt (at_bind (at_holding (at_mono h₁ fun r s₂ h₂ => ?_))))) fun _ _ y => y)
  have e2 : letTemporaryGo (.Name n np) o r = pure () := rfl
  rw [e2]
  exact at_bind (at_pure (at_pure h₂))

theorem at_BinOp {l r : Expr} {op : Operator} {pos : Pos} {Q : Value → Shared → Prop} (hΓ : InOK Γ A)
    (h : wpAt (model prog w) Γ (eval l env) (fun a s₁ => wpAny (model prog w) A (eval r env) (fun b s₂ => wpAny (model prog w) A (binaryOp op a b) Q (fun _ _ => False) s₂) (fun _ _ => False) s₁) s) :
    wpAt (model prog w) Γ (eval (.BinOp l op r pos) env) Q s := by
  rw [arm_eval_BinOp]
  refine at_bind (at_mono h fun a s₁ h₁ => at_bindA hΓ (wpAny_holding (wpAny_mono h₁ (fun b s₂ h₂ => at_bind (at_standAt ?_)) fun _ _ x => x)))
  exact fun p => by rw [Sem.wp_operate]; exact h₂ Γ p hΓ.i

theorem at_methodCall {o : Expr} {name : Str} {apos pos : Pos} {args : List Expr} {kws : List Keyword} {pl : Sem Bool} {Q : Value → Shared → Prop} (hΓ : InOK Γ A)
    (h : wpAny (model prog w) A (eval o env) (fun ov s₁ => wpAny (model prog w) A (getMethod ov name pl) (fun fx s₂ => wpAt (model prog w) Γ (callWith pos fx.1 fx.2 (backTo pos (starEach args env)) (backToKw pos (keywordEach kws env))) Q s₂) (fun _ _ => False) s₁) (fun _ _ => False) s)
    (he : eval (.Call (.Attribute o name apos) args kws pos) env = (do
      let ov ← eval o env
      standAt apos.atName
      let (f, first) ← holding [ov] (getMethod ov name pl)
      callWith pos f first (backTo pos (starEach args env)) (backToKw pos (keywordEach kws env))) := by rfl) :
    wpAt (model prog w) Γ (eval (.Call (.Attribute o name apos) args kws pos) env) Q s := by
  rw [he]
  refine at_bindA hΓ (wpAny_mono h (fun ov s₁ h₁ => at_bind (at_standAt (at_bindA hΓ (wpAny_holding (wpAny_mono h₁ (fun fx s₂ h₂ => ?_) fun _ _ x => x))))) fun _ _ x => x)
  exact h₂

theorem at_callWith_of {P : Heap → Prop} {f : Value} {first : List Value} {pos : Pos} {Q : Value → Shared → Prop} {args : List (Bool × Sem Value)} {keywords : List (Option Str × Sem Value)} (hΓ : InOK Γ A) (hplain : (args.any (·.1) || keywords.any (·.1.isNone)) = false)
    (hk : ∀ h, P h → ∃ k, (k = Keeper.frame ∨ k = Keeper.machine ∨ k = Keeper.boundFrame) ∧ Looks (model prog w) h (keeperOf f) k)
    (h : wpAny (model prog w) A (evalArgs f true args keywords) (fun a s₁ => P s₁.heap ∧ wpAt (model prog w) Γ (call f (first ++ a.pos) a.kw) Q s₁) (fun _ _ => False) s) : wpAt (model prog w) Γ (callWith pos f first args keywords) Q s := by
  unfold callWith
  refine at_bindA hΓ (wpAny_holding (wpAny_mono h (fun a s₁ h₁ => at_bind (at_standAt ?_)) fun _ _ x => x))
  obtain ⟨k, hk', L⟩ := hk _ h₁.1
  simp only [hplain]
  refine at_bindA hΓ (L.here ?_)
  have tail : ∀ {t : Sem Value}, wpAt (model prog w) Γ t Q s₁ → wpAt (model prog w) Γ (t >>= fun r => holding [r] point >>= fun _ => pure r) Q s₁ :=
    fun ht => at_bind (at_mono ht (fun r s₂ hr => at_bind (at_holding (at_point (at_pure hr)))))
  have marked (mk : Value) : wpAt (model prog w) Γ (callMarked mk f (first ++ a.pos) a.kw) Q s₁ := by unfold callMarked; exact at_keep h₁.2
  rcases hk' with rfl | rfl | rfl <;> dsimp only <;> first | exact tail h₁.2 | (split <;> first | exact tail h₁.2 | exact tail (marked _))
theorem at_callWith_K {K : Frag} {f : Value} {first : List Value} {pos : Pos} {Q : Value → Shared → Prop} {e : Expr} {rest : List Expr} (hΓ : InOK Γ A) (hk : keepIn K f = true)
    (h : wpAny (model prog w) A (spliced (backTo pos (starEach (e :: rest) env))) (fun vs s₁ => K.In s₁.heap ∧ wpAt (model prog w) Γ (call f (first ++ vs)) Q s₁) (fun _ _ => False) s)
    (he : starEach (e :: rest) env = (false, eval e env) :: starEach rest env := by rfl) (hplain : (backTo pos (starEach rest env)).any (·.1) = false := by rfl) :
    wpAt (model prog w) Γ (callWith pos f first (backTo pos (starEach (e :: rest) env)) []) Q s := by
  rw [he] at h ⊢
  exact at_callWith_of hΓ (by show ((false || (backTo pos (starEach rest env)).any (·.1)) || false) = false; rw [hplain]; rfl) (keeps_K hk) (evalArgs_plain h)
theorem at_callWith_K0 {K : Frag} {f : Value} {first : List Value} {pos : Pos} {Q : Value → Shared → Prop} (hΓ : InOK Γ A) (X : K.In s.heap) (hk : keepIn K f = true) (h : wpAt (model prog w) Γ (call f (first ++ [])) Q s) :
    wpAt (model prog w) Γ (callWith pos f first (backTo pos (starEach [] env)) []) Q s :=
  at_callWith_of hΓ rfl (keeps_K hk) (evalArgs_nil3 ⟨X, h⟩)
end

section
variable {prog : Program} {w : World} {Γ : Ctx} {A : Around} {s : Shared} {K : Frag} {x C L : Addr} {h₀ : Heap} {m : Str → Option Value} {ox : Obj} {od : Option Obj} {es : List DictEntry} {n : Nat} {name : Str} {expr : Bool} {Q : Value → Shared → Prop} {a g : Value}

theorem at_get_open (hΓ : InOK Γ A) (X : K.In s.heap) (I : InstAt s.heap x ox C od) (hga : findIn K (.ref C) "__getattribute__" = some (some (.builtin "object.__getattribute__")))
    (h : ∀ Γ', InOK Γ' A.in1 → wpAt (model prog w) Γ' (Builtin.«proto.getattr_hooked» ⟨[.ref x, .str name s.toks], []⟩)
      (fun fin s' => match fin with | .done (.ret v) => wpAny (model prog w) A (handedOut v) Q (fun _ _ => False) s' | _ => False) { s with toks := s.toks + 1 }) :
    wpAt (model prog w) Γ (getAttr (.ref x) name expr) Q s := by
  obtain ⟨hh, gg, d, t, os⟩ := s
  have L0 := I.type (M := model prog w)
  have L1 := looks_findIn (M := model prog w) X hga
  unfold getAttr getAttrBy
  refine at_bindA hΓ (wpAny_mkText ?_)
  refine at_holding (at_bindA hΓ (L0.at (at_bindA hΓ (L1.at ?_))))
  show wpAt _ _ (getAttrEveryday _ _ _) _ _
  refine at_bind (at_onRaise (at_runValue fun p => codeAt_builtin rfl F.plainObj_entry_getattr_hooked ?_))
  have hin : InOK (Γ.enter (.builtin "proto.getattr_hooked" ⟨[.ref x, .str name t], []⟩) none p) A.in1 := by
    have := (hΓ.enter (.builtin "proto.getattr_hooked" ⟨[.ref x, .str name t], []⟩) p).in rfl
    rwa [show A.under (Γ.enter (.builtin "proto.getattr_hooked" ⟨[.ref x, .str name t], []⟩) none p).code = A.in1 from Around.under_plainId (by decide +kernel) _] at this
  refine at_mono (h _ hin) fun fin s' z => ?_
  rcases fin with (_ | _ | _ | _) | _ <;> first | exact at_any hΓ z | exact z.elim

theorem at_get_bind (hΓ : InOK Γ A) (X : K.In s.heap) (I : InstAt s.heap x ox C od) (hga : findIn K (.ref C) "__getattribute__" = some (some (.builtin "object.__getattribute__")))
    (hf : findObj K C od name = some (.bind g a)) (hk : findIn K (.ref C) "__getattr__" = some none)
    (h : ∀ Γ', InOK Γ' A.in1 → wpAt (model prog w) Γ' (call g [a, .ref x, .ref C]) (fun v s' => wpAny (model prog w) A (handedOut v) Q (fun _ _ => False) s') { s with toks := s.toks + 1 }) :
    wpAt (model prog w) Γ (getAttr (.ref x) name expr) Q s := by
  refine at_get_open hΓ X I hga fun Γ' hΓ' => ?_
  obtain ⟨hh', gg, d, t, os⟩ := s
  have L0 := I.type (M := model prog w)
  have L1 := looks_find (M := model prog w) X I hf
  have L2 := looks_findIn (M := model prog w) X hk
  refine at_bind (at_pure (at_bindA hΓ' (L0.at (at_bindA hΓ' (L1.at (at_bindA hΓ' (L2.at ?_)))))))
  show wpAt _ _ (holding [a] (call g [a, .ref x, .ref C]) >>= ret) _ _
  exact at_bind (at_holding (at_mono (h _ hΓ') (fun v s' z => at_pure z)))

theorem at_get_late (hΓ : InOK Γ A) (F : Fr h₀ L s.heap m) (X₀ : K.In h₀) (I : InstAt s.heap x ox C (some (dictOf es n))) (hg : plainGet K C name = true) (hh : hasDictIn K C = true)
    (ha : findIn K (.ref C) name = some (some a)) (hn : specialIn K a "__get__" = some (some g)) (ht : takesIn K a = some false) (hc : copiedNames.contains name = false) (hl : getL name es = some none)
    (h : ∀ Γ', InOK Γ' A.in1 → wpAt (model prog w) Γ' (call g [a, .ref x, .ref C]) (fun v s' => wpAny (model prog w) A (handedOut v) Q (fun _ _ => False) s') { s with toks := s.toks + 1 }) :
    wpAt (model prog w) Γ (getAttr (.ref x) name expr) Q s :=
  at_get_bind hΓ (X₀.keeps F.keep) I (plainGet_of hg).1 (findObj_late hh ha hn ht hc hl) (plainGet_of hg).2 h
end
end Mine
end

section
open PySem PySem.W PySem.Calls PyProof.Rows PySem.Builtin PySem.Builtin.ObjectAttr PySem.Builtin.Getset_descriptor
namespace Mine
section
variable {prog : Program} {w : World} {Γ : Ctx} {A : Around} {s : Shared} {R : Result → Shared → Prop}

theorem codeAt_call_builtin {id : String} {args : Args} {b : Builtin} (hc : Γ.code = .call (.builtin id) args) (hΓ : BelowOK Γ A) (hq : plainId id = true) (hb : entryFor table id = some b) (hf : isFin (.builtin id args) = false)
    (h : wpAny (model prog w) A.in1 (checkBuiltinCall id args) (fun _ s₁ => ∀ Γ', Γ'.code = .builtin id args → BelowOK Γ' A → InOK Γ' A.in1 → (∀ c, (Γ'.goto c) = Γ.goto c) → wpAt (model prog w) Γ' (b args)
      (fun fin s' => match fin with | .done f => R (.ok f) s' | .again c' => c'.quiet = true ∧ codeAt (model prog w) (Γ'.goto c') R s') s₁) (fun _ _ => False) s) :
    codeAt (model prog w) Γ R s := by
  refine codeAt_tree ?_
  have hin : InOK Γ A.in1 := by
    have := hΓ.in (by rw [hc]; rfl)
    rw [hc] at this
    exact this
  rw [hc]
  refine at_any hin ?_
  show wpAny _ A.in1 (do checkBuiltinCall id args; again (.builtin id args)) _ _ s
  refine wpAny_bind (wpAny_mono h (fun _ s₁ h₁ => wpAny_pure (And.intro (plainId_quiet hq args) ?_)) fun _ _ h' => h')
  have hi2 : InOK (Γ.goto (.builtin id args)) A.in1 := by
    have := (hΓ.goto (.builtin id args)).in hf
    rwa [show A.under (Γ.goto (.builtin id args)).code = A.in1 from Around.under_plainId hq args] at this
  exact codeAt_builtin rfl hb (h₁ (Γ.goto (.builtin id args)) rfl (hΓ.goto _) hi2 fun _ => rfl)
end

abbrev dictS (es : List DictEntry) (n : Nat) (sl : Array (Option Value)) : Obj := { cls := .type "dict", data := .dict es.toArray n, slots := sl }

namespace DF
theorem entry_dict : entryFor table "function.__dict__" = some Builtin.«function.__dict__» := entryFor_of_tree (by kernel_rfl)
end DF

theorem no_fin_some {α : Type} {f : Code × Pos → Option α} (hf : ∀ c p, isFin c = false → f (c, p) = none) : ∀ {l : List (Code × Pos)}, (∀ c ∈ l.map (·.1), isFin c = false) → l.findSome? f = none
  | [], _ => rfl
  | (c, p) :: r, h => by
    rw [List.findSome?_cons, hf c p (h c (by simp))]
    exact no_fin_some hf fun c' hc' => h c' (by simp at hc' ⊢; exact .inr hc')

theorem at_stack {α : Type} {M : Model} {Γ : Ctx} {s : Shared} {f : List (Code × Pos) → Sem α} {Q : α → Shared → Prop} (h : ∀ p, wpAt M Γ (f ((Γ.code, p) :: Γ.below)) Q s) : wpAt M Γ (stack >>= f) Q s := fun p => h p p

section
variable {prog : Program} {w : World} {Γ : Ctx} {A : Around} {s : Shared} {K : Frag} {x C L dx : Addr} {h₀ : Heap} {m : Str → Option Value} {es : List DictEntry} {n : Nat} {sl : Array (Option Value)} {Q : Fin → Shared → Prop}

theorem dict_tree (hΓ : InOK Γ A) (X : K.In s.heap) (I : InstAt s.heap x ⟨.ref C, some dx, .plain, sl⟩ C (some (dictOf es n)))
    (h1 : mroIn K C (.type "staticmethod") = some false) (h2 : mroIn K C (.type "classmethod") = some false) (hh : hasDictIn K C = true)
    (ht : nsIn K cStatics "_thread.count" = some none)
    (h : Q (.done (.ret (.ref dx))) { s with heap := s.heap.update dx fun o => if o.slots.isEmpty then { o with slots := #[none] } else o }) :
    wpAt (model prog w) Γ (Builtin.«function.__dict__» ⟨[.ref x], []⟩) Q s := by
  obtain ⟨hh', gg, d, t, os⟩ := s
  have L0 := I.type (M := model prog w)
  have L1 : Looks (model prog w) hh' (isInstance (.ref x) (.type "staticmethod")) false := L0.andThen (looks_mroIn X h1)
  have L2 : Looks (model prog w) hh' (isInstance (.ref x) (.type "classmethod")) false := L0.andThen (looks_mroIn X h2)
  have hx := I.at_
  have hd : hh'.get? dx = some (dictOf es n) := I.dict
  obtain ⟨cd, hcd, hhd⟩ := any_some hh
  have L3 := looks_clsIn (M := model prog w) X hcd
  unfold Builtin.«function.__dict__»
  refine at_bindA hΓ (wpAny_bind (L1.at (L2.at ?_)))
  simp only [Bool.false_eq_true, if_false]
  refine at_bind ?_
  unfold instanceDictHandedOut instanceDict
  refine at_bind (at_bindA hΓ (wpAny_loadPart hx ?_))
  dsimp only
  refine at_bindA hΓ (L3.at ?_)
  rw [hhd]
  simp only [Bool.not_true, Bool.false_eq_true, if_false]
  refine at_pure ?_
  dsimp only
  refine at_bindA hΓ (wpAny_loadPart hx ?_)
  dsimp only
  refine at_bind ?_
  k_delta "dictMadeRealInsideACollection"
  refine at_bindA hΓ (wpAny_load hd ?_)
  dsimp only
  have fin : wpAt (model prog w) Γ (pure (none : Option String)) (fun a s' =>
      wpAt (model prog w) Γ
        (match a with
        | some word => do
          unsupported word
          update dx fun o => if o.slots.isEmpty = true then { cls := o.cls, dict := o.dict, data := o.data, slots := #[none] } else o
          pure (some dx)
        | _ => do
          update dx fun o => if o.slots.isEmpty = true then { cls := o.cls, dict := o.dict, data := o.data, slots := #[none] } else o
          pure (some dx))
        (fun a s' => wpAt (model prog w) Γ (ret (match a with | some d => Value.ref d | none => Value.none)) Q s') s') ⟨hh', gg, d, t, os⟩ := by
    refine at_pure ?_
    dsimp only
    refine at_bindA hΓ (wpAny_update hd ?_)
    exact at_pure (at_pure h)
  split
  · exact fin
  · refine at_stack fun p => ?_
    rw [no_fin_some (fun c p hc => by
      dsimp only
      split
      · cases hc
      · rfl) (l := (Γ.code, p) :: Γ.below) (fun c hc => hΓ.f c (by simpa using hc))]
    dsimp only
    refine at_bindA hΓ ((looks_nsIn X ht).at ?_)
    simp only [Option.isNone_none, if_true]
    exact fin
end


section
variable {prog : Program} {w : World} {Γ : Ctx} {A : Around} {s : Shared} {K : Frag} {x C L dx p : Addr} {h₀ : Heap} {m : Str → Option Value} {es : List DictEntry} {n : Nat} {sl : Array (Option Value)} {expr : Bool} {Q : Value → Shared → Prop} {news news' : List (Addr × Obj)} {dn : Str} {dt : Tok} {gs : Value}

theorem at_dict (hΓ : InOK Γ A) (F : Fr h₀ L s.heap m) (X₀ : K.In h₀) (N : News h₀ L s.heap news) (I : InstAt s.heap x ⟨.ref C, some dx, .plain, sl⟩ C (some (dictOf es n)))
    (hg : plainGet K C "__dict__" = true) (hh : hasDictIn K C = true) (ha : findIn K (.ref C) "__dict__" = some (some (.ref p)))
    (hn : specialIn K (.ref p) "__get__" = some (some (.builtin "getset_descriptor.__get__"))) (htk : takesIn K (.ref p) = some true)
    (hp : recIn K p "getset_descriptor" = some [.str dn dt, .ref C, .builtin "function.__dict__", gs]) (hm : mroIn K C (.ref C) = some true)
    (h1 : mroIn K C (.type "staticmethod") = some false) (h2 : mroIn K C (.type "classmethod") = some false) (ht : nsIn K cStatics "_thread.count" = some none)
    (U : Upd dx (dictOf es n) (dictS es n #[none]) news news')
    (h : ∀ h', Fr h₀ L h' m → News h₀ L h' news' → Q (.ref dx) { s with heap := h', toks := s.toks + 1 }) :
    wpAt (model prog w) Γ (getAttr (.ref x) "__dict__" expr) Q s := by
  have X := X₀.keeps F.keep
  obtain ⟨pre, post, rfl, rfl, ua, ub⟩ := U.split
  obtain ⟨F', N'⟩ := news_upd (f := fun o => if o.slots.isEmpty then { o with slots := #[none] } else o) F N ua ub (o' := dictS es n #[none]) rfl rfl
  refine at_get_bind hΓ X I (plainGet_of hg).1 (findObj_data (by obtain ⟨cd, hc, _⟩ := any_some hh; rw [hc]; rfl) ha hn htk) (plainGet_of hg).2 fun Γ' hΓ' => ?_
  obtain ⟨d, sl', ho⟩ := rec_of X hp
  obtain ⟨hh', g, dr, t, os⟩ := s
  have L0 := I.type (M := model prog w)
  have L1 := looks_mroIn (M := model prog w) X hm
  dsimp only at ho L0 L1
  have f0 := looks_field (M := model prog w) ho 0 (v := .str dn dt) rfl
  have f1 := looks_field (M := model prog w) ho 1 (v := .ref C) rfl
  have f2 := looks_field (M := model prog w) ho 2 (v := .builtin "function.__dict__") rfl
  refine at_call fun p' => codeAt_call_builtin rfl (hΓ'.enter _ p') KF.slot_gs.plain KF.entry_gs rfl (KF.slot_gs.check _ _ _ _ _ _ _ _ ⟨_, ho, rfl⟩ (KF.args_gs _ _ _) fun Γ2 hc2 hB2 hI2 _ => ?_)
  refine at_any hI2 ?_
  unfold Builtin.«getset_descriptor.__get__» descrGet
  rw [dga_obj]
  refine wpAny_bind (wpAny_pure ?_)
  unfold descrGetter descrCheckInstance descrNameAndClass isInstance
  repeat lk
  show (Code.builtin "function.__dict__" ⟨[.ref x], []⟩).quiet = true ∧ codeAt _ (Γ2.goto (.builtin "function.__dict__" ⟨[.ref x], []⟩)) _ _
  have hI3 : InOK (Γ2.goto (.builtin "function.__dict__" ⟨[.ref x], []⟩)) A.in1.in1 := by
    have := (hB2.goto (.builtin "function.__dict__" ⟨[.ref x], []⟩)).in rfl
    rwa [show A.in1.under (Γ2.goto (.builtin "function.__dict__" ⟨[.ref x], []⟩)).code = A.in1.in1 from Around.under_plainId (by decide +kernel) _] at this
  refine ⟨Code.quiet_builtin _ (by decide +kernel), codeAt_builtin rfl DF.entry_dict (dict_tree (s := ⟨hh', g, dr, t + 1, os⟩) hI3 X I h1 h2 hh ht ?_)⟩
  dsimp only
  rw [handedOut_of (v := .ref dx) rfl]
  exact wpAny_pure (h _ F' N')
end

section
variable {prog : Program} {w : World} {A : Around} {E : Value → Shared → Prop} {s : Shared} {K : Frag} {x C L dx p : Addr} {h₀ : Heap} {m : Str → Option Value} {es : List DictEntry} {n : Nat} {sl : Array (Option Value)} {news : List (Addr × Obj)} {dn : Str} {dt : Tok} {gs : Value} {expr : Bool}

theorem dict_treeS {Q : PySem.Fin → Shared → Prop} (X : K.In s.heap) (I : InstAt s.heap x ⟨.ref C, some dx, .plain, sl⟩ C (some (dictS es n #[none])))
    (h1 : mroIn K C (.type "staticmethod") = some false) (h2 : mroIn K C (.type "classmethod") = some false) (hh : hasDictIn K C = true)
    (h : Q (.done (.ret (.ref dx))) { s with heap := s.heap.update dx fun o => if o.slots.isEmpty then { o with slots := #[none] } else o }) :
    wpAny (model prog w) A (Builtin.«function.__dict__» ⟨[.ref x], []⟩) Q E s := by
  obtain ⟨hh', gg, d, t, os⟩ := s
  have L0 := I.type (M := model prog w)
  have L1 : Looks (model prog w) hh' (isInstance (.ref x) (.type "staticmethod")) false := L0.andThen (looks_mroIn X h1)
  have L2 : Looks (model prog w) hh' (isInstance (.ref x) (.type "classmethod")) false := L0.andThen (looks_mroIn X h2)
  have hx := I.at_
  have hd : hh'.get? dx = some (dictS es n #[none]) := I.dict
  obtain ⟨cd, hcd, hhd⟩ := any_some hh
  have L3 := looks_clsIn (M := model prog w) X hcd
  unfold Builtin.«function.__dict__»
  refine wpAny_bind (wpAny_bind (L1.at (L2.at ?_)))
  simp only [Bool.false_eq_true, if_false]
  refine wpAny_bind ?_
  unfold instanceDictHandedOut instanceDict
  refine wpAny_bind (wpAny_bind (wpAny_loadPart hx ?_))
  dsimp only
  refine wpAny_bind (L3.at ?_)
  rw [hhd]
  simp only [Bool.not_true, Bool.false_eq_true, if_false]
  refine wpAny_pure ?_
  dsimp only
  refine wpAny_bind (wpAny_loadPart hx ?_)
  dsimp only
  refine wpAny_bind ?_
  k_delta "dictMadeRealInsideACollection"
  refine wpAny_bind (wpAny_load hd ?_)
  dsimp only
  rw [if_pos (by rfl)]
  refine wpAny_pure ?_
  dsimp only
  refine wpAny_bind (wpAny_update hd ?_)
  exact wpAny_pure (wpAny_pure h)

theorem get_dictS {Q : Value → Shared → Prop} (F : Fr h₀ L s.heap m) (X₀ : K.In h₀) (N : News h₀ L s.heap news) (I : InstAt s.heap x ⟨.ref C, some dx, .plain, sl⟩ C (some (dictS es n #[none])))
    (hg : plainGet K C "__dict__" = true) (hh : hasDictIn K C = true) (ha : findIn K (.ref C) "__dict__" = some (some (.ref p)))
    (hn : specialIn K (.ref p) "__get__" = some (some (.builtin "getset_descriptor.__get__"))) (htk : takesIn K (.ref p) = some true)
    (hp : recIn K p "getset_descriptor" = some [.str dn dt, .ref C, .builtin "function.__dict__", gs]) (hm : mroIn K C (.ref C) = some true)
    (h1 : mroIn K C (.type "staticmethod") = some false) (h2 : mroIn K C (.type "classmethod") = some false)
    (U : Upd dx (dictS es n #[none]) (dictS es n #[none]) news news)
    (h : ∀ h', Fr h₀ L h' m → News h₀ L h' news → Q (.ref dx) { s with heap := h', toks := s.toks + 1 }) :
    wpAny (model prog w) A (getAttr (.ref x) "__dict__" expr) Q E s := by
  have X := X₀.keeps F.keep
  obtain ⟨pre, post, e1, e2, ua, ub⟩ := U.split
  rw [e1] at N
  obtain ⟨F', N'⟩ := news_upd (f := fun o => if o.slots.isEmpty then { o with slots := #[none] } else o) F N ua ub (o' := dictS es n #[none]) rfl rfl
  rw [← e1] at N'
  refine get_bind X I (plainGet_of hg).1 (findObj_data (by obtain ⟨cd, hc, _⟩ := any_some hh; rw [hc]; rfl) ha hn htk) (plainGet_of hg).2 ?_
  obtain ⟨d, sl', ho⟩ := rec_of X hp
  obtain ⟨hh', g, dr, t, os⟩ := s
  have L0 := I.type (M := model prog w)
  have L1 := looks_mroIn (M := model prog w) X hm
  dsimp only at ho L0 L1
  have f0 := looks_field (M := model prog w) ho 0 (v := .str dn dt) rfl
  have f1 := looks_field (M := model prog w) ho 1 (v := .ref C) rfl
  have f2 := looks_field (M := model prog w) ho 2 (v := .builtin "function.__dict__") rfl
  refine wpAny_call (codeAny_call_builtin KF.slot_gs.plain KF.entry_gs (KF.slot_gs.check _ _ _ _ _ _ _ _ ⟨_, ho, rfl⟩ (KF.args_gs _ _ _) ?_))
  unfold Builtin.«getset_descriptor.__get__» descrGet
  rw [dga_obj]
  refine wpAny_bind (wpAny_pure ?_)
  unfold descrGetter descrCheckInstance descrNameAndClass isInstance
  repeat lk
  show (Code.builtin "function.__dict__" ⟨[.ref x], []⟩).quiet = true ∧ codeAny _ _ (.builtin "function.__dict__" ⟨[.ref x], []⟩) _ _
  refine ⟨Code.quiet_builtin _ (by decide +kernel), codeAny_builtin DF.entry_dict ?_⟩
  refine dict_treeS (s := ⟨hh', g, dr, t + 1, os⟩) X I h1 h2 hh ?_
  dsimp only
  rw [handedOut_of (v := .ref dx) rfl]
  exact wpAny_pure (h _ F' N')
end
end Mine
end

section
open PySem PySem.W PySem.Calls PyProof.Rows
namespace Mine
theorem putName_dictS (name : Str) (hsh : Int) (key v : Value) (es : List DictEntry) (n : Nat) (sl : Array (Option Value)) : Obj.putName name hsh key v (dictS es n sl) = dictS (putL name hsh key v es) (putN name es n) sl := by
  rw [Obj.putName_eq]
  unfold Obj.putNameByArray dictS putN
  have h1 := putL_find name hsh key v es
  have h2 := any_of_findIdx name es
  simp only [List.findIdx?_toArray]
  cases h : List.findIdx? (fun x => x.key.isStr name) es with
  | none => rw [h] at h1 h2; rw [← h2, ← h1]; simp
  | some i => rw [h] at h1 h2; rw [← h2, ← h1]; simp
theorem lookIn_dictS (name : Str) (es : List DictEntry) (n : Nat) (sl : Array (Option Value)) : lookIn name (dictS es n sl) = getL name es := rfl

section
variable {prog : Program} {w : World} {A : Around} {E : Value → Shared → Prop} {s : Shared} {K : Frag} {x C L dx : Addr} {h₀ : Heap} {m : Str → Option Value} {ox : Obj} {es es' : List DictEntry} {n n' : Nat} {sl : Array (Option Value)} {name : Str} {v : Value} {expr : Bool} {a g : Value} {news news' : List (Addr × Obj)}
theorem get_ownS {Q : Value → Shared → Prop} {attr : Option Value} (F : Fr h₀ L s.heap m) (X₀ : K.In h₀) (I : InstAt s.heap x ox C (some (dictS es n sl))) (hg : plainGet K C name = true) (hh : hasDictIn K C = true)
    (ha : findIn K (.ref C) name = some attr) (hn : noGet K attr = true) (hl : getL name es = some (some v)) (hv : handedIn v = true) (h : Q v { s with toks := s.toks + 1 }) :
    wpAny (model prog w) A (getAttr (.ref x) name expr) Q E s :=
  get_value (X₀.keeps F.keep) I (plainGet_of hg).1 (findObj_own hh ha hn hl) hv h
theorem get_shadowS {Q : Value → Shared → Prop} (F : Fr h₀ L s.heap m) (X₀ : K.In h₀) (I : InstAt s.heap x ox C (some (dictS es n sl))) (hg : plainGet K C name = true) (hh : hasDictIn K C = true)
    (ha : findIn K (.ref C) name = some (some a)) (hn : specialIn K a "__get__" = some (some g)) (ht : takesIn K a = some false) (hl : getL name es = some (some v)) (hv : handedIn v = true) (h : Q v { s with toks := s.toks + 1 }) :
    wpAny (model prog w) A (getAttr (.ref x) name expr) Q E s :=
  get_value (X₀.keeps F.keep) I (plainGet_of hg).1 (findObj_shadow hh ha hn ht hl) hv h
theorem get_lateS {Q : Value → Shared → Prop} (F : Fr h₀ L s.heap m) (X₀ : K.In h₀) (I : InstAt s.heap x ox C (some (dictS es n sl))) (hg : plainGet K C name = true) (hh : hasDictIn K C = true)
    (ha : findIn K (.ref C) name = some (some a)) (hn : specialIn K a "__get__" = some (some g)) (ht : takesIn K a = some false) (hc : copiedNames.contains name = false) (hl : getL name es = some none)
    (h : wpAny (model prog w) A.in1 (call g [a, .ref x, .ref C]) (fun v s' => wpAny (model prog w) A (handedOut v) Q E s') (fun e s' => wpAny (model prog w) A (noteIf true (.ref x) (.str name s.toks) e) (fun _ s'' => E e s'') E s') { s with toks := s.toks + 1 }) :
    wpAny (model prog w) A (getAttr (.ref x) name expr) Q E s :=
  get_bind (X₀.keeps F.keep) I (plainGet_of hg).1 (findObj_late hh ha hn ht hc hl) (plainGet_of hg).2 h
theorem method_instS {pl : Sem Bool} {Q : Value × List Value → Shared → Prop} {f : Addr} (F : Fr h₀ L s.heap m) (X₀ : K.In h₀) (I : InstAt s.heap x ox C (some (dictS es n sl))) (hg : plainGet K C name = true)
    (hf : findIn K (.ref C) name = some (some (.ref f))) (ht : isFn K (.ref f) = true) (hl : getL name es = some none) (h : Q (.ref f, [.ref x]) s) : wpAny (model prog w) A (getMethod (.ref x) name pl) Q E s :=
  method_fn (X₀.keeps F.keep) I (plainGet_of hg).1 (plainGet_of hg).2 hf (beq_iff_eq.mp ht) (by show (lookIn name (dictS es n sl)).map _ = _; rw [lookIn_dictS, hl]; rfl) h
theorem set_dictS {Q : Unit → Shared → Prop} (F : Fr h₀ L s.heap m) (X₀ : K.In h₀) (N : News h₀ L s.heap news) (I : InstAt s.heap x ox C (some (dictS es n sl))) (hd : ox.dict = some dx)
    (hs : findIn K (.ref C) "__setattr__" = some (some (.builtin "object.__setattr__"))) (hp : plainOver K C = true) (ht : takerIn K C name = some none) (hh : hasDictIn K C = true) (hl : (getL name es).isSome = true)
    (e : (putL name (PyData.keyHash w.params name) (.str name (s.toks + 1)) v es, putN name es n) = (es', n')) (U : Upd dx (dictS es n sl) (dictS es' n' sl) news news') (hz : es'.length ≤ 1000)
    (h : ∀ h', Fr h₀ L h' m → News h₀ L h' news' → Q () { s with heap := h', toks := s.toks + 2 }) :
    wpAny (model prog w) A (setAttr (.ref x) name v) Q E s := by
  obtain ⟨pre, post, rfl, rfl, a, b⟩ := U.split
  obtain ⟨e1, e2⟩ := Prod.mk.inj e
  exact set_plain (X₀.keeps F.keep) I hs (osa_dict (s := { s with toks := s.toks + 1 }) F N (X₀.keeps F.keep) I hd hp ht hh hl a b (by rw [putName_dictS, e1, e2]) rfl hz fun h' F' N' => h h' F' N')
end

section
variable {prog : Program} {w : World} {A : Around} {E : Value → Shared → Prop} {s : Shared} {d L : Addr} {h₀ : Heap} {m : Str → Option Value} {es es' : List DictEntry} {n : Nat} {sl : Array (Option Value)} {x : Str} {t : Tok} {v dflt : Value} {news news' : List (Addr × Obj)}

theorem typeIsS (ho : s.heap.get? d = some (dictS es n sl)) : s.TypeIs (.ref d) "dict" := ⟨_, ho, rfl⟩
theorem method_getS {pl : Sem Bool} {Q : Value × List Value → Shared → Prop} (N : News h₀ L s.heap news) (hm : (d, dictS es n sl) ∈ news) (h : Q (.builtin "dict.get", [.ref d]) s) :
    wpAny (model prog w) A (getMethod (.ref d) "get" pl) Q E s :=
  getMethod_builtin (typeIsS (N _ hm).1) PySem.F.plainAttrs_dict PySem.F.slot_dict_get PySem.F.type_dict_get (fun b e => by injection e with e; subst e; exact ⟨_, (N _ hm).1, rfl⟩) h

theorem keysOf_lit (hk : KeysLit w.params es) : KeysOf (PySem.strKind prog w) es.toArray := fun e he => by
  obtain ⟨x, t, e1, e2⟩ := hk.all e (by simpa using he)
  exact ⟨x, by rw [e1]; exact strKind_is prog w x t, e2⟩

theorem dictGet_missS {Q : Option Value → Shared → Prop} (ho : s.heap.get? d = some (dictS es n sl)) (hk : KeysLit w.params es) (hf : getL x es = some none)
    (h : Q none { s with toks := s.toks + 1 }) : wpAny (model prog w) A (dictGet d (.str x t)) Q E s := by
  have hkey := strKind_is prog w x t
  have hno : (es.toArray.findIdx? fun e => (PySem.strKind prog w).is x e.key) = none := by
    have q : (fun e : DictEntry => (PySem.strKind prog w).is x e.key) = fun e => e.key.isStr x := funext fun e => (isStr_of x e.key).symm
    rw [q]
    unfold getL at hf
    split at hf
    · cases hf
    · rename_i hnone
      rw [List.findIdx?_toArray]
      rw [List.findIdx?_eq_none_iff]
      intro e he
      have := List.find?_eq_none.mp hnone e he
      simpa using this
  unfold dictGet
  try with_reducible refine wpAny_holding ?_
  refine wpAny_bind ((PySem.strKind prog w).pyHash hkey (wpAny_bind (wpAny_dictFind_of (s := { s with toks := s.toks + 1 }) hkey ho rfl (keysOf_lit hk) ?_)))
  rw [hno]
  exact wpAny_pure h
theorem call_get_missS {Q : Value → Shared → Prop} (N : News h₀ L s.heap news) (hm : (d, dictS es n sl) ∈ news) (lo : (d == sysModules) = false) (hk : KeysLit w.params es) (hf : getL x es = some none)
    (h : Q dflt { s with toks := s.toks + 1 }) : wpAny (model prog w) A (call (.builtin "dict.get") [.ref d, .str x t, dflt]) Q E s := by
  refine wpAny_call_entry PySem.F.slot_dict_get (typeIsS (N _ hm).1) PySem.F.entry_dict_get ?_ (PySem.F.args_dict_get_3 _ _ _)
  show wpAny _ _ (dictGet d (.str x t) >>= _) _ _ s
  refine wpAny_bind (dictGet_missS (N _ hm).1 hk hf ?_)
  show wpAny _ _ (Builtin.Dict.missed d (.str x t) >>= _) _ _ _
  exact wpAny_bind (wpAny_missed_other lo (wpAny_pure ⟨dflt, rfl, h⟩))

theorem setItem_newS {Q : Unit → Shared → Prop} (F : Fr h₀ L s.heap m) (N : News h₀ L s.heap news) (U : Upd d (dictS es n sl) (dictS (es ++ [⟨PyData.keyHash w.params x, .str x t, v⟩]) (n + 1) sl) news news') (hk : KeysLit w.params es) (hf : getL x es = some none) (hz : es.length ≤ 1000)
    (h : ∀ h', Fr h₀ L h' m → News h₀ L h' news' → Q () { s with heap := h', toks := s.toks + 1 }) : wpAny (model prog w) A (setItem (.ref d) (.str x t) v) Q E s := by
  obtain ⟨pre, post, rfl, rfl, a, b⟩ := U.split
  have ho := (N (d, dictS es n sl) (by simp)).1
  have hkey := strKind_is prog w x t
  have hno : (es.toArray.findIdx? fun e => (PySem.strKind prog w).is x e.key) = none := by
    have q : (fun e : DictEntry => (PySem.strKind prog w).is x e.key) = fun e => e.key.isStr x := funext fun e => (isStr_of x e.key).symm
    rw [q]
    unfold getL at hf
    split at hf
    · cases hf
    · rename_i hnone
      rw [List.findIdx?_toArray]
      rw [List.findIdx?_eq_none_iff]
      intro e he
      have := List.find?_eq_none.mp hnone e he
      simpa using this
  have T := typeIsS ho
  obtain ⟨F', N'⟩ := news_upd (f := Obj.mapDictKeys fun es => es.push ⟨PyData.keyHash w.params x, .str x t, v⟩) F N a b (o' := dictS (es ++ [⟨PyData.keyHash w.params x, .str x t, v⟩]) (n + 1) sl) (by
    show Obj.mk _ _ _ _ = Obj.mk _ _ _ _
    simp) rfl
  unfold setItem
  try with_reducible refine wpAny_holding ?_
  refine wpAny_bind (wpAny_sequenceKey T (by decide) ?_)
  refine wpAny_bind (wpAny_callSpecial?_slot (name := Str.ofString "__setitem__") T PySem.slot_dict_setitem
    (wpAny_call_entry PySem.slot_dict_setitem T PySem.entry_dict_setitem ?_ (PySem.args_dict_setitem _ _ _)))
  show wpAny _ _ (Builtin.Dict.notOrdered "__setitem__" ⟨[.ref d, .str x t, v], []⟩ >>= _) _ _ s
  refine wpAny_bind (wpAny_notOrdered_dict T ?_)
  show wpAny _ _ (dictSet d (.str x t) v >>= _) _ _ s
  refine wpAny_bind ?_
  unfold dictSet
  try with_reducible refine wpAny_holding ?_
  refine wpAny_bind ((PySem.strKind prog w).pyHash hkey ?_)
  unfold dictSetHashed
  try with_reducible refine wpAny_holding ?_
  refine wpAny_bind (wpAny_dictFind_of (s := { s with toks := s.toks + 1 }) hkey ho rfl (keysOf_lit hk) ?_)
  rw [hno]
  refine wpAny_bind (wpAny_rule (wpAny_updateDictKeys (s := { s with toks := s.toks + 1 }) ho rfl ?_ (by rw [sizeLine_eq]; simp; omega)))
  exact wpAny_pure ⟨.none, rfl, wpAny_pure (h _ F' N')⟩
end
end Mine
end

section
open PySem PySem.W PySem.Calls PyProof.Rows
namespace Mine

/-- what a generator's body runs under -/
abbrev genA (A : Around) (body : List Stmt) (env : Env) : Around := (A.in1.in1.in1).over (.func body env) []

structure GenLeft (s : Shared) (g : Nat) (L' : Addr) (s' : Shared) : Prop where
  heap : ∀ b o, b ≠ L' → s.heap.get? b = some o → s'.heap.get? b = some o
  gens : AllBare s.gens → AllBare s'.gens
  drawn : s'.drawn = s.drawn
  os : s'.os = s.os

section
variable {prog : Program} {w : World} {A : Around} {E : Value → Shared → Prop} {s : Shared} {a L' : Addr} {g : Nat} {body : List Stmt} {env : Env} {Q : Value → Shared → Prop}

theorem bare_set {a : Array GenState} (h : AllBare a) (g : Nat) (x : GenState) (hx : x.bare = true) : AllBare (a.setIfInBounds g x) := by
  intro y hy
  rcases Array.mem_or_eq_of_mem_setIfInBounds hy with h1 | h1
  · exact h y h1
  · exact h1 ▸ hx
theorem setGen_twice (s : Shared) (g : Nat) (x y : GenState) : ((s.setGen g x).setGen g y) = s.setGen g y := by
  obtain ⟨h, gs, d, t, o⟩ := s
  simp only [Shared.setGen, Array.setIfInBounds_setIfInBounds]

theorem list_gen_empty (hh : A.handled = none) (hroom : A.depth < recursionLimit) (hl : s.heap.NoLimit) (hg : s.heap.IsGen a g) (hgs : s.gens[g]? = some (.fresh (.func body env))) (haL : a ≠ L') (hL : L' < s.heap.objs.size)
    (run : ∀ s₁ : Shared, (∀ b o, s.heap.get? b = some o → s₁.heap.get? b = some o) → wpAny (model prog w) (genA A body env) (execs body env)
      (fun f s₂ => (match f with | .ret v => v | _ => .none) = Value.none ∧ ∃ h' tk, s₂ = { s₁ with heap := h', toks := tk } ∧ ∀ b o, b ≠ L' → s₁.heap.get? b = some o → h'.get? b = some o) (fun _ _ => False) s₁)
    (hQ : ∀ s' n, GenLeft s g L' s' → s'.heap.get? s.heap.objs.size = some { cls := .type "list", data := .seq #[] n } → Q (.ref s.heap.objs.size) s') :
    wpAny (model prog w) A (call (.type "list") [.ref a]) Q E s := by
  obtain ⟨oa, nma, qna, hoa, ra⟩ := hg
  have hlt : a < s.heap.objs.size := Heap.lt_size hoa
  refine call_list_gen (prog := prog) (w := w) (I := a) (fp := List.range s.heap.objs.size) (wr := [L']) (G := fun x y => AllBare x → AllBare y) (n := 0) (P := fun _ _ => True)
    (St := fun i s₁ => i = 0 ∧ (∀ b o, s.heap.get? b = some o → s₁.heap.get? b = some o) ∧ s₁.gens[g]? = some (.fresh (.func body env))) ?W (fun i s₁ st => ⟨oa, st.2.1 _ _ hoa, ra.1⟩) ⟨rfl, fun _ _ e => e, hgs⟩ (fun b hb => List.mem_range.mp hb) (List.mem_range.mpr hlt) ?_ (Nat.zero_le _)
  · refine ⟨fun b hb => by rw [List.mem_singleton.mp hb]; exact List.mem_range.mpr hL, fun _ h => h, fun _ _ _ x y h => y (x h), ?_, fun i _ _ _ hi => absurd hi (Nat.not_lt_zero _), ?_, ?_⟩
    · rintro i s₁ h' tk ⟨h0, hk, hg'⟩ _ hk'
      exact ⟨h0, fun b o e => hk' b (List.mem_range.mpr (Heap.lt_size e)) o (hk b o e), hg'⟩
    · rintro s₁ Q' E' ⟨_, hk, hg'⟩ hQ'
      refine wpAny_with_toks (Nat.le_refl s₁.toks) ?_
      refine wpAny_pyNext_gen (n := 0) (Y := fun _ _ _ _ _ => False) (P := fun _ s₀ s₂ => ∃ h' tk, s₂ = { s₀ with heap := h', toks := tk } ∧ ∀ b o, b ≠ L' → s₀.heap.get? b = some o → h'.get? b = some o) (A := A.in1.in1) hh (hl.keeps hk) hroom ⟨oa, nma, qna, hk _ _ hoa, ra⟩ hg' ⟨rfl, ?_⟩ (fun v s₂ gs' hf => hf.elim) ?_
      · refine seg_func (seg_wrap (wpAny_mono (run (s₁.setGen g .running) hk) (fun f s₂ hs₂ => ?_) fun _ _ x => x.elim))
        obtain ⟨hv, hs⟩ := hs₂
        exact seg_end (.ok (.ret _)) ⟨congrArg (fun v => Except.ok (Flow.ret v)) hv, hs⟩
      · rintro s₂ ⟨h', tk, rfl, hk2⟩ h'' hk3 htk
        refine hQ' _ ⟨fun b o hb e => hk3 b o (hk2 b o (fun e' => hb (List.mem_singleton.mpr e')) e), fun hb => ?_, rfl, rfl, htk⟩
        exact bare_set (bare_set hb g .running rfl) g .finished rfl
    · intro i s₁ Q' E' st hq
      exact wpAny_pyIter_gen ⟨oa, nma, qna, st.2.1 _ _ hoa, ra⟩ hq
  · rintro s' acc' c' hm hS' hacc
    obtain ⟨l⟩ := acc'
    have : l = [] := List.eq_nil_of_length_eq_zero hacc.1
    subst this
    refine hQ s' c' ⟨fun b o hb e => hm.heap b o (fun h1 => ?_) (Heap.get?_push_of_some _ e), hm.gens, hm.drawn, hm.os⟩ hS'
    rcases List.mem_cons.mp h1 with rfl | h1
    · exact absurd (Heap.lt_size e) (Nat.lt_irrefl _)
    · exact hb (List.mem_singleton.mp h1)
end
end Mine
end

section
open PySem PySem.W PySem.Calls PyProof.Rows
namespace Mine

/-- a generator just made: where it stands, and what its frame is -/
structure GenMade (s : Shared) (h' : Heap) (gens' : Array GenState) (a L' : Addr) (body : List Stmt) (env : Env) (binds : List (Str × Value)) : Prop where
  at_ : L' = s.heap.objs.size
  a_ : a = s.heap.objs.size + 1
  size : h'.objs.size = s.heap.objs.size + 2
  ns : h'.Ns L' (fun y => binds.reverse.lookup y)
  isGen : h'.IsGen a s.gens.size
  gens : gens' = s.gens.push (.fresh (.func body env))
  keep : ∀ b o, s.heap.get? b = some o → h'.get? b = some o

section
variable {prog : Program} {w : World} {A : Around} {E : Value → Shared → Prop} {s : Shared} {K : Frag} {h₀ : Heap} {L f : Addr} {m mg mb : Str → Option Value} {news : List (Addr × Obj)} {p : Program} {loose : List Str} {mean : ExcName → Option Value}
    {name qual : Str} {params : Arguments} {body : List Stmt} {scope : Scope} {dV kV doc pm cdv ct oc : Value} {an od : Option Addr} {osl : Array (Option Value)} {args : Args} {binds : List (Str × Value)} {Q : Value → Shared → Prop}

theorem gen_make (F : Fr h₀ L s.heap m) (X₀ : K.In h₀) (N : News h₀ L s.heap news) (T : Top p loose mean mg mb h₀)
    (ho : K.lookup f = some ⟨oc, od, .func (fnOf name qual params body scope dV kV doc pm an cdv ct), osl⟩) (hcd : codeIn K cdv qual = true) (hroom : A.depth < recursionLimit)
    (hbind : BindsTo s (fnOf name qual params body scope dV kV doc pm an cdv ct) args binds) (hloc : ∀ y ∈ binds, scope.names.lookup y.1 = some .local)
    (h : ∀ a h' tk gens', Fr h₀ L h' m → News h₀ L h' news → GenMade s h' gens' a s.heap.objs.size body (envOf qual scope s.heap.objs.size f cdv) binds → Q (.ref a) { s with heap := h', gens := gens', toks := tk })
    (hco : scope.isCoroutine = false) (hgen : scope.isGenerator = true) (hk : scope.kind = .function)
    (hcell : ∀ x ∈ scope.names, x.2 ≠ .cell) : wpAny (model prog w) A (call (.ref f) args.pos args.kw) Q E s := by
  refine wpAny_call ?_
  refine codeAny_call_generator (fd := fnOf name qual params body scope dV kV doc pm an cdv ct) (body := body) hroom ((X₀.keeps F.keep) _ _ ho) rfl hco hgen rfl (codeRec_of (X₀.keeps F.keep) hcd) (hbind _ _ _ _ ?_)
  refine wpAny_newFunctionEnv hcell hloc (fun h₁ hns₁ hsb₁ => ⟨(T.nolimit.keeps F.keep).fresh _ hsb₁, ?_⟩) hk
  have hk₁ : ∀ b o, s.heap.get? b = some o → h₁.get? b = some o := fun b o e => hsb₁.extBut b o (Nat.ne_of_lt (Heap.lt_size e)) (Heap.get?_push_of_some _ e)
  have hsz : h₁.objs.size = s.heap.objs.size + 1 := by rw [hsb₁.1, Heap.size_push]
  have e1 : (⟨h₁, s.gens, s.drawn, s.toks + binds.length, s.os⟩ : Shared).heap.objs.size = s.heap.objs.size + 1 := hsz
  refine h _ _ _ _ (F.keeps fun b o e => Heap.get?_push_of_some _ (hk₁ b o e)) (fun p hp => ⟨Heap.get?_push_of_some _ (hk₁ _ _ (N p hp).1), (N p hp).2⟩) ⟨rfl, ?_, ?_, hns₁.push _, ?_, rfl, fun b o e => Heap.get?_push_of_some _ (hk₁ b o e)⟩
  · exact e1
  · rw [Heap.size_push]; show h₁.objs.size + 1 = _; rw [hsz]
  · exact ⟨_, _, _, Heap.get?_push_size _ rfl, rfl, rfl, rfl⟩
end

/-- a frame and a ledger for a generator's body: all that stands, but the frame -/
theorem gen_frame {s₀ : Heap} {L' : Addr} {m : Str → Option Value} (hid : List Addr) {h₁ : Heap} (hL : L' = s₀.objs.size) (hns : h₁.Ns L' m) (hk : ∀ b o, s₀.get? b = some o → h₁.get? b = some o) :
    ∃ R, Fr (hideAll s₀ hid) L' h₁ m ∧ News (hideAll s₀ hid) L' h₁ R ∧ (∀ b o, b ≠ L' → (hideAll s₀ hid).get? b = none → h₁.get? b = some o → (b, o) ∈ R) := by
  refine ⟨PyProof.Rows.ownOf (hideAll s₀ hid) ((List.range h₁.objs.size).filter (· ≠ L')) h₁, ⟨hns, fun b o e => hk b o (of_hideAll _ e), by rw [hideAll_size, hL]; exact Nat.le_refl _⟩, news_ownOf (by simp), fun b o hb hn e => mem_ownOf (by simp [hb]; exact Heap.lt_size e) hn e⟩
end Mine
end

section
open PySem PySem.W PySem.Calls PyProof.Rows
namespace Mine

section
variable {prog : Program} {w : World} {Γ : Ctx} {A : Around} {s : Shared} {env : Env} {R : Result → Shared → Prop}

theorem at_runOwn {M : Model} {c : Code} {Q : Flow → Shared → Prop}
    (hc : ∀ p, codeAt M (Γ.enter c none p) (fun r s' => match r with | .ok f => Q f s' | .error _ => False) s) :
    wpAt M Γ (runOwn c env none) Q s := by
  unfold runOwn
  exact at_onRaise (at_run fun p => codeAt_mono (hc p) fun r s' h => by cases r <;> exact h)

theorem codeAt_loopG {M : Model} (hq : Γ.code.quiet = true) (I : Nat → Shared → Prop)
    (turn : ∀ n s, I n s → wpAt M Γ (M.den Γ.code)
      (fun fin s' => match fin with | .done f => R (.ok f) s' | .again c' => (c' = Γ.code ∧ ∃ m, m < n ∧ I m s') ∨ (c'.quiet = true ∧ codeAt M (Γ.goto c') R s')) s)
    (n : Nat) (h : I n s) : codeAt M Γ R s := by
  induction n using Nat.strongRecOn generalizing s with
  | ind n ih =>
    refine codeAt_tree (at_mono (turn n s h) fun fin s' hf => ?_)
    cases fin with
    | done f => exact hf
    | again c' =>
      rcases hf with ⟨rfl, m, hm, hI⟩ | h2
      · exact ⟨hq, ih m hm hI⟩
      · exact h2

theorem codeAt_block {stmts : List Stmt} (hc : Γ.code = .block stmts env)
    (h : wpAt (model prog w) Γ (execs stmts env) (fun f s' => R (.ok f) s') s) : codeAt (model prog w) Γ R s := by
  refine codeAt_tree ?_
  rw [hc]
  show wpAt _ _ (do return Fin.done (← (execs stmts env).onRaise (fun x => do noteFrame x env; theTreesLotGoes x))) _ s
  exact at_bind (at_onRaise (at_mono h fun f s' h' => at_pure h'))

theorem at_execs_nil {Q : Flow → Shared → Prop} (h : Q .next s) : wpAt (model prog w) Γ (execs [] env) Q s := by
  have : execs [] env = pure .next := rfl
  rw [this]; exact at_pure h

/-- a for-loop behind its iterable -/
def AtLoop (M : Model) (Γ : Ctx) (env : Env) (target : Expr) (body : List Stmt) (ip : Pos) (x : Value) (Q : Flow → Shared → Prop) (s : Shared) : Prop :=
  wpAt M Γ (do standAt ip; runOwn (.forLoop target (← holding [x] (pyIter x)) body [] env) env) Q s

theorem at_For {target iter body pos} {Q : Flow → Shared → Prop} (hΓ : InOK Γ A)
    (h : wpAny (model prog w) A (eval iter env) (fun x s₁ => AtLoop (model prog w) Γ env target body iter.pos x Q s₁) (fun _ _ => False) s)
    (hs : ∀ x, foldedSetIterable iter env x = pure x := by intro _; rfl) :
    wpAt (model prog w) Γ (exec (.For target iter body [] pos) env) Q s := by
  rw [exec_For]
  refine at_bind (at_standAt (at_bindA hΓ (wpAny_mono h (fun x s₁ h₁ => ?_) fun _ _ x => x)))
  rw [hs x]
  exact at_bind (at_pure h₁)

theorem codeAt_forLoop {x : Str} {px : Pos} {it : Value} {body : List Stmt} (hc : Γ.code = .forLoop (.Name x px) it body [] env) (hΓ : BelowOK Γ A) (I : Nat → Shared → Prop)
    (turn : ∀ n s, I n s → InOK Γ A → wpAny (model prog w) A (pyNext it) (fun r s₁ => match r with
      | none => R (.ok .next) s₁
      | some v => wpAny (model prog w) A (storeName env x v) (fun _ s₂ => wpAt (model prog w) Γ (execs body env) (fun f s₃ => match f with
          | .next | .cont => ∃ m, m < n ∧ I m s₃
          | .brk => R (.ok .next) s₃
          | .ret v => R (.ok (.ret v)) s₃) s₂) (fun _ _ => False) s₁) (fun _ _ => False) s)
    (n : Nat) (h : I n s) : codeAt (model prog w) Γ R s := by
  have hin : InOK Γ A := by
    have := hΓ.in (by rw [hc]; rfl)
    rw [hc] at this
    exact this
  refine codeAt_loopG (by rw [hc]; rfl) I (fun n s hI => ?_) n h
  rw [hc]
  show wpAt _ _ ((forTurn (.Name x px) it body [] env).onRaise (fun x => do noteFrame x env; theTreesLotGoes x)) _ s
  refine at_onRaise ?_
  simp only [forTurn]
  refine at_bind (at_standAt (at_bind (at_onRaise (at_any hin (wpAny_mono (turn n s hI hin) (fun r s₁ h₁ => ?_) fun _ _ h' => h')))))
  cases r with
  | none => exact at_pure (.inr ⟨rfl, codeAt_block rfl (at_execs_nil h₁)⟩)
  | some v =>
    refine at_bind (at_pure (at_bindA hin (wpAny_assign_Name (wpAny_mono h₁ (fun _ s₂ h₂ => at_bind (at_mono h₂ fun f s₃ h₃ => ?_)) fun _ _ h' => h'))))
    cases f with
    | next => exact at_pure (.inl ⟨rfl, h₃⟩)
    | cont => exact at_pure (.inl ⟨rfl, h₃⟩)
    | brk => exact at_pure h₃
    | ret v => exact at_pure h₃

def AtEnd {σ : Type} (h₀ : Heap) (L : Addr) (s : Shared) (Led : σ → List (Addr × Obj)) (ps : σ → List (Str × Value)) (x : Str) (stored : List Str) (m₀ : Str → Option Value) (P : σ → Prop) (own : Addr × Obj) (s₂ : Shared) : Prop :=
  ∃ (c' : σ) (h' : Heap) (g' : Array GenState) (tk : Nat) (m' : Str → Option Value) (news' : List (Addr × Obj)), s₂ = { s with heap := h', gens := g', toks := tk } ∧ (AllBare s.gens → AllBare g') ∧ Fr h₀ L h' m' ∧ News h₀ L h' news' ∧ own ∈ news' ∧ (∀ p ∈ Led c', p ∈ news') ∧
    (∀ p ∈ ps c', m' p.1 = some p.2) ∧ (∀ z, z ≠ x → (∀ p ∈ ps c', z ≠ p.1) → stored.contains z = false → m' z = m₀ z) ∧ P c'
def AtPost {σ : Type} (h₀ : Heap) (L : Addr) (s : Shared) (Led : σ → List (Addr × Obj)) (ps : σ → List (Str × Value)) (x : Str) (stored : List Str) (m₀ : Str → Option Value) (P : σ → Prop) (own : Addr × Obj) (Q : Flow → Shared → Prop) (f : Flow) (s₂ : Shared) : Prop :=
  match f with
  | .ret v => Q (.ret v) s₂
  | .brk => Q .next s₂
  | _ => AtEnd h₀ L s Led ps x stored m₀ P own s₂
theorem at_end {σ : Type} {h₀ : Heap} {L : Addr} {s : Shared} {Led : σ → List (Addr × Obj)} {ps : σ → List (Str × Value)} {x : Str} {stored : List Str} {m₀ m' : Str → Option Value} {P : σ → Prop} {own : Addr × Obj} {h' : Heap} {g' : Array GenState} {tk : Nat} {news' : List (Addr × Obj)} (c' : σ)
    (hg : AllBare s.gens → AllBare g') (F : Fr h₀ L h' m') (N : News h₀ L h' news') (ho : own ∈ news') (hn : ∀ p ∈ Led c', p ∈ news') (hk : ∀ p ∈ ps c', m' p.1 = some p.2) (hr : ∀ z, z ≠ x → (∀ p ∈ ps c', z ≠ p.1) → stored.contains z = false → m' z = m₀ z) (hp : P c') :
    AtEnd h₀ L s Led ps x stored m₀ P own { s with heap := h', gens := g', toks := tk } := ⟨c', h', g', tk, m', news', rfl, hg, F, N, ho, hn, hk, hr, hp⟩

theorem atLoop_list {σ : Type} {h₀ : Heap} {x : Str} {px ip : Pos} {body : List Stmt} {Q : Flow → Shared → Prop} {m₀ : Str → Option Value} {l : Addr} {items : Array Value} {ep : Nat}
    (Led : σ → List (Addr × Obj)) (ps : σ → List (Str × Value)) (stored : List Str) (P : Nat → σ → Prop) (c₀ : σ) (hΓ : InOK Γ A) (hh : A.handled = none) (hx : env.kindOf x = some .local)
    (hpk : (env.scope.kind == .class || (env.scope.kind == .module && env.locals != env.globals)) = false)
    (F : Fr h₀ env.locals s.heap m₀) (N : News h₀ env.locals s.heap (Led c₀)) (hl : ∀ c, (l, listOf items ep) ∈ Led c) (hk : ∀ p ∈ ps c₀, m₀ p.1 = some p.2) (hp : P 0 c₀)
    (step : ∀ i (c : σ) (u : Str → Option Value) h g tk I o v Γ', InOK Γ' A → items[i]? = some v → P i c → (AllBare s.gens → AllBare g) →
      (∀ p ∈ Led c, p.1 ≠ I) → o.cls = .type "list_iterator" → Fr h₀ env.locals h (fun y => if y = x then some v else kstB (fun z => if stored.contains z then u z else m₀ z) (ps c) y) → News h₀ env.locals h (Led c ++ [(I, o)]) →
      wpAt (model prog w) Γ' (execs body env) (AtPost h₀ env.locals { s with gens := g } Led ps x stored m₀ (P (i + 1)) (I, o) Q) { s with heap := h, gens := g, toks := tk })
    (done : ∀ (c : σ) (u : Str → Option Value) h g tk, P items.size c → (AllBare s.gens → AllBare g) → Fr h₀ env.locals h (fun y => if y = x then u y else kstB (fun z => if stored.contains z then u z else m₀ z) (ps c) y) → News h₀ env.locals h (Led c) → Q .next { s with heap := h, gens := g, toks := tk })
    (hcls : ∀ (c : σ), ∀ p ∈ Led c, p.2.cls ≠ .type "list_iterator") :
    AtLoop (model prog w) Γ env (.Name x px) body ip (.ref l) Q s := by
  unfold AtLoop
  have isl : ∀ {h : Heap} {c : σ} {nx : List (Addr × Obj)}, News h₀ env.locals h nx → (∀ p ∈ Led c, p ∈ nx) → h.IsList l items := fun {h c nx} N hs => ⟨_, (N _ (hs _ (hl c))).1, rfl, ep, rfl⟩
  refine at_bind (at_standAt (at_bind (at_holding (at_any hΓ (wpAny_pyIter_list (isl N fun _ h => h) ?_)))))
  refine at_runOwn fun p => ?_
  have hIL : s.heap.objs.size ≠ env.locals := fun e => by
    have := F.ns.lt
    rw [← e] at this; exact absurd this (Nat.lt_irrefl _)
  have hI0 : h₀.get? s.heap.objs.size = none := by
    cases e : h₀.get? s.heap.objs.size with
    | none => rfl
    | some o => exact absurd (Heap.lt_size (F.keep _ _ e)) (Nat.lt_irrefl _)
  refine codeAt_forLoop rfl (hΓ.enter _ p)
    (fun k s' => ∃ i c h' g' tk m' o, s' = { s with heap := h', gens := g', toks := tk } ∧ (AllBare s.gens → AllBare g') ∧ h'.IsListIter s.heap.objs.size l i ∧ h'.get? s.heap.objs.size = some o ∧ Fr h₀ env.locals h' m' ∧ News h₀ env.locals h' (Led c) ∧
      (∀ p ∈ ps c, m' p.1 = some p.2) ∧ (∀ z, z ≠ x → (∀ p ∈ ps c, z ≠ p.1) → stored.contains z = false → m' z = m₀ z) ∧ P i c ∧ i ≤ items.size ∧ k = items.size + 1 - i) ?_ (items.size + 1) ?_
  · rintro k s' ⟨i, c, h', g', tk, m', o, rfl, hg, hit, ho, F', N', hk', hr', hP, hi, rfl⟩ hΓ'
    have hocls : o.cls = .type "list_iterator" := by
      obtain ⟨o', e1, e2, _⟩ := hit
      rw [ho] at e1; cases e1; exact e2
    have hne : ∀ p ∈ Led c, p.1 ≠ s.heap.objs.size := fun p hp e => by
      have h1 := (N' _ hp).1
      rw [e, ho] at h1
      cases h1
      exact hcls c p hp hocls
    have hli : l ≠ s.heap.objs.size := hne _ (hl c)
    by_cases hlt : i < items.size
    · refine wpAny_pyNext_list_item hit (isl N' fun _ h => h) (x := items[i]) (by simp [hlt]) fun h₁ hit₁ hs₁ => ?_
      have keep₁ : ∀ b o, b ≠ s.heap.objs.size → h'.get? b = some o → h₁.get? b = some o := fun b o hb e => hs₁.extBut b o hb e
      have F₁ : Fr h₀ env.locals h₁ m' := ⟨F'.ns.at' fun o e => keep₁ _ o (Ne.symm hIL) e, fun b o e => keep₁ b o (fun q => by rw [q, hI0] at e; cases e) (F'.keep b o e), F'.above⟩
      have N₁ : News h₀ env.locals h₁ (Led c) := fun p hp => ⟨keep₁ _ _ (hne p hp) (N' p hp).1, (N' p hp).2⟩
      refine wpAny_storeName_local hx F₁.ns (fun h₂ hn₂ hs₂ => ?_) hpk
      have F₂ := F₁.set hn₂ hs₂
      have N₂ := N₁.set hs₂
      have hi₂ : h₂.IsListIter s.heap.objs.size l (i + 1) := hit₁.at fun o e => (hs₂.2 _ hIL).trans e
      obtain ⟨o₂, ho₂, hc₂, hd₂⟩ := id hi₂
      have F₃ : Fr h₀ env.locals h₂ (fun y => if y = x then some items[i] else kstB (fun z => if stored.contains z then m' z else m₀ z) (ps c) y) := by
        have em : (fun y => if y = x then some items[i] else kstB (fun z => if stored.contains z then m' z else m₀ z) (ps c) y) = fun y => if y = x then some items[i] else m' y := by
          funext y
          by_cases hy : y = x
          · simp [hy]
          · rw [if_neg hy, if_neg hy]
            refine kstB_eq hk' fun hn => ?_
            show (if stored.contains y = true then m' y else m₀ y) = m' y
            cases h3 : stored.contains y with
            | true => simp
            | false => simp only [Bool.false_eq_true, if_false]; exact (hr' y hy hn h3).symm
        rw [em]; exact F₂
      refine at_mono (step i c m' h₂ g' _ s.heap.objs.size o₂ items[i] _ hΓ' (by simp [hlt]) hP hg hne hc₂ F₃ (fun p hp => by
        rcases List.mem_append.mp hp with h1 | h1
        · exact N₂ p h1
        · rw [List.mem_singleton.mp h1]; exact ⟨ho₂, hIL, hI0⟩)) fun f s₃ h₃ => ?_
      have nx : AtEnd h₀ env.locals { s with gens := g' } Led ps x stored m₀ (P (i + 1)) (s.heap.objs.size, o₂) s₃ → ∃ m, m < items.size + 1 - i ∧ ∃ i c h' g' tk m' o, s₃ = { s with heap := h', gens := g', toks := tk } ∧ (AllBare s.gens → AllBare g') ∧ h'.IsListIter s.heap.objs.size l i ∧ h'.get? s.heap.objs.size = some o ∧ Fr h₀ env.locals h' m' ∧ News h₀ env.locals h' (Led c) ∧
          (∀ p ∈ ps c, m' p.1 = some p.2) ∧ (∀ z, z ≠ x → (∀ p ∈ ps c, z ≠ p.1) → stored.contains z = false → m' z = m₀ z) ∧ P i c ∧ i ≤ items.size ∧ m = items.size + 1 - i := by
        rintro ⟨c', h₄, g₄, tk₄, m₄, n₄, rfl, hg₄, F₄, N₄, ho₄, hn₄, hk₄, hr₄, hp₄⟩
        have e4 := (N₄ _ ho₄).1
        exact ⟨items.size + 1 - (i + 1), by omega, i + 1, c', h₄, g₄, tk₄, m₄, o₂, rfl, fun h => hg₄ (hg h), ⟨o₂, e4, hc₂, hd₂⟩, e4, F₄, fun p hp => N₄ p (hn₄ p hp), hk₄, hr₄, hp₄, hlt, rfl⟩
      cases f with
      | next => exact nx h₃
      | cont => exact nx h₃
      | brk => exact h₃
      | ret v => exact h₃
    · have hin : i = items.size := by omega
      subst hin
      refine wpAny_pyNext_list_end (by exact hh) hit (isl N' fun _ h => h) (by simp) fun h₁ hs₁ => ?_
      have keep₁ : ∀ b o, b ≠ s.heap.objs.size → h'.get? b = some o → h₁.get? b = some o := fun b o hb e => hs₁ b o hb e
      have F₁ : Fr h₀ env.locals h₁ m' := ⟨F'.ns.at' fun o e => keep₁ _ o (Ne.symm hIL) e, fun b o e => keep₁ b o (fun q => by rw [q, hI0] at e; cases e) (F'.keep b o e), F'.above⟩
      have N₁ : News h₀ env.locals h₁ (Led c) := fun p hp => ⟨keep₁ _ _ (hne p hp) (N' p hp).1, (N' p hp).2⟩
      refine done c m' h₁ g' tk hP hg ?_ N₁
      have em : (fun y => if y = x then m' y else kstB (fun z => if stored.contains z then m' z else m₀ z) (ps c) y) = m' := by
        funext y
        by_cases hy : y = x
        · simp [hy]
        · rw [if_neg hy]
          refine kstB_eq hk' fun hn => ?_
          show (if stored.contains y = true then m' y else m₀ y) = m' y
          cases h3 : stored.contains y with
          | true => simp
          | false => simp only [Bool.false_eq_true, if_false]; exact (hr' y hy hn h3).symm
      rw [em]; exact F₁
  · refine ⟨0, c₀, _, s.gens, s.toks, m₀, _, rfl, fun h => h, ⟨_, Heap.get?_push_size _ rfl, rfl, rfl⟩, Heap.get?_push_size _ rfl, F.keeps fun b o e => Heap.get?_push_of_some _ e, fun p hp => ⟨Heap.get?_push_of_some _ (N p hp).1, (N p hp).2⟩, hk, fun _ _ _ _ => rfl, hp, Nat.zero_le _, rfl⟩

theorem at_isTrue_Or {x y : Expr} {pos : Pos} {whole : Sem Value} {Q : Bool → Shared → Prop} (hΓ : InOK Γ A)
    (h : wpAt (model prog w) Γ (isTrue x env (eval x env)) (fun b s₁ => if b then Q true s₁ else wpAny (model prog w) A (isTrue y env (eval y env)) Q (fun _ _ => False) s₁) s) :
    wpAt (model prog w) Γ (isTrue (.BoolOp .Or [x, y] pos) env whole) Q s := by
  rw [arm_isTrue_BoolOp]
  show wpAt (model prog w) Γ (do match BoolOp.Or, ← isTrue x env (eval x env) with | .And, false => pure false | .Or, true => pure true | _, _ => allTrue .Or [y] env) Q s
  refine at_bind (at_mono h fun b s₁ h₁ => ?_)
  cases b with
  | true => exact at_pure h₁
  | false =>
    refine at_any hΓ (wpAny_allTrue_Or_cons (wpAny_mono h₁ (fun b s₂ h₂ => ?_) fun _ _ x => x))
    cases b with
    | true => exact h₂
    | false => exact wpAny_allTrue_Or_nil h₂

theorem at_isTrue_Compare1 {l r op pos whole} {Q : Bool → Shared → Prop} (hΓ : InOK Γ A)
    (h : wpAt (model prog w) Γ (eval l env) (fun a s₁ => wpAny (model prog w) A (eval r env) (fun b s₂ => wpAny (model prog w) A (compareOp op a b)
      (fun c s₃ => wpAny (model prog w) A (truthy c) Q (fun _ _ => False) s₃) (fun _ _ => False) s₂) (fun _ _ => False) s₁) s)
    (hm : behindInMarks op r = false := by with_unfolding_all rfl) : wpAt (model prog w) Γ (isTrue (.Compare l [op] [r] pos) env whole) Q s := by
  simp only [isTrue_Compare1, markedBehindIn_of_false hm]
  refine at_bind (at_mono h fun a s₁ h₁ => at_bindA hΓ (wpAny_holding (wpAny_mono h₁ (fun b s₂ h₂ => at_bind (at_standAt (at_bind ?_))) fun _ _ x => x)))
  exact fun p => by
    rw [Sem.wp_operate]
    exact Sem.wp_mono _ Γ _ (fun c p₃ s₃ h₃ => at_holding (at_any hΓ h₃)) (fun _ _ _ x => x) _ _ (h₂ Γ p hΓ.i)
end
end Mine
end

section
open PySem PySem.W PySem.Calls PyProof.Rows
namespace Mine
/-- the one context at which a claim's call is made -/
abbrev Γ0 : Ctx := ⟨.builtin "claim.caller" {}, none, none, [], none⟩
theorem Γ0_in : InOK Γ0 callerA := ⟨caller_in, by intro c hc; simp at hc; subst hc; rfl⟩
theorem ends_at {prog : Program} {w : World} {t : Sem Fin} {s : Shared} {R : Result → Shared → Prop} (hreg : s.asleep)
    (h : wpAt (model prog w) Γ0 t (fun fin s' => ∃ f, fin = .done f ∧ (R (.ok f) s' ∧ leftWithCleanup s'.gens = false)) s) :
    ∃ n r s' s'', runN (denote table) prog w n s ⟨t, .builtin "claim.caller" {}, default, []⟩ = .halted (outcomeOf r) s' ∧
      schedN (denote table) prog w n (.single s ⟨t, .builtin "claim.caller" {}, default, []⟩) = .halted (outcomeOf r) s' ∧ s'.forget = s''.forget ∧ R r s'' := by
  obtain ⟨n, r, s₁, s₂, hs, hn, hfo, hR⟩ := wp_halts_full (M := model prog w) (R := R) hreg
    (Sem.wp_mono _ _ _ (fun fin p s' x => by obtain ⟨f, rfl, y⟩ := x; exact y) (fun _ _ _ x => x.elim) _ _ (h default))
  exact ⟨n, r, s₂, s₁, hn, hs, hfo, hR⟩

theorem callFrom_at {c : ClaimW} {tree : List Value → Sem Fin} {w : World} {s : Shared} {free : Addr → Prop} {gens : Prop} {kept : Heap → Prop} (hz : s.asleep) (hgens : s.gens = #[])
    (hspec : ∀ args, c.pre args = true → WData.layableAll args = true →
      ∀ ord : List DictEntry → List DictEntry, (∀ l, (ord l).Perm l) →
      ∃ vs s₁, layAllW c.records (classAt s.heap) w.params ord args s = some (vs, s₁) ∧
        wpAt (model c.prog w) Γ0 (tree vs) (fun fin s' => ∃ f, fin = .done f ∧ (c.Ends s args vs s₁ (.ok f) s' ∧ s'.os = s.os ∧ AllBare s'.gens ∧ kept s'.heap)) s₁) :
    c.CallFrom (fun vs => ⟨tree vs, .builtin "claim.caller" {}, default, []⟩) w free gens kept s := by
  intro args hpre hlay ord hord
  obtain ⟨vs, s₁, hlaid, hcode⟩ := hspec args hpre hlay ord hord
  have hal := layAllW_rest _ _ _ hlaid
  obtain ⟨k, r, s', s'', hrun, hsched, hfo, hcase, hos, hkp⟩ := ends_at (prog := c.prog) (w := w) (t := tree vs) (s := s₁)
    (R := fun r s' => c.Ends s args vs s₁ r s' ∧ s'.os = s.os ∧ kept s'.heap)
    (Shared.asleep_of_life hal.2.2.2 hz)
    (at_mono hcode (by
      rintro fin s' ⟨f, e, h1, h2, h3, h4⟩
      exact ⟨f, e, ⟨h1, h2, h4⟩, leftWithCleanup_false_of_bare h3⟩))
  obtain ⟨eh, _, _, eo, _⟩ := Shared.forget_eq hfo
  have hcase := hcase.congr eh
  have hkp : kept s'.heap := by first | exact eh ▸ hkp | (rw [eh] at hkp; exact hkp) | (rw [← eh] at hkp; exact hkp)
  rw [← eo] at hos
  have hlife : s'.heap.life = s.heap.life := (runN_life _ _ _ hrun).trans hal.2.2.2
  refine ⟨vs, s₁, hlaid, k, _, s', hsched, ?_, (fun _ i x hx => by rw [hgens] at hx; simp at hx), hkp, by rw [hlife], Shared.rest_eq hos⟩
  rcases hcase with ⟨v, rfl, d1, d2, d3, d4, d5⟩ | ⟨e, ob, cls, rfl, d1, d2, d3, d4, d5⟩
  · exact .inl ⟨v, rfl, d1, d2, d3, fun b o y _ => d4 b o y, d5⟩
  · exact .inr ⟨e, ob, cls, rfl, d1, d2, d3, d4, fun b o y _ => d5 b o y⟩

theorem open_at {r : RowW} {run : Value → List Value → Sem Value} {tree : List Value → Sem Fin} {q : Program} {loose defs kps : List Str} {writes : Bool} {Xt : Shared → Bool} {XP : (Str → Option Value) → Heap → Prop} {α : Type} {Yf : Shared → α} {Ya : World → α} {YP : World → Heap → Prop} {N : Nat}
    (left : LeftO r.prog q loose Xt Yf Ya N) (hY : ∀ w s, Yf s = Ya w → YP w s.heap) (hYk : ∀ w h h', YP w h → (∀ b o, h.get? b = some o → h'.get? b = some o) → YP w h') (hX : ∀ s, Xt s = true → XP (s.heap.nsMap mainGlobals) s.heap) (hXk : ∀ mg h h', XP mg h → (∀ b o, h.get? b = some o → h'.get? b = some o) → XP mg h')
    (hRf : ∀ s, Xt s = true → RecFacts r.records s.heap) (hwr : (!writes || r.records.isEmpty) = true) (ok : (chainsOk q && opensWell r.prog && (frees r && r.within.isEmpty)) = true) (hb : r.prog.bare) (hw : r.promised)
    (ht : ∀ vs (w : World) (s : Shared) mg f (Q : Fin → Shared → Prop), s.heap.Ns mainGlobals mg → mg r.name = some f → wpAt (model r.prog w) Γ0 (run f vs) (fun v s' => Q (.done (.ret v)) s') s → wpAt (model r.prog w) Γ0 (tree vs) Q s)
    (pin : ∀ w s, s.heap.isNs mainGlobals = true → Ground q loose [] XP w s (s.heap.nsMap mainGlobals) (s.heap.nsMap builtinsNs) s.heap → ∀ n ∈ defs, isTheDefsW r.prog s.heap n)
    (call : ∀ (w : World) (s₀ s₁ : Shared) (mg mb : Str → Option Value), Ground q loose r.records XP w s₀ mg mb s₁.heap → YP w s₁.heap → ∀ (args : List WData) (vs : List Value) (as : List Addr),
      r.claim.pre args = true → WData.layableAll args = true → Laid r.records w s₀ s₁ args vs as → sysModules < s₀.heap.objs.size → ∃ f, mg r.name = some f ∧
        wpAt (model r.prog w) Γ0 (run f vs) (fun v s' => GoodWG r.claim (classAt s₀.heap) (ExcName.means s₀.heap) args s₁ (.ok (.ret v)) s') s₁) : r.claim.HoldsOpenBy (fun vs => ⟨tree vs, .builtin "claim.caller" {}, default, []⟩) defs kps writes := by
  obtain ⟨ok, k5⟩ := Bool.and_eq_true_iff.mp ok
  obtain ⟨hch, o1⟩ := Bool.and_eq_true_iff.mp ok
  obtain ⟨k5, k6⟩ := Bool.and_eq_true_iff.mp k5
  obtain ⟨hsame, hu, ha, hap, hm⟩ := frees_parts k5
  refine ⟨⟨hb, o1, by show r.makers.map _ = []; rw [hm]; rfl⟩, hw.witness, fun w => ⟨(left.behind hX hch w).1, fun s' hs' => ?_⟩⟩
  obtain ⟨s₀, hf, hg0, s, hT, hz, hgens, hg, G00, y⟩ := (left.behind (XP := fun mg h => XP mg h ∧ RecFacts r.records h) (fun s hs => ⟨hX s hs, hRf s hs⟩) hch w).2 s' hs'
  have G0 : Ground q loose [] XP w s (s.heap.nsMap mainGlobals) (s.heap.nsMap builtinsNs) s.heap := ⟨G00.T, G00.B, G00.D, G00.TE, G00.TD, G00.W, G00.X.1, G00.cls, G00.has, G00.apart, G00.once, G00.K⟩
  have RF := G00.X.2
  have hT' := hT
  refine ⟨s₀, hf, hg0, s, hT, pin w s hg G0, RF.1, RF.2.1, ?_⟩
  have hgens : s.gens = #[] := Array.eq_empty_of_size_eq_zero (beq_iff_eq.mp hgens)
  have G : Ground q loose r.records XP w s _ _ s.heap := RF.ground G0
  refine callFrom_at (c := r.claim) hz hgens fun args hpre hlay ord hord => ?_
  obtain ⟨⟨vs, s₁⟩, hlaid⟩ := Option.isSome_iff_exists.mp (layAllW_isSome (P := w.params) (ord := ord) G.has args r.args s (pre_splitW hpre).1)
  have keeps := layAllW_keeps _ _ _ hlaid
  have hal := layAllW_rest _ _ _ hlaid
  obtain ⟨as, hrd, hin, hold⟩ := reads_layAllW hord _ _ _ hlaid hlay s₁.heap (fun _ _ e => e)
  have L : Laid r.records w s s₁ args vs as := ⟨⟨ord, hord, hlaid⟩, hrd, hin, hold, keeps, hal.1.trans hgens, hal.2.2.1⟩
  have G₁ := G.keeps hXk keeps
  obtain ⟨f, hf, h⟩ := call w s s₁ _ _ G₁ (hYk _ _ _ (hY w s y) keeps) args vs as hpre hlay L G.low
  have hi := ident_freeW hu ha hap
  have hwi : r.claim.within = [] := List.isEmpty_iff.mp k6
  exact ⟨vs, s₁, hlaid, ht vs w s₁ _ f _ G₁.T.g hf (at_mono h (fun v s' g => ⟨_, rfl, have z := g.laid (c := r.claim) hsame hwi hi L; ⟨z.1, z.2.1, z.2.2, fun q => ⟨namesKept_of hT' hg kps keeps g.2.1.old, noTable hwr q⟩⟩⟩))⟩

abbrev WalkA (q : Program) (loose : List Str) (XP : (Str → Option Value) → Heap → Prop) (YP : World → Heap → Prop) (r : RowW) (d : DefRec) (kwd : List (Str × Expr)) (run : Value → List Value → Sem Value) : Prop :=
  ∀ (w : World) (s₀ s₁ : Shared) (mg mb : Str → Option Value), Ground q loose r.records XP w s₀ mg mb s₁.heap → YP w s₁.heap → ∀ (a : Addr) (o : Obj) (pm cd doc dV kV : Value), s₁.heap.get? a = some o →
    o.data = .func { docDef d.name d.params d.body d.scope pm cd doc with defaults := dV, kwdefaults := kV } → s₁.heap.CodeRec cd d.name → Dflts mg s₁.heap d.params kwd dV kV → mg d.name = some (.ref a) → s₁.gens = #[] →
    ∀ (args : List WData) (vals : List Value) (as : List Addr), r.claim.pre args = true → WData.layableAll args = true → ReadsAllW r.records (classAt s₀.heap) s₁.heap vals args as → WellAll w.params s₁.heap vals args → (∀ a ∈ as, (a == sysModules) = false) →
      wpAt (model r.prog w) Γ0 (run (.ref a) vals) (fun v s' => GoodWG r.claim (classAt s₀.heap) (ExcName.means s₀.heap) args s₁ (.ok (.ret v)) s') s₁

theorem PySem.W.holds_open {r : OpenRow} {q : Program} {loose : List Str} {Xt : Shared → Bool} {XP : (Str → Option Value) → Heap → Prop} {α : Type} {Yf : Shared → α} {Ya : World → α} {YP : World → Heap → Prop} {d : DefRec} {kwd : List (Str × Expr)} {N : Nat}
    (left : LeftO r.prog q loose Xt Yf Ya N) (hY : ∀ w s, Yf s = Ya w → YP w s.heap) (hYk : ∀ w h h', YP w h → (∀ b o, h.get? b = some o → h'.get? b = some o) → YP w h')
    (hX : ∀ s, Xt s = true → XP (s.heap.nsMap mainGlobals) s.heap) (hXk : ∀ mg h h', XP mg h → (∀ b o, h.get? b = some o → h'.get? b = some o) → XP mg h')
    (hdef : defOf q r.name = some (d, kwd)) (hp : r.prog.theDef r.name = some (d.params, d.body, d.scope)) (hk : kwWritten? d.params.kwonlyargs d.params.kw_defaults = some kwd) (hRf : ∀ s, Xt s = true → RecFacts r.records s.heap) (hwr : (!r.writes || r.records.isEmpty) = true)
    (k1 : r.wellSaid = true) (ok : (chainsOk q && opensWell r.prog && (frees r.toRowW && r.within.isEmpty)) = true) (hb : r.prog.bare) (hw : r.toRowW.promised)
    (call : WalkA q loose XP YP r.toRowW d kwd fun f vs => PySem.call f vs) : r.Holds := by
  refine ⟨k1, hw, open_at (r := r.toRowW) (run := fun f vs => PySem.call f vs) (tree := fun vs => do match ← nsGet mainNs r.name with
      | some f => do ret (← PySem.call f vs)
      | none => unsupported "claim.caller:no-such-global") left hY hYk hX hXk hRf hwr ok hb hw
    (fun vs w s mg f Q hg hf h => at_bindA Γ0_in (wpAny_nsGet hg (by rw [hf]; exact at_bind (at_mono h (fun _ _ x => at_pure x)))))
    (fun w s hg G n hn => ?_) fun w s₀ s₁ mg mb G Y args vs as hpre hlay L low => ?_⟩
  · obtain rfl : n = r.name := by split at hn <;> simp_all
    exact pinned_of_view hg G hdef hp hk
  · obtain ⟨a, o, pm, cd, doc, dV, kV, h1, h2, h3, h4, h5⟩ := G.fn hdef
    exact ⟨.ref a, h1, call w s₀ s₁ mg mb G Y a o pm cd doc dV kV h2 h3 h4 h5 (defOf_name hdef ▸ h1) L.gens args vs as hpre hlay L.reads L.well (L.low low)⟩

end Mine
end

section
open PySem PySem.W PySem.Calls PyProof.Rows
namespace Mine
section
variable {prog : Program} {w : World} {Γ : Ctx} {A : Around} {R : Result → Shared → Prop} {s : Shared} {name : Str} {params : Arguments} {body : List Stmt} {scope : Scope} {dV kV pm cd doc : Value} {a : Addr} {o : Obj}

theorem at_law_cells {args : List Value} {binds : List (Str × Value)} (hc : Γ.code = .call (.ref a) ⟨args, []⟩) (hΓ : BelowOK Γ A)
    (hroom : A.depth < recursionLimit) (ho : s.heap.get? a = some o) (hdata : o.data = .func (Calls.docDef name params body scope pm cd doc)) (hlim : s.heap.NoLimit) (hcd : s.heap.CodeRec cd name)
    (hbind : bindArgs (Calls.docDef name params body scope pm cd doc) ⟨args, []⟩ = pure binds)
    (hkind : ∀ x ∈ binds, scope.names.lookup x.1 = some .local ∨ (scope.names.lookup x.1 = some .cell ∧ ((cellsFrom (s.heap.objs.size + 1) scope.names []).lookup x.1).isSome = true))
    (hnd : ((cellsFrom 0 scope.names []).map (·.1)).Nodup)
    (h : ∀ h₁ tk cells Γ', InOK Γ' (A.deeper (envOfC name scope s.heap.objs.size a cd)) → Fr s.heap s.heap.objs.size h₁ (bindL (envOfC name scope s.heap.objs.size a cd).kindOf binds fun _ => none) → News s.heap s.heap.objs.size h₁ cells →
      CellsAre (bindC (envOfC name scope s.heap.objs.size a cd).kindOf binds fun _ => none) (cellsFrom (s.heap.objs.size + 1) scope.names []) cells →
      wpAt (model prog w) Γ' (execs body (envOfC name scope s.heap.objs.size a cd))
        (fun f s' => R (.ok (.ret (match f with | .ret v => v | _ => .none))) s') { s with heap := h₁, toks := tk })
    (hco : scope.isCoroutine = false := by rfl) (hgen : scope.isGenerator = false := by rfl) (hk : scope.kind = .function := by rfl) :
    codeAt (model prog w) Γ R s := by
  refine codeAt_call_function (fd := Calls.docDef name params body scope pm cd doc) (body := body) hc hΓ hroom ho hdata hco hgen rfl hcd ?_
  rw [hbind]
  refine wpAny_pure (wpAny_newFunctionEnv_cells hk hkind fun env he s' x => ?_)
  subst he
  refine ⟨hlim.keeps x.toInCall.keep, codeAt_func rfl ?_⟩
  obtain ⟨h₁, tk, rfl, _⟩ := x.done
  obtain ⟨cells, N, Y⟩ := Cl.news (h₀ := s.heap) (Nat.le_refl _) fun n c hm => ⟨x.cell n c (lookup_of_mem_nodup (cellsFrom_names scope.names 0 (s.heap.objs.size + 1) [] [] rfl ▸ hnd) hm), x.above n c hm⟩
  exact at_mono (h h₁ tk cells _ ((hΓ.goto _).in rfl) ⟨x.toInCall.ns, x.toInCall.keep, x.toInCall.fresh⟩ N Y) fun f s' h' => h'

theorem at_law {args : Args} {binds : List (Str × Value)} (hc : Γ.code = .call (.ref a) args) (hΓ : BelowOK Γ A)
    (hroom : A.depth < recursionLimit) (ho : s.heap.get? a = some o) (hdata : o.data = .func (Calls.docDef name params body scope pm cd doc)) (hlim : s.heap.NoLimit) (hcd : s.heap.CodeRec cd name)
    (hbind : BindsTo s (Calls.docDef name params body scope pm cd doc) args binds) (hloc : ∀ x ∈ binds, scope.names.lookup x.1 = some .local)
    (h : ∀ h₁ Γ', InOK Γ' (A.deeper (envOf name scope s.heap.objs.size a cd)) → Fr s.heap s.heap.objs.size h₁ (fun x => binds.reverse.lookup x) →
      wpAt (model prog w) Γ' (execs body (envOf name scope s.heap.objs.size a cd))
        (fun f s' => R (.ok (.ret (match f with | .ret v => v | _ => .none))) s') { s with heap := h₁, toks := s.toks + binds.length })
    (hco : scope.isCoroutine = false := by rfl) (hgen : scope.isGenerator = false := by rfl) (hk : scope.kind = .function := by rfl)
    (hcell : ∀ x ∈ scope.names, x.2 ≠ .cell := by decide) :
    codeAt (model prog w) Γ R s := by
  refine codeAt_call_function (fd := Calls.docDef name params body scope pm cd doc) (body := body) hc hΓ hroom ho hdata hco hgen rfl hcd (hbind _ _ _ _ ?_)
  refine wpAny_newFunctionEnv hcell hloc (fun h₁ hns₁ hsb₁ => ⟨hlim.fresh _ hsb₁, codeAt_func rfl ?_⟩) hk
  have hk₁ : ∀ b o, s.heap.get? b = some o → h₁.get? b = some o := fun b o e => hsb₁.extBut b o (Nat.ne_of_lt (Heap.lt_size e)) (Heap.get?_push_of_some _ e)
  exact at_mono (h h₁ _ ((hΓ.goto _).in rfl) ⟨hns₁, hk₁, Nat.le_refl _⟩) fun f s' h' => h'
end
end Mine
end

section
open PySem PySem.W PySem.Calls PyProof.Rows
namespace Mine
section
variable {prog : Program} {w : World} {A : Around} {E : Value → Shared → Prop} {s : Shared} {K : Frag} {h₀ : Heap} {L : Addr} {m : Str → Option Value} {news : List (Addr × Obj)} {Q : Value → Shared → Prop}
theorem list_ofK {l : Addr} {items : Array Value} {n : Nat} {od : Option Addr} {sl : Array (Option Value)} (F : Fr h₀ L s.heap m) (N : News h₀ L s.heap news) (X₀ : K.In h₀) (ho : K.lookup l = some ⟨.type "tuple", od, .seq items n, sl⟩) (hsz : items.size ≤ sizeLine)
    (h : ∀ D c h', Fr h₀ L h' m → News h₀ L h' ((D, listOf items c) :: news) → (∀ q ∈ news, q.1 < D) → Q (.ref D) { s with heap := h' }) :
    wpAny (model prog w) A (call (.type "list") [.ref l]) Q E s :=
  call_list_seq (hsz := hsz) l (.inr rfl) ((X₀.keeps F.keep) _ _ ho) rfl rfl fun h' c' hk hD => h _ c' h' (F.keeps hk) (news_pushed F N hk hD rfl) fun q hq => Heap.lt_size (N q hq).1
theorem ints_ofK {l : Addr} {vs : List Value} (ns : List Int) {n : Nat} {od : Option Addr} {sl : Array (Option Value)} (F : Fr h₀ L s.heap m) (N : News h₀ L s.heap news) (X₀ : K.In h₀) (ho : K.lookup l = some ⟨.type "tuple", od, .seq vs.toArray n, sl⟩) (hsz : vs.toArray.size ≤ sizeLine)
    (hm : intsMatch vs ns = true)
    (h : ∀ D c h' (vs : List Value), Fr h₀ L h' m → News h₀ L h' ((D, listOf vs.toArray c) :: news) → (∀ q ∈ news, q.1 < D) → IntsAre vs ns → Q (.ref D) { s with heap := h' }) :
    wpAny (model prog w) A (call (.type "list") [.ref l]) Q E s :=
  list_ofK F N X₀ ho hsz fun D c h' F' N' l1 => h D c h' vs F' N' l1 (intsMatch_spec hm)
theorem pow_two {t u : Tok} {k : Nat} (hk : k ≤ 1000) (h : Q (.int (2 ^ k) s.toks) { s with toks := s.toks + 1 }) : wpAny (model prog w) A (binaryOp .Pow (.int 2 t) (.int (k : Int) u)) Q E s :=
  pow_int_small (by omega) (by omega) (by decide) (by rw [Int.toNat_natCast]; exact h)
end
theorem fr_know {h₀ h : Heap} {L : Addr} {m m' : Str → Option Value} {n : Str} {v : Value} (F : Fr h₀ L h m') (hm : m' = m) (e : m n = some v) : Fr h₀ L h (fun y => if y = n then some v else m' y) ∧ (fun y => if y = n then some v else m' y) = m := by
  have : (fun y => if y = n then some v else m' y) = m := by
    subst hm
    funext y; by_cases hy : y = n
    · subst hy; simp [e]
    · simp [hy]
  exact ⟨by rw [this, ← hm]; exact F, this⟩
theorem toNat_lt_pow {x : Int} {n : Nat} (h0 : 0 ≤ x) (h1 : x < 2 ^ n) : x.toNat < 2 ^ n := by
  have h2 : ((2 ^ n : Nat) : Int) = 2 ^ n := by rw [Int.natCast_pow]; rfl
  omega
theorem ne_of_cls {h₀ h : Heap} {L a b : Addr} {led : List (Addr × Obj)} {o o' : Obj} (N : News h₀ L h led) (h1 : (a, o) ∈ led) (h2 : (b, o') ∈ led) (hc : o.cls ≠ o'.cls) : a ≠ b := fun e => by
  have e1 := (N _ h1).1
  have e2 := (N _ h2).1
  dsimp only at e1 e2
  rw [e] at e1
  rw [e1] at e2
  cases e2
  exact hc rfl
theorem news_pick {h₀ h : Heap} {L : Addr} {led : List (Addr × Obj)} (N : News h₀ L h led) (js : List Nat) : News h₀ L h (js.filterMap (led[·]?)) := fun p hp => by
  obtain ⟨j, _, e⟩ := List.mem_filterMap.mp hp
  exact N p (List.mem_of_getElem? e)
theorem flat_one {α : Type} (a : α) : ∀ n, (List.replicate n [a]).flatten = List.replicate n a
  | 0 => rfl
  | n + 1 => by simp [List.replicate_succ, flat_one a n]
theorem good_true {c : ClaimW} {cl : Str → Option Addr} {mean : ExcName → Option Value} {args : List WData} {s₁ s' : Shared} {L : Addr} {m : Str → Option Value} (F : Fr s₁.heap L s'.heap m) (hg : AllBare s'.gens)
    (hn : ∀ cls, c.raises args cls = false) (hp : c.post args (.bool true) args = true) (hos : s'.os = s₁.os) : GoodWG c cl mean args s₁ (.ok (.ret (.bool true))) s' :=
  ⟨.inl ⟨.bool true, .bool true, [], rfl, hn, readsW_of_reads (d := .bool true) (.bool true), hp, fun _ => ⟨List.nodup_nil, fun a h => by simp at h⟩⟩, .of_keep F.keep, hos, hg⟩
/-- the counter of tokens does not matter -/
theorem at_toks {P : Shared → Prop} {h : Heap} {g : Array GenState} {d : Drawn} {tk : Nat} {os} (k : ∀ tk, P ⟨h, g, d, tk, os⟩) : P ⟨h, g, d, tk, os⟩ := k tk
theorem to_nat {x : Int} (h : 0 ≤ x) : ∃ n : Nat, x = (n : Int) := ⟨x.toNat, (Int.toNat_of_nonneg h).symm⟩
end Mine
end

section
open PySem PySem.W PyProof.Rows
namespace Mine
set_option maxRecDepth 100000 in
set_option maxHeartbeats 8000000 in
open_top hd for PySem.Challenge.rw_fc5025_03
end Mine
end

section
open PySem PySem.W PySem.Calls PyProof.Rows
namespace Mine
set_option maxRecDepth 100000 in
set_option maxHeartbeats 8000000 in
def lawS : { x : Arguments × List Stmt × Scope // PySem.Challenge.rw_fc5025_03.row.prog.theDef (Str.ofString "law") = some x } := ⟨_, rfl⟩
end Mine
end

section
open PySem PySem.W PySem.Calls PyProof.Rows
namespace Mine
section
variable {prog : Program} {w : World} {Γ : Ctx} {A : Around} {s : Shared} {env : Env} {R : Result → Shared → Prop}

theorem atLoop_listP {σ : Type} {h₀ : Heap} {x : Str} {px ip : Pos} {body : List Stmt} {Q : Flow → Shared → Prop} {m₀ : Str → Option Value} {l : Addr} {items : Array Value} {ep : Nat}
    (Led : σ → List (Addr × Obj)) (ps : σ → List (Str × Value)) (stored : List Str) (P : Nat → σ → Prop) (c₀ : σ) (hΓ : InOK Γ A) (hh : A.handled = none) (hx : env.kindOf x = some .local)
    (hpk : (env.scope.kind == .class || (env.scope.kind == .module && env.locals != env.globals)) = false)
    (F : Fr h₀ env.locals s.heap m₀) (N : News h₀ env.locals s.heap (Led c₀)) (hl : ∀ c, (l, listOf items ep) ∈ Led c) (hk : ∀ p ∈ ps c₀, m₀ p.1 = some p.2) (hp : P 0 c₀)
    (step : ∀ i (c : σ) (u : Str → Option Value) h g tk I o v Γ', InOK Γ' A → items[i]? = some v → P i c → (AllBare s.gens → AllBare g) →
      (∀ p ∈ Led c, p.1 ≠ I) → o.cls = .type "list_iterator" → Fr h₀ env.locals h (fun y => if y = x then some v else kstB (fun z => if stored.contains z then u z else m₀ z) (ps c) y) → News h₀ env.locals h (Led c ++ [(I, o)]) →
      wpAt (model prog w) Γ' (execs body env) (AtPost h₀ env.locals { s with gens := g } Led ps x stored m₀ (P (i + 1)) (I, o) Q) { s with heap := h, gens := g, toks := tk })
    (done : ∀ (c : σ) (u : Str → Option Value) h g tk, P items.size c → (AllBare s.gens → AllBare g) → Fr h₀ env.locals h (fun y => if y = x then u y else kstB (fun z => if stored.contains z then u z else m₀ z) (ps c) y) → News h₀ env.locals h (Led c) → Q .next { s with heap := h, gens := g, toks := tk })
    (hcls : ∀ i (c : σ), P i c → ∀ p ∈ Led c, p.2.cls ≠ .type "list_iterator" ∨ ∀ x, p.2.data ≠ .fields x) :
    AtLoop (model prog w) Γ env (.Name x px) body ip (.ref l) Q s := by
  unfold AtLoop
  have isl : ∀ {h : Heap} {c : σ} {nx : List (Addr × Obj)}, News h₀ env.locals h nx → (∀ p ∈ Led c, p ∈ nx) → h.IsList l items := fun {h c nx} N hs => ⟨_, (N _ (hs _ (hl c))).1, rfl, ep, rfl⟩
  refine at_bind (at_standAt (at_bind (at_holding (at_any hΓ (wpAny_pyIter_list (isl N fun _ h => h) ?_)))))
  refine at_runOwn fun p => ?_
  have hIL : s.heap.objs.size ≠ env.locals := fun e => by
    have := F.ns.lt
    rw [← e] at this; exact absurd this (Nat.lt_irrefl _)
  have hI0 : h₀.get? s.heap.objs.size = none := by
    cases e : h₀.get? s.heap.objs.size with
    | none => rfl
    | some o => exact absurd (Heap.lt_size (F.keep _ _ e)) (Nat.lt_irrefl _)
  refine codeAt_forLoop rfl (hΓ.enter _ p)
    (fun k s' => ∃ i c h' g' tk m' o, s' = { s with heap := h', gens := g', toks := tk } ∧ (AllBare s.gens → AllBare g') ∧ h'.IsListIter s.heap.objs.size l i ∧ h'.get? s.heap.objs.size = some o ∧ Fr h₀ env.locals h' m' ∧ News h₀ env.locals h' (Led c) ∧
      (∀ p ∈ ps c, m' p.1 = some p.2) ∧ (∀ z, z ≠ x → (∀ p ∈ ps c, z ≠ p.1) → stored.contains z = false → m' z = m₀ z) ∧ P i c ∧ i ≤ items.size ∧ k = items.size + 1 - i) ?_ (items.size + 1) ?_
  · rintro k s' ⟨i, c, h', g', tk, m', o, rfl, hg, hit, ho, F', N', hk', hr', hP, hi, rfl⟩ hΓ'
    have hocls : o.cls = .type "list_iterator" ∧ ∃ x, o.data = .fields x := by
      obtain ⟨o', e1, e2, e3⟩ := hit
      rw [ho] at e1; cases e1; exact ⟨e2, _, e3⟩
    have hne : ∀ p ∈ Led c, p.1 ≠ s.heap.objs.size := fun p hp e => by
      have h1 := (N' _ hp).1
      rw [e, ho] at h1
      cases h1
      rcases hcls i c hP p hp with h9 | h9
      · exact h9 hocls.1
      · obtain ⟨x9, hx9⟩ := hocls.2; exact h9 x9 hx9
    have hli : l ≠ s.heap.objs.size := hne _ (hl c)
    by_cases hlt : i < items.size
    · refine wpAny_pyNext_list_item hit (isl N' fun _ h => h) (x := items[i]) (by simp [hlt]) fun h₁ hit₁ hs₁ => ?_
      have keep₁ : ∀ b o, b ≠ s.heap.objs.size → h'.get? b = some o → h₁.get? b = some o := fun b o hb e => hs₁.extBut b o hb e
      have F₁ : Fr h₀ env.locals h₁ m' := ⟨F'.ns.at' fun o e => keep₁ _ o (Ne.symm hIL) e, fun b o e => keep₁ b o (fun q => by rw [q, hI0] at e; cases e) (F'.keep b o e), F'.above⟩
      have N₁ : News h₀ env.locals h₁ (Led c) := fun p hp => ⟨keep₁ _ _ (hne p hp) (N' p hp).1, (N' p hp).2⟩
      refine wpAny_storeName_local hx F₁.ns (fun h₂ hn₂ hs₂ => ?_) hpk
      have F₂ := F₁.set hn₂ hs₂
      have N₂ := N₁.set hs₂
      have hi₂ : h₂.IsListIter s.heap.objs.size l (i + 1) := hit₁.at fun o e => (hs₂.2 _ hIL).trans e
      obtain ⟨o₂, ho₂, hc₂, hd₂⟩ := id hi₂
      have F₃ : Fr h₀ env.locals h₂ (fun y => if y = x then some items[i] else kstB (fun z => if stored.contains z then m' z else m₀ z) (ps c) y) := by
        have em : (fun y => if y = x then some items[i] else kstB (fun z => if stored.contains z then m' z else m₀ z) (ps c) y) = fun y => if y = x then some items[i] else m' y := by
          funext y
          by_cases hy : y = x
          · simp [hy]
          · rw [if_neg hy, if_neg hy]
            refine kstB_eq hk' fun hn => ?_
            show (if stored.contains y = true then m' y else m₀ y) = m' y
            cases h3 : stored.contains y with
            | true => simp
            | false => simp only [Bool.false_eq_true, if_false]; exact (hr' y hy hn h3).symm
        rw [em]; exact F₂
      refine at_mono (step i c m' h₂ g' _ s.heap.objs.size o₂ items[i] _ hΓ' (by simp [hlt]) hP hg hne hc₂ F₃ (fun p hp => by
        rcases List.mem_append.mp hp with h1 | h1
        · exact N₂ p h1
        · rw [List.mem_singleton.mp h1]; exact ⟨ho₂, hIL, hI0⟩)) fun f s₃ h₃ => ?_
      have nx : AtEnd h₀ env.locals { s with gens := g' } Led ps x stored m₀ (P (i + 1)) (s.heap.objs.size, o₂) s₃ → ∃ m, m < items.size + 1 - i ∧ ∃ i c h' g' tk m' o, s₃ = { s with heap := h', gens := g', toks := tk } ∧ (AllBare s.gens → AllBare g') ∧ h'.IsListIter s.heap.objs.size l i ∧ h'.get? s.heap.objs.size = some o ∧ Fr h₀ env.locals h' m' ∧ News h₀ env.locals h' (Led c) ∧
          (∀ p ∈ ps c, m' p.1 = some p.2) ∧ (∀ z, z ≠ x → (∀ p ∈ ps c, z ≠ p.1) → stored.contains z = false → m' z = m₀ z) ∧ P i c ∧ i ≤ items.size ∧ m = items.size + 1 - i := by
        rintro ⟨c', h₄, g₄, tk₄, m₄, n₄, rfl, hg₄, F₄, N₄, ho₄, hn₄, hk₄, hr₄, hp₄⟩
        have e4 := (N₄ _ ho₄).1
        exact ⟨items.size + 1 - (i + 1), by omega, i + 1, c', h₄, g₄, tk₄, m₄, o₂, rfl, fun h => hg₄ (hg h), ⟨o₂, e4, hc₂, hd₂⟩, e4, F₄, fun p hp => N₄ p (hn₄ p hp), hk₄, hr₄, hp₄, hlt, rfl⟩
      cases f with
      | next => exact nx h₃
      | cont => exact nx h₃
      | brk => exact h₃
      | ret v => exact h₃
    · have hin : i = items.size := by omega
      subst hin
      refine wpAny_pyNext_list_end (by exact hh) hit (isl N' fun _ h => h) (by simp) fun h₁ hs₁ => ?_
      have keep₁ : ∀ b o, b ≠ s.heap.objs.size → h'.get? b = some o → h₁.get? b = some o := fun b o hb e => hs₁ b o hb e
      have F₁ : Fr h₀ env.locals h₁ m' := ⟨F'.ns.at' fun o e => keep₁ _ o (Ne.symm hIL) e, fun b o e => keep₁ b o (fun q => by rw [q, hI0] at e; cases e) (F'.keep b o e), F'.above⟩
      have N₁ : News h₀ env.locals h₁ (Led c) := fun p hp => ⟨keep₁ _ _ (hne p hp) (N' p hp).1, (N' p hp).2⟩
      refine done c m' h₁ g' tk hP hg ?_ N₁
      have em : (fun y => if y = x then m' y else kstB (fun z => if stored.contains z then m' z else m₀ z) (ps c) y) = m' := by
        funext y
        by_cases hy : y = x
        · simp [hy]
        · rw [if_neg hy]
          refine kstB_eq hk' fun hn => ?_
          show (if stored.contains y = true then m' y else m₀ y) = m' y
          cases h3 : stored.contains y with
          | true => simp
          | false => simp only [Bool.false_eq_true, if_false]; exact (hr' y hy hn h3).symm
      rw [em]; exact F₁
  · refine ⟨0, c₀, _, s.gens, s.toks, m₀, _, rfl, fun h => h, ⟨_, Heap.get?_push_size _ rfl, rfl, rfl⟩, Heap.get?_push_size _ rfl, F.keeps fun b o e => Heap.get?_push_of_some _ e, fun p hp => ⟨Heap.get?_push_of_some _ (N p hp).1, (N p hp).2⟩, hk, fun _ _ _ _ => rfl, hp, Nat.zero_le _, rfl⟩

end
end Mine
end

section
open PySem PySem.W PySem.Calls PyProof.Rows
namespace Mine
/-- the tail's walk, not reduced -/
def ty (s : Int) : Nat → Int
  | 0 => s
  | k + 1 => ty s k * 5 + 1
theorem ty_add (s : Int) (k : Nat) : ∀ m, ty s (k + m) = 5 ^ m * ty s k + ty 0 m
  | 0 => by simp [ty]
  | m + 1 => by
    show ty s (k + m) * 5 + 1 = 5 ^ (m + 1) * ty s k + (ty 0 m * 5 + 1)
    rw [ty_add s k m, Int.pow_succ]; grind
theorem five (m : Nat) : (5 : Int) ^ m = 4 * ty 0 m + 1 := by
  induction m with
  | zero => rfl
  | succ m ih => rw [Int.pow_succ, ih]; show _ = 4 * (ty 0 m * 5 + 1) + 1; omega
theorem ty_two (n : Nat) : ∃ r : Int, ty 0 (2 ^ n) = 2 ^ n * (2 * r + 1) := by
  induction n with
  | zero => exact ⟨0, rfl⟩
  | succ n ih =>
    obtain ⟨r, hr⟩ := ih
    have e : ty 0 (2 ^ (n + 1)) = 2 * ty 0 (2 ^ n) * (2 * ty 0 (2 ^ n) + 1) := by
      have h1 : (2 : Nat) ^ (n + 1) = 2 ^ n + 2 ^ n := by rw [Nat.pow_succ]; omega
      rw [h1, ty_add, five]; grind
    refine ⟨r + 2 * ty 0 (2 ^ n) * r + ty 0 (2 ^ n), ?_⟩
    rw [e, Int.pow_succ]
    generalize ty 0 (2 ^ n) = y at *
    grind
theorem reach (s t : Int) : ∀ n : Nat, ∃ (k : Nat) (q : Int), ty s k - t = 2 ^ n * q
  | 0 => ⟨0, s - t, by simp [ty]⟩
  | n + 1 => by
    obtain ⟨k, q, h⟩ := reach s t n
    obtain ⟨r, hr⟩ := ty_two n
    rcases (by omega : q % 2 = 0 ∨ q % 2 = 1) with e | e
    · refine ⟨k, q / 2, ?_⟩
      have : q = 2 * (q / 2) := by omega
      rw [h, Int.pow_succ]
      generalize q / 2 = p at *
      subst this; grind
    · refine ⟨k + 2 ^ n, 2 * (2 * r + 1) * ty s k + q / 2 + r + 1, ?_⟩
      have hq : q = 2 * (q / 2) + 1 := by omega
      rw [ty_add, five, hr, Int.pow_succ]
      generalize q / 2 = p at *
      generalize (2 : Int) ^ n = z at *
      generalize ty s k = y at *
      subst hq
      have : y = t + z * (2 * p + 1) := by omega
      grind
theorem tl_ty {n : Nat} {s : Int} (h0 : 0 ≤ s) (h1 : s < 2 ^ n) : ∀ k, tl n s k = ty s k % 2 ^ n
  | 0 => (Int.emod_eq_of_lt h0 h1).symm
  | k + 1 => by
    show (tl n s k * 5 + 1) % 2 ^ n = (ty s k * 5 + 1) % 2 ^ n
    rw [tl_ty h0 h1 k, Int.add_emod, Int.mul_emod, Int.emod_emod, ← Int.mul_emod, ← Int.add_emod]
theorem tl_reach {n : Nat} {s t : Int} (h0 : 0 ≤ s) (h1 : s < 2 ^ n) (t0 : 0 ≤ t) (t1 : t < 2 ^ n) : ∃ k, tl n s k = t := by
  obtain ⟨k, q, h⟩ := reach s t n
  refine ⟨k, ?_⟩
  rw [tl_ty h0 h1, show ty s k = t + 2 ^ n * q by omega, Int.add_mul_emod_self_left, Int.emod_eq_of_lt t0 t1]
theorem pt_ends (h : Int) (h0 : 0 ≤ h) : ∃ k, pt h k = 0 := by
  have key : ∀ (b : Nat) (k : Nat), pt h k ≤ b → ∃ k, pt h k = 0 := by
    intro b
    induction b with
    | zero => intro k hk; exact ⟨k, by have := pt_nonneg h0 k; omega⟩
    | succ b ih =>
      intro k hk
      have h1 := pt_nonneg h0 k
      by_cases hz : pt h k = 0
      · exact ⟨k, hz⟩
      · refine ih (k + 1) ?_
        show pt h k / 32 ≤ b
        omega
  exact key h.toNat 0 (by show h ≤ _; omega)
theorem wk_reach {n : Nat} {h t : Int} (h0 : 0 ≤ h) (t0 : 0 ≤ t) (t1 : t < 2 ^ n) : ∃ k, wk n h k = t := by
  obtain ⟨k, hk⟩ := pt_ends h h0
  obtain ⟨j, hj⟩ := tl_reach (n := n) (wk_range k).1 (wk_range (h := h) k).2 t0 t1
  exact ⟨k + j, by rw [wk_tl hk]; exact hj⟩
theorem least {p : Nat → Prop} (h : ∃ k, p k) : ∃ k, p k ∧ ∀ j < k, ¬ p j := by
  obtain ⟨k, hk⟩ := h
  induction k using Nat.strongRecOn with
  | ind k ih =>
    by_cases hj : ∃ j, j < k ∧ p j
    · obtain ⟨j, h1, h2⟩ := hj; exact ih j h1 h2
    · exact ⟨k, hk, fun j h1 h2 => hj ⟨j, h1, h2⟩⟩
end Mine
end

section
open PySem PySem.W PySem.Calls PyProof.Rows
namespace Mine
local macro_rules | `(tactic| walk_at "getAttr ref") => `(tactic| (k_here; k_dflt (refine' get_lateS ?k1 ?k2 ?k3 ?k4 ?k5 ?k6 ?k7 ?k8 ?k9 ?k10 ?_; (case k1 => k_asm); (case k2 => k_asm); (case k3 => k_inst); (case k4 => k_is); (case k5 => k_is); (case k6 => k_is); (case k7 => k_is); (case k8 => k_is); (case k9 => decide +kernel); (case k10 => k_get))))
local macro_rules | `(tactic| walk_at "getAttr ref") => `(tactic| (k_here; k_dflt (first
  | refine' get_shadowS ?k1 ?k2 ?k3 ?k4 ?k5 ?k6 ?k7 ?k8 ?k9 ?k10 ?_; (case k1 => k_asm); (case k2 => k_asm); (case k3 => k_inst); (case k4 => k_is); (case k5 => k_is); (case k6 => k_is); (case k7 => k_is); (case k8 => k_is); (case k9 => k_get); (case k10 => k_handed); k_whole
  | refine' get_ownS ?k1 ?k2 ?k3 ?k4 ?k5 ?k6 ?k7 ?k8 ?k9 ?_; (case k1 => k_asm); (case k2 => k_asm); (case k3 => k_inst); (case k4 => k_is); (case k5 => k_is); (case k6 => k_is); (case k7 => k_is); (case k8 => k_get); (case k9 => k_handed); k_whole)))
local macro_rules | `(tactic| walk_at "getAttr ref") => `(tactic| (k_here; (with_reducible show wpAny _ _ (getAttr (Value.ref _) (PySem.Str.ofString "__dict__") _) _ _ _); k_dflt (refine' get_dictS ?k1 ?k2 ?k3 ?k4 ?k5 ?k6 ?k7 ?k8 ?k9 ?k10 ?k11 ?k12 ?k13 ?k14 ?_; (case k1 => k_asm); (case k2 => k_asm); (case k3 => k_asm); (case k4 => k_inst); (case k5 => k_is); (case k6 => k_is); (case k7 => k_is); (case k8 => k_is); (case k9 => k_is); (case k10 => k_is); (case k11 => k_is); (case k12 => k_is); (case k13 => k_is); (case k14 => k_upd); k_whole; intro h' F' N'; (try k_sweep))))
local macro_rules | `(tactic| walk_at "getMethod ref") => `(tactic| (k_here; k_dflt (first
  | refine' method_instS ?k1 ?k2 ?k3 ?k4 ?k5 ?k6 ?k7 ?_; (case k1 => k_asm); (case k2 => k_asm); (case k3 => k_inst); (case k4 => k_is); (case k5 => k_is); (case k6 => k_is); (case k7 => k_get); k_whole
  | refine' method_getS ?k1 ?k2 ?_; (case k1 => k_asm); (case k2 => k_mem); k_whole)))
local macro_rules | `(tactic| walk_at "setAttr ref") => `(tactic| (k_here; k_dflt (refine' set_dictS ?k1 ?k2 ?k3 ?k4 ?k5 ?k6 ?k7 ?k8 ?k9 ?k10 ?k11 ?k12 ?k13 ?_; (case k1 => k_asm); (case k2 => k_asm); (case k3 => k_asm); (case k4 => k_inst); (case k5 => exact rfl); (case k6 => k_is); (case k7 => k_is); (case k8 => k_is); (case k9 => k_is); (case k10 => k_get); (case k11 => k_put); (case k12 => k_upd); (case k13 => exact Nat.le_of_ble_eq_true rfl); k_whole; intro h' F' N'; (try k_sweep))))
local macro_rules | `(tactic| walk_at "call builtin:dict.get") => `(tactic| (k_here; k_dflt (refine' call_get_missS ?k1 ?k2 ?k3 ?k4 ?k5 ?_; (case k1 => k_asm); (case k2 => k_mem); (case k3 => assumption); (case k4 => k_keys); (case k5 => k_get); k_whole)))
local macro_rules | `(tactic| walk_at "setItem ref str") => `(tactic| (k_here; k_dflt (refine' setItem_newS ?k1 ?k2 ?k3 ?k4 ?k5 ?k6 ?_; (case k1 => k_asm); (case k2 => k_asm); (case k3 => k_upd); (case k4 => k_keys); (case k5 => k_get); (case k6 => exact Nat.le_of_ble_eq_true rfl); k_whole; intro h' F' N'; (try dsimp only [List.cons_append, List.nil_append] at N'); (try k_sweep))))
local macro_rules | `(tactic| walk_at "exec While") => `(tactic| (k_here; refine Hold.out ?_))
local macro_rules | `(tactic| walk_at "KswEnd") => `(tactic| (refine Hold.out ?_))
local macro_rules | `(tactic| walk_at "binaryOp BitAnd int int") => `(tactic| first | with_reducible refine and_mask ?_ | with_reducible refine and_mask' ?_)
local macro_rules | `(tactic| walk_at "call ref") => `(tactic| (k_here; k_dflt (refine wpAny_call ?_; refine' code_def ?k1 ?k2 ?k3 ?k4 ?k5 ?kA ?kF ?kK ?k6 ?k7 ?k8 ?k9 ?kB ?_ ?c2 ?c3 ?c4 ?c5; (case kA => exact rfl); (case kF => exact rfl); (case kK => first | exact rfl | assumption); (case k1 => k_asm); (case k2 => k_asm); (case k3 => k_asm); (case k4 => k_asm); (case k5 => k_asm); (case k6 => k_is); (case k7 => k_is); (case k8 => ktr_room); (case k9 => first | exact BindsTo.of_eq rfl | exact binds_K (by k_in) rfl (by k_is) rfl rfl rfl); (case c5 => decide); (case kB => exact locs rfl); (case c2 => exact rfl); (case c3 => exact rfl); (case c4 => exact rfl); k_whole; intro g' L' h' FG' F' N' B' X' T'; (try dsimp only); (try k_lift B'); (try k_fold))))
local macro_rules | `(tactic| walk_at "inplaceOp RShift int int") => `(tactic| with_reducible refine shr5 ?_)
local macro_rules | `(tactic| walk_at "binaryOp LShift int int") => `(tactic| (with_reducible refine shl_one ?a ?_; (case a => omega)))
local macro_rules | `(tactic| k_all) => `(tactic| assumption)
set_option maxRecDepth 100000 in
set_option maxHeartbeats 8000000 in
theorem nslots_cold {w : World} {mean : ExcName → Option Value} {mg mb : Str → Option Value}
   {dp un : Nat} {gd : Option (List Code)} {cn : Str} {cs : Scope} {a : Addr} {ccd : Value} {cl : List (Str × Addr)} {outer : List Env} {A₀ : Around} {base h₀ : Heap} {L : Addr} {m : Str → Option Value} {s : Shared} {Q : Value → Shared → Prop}
   {Γ : Ctx} (hΓ : InOK Γ (ktrTop dp un gd cn cs L a ccd cl outer)) {x dx : Addr} {k1 k2 k3 k4 k5 k6 t1 : Tok} {v2 v3 v4 v5 v6 : Value} {lg : Nat} {rest : Led} (hlg : lg ≤ 1000) (hlo : (dx == sysModules) = false) (hsep : ∀ p ∈ rest, p.1 ≠ dx) (hxd : @LT.lt Nat _ dx x)
   (B : Below A₀ base outer h₀) (F : Fr h₀ L s.heap m) (X : (Mine.hd.heap_39 w.params).In h₀)
   (N : News h₀ L s.heap ((x, instObj 287 dx) :: (dx, dictOf (coldEs w.params k1 k2 k3 k4 k5 k6 (.int lg t1) v2 v3 v4 v5 v6) 6) :: rest))
   (T : Top Mine.hd.view_39 (looseW Mine.hd.view_39 [Str.ofString "_Entry", Str.ofString "_NOT_FOUND", Str.ofString "cached_property", Str.ofString "_HtKeys"]) mean mg mb h₀) (hk : cs.kind = .function) (hd : dp + 3 < recursionLimit) (hu : un + 40 < cLine)
   (hret : ∀ k7 t7, ∀ h' tk', Fr h₀ L h' m → News h₀ L h' ((x, instObj 287 dx) :: (dx, dictS (coldEs w.params k1 k2 k3 k4 k5 k6 (.int lg t1) v2 v3 v4 v5 v6 ++ [ent w.params (Str.ofString "nslots") k7 (.int (2^lg) t7)]) 7 #[none]) :: rest) → Q (.int (2^lg) t7) { s with heap := h', toks := tk' }) :
   wpAt (model PySem.Challenge.rw_fc5025_03.row.prog w) Γ (getAttr (.ref x) (Str.ofString "nslots") true) Q s := by
  w_top off; revert B F X N T; k_fill; intro B F X N T
  (k_dflt (refine' at_get_late hΓ ?k1 ?k2 ?k3 ?k4 ?k5 ?k6 ?k7 ?k8 ?k9 ?k10 ?_; (case k1 => k_asm); (case k2 => k_asm); (case k3 => k_inst); (case k4 => k_is); (case k5 => k_is); (case k6 => k_is); (case k7 => k_is); (case k8 => k_is); (case k9 => decide +kernel); (case k10 => k_get)))
  intro Γ1 h1
  refine at_call fun p1 => ?_
  (k_dflt (refine' codeAt_defX rfl ?kG ?k1 ?k2 ?k3 ?k4 ?k5 ?kA ?kF ?kK ?k6 ?k7 ?k8 ?k9 ?kB ?_ ?c2 ?c3 ?c4 ?c5; (case kG => exact h1.enter _ p1); (case kA => exact rfl); (case kF => exact rfl); (case kK => first | exact rfl | assumption); (case k1 => k_asm); (case k2 => k_asm); (case k3 => k_asm); (case k4 => k_asm); (case k5 => k_asm); (case k6 => k_is); (case k7 => k_is); (case k8 => ktr_room); (case k9 => first | exact BindsTo.of_eq rfl | exact binds_K (by k_in) rfl (by k_is) rfl rfl rfl); (case c5 => decide); (case kB => exact locs rfl); (case c2 => exact rfl); (case c3 => exact rfl); (case c4 => exact rfl)))
  intro g' L' h' Γ2 FG' F' N' B' X' T' h2
  refine at_execs_consA h2 ?_
  (try k_fold)
  k_steps
  refine at_execs_consA h2 ?_
  (try k_fold)
  k_steps
  refine at_execs_cons (at_Try (at_execs_cons (at_Assign_Name h2 (at_Attribute_name h2 ?_))))
  (try k_fold)
  k_steps
  (k_dflt (refine' at_dict h2 ?k1 ?k2 ?k3 ?k4 ?k5 ?k6 ?k7 ?k8 ?k9 ?k10 ?k11 ?k12 ?k13 ?k14 ?k15 ?_; (case k1 => k_asm); (case k2 => k_asm); (case k3 => k_asm); (case k4 => k_inst); (case k5 => k_is); (case k6 => k_is); (case k7 => k_is); (case k8 => k_is); (case k9 => k_is); (case k10 => k_is); (case k11 => k_is); (case k12 => k_is); (case k13 => k_is); (case k14 => k_is); (case k15 => k_upd)))
  intro h9 F9 N9
  (try k_fold)
  k_steps
  refine at_any h2 ?_
  (try k_fold)
  k_steps
  refine at_any h2 ?_
  (try k_fold)
  k_steps
  refine at_any h2 ?_
  (try k_fold)
  k_steps
  exact hret _ _ _ _ (by assumption) (by assumption)
set_option maxRecDepth 100000 in
set_option maxHeartbeats 8000000 in
theorem mask_cold {w : World} {mean : ExcName → Option Value} {mg mb : Str → Option Value}
   {dp un : Nat} {gd : Option (List Code)} {cn : Str} {cs : Scope} {a : Addr} {ccd : Value} {cl : List (Str × Addr)} {outer : List Env} {A₀ : Around} {base h₀ : Heap} {L : Addr} {m : Str → Option Value} {s : Shared} {Q : Value → Shared → Prop}
   {Γ : Ctx} (hΓ : InOK Γ (ktrTop dp un gd cn cs L a ccd cl outer)) {x dx : Addr} {k1 k2 k3 k4 k5 k6 t1 : Tok} {v2 v3 v4 v5 v6 : Value} {lg : Nat} {rest : Led} (hlg : lg ≤ 1000) (hlo : (dx == sysModules) = false) (hsep : ∀ p ∈ rest, p.1 ≠ dx) (hxd : @LT.lt Nat _ dx x)
   (B : Below A₀ base outer h₀) (F : Fr h₀ L s.heap m) (X : (Mine.hd.heap_39 w.params).In h₀)
   (N : News h₀ L s.heap ((x, instObj 287 dx) :: (dx, dictOf (coldEs w.params k1 k2 k3 k4 k5 k6 (.int lg t1) v2 v3 v4 v5 v6) 6) :: rest))
   (T : Top Mine.hd.view_39 (looseW Mine.hd.view_39 [Str.ofString "_Entry", Str.ofString "_NOT_FOUND", Str.ofString "cached_property", Str.ofString "_HtKeys"]) mean mg mb h₀) (hk : cs.kind = .function) (hd : dp + 6 < recursionLimit) (hu : un + 80 < cLine)
   (hret : ∀ k7 k8 t7 t8, ∀ h' tk', Fr h₀ L h' m → News h₀ L h' ((x, instObj 287 dx) :: (dx, dictS (tabEs w.params k1 k2 k3 k4 k5 k6 k7 k8 (.int lg t1) v2 v3 v4 v5 v6 (.int (2^lg) t7) (.int (2^lg-1) t8)) 8 #[none]) :: rest) → Q (.int (2^lg-1) t8) { s with heap := h', toks := tk' }) :
   wpAt (model PySem.Challenge.rw_fc5025_03.row.prog w) Γ (getAttr (.ref x) (Str.ofString "mask") true) Q s := by
  w_top off; revert B F X N T; k_fill; intro B F X N T
  (k_dflt (refine' at_get_late hΓ ?k1 ?k2 ?k3 ?k4 ?k5 ?k6 ?k7 ?k8 ?k9 ?k10 ?_; (case k1 => k_asm); (case k2 => k_asm); (case k3 => k_inst); (case k4 => k_is); (case k5 => k_is); (case k6 => k_is); (case k7 => k_is); (case k8 => k_is); (case k9 => decide +kernel); (case k10 => k_get)))
  intro Γ1 h1
  refine at_call fun p1 => ?_
  (k_dflt (refine' codeAt_defX rfl ?kG ?k1 ?k2 ?k3 ?k4 ?k5 ?kA ?kF ?kK ?k6 ?k7 ?k8 ?k9 ?kB ?_ ?c2 ?c3 ?c4 ?c5; (case kG => exact h1.enter _ p1); (case kA => exact rfl); (case kF => exact rfl); (case kK => first | exact rfl | assumption); (case k1 => k_asm); (case k2 => k_asm); (case k3 => k_asm); (case k4 => k_asm); (case k5 => k_asm); (case k6 => k_is); (case k7 => k_is); (case k8 => ktr_room); (case k9 => first | exact BindsTo.of_eq rfl | exact binds_K (by k_in) rfl (by k_is) rfl rfl rfl); (case c5 => decide); (case kB => exact locs rfl); (case c2 => exact rfl); (case c3 => exact rfl); (case c4 => exact rfl)))
  intro g' L' h' Γ2 FG' F' N' B' X' T' h2
  refine at_execs_consA h2 ?_
  (try k_fold)
  k_steps
  refine at_execs_consA h2 ?_
  (try k_fold)
  k_steps
  refine at_execs_cons (at_Try (at_execs_cons (at_Assign_Name h2 (at_Attribute_name h2 ?_))))
  (try k_fold)
  k_steps
  (k_dflt (refine' at_dict h2 ?k1 ?k2 ?k3 ?k4 ?k5 ?k6 ?k7 ?k8 ?k9 ?k10 ?k11 ?k12 ?k13 ?k14 ?k15 ?_; (case k1 => k_asm); (case k2 => k_asm); (case k3 => k_asm); (case k4 => k_inst); (case k5 => k_is); (case k6 => k_is); (case k7 => k_is); (case k8 => k_is); (case k9 => k_is); (case k10 => k_is); (case k11 => k_is); (case k12 => k_is); (case k13 => k_is); (case k14 => k_is); (case k15 => k_upd)))
  intro h9 F9 N9
  (try k_fold)
  k_steps
  refine at_any h2 ?_
  (try k_fold)
  k_steps
  refine at_any h2 ?_
  (try k_fold)
  k_steps
  refine at_any h2 ?_
  (try k_fold)
  k_steps
  exact hret _ _ _ _ _ _ (by assumption) (by assumption)
end Mine
end

section
open PySem PySem.W PySem.Calls PyProof.Rows
namespace Mine
/-- the object is a dict that holds just these ints -/
def DII (prog : Program) (w : World) (o : Obj) (c : List (Int × Int)) : Prop := ∃ kvs, o.IsDictOf (PySem.intKind prog w) kvs ∧ PyProof.V.FlatPairs PyData.int kvs (kdfD c)
section
variable {prog : Program} {w : World} {A : Around} {E : Value → Shared → Prop} {s : Shared} {h₀ : Heap} {L d : Addr} {m : Str → Option Value} {news : List (Addr × Obj)} {o : Obj} {c : List (Int × Int)} {k : Int} {t : Tok}
theorem DII.tab (D : DII prog w o c) (N : News h₀ L s.heap news) (hm : (d, o) ∈ news) (lo : (d == sysModules) = false) : IntTab prog w s.heap d (kdfD c) :=
  let ⟨_, hd, hf⟩ := D; TabAt.ofNews N hm lo hd hf
theorem di_get1 {Q : Value → Shared → Prop} (N : News h₀ L s.heap news) (hm : (d, o) ∈ news) (lo : (d == sysModules) = false) (D : DII prog w o c)
    (h0 : kdfHas c k = false → Q .none { s with toks := s.toks + 1 }) (h1 : kdfHas c k = true → ∀ t, Q (.int (kdfLook c k 0) t) { s with toks := s.toks + 1 }) :
    wpAny (model prog w) A (call (.builtin "dict.get") [.ref d, .int k t]) Q E s := by
  refine call_get1_tab PyProof.V.same_int (intKind_is _ _ _ _) (D.tab N hm lo) fun v hv => ?_
  cases hh : kdfHas c k with
  | false =>
    have hs := kdfD_isSome k c
    rw [hh] at hs
    cases hl : PySem.Spec.lookup (PyData.int k) (kdfD c) with
    | none => rw [hl] at hv; cases PyProof.V.Flat.none_inv hv; exact h0 hh
    | some d => rw [hl] at hs; cases hs
  | true =>
    rw [kdfD_item hh] at hv
    obtain ⟨t, rfl⟩ := PyProof.V.Flat.int_inv hv
    exact h1 hh t
end
local macro_rules | `(tactic| walk_at "MinePad") => `(tactic| skip)
local macro_rules | `(tactic| walk_at "getAttr ref") => `(tactic| (k_here; k_dflt (refine' get_lateS ?k1 ?k2 ?k3 ?k4 ?k5 ?k6 ?k7 ?k8 ?k9 ?k10 ?_; (case k1 => k_asm); (case k2 => k_asm); (case k3 => k_inst); (case k4 => k_is); (case k5 => k_is); (case k6 => k_is); (case k7 => k_is); (case k8 => k_is); (case k9 => decide +kernel); (case k10 => k_get))))
local macro_rules | `(tactic| walk_at "getAttr ref") => `(tactic| (k_here; k_dflt (first
  | refine' get_shadowS ?k1 ?k2 ?k3 ?k4 ?k5 ?k6 ?k7 ?k8 ?k9 ?k10 ?_; (case k1 => k_asm); (case k2 => k_asm); (case k3 => k_inst); (case k4 => k_is); (case k5 => k_is); (case k6 => k_is); (case k7 => k_is); (case k8 => k_is); (case k9 => k_get); (case k10 => k_handed); k_whole
  | refine' get_ownS ?k1 ?k2 ?k3 ?k4 ?k5 ?k6 ?k7 ?k8 ?k9 ?_; (case k1 => k_asm); (case k2 => k_asm); (case k3 => k_inst); (case k4 => k_is); (case k5 => k_is); (case k6 => k_is); (case k7 => k_is); (case k8 => k_get); (case k9 => k_handed); k_whole)))
local macro_rules | `(tactic| walk_at "getAttr ref") => `(tactic| (k_here; (with_reducible show wpAny _ _ (getAttr (Value.ref _) (PySem.Str.ofString "__dict__") _) _ _ _); k_dflt (refine' get_dictS ?k1 ?k2 ?k3 ?k4 ?k5 ?k6 ?k7 ?k8 ?k9 ?k10 ?k11 ?k12 ?k13 ?k14 ?_; (case k1 => k_asm); (case k2 => k_asm); (case k3 => k_asm); (case k4 => k_inst); (case k5 => k_is); (case k6 => k_is); (case k7 => k_is); (case k8 => k_is); (case k9 => k_is); (case k10 => k_is); (case k11 => k_is); (case k12 => k_is); (case k13 => k_is); (case k14 => k_upd); k_whole; intro h' F' N'; (try k_sweep))))
local macro_rules | `(tactic| walk_at "getMethod ref") => `(tactic| (k_here; k_dflt (first
  | refine' method_instS ?k1 ?k2 ?k3 ?k4 ?k5 ?k6 ?k7 ?_; (case k1 => k_asm); (case k2 => k_asm); (case k3 => k_inst); (case k4 => k_is); (case k5 => k_is); (case k6 => k_is); (case k7 => k_get); k_whole
  | refine' method_getS ?k1 ?k2 ?_; (case k1 => k_asm); (case k2 => k_mem); k_whole)))
local macro_rules | `(tactic| walk_at "setAttr ref") => `(tactic| (k_here; k_dflt (refine' set_dictS ?k1 ?k2 ?k3 ?k4 ?k5 ?k6 ?k7 ?k8 ?k9 ?k10 ?k11 ?k12 ?k13 ?_; (case k1 => k_asm); (case k2 => k_asm); (case k3 => k_asm); (case k4 => k_inst); (case k5 => exact rfl); (case k6 => k_is); (case k7 => k_is); (case k8 => k_is); (case k9 => k_is); (case k10 => k_get); (case k11 => k_put); (case k12 => k_upd); (case k13 => exact Nat.le_of_ble_eq_true rfl); k_whole; intro h' F' N'; (try k_sweep))))
local macro_rules | `(tactic| walk_at "call builtin:dict.get") => `(tactic| (k_here; k_dflt (refine' call_get_missS ?k1 ?k2 ?k3 ?k4 ?k5 ?_; (case k1 => k_asm); (case k2 => k_mem); (case k3 => assumption); (case k4 => k_keys); (case k5 => k_get); k_whole)))
local macro_rules | `(tactic| walk_at "setItem ref str") => `(tactic| (k_here; k_dflt (refine' setItem_newS ?k1 ?k2 ?k3 ?k4 ?k5 ?k6 ?_; (case k1 => k_asm); (case k2 => k_asm); (case k3 => k_upd); (case k4 => k_keys); (case k5 => k_get); (case k6 => exact Nat.le_of_ble_eq_true rfl); k_whole; intro h' F' N'; (try dsimp only [List.cons_append, List.nil_append] at N'); (try k_sweep))))
local macro_rules | `(tactic| walk_at "exec While") => `(tactic| (k_here; refine Hold.out ?_))
local macro_rules | `(tactic| walk_at "KswEnd") => `(tactic| (refine Hold.out ?_))
local macro_rules | `(tactic| walk_at "binaryOp BitAnd int int") => `(tactic| first | with_reducible refine and_mask ?_ | with_reducible refine and_mask' ?_)
local macro_rules | `(tactic| walk_at "call ref") => `(tactic| (k_here; k_dflt (refine wpAny_call ?_; refine' code_def ?k1 ?k2 ?k3 ?k4 ?k5 ?kA ?kF ?kK ?k6 ?k7 ?k8 ?k9 ?kB ?_ ?c2 ?c3 ?c4 ?c5; (case kA => exact rfl); (case kF => exact rfl); (case kK => first | exact rfl | assumption); (case k1 => k_asm); (case k2 => k_asm); (case k3 => k_asm); (case k4 => k_asm); (case k5 => k_asm); (case k6 => k_is); (case k7 => k_is); (case k8 => ktr_room); (case k9 => first | exact BindsTo.of_eq rfl | exact binds_K (by k_in) rfl (by k_is) rfl rfl rfl); (case c5 => decide); (case kB => exact locs rfl); (case c2 => exact rfl); (case c3 => exact rfl); (case c4 => exact rfl); k_whole; intro g' L' h' FG' F' N' B' X' T'; (try dsimp only); (try k_lift B'); (try k_fold))))
local macro_rules | `(tactic| walk_at "inplaceOp RShift int int") => `(tactic| with_reducible refine shr5 ?_)
local macro_rules | `(tactic| walk_at "binaryOp LShift int int") => `(tactic| (with_reducible refine shl_one ?a ?_; (case a => omega)))
local macro_rules | `(tactic| k_all) => `(tactic| assumption)
set_option maxRecDepth 100000 in
set_option maxHeartbeats 8000000 in
theorem resume_none {w : World} {mean : ExcName → Option Value} {mg mb : Str → Option Value}
   {dp un : Nat} {gd : Option (List Code)} {cn : Str} {cs : Scope} {a : Addr} {ccd : Value} {cl : List (Str × Addr)} {outer : List Env} {A₀ : Around} {base h₀ : Heap} {L : Addr} {m : Str → Option Value} {s : Shared} {Q : Value → Shared → Prop}
   {E : Value → Shared → Prop} {x dx : Addr} {k1 k2 k3 k4 k5 k6 t1 : Tok} {v2 v4 v6 : Value} {lg : Nat} {rest : Led} {k7 k8 t7 t8 : Tok} {il : Addr} {vs : List Value} {ns : List Int} {ep : Nat} {i0 : Int} {ti : Tok} {K : Nat}
   (hlg : lg ≤ 10) (hlg1 : 10 ≤ lg) (hi : IntsAre vs ns) (hlen : ns.length = 2 ^ lg) (h0 : 0 ≤ i0) (h1 : i0 < 2 ^ lg)
   (hK : ns.getD (tl lg i0 K).toNat 0 = -1) (hK' : ∀ j < K, ns.getD (tl lg i0 j).toNat 0 ≠ -1) (hlo : (dx == sysModules) = false) (hsep : ∀ p ∈ rest, p.1 ≠ dx) (hxd : @LT.lt Nat _ dx x) (hild : @LT.lt Nat _ il dx)
   (B : Below A₀ base outer h₀) (F : Fr h₀ L s.heap m) (X : (Mine.hd.heap_39 w.params).In h₀)
   (N : News h₀ L s.heap ((x, instObj 287 dx) :: (dx, dictS (tabEs w.params k1 k2 k3 k4 k5 k6 k7 k8 (.int lg t1) v2 (.ref il) v4 .none v6 (.int (2^lg) t7) (.int (2^lg-1) t8)) 8 #[none]) :: (il, listOf vs.toArray ep) :: rest))
   (T : Top Mine.hd.view_39 (looseW Mine.hd.view_39 [Str.ofString "_Entry", Str.ofString "_NOT_FOUND", Str.ofString "cached_property", Str.ofString "_HtKeys"]) mean mg mb h₀) (hk : cs.kind = .function) (hd : dp + 4 < recursionLimit) (hu : un + 40 < cLine)
   (hshort : K < 32 → ∀ t h' tk', Fr h₀ L h' m → News h₀ L h' ((x, instObj 287 dx) :: (dx, dictS (tabEs w.params k1 k2 k3 k4 k5 k6 k7 k8 (.int lg t1) v2 (.ref il) v4 .none v6 (.int (2^lg) t7) (.int (2^lg-1) t8)) 8 #[none]) :: (il, listOf vs.toArray ep) :: rest) → Q (.int (tl lg i0 K) t) { s with heap := h', toks := tk' })
   (hlong : 32 ≤ K → ∀ t rd ro h' tk', (@LT.lt Nat _ x rd ∧ @LT.lt Nat _ dx rd ∧ @LT.lt Nat _ il rd ∧ AllLt rd rest) → Fr h₀ L h' m → DII PySem.Challenge.rw_fc5025_03.row.prog w ro [(i0, tl lg i0 K)] → News h₀ L h' ((rd, ro) :: (x, instObj 287 dx) :: (dx, dictS (tabEs w.params k1 k2 k3 k4 k5 k6 k7 k8 (.int lg t1) v2 (.ref il) v4 (.ref rd) v6 (.int (2^lg) t7) (.int (2^lg-1) t8)) 8 #[none]) :: (il, listOf vs.toArray ep) :: rest) → Q (.int (tl lg i0 K) t) { s with heap := h', toks := tk' }) :
   wpAny (model PySem.Challenge.rw_fc5025_03.row.prog w) (ktrTop dp un gd cn cs L a ccd cl outer) (call (.ref 200) [.ref x, .int i0 ti]) Q E s := by
  w_top off; revert B F X N T; k_fill; intro B F X N T
  refine wpAny_call ?_
  k_dflt (refine' code_def ?k1 ?k2 ?k3 ?k4 ?k5 ?kA ?kF ?kK ?k6 ?k7 ?k8 ?k9 ?kB ?_ ?c2 ?c3 ?c4 ?c5; (case kA => exact rfl); (case kF => exact rfl); (case kK => first | exact rfl | assumption); (case k1 => k_asm); (case k2 => k_asm); (case k3 => k_asm); (case k4 => k_asm); (case k5 => k_asm); (case k6 => k_is); (case k7 => k_is); (case k8 => ktr_room); (case k9 => first | exact BindsTo.of_eq rfl | exact binds_K (by k_in) rfl (by k_is) rfl rfl rfl); (case c5 => decide); (case kB => exact locs rfl); (case c2 => exact rfl); (case c3 => exact rfl); (case c4 => exact rfl); k_whole)
  intro g' L' h' FG' F' N' B' X' T'
  (try dsimp only)
  (try k_fold)
  k_steps
  refine Hold.mk ?_
  rename Fr _ _ _ _ => lF
  rename News _ _ _ _ => lN
  refine ksw_while (σ := Nat × Tok × Tok) (fun _ => (x, instObj 287 dx) :: (dx, dictS (tabEs w.params k1 k2 k3 k4 k5 k6 k7 k8 (.int lg t1) v2 (.ref il) v4 .none v6 (.int (2^lg) t7) (.int (2^lg-1) t8)) 8 #[none]) :: (il, listOf vs.toArray ep) :: rest)
    (fun c => [(Str.ofString "i", .int (tl lg i0 c.1) c.2.1), (Str.ofString "steps", .int c.1 c.2.2)]) (fun _ => True) [] (fun c => c.1 ≤ K) (fun c => K - c.1) (0, _, _) lF lN trivial (by kst_all) (Nat.zero_le _) ?_
  clear lF lN
  rintro ⟨k, tk1, tk2⟩ u hh tkk - hkK F N
  dsimp only at hkK N ⊢
  dsimp only [kstB] at F
  have r0 := (tl_range h0 h1 k).1
  have r1 := (tl_range h0 h1 k).2
  have r2 : tl lg i0 k < (ns.length : Int) := by rw [len_cast hlen]; exact r1
  have r3 : tl lg i0 k < 2 ^ 63 := by have := pow_le_1024 (n := lg) (by omega); omega
  (try k_fold)
  k_steps
  · have hne : k ≠ K := by rintro rfl; contradiction
    refine Hold.mk ?_
    rename Fr _ _ _ _ => eF
    rename News _ _ _ _ => eN
    exact ksw_end (k + 1, _, _) eF eN (fun _ h => h) trivial (List.forall_mem_cons.mpr ⟨rfl, List.forall_mem_cons.mpr ⟨rfl, List.forall_mem_nil _⟩⟩) (by ksw_same) (by show k + 1 ≤ K; omega) (by show K - (k + 1) < K - k; omega)
  · have he : k = K := by
      rcases Nat.lt_or_eq_of_le hkK with hlt | e
      · exact absurd (by assumption) (hK' k hlt)
      · exact e
    subst he
    exact hshort (by omega) _ _ _ (by assumption) (by assumption)
  · have he : k = K := by
      rcases Nat.lt_or_eq_of_le hkK with hlt | e
      · exact absurd (by assumption) (hK' k hlt)
      · exact e
    subst he
    rename PyProof.V.FlatPairs _ _ _ => hf9
    rename Obj.IsDictOf _ _ _ => hd9
    exact hlong (by omega) _ _ _ _ _ (by assumption) (by assumption) ⟨_, hd9, hf9⟩ (by assumption)
end Mine
end

section
open PySem PySem.W PySem.Calls PyProof.Rows
namespace Mine
local macro_rules | `(tactic| walk_at "MinePad") => `(tactic| skip)
local macro_rules | `(tactic| walk_at "getAttr ref") => `(tactic| (k_here; k_dflt (refine' get_lateS ?k1 ?k2 ?k3 ?k4 ?k5 ?k6 ?k7 ?k8 ?k9 ?k10 ?_; (case k1 => k_asm); (case k2 => k_asm); (case k3 => k_inst); (case k4 => k_is); (case k5 => k_is); (case k6 => k_is); (case k7 => k_is); (case k8 => k_is); (case k9 => decide +kernel); (case k10 => k_get))))
local macro_rules | `(tactic| walk_at "getAttr ref") => `(tactic| (k_here; k_dflt (first
  | refine' get_shadowS ?k1 ?k2 ?k3 ?k4 ?k5 ?k6 ?k7 ?k8 ?k9 ?k10 ?_; (case k1 => k_asm); (case k2 => k_asm); (case k3 => k_inst); (case k4 => k_is); (case k5 => k_is); (case k6 => k_is); (case k7 => k_is); (case k8 => k_is); (case k9 => k_get); (case k10 => k_handed); k_whole
  | refine' get_ownS ?k1 ?k2 ?k3 ?k4 ?k5 ?k6 ?k7 ?k8 ?k9 ?_; (case k1 => k_asm); (case k2 => k_asm); (case k3 => k_inst); (case k4 => k_is); (case k5 => k_is); (case k6 => k_is); (case k7 => k_is); (case k8 => k_get); (case k9 => k_handed); k_whole)))
local macro_rules | `(tactic| walk_at "getAttr ref") => `(tactic| (k_here; (with_reducible show wpAny _ _ (getAttr (Value.ref _) (PySem.Str.ofString "__dict__") _) _ _ _); k_dflt (refine' get_dictS ?k1 ?k2 ?k3 ?k4 ?k5 ?k6 ?k7 ?k8 ?k9 ?k10 ?k11 ?k12 ?k13 ?k14 ?_; (case k1 => k_asm); (case k2 => k_asm); (case k3 => k_asm); (case k4 => k_inst); (case k5 => k_is); (case k6 => k_is); (case k7 => k_is); (case k8 => k_is); (case k9 => k_is); (case k10 => k_is); (case k11 => k_is); (case k12 => k_is); (case k13 => k_is); (case k14 => k_upd); k_whole; intro h' F' N'; (try k_sweep))))
local macro_rules | `(tactic| walk_at "getMethod ref") => `(tactic| (k_here; k_dflt (first
  | refine' method_instS ?k1 ?k2 ?k3 ?k4 ?k5 ?k6 ?k7 ?_; (case k1 => k_asm); (case k2 => k_asm); (case k3 => k_inst); (case k4 => k_is); (case k5 => k_is); (case k6 => k_is); (case k7 => k_get); k_whole
  | refine' method_getS ?k1 ?k2 ?_; (case k1 => k_asm); (case k2 => k_mem); k_whole)))
local macro_rules | `(tactic| walk_at "setAttr ref") => `(tactic| (k_here; k_dflt (refine' set_dictS ?k1 ?k2 ?k3 ?k4 ?k5 ?k6 ?k7 ?k8 ?k9 ?k10 ?k11 ?k12 ?k13 ?_; (case k1 => k_asm); (case k2 => k_asm); (case k3 => k_asm); (case k4 => k_inst); (case k5 => exact rfl); (case k6 => k_is); (case k7 => k_is); (case k8 => k_is); (case k9 => k_is); (case k10 => k_get); (case k11 => k_put); (case k12 => k_upd); (case k13 => exact Nat.le_of_ble_eq_true rfl); k_whole; intro h' F' N'; (try k_sweep))))
local macro_rules | `(tactic| walk_at "call builtin:dict.get") => `(tactic| (k_here; k_dflt (refine' call_get_missS ?k1 ?k2 ?k3 ?k4 ?k5 ?_; (case k1 => k_asm); (case k2 => k_mem); (case k3 => assumption); (case k4 => k_keys); (case k5 => k_get); k_whole)))
local macro_rules | `(tactic| walk_at "setItem ref str") => `(tactic| (k_here; k_dflt (refine' setItem_newS ?k1 ?k2 ?k3 ?k4 ?k5 ?k6 ?_; (case k1 => k_asm); (case k2 => k_asm); (case k3 => k_upd); (case k4 => k_keys); (case k5 => k_get); (case k6 => exact Nat.le_of_ble_eq_true rfl); k_whole; intro h' F' N'; (try dsimp only [List.cons_append, List.nil_append] at N'); (try k_sweep))))
local macro_rules | `(tactic| walk_at "exec While") => `(tactic| (k_here; refine Hold.out ?_))
local macro_rules | `(tactic| walk_at "KswEnd") => `(tactic| (refine Hold.out ?_))
local macro_rules | `(tactic| walk_at "binaryOp BitAnd int int") => `(tactic| first | with_reducible refine and_mask ?_ | with_reducible refine and_mask' ?_)
local macro_rules | `(tactic| walk_at "call ref") => `(tactic| (k_here; k_dflt (refine wpAny_call ?_; refine' code_def ?k1 ?k2 ?k3 ?k4 ?k5 ?kA ?kF ?kK ?k6 ?k7 ?k8 ?k9 ?kB ?_ ?c2 ?c3 ?c4 ?c5; (case kA => exact rfl); (case kF => exact rfl); (case kK => first | exact rfl | assumption); (case k1 => k_asm); (case k2 => k_asm); (case k3 => k_asm); (case k4 => k_asm); (case k5 => k_asm); (case k6 => k_is); (case k7 => k_is); (case k8 => ktr_room); (case k9 => first | exact BindsTo.of_eq rfl | exact binds_K (by k_in) rfl (by k_is) rfl rfl rfl); (case c5 => decide); (case kB => exact locs rfl); (case c2 => exact rfl); (case c3 => exact rfl); (case c4 => exact rfl); k_whole; intro g' L' h' FG' F' N' B' X' T'; (try dsimp only); (try k_lift B'); (try k_fold))))
local macro_rules | `(tactic| walk_at "inplaceOp RShift int int") => `(tactic| with_reducible refine shr5 ?_)
local macro_rules | `(tactic| walk_at "binaryOp LShift int int") => `(tactic| (with_reducible refine shl_one ?a ?_; (case a => omega)))
local macro_rules | `(tactic| k_all) => `(tactic| assumption)
local macro_rules | `(tactic| walk_at "call builtin:dict.get") => `(tactic| (k_here; refine Hold.out ?_))
set_option maxRecDepth 100000 in
set_option maxHeartbeats 8000000 in
theorem resume_some {w : World} {mean : ExcName → Option Value} {mg mb : Str → Option Value}
   {dp un : Nat} {gd : Option (List Code)} {cn : Str} {cs : Scope} {a : Addr} {ccd : Value} {cl : List (Str × Addr)} {outer : List Env} {A₀ : Around} {base h₀ : Heap} {L : Addr} {m : Str → Option Value} {s : Shared} {Q : Value → Shared → Prop}
   {E : Value → Shared → Prop} {x dx : Addr} {k1 k2 k3 k4 k5 k6 t1 : Tok} {v2 v4 v6 : Value} {lg : Nat} {rest : Led} {k7 k8 t7 t8 : Tok} {il : Addr} {vs : List Value} {ns : List Int} {ep : Nat} {rd : Addr} {ro : Obj} {c : List (Int × Int)} {i0 : Int} {ti : Tok} {K : Nat}
   (hlg : lg ≤ 10) (hlg1 : 10 ≤ lg) (hi : IntsAre vs ns) (hlen : ns.length = 2 ^ lg) (h0 : 0 ≤ i0) (h1 : i0 < 2 ^ lg)
   (hK : ns.getD (tl lg i0 K).toNat 0 = -1) (hK' : ∀ j < K, ns.getD (tl lg i0 j).toNat 0 ≠ -1)
   (hD : DII PySem.Challenge.rw_fc5025_03.row.prog w ro c) (hc : c.length ≤ 1000) (hmem : kdfHas c i0 = true → ∃ k0, k0 < K ∧ kdfLook c i0 0 = tl lg i0 k0) (hlo : (dx == sysModules) = false) (hsep : ∀ p ∈ rest, p.1 ≠ dx) (hxd : @LT.lt Nat _ dx x) (hild : @LT.lt Nat _ il dx)
   (hlr : (rd == sysModules) = false) (hrx : @Ne Nat rd x) (hrd : @Ne Nat rd dx) (hri : @Ne Nat rd il) (hsepr : ∀ p ∈ rest, p.1 ≠ rd)
   (B : Below A₀ base outer h₀) (F : Fr h₀ L s.heap m) (X : (Mine.hd.heap_39 w.params).In h₀)
   (N : News h₀ L s.heap ((x, instObj 287 dx) :: (dx, dictS (tabEs w.params k1 k2 k3 k4 k5 k6 k7 k8 (.int lg t1) v2 (.ref il) v4 (.ref rd) v6 (.int (2^lg) t7) (.int (2^lg-1) t8)) 8 #[none]) :: (il, listOf vs.toArray ep) :: (rd, ro) :: rest))
   (T : Top Mine.hd.view_39 (looseW Mine.hd.view_39 [Str.ofString "_Entry", Str.ofString "_NOT_FOUND", Str.ofString "cached_property", Str.ofString "_HtKeys"]) mean mg mb h₀) (hk : cs.kind = .function) (hd : dp + 4 < recursionLimit) (hu : un + 40 < cLine)
   (hret : ∀ t ro' h' tk', Fr h₀ L h' m → DII PySem.Challenge.rw_fc5025_03.row.prog w ro' (kdfPut c i0 (tl lg i0 K)) → News h₀ L h' ((x, instObj 287 dx) :: (dx, dictS (tabEs w.params k1 k2 k3 k4 k5 k6 k7 k8 (.int lg t1) v2 (.ref il) v4 (.ref rd) v6 (.int (2^lg) t7) (.int (2^lg-1) t8)) 8 #[none]) :: (il, listOf vs.toArray ep) :: (rd, ro') :: rest) → Q (.int (tl lg i0 K) t) { s with heap := h', toks := tk' }) :
   wpAny (model PySem.Challenge.rw_fc5025_03.row.prog w) (ktrTop dp un gd cn cs L a ccd cl outer) (call (.ref 200) [.ref x, .int i0 ti]) Q E s := by
  w_top off; revert B F X N T; k_fill; intro B F X N T
  refine wpAny_call ?_
  k_dflt (refine' code_def ?k1 ?k2 ?k3 ?k4 ?k5 ?kA ?kF ?kK ?k6 ?k7 ?k8 ?k9 ?kB ?_ ?c2 ?c3 ?c4 ?c5; (case kA => exact rfl); (case kF => exact rfl); (case kK => first | exact rfl | assumption); (case k1 => k_asm); (case k2 => k_asm); (case k3 => k_asm); (case k4 => k_asm); (case k5 => k_asm); (case k6 => k_is); (case k7 => k_is); (case k8 => ktr_room); (case k9 => first | exact BindsTo.of_eq rfl | exact binds_K (by k_in) rfl (by k_is) rfl rfl rfl); (case c5 => decide); (case kB => exact locs rfl); (case c2 => exact rfl); (case c3 => exact rfl); (case c4 => exact rfl); k_whole)
  intro g' L' h' FG' F' N' B' X' T'
  have hD9 := hD
  obtain ⟨kvs9, hd9, hf9⟩ := hD
  (try dsimp only)
  (try k_fold)
  k_steps
  refine Hold.mk ?_
  refine di_get1 (by assumption) (.tail _ (.tail _ (.tail _ (.head _)))) hlr hD9 (fun hm0 => ?_) (fun hm1 tq => ?_)
  · (try k_fold)
    k_steps
    refine Hold.mk ?_
    rename Fr _ _ _ _ => lF
    rename News _ _ _ _ => lN
    refine ksw_while (σ := Nat × Int × Tok × Tok) (fun _ => (x, instObj 287 dx) :: (dx, dictS (tabEs w.params k1 k2 k3 k4 k5 k6 k7 k8 (.int lg t1) v2 (.ref il) v4 (.ref rd) v6 (.int (2^lg) t7) (.int (2^lg-1) t8)) 8 #[none]) :: (il, listOf vs.toArray ep) :: (rd, ro) :: rest)
      (fun c => [(Str.ofString "i", .int (tl lg i0 c.1) c.2.2.1), (Str.ofString "steps", .int c.2.1 c.2.2.2)]) (fun _ => True) [] (fun c => c.1 ≤ K) (fun c => K - c.1) (0, _, _, _) lF lN trivial (List.forall_mem_cons.mpr ⟨rfl, List.forall_mem_cons.mpr ⟨rfl, List.forall_mem_nil _⟩⟩) (by show 0 ≤ K; omega) ?_
    clear lF lN
    rintro ⟨k, st, tk1, tk2⟩ u hh tkk - hkK F N
    dsimp only at hkK N ⊢
    dsimp only [kstB] at F
    have r0 := (tl_range h0 h1 k).1
    have r1 := (tl_range h0 h1 k).2
    have r2 : tl lg i0 k < (ns.length : Int) := by rw [len_cast hlen]; exact r1
    have r3 : tl lg i0 k < 2 ^ 63 := by have := pow_le_1024 (n := lg) (by omega); omega
    (try k_fold)
    k_steps
    · have hne : k ≠ K := by rintro rfl; contradiction
      refine Hold.mk ?_
      rename Fr _ _ _ _ => eF
      rename News _ _ _ _ => eN
      exact ksw_end (k + 1, _, _, _) eF eN (fun _ h => h) trivial (List.forall_mem_cons.mpr ⟨rfl, List.forall_mem_cons.mpr ⟨rfl, List.forall_mem_nil _⟩⟩) (by ksw_same) (by show k + 1 ≤ K; omega) (by show K - (k + 1) < K - k; omega)
    · have he : k = K := by
        rcases Nat.lt_or_eq_of_le hkK with hlt | e
        · exact absurd (by assumption) (hK' k hlt)
        · exact e
      subst he
      rename PyProof.V.FlatPairs _ _ _ => hf8
      rename Obj.IsDictOf _ _ _ => hd8
      exact hret _ _ _ _ (by assumption) ⟨_, hd8, hf8⟩ (by assumption)
  · obtain ⟨k0, hk0, hl0⟩ := hmem hm1
    rw [hl0]
    (try k_fold)
    k_steps
    refine Hold.mk ?_
    rename Fr _ _ _ _ => lF
    rename News _ _ _ _ => lN
    refine ksw_while (σ := Nat × Int × Tok × Tok) (fun _ => (x, instObj 287 dx) :: (dx, dictS (tabEs w.params k1 k2 k3 k4 k5 k6 k7 k8 (.int lg t1) v2 (.ref il) v4 (.ref rd) v6 (.int (2^lg) t7) (.int (2^lg-1) t8)) 8 #[none]) :: (il, listOf vs.toArray ep) :: (rd, ro) :: rest)
      (fun c => [(Str.ofString "i", .int (tl lg i0 c.1) c.2.2.1), (Str.ofString "steps", .int c.2.1 c.2.2.2)]) (fun _ => True) [] (fun c => c.1 ≤ K) (fun c => K - c.1) ((k0 + 1), _, _, _) lF lN trivial (List.forall_mem_cons.mpr ⟨rfl, List.forall_mem_cons.mpr ⟨rfl, List.forall_mem_nil _⟩⟩) (by show (k0 + 1) ≤ K; omega) ?_
    clear lF lN
    rintro ⟨k, st, tk1, tk2⟩ u hh tkk - hkK F N
    dsimp only at hkK N ⊢
    dsimp only [kstB] at F
    have r0 := (tl_range h0 h1 k).1
    have r1 := (tl_range h0 h1 k).2
    have r2 : tl lg i0 k < (ns.length : Int) := by rw [len_cast hlen]; exact r1
    have r3 : tl lg i0 k < 2 ^ 63 := by have := pow_le_1024 (n := lg) (by omega); omega
    (try k_fold)
    k_steps
    · have hne : k ≠ K := by rintro rfl; contradiction
      refine Hold.mk ?_
      rename Fr _ _ _ _ => eF
      rename News _ _ _ _ => eN
      exact ksw_end (k + 1, _, _, _) eF eN (fun _ h => h) trivial (List.forall_mem_cons.mpr ⟨rfl, List.forall_mem_cons.mpr ⟨rfl, List.forall_mem_nil _⟩⟩) (by ksw_same) (by show k + 1 ≤ K; omega) (by show K - (k + 1) < K - k; omega)
    · have he : k = K := by
        rcases Nat.lt_or_eq_of_le hkK with hlt | e
        · exact absurd (by assumption) (hK' k hlt)
        · exact e
      subst he
      rename PyProof.V.FlatPairs _ _ _ => hf8
      rename Obj.IsDictOf _ _ _ => hd8
      exact hret _ _ _ _ (by assumption) ⟨_, hd8, hf8⟩ (by assumption)
end Mine
end

section
open PySem PySem.W PySem.Calls PyProof.Rows
namespace Mine
/-- the number of places that a hash's bits take -/
def IsFront (h : Int) (n : Nat) : Prop := 0 < n ∧ pt h n = 0 ∧ ∀ j, 0 < j → j < n → pt h j ≠ 0
theorem IsFront.lt {h : Int} {n K : Nat} (f : IsFront h n) (hK : 0 < K → pt h K ≠ 0) : K < n := by
  rcases Nat.lt_or_ge K n with h1 | h1
  · exact h1
  · have := pt_zero f.2.1 (K - n)
    rw [show n + (K - n) = K by omega] at this
    exact absurd this (hK (by have := f.1; omega))
theorem IsFront.eq {h : Int} {n k : Nat} (f : IsFront h n) (h0 : pt h (k + 1) = 0) (hk : 0 < k → pt h k ≠ 0) : n = k + 1 := by
  have h1 := f.lt hk
  rcases Nat.lt_or_ge (k + 1) n with h2 | h2
  · exact absurd h0 (f.2.2 _ (by omega) h2)
  · omega
theorem IsFront.uniq {h : Int} {n n' : Nat} (f : IsFront h n) (f' : IsFront h n') : n = n' := by
  rcases Nat.lt_trichotomy n n' with h1 | h1 | h1
  · exact absurd f.2.1 (f'.2.2 _ f.1 h1)
  · exact h1
  · exact absurd f'.2.1 (f.2.2 _ f'.1 h1)
theorem IsFront.of {h : Int} {k : Nat} (h0 : pt h (k + 1) = 0) (hk : 0 < k → pt h k ≠ 0) : IsFront h (k + 1) :=
  ⟨by omega, h0, fun j hj hl e => by
    have := pt_zero e (k - j)
    rw [show j + (k - j) = k by omega] at this
    exact hk (by omega) this⟩
local macro_rules | `(tactic| walk_at "MinePad") => `(tactic| skip)
local macro_rules | `(tactic| walk_at "getAttr ref") => `(tactic| (k_here; k_dflt (refine' get_lateS ?k1 ?k2 ?k3 ?k4 ?k5 ?k6 ?k7 ?k8 ?k9 ?k10 ?_; (case k1 => k_asm); (case k2 => k_asm); (case k3 => k_inst); (case k4 => k_is); (case k5 => k_is); (case k6 => k_is); (case k7 => k_is); (case k8 => k_is); (case k9 => decide +kernel); (case k10 => k_get))))
local macro_rules | `(tactic| walk_at "getAttr ref") => `(tactic| (k_here; k_dflt (first
  | refine' get_shadowS ?k1 ?k2 ?k3 ?k4 ?k5 ?k6 ?k7 ?k8 ?k9 ?k10 ?_; (case k1 => k_asm); (case k2 => k_asm); (case k3 => k_inst); (case k4 => k_is); (case k5 => k_is); (case k6 => k_is); (case k7 => k_is); (case k8 => k_is); (case k9 => k_get); (case k10 => k_handed); k_whole
  | refine' get_ownS ?k1 ?k2 ?k3 ?k4 ?k5 ?k6 ?k7 ?k8 ?k9 ?_; (case k1 => k_asm); (case k2 => k_asm); (case k3 => k_inst); (case k4 => k_is); (case k5 => k_is); (case k6 => k_is); (case k7 => k_is); (case k8 => k_get); (case k9 => k_handed); k_whole)))
local macro_rules | `(tactic| walk_at "getAttr ref") => `(tactic| (k_here; (with_reducible show wpAny _ _ (getAttr (Value.ref _) (PySem.Str.ofString "__dict__") _) _ _ _); k_dflt (refine' get_dictS ?k1 ?k2 ?k3 ?k4 ?k5 ?k6 ?k7 ?k8 ?k9 ?k10 ?k11 ?k12 ?k13 ?k14 ?_; (case k1 => k_asm); (case k2 => k_asm); (case k3 => k_asm); (case k4 => k_inst); (case k5 => k_is); (case k6 => k_is); (case k7 => k_is); (case k8 => k_is); (case k9 => k_is); (case k10 => k_is); (case k11 => k_is); (case k12 => k_is); (case k13 => k_is); (case k14 => k_upd); k_whole; intro h' F' N'; (try k_sweep))))
local macro_rules | `(tactic| walk_at "getMethod ref") => `(tactic| (k_here; k_dflt (first
  | refine' method_instS ?k1 ?k2 ?k3 ?k4 ?k5 ?k6 ?k7 ?_; (case k1 => k_asm); (case k2 => k_asm); (case k3 => k_inst); (case k4 => k_is); (case k5 => k_is); (case k6 => k_is); (case k7 => k_get); k_whole
  | refine' method_getS ?k1 ?k2 ?_; (case k1 => k_asm); (case k2 => k_mem); k_whole)))
local macro_rules | `(tactic| walk_at "setAttr ref") => `(tactic| (k_here; k_dflt (refine' set_dictS ?k1 ?k2 ?k3 ?k4 ?k5 ?k6 ?k7 ?k8 ?k9 ?k10 ?k11 ?k12 ?k13 ?_; (case k1 => k_asm); (case k2 => k_asm); (case k3 => k_asm); (case k4 => k_inst); (case k5 => exact rfl); (case k6 => k_is); (case k7 => k_is); (case k8 => k_is); (case k9 => k_is); (case k10 => k_get); (case k11 => k_put); (case k12 => k_upd); (case k13 => exact Nat.le_of_ble_eq_true rfl); k_whole; intro h' F' N'; (try k_sweep))))
local macro_rules | `(tactic| walk_at "call builtin:dict.get") => `(tactic| (k_here; k_dflt (refine' call_get_missS ?k1 ?k2 ?k3 ?k4 ?k5 ?_; (case k1 => k_asm); (case k2 => k_mem); (case k3 => assumption); (case k4 => k_keys); (case k5 => k_get); k_whole)))
local macro_rules | `(tactic| walk_at "setItem ref str") => `(tactic| (k_here; k_dflt (refine' setItem_newS ?k1 ?k2 ?k3 ?k4 ?k5 ?k6 ?_; (case k1 => k_asm); (case k2 => k_asm); (case k3 => k_upd); (case k4 => k_keys); (case k5 => k_get); (case k6 => exact Nat.le_of_ble_eq_true rfl); k_whole; intro h' F' N'; (try dsimp only [List.cons_append, List.nil_append] at N'); (try k_sweep))))
local macro_rules | `(tactic| walk_at "exec While") => `(tactic| (k_here; refine Hold.out ?_))
local macro_rules | `(tactic| walk_at "KswEnd") => `(tactic| (refine Hold.out ?_))
local macro_rules | `(tactic| walk_at "binaryOp BitAnd int int") => `(tactic| first | with_reducible refine and_mask ?_ | with_reducible refine and_mask' ?_)
local macro_rules | `(tactic| walk_at "call ref") => `(tactic| (k_here; k_dflt (refine wpAny_call ?_; refine' code_def ?k1 ?k2 ?k3 ?k4 ?k5 ?kA ?kF ?kK ?k6 ?k7 ?k8 ?k9 ?kB ?_ ?c2 ?c3 ?c4 ?c5; (case kA => exact rfl); (case kF => exact rfl); (case kK => first | exact rfl | assumption); (case k1 => k_asm); (case k2 => k_asm); (case k3 => k_asm); (case k4 => k_asm); (case k5 => k_asm); (case k6 => k_is); (case k7 => k_is); (case k8 => ktr_room); (case k9 => first | exact BindsTo.of_eq rfl | exact binds_K (by k_in) rfl (by k_is) rfl rfl rfl); (case c5 => decide); (case kB => exact locs rfl); (case c2 => exact rfl); (case c3 => exact rfl); (case c4 => exact rfl); k_whole; intro g' L' h' FG' F' N' B' X' T'; (try dsimp only); (try k_lift B'); (try k_fold))))
local macro_rules | `(tactic| walk_at "inplaceOp RShift int int") => `(tactic| with_reducible refine shr5 ?_)
local macro_rules | `(tactic| walk_at "binaryOp LShift int int") => `(tactic| (with_reducible refine shl_one ?a ?_; (case a => omega)))
local macro_rules | `(tactic| k_all) => `(tactic| assumption)
local macro_rules | `(tactic| walk_at "call ref") => `(tactic| (k_here; (with_reducible show wpAny _ _ (call (Value.ref 200) _) _ _ _); refine Hold.out ?_))
local macro_rules | `(tactic| walk_at "call ref") => `(tactic| (k_here; (with_reducible show wpAny _ _ (call (Value.ref 193) _) _ _ _); refine Hold.out ?_))
set_option maxRecDepth 100000 in
set_option maxHeartbeats 8000000 in
theorem fes_none {w : World} {mean : ExcName → Option Value} {mg mb : Str → Option Value}
   {dp un : Nat} {gd : Option (List Code)} {cn : Str} {cs : Scope} {a : Addr} {ccd : Value} {cl : List (Str × Addr)} {outer : List Env} {A₀ : Around} {base h₀ : Heap} {L : Addr} {m : Str → Option Value} {s : Shared} {Q : Value → Shared → Prop}
   {E : Value → Shared → Prop} {x dx : Addr} {k1 k2 k3 k4 k5 k6 t1 : Tok} {v2 v4 v6 : Value} {lg : Nat} {rest : Led} {k7 k8 t7 t8 : Tok} {il : Addr} {vs : List Value} {ns : List Int} {ep : Nat} {h : Int} {th : Tok} {K : Nat}
   (hlg : lg ≤ 10) (hlg1 : 10 ≤ lg) (hi : IntsAre vs ns) (hlen : ns.length = 2 ^ lg) (hh0 : 0 ≤ h)
   (hK : ns.getD (wk lg h K).toNat 0 = -1) (hK' : ∀ j < K, ns.getD (wk lg h j).toNat 0 ≠ -1) (hlo : (dx == sysModules) = false) (hsep : ∀ p ∈ rest, p.1 ≠ dx) (hxd : @LT.lt Nat _ dx x) (hild : @LT.lt Nat _ il dx)
   (B : Below A₀ base outer h₀) (F : Fr h₀ L s.heap m) (X : (Mine.hd.heap_39 w.params).In h₀)
   (N : News h₀ L s.heap ((x, instObj 287 dx) :: (dx, dictS (tabEs w.params k1 k2 k3 k4 k5 k6 k7 k8 (.int lg t1) v2 (.ref il) v4 .none v6 (.int (2^lg) t7) (.int (2^lg-1) t8)) 8 #[none]) :: (il, listOf vs.toArray ep) :: rest))
   (T : Top Mine.hd.view_39 (looseW Mine.hd.view_39 [Str.ofString "_Entry", Str.ofString "_NOT_FOUND", Str.ofString "cached_property", Str.ofString "_HtKeys"]) mean mg mb h₀) (hk : cs.kind = .function) (hd : dp + 6 < recursionLimit) (hu : un + 60 < cLine)
   (hnone : (∀ n, IsFront h n → K < n + 32) → ∀ t h' tk', Fr h₀ L h' m → News h₀ L h' ((x, instObj 287 dx) :: (dx, dictS (tabEs w.params k1 k2 k3 k4 k5 k6 k7 k8 (.int lg t1) v2 (.ref il) v4 .none v6 (.int (2^lg) t7) (.int (2^lg-1) t8)) 8 #[none]) :: (il, listOf vs.toArray ep) :: rest) → Q (.int (wk lg h K) t) { s with heap := h', toks := tk' })
   (hnew : ∀ n, IsFront h n → n + 32 ≤ K → ∀ t rd ro h' tk', (@LT.lt Nat _ x rd ∧ @LT.lt Nat _ dx rd ∧ @LT.lt Nat _ il rd ∧ AllLt rd rest) → Fr h₀ L h' m → DII PySem.Challenge.rw_fc5025_03.row.prog w ro [(wk lg h n, wk lg h K)] → News h₀ L h' ((rd, ro) :: (x, instObj 287 dx) :: (dx, dictS (tabEs w.params k1 k2 k3 k4 k5 k6 k7 k8 (.int lg t1) v2 (.ref il) v4 (.ref rd) v6 (.int (2^lg) t7) (.int (2^lg-1) t8)) 8 #[none]) :: (il, listOf vs.toArray ep) :: rest) → Q (.int (wk lg h K) t) { s with heap := h', toks := tk' }) :
   wpAny (model PySem.Challenge.rw_fc5025_03.row.prog w) (ktrTop dp un gd cn cs L a ccd cl outer) (call (.ref 186) [.ref x, .int h th, .bool true]) Q E s := by
  have w0 := (wk_range (n := lg) (h := h) 0).1
  have w1 := (wk_range (n := lg) (h := h) 0).2
  have w2 : wk lg h 0 < (ns.length : Int) := by rw [len_cast hlen]; exact w1
  have p0 := pow_le_1024 (n := lg) (by omega)
  dsimp only [wk] at w0 w1 w2
  w_top off; revert B F X N T; k_fill; intro B F X N T
  refine wpAny_call ?_
  k_dflt (refine' code_def ?k1 ?k2 ?k3 ?k4 ?k5 ?kA ?kF ?kK ?k6 ?k7 ?k8 ?k9 ?kB ?_ ?c2 ?c3 ?c4 ?c5; (case kA => exact rfl); (case kF => exact rfl); (case kK => first | exact rfl | assumption); (case k1 => k_asm); (case k2 => k_asm); (case k3 => k_asm); (case k4 => k_asm); (case k5 => k_asm); (case k6 => k_is); (case k7 => k_is); (case k8 => ktr_room); (case k9 => first | exact BindsTo.of_eq rfl | exact binds_K (by k_in) rfl (by k_is) rfl rfl rfl); (case c5 => decide); (case kB => exact locs rfl); (case c2 => exact rfl); (case c3 => exact rfl); (case c4 => exact rfl); k_whole)
  intro g' L' h' FG' F' N' B' X' T'
  (try dsimp only)
  (try k_fold)
  k_steps
  all_goals (
    refine Hold.mk ?_
    rename Fr _ _ _ _ => lF
    rename News _ _ _ _ => lN
    refine ksw_while (σ := Nat × Tok × Tok × Tok) (fun _ => (x, instObj 287 dx) :: (dx, dictS (tabEs w.params k1 k2 k3 k4 k5 k6 k7 k8 (.int lg t1) v2 (.ref il) v4 .none v6 (.int (2^lg) t7) (.int (2^lg-1) t8)) 8 #[none]) :: (il, listOf vs.toArray ep) :: rest)
      (fun c => [(Str.ofString "ix", .int (ns.getD (wk lg h c.1).toNat 0) c.2.1), (Str.ofString "i", .int (wk lg h c.1) c.2.2.1), (Str.ofString "perturb", .int (pt h c.1) c.2.2.2)]) (fun _ => True) [] (fun c => c.1 ≤ K ∧ (0 < c.1 → pt h c.1 ≠ 0)) (fun c => K - c.1) (0, _, _, _) lF lN trivial
      (List.forall_mem_cons.mpr ⟨rfl, List.forall_mem_cons.mpr ⟨rfl, List.forall_mem_cons.mpr ⟨rfl, List.forall_mem_nil _⟩⟩⟩) ⟨Nat.zero_le _, fun h9 => absurd h9 (Nat.lt_irrefl _)⟩ ?_
    clear lF lN
    rintro ⟨k, tk1, tk2, tk3⟩ u hh tkk - ⟨hkK, hpk⟩ F N
    dsimp only at hkK hpk N ⊢
    dsimp only [kstB] at F
    have r0 := (wk_range (n := lg) (h := h) k).1
    have r1 := (wk_range (n := lg) (h := h) k).2
    have r2 : wk lg h k < (ns.length : Int) := by rw [len_cast hlen]; exact r1
    have p0 := pow_le_1024 (n := lg) (by omega)
    have q0 := (wk_range (n := lg) (h := h) (k + 1)).1
    have q1 := (wk_range (n := lg) (h := h) (k + 1)).2
    have q2 : wk lg h (k + 1) < (ns.length : Int) := by rw [len_cast hlen]; exact q1
    dsimp only [wk, pt] at q0 q1 q2
    (try k_fold)
    k_steps
    all_goals first
      | (have hne : k ≠ K := by rintro rfl; contradiction
         refine Hold.mk ?_
         rename Fr _ _ _ _ => eF
         rename News _ _ _ _ => eN
         exact ksw_end (k + 1, _, _, _) eF eN (fun _ h => h) trivial (List.forall_mem_cons.mpr ⟨rfl, List.forall_mem_cons.mpr ⟨rfl, List.forall_mem_cons.mpr ⟨rfl, List.forall_mem_nil _⟩⟩⟩) (by ksw_same) ⟨by show k + 1 ≤ K; omega, fun _ => by assumption⟩ (by show K - (k + 1) < K - k; omega))
      | (have he : k = K := by
           rcases Nat.lt_or_eq_of_le hkK with hlt | e
           · exact absurd (by assumption) (hK' k hlt)
           · exact e
         subst he
         exact hnone (fun n hn => by have := hn.lt hpk; omega) _ _ _ (by assumption) (by assumption))
      | (have hne : k ≠ K := by rintro rfl; contradiction
         refine Hold.mk ?_
         have hp : pt h (k + 1) = 0 := by assumption
         have hfr := IsFront.of hp hpk
         have e9 := wk_tl (n := lg) hp
         have hk1 : k + 1 + (K - (k + 1)) = K := by omega
         have e10 := e9 (K - (k + 1))
         rw [hk1] at e10
         refine' resume_none (K := K - (k + 1)) (by omega) hlg1 hi hlen q0 q1 (by rw [show tl lg ((wk lg h k * 5 + pt h k / 32 + 1) % 2 ^ lg) (K - (k + 1)) = wk lg h K from e10.symm]; exact hK)
           (fun j hj => by rw [show tl lg ((wk lg h k * 5 + pt h k / 32 + 1) % 2 ^ lg) j = wk lg h (k + 1 + j) from (e9 j).symm]; exact hK' _ (by omega)) hlo hsep hxd hild ?u1 ?u2 ?u3 ?u4 ?u5 ?u6 ?u7 ?u8 ?_ ?_; (case u1 => k_asm); (case u2 => k_asm); (case u3 => k_asm); (case u4 => k_asm); (case u5 => k_asm); (case u6 => first | exact rfl | assumption); (case u7 => ktr_room); (case u8 => ktr_units)
         · intro hs9 t9 h9 tk9 F9 N9
           rw [show tl lg ((wk lg h k * 5 + pt h k / 32 + 1) % 2 ^ lg) (K - (k + 1)) = wk lg h K from e10.symm]
           (try k_fold)
           k_steps
           exact hnone (fun n hn => by have := hn.eq hp hpk; omega) _ _ _ (by assumption) (by assumption)
         · intro hs9 t9 rd9 ro9 h9 tk9 lA9 F9 D9 N9
           rw [show tl lg ((wk lg h k * 5 + pt h k / 32 + 1) % 2 ^ lg) (K - (k + 1)) = wk lg h K from e10.symm] at D9 ⊢
           (try k_fold)
           k_steps
           exact hnew _ hfr (by omega) _ _ _ _ _ lA9 (by assumption) D9 (by assumption)))
end Mine
end

section
open PySem PySem.W PySem.Calls PyProof.Rows
namespace Mine
theorem has_put (c : List (Int × Int)) (k v p : Int) : kdfHas (kdfPut c k v) p = (kdfHas c p || decide (k = p)) := by
  unfold kdfPut
  split
  · rename_i h
    have e : ∀ l : List (Int × Int), kdfHas (l.map fun q => if decide (q.1 = k) then (q.1, v) else q) p = kdfHas l p := by
      intro l
      induction l with
      | nil => rfl
      | cons q l ih =>
        show (decide ((if decide (q.1 = k) then (q.1, v) else q).1 = p) || _) = (decide (q.1 = p) || kdfHas l p)
        by_cases hq : q.1 = k
        · rw [if_pos (decide_eq_true hq)]; exact congrArg _ ih
        · rw [if_neg (by simp [hq])]; exact congrArg _ ih
    rw [e]
    by_cases hp : k = p
    · subst hp
      have h1 : kdfHas c k = true := h
      simp [h1]
    · simp [hp]
  · unfold kdfHas
    rw [List.any_append]
    simp
theorem put_new_len (c : List (Int × Int)) (k v : Int) (h : kdfHas c k = false) : (kdfPut c k v).length = c.length + 1 := by
  unfold kdfPut
  rw [if_neg (by unfold kdfHas at h; rw [h]; decide)]
  simp
theorem look_put_same (c : List (Int × Int)) (k v : Int) : kdfLook (kdfPut c k v) k 0 = v := by
  unfold kdfPut
  split
  · rename_i h
    induction c with
    | nil => simp at h
    | cons q l ih =>
      unfold kdfLook at ih ⊢
      rw [List.map_cons, List.find?_cons]
      by_cases hq : q.1 = k
      · simp [hq]
      · simp only [List.any_cons, hq, decide_false, Bool.false_or] at h
        simp only [hq, decide_false, Bool.false_eq_true, if_false]
        simpa using ih h
  · rename_i h
    unfold kdfLook
    rw [List.find?_append]
    have : c.find? (fun p => decide (p.1 = k)) = none := by
      rw [List.find?_eq_none]
      intro x hx hq
      exact h (List.any_eq_true.mpr ⟨x, hx, hq⟩)
    simp [this]
theorem look_put_other (c : List (Int × Int)) (k v p : Int) (hp : p ≠ k) : kdfLook (kdfPut c k v) p 0 = kdfLook c p 0 := by
  unfold kdfPut
  split
  · unfold kdfLook
    induction c with
    | nil => rfl
    | cons q l ih =>
      rename_i h
      rw [List.map_cons, List.find?_cons, List.find?_cons]
      by_cases hq : q.1 = k
      · have h2 : ¬ k = p := fun e => hp e.symm
        simp only [hq, decide_true, if_true, h2, decide_false]
        by_cases h3 : (l.any fun p => decide (p.1 = k)) = true
        · exact ih h3
        · have e : (l.map fun q => if decide (q.1 = k) then (q.1, v) else q) = l := by
            rw [List.map_congr_left (g := id), List.map_id]
            intro x hx
            have : ¬ x.1 = k := fun e => h3 (List.any_eq_true.mpr ⟨x, hx, decide_eq_true e⟩)
            simp [this]
          rw [e]
      · simp only [hq, decide_false, Bool.false_eq_true, if_false]
        simp only [List.any_cons, hq, decide_false, Bool.false_or] at h
        by_cases h2 : q.1 = p
        · simp [h2]
        · simp only [h2, decide_false]
          simpa using ih h
  · unfold kdfLook
    rw [List.find?_append]
    have h2 : ¬ k = p := fun e => hp e.symm
    cases hc : c.find? (fun q => decide (q.1 = p)) with
    | some x => simp
    | none => simp [h2]

theorem pigeon : ∀ (N : Nat) (ks : List Int), (∀ p : Nat, p < N → (p : Int) ∈ ks) → N ≤ ks.length
  | 0, _, _ => Nat.zero_le _
  | N + 1, ks, h => by
    have h1 := pigeon N (ks.filter (fun x => decide (x ≠ (N : Int)))) fun p hp => List.mem_filter.mpr ⟨h p (by omega), by simp; omega⟩
    have h2 : (ks.filter (fun x => decide (x ≠ (N : Int)))).length < ks.length := by
      refine List.length_filter_lt_length_iff_exists.mpr ⟨(N : Int), h N (by omega), by simp⟩
    omega
theorem free_place (c : List (Int × Int)) (n : Nat) (h : c.length < 2 ^ n) : ∃ p : Int, 0 ≤ p ∧ p < 2 ^ n ∧ kdfHas c p = false := by
  by_cases hh : ∃ p : Nat, p < 2 ^ n ∧ kdfHas c p = false
  · obtain ⟨p, hp, h1⟩ := hh
    have e : ((2 ^ n : Nat) : Int) = 2 ^ n := by rw [Int.natCast_pow]; rfl
    exact ⟨p, by omega, by omega, h1⟩
  · have := pigeon (2 ^ n) (c.map (·.1)) fun p hp => by
      have h1 : kdfHas c p = true := by
        cases h9 : kdfHas c p with
        | true => rfl
        | false => exact absurd ⟨p, hp, h9⟩ hh
      obtain ⟨q, hq, h2⟩ := List.any_eq_true.mp h1
      exact List.mem_map.mpr ⟨q, hq, of_decide_eq_true h2⟩
    rw [List.length_map] at this
    omega
theorem tl_period {n : Nat} {s : Int} (h0 : 0 ≤ s) (h1 : s < 2 ^ n) (k : Nat) : tl n s (k + 2 ^ n) = tl n s k := by
  rw [tl_ty h0 h1, tl_ty h0 h1, ty_add, five]
  obtain ⟨r, hr⟩ := ty_two n
  rw [hr]
  have : (4 * (2 ^ n * (2 * r + 1)) + 1) * ty s k + 2 ^ n * (2 * r + 1) = ty s k + 2 ^ n * (4 * (2 * r + 1) * ty s k + (2 * r + 1)) := by grind
  rw [this, Int.add_mul_emod_self_left]
theorem front_ex (h : Int) (h0 : 0 ≤ h) : ∃ n, IsFront h n := by
  obtain ⟨k, hk⟩ := pt_ends h h0
  have : ∃ k, 0 < k ∧ pt h k = 0 := ⟨k + 1, by omega, pt_zero hk 1⟩
  obtain ⟨n, ⟨h1, h2⟩, h3⟩ := least this
  exact ⟨n, h1, h2, fun j h4 h5 h6 => h3 j h5 ⟨h4, h6⟩⟩
theorem front_le {h : Int} {n : Nat} (f : IsFront h n) (h0 : 0 ≤ h) (h1 : h < 9223372036854775808) : n ≤ 13 := by
  have h13 : pt h 13 = 0 := by
    show h / 32 / 32 / 32 / 32 / 32 / 32 / 32 / 32 / 32 / 32 / 32 / 32 / 32 = 0
    omega
  rcases Nat.lt_or_ge 13 n with h2 | h2
  · exact absurd h13 (f.2.2 13 (by omega) h2)
  · exact h2
/-- the first free place of a walk, by the book -/
theorem first_free {h : Int} (h0 : 0 ≤ h) (h1 : h < 9223372036854775808) {n : Nat} (hn : n ≤ 10) {c : List (Int × Int)} (hc : c.length < 2 ^ n) :
    ∃ K, K ≤ 1040 ∧ kdfHas c (wk n h K) = false ∧ ∀ j < K, kdfHas c (wk n h j) = true := by
  obtain ⟨p, p0, p1, hp⟩ := free_place c n hc
  obtain ⟨k, hk⟩ := wk_reach (n := n) h0 p0 p1
  obtain ⟨K, hK, hKj⟩ := least (p := fun k => kdfHas c (wk n h k) = false) ⟨k, by rw [hk]; exact hp⟩
  obtain ⟨r, hr⟩ := front_ex h h0
  have hr13 := front_le hr h0 h1
  have hp2 : 2 ^ n ≤ 1024 := Nat.pow_le_pow_right (n := 2) (by decide) hn
  refine ⟨K, ?_, hK, fun j hj => by
    cases h9 : kdfHas c (wk n h j) with
    | true => rfl
    | false => exact absurd h9 (hKj j hj)⟩
  rcases Nat.lt_or_ge K (r + 2 ^ n) with h2 | h2
  · omega
  · exfalso
    have e1 : wk n h K = wk n h (K - 2 ^ n) := by
      have a1 := wk_tl (n := n) hr.2.1 (K - r)
      have a2 := wk_tl (n := n) hr.2.1 (K - r - 2 ^ n)
      rw [show r + (K - r) = K by omega] at a1
      rw [show r + (K - r - 2 ^ n) = K - 2 ^ n by omega] at a2
      rw [a1, a2]
      have := tl_period (n := n) (wk_range r).1 (wk_range (h := h) r).2 (K - r - 2 ^ n)
      rw [show K - r - 2 ^ n + 2 ^ n = K - r by omega] at this
      exact this
    have hpos : 0 < 2 ^ n := Nat.pow_pos (by decide)
    rw [e1] at hK
    exact hKj _ (by omega) hK

/-- what a memory may say -/
def MemOK (lg : Nat) (c cm : List (Int × Int)) : Prop := ∀ st, kdfHas cm st = true → ∃ k0, kdfLook cm st 0 = tl lg st k0 ∧ ∀ j ≤ k0, kdfHas c (tl lg st j) = true
theorem MemOK.grow {lg : Nat} {c cm : List (Int × Int)} {k v : Int} (M : MemOK lg c cm) : MemOK lg (kdfPut c k v) cm := fun st hs => by
  obtain ⟨k0, h1, h2⟩ := M st hs
  exact ⟨k0, h1, fun j hj => by rw [has_put, h2 j hj]; rfl⟩
theorem MemOK.put {lg : Nat} {h v : Int} {c cm : List (Int × Int)} {n K : Nat} (M : MemOK lg c cm) (hn : pt h n = 0) (hnK : n ≤ K) (hK : ∀ j < K, kdfHas c (wk lg h j) = true) :
    MemOK lg (kdfPut c (wk lg h K) v) (kdfPut cm (wk lg h n) (wk lg h K)) := fun st hs => by
  by_cases e : st = wk lg h n
  · subst e
    refine ⟨K - n, ?_, fun j hj => ?_⟩
    · rw [look_put_same, ← wk_tl hn, show n + (K - n) = K by omega]
    · rw [← wk_tl hn, has_put]
      rcases Nat.lt_or_ge (n + j) K with h1 | h1
      · rw [hK _ h1]; rfl
      · rw [show n + j = K by omega]; simp
  · rw [has_put, Bool.or_eq_true] at hs
    rcases hs with hs | hs
    · obtain ⟨k0, h1, h2⟩ := M.grow (k := wk lg h K) (v := v) st hs
      exact ⟨k0, by rw [look_put_other _ _ _ _ e]; exact h1, h2⟩
    · exact absurd (of_decide_eq_true hs).symm e
theorem MemOK.nil {lg : Nat} {c : List (Int × Int)} : MemOK lg c [] := fun st hs => by simp [kdfHas] at hs
theorem put_nil (k v : Int) : kdfPut [] k v = [(k, v)] := rfl
theorem MemOK.hit {lg : Nat} {h : Int} {c cm : List (Int × Int)} {n K : Nat} (M : MemOK lg c cm) (hn : pt h n = 0) (hnK : n ≤ K) (hK : kdfHas c (wk lg h K) = false) (hs : kdfHas cm (wk lg h n) = true) :
    ∃ k0, n + k0 < K ∧ kdfLook cm (wk lg h n) 0 = tl lg (wk lg h n) k0 := by
  obtain ⟨k0, h1, h2⟩ := M _ hs
  refine ⟨k0, ?_, h1⟩
  rcases Nat.lt_or_ge (n + k0) K with h3 | h3
  · exact h3
  · have := h2 (K - n) (by omega)
    rw [← wk_tl hn, show n + (K - n) = K by omega, hK] at this
    cases this

/-- the list of places by the book -/
structure Places (lg : Nat) (ns : List Int) (c : List (Int × Int)) : Prop where
  len : ns.length = 2 ^ lg
  rel : ∀ p : Int, 0 ≤ p → p < 2 ^ lg → ns.getD p.toNat 0 = if kdfHas c p then -2 else -1
theorem Places.free {lg : Nat} {ns : List Int} {c : List (Int × Int)} (P : Places lg ns c) {p : Int} (h0 : 0 ≤ p) (h1 : p < 2 ^ lg) (h : kdfHas c p = false) : ns.getD p.toNat 0 = -1 := by rw [P.rel p h0 h1, h]; rfl
theorem Places.taken {lg : Nat} {ns : List Int} {c : List (Int × Int)} (P : Places lg ns c) {p : Int} (h0 : 0 ≤ p) (h1 : p < 2 ^ lg) (h : kdfHas c p = true) : ns.getD p.toNat 0 ≠ -1 := by rw [P.rel p h0 h1, h]; decide
theorem Places.put {lg : Nat} {ns : List Int} {c : List (Int × Int)} (P : Places lg ns c) {q v : Int} (h0 : 0 ≤ q) (h1 : q < 2 ^ lg) : Places lg (ns.set q.toNat (-2)) (kdfPut c q v) := by
  refine ⟨by rw [List.length_set]; exact P.len, fun p p0 p1 => ?_⟩
  have hl : p.toNat < ns.length := by rw [P.len]; have e : ((2 ^ lg : Nat) : Int) = 2 ^ lg := by { rw [Int.natCast_pow]; rfl }; omega
  have hb := P.rel p p0 p1
  rw [has_put]
  by_cases e : q = p
  · subst e
    simp [hl]
  · have e2 : ¬ q.toNat = p.toNat := by omega
    have : (ns.set q.toNat (-2)).getD p.toNat 0 = ns.getD p.toNat 0 := by
      simp only [List.getD_eq_getElem?_getD, List.getElem?_set, e2, if_false]
    rw [this, hb]
    simp [e]
theorem Places.start {lg : Nat} : Places lg (List.replicate (2 ^ lg) (-1)) [] := ⟨by simp, fun p h0 h1 => by
  have : p.toNat < 2 ^ lg := by have e : ((2 ^ lg : Nat) : Int) = 2 ^ lg := by { rw [Int.natCast_pow]; rfl }
                                omega
  simp [kdfHas, this]⟩
end Mine
end

section
open PySem PySem.W PySem.Calls PyProof.Rows
namespace Mine
local macro_rules | `(tactic| walk_at "getAttr ref") => `(tactic| (k_here; k_dflt (refine' get_lateS ?k1 ?k2 ?k3 ?k4 ?k5 ?k6 ?k7 ?k8 ?k9 ?k10 ?_; (case k1 => k_asm); (case k2 => k_asm); (case k3 => k_inst); (case k4 => k_is); (case k5 => k_is); (case k6 => k_is); (case k7 => k_is); (case k8 => k_is); (case k9 => decide +kernel); (case k10 => k_get))))
local macro_rules | `(tactic| walk_at "getAttr ref") => `(tactic| (k_here; k_dflt (first
  | refine' get_shadowS ?k1 ?k2 ?k3 ?k4 ?k5 ?k6 ?k7 ?k8 ?k9 ?k10 ?_; (case k1 => k_asm); (case k2 => k_asm); (case k3 => k_inst); (case k4 => k_is); (case k5 => k_is); (case k6 => k_is); (case k7 => k_is); (case k8 => k_is); (case k9 => k_get); (case k10 => k_handed); k_whole
  | refine' get_ownS ?k1 ?k2 ?k3 ?k4 ?k5 ?k6 ?k7 ?k8 ?k9 ?_; (case k1 => k_asm); (case k2 => k_asm); (case k3 => k_inst); (case k4 => k_is); (case k5 => k_is); (case k6 => k_is); (case k7 => k_is); (case k8 => k_get); (case k9 => k_handed); k_whole)))
local macro_rules | `(tactic| walk_at "getAttr ref") => `(tactic| (k_here; (with_reducible show wpAny _ _ (getAttr (Value.ref _) (PySem.Str.ofString "__dict__") _) _ _ _); k_dflt (refine' get_dictS ?k1 ?k2 ?k3 ?k4 ?k5 ?k6 ?k7 ?k8 ?k9 ?k10 ?k11 ?k12 ?k13 ?k14 ?_; (case k1 => k_asm); (case k2 => k_asm); (case k3 => k_asm); (case k4 => k_inst); (case k5 => k_is); (case k6 => k_is); (case k7 => k_is); (case k8 => k_is); (case k9 => k_is); (case k10 => k_is); (case k11 => k_is); (case k12 => k_is); (case k13 => k_is); (case k14 => k_upd); k_whole; intro h' F' N'; (try k_sweep))))
local macro_rules | `(tactic| walk_at "getMethod ref") => `(tactic| (k_here; k_dflt (first
  | refine' method_instS ?k1 ?k2 ?k3 ?k4 ?k5 ?k6 ?k7 ?_; (case k1 => k_asm); (case k2 => k_asm); (case k3 => k_inst); (case k4 => k_is); (case k5 => k_is); (case k6 => k_is); (case k7 => k_get); k_whole
  | refine' method_getS ?k1 ?k2 ?_; (case k1 => k_asm); (case k2 => k_mem); k_whole)))
local macro_rules | `(tactic| walk_at "setAttr ref") => `(tactic| (k_here; k_dflt (refine' set_dictS ?k1 ?k2 ?k3 ?k4 ?k5 ?k6 ?k7 ?k8 ?k9 ?k10 ?k11 ?k12 ?k13 ?_; (case k1 => k_asm); (case k2 => k_asm); (case k3 => k_asm); (case k4 => k_inst); (case k5 => exact rfl); (case k6 => k_is); (case k7 => k_is); (case k8 => k_is); (case k9 => k_is); (case k10 => k_get); (case k11 => k_put); (case k12 => k_upd); (case k13 => exact Nat.le_of_ble_eq_true rfl); k_whole; intro h' F' N'; (try k_sweep))))
local macro_rules | `(tactic| walk_at "call builtin:dict.get") => `(tactic| (k_here; k_dflt (refine' call_get_missS ?k1 ?k2 ?k3 ?k4 ?k5 ?_; (case k1 => k_asm); (case k2 => k_mem); (case k3 => assumption); (case k4 => k_keys); (case k5 => k_get); k_whole)))
local macro_rules | `(tactic| walk_at "setItem ref str") => `(tactic| (k_here; k_dflt (refine' setItem_newS ?k1 ?k2 ?k3 ?k4 ?k5 ?k6 ?_; (case k1 => k_asm); (case k2 => k_asm); (case k3 => k_upd); (case k4 => k_keys); (case k5 => k_get); (case k6 => exact Nat.le_of_ble_eq_true rfl); k_whole; intro h' F' N'; (try dsimp only [List.cons_append, List.nil_append] at N'); (try k_sweep))))
local macro_rules | `(tactic| walk_at "exec While") => `(tactic| (k_here; refine Hold.out ?_))
local macro_rules | `(tactic| walk_at "KswEnd") => `(tactic| (refine Hold.out ?_))
local macro_rules | `(tactic| walk_at "binaryOp BitAnd int int") => `(tactic| first | with_reducible refine and_mask ?_ | with_reducible refine and_mask' ?_)
local macro_rules | `(tactic| walk_at "call ref") => `(tactic| (k_here; k_dflt (refine wpAny_call ?_; refine' code_def ?k1 ?k2 ?k3 ?k4 ?k5 ?kA ?kF ?kK ?k6 ?k7 ?k8 ?k9 ?kB ?_ ?c2 ?c3 ?c4 ?c5; (case kA => exact rfl); (case kF => exact rfl); (case kK => first | exact rfl | assumption); (case k1 => k_asm); (case k2 => k_asm); (case k3 => k_asm); (case k4 => k_asm); (case k5 => k_asm); (case k6 => k_is); (case k7 => k_is); (case k8 => ktr_room); (case k9 => first | exact BindsTo.of_eq rfl | exact binds_K (by k_in) rfl (by k_is) rfl rfl rfl); (case c5 => decide); (case kB => exact locs rfl); (case c2 => exact rfl); (case c3 => exact rfl); (case c4 => exact rfl); k_whole; intro g' L' h' FG' F' N' B' X' T'; (try dsimp only); (try k_lift B'); (try k_fold))))
local macro_rules | `(tactic| walk_at "inplaceOp RShift int int") => `(tactic| with_reducible refine shr5 ?_)
local macro_rules | `(tactic| walk_at "binaryOp LShift int int") => `(tactic| (with_reducible refine shl_one ?a ?_; (case a => omega)))
local macro_rules | `(tactic| k_all) => `(tactic| assumption)
local macro_rules | `(tactic| walk_at "call ref") => `(tactic| (k_here; (with_reducible show wpAny _ _ (call (Value.ref 200) _) _ _ _); refine Hold.out ?_))
local macro_rules | `(tactic| walk_at "call ref") => `(tactic| (k_here; (with_reducible show wpAny _ _ (call (Value.ref 193) _) _ _ _); refine Hold.out ?_))
set_option maxRecDepth 100000 in
set_option maxHeartbeats 8000000 in
theorem fes_some {w : World} {mean : ExcName → Option Value} {mg mb : Str → Option Value}
   {dp un : Nat} {gd : Option (List Code)} {cn : Str} {cs : Scope} {a : Addr} {ccd : Value} {cl : List (Str × Addr)} {outer : List Env} {A₀ : Around} {base h₀ : Heap} {L : Addr} {m : Str → Option Value} {s : Shared} {Q : Value → Shared → Prop}
   {E : Value → Shared → Prop} {x dx : Addr} {k1 k2 k3 k4 k5 k6 t1 : Tok} {v2 v4 v6 : Value} {lg : Nat} {rest : Led} {k7 k8 t7 t8 : Tok} {il : Addr} {vs : List Value} {ns : List Int} {ep : Nat} {h : Int} {th : Tok} {K : Nat} {rd : Addr} {ro : Obj} {c : List (Int × Int)}
   (hlg : lg ≤ 10) (hlg1 : 10 ≤ lg) (hi : IntsAre vs ns) (hlen : ns.length = 2 ^ lg) (hh0 : 0 ≤ h)
   (hK : ns.getD (wk lg h K).toNat 0 = -1) (hK' : ∀ j < K, ns.getD (wk lg h j).toNat 0 ≠ -1)
   (hD : DII PySem.Challenge.rw_fc5025_03.row.prog w ro c) (hc : c.length ≤ 1000) (hmem : ∀ n, IsFront h n → n ≤ K → kdfHas c (wk lg h n) = true → ∃ k0, n + k0 < K ∧ kdfLook c (wk lg h n) 0 = tl lg (wk lg h n) k0) (hlo : (dx == sysModules) = false) (hsep : ∀ p ∈ rest, p.1 ≠ dx) (hxd : @LT.lt Nat _ dx x) (hild : @LT.lt Nat _ il dx)
   (hlr : (rd == sysModules) = false) (hrx : @Ne Nat rd x) (hrd : @Ne Nat rd dx) (hri : @Ne Nat rd il) (hsepr : ∀ p ∈ rest, p.1 ≠ rd)
   (B : Below A₀ base outer h₀) (F : Fr h₀ L s.heap m) (X : (Mine.hd.heap_39 w.params).In h₀)
   (N : News h₀ L s.heap ((x, instObj 287 dx) :: (dx, dictS (tabEs w.params k1 k2 k3 k4 k5 k6 k7 k8 (.int lg t1) v2 (.ref il) v4 (.ref rd) v6 (.int (2^lg) t7) (.int (2^lg-1) t8)) 8 #[none]) :: (il, listOf vs.toArray ep) :: (rd, ro) :: rest))
   (T : Top Mine.hd.view_39 (looseW Mine.hd.view_39 [Str.ofString "_Entry", Str.ofString "_NOT_FOUND", Str.ofString "cached_property", Str.ofString "_HtKeys"]) mean mg mb h₀) (hk : cs.kind = .function) (hd : dp + 6 < recursionLimit) (hu : un + 60 < cLine)
   (hnot : (∀ n, IsFront h n → K < n) → ∀ t h' tk', Fr h₀ L h' m → News h₀ L h' ((x, instObj 287 dx) :: (dx, dictS (tabEs w.params k1 k2 k3 k4 k5 k6 k7 k8 (.int lg t1) v2 (.ref il) v4 (.ref rd) v6 (.int (2^lg) t7) (.int (2^lg-1) t8)) 8 #[none]) :: (il, listOf vs.toArray ep) :: (rd, ro) :: rest) → Q (.int (wk lg h K) t) { s with heap := h', toks := tk' })
   (hput : ∀ n, IsFront h n → n ≤ K → ∀ t ro' h' tk', Fr h₀ L h' m → DII PySem.Challenge.rw_fc5025_03.row.prog w ro' (kdfPut c (wk lg h n) (wk lg h K)) → News h₀ L h' ((x, instObj 287 dx) :: (dx, dictS (tabEs w.params k1 k2 k3 k4 k5 k6 k7 k8 (.int lg t1) v2 (.ref il) v4 (.ref rd) v6 (.int (2^lg) t7) (.int (2^lg-1) t8)) 8 #[none]) :: (il, listOf vs.toArray ep) :: (rd, ro') :: rest) → Q (.int (wk lg h K) t) { s with heap := h', toks := tk' }) :
   wpAny (model PySem.Challenge.rw_fc5025_03.row.prog w) (ktrTop dp un gd cn cs L a ccd cl outer) (call (.ref 186) [.ref x, .int h th, .bool true]) Q E s := by
  have w0 := (wk_range (n := lg) (h := h) 0).1
  have w1 := (wk_range (n := lg) (h := h) 0).2
  have w2 : wk lg h 0 < (ns.length : Int) := by rw [len_cast hlen]; exact w1
  have p0 := pow_le_1024 (n := lg) (by omega)
  dsimp only [wk] at w0 w1 w2
  w_top off; revert B F X N T; k_fill; intro B F X N T
  refine wpAny_call ?_
  k_dflt (refine' code_def ?k1 ?k2 ?k3 ?k4 ?k5 ?kA ?kF ?kK ?k6 ?k7 ?k8 ?k9 ?kB ?_ ?c2 ?c3 ?c4 ?c5; (case kA => exact rfl); (case kF => exact rfl); (case kK => first | exact rfl | assumption); (case k1 => k_asm); (case k2 => k_asm); (case k3 => k_asm); (case k4 => k_asm); (case k5 => k_asm); (case k6 => k_is); (case k7 => k_is); (case k8 => ktr_room); (case k9 => first | exact BindsTo.of_eq rfl | exact binds_K (by k_in) rfl (by k_is) rfl rfl rfl); (case c5 => decide); (case kB => exact locs rfl); (case c2 => exact rfl); (case c3 => exact rfl); (case c4 => exact rfl); k_whole)
  intro g' L' h' FG' F' N' B' X' T'
  (try dsimp only)
  (try k_fold)
  k_steps
  have hsep9 : ∀ p ∈ (rd, ro) :: rest, p.1 ≠ dx := List.forall_mem_cons.mpr ⟨hrd, hsep⟩
  all_goals (
    refine Hold.mk ?_
    rename Fr _ _ _ _ => lF
    rename News _ _ _ _ => lN
    refine ksw_while (σ := Nat × Tok × Tok × Tok) (fun _ => (x, instObj 287 dx) :: (dx, dictS (tabEs w.params k1 k2 k3 k4 k5 k6 k7 k8 (.int lg t1) v2 (.ref il) v4 (.ref rd) v6 (.int (2^lg) t7) (.int (2^lg-1) t8)) 8 #[none]) :: (il, listOf vs.toArray ep) :: (rd, ro) :: rest)
      (fun c => [(Str.ofString "ix", .int (ns.getD (wk lg h c.1).toNat 0) c.2.1), (Str.ofString "i", .int (wk lg h c.1) c.2.2.1), (Str.ofString "perturb", .int (pt h c.1) c.2.2.2)]) (fun _ => True) [] (fun c => c.1 ≤ K ∧ (0 < c.1 → pt h c.1 ≠ 0)) (fun c => K - c.1) (0, _, _, _) lF lN trivial
      (List.forall_mem_cons.mpr ⟨rfl, List.forall_mem_cons.mpr ⟨rfl, List.forall_mem_cons.mpr ⟨rfl, List.forall_mem_nil _⟩⟩⟩) ⟨Nat.zero_le _, fun h9 => absurd h9 (Nat.lt_irrefl _)⟩ ?_
    clear lF lN
    rintro ⟨k, tk1, tk2, tk3⟩ u hh tkk - ⟨hkK, hpk⟩ F N
    dsimp only at hkK hpk N ⊢
    dsimp only [kstB] at F
    have r0 := (wk_range (n := lg) (h := h) k).1
    have r1 := (wk_range (n := lg) (h := h) k).2
    have r2 : wk lg h k < (ns.length : Int) := by rw [len_cast hlen]; exact r1
    have p0 := pow_le_1024 (n := lg) (by omega)
    have q0 := (wk_range (n := lg) (h := h) (k + 1)).1
    have q1 := (wk_range (n := lg) (h := h) (k + 1)).2
    have q2 : wk lg h (k + 1) < (ns.length : Int) := by rw [len_cast hlen]; exact q1
    dsimp only [wk, pt] at q0 q1 q2
    (try k_fold)
    k_steps
    all_goals first
      | (have hne : k ≠ K := by rintro rfl; contradiction
         refine Hold.mk ?_
         rename Fr _ _ _ _ => eF
         rename News _ _ _ _ => eN
         exact ksw_end (k + 1, _, _, _) eF eN (fun _ h => h) trivial (List.forall_mem_cons.mpr ⟨rfl, List.forall_mem_cons.mpr ⟨rfl, List.forall_mem_cons.mpr ⟨rfl, List.forall_mem_nil _⟩⟩⟩) (by ksw_same) ⟨by show k + 1 ≤ K; omega, fun _ => by assumption⟩ (by show K - (k + 1) < K - k; omega))
      | (have he : k = K := by
           rcases Nat.lt_or_eq_of_le hkK with hlt | e
           · exact absurd (by assumption) (hK' k hlt)
           · exact e
         subst he
         exact hnot (fun n hn => hn.lt hpk) _ _ _ (by assumption) (by assumption))
      | (have hne : k ≠ K := by rintro rfl; contradiction
         refine Hold.mk ?_
         have hp : pt h (k + 1) = 0 := by assumption
         have hfr := IsFront.of hp hpk
         have e9 := wk_tl (n := lg) hp
         have hk1 : k + 1 + (K - (k + 1)) = K := by omega
         have e10 := e9 (K - (k + 1))
         rw [hk1] at e10
         refine' resume_some (c := c) (K := K - (k + 1)) (by omega) hlg1 hi hlen q0 q1 (by rw [show tl lg ((wk lg h k * 5 + pt h k / 32 + 1) % 2 ^ lg) (K - (k + 1)) = wk lg h K from e10.symm]; exact hK)
           (fun j hj => by rw [show tl lg ((wk lg h k * 5 + pt h k / 32 + 1) % 2 ^ lg) j = wk lg h (k + 1 + j) from (e9 j).symm]; exact hK' _ (by omega)) hD hc (fun hm9 => by obtain ⟨k0, a1, a2⟩ := hmem _ hfr (by omega) hm9; exact ⟨k0, by omega, a2⟩) hlo hsep hxd hild hlr hrx hrd hri hsepr ?u1 ?u2 ?u3 ?u4 ?u5 ?u6 ?u7 ?u8 ?_; (case u1 => k_asm); (case u2 => k_asm); (case u3 => k_asm); (case u4 => k_asm); (case u5 => k_asm); (case u6 => first | exact rfl | assumption); (case u7 => ktr_room); (case u8 => ktr_units)
         intro t9 ro9 h9 tk9 F9 D9 N9
         rw [show tl lg ((wk lg h k * 5 + pt h k / 32 + 1) % 2 ^ lg) (K - (k + 1)) = wk lg h K from e10.symm] at D9 ⊢
         (try k_fold)
         k_steps
         exact hput _ hfr (by omega) _ _ _ _ (by assumption) D9 (by assumption)))
end Mine
end

section
open PySem PySem.W PySem.Calls PyProof.Rows
namespace Mine
local macro_rules | `(tactic| walk_at "MinePad") => `(tactic| skip)
local macro_rules | `(tactic| walk_at "getAttr ref") => `(tactic| (k_here; k_dflt (refine' get_lateS ?k1 ?k2 ?k3 ?k4 ?k5 ?k6 ?k7 ?k8 ?k9 ?k10 ?_; (case k1 => k_asm); (case k2 => k_asm); (case k3 => k_inst); (case k4 => k_is); (case k5 => k_is); (case k6 => k_is); (case k7 => k_is); (case k8 => k_is); (case k9 => decide +kernel); (case k10 => k_get))))
local macro_rules | `(tactic| walk_at "getAttr ref") => `(tactic| (k_here; k_dflt (first
  | refine' get_shadowS ?k1 ?k2 ?k3 ?k4 ?k5 ?k6 ?k7 ?k8 ?k9 ?k10 ?_; (case k1 => k_asm); (case k2 => k_asm); (case k3 => k_inst); (case k4 => k_is); (case k5 => k_is); (case k6 => k_is); (case k7 => k_is); (case k8 => k_is); (case k9 => k_get); (case k10 => k_handed); k_whole
  | refine' get_ownS ?k1 ?k2 ?k3 ?k4 ?k5 ?k6 ?k7 ?k8 ?k9 ?_; (case k1 => k_asm); (case k2 => k_asm); (case k3 => k_inst); (case k4 => k_is); (case k5 => k_is); (case k6 => k_is); (case k7 => k_is); (case k8 => k_get); (case k9 => k_handed); k_whole)))
local macro_rules | `(tactic| walk_at "getAttr ref") => `(tactic| (k_here; (with_reducible show wpAny _ _ (getAttr (Value.ref _) (PySem.Str.ofString "__dict__") _) _ _ _); k_dflt (refine' get_dictS ?k1 ?k2 ?k3 ?k4 ?k5 ?k6 ?k7 ?k8 ?k9 ?k10 ?k11 ?k12 ?k13 ?k14 ?_; (case k1 => k_asm); (case k2 => k_asm); (case k3 => k_asm); (case k4 => k_inst); (case k5 => k_is); (case k6 => k_is); (case k7 => k_is); (case k8 => k_is); (case k9 => k_is); (case k10 => k_is); (case k11 => k_is); (case k12 => k_is); (case k13 => k_is); (case k14 => k_upd); k_whole; intro h' F' N'; (try k_sweep))))
local macro_rules | `(tactic| walk_at "getMethod ref") => `(tactic| (k_here; k_dflt (first
  | refine' method_instS ?k1 ?k2 ?k3 ?k4 ?k5 ?k6 ?k7 ?_; (case k1 => k_asm); (case k2 => k_asm); (case k3 => k_inst); (case k4 => k_is); (case k5 => k_is); (case k6 => k_is); (case k7 => k_get); k_whole
  | refine' method_getS ?k1 ?k2 ?_; (case k1 => k_asm); (case k2 => k_mem); k_whole)))
local macro_rules | `(tactic| walk_at "setAttr ref") => `(tactic| (k_here; k_dflt (refine' set_dictS ?k1 ?k2 ?k3 ?k4 ?k5 ?k6 ?k7 ?k8 ?k9 ?k10 ?k11 ?k12 ?k13 ?_; (case k1 => k_asm); (case k2 => k_asm); (case k3 => k_asm); (case k4 => k_inst); (case k5 => exact rfl); (case k6 => k_is); (case k7 => k_is); (case k8 => k_is); (case k9 => k_is); (case k10 => k_get); (case k11 => k_put); (case k12 => k_upd); (case k13 => exact Nat.le_of_ble_eq_true rfl); k_whole; intro h' F' N'; (try k_sweep))))
local macro_rules | `(tactic| walk_at "call builtin:dict.get") => `(tactic| (k_here; k_dflt (refine' call_get_missS ?k1 ?k2 ?k3 ?k4 ?k5 ?_; (case k1 => k_asm); (case k2 => k_mem); (case k3 => assumption); (case k4 => k_keys); (case k5 => k_get); k_whole)))
local macro_rules | `(tactic| walk_at "setItem ref str") => `(tactic| (k_here; k_dflt (refine' setItem_newS ?k1 ?k2 ?k3 ?k4 ?k5 ?k6 ?_; (case k1 => k_asm); (case k2 => k_asm); (case k3 => k_upd); (case k4 => k_keys); (case k5 => k_get); (case k6 => exact Nat.le_of_ble_eq_true rfl); k_whole; intro h' F' N'; (try dsimp only [List.cons_append, List.nil_append] at N'); (try k_sweep))))
local macro_rules | `(tactic| walk_at "exec While") => `(tactic| (k_here; refine Hold.out ?_))
local macro_rules | `(tactic| walk_at "KswEnd") => `(tactic| (refine Hold.out ?_))
local macro_rules | `(tactic| walk_at "binaryOp BitAnd int int") => `(tactic| first | with_reducible refine and_mask ?_ | with_reducible refine and_mask' ?_)
local macro_rules | `(tactic| walk_at "call ref") => `(tactic| (k_here; k_dflt (refine wpAny_call ?_; refine' code_def ?k1 ?k2 ?k3 ?k4 ?k5 ?kA ?kF ?kK ?k6 ?k7 ?k8 ?k9 ?kB ?_ ?c2 ?c3 ?c4 ?c5; (case kA => exact rfl); (case kF => exact rfl); (case kK => first | exact rfl | assumption); (case k1 => k_asm); (case k2 => k_asm); (case k3 => k_asm); (case k4 => k_asm); (case k5 => k_asm); (case k6 => k_is); (case k7 => k_is); (case k8 => ktr_room); (case k9 => first | exact BindsTo.of_eq rfl | exact binds_K (by k_in) rfl (by k_is) rfl rfl rfl); (case c5 => decide); (case kB => exact locs rfl); (case c2 => exact rfl); (case c3 => exact rfl); (case c4 => exact rfl); k_whole; intro g' L' h' FG' F' N' B' X' T'; (try dsimp only); (try k_lift B'); (try k_fold))))
local macro_rules | `(tactic| walk_at "inplaceOp RShift int int") => `(tactic| with_reducible refine shr5 ?_)
local macro_rules | `(tactic| walk_at "binaryOp LShift int int") => `(tactic| (with_reducible refine shl_one ?a ?_; (case a => omega)))
local macro_rules | `(tactic| k_all) => `(tactic| assumption)
local macro_rules | `(tactic| walk_at "call ref") => `(tactic| (k_here; (with_reducible show wpAny _ _ (call (Value.ref 200) _) _ _ _); refine Hold.out ?_))
local macro_rules | `(tactic| walk_at "call ref") => `(tactic| (k_here; (with_reducible show wpAny _ _ (call (Value.ref 193) _) _ _ _); refine Hold.out ?_))
set_option maxRecDepth 100000 in
set_option maxHeartbeats 8000000 in
theorem fes_cold {w : World} {mean : ExcName → Option Value} {mg mb : Str → Option Value}
   {dp un : Nat} {gd : Option (List Code)} {cn : Str} {cs : Scope} {a : Addr} {ccd : Value} {cl : List (Str × Addr)} {outer : List Env} {A₀ : Around} {base h₀ : Heap} {L : Addr} {m : Str → Option Value} {s : Shared} {Q : Value → Shared → Prop}
   {Γ : Ctx} (hΓ : InOK Γ (ktrTop dp un gd cn cs L a ccd cl outer)) {x dx : Addr} {k1 k2 k3 k4 k5 k6 t1 : Tok} {v2 v4 v6 : Value} {lg : Nat} {rest : Led} {il : Addr} {vs : List Value} {ns : List Int} {ep : Nat} {h : Int} {th : Tok} {K : Nat}
   (hlg : lg ≤ 10) (hlg1 : 10 ≤ lg) (hi : IntsAre vs ns) (hlen : ns.length = 2 ^ lg) (hh0 : 0 ≤ h)
   (hK : ns.getD (wk lg h K).toNat 0 = -1) (hK' : ∀ j < K, ns.getD (wk lg h j).toNat 0 ≠ -1) (hlo : (dx == sysModules) = false) (hsep : ∀ p ∈ rest, p.1 ≠ dx) (hxd : @LT.lt Nat _ dx x) (hild : @LT.lt Nat _ il dx)
   (B : Below A₀ base outer h₀) (F : Fr h₀ L s.heap m) (X : (Mine.hd.heap_39 w.params).In h₀)
   (N : News h₀ L s.heap ((x, instObj 287 dx) :: (dx, dictOf (coldEs w.params k1 k2 k3 k4 k5 k6 (.int lg t1) v2 (.ref il) v4 .none v6) 6) :: (il, listOf vs.toArray ep) :: rest))
   (T : Top Mine.hd.view_39 (looseW Mine.hd.view_39 [Str.ofString "_Entry", Str.ofString "_NOT_FOUND", Str.ofString "cached_property", Str.ofString "_HtKeys"]) mean mg mb h₀) (hk : cs.kind = .function) (hd : dp + 8 < recursionLimit) (hu : un + 120 < cLine)
   (hnone : (∀ n, IsFront h n → K < n + 32) → ∀ k7 k8 t7 t8, ∀ t h' tk', Fr h₀ L h' m → News h₀ L h' ((x, instObj 287 dx) :: (dx, dictS (tabEs w.params k1 k2 k3 k4 k5 k6 k7 k8 (.int lg t1) v2 (.ref il) v4 .none v6 (.int (2^lg) t7) (.int (2^lg-1) t8)) 8 #[none]) :: (il, listOf vs.toArray ep) :: rest) → Q (.int (wk lg h K) t) { s with heap := h', toks := tk' })
   (hnew : ∀ n, IsFront h n → n + 32 ≤ K → ∀ k7 k8 t7 t8, ∀ t rd ro h' tk', (@LT.lt Nat _ x rd ∧ @LT.lt Nat _ dx rd ∧ @LT.lt Nat _ il rd ∧ AllLt rd rest) → Fr h₀ L h' m → DII PySem.Challenge.rw_fc5025_03.row.prog w ro [(wk lg h n, wk lg h K)] → News h₀ L h' ((rd, ro) :: (x, instObj 287 dx) :: (dx, dictS (tabEs w.params k1 k2 k3 k4 k5 k6 k7 k8 (.int lg t1) v2 (.ref il) v4 (.ref rd) v6 (.int (2^lg) t7) (.int (2^lg-1) t8)) 8 #[none]) :: (il, listOf vs.toArray ep) :: rest) → Q (.int (wk lg h K) t) { s with heap := h', toks := tk' }) :
   wpAt (model PySem.Challenge.rw_fc5025_03.row.prog w) Γ (call (.ref 186) [.ref x, .int h th, .bool true]) Q s := by
  have w0 := (wk_range (n := lg) (h := h) 0).1
  have w1 := (wk_range (n := lg) (h := h) 0).2
  have w2 : wk lg h 0 < (ns.length : Int) := by rw [len_cast hlen]; exact w1
  have p0 := pow_le_1024 (n := lg) (by omega)
  dsimp only [wk] at w0 w1 w2
  w_top off; revert B F X N T; k_fill; intro B F X N T
  refine at_call fun p1 => ?_
  (k_dflt (refine' codeAt_defX rfl ?kG ?k1 ?k2 ?k3 ?k4 ?k5 ?kA ?kF ?kK ?k6 ?k7 ?k8 ?k9 ?kB ?_ ?c2 ?c3 ?c4 ?c5; (case kG => exact hΓ.enter _ p1); (case kA => exact rfl); (case kF => exact rfl); (case kK => first | exact rfl | assumption); (case k1 => k_asm); (case k2 => k_asm); (case k3 => k_asm); (case k4 => k_asm); (case k5 => k_asm); (case k6 => k_is); (case k7 => k_is); (case k8 => ktr_room); (case k9 => first | exact BindsTo.of_eq rfl | exact binds_K (by k_in) rfl (by k_is) rfl rfl rfl); (case c5 => decide); (case kB => exact locs rfl); (case c2 => exact rfl); (case c3 => exact rfl); (case c4 => exact rfl)))
  intro g' L' h' Γ2 FG' F' N' B' X' T' h2
  refine at_execs_cons (at_Assign_Name h2 (at_Attribute_name h2 ?_))
  (try k_fold)
  k_steps
  refine' mask_cold (lg := lg) (rest := (il, listOf vs.toArray ep) :: rest) h2 (by omega) hlo (List.forall_mem_cons.mpr ⟨Nat.ne_of_lt hild, hsep⟩) hxd ?u1 ?u2 ?u3 ?u4 ?u5 ?u6 ?u7 ?u8 ?_; (case u1 => k_asm); (case u2 => k_asm); (case u3 => k_asm); (case u4 => k_asm); (case u5 => k_asm); (case u6 => first | exact rfl | assumption); (case u7 => ktr_room); (case u8 => ktr_units)
  intro k7 k8 t7 t8 h6 tk6 F6 N6
  (try k_fold)
  k_steps
  refine at_any h2 ?_
  (try k_fold)
  k_steps
  all_goals (
    refine Hold.mk ?_
    rename Fr _ _ _ _ => lF
    rename News _ _ _ _ => lN
    refine ksw_while (σ := Nat × Tok × Tok × Tok) (fun _ => (x, instObj 287 dx) :: (dx, dictS (tabEs w.params k1 k2 k3 k4 k5 k6 k7 k8 (.int lg t1) v2 (.ref il) v4 .none v6 (.int (2^lg) t7) (.int (2^lg-1) t8)) 8 #[none]) :: (il, listOf vs.toArray ep) :: rest)
      (fun c => [(Str.ofString "ix", .int (ns.getD (wk lg h c.1).toNat 0) c.2.1), (Str.ofString "i", .int (wk lg h c.1) c.2.2.1), (Str.ofString "perturb", .int (pt h c.1) c.2.2.2)]) (fun _ => True) [] (fun c => c.1 ≤ K ∧ (0 < c.1 → pt h c.1 ≠ 0)) (fun c => K - c.1) (0, _, _, _) lF lN trivial
      (List.forall_mem_cons.mpr ⟨rfl, List.forall_mem_cons.mpr ⟨rfl, List.forall_mem_cons.mpr ⟨rfl, List.forall_mem_nil _⟩⟩⟩) ⟨Nat.zero_le _, fun h9 => absurd h9 (Nat.lt_irrefl _)⟩ ?_
    clear lF lN
    rintro ⟨k, tk1, tk2, tk3⟩ u hh tkk - ⟨hkK, hpk⟩ F N
    dsimp only at hkK hpk N ⊢
    dsimp only [kstB] at F
    have r0 := (wk_range (n := lg) (h := h) k).1
    have r1 := (wk_range (n := lg) (h := h) k).2
    have r2 : wk lg h k < (ns.length : Int) := by rw [len_cast hlen]; exact r1
    have p0 := pow_le_1024 (n := lg) (by omega)
    have q0 := (wk_range (n := lg) (h := h) (k + 1)).1
    have q1 := (wk_range (n := lg) (h := h) (k + 1)).2
    have q2 : wk lg h (k + 1) < (ns.length : Int) := by rw [len_cast hlen]; exact q1
    dsimp only [wk, pt] at q0 q1 q2
    (try k_fold)
    k_steps
    all_goals first
      | (have hne : k ≠ K := by rintro rfl; contradiction
         refine Hold.mk ?_
         rename Fr _ _ _ _ => eF
         rename News _ _ _ _ => eN
         exact ksw_end (k + 1, _, _, _) eF eN (fun _ h => h) trivial (List.forall_mem_cons.mpr ⟨rfl, List.forall_mem_cons.mpr ⟨rfl, List.forall_mem_cons.mpr ⟨rfl, List.forall_mem_nil _⟩⟩⟩) (by ksw_same) ⟨by show k + 1 ≤ K; omega, fun _ => by assumption⟩ (by show K - (k + 1) < K - k; omega))
      | (have he : k = K := by
           rcases Nat.lt_or_eq_of_le hkK with hlt | e
           · exact absurd (by assumption) (hK' k hlt)
           · exact e
         subst he
         exact hnone (fun n hn => by have := hn.lt hpk; omega) _ _ _ _ _ _ _ (by assumption) (by assumption))
      | (have hne : k ≠ K := by rintro rfl; contradiction
         refine Hold.mk ?_
         have hp : pt h (k + 1) = 0 := by assumption
         have hfr := IsFront.of hp hpk
         have e9 := wk_tl (n := lg) hp
         have hk1 : k + 1 + (K - (k + 1)) = K := by omega
         have e10 := e9 (K - (k + 1))
         rw [hk1] at e10
         refine' resume_none (K := K - (k + 1)) (by omega) hlg1 hi hlen q0 q1 (by rw [show tl lg ((wk lg h k * 5 + pt h k / 32 + 1) % 2 ^ lg) (K - (k + 1)) = wk lg h K from e10.symm]; exact hK)
           (fun j hj => by rw [show tl lg ((wk lg h k * 5 + pt h k / 32 + 1) % 2 ^ lg) j = wk lg h (k + 1 + j) from (e9 j).symm]; exact hK' _ (by omega)) hlo hsep hxd hild ?u1 ?u2 ?u3 ?u4 ?u5 ?u6 ?u7 ?u8 ?_ ?_; (case u1 => k_asm); (case u2 => k_asm); (case u3 => k_asm); (case u4 => k_asm); (case u5 => k_asm); (case u6 => first | exact rfl | assumption); (case u7 => ktr_room); (case u8 => ktr_units)
         · intro hs9 t9 h9 tk9 F9 N9
           rw [show tl lg ((wk lg h k * 5 + pt h k / 32 + 1) % 2 ^ lg) (K - (k + 1)) = wk lg h K from e10.symm]
           (try k_fold)
           k_steps
           exact hnone (fun n hn => by have := hn.eq hp hpk; omega) _ _ _ _ _ _ _ (by assumption) (by assumption)
         · intro hs9 t9 rd9 ro9 h9 tk9 lA9 F9 D9 N9
           rw [show tl lg ((wk lg h k * 5 + pt h k / 32 + 1) % 2 ^ lg) (K - (k + 1)) = wk lg h K from e10.symm] at D9 ⊢
           (try k_fold)
           k_steps
           exact hnew _ hfr (by omega) _ _ _ _ _ _ _ _ _ lA9 (by assumption) D9 (by assumption)))
end Mine
end

section
open PySem PySem.W PySem.Calls PyProof.Rows
namespace Mine
local macro_rules | `(tactic| walk_at "getAttr ref") => `(tactic| (k_here; k_dflt (refine' get_lateS ?k1 ?k2 ?k3 ?k4 ?k5 ?k6 ?k7 ?k8 ?k9 ?k10 ?_; (case k1 => k_asm); (case k2 => k_asm); (case k3 => k_inst); (case k4 => k_is); (case k5 => k_is); (case k6 => k_is); (case k7 => k_is); (case k8 => k_is); (case k9 => decide +kernel); (case k10 => k_get))))
local macro_rules | `(tactic| walk_at "getAttr ref") => `(tactic| (k_here; k_dflt (first
  | refine' get_shadowS ?k1 ?k2 ?k3 ?k4 ?k5 ?k6 ?k7 ?k8 ?k9 ?k10 ?_; (case k1 => k_asm); (case k2 => k_asm); (case k3 => k_inst); (case k4 => k_is); (case k5 => k_is); (case k6 => k_is); (case k7 => k_is); (case k8 => k_is); (case k9 => k_get); (case k10 => k_handed); k_whole
  | refine' get_ownS ?k1 ?k2 ?k3 ?k4 ?k5 ?k6 ?k7 ?k8 ?k9 ?_; (case k1 => k_asm); (case k2 => k_asm); (case k3 => k_inst); (case k4 => k_is); (case k5 => k_is); (case k6 => k_is); (case k7 => k_is); (case k8 => k_get); (case k9 => k_handed); k_whole)))
local macro_rules | `(tactic| walk_at "getAttr ref") => `(tactic| (k_here; (with_reducible show wpAny _ _ (getAttr (Value.ref _) (PySem.Str.ofString "__dict__") _) _ _ _); k_dflt (refine' get_dictS ?k1 ?k2 ?k3 ?k4 ?k5 ?k6 ?k7 ?k8 ?k9 ?k10 ?k11 ?k12 ?k13 ?k14 ?_; (case k1 => k_asm); (case k2 => k_asm); (case k3 => k_asm); (case k4 => k_inst); (case k5 => k_is); (case k6 => k_is); (case k7 => k_is); (case k8 => k_is); (case k9 => k_is); (case k10 => k_is); (case k11 => k_is); (case k12 => k_is); (case k13 => k_is); (case k14 => k_upd); k_whole; intro h' F' N'; (try k_sweep))))
local macro_rules | `(tactic| walk_at "getMethod ref") => `(tactic| (k_here; k_dflt (first
  | refine' method_instS ?k1 ?k2 ?k3 ?k4 ?k5 ?k6 ?k7 ?_; (case k1 => k_asm); (case k2 => k_asm); (case k3 => k_inst); (case k4 => k_is); (case k5 => k_is); (case k6 => k_is); (case k7 => k_get); k_whole
  | refine' method_getS ?k1 ?k2 ?_; (case k1 => k_asm); (case k2 => k_mem); k_whole)))
local macro_rules | `(tactic| walk_at "setAttr ref") => `(tactic| (k_here; k_dflt (refine' set_dictS ?k1 ?k2 ?k3 ?k4 ?k5 ?k6 ?k7 ?k8 ?k9 ?k10 ?k11 ?k12 ?k13 ?_; (case k1 => k_asm); (case k2 => k_asm); (case k3 => k_asm); (case k4 => k_inst); (case k5 => exact rfl); (case k6 => k_is); (case k7 => k_is); (case k8 => k_is); (case k9 => k_is); (case k10 => k_get); (case k11 => k_put); (case k12 => k_upd); (case k13 => exact Nat.le_of_ble_eq_true rfl); k_whole; intro h' F' N'; (try k_sweep))))
local macro_rules | `(tactic| walk_at "call builtin:dict.get") => `(tactic| (k_here; k_dflt (refine' call_get_missS ?k1 ?k2 ?k3 ?k4 ?k5 ?_; (case k1 => k_asm); (case k2 => k_mem); (case k3 => assumption); (case k4 => k_keys); (case k5 => k_get); k_whole)))
local macro_rules | `(tactic| walk_at "setItem ref str") => `(tactic| (k_here; k_dflt (refine' setItem_newS ?k1 ?k2 ?k3 ?k4 ?k5 ?k6 ?_; (case k1 => k_asm); (case k2 => k_asm); (case k3 => k_upd); (case k4 => k_keys); (case k5 => k_get); (case k6 => exact Nat.le_of_ble_eq_true rfl); k_whole; intro h' F' N'; (try dsimp only [List.cons_append, List.nil_append] at N'); (try k_sweep))))
local macro_rules | `(tactic| walk_at "exec While") => `(tactic| (k_here; refine Hold.out ?_))
local macro_rules | `(tactic| walk_at "KswEnd") => `(tactic| (refine Hold.out ?_))
local macro_rules | `(tactic| walk_at "binaryOp BitAnd int int") => `(tactic| first | with_reducible refine and_mask ?_ | with_reducible refine and_mask' ?_)
local macro_rules | `(tactic| walk_at "call ref") => `(tactic| (k_here; k_dflt (refine wpAny_call ?_; refine' code_def ?k1 ?k2 ?k3 ?k4 ?k5 ?kA ?kF ?kK ?k6 ?k7 ?k8 ?k9 ?kB ?_ ?c2 ?c3 ?c4 ?c5; (case kA => exact rfl); (case kF => exact rfl); (case kK => first | exact rfl | assumption); (case k1 => k_asm); (case k2 => k_asm); (case k3 => k_asm); (case k4 => k_asm); (case k5 => k_asm); (case k6 => k_is); (case k7 => k_is); (case k8 => ktr_room); (case k9 => first | exact BindsTo.of_eq rfl | exact binds_K (by k_in) rfl (by k_is) rfl rfl rfl); (case c5 => decide); (case kB => exact locs rfl); (case c2 => exact rfl); (case c3 => exact rfl); (case c4 => exact rfl); k_whole; intro g' L' h' FG' F' N' B' X' T'; (try dsimp only); (try k_lift B'); (try k_fold))))
local macro_rules | `(tactic| walk_at "inplaceOp RShift int int") => `(tactic| with_reducible refine shr5 ?_)
local macro_rules | `(tactic| walk_at "binaryOp LShift int int") => `(tactic| (with_reducible refine shl_one ?a ?_; (case a => omega)))
local macro_rules | `(tactic| k_all) => `(tactic| assumption)
set_option maxRecDepth 100000 in
set_option maxHeartbeats 8000000 in
theorem law_walk {w : World} {mean : ExcName → Option Value} {mg mb : Str → Option Value}
   {dp un : Nat} {gd : Option (List Code)} {cn : Str} {cs : Scope} {a : Addr} {ccd : Value} {cl : List (Str × Addr)} {outer : List Env} {A₀ : Around} {base h₀ : Heap} {L : Addr} {m : Str → Option Value} {s : Shared} {Q : Value → Shared → Prop}
   {E : Value → Shared → Prop} {h : Int} {th tz : Tok} {lg : Nat} {bk : Addr} {bo : Obj} {c : List (Int × Int)} {rest : Led} {K : Nat} (hh0 : 0 ≤ h) (hKl : K ≤ 10000) (hD : DII PySem.Challenge.rw_fc5025_03.row.prog w bo c) (hlb : (bk == sysModules) = false)
   (hK : kdfHas c (wk lg h K) = false) (hK' : ∀ j < K, kdfHas c (wk lg h j) = true)
   (B : Below A₀ base outer h₀) (F : Fr h₀ L s.heap m) (X : (Mine.hd.heap_39 w.params).In h₀)
   (N : News h₀ L s.heap ((bk, bo) :: rest))
   (T : Top Mine.hd.view_39 (looseW Mine.hd.view_39 [Str.ofString "_Entry", Str.ofString "_NOT_FOUND", Str.ofString "cached_property", Str.ofString "_HtKeys"]) mean mg mb h₀) (hk : cs.kind = .function) (hd : dp + 2 < recursionLimit) (hu : un + 20 < cLine)
   (hret : ∀ wl vs n h' tk', (@LT.lt Nat _ bk wl ∧ AllLt wl rest) → IntsAre vs ((List.range (K + 1)).map (wk lg h)) → Fr h₀ L h' m → News h₀ L h' ((wl, listOf vs.toArray n) :: (bk, bo) :: rest) → Q (.ref wl) { s with heap := h', toks := tk' }) :
   wpAny (model PySem.Challenge.rw_fc5025_03.row.prog w) (ktrTop dp un gd cn cs L a ccd cl outer) (call (.ref 302) [.int h th, .int (2 ^ lg) tz, .ref bk]) Q E s := by
  have hz0 := pow2_pos lg
  w_top off; revert B F X N T; k_fill; intro B F X N T
  refine wpAny_call ?_
  k_dflt (refine' code_def ?k1 ?k2 ?k3 ?k4 ?k5 ?kA ?kF ?kK ?k6 ?k7 ?k8 ?k9 ?kB ?_ ?c2 ?c3 ?c4 ?c5; (case kA => exact rfl); (case kF => exact rfl); (case kK => first | exact rfl | assumption); (case k1 => k_asm); (case k2 => k_asm); (case k3 => k_asm); (case k4 => k_asm); (case k5 => k_asm); (case k6 => k_is); (case k7 => k_is); (case k8 => ktr_room); (case k9 => first | exact BindsTo.of_eq rfl | exact binds_K (by k_in) rfl (by k_is) rfl rfl rfl); (case c5 => decide); (case kB => exact locs rfl); (case c2 => exact rfl); (case c3 => exact rfl); (case c4 => exact rfl); k_whole)
  intro g' L' h' FG' F' N' B' X' T'
  obtain ⟨kvs9, hd9, hf9⟩ := hD
  (try dsimp only)
  (try k_fold)
  k_steps
  refine Hold.mk ?_
  rename Fr _ _ _ _ => lF
  rename News _ _ _ _ => lN
  have hfm : h.fmod (2 ^ lg) = h % 2 ^ lg := Int.fmod_eq_emod_of_nonneg _ (by omega)
  have hfd : h.fdiv 32 = h / 32 := Int.fdiv_eq_ediv_of_nonneg _ (by decide)
  rw [hfm] at lN
  rw [hfd] at lF
  refine ksw_while (σ := Nat × List Value × Nat × Tok) (fun c => (_, listOf c.2.1.toArray c.2.2.1) :: (bk, bo) :: rest)
    (fun c => [(Str.ofString "left", .int (pt h (c.1 + 1)) c.2.2.2)]) (fun c => IntsAre c.2.1 ((List.range (c.1 + 1)).map (wk lg h))) [] (fun c => c.1 ≤ K) (fun c => K - c.1) (0, [_], 0, _) lF lN (.cons _ _ .nil)
    (List.forall_mem_cons.mpr ⟨rfl, List.forall_mem_nil _⟩) (Nat.zero_le _) ?_
  clear lF lN
  rintro ⟨k, vals, ep, tk1⟩ u hh tkk hI9 hkK F N
  dsimp only at hI9 hkK N ⊢
  dsimp only [kstB] at F
  have hl9 : ((List.range (k + 1)).map (wk lg h)).length = k + 1 := by simp
  have hl8 : ((List.range (k + 1)).map (wk lg h)).getD k 0 = wk lg h k := by simp
  generalize hxs : (List.range (k + 1)).map (wk lg h) = xs at *
  have hlast : xs.getD (-1 + (xs.length : Int)).toNat 0 = wk lg h k := by rw [hl9, show (-1 + ((k + 1 : Nat) : Int)).toNat = k by omega]; exact hl8
  have hpd : (pt h (k + 1)).fdiv 32 = pt h (k + 1 + 1) := Int.fdiv_eq_ediv_of_nonneg _ (by decide)
  have hwk : (wk lg h k * 5 + pt h (k + 1) + 1).fmod (2 ^ lg) = wk lg h (k + 1) := Int.fmod_eq_emod_of_nonneg _ (by omega)
  (try k_fold)
  k_steps
  · have hne : k ≠ K := by
      rintro rfl
      have h9 : kdfHas c (xs.getD (-1 + (xs.length : Int)).toNat 0) = true := by assumption
      rw [hlast, hK] at h9; cases h9
    refine Hold.mk ?_
    rename Fr _ _ _ _ => eF
    rename News _ _ _ _ => eN
    rw [hlast, hwk, List.push_toArray] at eN
    rw [hpd] at eF
    exact ksw_end (k + 1, vals ++ [_], ep + 1, _) eF eN (fun _ h => h) (by
      dsimp only
      rw [List.range_succ, List.map_append, hxs]
      exact IntsAre.append hI9 (.cons _ _ .nil)) (List.forall_mem_cons.mpr ⟨rfl, List.forall_mem_nil _⟩) (by ksw_same) (by show k + 1 ≤ K; omega) (by show K - (k + 1) < K - k; omega)
  · have he : k = K := by
      rcases Nat.lt_or_eq_of_le hkK with hlt | e
      · have h9 : kdfHas c (xs.getD (-1 + (xs.length : Int)).toNat 0) = false := by assumption
        rw [hlast, hK' k hlt] at h9; cases h9
      · exact e
    subst he
    exact hret _ vals ep _ _ (by assumption) (by rw [hxs]; exact hI9) (by assumption) (by assumption)
end Mine
end

section
open PySem PySem.W PySem.Calls PyProof.Rows
namespace Mine
local macro_rules | `(tactic| walk_at "MinePad") => `(tactic| skip)
local macro_rules | `(tactic| walk_at "getAttr ref") => `(tactic| (k_here; k_dflt (refine' get_lateS ?k1 ?k2 ?k3 ?k4 ?k5 ?k6 ?k7 ?k8 ?k9 ?k10 ?_; (case k1 => k_asm); (case k2 => k_asm); (case k3 => k_inst); (case k4 => k_is); (case k5 => k_is); (case k6 => k_is); (case k7 => k_is); (case k8 => k_is); (case k9 => decide +kernel); (case k10 => k_get))))
local macro_rules | `(tactic| walk_at "getAttr ref") => `(tactic| (k_here; k_dflt (first
  | refine' get_shadowS ?k1 ?k2 ?k3 ?k4 ?k5 ?k6 ?k7 ?k8 ?k9 ?k10 ?_; (case k1 => k_asm); (case k2 => k_asm); (case k3 => k_inst); (case k4 => k_is); (case k5 => k_is); (case k6 => k_is); (case k7 => k_is); (case k8 => k_is); (case k9 => k_get); (case k10 => k_handed); k_whole
  | refine' get_ownS ?k1 ?k2 ?k3 ?k4 ?k5 ?k6 ?k7 ?k8 ?k9 ?_; (case k1 => k_asm); (case k2 => k_asm); (case k3 => k_inst); (case k4 => k_is); (case k5 => k_is); (case k6 => k_is); (case k7 => k_is); (case k8 => k_get); (case k9 => k_handed); k_whole)))
local macro_rules | `(tactic| walk_at "getAttr ref") => `(tactic| (k_here; (with_reducible show wpAny _ _ (getAttr (Value.ref _) (PySem.Str.ofString "__dict__") _) _ _ _); k_dflt (refine' get_dictS ?k1 ?k2 ?k3 ?k4 ?k5 ?k6 ?k7 ?k8 ?k9 ?k10 ?k11 ?k12 ?k13 ?k14 ?_; (case k1 => k_asm); (case k2 => k_asm); (case k3 => k_asm); (case k4 => k_inst); (case k5 => k_is); (case k6 => k_is); (case k7 => k_is); (case k8 => k_is); (case k9 => k_is); (case k10 => k_is); (case k11 => k_is); (case k12 => k_is); (case k13 => k_is); (case k14 => k_upd); k_whole; intro h' F' N'; (try k_sweep))))
local macro_rules | `(tactic| walk_at "getMethod ref") => `(tactic| (k_here; k_dflt (first
  | refine' method_instS ?k1 ?k2 ?k3 ?k4 ?k5 ?k6 ?k7 ?_; (case k1 => k_asm); (case k2 => k_asm); (case k3 => k_inst); (case k4 => k_is); (case k5 => k_is); (case k6 => k_is); (case k7 => k_get); k_whole
  | refine' method_getS ?k1 ?k2 ?_; (case k1 => k_asm); (case k2 => k_mem); k_whole)))
local macro_rules | `(tactic| walk_at "setAttr ref") => `(tactic| (k_here; k_dflt (refine' set_dictS ?k1 ?k2 ?k3 ?k4 ?k5 ?k6 ?k7 ?k8 ?k9 ?k10 ?k11 ?k12 ?k13 ?_; (case k1 => k_asm); (case k2 => k_asm); (case k3 => k_asm); (case k4 => k_inst); (case k5 => exact rfl); (case k6 => k_is); (case k7 => k_is); (case k8 => k_is); (case k9 => k_is); (case k10 => k_get); (case k11 => k_put); (case k12 => k_upd); (case k13 => exact Nat.le_of_ble_eq_true rfl); k_whole; intro h' F' N'; (try k_sweep))))
local macro_rules | `(tactic| walk_at "call builtin:dict.get") => `(tactic| (k_here; k_dflt (refine' call_get_missS ?k1 ?k2 ?k3 ?k4 ?k5 ?_; (case k1 => k_asm); (case k2 => k_mem); (case k3 => assumption); (case k4 => k_keys); (case k5 => k_get); k_whole)))
local macro_rules | `(tactic| walk_at "setItem ref str") => `(tactic| (k_here; k_dflt (refine' setItem_newS ?k1 ?k2 ?k3 ?k4 ?k5 ?k6 ?_; (case k1 => k_asm); (case k2 => k_asm); (case k3 => k_upd); (case k4 => k_keys); (case k5 => k_get); (case k6 => exact Nat.le_of_ble_eq_true rfl); k_whole; intro h' F' N'; (try dsimp only [List.cons_append, List.nil_append] at N'); (try k_sweep))))
local macro_rules | `(tactic| walk_at "exec While") => `(tactic| (k_here; refine Hold.out ?_))
local macro_rules | `(tactic| walk_at "KswEnd") => `(tactic| (refine Hold.out ?_))
local macro_rules | `(tactic| walk_at "binaryOp BitAnd int int") => `(tactic| first | with_reducible refine and_mask ?_ | with_reducible refine and_mask' ?_)
local macro_rules | `(tactic| walk_at "call ref") => `(tactic| (k_here; k_dflt (refine wpAny_call ?_; refine' code_def ?k1 ?k2 ?k3 ?k4 ?k5 ?kA ?kF ?kK ?k6 ?k7 ?k8 ?k9 ?kB ?_ ?c2 ?c3 ?c4 ?c5; (case kA => exact rfl); (case kF => exact rfl); (case kK => first | exact rfl | assumption); (case k1 => k_asm); (case k2 => k_asm); (case k3 => k_asm); (case k4 => k_asm); (case k5 => k_asm); (case k6 => k_is); (case k7 => k_is); (case k8 => ktr_room); (case k9 => first | exact BindsTo.of_eq rfl | exact binds_K (by k_in) rfl (by k_is) rfl rfl rfl); (case c5 => decide); (case kB => exact locs rfl); (case c2 => exact rfl); (case c3 => exact rfl); (case c4 => exact rfl); k_whole; intro g' L' h' FG' F' N' B' X' T'; (try dsimp only); (try k_lift B'); (try k_fold))))
local macro_rules | `(tactic| walk_at "inplaceOp RShift int int") => `(tactic| with_reducible refine shr5 ?_)
local macro_rules | `(tactic| walk_at "binaryOp LShift int int") => `(tactic| (with_reducible refine shl_one ?a ?_; (case a => omega)))
local macro_rules | `(tactic| k_all) => `(tactic| assumption)
set_option maxRecDepth 100000 in
set_option maxHeartbeats 8000000 in
theorem law_front {w : World} {mean : ExcName → Option Value} {mg mb : Str → Option Value}
   {dp un : Nat} {gd : Option (List Code)} {cn : Str} {cs : Scope} {a : Addr} {ccd : Value} {cl : List (Str × Addr)} {outer : List Env} {A₀ : Around} {base h₀ : Heap} {L : Addr} {m : Str → Option Value} {s : Shared} {Q : Value → Shared → Prop}
   {E : Value → Shared → Prop} {h : Int} {th : Tok} {led : Led} (hh0 : 0 ≤ h)
   (B : Below A₀ base outer h₀) (F : Fr h₀ L s.heap m) (X : (Mine.hd.heap_39 w.params).In h₀)
   (N : News h₀ L s.heap (led))
   (T : Top Mine.hd.view_39 (looseW Mine.hd.view_39 [Str.ofString "_Entry", Str.ofString "_NOT_FOUND", Str.ofString "cached_property", Str.ofString "_HtKeys"]) mean mg mb h₀) (hk : cs.kind = .function) (hd : dp + 2 < recursionLimit) (hu : un + 20 < cLine)
   (hret : ∀ r t h' tk', IsFront h r → Fr h₀ L h' m → News h₀ L h' led → Q (.int r t) { s with heap := h', toks := tk' }) :
   wpAny (model PySem.Challenge.rw_fc5025_03.row.prog w) (ktrTop dp un gd cn cs L a ccd cl outer) (call (.ref 309) [.int h th]) Q E s := by
  w_top off; revert B F X N T; k_fill; intro B F X N T
  refine wpAny_call ?_
  k_dflt (refine' code_def ?k1 ?k2 ?k3 ?k4 ?k5 ?kA ?kF ?kK ?k6 ?k7 ?k8 ?k9 ?kB ?_ ?c2 ?c3 ?c4 ?c5; (case kA => exact rfl); (case kF => exact rfl); (case kK => first | exact rfl | assumption); (case k1 => k_asm); (case k2 => k_asm); (case k3 => k_asm); (case k4 => k_asm); (case k5 => k_asm); (case k6 => k_is); (case k7 => k_is); (case k8 => ktr_room); (case k9 => first | exact BindsTo.of_eq rfl | exact binds_K (by k_in) rfl (by k_is) rfl rfl rfl); (case c5 => decide); (case kB => exact locs rfl); (case c2 => exact rfl); (case c3 => exact rfl); (case c4 => exact rfl); k_whole)
  intro g' L' h' FG' F' N' B' X' T'
  (try dsimp only)
  (try k_fold)
  k_steps
  refine Hold.mk ?_
  rename Fr _ _ _ _ => lF
  rename News _ _ _ _ => lN
  refine ksw_while (σ := Nat × Int × Tok × Tok) (fun _ => led)
    (fun c => [(Str.ofString "long", .int ((c.1 : Int) + 1) c.2.2.1), (Str.ofString "left", .int c.2.1 c.2.2.2)]) (fun _ => True) [] (fun c => c.2.1 = pt h (c.1 + 1) ∧ ∀ j, 0 < j → j ≤ c.1 → pt h j ≠ 0) (fun c => c.2.1.toNat) (0, _, _, _) lF lN trivial
    (List.forall_mem_cons.mpr ⟨rfl, List.forall_mem_cons.mpr ⟨rfl, List.forall_mem_nil _⟩⟩) ⟨show h.fdiv 32 = h / 32 from Int.fdiv_eq_ediv_of_nonneg _ (by decide), fun j h1 h2 => absurd h1 (by dsimp only at h2; omega)⟩ ?_
  clear lF lN
  rintro ⟨k, lf, tk1, tk2⟩ u hh tkk - ⟨hlf, hnz⟩ F N
  dsimp only at hlf hnz N ⊢
  dsimp only [kstB] at F
  have hlf0 : 0 ≤ lf := by rw [hlf]; exact pt_nonneg hh0 _
  have hfd : lf.fdiv 32 = lf / 32 := Int.fdiv_eq_ediv_of_nonneg _ (by decide)
  (try k_fold)
  k_steps
  · refine Hold.mk ?_
    have hpos : 0 < lf := by assumption
    rename Fr _ _ _ _ => eF
    rename News _ _ _ _ => eN
    exact ksw_end (k + 1, lf.fdiv 32, _, _) eF eN (fun _ h => h) trivial (List.forall_mem_cons.mpr ⟨rfl, List.forall_mem_cons.mpr ⟨rfl, List.forall_mem_nil _⟩⟩) (by ksw_same)
      ⟨by dsimp only; rw [hfd, hlf]; rfl, fun j h1 h2 => by
        dsimp only at h2
        rcases Nat.lt_or_eq_of_le h2 with h3 | h3
        · exact hnz j h1 (by omega)
        · rw [h3, ← hlf]; omega⟩ (by show (lf.fdiv 32).toNat < lf.toNat; rw [hfd]; omega)
  · have hz : lf = 0 := by have : ¬ 0 < lf := by assumption
                           omega
    exact hret (k + 1) _ _ _ ⟨by omega, by rw [← hlf]; exact hz, fun j h1 h2 => hnz j h1 (by omega)⟩ (by assumption) (by assumption)
end Mine
end

section
open PySem PySem.W PySem.Calls PyProof.Rows
namespace Mine
local macro_rules | `(tactic| walk_at "getAttr ref") => `(tactic| (k_here; k_dflt (refine' get_lateS ?k1 ?k2 ?k3 ?k4 ?k5 ?k6 ?k7 ?k8 ?k9 ?k10 ?_; (case k1 => k_asm); (case k2 => k_asm); (case k3 => k_inst); (case k4 => k_is); (case k5 => k_is); (case k6 => k_is); (case k7 => k_is); (case k8 => k_is); (case k9 => decide +kernel); (case k10 => k_get))))
local macro_rules | `(tactic| walk_at "getAttr ref") => `(tactic| (k_here; k_dflt (first
  | refine' get_shadowS ?k1 ?k2 ?k3 ?k4 ?k5 ?k6 ?k7 ?k8 ?k9 ?k10 ?_; (case k1 => k_asm); (case k2 => k_asm); (case k3 => k_inst); (case k4 => k_is); (case k5 => k_is); (case k6 => k_is); (case k7 => k_is); (case k8 => k_is); (case k9 => k_get); (case k10 => k_handed); k_whole
  | refine' get_ownS ?k1 ?k2 ?k3 ?k4 ?k5 ?k6 ?k7 ?k8 ?k9 ?_; (case k1 => k_asm); (case k2 => k_asm); (case k3 => k_inst); (case k4 => k_is); (case k5 => k_is); (case k6 => k_is); (case k7 => k_is); (case k8 => k_get); (case k9 => k_handed); k_whole)))
local macro_rules | `(tactic| walk_at "getAttr ref") => `(tactic| (k_here; (with_reducible show wpAny _ _ (getAttr (Value.ref _) (PySem.Str.ofString "__dict__") _) _ _ _); k_dflt (refine' get_dictS ?k1 ?k2 ?k3 ?k4 ?k5 ?k6 ?k7 ?k8 ?k9 ?k10 ?k11 ?k12 ?k13 ?k14 ?_; (case k1 => k_asm); (case k2 => k_asm); (case k3 => k_asm); (case k4 => k_inst); (case k5 => k_is); (case k6 => k_is); (case k7 => k_is); (case k8 => k_is); (case k9 => k_is); (case k10 => k_is); (case k11 => k_is); (case k12 => k_is); (case k13 => k_is); (case k14 => k_upd); k_whole; intro h' F' N'; (try k_sweep))))
local macro_rules | `(tactic| walk_at "getMethod ref") => `(tactic| (k_here; k_dflt (first
  | refine' method_instS ?k1 ?k2 ?k3 ?k4 ?k5 ?k6 ?k7 ?_; (case k1 => k_asm); (case k2 => k_asm); (case k3 => k_inst); (case k4 => k_is); (case k5 => k_is); (case k6 => k_is); (case k7 => k_get); k_whole
  | refine' method_getS ?k1 ?k2 ?_; (case k1 => k_asm); (case k2 => k_mem); k_whole)))
local macro_rules | `(tactic| walk_at "setAttr ref") => `(tactic| (k_here; k_dflt (refine' set_dictS ?k1 ?k2 ?k3 ?k4 ?k5 ?k6 ?k7 ?k8 ?k9 ?k10 ?k11 ?k12 ?k13 ?_; (case k1 => k_asm); (case k2 => k_asm); (case k3 => k_asm); (case k4 => k_inst); (case k5 => exact rfl); (case k6 => k_is); (case k7 => k_is); (case k8 => k_is); (case k9 => k_is); (case k10 => k_get); (case k11 => k_put); (case k12 => k_upd); (case k13 => exact Nat.le_of_ble_eq_true rfl); k_whole; intro h' F' N'; (try k_sweep))))
local macro_rules | `(tactic| walk_at "call builtin:dict.get") => `(tactic| (k_here; k_dflt (refine' call_get_missS ?k1 ?k2 ?k3 ?k4 ?k5 ?_; (case k1 => k_asm); (case k2 => k_mem); (case k3 => assumption); (case k4 => k_keys); (case k5 => k_get); k_whole)))
local macro_rules | `(tactic| walk_at "setItem ref str") => `(tactic| (k_here; k_dflt (refine' setItem_newS ?k1 ?k2 ?k3 ?k4 ?k5 ?k6 ?_; (case k1 => k_asm); (case k2 => k_asm); (case k3 => k_upd); (case k4 => k_keys); (case k5 => k_get); (case k6 => exact Nat.le_of_ble_eq_true rfl); k_whole; intro h' F' N'; (try dsimp only [List.cons_append, List.nil_append] at N'); (try k_sweep))))
local macro_rules | `(tactic| walk_at "exec While") => `(tactic| (k_here; refine Hold.out ?_))
local macro_rules | `(tactic| walk_at "KswEnd") => `(tactic| (refine Hold.out ?_))
local macro_rules | `(tactic| walk_at "binaryOp BitAnd int int") => `(tactic| first | with_reducible refine and_mask ?_ | with_reducible refine and_mask' ?_)
local macro_rules | `(tactic| walk_at "call ref") => `(tactic| (k_here; k_dflt (refine wpAny_call ?_; refine' code_def ?k1 ?k2 ?k3 ?k4 ?k5 ?kA ?kF ?kK ?k6 ?k7 ?k8 ?k9 ?kB ?_ ?c2 ?c3 ?c4 ?c5; (case kA => exact rfl); (case kF => exact rfl); (case kK => first | exact rfl | assumption); (case k1 => k_asm); (case k2 => k_asm); (case k3 => k_asm); (case k4 => k_asm); (case k5 => k_asm); (case k6 => k_is); (case k7 => k_is); (case k8 => ktr_room); (case k9 => first | exact BindsTo.of_eq rfl | exact binds_K (by k_in) rfl (by k_is) rfl rfl rfl); (case c5 => decide); (case kB => exact locs rfl); (case c2 => exact rfl); (case c3 => exact rfl); (case c4 => exact rfl); k_whole; intro g' L' h' FG' F' N' B' X' T'; (try dsimp only); (try k_lift B'); (try k_fold))))
local macro_rules | `(tactic| walk_at "inplaceOp RShift int int") => `(tactic| with_reducible refine shr5 ?_)
local macro_rules | `(tactic| walk_at "binaryOp LShift int int") => `(tactic| (with_reducible refine shl_one ?a ?_; (case a => omega)))
local macro_rules | `(tactic| k_all) => `(tactic| assumption)
local macro_rules | `(tactic| walk_at "eval Dict") => `(tactic| (k_here; k_dflt (refine' kdn_eval (knd := PySem.intKind _ _) ?F ?N ?b ?a ?l ?e ?n ?_; (case F => k_asm); (case N => k_asm); (case b => exact Top.nolimit (by k_asm)); (case a => rfl); (case l => rfl); (case e => exact List.cons_ne_nil _ _); (case n => exact Nat.le_of_ble_eq_true rfl)); intro d' h' o' F' N' l1 lo' hd'; (try k_lt l1)))
local macro_rules | `(tactic| walk_at "call ref") => `(tactic| (k_here; (with_reducible show wpAny _ _ (call (Value.ref 309) _) _ _ _); refine Hold.out ?_))
set_option maxRecDepth 100000 in
set_option maxHeartbeats 8000000 in
theorem law_note_none {w : World} {mean : ExcName → Option Value} {mg mb : Str → Option Value}
   {dp un : Nat} {gd : Option (List Code)} {cn : Str} {cs : Scope} {a : Addr} {ccd : Value} {cl : List (Str × Addr)} {outer : List Env} {A₀ : Around} {base h₀ : Heap} {L : Addr} {m : Str → Option Value} {s : Shared} {Q : Value → Shared → Prop}
   {E : Value → Shared → Prop} {h : Int} {th : Tok} {lg : Nat} {wl : Addr} {vs : List Value} {ep : Nat} {rest : Led} {K : Nat} (hh0 : 0 ≤ h) (hKl : K ≤ 10000) (hI : IntsAre vs ((List.range (K + 1)).map (wk lg h))) 
   (B : Below A₀ base outer h₀) (F : Fr h₀ L s.heap m) (X : (Mine.hd.heap_39 w.params).In h₀)
   (N : News h₀ L s.heap ((wl, listOf vs.toArray ep) :: rest))
   (T : Top Mine.hd.view_39 (looseW Mine.hd.view_39 [Str.ofString "_Entry", Str.ofString "_NOT_FOUND", Str.ofString "cached_property", Str.ofString "_HtKeys"]) mean mg mb h₀) (hk : cs.kind = .function) (hd : dp + 4 < recursionLimit) (hu : un + 40 < cLine)
   (hnone : (∀ r, IsFront h r → K < r + 32) → ∀ h' tk', Fr h₀ L h' m → News h₀ L h' ((wl, listOf vs.toArray ep) :: rest) → Q .none { s with heap := h', toks := tk' })
   (hnew : ∀ r, IsFront h r → r + 32 ≤ K → ∀ md mo h' tk', (@LT.lt Nat _ wl md ∧ AllLt md rest) → Fr h₀ L h' m → DII PySem.Challenge.rw_fc5025_03.row.prog w mo [(wk lg h r, wk lg h K)] → News h₀ L h' ((md, mo) :: (wl, listOf vs.toArray ep) :: rest) → Q (.ref md) { s with heap := h', toks := tk' }) :
   wpAny (model PySem.Challenge.rw_fc5025_03.row.prog w) (ktrTop dp un gd cn cs L a ccd cl outer) (call (.ref 316) [.none, .ref wl, .int h th]) Q E s := by
  w_top off; revert B F X N T; k_fill; intro B F X N T
  refine wpAny_call ?_
  k_dflt (refine' code_def ?k1 ?k2 ?k3 ?k4 ?k5 ?kA ?kF ?kK ?k6 ?k7 ?k8 ?k9 ?kB ?_ ?c2 ?c3 ?c4 ?c5; (case kA => exact rfl); (case kF => exact rfl); (case kK => first | exact rfl | assumption); (case k1 => k_asm); (case k2 => k_asm); (case k3 => k_asm); (case k4 => k_asm); (case k5 => k_asm); (case k6 => k_is); (case k7 => k_is); (case k8 => ktr_room); (case k9 => first | exact BindsTo.of_eq rfl | exact binds_K (by k_in) rfl (by k_is) rfl rfl rfl); (case c5 => decide); (case kB => exact locs rfl); (case c2 => exact rfl); (case c3 => exact rfl); (case c4 => exact rfl); k_whole)
  intro g' L' h' FG' F' N' B' X' T'
  have hl9 : ((List.range (K + 1)).map (wk lg h)).length = K + 1 := by simp
  have hl8 : ∀ r, r ≤ K → ((List.range (K + 1)).map (wk lg h)).getD r 0 = wk lg h r := fun r hr => by
    have h1 : r < K + 1 := by omega
    simp [h1]
  generalize hxs : (List.range (K + 1)).map (wk lg h) = xs at *
  
  (try dsimp only)
  (try k_fold)
  k_steps
  refine Hold.mk ?_
  refine' law_front hh0 ?u1 ?u2 ?u3 ?u4 ?u5 ?u6 ?u7 ?u8 ?_; (case u1 => k_asm); (case u2 => k_asm); (case u3 => k_asm); (case u4 => k_asm); (case u5 => k_asm); (case u6 => first | exact rfl | assumption); (case u7 => ktr_room); (case u8 => ktr_units)
  intro r tr h2 tk2 hfr F2 N2
  (try k_fold)
  k_steps
  · have hKr : (xs.length : Int) ≤ r := by assumption
    exact hnone (fun r' hr' => by have := hr'.uniq hfr; omega) _ _ (by assumption) (by assumption)
  · have hKr : (xs.length : Int) - 1 - r < 32 := by assumption
    exact hnone (fun r' hr' => by have := hr'.uniq hfr; omega) _ _ (by assumption) (by assumption)
  · have hKr : ¬ (xs.length : Int) - 1 - r < 32 := by assumption
    rename PyProof.V.FlatPairs _ _ _ => hf8
    rename Obj.IsDictOf _ _ _ => hd8
    have g1 := hl8 r (by omega)
    have g2 := hl8 K (Nat.le_refl _)
    rw [Int.toNat_natCast, g1, show (-1 + (xs.length : Int)).toNat = K by omega, g2] at hf8 hd8
    exact hnew r hfr (by omega) _ _ _ _ (by assumption) (by assumption) ⟨_, hd8, hf8⟩ (by assumption)
end Mine
end

section
open PySem PySem.W PySem.Calls PyProof.Rows
namespace Mine
local macro_rules | `(tactic| walk_at "getAttr ref") => `(tactic| (k_here; k_dflt (refine' get_lateS ?k1 ?k2 ?k3 ?k4 ?k5 ?k6 ?k7 ?k8 ?k9 ?k10 ?_; (case k1 => k_asm); (case k2 => k_asm); (case k3 => k_inst); (case k4 => k_is); (case k5 => k_is); (case k6 => k_is); (case k7 => k_is); (case k8 => k_is); (case k9 => decide +kernel); (case k10 => k_get))))
local macro_rules | `(tactic| walk_at "getAttr ref") => `(tactic| (k_here; k_dflt (first
  | refine' get_shadowS ?k1 ?k2 ?k3 ?k4 ?k5 ?k6 ?k7 ?k8 ?k9 ?k10 ?_; (case k1 => k_asm); (case k2 => k_asm); (case k3 => k_inst); (case k4 => k_is); (case k5 => k_is); (case k6 => k_is); (case k7 => k_is); (case k8 => k_is); (case k9 => k_get); (case k10 => k_handed); k_whole
  | refine' get_ownS ?k1 ?k2 ?k3 ?k4 ?k5 ?k6 ?k7 ?k8 ?k9 ?_; (case k1 => k_asm); (case k2 => k_asm); (case k3 => k_inst); (case k4 => k_is); (case k5 => k_is); (case k6 => k_is); (case k7 => k_is); (case k8 => k_get); (case k9 => k_handed); k_whole)))
local macro_rules | `(tactic| walk_at "getAttr ref") => `(tactic| (k_here; (with_reducible show wpAny _ _ (getAttr (Value.ref _) (PySem.Str.ofString "__dict__") _) _ _ _); k_dflt (refine' get_dictS ?k1 ?k2 ?k3 ?k4 ?k5 ?k6 ?k7 ?k8 ?k9 ?k10 ?k11 ?k12 ?k13 ?k14 ?_; (case k1 => k_asm); (case k2 => k_asm); (case k3 => k_asm); (case k4 => k_inst); (case k5 => k_is); (case k6 => k_is); (case k7 => k_is); (case k8 => k_is); (case k9 => k_is); (case k10 => k_is); (case k11 => k_is); (case k12 => k_is); (case k13 => k_is); (case k14 => k_upd); k_whole; intro h' F' N'; (try k_sweep))))
local macro_rules | `(tactic| walk_at "getMethod ref") => `(tactic| (k_here; k_dflt (first
  | refine' method_instS ?k1 ?k2 ?k3 ?k4 ?k5 ?k6 ?k7 ?_; (case k1 => k_asm); (case k2 => k_asm); (case k3 => k_inst); (case k4 => k_is); (case k5 => k_is); (case k6 => k_is); (case k7 => k_get); k_whole
  | refine' method_getS ?k1 ?k2 ?_; (case k1 => k_asm); (case k2 => k_mem); k_whole)))
local macro_rules | `(tactic| walk_at "setAttr ref") => `(tactic| (k_here; k_dflt (refine' set_dictS ?k1 ?k2 ?k3 ?k4 ?k5 ?k6 ?k7 ?k8 ?k9 ?k10 ?k11 ?k12 ?k13 ?_; (case k1 => k_asm); (case k2 => k_asm); (case k3 => k_asm); (case k4 => k_inst); (case k5 => exact rfl); (case k6 => k_is); (case k7 => k_is); (case k8 => k_is); (case k9 => k_is); (case k10 => k_get); (case k11 => k_put); (case k12 => k_upd); (case k13 => exact Nat.le_of_ble_eq_true rfl); k_whole; intro h' F' N'; (try k_sweep))))
local macro_rules | `(tactic| walk_at "call builtin:dict.get") => `(tactic| (k_here; k_dflt (refine' call_get_missS ?k1 ?k2 ?k3 ?k4 ?k5 ?_; (case k1 => k_asm); (case k2 => k_mem); (case k3 => assumption); (case k4 => k_keys); (case k5 => k_get); k_whole)))
local macro_rules | `(tactic| walk_at "setItem ref str") => `(tactic| (k_here; k_dflt (refine' setItem_newS ?k1 ?k2 ?k3 ?k4 ?k5 ?k6 ?_; (case k1 => k_asm); (case k2 => k_asm); (case k3 => k_upd); (case k4 => k_keys); (case k5 => k_get); (case k6 => exact Nat.le_of_ble_eq_true rfl); k_whole; intro h' F' N'; (try dsimp only [List.cons_append, List.nil_append] at N'); (try k_sweep))))
local macro_rules | `(tactic| walk_at "exec While") => `(tactic| (k_here; refine Hold.out ?_))
local macro_rules | `(tactic| walk_at "KswEnd") => `(tactic| (refine Hold.out ?_))
local macro_rules | `(tactic| walk_at "binaryOp BitAnd int int") => `(tactic| first | with_reducible refine and_mask ?_ | with_reducible refine and_mask' ?_)
local macro_rules | `(tactic| walk_at "call ref") => `(tactic| (k_here; k_dflt (refine wpAny_call ?_; refine' code_def ?k1 ?k2 ?k3 ?k4 ?k5 ?kA ?kF ?kK ?k6 ?k7 ?k8 ?k9 ?kB ?_ ?c2 ?c3 ?c4 ?c5; (case kA => exact rfl); (case kF => exact rfl); (case kK => first | exact rfl | assumption); (case k1 => k_asm); (case k2 => k_asm); (case k3 => k_asm); (case k4 => k_asm); (case k5 => k_asm); (case k6 => k_is); (case k7 => k_is); (case k8 => ktr_room); (case k9 => first | exact BindsTo.of_eq rfl | exact binds_K (by k_in) rfl (by k_is) rfl rfl rfl); (case c5 => decide); (case kB => exact locs rfl); (case c2 => exact rfl); (case c3 => exact rfl); (case c4 => exact rfl); k_whole; intro g' L' h' FG' F' N' B' X' T'; (try dsimp only); (try k_lift B'); (try k_fold))))
local macro_rules | `(tactic| walk_at "inplaceOp RShift int int") => `(tactic| with_reducible refine shr5 ?_)
local macro_rules | `(tactic| walk_at "binaryOp LShift int int") => `(tactic| (with_reducible refine shl_one ?a ?_; (case a => omega)))
local macro_rules | `(tactic| k_all) => `(tactic| assumption)
local macro_rules | `(tactic| walk_at "call ref") => `(tactic| (k_here; (with_reducible show wpAny _ _ (call (Value.ref 309) _) _ _ _); refine Hold.out ?_))
set_option maxRecDepth 100000 in
set_option maxHeartbeats 8000000 in
theorem law_note_some {w : World} {mean : ExcName → Option Value} {mg mb : Str → Option Value}
   {dp un : Nat} {gd : Option (List Code)} {cn : Str} {cs : Scope} {a : Addr} {ccd : Value} {cl : List (Str × Addr)} {outer : List Env} {A₀ : Around} {base h₀ : Heap} {L : Addr} {m : Str → Option Value} {s : Shared} {Q : Value → Shared → Prop}
   {E : Value → Shared → Prop} {h : Int} {th : Tok} {lg : Nat} {wl : Addr} {vs : List Value} {ep : Nat} {rest : Led} {md : Addr} {mo : Obj} {c : List (Int × Int)} {K : Nat} (hh0 : 0 ≤ h) (hKl : K ≤ 10000) (hI : IntsAre vs ((List.range (K + 1)).map (wk lg h))) (hD : DII PySem.Challenge.rw_fc5025_03.row.prog w mo c) (hc : c.length ≤ 1000) (hlm : (md == sysModules) = false) (hwm : @Ne Nat wl md) (hsepm : ∀ p ∈ rest, p.1 ≠ md)
   (B : Below A₀ base outer h₀) (F : Fr h₀ L s.heap m) (X : (Mine.hd.heap_39 w.params).In h₀)
   (N : News h₀ L s.heap ((wl, listOf vs.toArray ep) :: (md, mo) :: rest))
   (T : Top Mine.hd.view_39 (looseW Mine.hd.view_39 [Str.ofString "_Entry", Str.ofString "_NOT_FOUND", Str.ofString "cached_property", Str.ofString "_HtKeys"]) mean mg mb h₀) (hk : cs.kind = .function) (hd : dp + 4 < recursionLimit) (hu : un + 40 < cLine)
   (hnot : (∀ r, IsFront h r → K < r) → ∀ h' tk', Fr h₀ L h' m → News h₀ L h' ((wl, listOf vs.toArray ep) :: (md, mo) :: rest) → Q (.ref md) { s with heap := h', toks := tk' })
   (hput : ∀ r, IsFront h r → r ≤ K → ∀ mo' h' tk', Fr h₀ L h' m → DII PySem.Challenge.rw_fc5025_03.row.prog w mo' (kdfPut c (wk lg h r) (wk lg h K)) → News h₀ L h' ((wl, listOf vs.toArray ep) :: (md, mo') :: rest) → Q (.ref md) { s with heap := h', toks := tk' }) :
   wpAny (model PySem.Challenge.rw_fc5025_03.row.prog w) (ktrTop dp un gd cn cs L a ccd cl outer) (call (.ref 316) [.ref md, .ref wl, .int h th]) Q E s := by
  w_top off; revert B F X N T; k_fill; intro B F X N T
  refine wpAny_call ?_
  k_dflt (refine' code_def ?k1 ?k2 ?k3 ?k4 ?k5 ?kA ?kF ?kK ?k6 ?k7 ?k8 ?k9 ?kB ?_ ?c2 ?c3 ?c4 ?c5; (case kA => exact rfl); (case kF => exact rfl); (case kK => first | exact rfl | assumption); (case k1 => k_asm); (case k2 => k_asm); (case k3 => k_asm); (case k4 => k_asm); (case k5 => k_asm); (case k6 => k_is); (case k7 => k_is); (case k8 => ktr_room); (case k9 => first | exact BindsTo.of_eq rfl | exact binds_K (by k_in) rfl (by k_is) rfl rfl rfl); (case c5 => decide); (case kB => exact locs rfl); (case c2 => exact rfl); (case c3 => exact rfl); (case c4 => exact rfl); k_whole)
  intro g' L' h' FG' F' N' B' X' T'
  have hl9 : ((List.range (K + 1)).map (wk lg h)).length = K + 1 := by simp
  have hl8 : ∀ r, r ≤ K → ((List.range (K + 1)).map (wk lg h)).getD r 0 = wk lg h r := fun r hr => by
    have h1 : r < K + 1 := by omega
    simp [h1]
  generalize hxs : (List.range (K + 1)).map (wk lg h) = xs at *
  obtain ⟨kvs9, hd9, hf9⟩ := hD
  (try dsimp only)
  (try k_fold)
  k_steps
  refine Hold.mk ?_
  refine' law_front hh0 ?u1 ?u2 ?u3 ?u4 ?u5 ?u6 ?u7 ?u8 ?_; (case u1 => k_asm); (case u2 => k_asm); (case u3 => k_asm); (case u4 => k_asm); (case u5 => k_asm); (case u6 => first | exact rfl | assumption); (case u7 => ktr_room); (case u8 => ktr_units)
  intro r tr h2 tk2 hfr F2 N2
  (try k_fold)
  k_steps
  · have hKr : (xs.length : Int) ≤ r := by assumption
    exact hnot (fun r' hr' => by have := hr'.uniq hfr; omega) _ _ (by assumption) (by assumption)
  · have hKr : ¬ (xs.length : Int) ≤ r := by assumption
    rename PyProof.V.FlatPairs _ _ _ => hf8
    rename Obj.IsDictOf _ _ _ => hd8
    have g1 := hl8 r (by omega)
    have g2 := hl8 K (Nat.le_refl _)
    rw [Int.toNat_natCast, g1] at hf8
    rw [show (-1 + (xs.length : Int)).toNat = K by omega, g2] at hf8
    exact hput r hfr (by omega) _ _ _ (by assumption) ⟨_, hd8, hf8⟩ (by assumption)
end Mine
end

section
open PySem PySem.W PySem.Calls PyProof.Rows
namespace Mine
structure St3 where
  o1 : Obj
  o2 : Obj
  bo : Obj
  vs1 : List Value
  vs2 : List Value
  ns : List Int
  c : List (Int × Int)
  mv : Value
  memL : Led
def forBody : List Stmt → List Stmt
  | .For _ _ b _ _ :: _ => b
  | _ => []
set_option maxRecDepth 100000 in
set_option maxHeartbeats 8000000 in
theorem fes_any {w : World} {mean : ExcName → Option Value} {mg mb : Str → Option Value}
   {dp un : Nat} {gd : Option (List Code)} {cn : Str} {cs : Scope} {a : Addr} {ccd : Value} {cl : List (Str × Addr)} {outer : List Env} {A₀ : Around} {base h₀ : Heap} {L : Addr} {m : Str → Option Value} {s : Shared} {Q : Value → Shared → Prop}
   {E : Value → Shared → Prop} {x dx : Addr} {k1 k2 k3 k4 k5 k6 t1 : Tok} {v2 v4 v6 : Value} {lg : Nat} {rest : Led} {k7 k8 t7 t8 : Tok} {il : Addr} {vs : List Value} {ns : List Int} {ep : Nat} {h : Int} {th : Tok} {K : Nat}
   (hlg : lg ≤ 10) (hlg1 : 10 ≤ lg) (hi : IntsAre vs ns) (hlen : ns.length = 2 ^ lg) (hh0 : 0 ≤ h)
   (hK : ns.getD (wk lg h K).toNat 0 = -1) (hK' : ∀ j < K, ns.getD (wk lg h j).toNat 0 ≠ -1) (hlo : (dx == sysModules) = false) (hsep : ∀ p ∈ rest, p.1 ≠ dx) (hxd : @LT.lt Nat _ dx x) (hild : @LT.lt Nat _ il dx)
   (B : Below A₀ base outer h₀) (F : Fr h₀ L s.heap m) (X : (Mine.hd.heap_39 w.params).In h₀)
   (N : News h₀ L s.heap ((x, instObj 287 dx) :: (dx, dictS (tabEs w.params k1 k2 k3 k4 k5 k6 k7 k8 (.int lg t1) v2 (.ref il) v4 .none v6 (.int (2^lg) t7) (.int (2^lg-1) t8)) 8 #[none]) :: (il, listOf vs.toArray ep) :: rest))
   (T : Top Mine.hd.view_39 (looseW Mine.hd.view_39 [Str.ofString "_Entry", Str.ofString "_NOT_FOUND", Str.ofString "cached_property", Str.ofString "_HtKeys"]) mean mg mb h₀) (hk : cs.kind = .function) (hd : dp + 6 < recursionLimit) (hu : un + 60 < cLine)
   (hret : ∀ v5 t h' tk', Fr h₀ L h' m → News h₀ L h' ((x, instObj 287 dx) :: (dx, dictS (tabEs w.params k1 k2 k3 k4 k5 k6 k7 k8 (.int lg t1) v2 (.ref il) v4 v5 v6 (.int (2^lg) t7) (.int (2^lg-1) t8)) 8 #[none]) :: (il, listOf vs.toArray ep) :: rest) → Q (.int (wk lg h K) t) { s with heap := h', toks := tk' }) :
   wpAny (model PySem.Challenge.rw_fc5025_03.row.prog w) (ktrTop dp un gd cn cs L a ccd cl outer) (call (.ref 186) [.ref x, .int h th, .bool true]) Q E s :=
  fes_none hlg hlg1 hi hlen hh0 hK hK' hlo hsep hxd hild B F X N T hk hd hu (fun _ t h' tk' F N => hret .none t h' tk' F N) (fun _ _ _ t rd ro h' tk' _ F _ N => hret (.ref rd) t h' tk' F fun p hp => N p (List.mem_cons_of_mem _ hp))
end Mine
end

section
open PySem PySem.W PySem.Calls PyProof.Rows
namespace Mine
local macro_rules | `(tactic| walk_at "getAttr ref") => `(tactic| (k_here; k_dflt (refine' get_lateS ?k1 ?k2 ?k3 ?k4 ?k5 ?k6 ?k7 ?k8 ?k9 ?k10 ?_; (case k1 => k_asm); (case k2 => k_asm); (case k3 => k_inst); (case k4 => k_is); (case k5 => k_is); (case k6 => k_is); (case k7 => k_is); (case k8 => k_is); (case k9 => decide +kernel); (case k10 => k_get))))
local macro_rules | `(tactic| walk_at "getAttr ref") => `(tactic| (k_here; k_dflt (first
  | refine' get_shadowS ?k1 ?k2 ?k3 ?k4 ?k5 ?k6 ?k7 ?k8 ?k9 ?k10 ?_; (case k1 => k_asm); (case k2 => k_asm); (case k3 => k_inst); (case k4 => k_is); (case k5 => k_is); (case k6 => k_is); (case k7 => k_is); (case k8 => k_is); (case k9 => k_get); (case k10 => k_handed); k_whole
  | refine' get_ownS ?k1 ?k2 ?k3 ?k4 ?k5 ?k6 ?k7 ?k8 ?k9 ?_; (case k1 => k_asm); (case k2 => k_asm); (case k3 => k_inst); (case k4 => k_is); (case k5 => k_is); (case k6 => k_is); (case k7 => k_is); (case k8 => k_get); (case k9 => k_handed); k_whole)))
local macro_rules | `(tactic| walk_at "getAttr ref") => `(tactic| (k_here; (with_reducible show wpAny _ _ (getAttr (Value.ref _) (PySem.Str.ofString "__dict__") _) _ _ _); k_dflt (refine' get_dictS ?k1 ?k2 ?k3 ?k4 ?k5 ?k6 ?k7 ?k8 ?k9 ?k10 ?k11 ?k12 ?k13 ?k14 ?_; (case k1 => k_asm); (case k2 => k_asm); (case k3 => k_asm); (case k4 => k_inst); (case k5 => k_is); (case k6 => k_is); (case k7 => k_is); (case k8 => k_is); (case k9 => k_is); (case k10 => k_is); (case k11 => k_is); (case k12 => k_is); (case k13 => k_is); (case k14 => k_upd); k_whole; intro h' F' N'; (try k_sweep))))
local macro_rules | `(tactic| walk_at "getMethod ref") => `(tactic| (k_here; k_dflt (first
  | refine' method_instS ?k1 ?k2 ?k3 ?k4 ?k5 ?k6 ?k7 ?_; (case k1 => k_asm); (case k2 => k_asm); (case k3 => k_inst); (case k4 => k_is); (case k5 => k_is); (case k6 => k_is); (case k7 => k_get); k_whole
  | refine' method_getS ?k1 ?k2 ?_; (case k1 => k_asm); (case k2 => k_mem); k_whole)))
local macro_rules | `(tactic| walk_at "setAttr ref") => `(tactic| (k_here; k_dflt (refine' set_dictS ?k1 ?k2 ?k3 ?k4 ?k5 ?k6 ?k7 ?k8 ?k9 ?k10 ?k11 ?k12 ?k13 ?_; (case k1 => k_asm); (case k2 => k_asm); (case k3 => k_asm); (case k4 => k_inst); (case k5 => exact rfl); (case k6 => k_is); (case k7 => k_is); (case k8 => k_is); (case k9 => k_is); (case k10 => k_get); (case k11 => k_put); (case k12 => k_upd); (case k13 => exact Nat.le_of_ble_eq_true rfl); k_whole; intro h' F' N'; (try k_sweep))))
local macro_rules | `(tactic| walk_at "call builtin:dict.get") => `(tactic| (k_here; k_dflt (refine' call_get_missS ?k1 ?k2 ?k3 ?k4 ?k5 ?_; (case k1 => k_asm); (case k2 => k_mem); (case k3 => assumption); (case k4 => k_keys); (case k5 => k_get); k_whole)))
local macro_rules | `(tactic| walk_at "setItem ref str") => `(tactic| (k_here; k_dflt (refine' setItem_newS ?k1 ?k2 ?k3 ?k4 ?k5 ?k6 ?_; (case k1 => k_asm); (case k2 => k_asm); (case k3 => k_upd); (case k4 => k_keys); (case k5 => k_get); (case k6 => exact Nat.le_of_ble_eq_true rfl); k_whole; intro h' F' N'; (try dsimp only [List.cons_append, List.nil_append] at N'); (try k_sweep))))
local macro_rules | `(tactic| walk_at "exec While") => `(tactic| (k_here; refine Hold.out ?_))
local macro_rules | `(tactic| walk_at "KswEnd") => `(tactic| (refine Hold.out ?_))
local macro_rules | `(tactic| walk_at "binaryOp BitAnd int int") => `(tactic| first | with_reducible refine and_mask ?_ | with_reducible refine and_mask' ?_)
local macro_rules | `(tactic| walk_at "call ref") => `(tactic| (k_here; k_dflt (refine wpAny_call ?_; refine' code_def ?k1 ?k2 ?k3 ?k4 ?k5 ?kA ?kF ?kK ?k6 ?k7 ?k8 ?k9 ?kB ?_ ?c2 ?c3 ?c4 ?c5; (case kA => exact rfl); (case kF => exact rfl); (case kK => first | exact rfl | assumption); (case k1 => k_asm); (case k2 => k_asm); (case k3 => k_asm); (case k4 => k_asm); (case k5 => k_asm); (case k6 => k_is); (case k7 => k_is); (case k8 => ktr_room); (case k9 => first | exact BindsTo.of_eq rfl | exact binds_K (by k_in) rfl (by k_is) rfl rfl rfl); (case c5 => decide); (case kB => exact locs rfl); (case c2 => exact rfl); (case c3 => exact rfl); (case c4 => exact rfl); k_whole; intro g' L' h' FG' F' N' B' X' T'; (try dsimp only); (try k_lift B'); (try k_fold))))
local macro_rules | `(tactic| walk_at "inplaceOp RShift int int") => `(tactic| with_reducible refine shr5 ?_)
local macro_rules | `(tactic| walk_at "binaryOp LShift int int") => `(tactic| (with_reducible refine shl_one ?a ?_; (case a => omega)))
local macro_rules | `(tactic| k_all) => `(tactic| assumption)
/-- a memory: none, or a dict of places -/
def MemR (prog : Program) (w : World) (v : Value) (ML : Led) (oc : Option (List (Int × Int))) : Prop :=
  (oc = none ∧ v = .none ∧ ML = []) ∨ ∃ cm md mo, oc = some cm ∧ v = .ref md ∧ ML = [(md, mo)] ∧ DII prog w mo cm
/-- what a search leaves in a memory -/
def memNext (lg : Nat) (oc : Option (List (Int × Int))) (h : Int) (n K : Nat) : Option (List (Int × Int)) :=
  match oc with
  | none => if n + 32 ≤ K then some [(wk lg h n, wk lg h K)] else none
  | some cm => if n ≤ K then some (kdfPut cm (wk lg h n) (wk lg h K)) else some cm
theorem memNext_ok {lg N : Nat} {h v : Int} {c : List (Int × Int)} {n K : Nat} (hn : pt h n = 0) (hK : ∀ j < K, kdfHas c (wk lg h j) = true) : ∀ {oc : Option (List (Int × Int))}, (∀ cm, oc = some cm → MemOK lg c cm ∧ cm.length ≤ N) →
    ∀ cm, memNext lg oc h n K = some cm → MemOK lg (kdfPut c (wk lg h K) v) cm ∧ cm.length ≤ N + 1
  | none, M, cm, e => by
    by_cases h1 : n + 32 ≤ K
    · simp only [memNext, h1, if_true, Option.some.injEq] at e
      subst e
      exact ⟨(MemOK.nil (lg := lg) (c := c)).put (cm := []) hn (by omega) hK, by simp⟩
    · simp [memNext, h1] at e
  | some c9, M, cm, e => by
    obtain ⟨M1, M2⟩ := M c9 rfl
    by_cases h1 : n ≤ K
    · simp only [memNext, h1, if_true, Option.some.injEq] at e
      subst e
      exact ⟨M1.put hn h1 hK, by have := kdfPut_len c9 (wk lg h n) (wk lg h K); omega⟩
    · simp only [memNext, h1, if_false, Option.some.injEq] at e
      subst e
      exact ⟨M1.grow, by omega⟩
theorem AllLt.mem {d : Nat} : ∀ {l : Led}, AllLt d l → ∀ p ∈ l, @LT.lt Nat _ p.1 d
  | [], _, p, hp => by cases hp
  | q :: l, h, p, hp => by
    rcases List.mem_cons.mp hp with rfl | hp
    · exact h.1
    · exact AllLt.mem h.2 p hp
theorem news_sub {h₀ h : Heap} {L : Addr} {l l' : Led} (N : News h₀ L h l) (hs : ∀ p ∈ l', p ∈ l) : News h₀ L h l' := fun p hp => N p (hs p hp)
theorem mem_fm {l : Led} {js : List Nat} {p : Addr × Obj} (h : p ∈ js.filterMap (l[·]?)) : p ∈ l := by
  obtain ⟨j, _, e⟩ := List.mem_filterMap.mp h
  exact List.mem_of_getElem? e
section
variable {h₀ h : Heap} {L : Addr} {l T1 T2 T3 : Led}
theorem news_p (N : News h₀ L h l) (js : List Nat) (n : Nat) (e : l.drop n = T1 ++ (T2 ++ T3)) : News h₀ L h (js.filterMap (l[·]?) ++ (T1 ++ (T2 ++ T3))) :=
  news_sub N fun p hp => by
    rcases List.mem_append.mp hp with h1 | h1
    · exact mem_fm h1
    · exact List.mem_of_mem_drop (e ▸ h1)
theorem news_q (N : News h₀ L h l) (js ks : List Nat) (n : Nat) {A B : Led} (e : ∃ C, l.drop n = C ∧ ∀ p, p ∈ A ∨ p ∈ B → p ∈ C) : News h₀ L h (js.filterMap (l[·]?) ++ (A ++ (ks.filterMap (l[·]?) ++ B))) :=
  news_sub N fun p hp => by
    obtain ⟨C, e, hC⟩ := e
    rcases List.mem_append.mp hp with h1 | h1
    · exact mem_fm h1
    · rcases List.mem_append.mp h1 with h2 | h2
      · exact List.mem_of_mem_drop (e ▸ hC p (.inl h2))
      · rcases List.mem_append.mp h2 with h3 | h3
        · exact mem_fm h3
        · exact List.mem_of_mem_drop (e ▸ hC p (.inr h3))
/-- the changed memory goes back to its place -/
theorem news_b {J M : Led} (N : News h₀ L h (J ++ (M ++ l))) (n : Nat) {R : Led} (e : ∃ C, l.drop n = C ∧ ∀ p ∈ R, p ∈ M ∨ p ∈ C) : News h₀ L h (J ++ (l.take n ++ R)) :=
  news_sub N fun p hp => by
    obtain ⟨C, e, hC⟩ := e
    rcases List.mem_append.mp hp with h1 | h1
    · exact List.mem_append.mpr (.inl h1)
    · refine List.mem_append.mpr (.inr ?_)
      rcases List.mem_append.mp h1 with h2 | h2
      · exact List.mem_append.mpr (.inr (List.mem_of_mem_take h2))
      · rcases hC p h2 with h3 | h3
        · exact List.mem_append.mpr (.inl h3)
        · exact List.mem_append.mpr (.inr (List.mem_of_mem_drop (e ▸ h3)))
end
set_option maxRecDepth 100000 in
set_option maxHeartbeats 8000000 in
theorem note_any {w : World} {mean : ExcName → Option Value} {mg mb : Str → Option Value}
   {dp un : Nat} {gd : Option (List Code)} {cn : Str} {cs : Scope} {a : Addr} {ccd : Value} {cl : List (Str × Addr)} {outer : List Env} {A₀ : Around} {base h₀ : Heap} {L : Addr} {m : Str → Option Value} {s : Shared} {Q : Value → Shared → Prop}
   {E : Value → Shared → Prop} {h : Int} {th : Tok} {lg : Nat} {wl : Addr} {vs : List Value} {ep : Nat} {rest ML : Led} {mv : Value} {oc : Option (List (Int × Int))} {K r : Nat} (hh0 : 0 ≤ h) (hKl : K ≤ 10000) (hI : IntsAre vs ((List.range (K + 1)).map (wk lg h))) (hr : IsFront h r)
   (hM : MemR PySem.Challenge.rw_fc5025_03.row.prog w mv ML oc) (hc : ∀ cm, oc = some cm → cm.length ≤ 1000) (hlm : ∀ p ∈ ML, (p.1 == sysModules) = false) (hwm : ∀ p ∈ ML, @Ne Nat wl p.1) (hsep : ∀ p ∈ ML, ∀ q ∈ rest, q.1 ≠ p.1)
   (B : Below A₀ base outer h₀) (F : Fr h₀ L s.heap m) (X : (Mine.hd.heap_39 w.params).In h₀)
   (N : News h₀ L s.heap ((wl, listOf vs.toArray ep) :: (ML ++ rest)))
   (T : Top Mine.hd.view_39 (looseW Mine.hd.view_39 [Str.ofString "_Entry", Str.ofString "_NOT_FOUND", Str.ofString "cached_property", Str.ofString "_HtKeys"]) mean mg mb h₀) (hk : cs.kind = .function) (hd : dp + 4 < recursionLimit) (hu : un + 40 < cLine)
   (hret : ∀ mv' ML' h' tk', MemR PySem.Challenge.rw_fc5025_03.row.prog w mv' ML' (memNext lg oc h r K) → (∀ p ∈ ML', (∃ q ∈ ML, q.1 = p.1) ∨ (@LT.lt Nat _ wl p.1 ∧ ∀ q ∈ rest, @LT.lt Nat _ q.1 p.1)) → Fr h₀ L h' m → News h₀ L h' ((wl, listOf vs.toArray ep) :: (ML' ++ rest)) → Q mv' { s with heap := h', toks := tk' }) :
   wpAny (model PySem.Challenge.rw_fc5025_03.row.prog w) (ktrTop dp un gd cn cs L a ccd cl outer) (call (.ref 316) [mv, .ref wl, .int h th]) Q E s := by
  rcases hM with ⟨rfl, rfl, rfl⟩ | ⟨cm, md, mo, rfl, rfl, rfl, hD⟩
  · refine law_note_none hh0 hKl hI B F X N T hk hd hu (fun hall h' tk' F N => ?_) (fun r' hr' hle md mo h' tk' lA F hD N => ?_)
    · have h1 : ¬ r + 32 ≤ K := by have := hall r hr; omega
      exact hret .none [] h' tk' (.inl ⟨by simp [memNext, h1], rfl, rfl⟩) (by simp) F N
    · obtain rfl := hr'.uniq hr
      refine hret (.ref md) [(md, mo)] h' tk' (.inr ⟨_, md, mo, by simp [memNext, hle], rfl, rfl, hD⟩) (fun p hp => .inr ?_) F (news_sub N fun p hp => by simp at hp ⊢; rcases hp with h9 | h9 | h9 <;> simp [h9])
      rw [List.mem_singleton.mp hp]
      exact ⟨lA.1, AllLt.mem lA.2⟩
  · refine law_note_some hh0 hKl hI hD (hc cm rfl) (hlm _ (.head _)) (hwm _ (.head _)) (hsep _ (.head _)) B F X N T hk hd hu (fun hall h' tk' F N => ?_) (fun r' hr' hle mo' h' tk' F hD' N => ?_)
    · have h1 : ¬ r ≤ K := by have := hall r hr; omega
      exact hret (.ref md) [(md, mo)] h' tk' (.inr ⟨cm, md, mo, by simp [memNext, h1], rfl, rfl, hD⟩) (fun p hp => .inl ⟨_, hp, rfl⟩) F N
    · obtain rfl := hr'.uniq hr
      exact hret (.ref md) [(md, mo')] h' tk' (.inr ⟨_, md, mo', by simp [memNext, hle], rfl, rfl, hD'⟩) (fun p hp => .inl ⟨_, .head _, by rw [List.mem_singleton.mp hp]⟩) F N
set_option maxRecDepth 100000 in
set_option maxHeartbeats 8000000 in
theorem one_any {w : World} {mean : ExcName → Option Value} {mg mb : Str → Option Value}
   {dp un : Nat} {gd : Option (List Code)} {cn : Str} {cs : Scope} {a : Addr} {ccd : Value} {cl : List (Str × Addr)} {outer : List Env} {A₀ : Around} {base h₀ : Heap} {L : Addr} {m : Str → Option Value} {s : Shared} {Q : Value → Shared → Prop}
   {E : Value → Shared → Prop} {x dx : Addr} {k1 k2 k3 k4 k5 k6 t1 : Tok} {v2 v4 v6 : Value} {lg : Nat} {rest : Led} {k7 k8 t7 t8 : Tok} {il : Addr} {vs : List Value} {ns : List Int} {ep : Nat} {h : Int} {th : Tok} {K : Nat}
   (hlg : lg ≤ 10) (hlg1 : 10 ≤ lg) (hi : IntsAre vs ns) (hlen : ns.length = 2 ^ lg) (hh0 : 0 ≤ h)
   (hK : ns.getD (wk lg h K).toNat 0 = -1) (hK' : ∀ j < K, ns.getD (wk lg h j).toNat 0 ≠ -1) (hlo : (dx == sysModules) = false) (hsep : ∀ p ∈ rest, p.1 ≠ dx) (hxd : @LT.lt Nat _ dx x) (hild : @LT.lt Nat _ il dx) {v5 : Value} {ML : Led} {oc : Option (List (Int × Int))} {n : Nat} (hn : IsFront h n)
   (hM : MemR PySem.Challenge.rw_fc5025_03.row.prog w v5 ML oc) (hc : ∀ cm, oc = some cm → cm.length ≤ 1000) (hmem : ∀ cm, oc = some cm → n ≤ K → kdfHas cm (wk lg h n) = true → ∃ k0, n + k0 < K ∧ kdfLook cm (wk lg h n) 0 = tl lg (wk lg h n) k0)
   (hlm : ∀ p ∈ ML, (p.1 == sysModules) = false) (hrx : ∀ p ∈ ML, @Ne Nat p.1 x ∧ @Ne Nat p.1 dx ∧ @Ne Nat p.1 il) (hsepr : ∀ p ∈ ML, ∀ q ∈ rest, q.1 ≠ p.1)
   (B : Below A₀ base outer h₀) (F : Fr h₀ L s.heap m) (X : (Mine.hd.heap_39 w.params).In h₀)
   (N : News h₀ L s.heap ((x, instObj 287 dx) :: (dx, dictS (tabEs w.params k1 k2 k3 k4 k5 k6 k7 k8 (.int lg t1) v2 (.ref il) v4 v5 v6 (.int (2^lg) t7) (.int (2^lg-1) t8)) 8 #[none]) :: (il, listOf vs.toArray ep) :: (ML ++ rest)))
   (T : Top Mine.hd.view_39 (looseW Mine.hd.view_39 [Str.ofString "_Entry", Str.ofString "_NOT_FOUND", Str.ofString "cached_property", Str.ofString "_HtKeys"]) mean mg mb h₀) (hk : cs.kind = .function) (hd : dp + 6 < recursionLimit) (hu : un + 60 < cLine)
   (hret : ∀ v5' ML' t h' tk', MemR PySem.Challenge.rw_fc5025_03.row.prog w v5' ML' (memNext lg oc h n K) → (∀ p ∈ ML', (∃ q ∈ ML, q.1 = p.1) ∨ (@LT.lt Nat _ x p.1 ∧ @LT.lt Nat _ dx p.1 ∧ @LT.lt Nat _ il p.1 ∧ ∀ q ∈ rest, @LT.lt Nat _ q.1 p.1)) → Fr h₀ L h' m → News h₀ L h' ((x, instObj 287 dx) :: (dx, dictS (tabEs w.params k1 k2 k3 k4 k5 k6 k7 k8 (.int lg t1) v2 (.ref il) v4 v5' v6 (.int (2^lg) t7) (.int (2^lg-1) t8)) 8 #[none]) :: (il, listOf vs.toArray ep) :: (ML' ++ rest)) → Q (.int (wk lg h K) t) { s with heap := h', toks := tk' }) :
   wpAny (model PySem.Challenge.rw_fc5025_03.row.prog w) (ktrTop dp un gd cn cs L a ccd cl outer) (call (.ref 186) [.ref x, .int h th, .bool true]) Q E s := by
  rcases hM with ⟨rfl, rfl, rfl⟩ | ⟨cm, md, mo, rfl, rfl, rfl, hD⟩
  · refine fes_none hlg hlg1 hi hlen hh0 hK hK' hlo hsep hxd hild B F X N T hk hd hu (fun hall t h' tk' F N => ?_) (fun r' hr' hle t md mo h' tk' lA F hD N => ?_)
    · have h1 : ¬ n + 32 ≤ K := by have := hall n hn; omega
      exact hret .none [] t h' tk' (.inl ⟨by simp [memNext, h1], rfl, rfl⟩) (by simp) F N
    · obtain rfl := hr'.uniq hn
      refine hret (.ref md) [(md, mo)] t h' tk' (.inr ⟨_, md, mo, by simp [memNext, hle], rfl, rfl, hD⟩) (fun p hp => .inr ?_) F (news_sub N fun p hp => by simp at hp ⊢; rcases hp with h9 | h9 | h9 | h9 | h9 <;> simp [h9])
      rw [List.mem_singleton.mp hp]
      exact ⟨lA.1, lA.2.1, lA.2.2.1, AllLt.mem lA.2.2.2⟩
  · have hx9 := hrx _ (.head _)
    refine fes_some hlg hlg1 hi hlen hh0 hK hK' hD (hc cm rfl) (fun n' hn' hle hh => by obtain rfl := hn'.uniq hn; exact hmem cm rfl hle hh) hlo hsep hxd hild (hlm _ (.head _)) hx9.1 hx9.2.1 hx9.2.2 (hsepr _ (.head _)) B F X N T hk hd hu (fun hall t h' tk' F N => ?_) (fun r' hr' hle t mo' h' tk' F hD' N => ?_)
    · have h1 : ¬ n ≤ K := by have := hall n hn; omega
      exact hret (.ref md) [(md, mo)] t h' tk' (.inr ⟨cm, md, mo, by simp [memNext, h1], rfl, rfl, hD⟩) (fun p hp => .inl ⟨_, hp, rfl⟩) F N
    · obtain rfl := hr'.uniq hn
      exact hret (.ref md) [(md, mo')] t h' tk' (.inr ⟨_, md, mo', by simp [memNext, hle], rfl, rfl, hD'⟩) (fun p hp => .inl ⟨_, .head _, by rw [List.mem_singleton.mp hp]⟩) F N
set_option maxRecDepth 100000 in
set_option maxHeartbeats 8000000 in
/-- a table, cold or warm, with what it remembers -/
def TabR (w : World) (k1 k2 k3 k4 k5 k6 t1 : Tok) (v2 v4 v6 : Value) (lg : Nat) (il : Addr) (o : Obj) (ML : Led) (oc : Option (List (Int × Int))) : Prop :=
  (o = dictOf (coldEs w.params k1 k2 k3 k4 k5 k6 (.int lg t1) v2 (.ref il) v4 .none v6) 6 ∧ ML = [] ∧ oc = none) ∨ ∃ k7 k8 t7 t8 v5, o = dictS (tabEs w.params k1 k2 k3 k4 k5 k6 k7 k8 (.int lg t1) v2 (.ref il) v4 v5 v6 (.int (2^lg) t7) (.int (2^lg-1) t8)) 8 #[none] ∧ MemR PySem.Challenge.rw_fc5025_03.row.prog w v5 ML oc
set_option maxRecDepth 100000 in
set_option maxHeartbeats 8000000 in
theorem third_any {w : World} {mean : ExcName → Option Value} {mg mb : Str → Option Value}
   {dp un : Nat} {gd : Option (List Code)} {cn : Str} {cs : Scope} {a : Addr} {ccd : Value} {cl : List (Str × Addr)} {outer : List Env} {A₀ : Around} {base h₀ : Heap} {L : Addr} {m : Str → Option Value} {s : Shared} {Q : Value → Shared → Prop}
   {Γ : Ctx} (hΓ : InOK Γ (ktrTop dp un gd cn cs L a ccd cl outer)) {x dx : Addr} {k1 k2 k3 k4 k5 k6 t1 : Tok} {v2 v4 v6 : Value} {lg : Nat} {rest : Led} {il : Addr} {vs : List Value} {ns : List Int} {ep : Nat} {h : Int} {th : Tok} {K : Nat}
   (hlg : lg ≤ 10) (hlg1 : 10 ≤ lg) (hi : IntsAre vs ns) (hlen : ns.length = 2 ^ lg) (hh0 : 0 ≤ h)
   (hK : ns.getD (wk lg h K).toNat 0 = -1) (hK' : ∀ j < K, ns.getD (wk lg h j).toNat 0 ≠ -1) (hlo : (dx == sysModules) = false) (hsep : ∀ p ∈ rest, p.1 ≠ dx) (hxd : @LT.lt Nat _ dx x) (hild : @LT.lt Nat _ il dx) {o : Obj} {ML : Led} {oc : Option (List (Int × Int))} {n : Nat} (hn : IsFront h n)
   (hM : TabR w k1 k2 k3 k4 k5 k6 t1 v2 v4 v6 lg il o ML oc) (hc : ∀ cm, oc = some cm → cm.length ≤ 1000) (hmem : ∀ cm, oc = some cm → n ≤ K → kdfHas cm (wk lg h n) = true → ∃ k0, n + k0 < K ∧ kdfLook cm (wk lg h n) 0 = tl lg (wk lg h n) k0)
   (hlm : ∀ p ∈ ML, (p.1 == sysModules) = false) (hrx : ∀ p ∈ ML, @Ne Nat p.1 x ∧ @Ne Nat p.1 dx ∧ @Ne Nat p.1 il) (hsepr : ∀ p ∈ ML, ∀ q ∈ rest, q.1 ≠ p.1)
   (B : Below A₀ base outer h₀) (F : Fr h₀ L s.heap m) (X : (Mine.hd.heap_39 w.params).In h₀)
   (N : News h₀ L s.heap ((x, instObj 287 dx) :: (dx, o) :: (il, listOf vs.toArray ep) :: (ML ++ rest)))
   (T : Top Mine.hd.view_39 (looseW Mine.hd.view_39 [Str.ofString "_Entry", Str.ofString "_NOT_FOUND", Str.ofString "cached_property", Str.ofString "_HtKeys"]) mean mg mb h₀) (hk : cs.kind = .function) (hd : dp + 8 < recursionLimit) (hu : un + 120 < cLine)
   (hret : ∀ k7 k8 t7 t8 v5' ML' t h' tk', MemR PySem.Challenge.rw_fc5025_03.row.prog w v5' ML' (memNext lg oc h n K) → (∀ p ∈ ML', (∃ q ∈ ML, q.1 = p.1) ∨ (@LT.lt Nat _ x p.1 ∧ @LT.lt Nat _ dx p.1 ∧ @LT.lt Nat _ il p.1 ∧ ∀ q ∈ rest, @LT.lt Nat _ q.1 p.1)) → Fr h₀ L h' m → News h₀ L h' ((x, instObj 287 dx) :: (dx, dictS (tabEs w.params k1 k2 k3 k4 k5 k6 k7 k8 (.int lg t1) v2 (.ref il) v4 v5' v6 (.int (2^lg) t7) (.int (2^lg-1) t8)) 8 #[none]) :: (il, listOf vs.toArray ep) :: (ML' ++ rest)) → Q (.int (wk lg h K) t) { s with heap := h', toks := tk' }) :
   wpAt (model PySem.Challenge.rw_fc5025_03.row.prog w) Γ (call (.ref 186) [.ref x, .int h th, .bool true]) Q s := by
  rcases hM with ⟨rfl, rfl, rfl⟩ | ⟨k7, k8, t7, t8, v5, rfl, hM⟩
  · refine fes_cold hΓ hlg hlg1 hi hlen hh0 hK hK' hlo hsep hxd hild B F X N T hk hd hu (fun hall k7 k8 t7 t8 t h' tk' F N => ?_) (fun r' hr' hle k7 k8 t7 t8 t md mo h' tk' lA F hD N => ?_)
    · have h1 : ¬ n + 32 ≤ K := by have := hall n hn; omega
      exact hret k7 k8 t7 t8 .none [] t h' tk' (.inl ⟨by simp [memNext, h1], rfl, rfl⟩) (by simp) F N
    · obtain rfl := hr'.uniq hn
      refine hret k7 k8 t7 t8 (.ref md) [(md, mo)] t h' tk' (.inr ⟨_, md, mo, by simp [memNext, hle], rfl, rfl, hD⟩) (fun p hp => .inr ?_) F (news_sub N fun p hp => by simp at hp ⊢; rcases hp with h9 | h9 | h9 | h9 | h9 <;> simp [h9])
      rw [List.mem_singleton.mp hp]
      exact ⟨lA.1, lA.2.1, lA.2.2.1, AllLt.mem lA.2.2.2⟩
  · exact at_any hΓ (one_any hlg hlg1 hi hlen hh0 hK hK' hlo hsep hxd hild hn hM hc hmem hlm hrx hsepr B F X N T hk (by omega) (by omega) fun v5' ML' t h' tk' hM' hb F N => hret k7 k8 t7 t8 v5' ML' t h' tk' hM' hb F N)
set_option maxRecDepth 100000 in
set_option maxHeartbeats 8000000 in
theorem third_method {w : World} {A : Around} {E : Value → Shared → Prop} {s : Shared} {h₀ : Heap} {L : Addr} {m : Str → Option Value} {rest : Led} {Q : Value × List Value → Shared → Prop} {pl : Sem Bool} {x dx il : Addr} {k1 k2 k3 k4 k5 k6 t1 : Tok} {v2 v4 v6 : Value} {lg : Nat} {o : Obj} {ML : Led} {oc : Option (List (Int × Int))}
   (X : (Mine.hd.heap_39 w.params).In h₀) (F : Fr h₀ L s.heap m) (N : News h₀ L s.heap rest) (m1 : (x, instObj 287 dx) ∈ rest) (m2 : (dx, o) ∈ rest) (hM : TabR w k1 k2 k3 k4 k5 k6 t1 v2 v4 v6 lg il o ML oc)
   (h : Q (.ref 186, [.ref x]) s) :
   wpAny (model PySem.Challenge.rw_fc5025_03.row.prog w) A (getMethod (.ref x) (Str.ofString "find_empty_slot") pl) Q E s := by
  have N1 : News h₀ L s.heap [(x, instObj 287 dx), (dx, o)] := news_sub N fun p hp => by
    rcases List.mem_cons.mp hp with rfl | hp
    · exact m1
    · rw [List.mem_singleton.mp hp]; exact m2
  clear N m1 m2
  rcases hM with ⟨rfl, -, -⟩ | ⟨k7, k8, t7, t8, v5, rfl, -⟩
  · w_top off; revert X N1 F; k_fill; intro X N1 F
    k_steps
    exact h
  · w_top off; revert X N1 F; k_fill; intro X N1 F
    k_steps
    exact h
end Mine
end

section
open PySem PySem.W PySem.Calls PyProof.Rows
namespace Mine
structure St5 where
  o1 : Obj
  o3 : Obj
  bo : Obj
  vs1 : List Value
  vs3 : List Value
  ns : List Int
  c : List (Int × Int)
  mv : Value
  R : Led
/-- the memories' dicts lie apart from the rest and from one another -/
structure SepR (bk i3 d3 x3 I : Nat) (A B C : Led) : Prop where
  a : ∀ p ∈ A, @LT.lt Nat _ bk p.1 ∧ @Ne Nat p.1 i3 ∧ @Ne Nat p.1 d3 ∧ @Ne Nat p.1 x3 ∧ @Ne Nat p.1 I
  b : ∀ p ∈ B, @LT.lt Nat _ bk p.1 ∧ @Ne Nat p.1 i3 ∧ @Ne Nat p.1 d3 ∧ @Ne Nat p.1 x3 ∧ @Ne Nat p.1 I
  c : ∀ p ∈ C, @LT.lt Nat _ bk p.1 ∧ @Ne Nat p.1 i3 ∧ @Ne Nat p.1 d3 ∧ @Ne Nat p.1 x3 ∧ @Ne Nat p.1 I
  ab : ∀ p ∈ A, ∀ q ∈ B, @Ne Nat q.1 p.1
  ac : ∀ p ∈ A, ∀ q ∈ C, @Ne Nat q.1 p.1
  bc : ∀ p ∈ B, ∀ q ∈ C, @Ne Nat q.1 p.1
section
variable {bk i3 d3 x3 I : Nat} {A B C A' : Led}
def NewAt (bk i3 d3 x3 I : Nat) (A B C : Led) (p : Addr × Obj) : Prop :=
  (∃ q ∈ A, q.1 = p.1) ∨ (@LT.lt Nat _ bk p.1 ∧ @LT.lt Nat _ i3 p.1 ∧ @LT.lt Nat _ d3 p.1 ∧ @LT.lt Nat _ x3 p.1 ∧ @LT.lt Nat _ I p.1 ∧ (∀ q ∈ B, @LT.lt Nat _ q.1 p.1) ∧ ∀ q ∈ C, @LT.lt Nat _ q.1 p.1)
theorem NewAt.own {p : Addr × Obj} (H : NewAt bk i3 d3 x3 I A B C p) (S : ∀ p ∈ A, @LT.lt Nat _ bk p.1 ∧ @Ne Nat p.1 i3 ∧ @Ne Nat p.1 d3 ∧ @Ne Nat p.1 x3 ∧ @Ne Nat p.1 I) :
    @LT.lt Nat _ bk p.1 ∧ @Ne Nat p.1 i3 ∧ @Ne Nat p.1 d3 ∧ @Ne Nat p.1 x3 ∧ @Ne Nat p.1 I := by
  rcases H with ⟨q, hq, e⟩ | ⟨h1, h2, h3, h4, h5, -, -⟩
  · rw [← e]; exact S q hq
  · exact ⟨h1, by omega, by omega, by omega, by omega⟩
theorem NewAt.b {p : Addr × Obj} (H : NewAt bk i3 d3 x3 I A B C p) (S : ∀ p ∈ A, ∀ q ∈ B, @Ne Nat q.1 p.1) : ∀ q ∈ B, @Ne Nat q.1 p.1 := by
  rcases H with ⟨q, hq, e⟩ | ⟨-, -, -, -, -, h6, -⟩
  · intro q' hq'; rw [← e]; exact S q hq q' hq'
  · intro q hq; exact Nat.ne_of_lt (h6 q hq)
theorem NewAt.c {p : Addr × Obj} (H : NewAt bk i3 d3 x3 I A B C p) (S : ∀ p ∈ A, ∀ q ∈ C, @Ne Nat q.1 p.1) : ∀ q ∈ C, @Ne Nat q.1 p.1 := by
  rcases H with ⟨q, hq, e⟩ | ⟨-, -, -, -, -, -, h6⟩
  · intro q' hq'; rw [← e]; exact S q hq q' hq'
  · intro q hq; exact Nat.ne_of_lt (h6 q hq)
theorem SepR.newA (S : SepR bk i3 d3 x3 I A B C) (h : ∀ p ∈ A', NewAt bk i3 d3 x3 I A B C p) : SepR bk i3 d3 x3 I A' B C :=
  ⟨fun p hp => (h p hp).own S.a, S.b, S.c, fun p hp => (h p hp).b S.ab, fun p hp => (h p hp).c S.ac, S.bc⟩
theorem SepR.newB (S : SepR bk i3 d3 x3 I A B C) (h : ∀ p ∈ A', NewAt bk i3 d3 x3 I B A C p) : SepR bk i3 d3 x3 I A A' C :=
  ⟨S.a, fun p hp => (h p hp).own S.b, S.c, fun p hp q hq => ((h q hq).b (fun q hq p hp => (S.ab p hp q hq).symm) p hp).symm, S.ac, fun p hp => (h p hp).c S.bc⟩
theorem SepR.newC (S : SepR bk i3 d3 x3 I A B C) (h : ∀ p ∈ A', NewAt bk i3 d3 x3 I C A B p) : SepR bk i3 d3 x3 I A B A' :=
  ⟨S.a, S.b, fun p hp => (h p hp).own S.c, S.ab, fun p hp q hq => ((h q hq).b (fun q hq p hp => (S.ac p hp q hq).symm) p hp).symm, fun p hp q hq => ((h q hq).c (fun q hq p hp => (S.bc p hp q hq).symm) p hp).symm⟩
theorem SepR.iter {I' : Nat} (S : SepR bk i3 d3 x3 I A B C) (h : ∀ p ∈ A ++ (B ++ C), @Ne Nat p.1 I') : SepR bk i3 d3 x3 I' A B C :=
  ⟨fun p hp => let ⟨a, b, c, d, _⟩ := S.a p hp; ⟨a, b, c, d, h p (by simp [hp])⟩, fun p hp => let ⟨a, b, c, d, _⟩ := S.b p hp; ⟨a, b, c, d, h p (by simp [hp])⟩, fun p hp => let ⟨a, b, c, d, _⟩ := S.c p hp; ⟨a, b, c, d, h p (by simp [hp])⟩, S.ab, S.ac, S.bc⟩
theorem sep_cons {a d : Nat} {o : Obj} {rest : Led} (h : a ≠ d) (hr : ∀ p ∈ rest, @Ne Nat p.1 d) : ∀ p ∈ ((a, o) :: rest : Led), @Ne Nat p.1 d := List.forall_mem_cons.mpr ⟨h, hr⟩
theorem sep_app {d : Nat} {A B : Led} (ha : ∀ p ∈ A, @Ne Nat p.1 d) (hr : ∀ p ∈ B, @Ne Nat p.1 d) : ∀ p ∈ A ++ B, @Ne Nat p.1 d := List.forall_mem_append.mpr ⟨ha, hr⟩
theorem SepR.low (S : SepR bk i3 d3 x3 I A B C) {d : Nat} (hd : d ≤ bk) : (∀ p ∈ A, @Ne Nat p.1 d) ∧ (∀ p ∈ B, @Ne Nat p.1 d) ∧ (∀ p ∈ C, @Ne Nat p.1 d) :=
  ⟨fun p hp => by have := (S.a p hp).1; omega, fun p hp => by have := (S.b p hp).1; omega, fun p hp => by have := (S.c p hp).1; omega⟩
theorem sys_ne {a : Addr} {A : Led} (h : @LT.lt Nat _ 1 a) (hA : ∀ p ∈ A, @LT.lt Nat _ a p.1) : ∀ p ∈ A, (p.1 == sysModules) = false := fun p hp =>
  beq_eq_false_iff_ne.mpr (fun e => by have e2 : @Eq Nat p.1 1 := e; have := hA p hp; omega)
end
end Mine
end

section
open PySem PySem.W PySem.Calls PyProof.Rows
namespace Mine
section
variable {prog : Program} {w : World} {Γ : Ctx} {A : Around} {s : Shared} {env : Env}
theorem at_isTrue_Or2 {x y : Expr} {pos : Pos} {whole : Sem Value} {Q : Bool → Shared → Prop} (hΓ : InOK Γ A)
    (h : wpAt (model prog w) Γ (isTrue x env (eval x env)) (fun b s₁ => if b then Q true s₁ else wpAt (model prog w) Γ (isTrue y env (eval y env)) Q s₁) s) :
    wpAt (model prog w) Γ (isTrue (.BoolOp .Or [x, y] pos) env whole) Q s := by
  rw [arm_isTrue_BoolOp]
  show wpAt (model prog w) Γ (do match BoolOp.Or, ← isTrue x env (eval x env) with | .And, false => pure false | .Or, true => pure true | _, _ => allTrue .Or [y] env) Q s
  refine at_bind (at_mono h fun b s₁ h₁ => ?_)
  cases b with
  | true => exact at_pure h₁
  | false =>
    show wpAt (model prog w) Γ (do match BoolOp.Or, ← isTrue y env (eval y env) with | .And, false => pure false | .Or, true => pure true | _, _ => allTrue .Or [] env) Q s₁
    refine at_bind (at_mono h₁ fun b s₂ h₂ => ?_)
    cases b with
    | true => exact at_pure h₂
    | false => exact at_any hΓ (wpAny_allTrue_Or_nil h₂)
end
end Mine
end

section
open PySem PySem.W PySem.Calls PyProof.Rows
namespace Mine
local macro_rules | `(tactic| walk_at "getAttr ref") => `(tactic| (k_here; k_dflt (refine' get_lateS ?k1 ?k2 ?k3 ?k4 ?k5 ?k6 ?k7 ?k8 ?k9 ?k10 ?_; (case k1 => k_asm); (case k2 => k_asm); (case k3 => k_inst); (case k4 => k_is); (case k5 => k_is); (case k6 => k_is); (case k7 => k_is); (case k8 => k_is); (case k9 => decide +kernel); (case k10 => k_get))))
local macro_rules | `(tactic| walk_at "getAttr ref") => `(tactic| (k_here; k_dflt (first
  | refine' get_shadowS ?k1 ?k2 ?k3 ?k4 ?k5 ?k6 ?k7 ?k8 ?k9 ?k10 ?_; (case k1 => k_asm); (case k2 => k_asm); (case k3 => k_inst); (case k4 => k_is); (case k5 => k_is); (case k6 => k_is); (case k7 => k_is); (case k8 => k_is); (case k9 => k_get); (case k10 => k_handed); k_whole
  | refine' get_ownS ?k1 ?k2 ?k3 ?k4 ?k5 ?k6 ?k7 ?k8 ?k9 ?_; (case k1 => k_asm); (case k2 => k_asm); (case k3 => k_inst); (case k4 => k_is); (case k5 => k_is); (case k6 => k_is); (case k7 => k_is); (case k8 => k_get); (case k9 => k_handed); k_whole)))
local macro_rules | `(tactic| walk_at "getAttr ref") => `(tactic| (k_here; (with_reducible show wpAny _ _ (getAttr (Value.ref _) (PySem.Str.ofString "__dict__") _) _ _ _); k_dflt (refine' get_dictS ?k1 ?k2 ?k3 ?k4 ?k5 ?k6 ?k7 ?k8 ?k9 ?k10 ?k11 ?k12 ?k13 ?k14 ?_; (case k1 => k_asm); (case k2 => k_asm); (case k3 => k_asm); (case k4 => k_inst); (case k5 => k_is); (case k6 => k_is); (case k7 => k_is); (case k8 => k_is); (case k9 => k_is); (case k10 => k_is); (case k11 => k_is); (case k12 => k_is); (case k13 => k_is); (case k14 => k_upd); k_whole; intro h' F' N'; (try k_sweep))))
local macro_rules | `(tactic| walk_at "getMethod ref") => `(tactic| (k_here; k_dflt (first
  | refine' method_instS ?k1 ?k2 ?k3 ?k4 ?k5 ?k6 ?k7 ?_; (case k1 => k_asm); (case k2 => k_asm); (case k3 => k_inst); (case k4 => k_is); (case k5 => k_is); (case k6 => k_is); (case k7 => k_get); k_whole
  | refine' method_getS ?k1 ?k2 ?_; (case k1 => k_asm); (case k2 => k_mem); k_whole)))
local macro_rules | `(tactic| walk_at "setAttr ref") => `(tactic| (k_here; k_dflt (refine' set_dictS ?k1 ?k2 ?k3 ?k4 ?k5 ?k6 ?k7 ?k8 ?k9 ?k10 ?k11 ?k12 ?k13 ?_; (case k1 => k_asm); (case k2 => k_asm); (case k3 => k_asm); (case k4 => k_inst); (case k5 => exact rfl); (case k6 => k_is); (case k7 => k_is); (case k8 => k_is); (case k9 => k_is); (case k10 => k_get); (case k11 => k_put); (case k12 => k_upd); (case k13 => exact Nat.le_of_ble_eq_true rfl); k_whole; intro h' F' N'; (try k_sweep))))
local macro_rules | `(tactic| walk_at "call builtin:dict.get") => `(tactic| (k_here; k_dflt (refine' call_get_missS ?k1 ?k2 ?k3 ?k4 ?k5 ?_; (case k1 => k_asm); (case k2 => k_mem); (case k3 => assumption); (case k4 => k_keys); (case k5 => k_get); k_whole)))
local macro_rules | `(tactic| walk_at "setItem ref str") => `(tactic| (k_here; k_dflt (refine' setItem_newS ?k1 ?k2 ?k3 ?k4 ?k5 ?k6 ?_; (case k1 => k_asm); (case k2 => k_asm); (case k3 => k_upd); (case k4 => k_keys); (case k5 => k_get); (case k6 => exact Nat.le_of_ble_eq_true rfl); k_whole; intro h' F' N'; (try dsimp only [List.cons_append, List.nil_append] at N'); (try k_sweep))))
local macro_rules | `(tactic| walk_at "exec While") => `(tactic| (k_here; refine Hold.out ?_))
local macro_rules | `(tactic| walk_at "KswEnd") => `(tactic| (refine Hold.out ?_))
local macro_rules | `(tactic| walk_at "binaryOp BitAnd int int") => `(tactic| first | with_reducible refine and_mask ?_ | with_reducible refine and_mask' ?_)
local macro_rules | `(tactic| walk_at "call ref") => `(tactic| (k_here; k_dflt (refine wpAny_call ?_; refine' code_def ?k1 ?k2 ?k3 ?k4 ?k5 ?kA ?kF ?kK ?k6 ?k7 ?k8 ?k9 ?kB ?_ ?c2 ?c3 ?c4 ?c5; (case kA => exact rfl); (case kF => exact rfl); (case kK => first | exact rfl | assumption); (case k1 => k_asm); (case k2 => k_asm); (case k3 => k_asm); (case k4 => k_asm); (case k5 => k_asm); (case k6 => k_is); (case k7 => k_is); (case k8 => ktr_room); (case k9 => first | exact BindsTo.of_eq rfl | exact binds_K (by k_in) rfl (by k_is) rfl rfl rfl); (case c5 => decide); (case kB => exact locs rfl); (case c2 => exact rfl); (case c3 => exact rfl); (case c4 => exact rfl); k_whole; intro g' L' h' FG' F' N' B' X' T'; (try dsimp only); (try k_lift B'); (try k_fold))))
local macro_rules | `(tactic| walk_at "inplaceOp RShift int int") => `(tactic| with_reducible refine shr5 ?_)
local macro_rules | `(tactic| walk_at "binaryOp LShift int int") => `(tactic| (with_reducible refine shl_one ?a ?_; (case a => omega)))
local macro_rules | `(tactic| k_all) => `(tactic| assumption)
local macro_rules | `(tactic| walk_at "call ref") => `(tactic| (k_here; (with_reducible show wpAny _ _ (call (Value.ref 186) _) _ _ _); refine Hold.out ?_))
local macro_rules | `(tactic| walk_at "call ref") => `(tactic| (k_here; (with_reducible show wpAny _ _ (call (Value.ref 302) _) _ _ _); refine Hold.out ?_))
local macro_rules | `(tactic| walk_at "call ref") => `(tactic| (k_here; (with_reducible show wpAny _ _ (call (Value.ref 316) _) _ _ _); refine Hold.out ?_))
local macro_rules | `(tactic| walk_at "call ref") => `(tactic| (k_here; (with_reducible show wpAny _ _ (call (Value.ref 171) _) _ _ _); refine Hold.out ?_))
set_option maxRecDepth 100000 in
set_option maxHeartbeats 8000000 in
theorem turn_family {w : World} {mean : ExcName → Option Value} {mg mb : Str → Option Value} {Γ' : Ctx} {h₀ h : Heap} {L fa cda I : Addr} {m u : Str → Option Value} {s : Shared} {g : Array GenState} {tk : Nat} {Q : Flow → Shared → Prop} {x1 d1 i1 el1 x3 d3 i3 el3 fl rl bk : Addr} {k11 k12 k13 k14 k15 k16 k17 k18 t11 t17 t18 k31 k32 k33 k34 k35 k36 t31 tz : Tok} {v12 v32 : Value} {vs1 vs3 rs fv : List Value} {fam : List Int} {ep1 ep3 ep4 M0 : Nat} {fo bo : Obj} {oi o3 : Obj} {ns : List Int} {c : List (Int × Int)} {i : Nat} {r : Int} {tr : Tok} {mv0 mv v51 : Value} {ML ML1 ML3 : Led} {oc oc3 : Option (List (Int × Int))} {K n : Nat}
   (hi60 : M0 + i < 100) (hr2 : 0 ≤ r ∧ r < 9223372036854775808) (hK40 : K ≤ 1040) (hKf : kdfHas c (wk 10 r K) = false) (hKt : ∀ j < K, kdfHas c (wk 10 r j) = true) (hn : IsFront r n)
   (hPl : Places 10 ns c) (hcl : c.length = M0 + i) (hv1 : IntsAre vs1 ns) (hv3 : IntsAre vs3 ns) (hbo : DII PySem.Challenge.rw_fc5025_03.row.prog w bo c)
   (hM : MemR PySem.Challenge.rw_fc5025_03.row.prog w mv ML oc) (hM1 : MemR PySem.Challenge.rw_fc5025_03.row.prog w v51 ML1 oc) (hM3 : TabR w k31 k32 k33 k34 k35 k36 t31 v32 (.ref el3) (.bool false) 10 i3 o3 ML3 oc3) (hok : ∀ cm, oc = some cm → MemOK 10 c cm ∧ cm.length ≤ M0 + i) (hok3 : ∀ cm, oc3 = some cm → MemOK 10 c cm ∧ cm.length ≤ M0 + i) (S : SepR bk i3 d3 x3 I ML ML1 ML3)
   (h12 : @LT.lt Nat _ i1 d1) (h13 : @LT.lt Nat _ d1 x1) (h14 : @LT.lt Nat _ x1 fl) (h18 : @LT.lt Nat _ fl rl) (h19 : @LT.lt Nat _ rl bk) (hb3 : @LT.lt Nat _ bk i3) (h32 : @LT.lt Nat _ i3 d3) (h33 : @LT.lt Nat _ d3 x3) (hlow : @LT.lt Nat _ 1 i1) (hId1 : @Ne Nat I d1) (hIi1 : @Ne Nat I i1) (hIx1 : @Ne Nat I x1) (hId3 : @Ne Nat I d3) (hIi3 : @Ne Nat I i3) (hIx3 : @Ne Nat I x3) (hIbk : @Ne Nat I bk)
   (hΓ' : InOK Γ' (callerA.deeper (envOf (Str.ofString "law") lawS.1.2.2 L fa (.ref cda)))) (B : Below callerA h₀ [] h₀) (X : (Mine.hd.heap_39 w.params).In h₀)
   (N : News h₀ L h ((x1, instObj 287 d1) :: (d1, dictS (tabEs w.params k11 k12 k13 k14 k15 k16 k17 k18 (.int (10 : Nat) t11) v12 (.ref i1) (.ref el1) v51 (.bool false) (.int (2^10) t17) (.int (2^10-1) t18)) 8 #[none]) :: (i1, listOf vs1.toArray ep1) :: (x3, instObj 287 d3) :: (d3, o3) :: (i3, listOf vs3.toArray ep4) :: (fl, fo) :: (rl, listOf rs.toArray ep3) :: (bk, bo) :: (I, oi) :: (ML ++ (ML1 ++ ML3)))) (T : Top Mine.hd.view_39 (looseW Mine.hd.view_39 [Str.ofString "_Entry", Str.ofString "_NOT_FOUND", Str.ofString "cached_property", Str.ofString "_HtKeys"]) mean mg mb h₀)
   (F : Fr h₀ L h (fun y => if y = Str.ofString "number" then some (.int r tr) else kstB (fun z => if [Str.ofString "walk", Str.ofString "told", Str.ofString "spot"].contains z then u z else (fun y => if y = Str.ofString "places_one" then some (.ref i1) else if y = Str.ofString "memory" then some (mv0) else if y = Str.ofString "book" then some (.ref bk) else if y = Str.ofString "family" then some (.ref fl) else if y = Str.ofString "run" then some (.ref rl) else if y = Str.ofString "size" then some (.int (2 ^ 10) tz) else if y = Str.ofString "third" then some (.ref x3) else if y = Str.ofString "one" then some (.ref x1) else m y) z) [(Str.ofString "memory", mv)] y)) :
   wpAt (model PySem.Challenge.rw_fc5025_03.row.prog w) Γ' (execs (forBody ((lawS.1.2.1).drop 16)) (envOf (Str.ofString "law") lawS.1.2.2 L fa (.ref cda))) (AtPost h₀ L { s with gens := g } (fun (c : St5) => (x1, instObj 287 d1) :: (d1, c.o1) :: (i1, listOf c.vs1.toArray ep1) :: (x3, instObj 287 d3) :: (d3, c.o3) :: (i3, listOf c.vs3.toArray ep4) :: (fl, fo) :: (rl, listOf rs.toArray ep3) :: (bk, c.bo) :: c.R) (fun (c : St5) => [(Str.ofString "memory", c.mv)]) (Str.ofString "number") [Str.ofString "walk", Str.ofString "told", Str.ofString "spot"] (fun y => if y = Str.ofString "places_one" then some (.ref i1) else if y = Str.ofString "memory" then some (mv0) else if y = Str.ofString "book" then some (.ref bk) else if y = Str.ofString "family" then some (.ref fl) else if y = Str.ofString "run" then some (.ref rl) else if y = Str.ofString "size" then some (.int (2 ^ 10) tz) else if y = Str.ofString "third" then some (.ref x3) else if y = Str.ofString "one" then some (.ref x1) else m y) ((fun (i : Nat) (c : St5) => Places 10 c.ns c.c ∧ c.c.length = M0 + i ∧ IntsAre c.vs1 c.ns ∧ IntsAre c.vs3 c.ns ∧ DII PySem.Challenge.rw_fc5025_03.row.prog w c.bo c.c ∧
      ∃ ML ML1 ML3 oc oc3 v51, c.R = ML ++ (ML1 ++ ML3) ∧ MemR PySem.Challenge.rw_fc5025_03.row.prog w c.mv ML oc ∧ c.o1 = dictS (tabEs w.params k11 k12 k13 k14 k15 k16 k17 k18 (.int (10 : Nat) t11) v12 (.ref i1) (.ref el1) v51 (.bool false) (.int (2^10) t17) (.int (2^10-1) t18)) 8 #[none] ∧ MemR PySem.Challenge.rw_fc5025_03.row.prog w v51 ML1 oc ∧ TabR w k31 k32 k33 k34 k35 k36 t31 v32 (.ref el3) (.bool false) 10 i3 c.o3 ML3 oc3 ∧
        (∀ cm, oc = some cm → MemOK 10 c.c cm ∧ cm.length ≤ M0 + i) ∧ (∀ cm, oc3 = some cm → MemOK 10 c.c cm ∧ cm.length ≤ M0 + i) ∧ SepR bk i3 d3 x3 bk ML ML1 ML3) (i + 1)) (I, oi) Q) { s with heap := h, gens := g, toks := tk } := by
  have e1 := hPl.free (wk_range K).1 (wk_range (h := r) K).2 hKf
  have e3 : ∀ j < K, ns.getD (wk 10 r j).toNat 0 ≠ -1 := fun j hj => hPl.taken (wk_range j).1 (wk_range (h := r) j).2 (hKt j hj)
  have hcb : c.length ≤ 1000 := by omega
  have q0 := (wk_range (n := 10) (h := r) K).1
  have q1 := (wk_range (n := 10) (h := r) K).2
  have q2 : wk 10 r K < (ns.length : Int) := by rw [len_cast hPl.len]; exact q1
  have q3 : wk 10 r K < 2 ^ 63 := by have := pow_le_1024 (n := 10) (by omega); omega
  have hlbk : (bk == sysModules) = false := beq_eq_false_iff_ne.mpr (fun e => by have e2 : @Eq Nat bk 1 := e; omega)
  have hld1 : (d1 == sysModules) = false := beq_eq_false_iff_ne.mpr (fun e => by have e2 : @Eq Nat d1 1 := e; omega)
  have hld3 : (d3 == sysModules) = false := beq_eq_false_iff_ne.mpr (fun e => by have e2 : @Eq Nat d3 1 := e; omega)
  have h1bk : @LT.lt Nat _ 1 bk := by omega
  w_top off; revert B X N T F; k_fill; intro B X N T F
  dsimp only [lawS, List.drop, forBody] at hΓ' ⊢
  dsimp only [kstB] at F
  refine at_execs_consA hΓ' ?_
  (try k_fold)
  k_steps
  refine Hold.mk ?_
  rename News _ _ _ _ => N9
  replace N9 := news_p N9 [8, 0, 1, 2, 3, 4, 5, 6, 7, 9] 10 (T1 := ML) (T2 := ML1) (T3 := ML3) rfl
  simp only [List.filterMap_cons, List.getElem?_cons_succ, List.getElem?_cons_zero, List.filterMap_nil, List.cons_append, List.nil_append] at N9
  refine' law_walk hr2.1 (by omega) hbo hlbk hKf hKt ?u1 ?u2 ?u3 N9 ?u5 ?u6 ?u7 ?u8 ?_; (case u1 => k_asm); (case u2 => k_asm); (case u3 => k_asm); (case u5 => k_asm); (case u6 => first | exact rfl | assumption); (case u7 => ktr_room); (case u8 => ktr_units)
  intro wl vsw nw h3 tk3 lw hIw F3 N3
  have hwlR : ∀ p ∈ ML, @Ne Nat wl p.1 := fun p hp => Ne.symm (Nat.ne_of_lt (AllLt.mem lw.2 p (.tail _ (.tail _ (.tail _ (.tail _ (.tail _ (.tail _ (.tail _ (.tail _ (.tail _ (List.mem_append.mpr (.inl hp)))))))))))))
  have hwl1 : ∀ p ∈ ML1, @Ne Nat p.1 wl := fun p hp => Nat.ne_of_lt (AllLt.mem lw.2 p (.tail _ (.tail _ (.tail _ (.tail _ (.tail _ (.tail _ (.tail _ (.tail _ (.tail _ (List.mem_append.mpr (.inr (List.mem_append.mpr (.inl hp))))))))))))))
  have hwl3 : ∀ p ∈ ML3, @Ne Nat p.1 wl := fun p hp => Nat.ne_of_lt (AllLt.mem lw.2 p (.tail _ (.tail _ (.tail _ (.tail _ (.tail _ (.tail _ (.tail _ (.tail _ (.tail _ (List.mem_append.mpr (.inr (List.mem_append.mpr (.inr hp))))))))))))))
  dsimp only [AllLt] at lw
  obtain ⟨lw0, lwx1, lwd1, lwi1, lwx3, lwd3, lwi3, lwfl, lwrl, lwI, -⟩ := lw
  (try k_fold)
  k_steps
  all_goals try (exfalso; contradiction)
  (try dsimp only)
  (try k_fold)
  refine at_execs_consA hΓ' ?_
  k_steps
  refine Hold.mk ?_
  rename News _ _ _ _ => N9
  replace N9 := news_q N9 [0] [1, 2, 3, 4, 5, 6, 7, 8, 9, 10] 11 (A := ML) (B := ML1 ++ ML3) ⟨(ML ++ (ML1 ++ ML3)), rfl, fun p hp => by simp only [List.mem_append] at hp ⊢; rcases hp with h | h | h <;> simp only [h, true_or, or_true]⟩
  simp only [List.filterMap_cons, List.getElem?_cons_succ, List.getElem?_cons_zero, List.filterMap_nil, List.cons_append, List.nil_append] at N9
  refine' note_any hr2.1 (by omega) hIw hn hM (fun cm e => by have := (hok cm e).2; omega) (sys_ne h1bk fun p hp => (S.a p hp).1) hwlR (fun p hp => by
    obtain ⟨a1, a2, a3, a4, a5⟩ := S.a p hp
    repeat' (first | refine sep_cons (by omega) ?_ | refine sep_app ?_ ?_ | exact S.ab p hp | exact S.ac p hp)) ?u1 ?u2 ?u3 N9 ?u5 ?u6 ?u7 ?u8 ?_; (case u1 => k_asm); (case u2 => k_asm); (case u3 => k_asm); (case u5 => k_asm); (case u6 => first | exact rfl | assumption); (case u7 => ktr_room); (case u8 => ktr_units)
  intro mv9 MLn h4 tk4 hMn hbn F4 N4
  replace S := S.newA (A' := MLn) fun p hp => (hbn p hp).imp_right fun h => ⟨h.2 _ (.head _), h.2 _ (.tail _ (.tail _ (.tail _ (.tail _ (.tail _ (.tail _ (.head _))))))), h.2 _ (.tail _ (.tail _ (.tail _ (.tail _ (.tail _ (.head _)))))), h.2 _ (.tail _ (.tail _ (.tail _ (.tail _ (.head _))))), h.2 _ (.tail _ (.tail _ (.tail _ (.tail _ (.tail _ (.tail _ (.tail _ (.tail _ (.tail _ (.head _)))))))))), fun q hq => h.2 _ (.tail _ (.tail _ (.tail _ (.tail _ (.tail _ (.tail _ (.tail _ (.tail _ (.tail _ (.tail _ (List.mem_append.mpr (.inl hq)))))))))))), fun q hq => h.2 _ (.tail _ (.tail _ (.tail _ (.tail _ (.tail _ (.tail _ (.tail _ (.tail _ (.tail _ (.tail _ (List.mem_append.mpr (.inr hq))))))))))))⟩
  have hwln : ∀ p ∈ MLn, @Ne Nat p.1 wl := fun p hp => by
    rcases hbn p hp with ⟨q, hq, e⟩ | h
    · rw [← e]; exact Ne.symm (hwlR q hq)
    · exact Ne.symm (Nat.ne_of_lt h.1)
  replace N4 := news_b (J := [_]) (M := MLn) N4 10 (R := MLn ++ (ML1 ++ ML3)) ⟨ML1 ++ ML3, rfl, fun p hp => by simp only [List.mem_append] at hp ⊢; rcases hp with h | h | h <;> simp only [h, true_or, or_true]⟩
  simp only [List.take_succ_cons, List.take_zero, List.cons_append, List.nil_append] at N4
  have hl9 : ((List.range (K + 1)).map (wk 10 r)).length = K + 1 := by simp
  have hl8 : ((List.range (K + 1)).map (wk 10 r)).getD K 0 = wk 10 r K := by simp
  generalize hxs : (List.range (K + 1)).map (wk 10 r) = xs at *
  have hlast : xs.getD (-1 + (xs.length : Int)).toNat 0 = wk 10 r K := by rw [hl9, show (-1 + ((K + 1 : Nat) : Int)).toNat = K by omega]; exact hl8
  (try k_fold)
  k_steps
  all_goals try (exfalso; contradiction)
  (try dsimp only)
  (try k_fold)
  refine at_execs_consA hΓ' ?_
  (try k_fold)
  k_steps
  all_goals try (exfalso; contradiction)
  (try dsimp only)
  (try k_fold)
  refine Hold.mk ?_
  rename News _ _ _ _ => N9
  replace N9 := news_q N9 [2, 3, 4] [0, 1, 5, 6, 7, 8, 9, 10] 11 (A := ML1) (B := MLn ++ ML3) ⟨(MLn ++ (ML1 ++ ML3)), rfl, fun p hp => by simp only [List.mem_append] at hp ⊢; rcases hp with h | h | h <;> simp only [h, true_or, or_true]⟩
  simp only [List.filterMap_cons, List.getElem?_cons_succ, List.getElem?_cons_zero, List.filterMap_nil, List.cons_append, List.nil_append] at N9
  refine' one_any (by decide) (by decide) hv1 hPl.len hr2.1 e1 e3 hld1 (by
    repeat' (first | refine sep_cons (by omega) ?_ | refine sep_app ?_ ?_ | exact (S.low (d := d1) (by omega)).1 | exact (S.low (d := d1) (by omega)).2.2)) h13 h12 hn hM1 (fun cm e => by have := (hok cm e).2; omega) (fun cm e hle hh => (hok cm e).1.hit hn.2.1 hle hKf hh) (sys_ne h1bk fun p hp => (S.b p hp).1)
    (fun p hp => by obtain ⟨a1, a2, a3, a4, a5⟩ := S.b p hp; exact ⟨by omega, by omega, by omega⟩) (fun p hp => by
    obtain ⟨a1, a2, a3, a4, a5⟩ := S.b p hp
    have a6 := hwl1 p hp
    repeat' (first | refine sep_cons (by omega) ?_ | refine sep_app ?_ ?_ | exact S.bc p hp | exact fun q hq => (S.ab q hq p hp).symm)) ?u1 ?u2 ?u3 N9 ?u5 ?u6 ?u7 ?u8 ?_; (case u1 => k_asm); (case u2 => k_asm); (case u3 => k_asm); (case u5 => k_asm); (case u6 => first | exact rfl | assumption); (case u7 => ktr_room); (case u8 => ktr_units)
  intro v51' ML1n t5 h5 tk5 hM1n hb1 F5 N5
  replace S := S.newB (A' := ML1n) fun p hp => (hb1 p hp).imp_right fun h => ⟨h.2.2.2 _ (.tail _ (.head _)), h.2.2.2 _ (.tail _ (.tail _ (.tail _ (.tail _ (.head _))))), h.2.2.2 _ (.tail _ (.tail _ (.tail _ (.head _)))), h.2.2.2 _ (.tail _ (.tail _ (.head _))), h.2.2.2 _ (.tail _ (.tail _ (.tail _ (.tail _ (.tail _ (.tail _ (.tail _ (.head _)))))))), fun q hq => h.2.2.2 _ (.tail _ (.tail _ (.tail _ (.tail _ (.tail _ (.tail _ (.tail _ (.tail _ (List.mem_append.mpr (.inl hq)))))))))), fun q hq => h.2.2.2 _ (.tail _ (.tail _ (.tail _ (.tail _ (.tail _ (.tail _ (.tail _ (.tail _ (List.mem_append.mpr (.inr hq))))))))))⟩
  have hwl1n : ∀ p ∈ ML1n, @Ne Nat p.1 wl := fun p hp => by
    rcases hb1 p hp with ⟨q, hq, e⟩ | h
    · rw [← e]; exact hwl1 q hq
    · exact Ne.symm (Nat.ne_of_lt (h.2.2.2 _ (.head _)))
  replace N5 := news_b (J := [_, _, _]) (M := ML1n) N5 8 (R := MLn ++ (ML1n ++ ML3)) ⟨MLn ++ ML3, rfl, fun p hp => by simp only [List.mem_append] at hp ⊢; rcases hp with h | h | h <;> simp only [h, true_or, or_true]⟩
  simp only [List.take_succ_cons, List.take_zero, List.cons_append, List.nil_append] at N5
  (try k_fold)
  k_steps
  all_goals try (exfalso; contradiction)
  (try dsimp only)
  (try k_fold)
  refine at_execs_cons (at_If (at_isTrue_Or2 hΓ' (at_any hΓ' ?_)))
  (try k_fold)
  k_steps
  all_goals try (exfalso; exact absurd hlast.symm (by assumption))
  refine at_isTrue_Compare1 hΓ' (at_methodCall hΓ' ?_)
  (try k_fold)
  k_steps
  refine third_method X (by assumption) (by assumption) (.tail _ (.tail _ (.tail _ (.tail _ (.tail _ (.head _)))))) (.tail _ (.tail _ (.tail _ (.tail _ (.tail _ (.tail _ (.head _))))))) hM3 ?_
  ((try dsimp only); refine at_callWith_K (K := Mine.hd.heap_39 w.params) hΓ' (by k_dflt k_is) ?_)
  (try k_fold)
  k_steps
  rename News _ _ _ _ => N9
  replace N9 := news_q N9 [5, 6, 7] [0, 1, 2, 3, 4, 8, 9, 10] 11 (A := ML3) (B := MLn ++ ML1n) ⟨(MLn ++ (ML1n ++ ML3)), rfl, fun p hp => by simp only [List.mem_append] at hp ⊢; rcases hp with h | h | h <;> simp only [h, true_or, or_true]⟩
  simp only [List.filterMap_cons, List.getElem?_cons_succ, List.getElem?_cons_zero, List.filterMap_nil, List.cons_append, List.nil_append] at N9
  refine' third_any hΓ' (by decide) (by decide) hv3 hPl.len hr2.1 e1 e3 hld3 (by
    repeat' (first | refine sep_cons (by omega) ?_ | refine sep_app ?_ ?_ | exact fun p hp => (S.a p hp).2.2.1 | exact fun p hp => (S.b p hp).2.2.1)) h33 h32 hn hM3 (fun cm e => by have := (hok3 cm e).2; omega) (fun cm e hle hh => (hok3 cm e).1.hit hn.2.1 hle hKf hh) (sys_ne h1bk fun p hp => (S.c p hp).1)
    (fun p hp => by obtain ⟨a1, a2, a3, a4, a5⟩ := S.c p hp; exact ⟨by omega, by omega, by omega⟩) (fun p hp => by
    obtain ⟨a1, a2, a3, a4, a5⟩ := S.c p hp
    have a6 := hwl3 p hp
    repeat' (first | refine sep_cons (by omega) ?_ | refine sep_app ?_ ?_ | exact fun q hq => (S.ac q hq p hp).symm | exact fun q hq => (S.bc q hq p hp).symm)) ?u1 ?u2 ?u3 N9 ?u5 ?u6 ?u7 ?u8 ?_; (case u1 => k_asm); (case u2 => k_asm); (case u3 => k_asm); (case u5 => k_asm); (case u6 => first | exact rfl | assumption); (case u7 => ktr_room); (case u8 => ktr_units)
  intro k37 k38 t37 t38 v53 ML3n t6 h6 tk6 hM3n hb3n F6 N6
  replace S := S.newC (A' := ML3n) fun p hp => (hb3n p hp).imp_right fun h => ⟨h.2.2.2 _ (.tail _ (.tail _ (.tail _ (.tail _ (.head _))))), h.2.2.1, h.2.1, h.1, h.2.2.2 _ (.tail _ (.tail _ (.tail _ (.tail _ (.tail _ (.tail _ (.tail _ (.head _)))))))), fun q hq => h.2.2.2 _ (.tail _ (.tail _ (.tail _ (.tail _ (.tail _ (.tail _ (.tail _ (.tail _ (List.mem_append.mpr (.inl hq)))))))))), fun q hq => h.2.2.2 _ (.tail _ (.tail _ (.tail _ (.tail _ (.tail _ (.tail _ (.tail _ (.tail _ (List.mem_append.mpr (.inr hq))))))))))⟩
  have hwl3n : ∀ p ∈ ML3n, @Ne Nat p.1 wl := fun p hp => by
    rcases hb3n p hp with ⟨q, hq, e⟩ | h
    · rw [← e]; exact hwl3 q hq
    · exact Ne.symm (Nat.ne_of_lt (h.2.2.2 _ (.tail _ (.tail _ (.tail _ (.head _))))))
  replace N6 := news_b (J := [_, _, _]) (M := ML3n) N6 8 (R := MLn ++ (ML1n ++ ML3n)) ⟨MLn ++ ML1n, rfl, fun p hp => by simp only [List.mem_append] at hp ⊢; rcases hp with h | h | h <;> simp only [h, true_or, or_true]⟩
  simp only [List.take_succ_cons, List.take_zero, List.cons_append, List.nil_append] at N6
  have hRbk : ∀ p ∈ MLn ++ (ML1n ++ ML3n), @Ne Nat p.1 bk := sep_app (S.low (Nat.le_refl _)).1 (sep_app (S.low (Nat.le_refl _)).2.1 (S.low (Nat.le_refl _)).2.2)
  have hRi1 : ∀ p ∈ MLn ++ (ML1n ++ ML3n), @Ne Nat p.1 i1 := sep_app (S.low (by omega)).1 (sep_app (S.low (by omega)).2.1 (S.low (by omega)).2.2)
  have hRi3 : ∀ p ∈ MLn ++ (ML1n ++ ML3n), @Ne Nat p.1 i3 := sep_app (fun p hp => (S.a p hp).2.1) (sep_app (fun p hp => (S.b p hp).2.1) (fun p hp => (S.c p hp).2.1))
  generalize hR : MLn ++ (ML1n ++ ML3n) = R at *
  (try k_fold)
  k_steps
  all_goals try (exfalso; contradiction)
  (try dsimp only)
  (try k_fold)
  refine at_execs_nil ?_
  (try dsimp only)
  refine at_any hΓ' ?_
  obtain ⟨kvsb, hdb, hfb⟩ := hbo
  (try k_fold)
  k_steps
  all_goals try (exfalso; contradiction)
  rename Fr _ _ _ _ => eF
  rename News _ _ _ _ => eN
  rename IntsAre (vs1.set _ _) _ => eI1
  rename IntsAre (vs3.set _ _) _ => eI3
  rename Obj.IsDictOf _ _ _ => hd8
  rename PyProof.V.FlatPairs _ _ _ => hf8
  subst hR
  refine at_end (s := { s with gens := g }) (σ := St5) ⟨dictS (tabEs w.params k11 k12 k13 k14 k15 k16 k17 k18 (.int (10 : Nat) t11) v12 (.ref i1) (.ref el1) v51' (.bool false) (.int (2^10) t17) (.int (2^10-1) t18)) 8 #[none], dictS (tabEs w.params k31 k32 k33 k34 k35 k36 k37 k38 (.int (10 : Nat) t31) v32 (.ref i3) (.ref el3) v53 (.bool false) (.int (2^10) t37) (.int (2^10-1) t38)) 8 #[none], _, _, _, _, _, mv9, MLn ++ (ML1n ++ ML3n)⟩ (fun h => h) eF eN (.tail _ (.tail _ (.tail _ (.tail _ (.tail _ (.tail _ (.tail _ (.tail _ (.tail _ (.tail _ (.head _))))))))))) (fun p hp => ?_) (List.forall_mem_cons.mpr ⟨rfl, List.forall_mem_nil _⟩) (fun z z1 z2 z3 => ?_) ⟨hPl.put q0 q1, (put_new_len c (wk 10 r K) (-2) hKf).trans (congrArg (· + 1) hcl), eI1, eI3, ⟨_, hd8, hf8⟩, MLn, ML1n, ML3n, _, _, v51', rfl, hMn, rfl, hM1n, .inr ⟨k37, k38, t37, t38, v53, rfl, hM3n⟩, memNext_ok hn.2.1 hKt hok, memNext_ok hn.2.1 hKt hok3, S.iter (fun p hp => (hRbk p hp))⟩
  · dsimp only at hp
    simp only [List.mem_cons] at hp
    rcases hp with rfl | rfl | rfl | rfl | rfl | rfl | rfl | rfl | rfl | h9
    · exact .tail _ (.tail _ (.tail _ (.head _)))
    · exact .tail _ (.tail _ (.tail _ (.tail _ (.head _))))
    · exact .tail _ (.tail _ (.tail _ (.tail _ (.tail _ (.head _)))))
    · exact .head _
    · exact .tail _ (.head _)
    · exact .tail _ (.tail _ (.head _))
    · exact .tail _ (.tail _ (.tail _ (.tail _ (.tail _ (.tail _ (.tail _ (.tail _ (.head _))))))))
    · exact .tail _ (.tail _ (.tail _ (.tail _ (.tail _ (.tail _ (.tail _ (.tail _ (.tail _ (.head _)))))))))
    · exact .tail _ (.tail _ (.tail _ (.tail _ (.tail _ (.tail _ (.tail _ (.head _)))))))
    · exact .tail _ (.tail _ (.tail _ (.tail _ (.tail _ (.tail _ (.tail _ (.tail _ (.tail _ (.tail _ (.tail _ (h9)))))))))))
  · simp only [List.forall_mem_cons, List.not_mem_nil, false_implies, implies_true, and_true, ne_eq] at z2
    simp only [List.contains_cons, List.contains_nil, Bool.or_false, Bool.or_eq_false_iff, beq_eq_false_iff_ne, ne_eq] at z3
    simp [z1, z2, z3.1, z3.2.1, z3.2.2]
end Mine
end

section
open PySem PySem.W PySem.Calls PyProof.Rows
namespace Mine
theorem flat_keys : ∀ {kvs : List (Int × Value)} {c : List (Int × Int)}, PyProof.V.FlatPairs PyData.int kvs (kdfD c) → kvs.map (·.1) = c.map (·.1)
  | [], [], _ => rfl
  | [], p :: c, h => by cases h
  | q :: kvs, [], h => by cases h
  | q :: kvs, p :: c, h => by
    have h' : PyProof.V.FlatPairs PyData.int (q :: kvs) ((PyData.int p.1, PyData.int p.2) :: kdfD c) := h
    cases h' with
    | cons f r => simp only [List.map_cons]; rw [flat_keys r]
theorem find_own : ∀ {c : List (Int × Int)}, (c.map (·.1)).Nodup → ∀ p ∈ c, c.find? (fun q => decide (q.1 = p.1)) = some p
  | [], _, p, hp => by cases hp
  | q :: c, hn, p, hp => by
    rw [List.map_cons, List.nodup_cons] at hn
    rw [List.find?_cons]
    rcases List.mem_cons.mp hp with rfl | hp
    · simp
    · have : ¬ q.1 = p.1 := fun e => hn.1 (e ▸ List.mem_map.mpr ⟨p, hp, rfl⟩)
      simp only [this, decide_false]
      exact find_own hn.2 p hp
theorem rows_own {c : List (Int × Int)} (hn : (c.map (·.1)).Nodup) : ∀ l : List (Int × Int), (∀ p ∈ l, p ∈ c) → KeqRows (kdfD c) (kdfD l) true
  | [], _ => .nil
  | p :: l, h => by
    have e : PyData.eqv (.int p.2) (.int p.2) = true := by simp [PyData.eqv]
    have hl : PySem.Spec.lookup (PyData.int p.1) (kdfD c) = some (PyData.int p.2) := by rw [kdfD_lookup, find_own hn p (h p (.head _))]; rfl
    have := KeqRows.hit (v := .int p.2) hl (rows_own hn l fun q hq => h q (.tail _ hq))
    rw [e] at this
    exact this
section
variable {prog : Program} {w : World} {A : Around} {E : Value → Shared → Prop} {s : Shared} {h₀ : Heap} {L a b : Addr} {news : List (Addr × Obj)} {oa ob : Obj} {c : List (Int × Int)} {Q : Value → Shared → Prop}
theorem DII.nodup {o : Obj} (D : DII prog w o c) : (c.map (·.1)).Nodup := by
  obtain ⟨kvs, hd, hf⟩ := D
  rw [← flat_keys hf]
  exact keysNodup_of_isDictOf hd
theorem di_ne (N : News h₀ L s.heap news) (ha : (a, oa) ∈ news) (hb : (b, ob) ∈ news) (Da : DII prog w oa c) (Db : DII prog w ob c) (la : (a == sysModules) = false) (lb : (b == sysModules) = false) (hu : A.units < cLine)
    (h : Q (.bool false) s) : wpAny (model prog w) A (compareOp .NotEq (.ref a) (.ref b)) Q E s :=
  kne_tabs PyProof.V.same_int (Da.tab N ha la) (Db.tab N hb lb) rfl hu (rows_own Db.nodup c fun _ h => h) h
theorem di_eq (N : News h₀ L s.heap news) (ha : (a, oa) ∈ news) (hb : (b, ob) ∈ news) (Da : DII prog w oa c) (Db : DII prog w ob c) (la : (a == sysModules) = false) (lb : (b == sysModules) = false) (hu : A.units < cLine)
    (h : Q (.bool true) s) : wpAny (model prog w) A (compareOp .Eq (.ref a) (.ref b)) Q E s :=
  keq_tabs PyProof.V.same_int (Da.tab N ha la) (Db.tab N hb lb) rfl hu (rows_own Db.nodup c fun _ h => h) h
end
end Mine
end

section
open PySem PySem.W PySem.Calls PyProof.Rows
namespace Mine
section
variable {prog : Program} {w : World} {Γ : Ctx} {A : Around} {s : Shared} {env : Env} {R : Result → Shared → Prop}

theorem atLoop_tupP {σ : Type} {h₀ : Heap} {x : Str} {px ip : Pos} {body : List Stmt} {Q : Flow → Shared → Prop} {m₀ : Str → Option Value} {l : Addr} {items : Array Value} {fo : Obj} (hfo : fo.cls = .type "tuple" ∧ ∃ n, fo.data = .seq items n)
    (Led : σ → List (Addr × Obj)) (ps : σ → List (Str × Value)) (stored : List Str) (P : Nat → σ → Prop) (c₀ : σ) (hΓ : InOK Γ A) (hh : A.handled = none) (hx : env.kindOf x = some .local)
    (hpk : (env.scope.kind == .class || (env.scope.kind == .module && env.locals != env.globals)) = false)
    (F : Fr h₀ env.locals s.heap m₀) (N : News h₀ env.locals s.heap (Led c₀)) (hl : ∀ c, (l, fo) ∈ Led c) (hk : ∀ p ∈ ps c₀, m₀ p.1 = some p.2) (hp : P 0 c₀)
    (step : ∀ i (c : σ) (u : Str → Option Value) h g tk I o v Γ', InOK Γ' A → items[i]? = some v → P i c → (AllBare s.gens → AllBare g) →
      (∀ p ∈ Led c, p.1 ≠ I) → o.cls = .type "tuple_iterator" → Fr h₀ env.locals h (fun y => if y = x then some v else kstB (fun z => if stored.contains z then u z else m₀ z) (ps c) y) → News h₀ env.locals h (Led c ++ [(I, o)]) →
      wpAt (model prog w) Γ' (execs body env) (AtPost h₀ env.locals { s with gens := g } Led ps x stored m₀ (P (i + 1)) (I, o) Q) { s with heap := h, gens := g, toks := tk })
    (done : ∀ (c : σ) (u : Str → Option Value) h g tk, P items.size c → (AllBare s.gens → AllBare g) → Fr h₀ env.locals h (fun y => if y = x then u y else kstB (fun z => if stored.contains z then u z else m₀ z) (ps c) y) → News h₀ env.locals h (Led c) → Q .next { s with heap := h, gens := g, toks := tk })
    (hcls : ∀ i (c : σ), P i c → ∀ p ∈ Led c, p.2.cls ≠ .type "tuple_iterator" ∨ ∀ x, p.2.data ≠ .fields x) :
    AtLoop (model prog w) Γ env (.Name x px) body ip (.ref l) Q s := by
  unfold AtLoop
  have isl : ∀ {h : Heap} {c : σ} {nx : List (Addr × Obj)}, News h₀ env.locals h nx → (∀ p ∈ Led c, p ∈ nx) → h.IsTuple l items := fun {h c nx} N hs => ⟨_, (N _ (hs _ (hl c))).1, hfo⟩
  refine at_bind (at_standAt (at_bind (at_holding (at_any hΓ (wpAny_pyIter_tuple (isl N fun _ h => h) ?_)))))
  refine at_runOwn fun p => ?_
  have hIL : s.heap.objs.size ≠ env.locals := fun e => by
    have := F.ns.lt
    rw [← e] at this; exact absurd this (Nat.lt_irrefl _)
  have hI0 : h₀.get? s.heap.objs.size = none := by
    cases e : h₀.get? s.heap.objs.size with
    | none => rfl
    | some o => exact absurd (Heap.lt_size (F.keep _ _ e)) (Nat.lt_irrefl _)
  refine codeAt_forLoop rfl (hΓ.enter _ p)
    (fun k s' => ∃ i c h' g' tk m' o, s' = { s with heap := h', gens := g', toks := tk } ∧ (AllBare s.gens → AllBare g') ∧ h'.IsTupleIter s.heap.objs.size l i ∧ h'.get? s.heap.objs.size = some o ∧ Fr h₀ env.locals h' m' ∧ News h₀ env.locals h' (Led c) ∧
      (∀ p ∈ ps c, m' p.1 = some p.2) ∧ (∀ z, z ≠ x → (∀ p ∈ ps c, z ≠ p.1) → stored.contains z = false → m' z = m₀ z) ∧ P i c ∧ i ≤ items.size ∧ k = items.size + 1 - i) ?_ (items.size + 1) ?_
  · rintro k s' ⟨i, c, h', g', tk, m', o, rfl, hg, hit, ho, F', N', hk', hr', hP, hi, rfl⟩ hΓ'
    have hocls : o.cls = .type "tuple_iterator" ∧ ∃ x, o.data = .fields x := by
      obtain ⟨o', e1, e2, e3⟩ := hit
      rw [ho] at e1; cases e1; exact ⟨e2, _, e3⟩
    have hne : ∀ p ∈ Led c, p.1 ≠ s.heap.objs.size := fun p hp e => by
      have h1 := (N' _ hp).1
      rw [e, ho] at h1
      cases h1
      rcases hcls i c hP p hp with h9 | h9
      · exact h9 hocls.1
      · obtain ⟨x9, hx9⟩ := hocls.2; exact h9 x9 hx9
    have hli : l ≠ s.heap.objs.size := hne _ (hl c)
    by_cases hlt : i < items.size
    · refine wpAny_pyNext_tuple_item hit (isl N' fun _ h => h) (x := items[i]) (by simp [hlt]) fun h₁ hit₁ hs₁ => ?_
      have keep₁ : ∀ b o, b ≠ s.heap.objs.size → h'.get? b = some o → h₁.get? b = some o := fun b o hb e => hs₁.extBut b o hb e
      have F₁ : Fr h₀ env.locals h₁ m' := ⟨F'.ns.at' fun o e => keep₁ _ o (Ne.symm hIL) e, fun b o e => keep₁ b o (fun q => by rw [q, hI0] at e; cases e) (F'.keep b o e), F'.above⟩
      have N₁ : News h₀ env.locals h₁ (Led c) := fun p hp => ⟨keep₁ _ _ (hne p hp) (N' p hp).1, (N' p hp).2⟩
      refine wpAny_storeName_local hx F₁.ns (fun h₂ hn₂ hs₂ => ?_) hpk
      have F₂ := F₁.set hn₂ hs₂
      have N₂ := N₁.set hs₂
      have hi₂ : h₂.IsTupleIter s.heap.objs.size l (i + 1) := hit₁.at fun o e => (hs₂.2 _ hIL).trans e
      obtain ⟨o₂, ho₂, hc₂, hd₂⟩ := id hi₂
      have F₃ : Fr h₀ env.locals h₂ (fun y => if y = x then some items[i] else kstB (fun z => if stored.contains z then m' z else m₀ z) (ps c) y) := by
        have em : (fun y => if y = x then some items[i] else kstB (fun z => if stored.contains z then m' z else m₀ z) (ps c) y) = fun y => if y = x then some items[i] else m' y := by
          funext y
          by_cases hy : y = x
          · simp [hy]
          · rw [if_neg hy, if_neg hy]
            refine kstB_eq hk' fun hn => ?_
            show (if stored.contains y = true then m' y else m₀ y) = m' y
            cases h3 : stored.contains y with
            | true => simp
            | false => simp only [Bool.false_eq_true, if_false]; exact (hr' y hy hn h3).symm
        rw [em]; exact F₂
      refine at_mono (step i c m' h₂ g' _ s.heap.objs.size o₂ items[i] _ hΓ' (by simp [hlt]) hP hg hne hc₂ F₃ (fun p hp => by
        rcases List.mem_append.mp hp with h1 | h1
        · exact N₂ p h1
        · rw [List.mem_singleton.mp h1]; exact ⟨ho₂, hIL, hI0⟩)) fun f s₃ h₃ => ?_
      have nx : AtEnd h₀ env.locals { s with gens := g' } Led ps x stored m₀ (P (i + 1)) (s.heap.objs.size, o₂) s₃ → ∃ m, m < items.size + 1 - i ∧ ∃ i c h' g' tk m' o, s₃ = { s with heap := h', gens := g', toks := tk } ∧ (AllBare s.gens → AllBare g') ∧ h'.IsTupleIter s.heap.objs.size l i ∧ h'.get? s.heap.objs.size = some o ∧ Fr h₀ env.locals h' m' ∧ News h₀ env.locals h' (Led c) ∧
          (∀ p ∈ ps c, m' p.1 = some p.2) ∧ (∀ z, z ≠ x → (∀ p ∈ ps c, z ≠ p.1) → stored.contains z = false → m' z = m₀ z) ∧ P i c ∧ i ≤ items.size ∧ m = items.size + 1 - i := by
        rintro ⟨c', h₄, g₄, tk₄, m₄, n₄, rfl, hg₄, F₄, N₄, ho₄, hn₄, hk₄, hr₄, hp₄⟩
        have e4 := (N₄ _ ho₄).1
        exact ⟨items.size + 1 - (i + 1), by omega, i + 1, c', h₄, g₄, tk₄, m₄, o₂, rfl, fun h => hg₄ (hg h), ⟨o₂, e4, hc₂, hd₂⟩, e4, F₄, fun p hp => N₄ p (hn₄ p hp), hk₄, hr₄, hp₄, hlt, rfl⟩
      cases f with
      | next => exact nx h₃
      | cont => exact nx h₃
      | brk => exact h₃
      | ret v => exact h₃
    · have hin : i = items.size := by omega
      subst hin
      refine wpAny_pyNext_tuple_end (by exact hh) hit (isl N' fun _ h => h) (by simp) fun h₁ hs₁ => ?_
      have keep₁ : ∀ b o, b ≠ s.heap.objs.size → h'.get? b = some o → h₁.get? b = some o := fun b o hb e => hs₁ b o hb e
      have F₁ : Fr h₀ env.locals h₁ m' := ⟨F'.ns.at' fun o e => keep₁ _ o (Ne.symm hIL) e, fun b o e => keep₁ b o (fun q => by rw [q, hI0] at e; cases e) (F'.keep b o e), F'.above⟩
      have N₁ : News h₀ env.locals h₁ (Led c) := fun p hp => ⟨keep₁ _ _ (hne p hp) (N' p hp).1, (N' p hp).2⟩
      refine done c m' h₁ g' tk hP hg ?_ N₁
      have em : (fun y => if y = x then m' y else kstB (fun z => if stored.contains z then m' z else m₀ z) (ps c) y) = m' := by
        funext y
        by_cases hy : y = x
        · simp [hy]
        · rw [if_neg hy]
          refine kstB_eq hk' fun hn => ?_
          show (if stored.contains y = true then m' y else m₀ y) = m' y
          cases h3 : stored.contains y with
          | true => simp
          | false => simp only [Bool.false_eq_true, if_false]; exact (hr' y hy hn h3).symm
      rw [em]; exact F₁
  · refine ⟨0, c₀, _, s.gens, s.toks, m₀, _, rfl, fun h => h, ⟨_, Heap.get?_push_size _ rfl, rfl, rfl⟩, Heap.get?_push_size _ rfl, F.keeps fun b o e => Heap.get?_push_of_some _ e, fun p hp => ⟨Heap.get?_push_of_some _ (N p hp).1, (N p hp).2⟩, hk, fun _ _ _ _ => rfl, hp, Nat.zero_le _, rfl⟩

end
end Mine
end

section
open PySem PySem.W PySem.Calls PyProof.Rows
namespace Mine
local macro_rules | `(tactic| walk_at "getAttr ref") => `(tactic| (k_here; k_dflt (refine' get_lateS ?k1 ?k2 ?k3 ?k4 ?k5 ?k6 ?k7 ?k8 ?k9 ?k10 ?_; (case k1 => k_asm); (case k2 => k_asm); (case k3 => k_inst); (case k4 => k_is); (case k5 => k_is); (case k6 => k_is); (case k7 => k_is); (case k8 => k_is); (case k9 => decide +kernel); (case k10 => k_get))))
local macro_rules | `(tactic| walk_at "getAttr ref") => `(tactic| (k_here; k_dflt (first
  | refine' get_shadowS ?k1 ?k2 ?k3 ?k4 ?k5 ?k6 ?k7 ?k8 ?k9 ?k10 ?_; (case k1 => k_asm); (case k2 => k_asm); (case k3 => k_inst); (case k4 => k_is); (case k5 => k_is); (case k6 => k_is); (case k7 => k_is); (case k8 => k_is); (case k9 => k_get); (case k10 => k_handed); k_whole
  | refine' get_ownS ?k1 ?k2 ?k3 ?k4 ?k5 ?k6 ?k7 ?k8 ?k9 ?_; (case k1 => k_asm); (case k2 => k_asm); (case k3 => k_inst); (case k4 => k_is); (case k5 => k_is); (case k6 => k_is); (case k7 => k_is); (case k8 => k_get); (case k9 => k_handed); k_whole)))
local macro_rules | `(tactic| walk_at "getAttr ref") => `(tactic| (k_here; (with_reducible show wpAny _ _ (getAttr (Value.ref _) (PySem.Str.ofString "__dict__") _) _ _ _); k_dflt (refine' get_dictS ?k1 ?k2 ?k3 ?k4 ?k5 ?k6 ?k7 ?k8 ?k9 ?k10 ?k11 ?k12 ?k13 ?k14 ?_; (case k1 => k_asm); (case k2 => k_asm); (case k3 => k_asm); (case k4 => k_inst); (case k5 => k_is); (case k6 => k_is); (case k7 => k_is); (case k8 => k_is); (case k9 => k_is); (case k10 => k_is); (case k11 => k_is); (case k12 => k_is); (case k13 => k_is); (case k14 => k_upd); k_whole; intro h' F' N'; (try k_sweep))))
local macro_rules | `(tactic| walk_at "getMethod ref") => `(tactic| (k_here; k_dflt (first
  | refine' method_instS ?k1 ?k2 ?k3 ?k4 ?k5 ?k6 ?k7 ?_; (case k1 => k_asm); (case k2 => k_asm); (case k3 => k_inst); (case k4 => k_is); (case k5 => k_is); (case k6 => k_is); (case k7 => k_get); k_whole
  | refine' method_getS ?k1 ?k2 ?_; (case k1 => k_asm); (case k2 => k_mem); k_whole)))
local macro_rules | `(tactic| walk_at "setAttr ref") => `(tactic| (k_here; k_dflt (refine' set_dictS ?k1 ?k2 ?k3 ?k4 ?k5 ?k6 ?k7 ?k8 ?k9 ?k10 ?k11 ?k12 ?k13 ?_; (case k1 => k_asm); (case k2 => k_asm); (case k3 => k_asm); (case k4 => k_inst); (case k5 => exact rfl); (case k6 => k_is); (case k7 => k_is); (case k8 => k_is); (case k9 => k_is); (case k10 => k_get); (case k11 => k_put); (case k12 => k_upd); (case k13 => exact Nat.le_of_ble_eq_true rfl); k_whole; intro h' F' N'; (try k_sweep))))
local macro_rules | `(tactic| walk_at "call builtin:dict.get") => `(tactic| (k_here; k_dflt (refine' call_get_missS ?k1 ?k2 ?k3 ?k4 ?k5 ?_; (case k1 => k_asm); (case k2 => k_mem); (case k3 => assumption); (case k4 => k_keys); (case k5 => k_get); k_whole)))
local macro_rules | `(tactic| walk_at "setItem ref str") => `(tactic| (k_here; k_dflt (refine' setItem_newS ?k1 ?k2 ?k3 ?k4 ?k5 ?k6 ?_; (case k1 => k_asm); (case k2 => k_asm); (case k3 => k_upd); (case k4 => k_keys); (case k5 => k_get); (case k6 => exact Nat.le_of_ble_eq_true rfl); k_whole; intro h' F' N'; (try dsimp only [List.cons_append, List.nil_append] at N'); (try k_sweep))))
local macro_rules | `(tactic| walk_at "exec While") => `(tactic| (k_here; refine Hold.out ?_))
local macro_rules | `(tactic| walk_at "KswEnd") => `(tactic| (refine Hold.out ?_))
local macro_rules | `(tactic| walk_at "binaryOp BitAnd int int") => `(tactic| first | with_reducible refine and_mask ?_ | with_reducible refine and_mask' ?_)
local macro_rules | `(tactic| walk_at "call ref") => `(tactic| (k_here; k_dflt (refine wpAny_call ?_; refine' code_def ?k1 ?k2 ?k3 ?k4 ?k5 ?kA ?kF ?kK ?k6 ?k7 ?k8 ?k9 ?kB ?_ ?c2 ?c3 ?c4 ?c5; (case kA => exact rfl); (case kF => exact rfl); (case kK => first | exact rfl | assumption); (case k1 => k_asm); (case k2 => k_asm); (case k3 => k_asm); (case k4 => k_asm); (case k5 => k_asm); (case k6 => k_is); (case k7 => k_is); (case k8 => ktr_room); (case k9 => first | exact BindsTo.of_eq rfl | exact binds_K (by k_in) rfl (by k_is) rfl rfl rfl); (case c5 => decide); (case kB => exact locs rfl); (case c2 => exact rfl); (case c3 => exact rfl); (case c4 => exact rfl); k_whole; intro g' L' h' FG' F' N' B' X' T'; (try dsimp only); (try k_lift B'); (try k_fold))))
local macro_rules | `(tactic| walk_at "inplaceOp RShift int int") => `(tactic| with_reducible refine shr5 ?_)
local macro_rules | `(tactic| walk_at "binaryOp LShift int int") => `(tactic| (with_reducible refine shl_one ?a ?_; (case a => omega)))
local macro_rules | `(tactic| k_all) => `(tactic| assumption)
set_option maxRecDepth 100000 in
set_option maxHeartbeats 8000000 in
theorem retE {w : World} {mean : ExcName → Option Value} {mg mb : Str → Option Value} {Γ : Ctx} {h₀ h : Heap} {L fa cda : Addr} {m u : Str → Option Value} {s : Shared} {g : Array GenState} {tk : Nat} {Q : Flow → Shared → Prop} {x1 d1 i1 el1 x3 d3 i3 el3 fl rl bk : Addr} {k11 k12 k13 k14 k15 k16 k17 k18 t11 t17 t18 k31 k32 k33 k34 k35 k36 t31 tz : Tok} {v12 v32 : Value} {vs1 vs3 rs fv : List Value} {fam : List Int} {ep1 ep3 ep4 M0 : Nat} {fo bo : Obj} {o3 : Obj} {ns : List Int} {c : List (Int × Int)} {mv0 mv v51 : Value} {ML ML1 ML3 : Led} {oc oc3 : Option (List (Int × Int))} {run : List Int}
   (hM0 : M0 ≤ 60) (hrI : IntsAre rs run) (hrl : run.length = M0) (hcl : c.length = M0 + 4) (hv1 : IntsAre vs1 ns) (hv3 : IntsAre vs3 ns) (hbo : DII PySem.Challenge.rw_fc5025_03.row.prog w bo c)
   (hM : MemR PySem.Challenge.rw_fc5025_03.row.prog w mv ML oc) (hM1 : MemR PySem.Challenge.rw_fc5025_03.row.prog w v51 ML1 oc) (hM3 : TabR w k31 k32 k33 k34 k35 k36 t31 v32 (.ref el3) (.bool false) 10 i3 o3 ML3 oc3) (h12 : @LT.lt Nat _ i1 d1) (h13 : @LT.lt Nat _ d1 x1) (h14 : @LT.lt Nat _ x1 fl) (h18 : @LT.lt Nat _ fl rl) (h19 : @LT.lt Nat _ rl bk) (hb3 : @LT.lt Nat _ bk i3) (h32 : @LT.lt Nat _ i3 d3) (h33 : @LT.lt Nat _ d3 x3) (hlow : @LT.lt Nat _ 1 i1) (hsm : ∀ p ∈ ML, (p.1 == sysModules) = false) (hs1 : ∀ p ∈ ML1, (p.1 == sysModules) = false)
   (hΓ : InOK Γ (callerA.deeper (envOf (Str.ofString "law") lawS.1.2.2 L fa (.ref cda)))) (B : Below callerA h₀ [] h₀) (X : (Mine.hd.heap_39 w.params).In h₀)
   (N : News h₀ L h ((x1, instObj 287 d1) :: (d1, dictS (tabEs w.params k11 k12 k13 k14 k15 k16 k17 k18 (.int (10 : Nat) t11) v12 (.ref i1) (.ref el1) v51 (.bool false) (.int (2^10) t17) (.int (2^10-1) t18)) 8 #[none]) :: (i1, listOf vs1.toArray ep1) :: (x3, instObj 287 d3) :: (d3, o3) :: (i3, listOf vs3.toArray ep4) :: (fl, fo) :: (rl, listOf rs.toArray ep3) :: (bk, bo) :: (ML ++ (ML1 ++ ML3)))) (T : Top Mine.hd.view_39 (looseW Mine.hd.view_39 [Str.ofString "_Entry", Str.ofString "_NOT_FOUND", Str.ofString "cached_property", Str.ofString "_HtKeys"]) mean mg mb h₀)
   (F : Fr h₀ L h (fun y => if y = Str.ofString "number" then u y else kstB (fun z => if [Str.ofString "walk", Str.ofString "told", Str.ofString "spot"].contains z then u z else (fun y => if y = Str.ofString "places_one" then some (.ref i1) else if y = Str.ofString "memory" then some (mv0) else if y = Str.ofString "book" then some (.ref bk) else if y = Str.ofString "family" then some (.ref fl) else if y = Str.ofString "run" then some (.ref rl) else if y = Str.ofString "size" then some (.int (2 ^ 10) tz) else if y = Str.ofString "third" then some (.ref x3) else if y = Str.ofString "one" then some (.ref x1) else m y) z) [(Str.ofString "memory", mv)] y))
   (hQ : ∀ h' tk' m', Fr h₀ L h' m' → Q (.ret (.bool true)) { s with heap := h', gens := g, toks := tk' }) :
   wpAt (model PySem.Challenge.rw_fc5025_03.row.prog w) Γ (execs ((lawS.1.2.1).drop 17) (envOf (Str.ofString "law") lawS.1.2.2 L fa (.ref cda))) Q { s with heap := h, gens := g, toks := tk } := by
  have hlbk : (bk == sysModules) = false := beq_eq_false_iff_ne.mpr (fun e => by have e2 : @Eq Nat bk 1 := e; omega)
  w_top off; revert B X N T F; k_fill; intro B X N T F
  dsimp only [lawS, List.drop] at hΓ ⊢
  dsimp only [kstB] at F
  refine at_any hΓ ?_
  obtain ⟨kvsb, hdb, hfb⟩ := hbo
  rcases hM with ⟨rfl, rfl, rfl⟩ | ⟨cm, md, mo, rfl, rfl, rfl, hmo⟩
  · rcases hM1 with ⟨-, rfl, rfl⟩ | ⟨cm, rd, ro, e, -⟩
    · rcases hM3 with ⟨rfl, -, -⟩ | ⟨k7, k8, t7, t8, v5, rfl, -⟩
      · (try k_fold)
        k_steps
        (have hz : ((c.length : Int) == (run.length : Int) + 4) = true := by rw [beq_iff_eq]; omega); rw [hz]; exact hQ _ _ _ (by assumption)
      · (try k_fold)
        k_steps
        (have hz : ((c.length : Int) == (run.length : Int) + 4) = true := by rw [beq_iff_eq]; omega); rw [hz]; exact hQ _ _ _ (by assumption)
    · cases e
  · rcases hM1 with ⟨e, -⟩ | ⟨cm, rd, ro, e, rfl, rfl, hro⟩
    · cases e
    · cases e
      have hlmd := hsm _ (.head _)
      have hlrd := hs1 _ (.head _)
      rcases hM3 with ⟨rfl, -, -⟩ | ⟨k7, k8, t7, t8, v5, rfl, -⟩
      · (try k_fold)
        k_steps
        refine di_eq (by assumption) (.tail _ (.tail _ (.tail _ (.tail _ (.tail _ (.tail _ (.tail _ (.tail _ (.tail _ (.tail _ (.head _))))))))))) (.tail _ (.tail _ (.tail _ (.tail _ (.tail _ (.tail _ (.tail _ (.tail _ (.tail _ (.head _)))))))))) hro hmo hlrd hlmd (by ktr_units) ?_
        (try k_fold)
        k_steps
        (have hz : ((c.length : Int) == (run.length : Int) + 4) = true := by rw [beq_iff_eq]; omega); rw [hz]; exact hQ _ _ _ (by assumption)
      · (try k_fold)
        k_steps
        refine di_eq (by assumption) (.tail _ (.tail _ (.tail _ (.tail _ (.tail _ (.tail _ (.tail _ (.tail _ (.tail _ (.tail _ (.head _))))))))))) (.tail _ (.tail _ (.tail _ (.tail _ (.tail _ (.tail _ (.tail _ (.tail _ (.tail _ (.head _)))))))))) hro hmo hlrd hlmd (by ktr_units) ?_
        (try k_fold)
        k_steps
        (have hz : ((c.length : Int) == (run.length : Int) + 4) = true := by rw [beq_iff_eq]; omega); rw [hz]; exact hQ _ _ _ (by assumption)
end Mine
end

section
open PySem PySem.W PySem.Calls PyProof.Rows
namespace Mine
local macro_rules | `(tactic| walk_at "getAttr ref") => `(tactic| (k_here; k_dflt (refine' get_lateS ?k1 ?k2 ?k3 ?k4 ?k5 ?k6 ?k7 ?k8 ?k9 ?k10 ?_; (case k1 => k_asm); (case k2 => k_asm); (case k3 => k_inst); (case k4 => k_is); (case k5 => k_is); (case k6 => k_is); (case k7 => k_is); (case k8 => k_is); (case k9 => decide +kernel); (case k10 => k_get))))
local macro_rules | `(tactic| walk_at "getAttr ref") => `(tactic| (k_here; k_dflt (first
  | refine' get_shadowS ?k1 ?k2 ?k3 ?k4 ?k5 ?k6 ?k7 ?k8 ?k9 ?k10 ?_; (case k1 => k_asm); (case k2 => k_asm); (case k3 => k_inst); (case k4 => k_is); (case k5 => k_is); (case k6 => k_is); (case k7 => k_is); (case k8 => k_is); (case k9 => k_get); (case k10 => k_handed); k_whole
  | refine' get_ownS ?k1 ?k2 ?k3 ?k4 ?k5 ?k6 ?k7 ?k8 ?k9 ?_; (case k1 => k_asm); (case k2 => k_asm); (case k3 => k_inst); (case k4 => k_is); (case k5 => k_is); (case k6 => k_is); (case k7 => k_is); (case k8 => k_get); (case k9 => k_handed); k_whole)))
local macro_rules | `(tactic| walk_at "getAttr ref") => `(tactic| (k_here; (with_reducible show wpAny _ _ (getAttr (Value.ref _) (PySem.Str.ofString "__dict__") _) _ _ _); k_dflt (refine' get_dictS ?k1 ?k2 ?k3 ?k4 ?k5 ?k6 ?k7 ?k8 ?k9 ?k10 ?k11 ?k12 ?k13 ?k14 ?_; (case k1 => k_asm); (case k2 => k_asm); (case k3 => k_asm); (case k4 => k_inst); (case k5 => k_is); (case k6 => k_is); (case k7 => k_is); (case k8 => k_is); (case k9 => k_is); (case k10 => k_is); (case k11 => k_is); (case k12 => k_is); (case k13 => k_is); (case k14 => k_upd); k_whole; intro h' F' N'; (try k_sweep))))
local macro_rules | `(tactic| walk_at "getMethod ref") => `(tactic| (k_here; k_dflt (first
  | refine' method_instS ?k1 ?k2 ?k3 ?k4 ?k5 ?k6 ?k7 ?_; (case k1 => k_asm); (case k2 => k_asm); (case k3 => k_inst); (case k4 => k_is); (case k5 => k_is); (case k6 => k_is); (case k7 => k_get); k_whole
  | refine' method_getS ?k1 ?k2 ?_; (case k1 => k_asm); (case k2 => k_mem); k_whole)))
local macro_rules | `(tactic| walk_at "setAttr ref") => `(tactic| (k_here; k_dflt (refine' set_dictS ?k1 ?k2 ?k3 ?k4 ?k5 ?k6 ?k7 ?k8 ?k9 ?k10 ?k11 ?k12 ?k13 ?_; (case k1 => k_asm); (case k2 => k_asm); (case k3 => k_asm); (case k4 => k_inst); (case k5 => exact rfl); (case k6 => k_is); (case k7 => k_is); (case k8 => k_is); (case k9 => k_is); (case k10 => k_get); (case k11 => k_put); (case k12 => k_upd); (case k13 => exact Nat.le_of_ble_eq_true rfl); k_whole; intro h' F' N'; (try k_sweep))))
local macro_rules | `(tactic| walk_at "call builtin:dict.get") => `(tactic| (k_here; k_dflt (refine' call_get_missS ?k1 ?k2 ?k3 ?k4 ?k5 ?_; (case k1 => k_asm); (case k2 => k_mem); (case k3 => assumption); (case k4 => k_keys); (case k5 => k_get); k_whole)))
local macro_rules | `(tactic| walk_at "setItem ref str") => `(tactic| (k_here; k_dflt (refine' setItem_newS ?k1 ?k2 ?k3 ?k4 ?k5 ?k6 ?_; (case k1 => k_asm); (case k2 => k_asm); (case k3 => k_upd); (case k4 => k_keys); (case k5 => k_get); (case k6 => exact Nat.le_of_ble_eq_true rfl); k_whole; intro h' F' N'; (try dsimp only [List.cons_append, List.nil_append] at N'); (try k_sweep))))
local macro_rules | `(tactic| walk_at "exec While") => `(tactic| (k_here; refine Hold.out ?_))
local macro_rules | `(tactic| walk_at "KswEnd") => `(tactic| (refine Hold.out ?_))
local macro_rules | `(tactic| walk_at "binaryOp BitAnd int int") => `(tactic| first | with_reducible refine and_mask ?_ | with_reducible refine and_mask' ?_)
local macro_rules | `(tactic| walk_at "call ref") => `(tactic| (k_here; k_dflt (refine wpAny_call ?_; refine' code_def ?k1 ?k2 ?k3 ?k4 ?k5 ?kA ?kF ?kK ?k6 ?k7 ?k8 ?k9 ?kB ?_ ?c2 ?c3 ?c4 ?c5; (case kA => exact rfl); (case kF => exact rfl); (case kK => first | exact rfl | assumption); (case k1 => k_asm); (case k2 => k_asm); (case k3 => k_asm); (case k4 => k_asm); (case k5 => k_asm); (case k6 => k_is); (case k7 => k_is); (case k8 => ktr_room); (case k9 => first | exact BindsTo.of_eq rfl | exact binds_K (by k_in) rfl (by k_is) rfl rfl rfl); (case c5 => decide); (case kB => exact locs rfl); (case c2 => exact rfl); (case c3 => exact rfl); (case c4 => exact rfl); k_whole; intro g' L' h' FG' F' N' B' X' T'; (try dsimp only); (try k_lift B'); (try k_fold))))
local macro_rules | `(tactic| walk_at "inplaceOp RShift int int") => `(tactic| with_reducible refine shr5 ?_)
local macro_rules | `(tactic| walk_at "binaryOp LShift int int") => `(tactic| (with_reducible refine shl_one ?a ?_; (case a => omega)))
local macro_rules | `(tactic| k_all) => `(tactic| assumption)
local macro_rules | `(tactic| walk_at "call ref") => `(tactic| (k_here; (with_reducible show wpAny _ _ (call (Value.ref 186) _) _ _ _); refine Hold.out ?_))
local macro_rules | `(tactic| walk_at "call ref") => `(tactic| (k_here; (with_reducible show wpAny _ _ (call (Value.ref 302) _) _ _ _); refine Hold.out ?_))
local macro_rules | `(tactic| walk_at "call ref") => `(tactic| (k_here; (with_reducible show wpAny _ _ (call (Value.ref 316) _) _ _ _); refine Hold.out ?_))
local macro_rules | `(tactic| walk_at "call ref") => `(tactic| (k_here; (with_reducible show wpAny _ _ (call (Value.ref 171) _) _ _ _); refine Hold.out ?_))
set_option maxRecDepth 100000 in
set_option maxHeartbeats 8000000 in
theorem stageE {w : World} {mean : ExcName → Option Value} {mg mb : Str → Option Value} {Γ : Ctx} {h₀ : Heap} {L fa cda : Addr} {m : Str → Option Value} {s : Shared} {Q : Flow → Shared → Prop} {x1 d1 i1 el1 x3 d3 i3 el3 fl rl bk : Addr} {k11 k12 k13 k14 k15 k16 k17 k18 t11 t17 t18 k31 k32 k33 k34 k35 k36 t31 tz : Tok} {v12 v32 : Value} {vs1 vs3 rs fv : List Value} {fam : List Int} {ep1 ep3 ep4 M0 : Nat} {fo bo : Obj} {ns : List Int} {c : List (Int × Int)} {mv0 v51 : Value} {ML ML1 : Led} {oc : Option (List (Int × Int))} {run : List Int}
   (hM0 : M0 ≤ 60) (hrI : IntsAre rs run) (hrl : run.length = M0) (hPl : Places 10 ns c) (hcl : c.length = M0) (hv1 : IntsAre vs1 ns) (hbo : DII PySem.Challenge.rw_fc5025_03.row.prog w bo c)
   (hM : MemR PySem.Challenge.rw_fc5025_03.row.prog w mv0 ML oc) (hM1 : MemR PySem.Challenge.rw_fc5025_03.row.prog w v51 ML1 oc) (hok : ∀ cm, oc = some cm → MemOK 10 c cm ∧ cm.length ≤ M0)
   (hfo : fo.cls = .type "tuple" ∧ ∃ n, fo.data = .seq fv.toArray n) (hfI : IntsAre fv fam) (hfam : ∀ r ∈ fam, 0 ≤ r ∧ r < 9223372036854775808) (hfl : fv.length = 4) (hv3 : IntsAre vs3 ns) (S : SepR bk i3 d3 x3 bk ML ML1 [])
   (h12 : @LT.lt Nat _ i1 d1) (h13 : @LT.lt Nat _ d1 x1) (h14 : @LT.lt Nat _ x1 fl) (h18 : @LT.lt Nat _ fl rl) (h19 : @LT.lt Nat _ rl bk) (hb3 : @LT.lt Nat _ bk i3) (h32 : @LT.lt Nat _ i3 d3) (h33 : @LT.lt Nat _ d3 x3) (hlow : @LT.lt Nat _ 1 i1)
    (e_one : m (Str.ofString "one") = some (.ref x1)) (e_third : m (Str.ofString "third") = some (.ref x3)) (e_size : m (Str.ofString "size") = some (.int (2 ^ 10) tz)) (e_run : m (Str.ofString "run") = some (.ref rl)) (e_family : m (Str.ofString "family") = some (.ref fl)) (e_book : m (Str.ofString "book") = some (.ref bk)) (e_memory : m (Str.ofString "memory") = some (mv0)) (e_places_one : m (Str.ofString "places_one") = some (.ref i1))
   (hΓ : InOK Γ (callerA.deeper (envOf (Str.ofString "law") lawS.1.2.2 L fa (.ref cda)))) (B : Below callerA h₀ [] h₀) (F : Fr h₀ L s.heap m) (X : (Mine.hd.heap_39 w.params).In h₀)
   (N : News h₀ L s.heap ((x1, instObj 287 d1) :: (d1, dictS (tabEs w.params k11 k12 k13 k14 k15 k16 k17 k18 (.int (10 : Nat) t11) v12 (.ref i1) (.ref el1) v51 (.bool false) (.int (2^10) t17) (.int (2^10-1) t18)) 8 #[none]) :: (i1, listOf vs1.toArray ep1) :: (x3, instObj 287 d3) :: (d3, dictOf (coldEs w.params k31 k32 k33 k34 k35 k36 (.int (10 : Nat) t31) v32 (.ref i3) (.ref el3) .none (.bool false)) 6) :: (i3, listOf vs3.toArray ep4) :: (fl, fo) :: (rl, listOf rs.toArray ep3) :: (bk, bo) :: (ML ++ (ML1 ++ [])))) (T : Top Mine.hd.view_39 (looseW Mine.hd.view_39 [Str.ofString "_Entry", Str.ofString "_NOT_FOUND", Str.ofString "cached_property", Str.ofString "_HtKeys"]) mean mg mb h₀) (hQ : ∀ h' g' tk' m', Fr h₀ L h' m' → (AllBare s.gens → AllBare g') → Q (.ret (.bool true)) { s with heap := h', gens := g', toks := tk' }) :
   wpAt (model PySem.Challenge.rw_fc5025_03.row.prog w) Γ (execs ((lawS.1.2.1).drop 16) (envOf (Str.ofString "law") lawS.1.2.2 L fa (.ref cda))) Q s := by
  have E : m = m := rfl
  replace ⟨F, E⟩ := fr_know F E e_one
  replace ⟨F, E⟩ := fr_know F E e_third
  replace ⟨F, E⟩ := fr_know F E e_size
  replace ⟨F, E⟩ := fr_know F E e_run
  replace ⟨F, E⟩ := fr_know F E e_family
  replace ⟨F, E⟩ := fr_know F E e_book
  replace ⟨F, E⟩ := fr_know F E e_memory
  replace ⟨F, E⟩ := fr_know F E e_places_one
  clear E
  clear e_one e_third e_size e_run e_family e_book e_memory e_places_one
  w_top off; revert B X N T F; k_fill; intro B X N T F
  dsimp only [lawS, List.drop] at hΓ ⊢
  (try k_fold)
  refine at_execs_cons (at_For hΓ ?_)
  k_steps
  rename Fr _ _ _ _ => F2
  rename News _ _ _ _ => N2
  refine atLoop_tupP (σ := St5) (l := fl) (items := fv.toArray) (fo := fo) hfo (fun c => (x1, instObj 287 d1) :: (d1, c.o1) :: (i1, listOf c.vs1.toArray ep1) :: (x3, instObj 287 d3) :: (d3, c.o3) :: (i3, listOf c.vs3.toArray ep4) :: (fl, fo) :: (rl, listOf rs.toArray ep3) :: (bk, c.bo) :: c.R)
    (fun c => [(Str.ofString "memory", c.mv)]) [Str.ofString "walk", Str.ofString "told", Str.ofString "spot"] (fun (i : Nat) (c : St5) => Places 10 c.ns c.c ∧ c.c.length = M0 + i ∧ IntsAre c.vs1 c.ns ∧ IntsAre c.vs3 c.ns ∧ DII PySem.Challenge.rw_fc5025_03.row.prog w c.bo c.c ∧
      ∃ ML ML1 ML3 oc oc3 v51, c.R = ML ++ (ML1 ++ ML3) ∧ MemR PySem.Challenge.rw_fc5025_03.row.prog w c.mv ML oc ∧ c.o1 = dictS (tabEs w.params k11 k12 k13 k14 k15 k16 k17 k18 (.int (10 : Nat) t11) v12 (.ref i1) (.ref el1) v51 (.bool false) (.int (2^10) t17) (.int (2^10-1) t18)) 8 #[none] ∧ MemR PySem.Challenge.rw_fc5025_03.row.prog w v51 ML1 oc ∧ TabR w k31 k32 k33 k34 k35 k36 t31 v32 (.ref el3) (.bool false) 10 i3 c.o3 ML3 oc3 ∧
        (∀ cm, oc = some cm → MemOK 10 c.c cm ∧ cm.length ≤ M0 + i) ∧ (∀ cm, oc3 = some cm → MemOK 10 c.c cm ∧ cm.length ≤ M0 + i) ∧ SepR bk i3 d3 x3 bk ML ML1 ML3) ⟨_, _, _, _, _, ns, c, _, _⟩ hΓ rfl rfl rfl F2 N2 (fun c => ?lm) (List.forall_mem_cons.mpr ⟨rfl, List.forall_mem_nil _⟩) ⟨hPl, hcl, hv1, hv3, hbo, ML, ML1, [], oc, none, v51, rfl, hM, rfl, hM1, .inl ⟨rfl, rfl, rfl⟩, hok, (by intro _ e; cases e), S⟩ ?step ?done ?cls
  case lm => simp
  case step =>
    rintro i ⟨o1, o3, bo, vs1, vs3, ns, c, mv, R⟩ u h g tk I oi v Γ' hΓ' hv ⟨hPl, hcl, hv1, hv3, hbo, ML, ML1, ML3, oc, oc3, v51, rfl, hM, rfl, hM1, hM3, hok, hok3, S⟩ hg hne hoi F N
    dsimp only at hPl hcl hv1 hv3 hbo hM hM1 hM3 hok hok3 hne F N ⊢
    clear F2 N2
    have hi4 : i < 4 := by
      have h9 : i < fv.toArray.size := (Array.getElem?_eq_some_iff.mp hv).1
      rw [List.size_toArray] at h9; omega
    obtain ⟨r, tr, rfl, hr⟩ := hfI.at i v (by simpa using hv)
    have hr2 := hfam r (List.mem_of_getElem? hr)
    obtain ⟨K, hK40, hKf, hKt⟩ := first_free (n := 10) hr2.1 hr2.2 (by decide) (c := c) (by rw [hcl]; exact Nat.lt_of_le_of_lt (Nat.add_le_add hM0 (Nat.le_of_lt hi4)) (by decide))
    obtain ⟨n, hn⟩ := front_ex r hr2.1
    refine turn_family (fam := fam) (fv := fv) (by omega) hr2 hK40 hKf hKt hn hPl hcl hv1 hv3 hbo hM hM1 hM3 hok hok3 (S.iter fun p hp => hne p (.tail _ (.tail _ (.tail _ (.tail _ (.tail _ (.tail _ (.tail _ (.tail _ (.tail _ (hp))))))))))) h12 h13 h14 h18 h19 hb3 h32 h33 hlow (Ne.symm (hne (d1, _) (.tail _ (.head _)))) (Ne.symm (hne (i1, _) (.tail _ (.tail _ (.head _))))) (Ne.symm (hne (x1, _) (.head _))) (Ne.symm (hne (d3, _) (.tail _ (.tail _ (.tail _ (.tail _ (.head _))))))) (Ne.symm (hne (i3, _) (.tail _ (.tail _ (.tail _ (.tail _ (.tail _ (.head _)))))))) (Ne.symm (hne (x3, _) (.tail _ (.tail _ (.tail _ (.head _)))))) (Ne.symm (hne (bk, _) (.tail _ (.tail _ (.tail _ (.tail _ (.tail _ (.tail _ (.tail _ (.tail _ (.head _))))))))))) hΓ' B X ?n T F
    case n =>
      refine news_sub N fun p hp => ?_
      simp only [List.mem_cons, List.mem_append, List.not_mem_nil, or_false] at hp ⊢
      rcases hp with h | h | h | h | h | h | h | h | h | h | h | h | h <;> simp only [h, true_or, or_true]
  case cls =>
    rintro i ⟨o1, o3, bo, vs1, vs3, ns, c, mv, R⟩ ⟨-, -, -, -, hbo, ML, ML1, ML3, oc, oc3, v51, rfl, hM, rfl, hM1, hM3, -, -, -⟩ p hp
    dsimp only at hbo hM hM1 hM3 hp
    have hd : ∀ {o : Obj} {c : List (Int × Int)}, DII PySem.Challenge.rw_fc5025_03.row.prog w o c → o.cls ≠ .type "tuple_iterator" := fun ⟨_, ⟨_, _, h, _⟩, _⟩ => by rw [h.1]; simp
    have hm : ∀ {v : Value} {ML : Led} {oc : Option (List (Int × Int))}, MemR PySem.Challenge.rw_fc5025_03.row.prog w v ML oc → ∀ p ∈ ML, p.2.cls ≠ .type "tuple_iterator" := by
      rintro v ML oc (⟨-, -, rfl⟩ | ⟨cm, md, mo, -, -, rfl, hD⟩)
      · exact List.forall_mem_nil _
      · exact List.forall_mem_cons.mpr ⟨hd hD, List.forall_mem_nil _⟩
    have h3 : o3.cls ≠ .type "tuple_iterator" ∧ ∀ p ∈ ML3, p.2.cls ≠ .type "tuple_iterator" := by
      rcases hM3 with ⟨rfl, rfl, -⟩ | ⟨k7, k8, t7, t8, v5, rfl, h⟩
      · exact ⟨by simp, List.forall_mem_nil _⟩
      · exact ⟨by simp, hm h⟩
    simp only [List.mem_cons, List.mem_append] at hp
    rcases hp with rfl | rfl | rfl | rfl | rfl | rfl | rfl | rfl | rfl | h | h | h
    · exact .inl (by simp)
    · exact .inl (by simp)
    · exact .inl (by simp)
    · exact .inl (by simp)
    · exact .inl h3.1
    · exact .inl (by simp)
    · exact .inl (by rw [hfo.1]; simp)
    · exact .inl (by simp)
    · exact .inl (hd hbo)
    · exact .inl (hm hM p h)
    · exact .inl (hm hM1 p h)
    · exact .inl (h3.2 p h)
  case done =>
    clear F2 N2
    rintro ⟨o1, o3, bo, vs1, vs3, ns, c, mv, R⟩ u h g tk ⟨hPl, hcl, hv1, hv3, hbo, ML, ML1, ML3, oc, oc3, v51, rfl, hM, rfl, hM1, hM3, hok, hok3, S⟩ hg F N
    dsimp only at hPl hcl hv1 hv3 hbo hM hM1 hM3 hok hok3 F N ⊢
    rw [List.size_toArray, hfl] at hcl
    refine retE (fam := fam) (fv := fv) hM0 hrI hrl hcl hv1 hv3 hbo hM hM1 hM3 h12 h13 h14 h18 h19 hb3 h32 h33 hlow (sys_ne (by omega) fun p hp => (S.a p hp).1) (sys_ne (by omega) fun p hp => (S.b p hp).1) hΓ B X N T F fun h' tk' m' F' => hQ h' g tk' m' F' hg
end Mine
end

section
open PySem PySem.W PySem.Calls PyProof.Rows
namespace Mine
local macro_rules | `(tactic| walk_at "getAttr ref") => `(tactic| (k_here; k_dflt (refine' get_lateS ?k1 ?k2 ?k3 ?k4 ?k5 ?k6 ?k7 ?k8 ?k9 ?k10 ?_; (case k1 => k_asm); (case k2 => k_asm); (case k3 => k_inst); (case k4 => k_is); (case k5 => k_is); (case k6 => k_is); (case k7 => k_is); (case k8 => k_is); (case k9 => decide +kernel); (case k10 => k_get))))
local macro_rules | `(tactic| walk_at "getAttr ref") => `(tactic| (k_here; k_dflt (first
  | refine' get_shadowS ?k1 ?k2 ?k3 ?k4 ?k5 ?k6 ?k7 ?k8 ?k9 ?k10 ?_; (case k1 => k_asm); (case k2 => k_asm); (case k3 => k_inst); (case k4 => k_is); (case k5 => k_is); (case k6 => k_is); (case k7 => k_is); (case k8 => k_is); (case k9 => k_get); (case k10 => k_handed); k_whole
  | refine' get_ownS ?k1 ?k2 ?k3 ?k4 ?k5 ?k6 ?k7 ?k8 ?k9 ?_; (case k1 => k_asm); (case k2 => k_asm); (case k3 => k_inst); (case k4 => k_is); (case k5 => k_is); (case k6 => k_is); (case k7 => k_is); (case k8 => k_get); (case k9 => k_handed); k_whole)))
local macro_rules | `(tactic| walk_at "getAttr ref") => `(tactic| (k_here; (with_reducible show wpAny _ _ (getAttr (Value.ref _) (PySem.Str.ofString "__dict__") _) _ _ _); k_dflt (refine' get_dictS ?k1 ?k2 ?k3 ?k4 ?k5 ?k6 ?k7 ?k8 ?k9 ?k10 ?k11 ?k12 ?k13 ?k14 ?_; (case k1 => k_asm); (case k2 => k_asm); (case k3 => k_asm); (case k4 => k_inst); (case k5 => k_is); (case k6 => k_is); (case k7 => k_is); (case k8 => k_is); (case k9 => k_is); (case k10 => k_is); (case k11 => k_is); (case k12 => k_is); (case k13 => k_is); (case k14 => k_upd); k_whole; intro h' F' N'; (try k_sweep))))
local macro_rules | `(tactic| walk_at "getMethod ref") => `(tactic| (k_here; k_dflt (first
  | refine' method_instS ?k1 ?k2 ?k3 ?k4 ?k5 ?k6 ?k7 ?_; (case k1 => k_asm); (case k2 => k_asm); (case k3 => k_inst); (case k4 => k_is); (case k5 => k_is); (case k6 => k_is); (case k7 => k_get); k_whole
  | refine' method_getS ?k1 ?k2 ?_; (case k1 => k_asm); (case k2 => k_mem); k_whole)))
local macro_rules | `(tactic| walk_at "setAttr ref") => `(tactic| (k_here; k_dflt (refine' set_dictS ?k1 ?k2 ?k3 ?k4 ?k5 ?k6 ?k7 ?k8 ?k9 ?k10 ?k11 ?k12 ?k13 ?_; (case k1 => k_asm); (case k2 => k_asm); (case k3 => k_asm); (case k4 => k_inst); (case k5 => exact rfl); (case k6 => k_is); (case k7 => k_is); (case k8 => k_is); (case k9 => k_is); (case k10 => k_get); (case k11 => k_put); (case k12 => k_upd); (case k13 => exact Nat.le_of_ble_eq_true rfl); k_whole; intro h' F' N'; (try k_sweep))))
local macro_rules | `(tactic| walk_at "call builtin:dict.get") => `(tactic| (k_here; k_dflt (refine' call_get_missS ?k1 ?k2 ?k3 ?k4 ?k5 ?_; (case k1 => k_asm); (case k2 => k_mem); (case k3 => assumption); (case k4 => k_keys); (case k5 => k_get); k_whole)))
local macro_rules | `(tactic| walk_at "setItem ref str") => `(tactic| (k_here; k_dflt (refine' setItem_newS ?k1 ?k2 ?k3 ?k4 ?k5 ?k6 ?_; (case k1 => k_asm); (case k2 => k_asm); (case k3 => k_upd); (case k4 => k_keys); (case k5 => k_get); (case k6 => exact Nat.le_of_ble_eq_true rfl); k_whole; intro h' F' N'; (try dsimp only [List.cons_append, List.nil_append] at N'); (try k_sweep))))
local macro_rules | `(tactic| walk_at "exec While") => `(tactic| (k_here; refine Hold.out ?_))
local macro_rules | `(tactic| walk_at "KswEnd") => `(tactic| (refine Hold.out ?_))
local macro_rules | `(tactic| walk_at "binaryOp BitAnd int int") => `(tactic| first | with_reducible refine and_mask ?_ | with_reducible refine and_mask' ?_)
local macro_rules | `(tactic| walk_at "call ref") => `(tactic| (k_here; k_dflt (refine wpAny_call ?_; refine' code_def ?k1 ?k2 ?k3 ?k4 ?k5 ?kA ?kF ?kK ?k6 ?k7 ?k8 ?k9 ?kB ?_ ?c2 ?c3 ?c4 ?c5; (case kA => exact rfl); (case kF => exact rfl); (case kK => first | exact rfl | assumption); (case k1 => k_asm); (case k2 => k_asm); (case k3 => k_asm); (case k4 => k_asm); (case k5 => k_asm); (case k6 => k_is); (case k7 => k_is); (case k8 => ktr_room); (case k9 => first | exact BindsTo.of_eq rfl | exact binds_K (by k_in) rfl (by k_is) rfl rfl rfl); (case c5 => decide); (case kB => exact locs rfl); (case c2 => exact rfl); (case c3 => exact rfl); (case c4 => exact rfl); k_whole; intro g' L' h' FG' F' N' B' X' T'; (try dsimp only); (try k_lift B'); (try k_fold))))
local macro_rules | `(tactic| walk_at "inplaceOp RShift int int") => `(tactic| with_reducible refine shr5 ?_)
local macro_rules | `(tactic| walk_at "binaryOp LShift int int") => `(tactic| (with_reducible refine shl_one ?a ?_; (case a => omega)))
local macro_rules | `(tactic| k_all) => `(tactic| assumption)
local macro_rules | `(tactic| walk_at "subscriptTail") => `(tactic| (k_here; (with_reducible show wpAny _ _ (subscriptTail _ (PySem.Expr.Slice _ _ none _) (Value.ref _) (Value.ref _)) _ _ _); refine Hold.out ?_))
set_option maxRecDepth 100000 in
set_option maxHeartbeats 8000000 in
theorem stageD {w : World} {mean : ExcName → Option Value} {mg mb : Str → Option Value} {Γ : Ctx} {h₀ : Heap} {L fa cda : Addr} {m : Str → Option Value} {s : Shared} {Q : Flow → Shared → Prop} {x1 d1 i1 el1 fl rl bk : Addr} {k11 k12 k13 k14 k15 k16 k17 k18 t11 t17 t18 k31 k32 k33 k34 k35 k36 t31 tz : Tok} {v32 : Value} {u12 : Int} {tu12 : Tok} {vs1 vs3 rs fv : List Value} {fam : List Int} {ep1 ep3 ep4 M0 : Nat} {fo bo : Obj} {ns : List Int} {c : List (Int × Int)} {mv0 v51 : Value} {ML ML1 : Led} {oc : Option (List (Int × Int))} {run : List Int} {epE : Nat}
   (hM0 : M0 ≤ 60) (hrI : IntsAre rs run) (hrl : run.length = M0) (hPl : Places 10 ns c) (hcl : c.length = M0) (hv1 : IntsAre vs1 ns) (hbo : DII PySem.Challenge.rw_fc5025_03.row.prog w bo c)
   (hM : MemR PySem.Challenge.rw_fc5025_03.row.prog w mv0 ML oc) (hM1 : MemR PySem.Challenge.rw_fc5025_03.row.prog w v51 ML1 oc) (hok : ∀ cm, oc = some cm → MemOK 10 c cm ∧ cm.length ≤ M0)
   (hfo : fo.cls = .type "tuple" ∧ ∃ n, fo.data = .seq fv.toArray n) (hfI : IntsAre fv fam) (hfam : ∀ r ∈ fam, 0 ≤ r ∧ r < 9223372036854775808) (hfl : fv.length = 4) (hbML : ∀ p ∈ ML, @LT.lt Nat _ bk p.1) (hbML1 : ∀ p ∈ ML1, @LT.lt Nat _ bk p.1) (hab : ∀ p ∈ ML, ∀ q ∈ ML1, @Ne Nat q.1 p.1)
   (h12 : @LT.lt Nat _ i1 d1) (h13 : @LT.lt Nat _ d1 x1) (h14 : @LT.lt Nat _ x1 fl) (h18 : @LT.lt Nat _ fl rl) (h19 : @LT.lt Nat _ rl bk) (hlow : @LT.lt Nat _ 1 i1)
    (e_one : m (Str.ofString "one") = some (.ref x1)) (e_size : m (Str.ofString "size") = some (.int (2 ^ 10) tz)) (e_run : m (Str.ofString "run") = some (.ref rl)) (e_family : m (Str.ofString "family") = some (.ref fl)) (e_book : m (Str.ofString "book") = some (.ref bk)) (e_memory : m (Str.ofString "memory") = some (mv0)) (e_places_one : m (Str.ofString "places_one") = some (.ref i1))
   (hΓ : InOK Γ (callerA.deeper (envOf (Str.ofString "law") lawS.1.2.2 L fa (.ref cda)))) (B : Below callerA h₀ [] h₀) (F : Fr h₀ L s.heap m) (X : (Mine.hd.heap_39 w.params).In h₀)
   (N : News h₀ L s.heap ((x1, instObj 287 d1) :: (d1, dictS (tabEs w.params k11 k12 k13 k14 k15 k16 k17 k18 (.int (10 : Nat) t11) (.int u12 tu12) (.ref i1) (.ref el1) v51 (.bool false) (.int (2^10) t17) (.int (2^10-1) t18)) 8 #[none]) :: (i1, listOf vs1.toArray ep1) :: (fl, fo) :: (rl, listOf rs.toArray ep3) :: (bk, bo) :: (el1, listOf #[] epE) :: (ML ++ (ML1 ++ [])))) (T : Top Mine.hd.view_39 (looseW Mine.hd.view_39 [Str.ofString "_Entry", Str.ofString "_NOT_FOUND", Str.ofString "cached_property", Str.ofString "_HtKeys"]) mean mg mb h₀) (hQ : ∀ h' g' tk' m', Fr h₀ L h' m' → (AllBare s.gens → AllBare g') → Q (.ret (.bool true)) { s with heap := h', gens := g', toks := tk' }) :
   wpAt (model PySem.Challenge.rw_fc5025_03.row.prog w) Γ (execs ((lawS.1.2.1).drop 14) (envOf (Str.ofString "law") lawS.1.2.2 L fa (.ref cda))) Q s := by
  have E : m = m := rfl
  replace ⟨F, E⟩ := fr_know F E e_one
  replace ⟨F, E⟩ := fr_know F E e_size
  replace ⟨F, E⟩ := fr_know F E e_run
  replace ⟨F, E⟩ := fr_know F E e_family
  replace ⟨F, E⟩ := fr_know F E e_book
  replace ⟨F, E⟩ := fr_know F E e_memory
  replace ⟨F, E⟩ := fr_know F E e_places_one
  clear E
  clear e_one e_size e_run e_family e_book e_memory e_places_one
  w_top off; revert B X N T F; k_fill; intro B X N T F
  dsimp only [lawS, List.drop] at hΓ ⊢
  (try k_fold)
  refine at_execs_consA hΓ ?_
  k_steps
  refine Hold.mk ?_
  k_dflt (refine kba_turn (value' := PySem.Expr.Name (PySem.Str.ofString "_") ⟨0, 0, 0, 0⟩) (fun _ => rfl) ?_)
  k_dflt (refine' kmk_slice_ints ?z1 ?z2 ?z3 ?z4 ?z5 hv1 (kmk_all hv1) hPl.len ?_ ?z6 ?z7 ?z8; (case z1 => k_asm); (case z2 => k_asm); (case z3 => kmk_list); (case z4 => kmk_part); (case z5 => kmk_part); (case z6 => with_unfolding_all rfl); (case z7 => kmk_pure); (case z8 => rw [List.size_toArray, hv1.length, hPl.len]; exact Nat.le_of_ble_eq_true rfl))
  intro i3 vs3 h9 F9 N9 lI3 hI3 hC' hL'
  (try k_lt lI3)
  (try k_sweep)
  k_steps
  (try dsimp only)
  (try k_fold)
  refine at_execs_consA hΓ ?_
  k_steps
  (try dsimp only)
  (try k_fold)
  rename Fr h₀ L _ _ => F8
  rename News h₀ L _ _ => N8
  rename @LT.lt Nat _ i3 _ ∧ _ => lD
  rename @LT.lt Nat _ _ _ => lX
  replace N8 := news_p N8 [4, 5, 6, 0, 1, 2, 7, 8, 9] 11 (T1 := ML) (T2 := ML1) (T3 := []) rfl
  simp only [List.filterMap_cons, List.getElem?_cons_succ, List.getElem?_cons_zero, List.filterMap_nil, List.cons_append, List.nil_append] at N8
  obtain ⟨-, -, -, -, -, -, lb3, -, lA⟩ := lI3
  have ld3 := lD.1
  have hA := AllLt.mem lA
  refine stageE (fam := fam) hM0 hrI hrl hPl hcl hv1 hbo hM hM1 hok hfo hfI hfam hfl hI3 ⟨fun p hp => ?a1, fun p hp => ?a2, fun p hp => (by cases hp), hab, fun _ _ q hq => (by cases hq), fun _ _ q hq => (by cases hq)⟩ h12 h13 h14 h18 h19 lb3 ld3 lX hlow rfl rfl rfl rfl rfl rfl rfl rfl hΓ B F8 X N8 T hQ
  case a1 =>
    have h1 := hbML p hp
    have h2 := hA p (List.mem_append.mpr (.inl hp))
    exact ⟨h1, by omega, by omega, by omega, by omega⟩
  case a2 =>
    have h1 := hbML1 p hp
    have h2 := hA p (List.mem_append.mpr (.inr (List.mem_append.mpr (.inl hp))))
    exact ⟨h1, by omega, by omega, by omega, by omega⟩
end Mine
end

section
open PySem PySem.W PySem.Calls PyProof.Rows
namespace Mine
local macro_rules | `(tactic| walk_at "getAttr ref") => `(tactic| (k_here; k_dflt (refine' get_lateS ?k1 ?k2 ?k3 ?k4 ?k5 ?k6 ?k7 ?k8 ?k9 ?k10 ?_; (case k1 => k_asm); (case k2 => k_asm); (case k3 => k_inst); (case k4 => k_is); (case k5 => k_is); (case k6 => k_is); (case k7 => k_is); (case k8 => k_is); (case k9 => decide +kernel); (case k10 => k_get))))
local macro_rules | `(tactic| walk_at "getAttr ref") => `(tactic| (k_here; k_dflt (first
  | refine' get_shadowS ?k1 ?k2 ?k3 ?k4 ?k5 ?k6 ?k7 ?k8 ?k9 ?k10 ?_; (case k1 => k_asm); (case k2 => k_asm); (case k3 => k_inst); (case k4 => k_is); (case k5 => k_is); (case k6 => k_is); (case k7 => k_is); (case k8 => k_is); (case k9 => k_get); (case k10 => k_handed); k_whole
  | refine' get_ownS ?k1 ?k2 ?k3 ?k4 ?k5 ?k6 ?k7 ?k8 ?k9 ?_; (case k1 => k_asm); (case k2 => k_asm); (case k3 => k_inst); (case k4 => k_is); (case k5 => k_is); (case k6 => k_is); (case k7 => k_is); (case k8 => k_get); (case k9 => k_handed); k_whole)))
local macro_rules | `(tactic| walk_at "getAttr ref") => `(tactic| (k_here; (with_reducible show wpAny _ _ (getAttr (Value.ref _) (PySem.Str.ofString "__dict__") _) _ _ _); k_dflt (refine' get_dictS ?k1 ?k2 ?k3 ?k4 ?k5 ?k6 ?k7 ?k8 ?k9 ?k10 ?k11 ?k12 ?k13 ?k14 ?_; (case k1 => k_asm); (case k2 => k_asm); (case k3 => k_asm); (case k4 => k_inst); (case k5 => k_is); (case k6 => k_is); (case k7 => k_is); (case k8 => k_is); (case k9 => k_is); (case k10 => k_is); (case k11 => k_is); (case k12 => k_is); (case k13 => k_is); (case k14 => k_upd); k_whole; intro h' F' N'; (try k_sweep))))
local macro_rules | `(tactic| walk_at "getMethod ref") => `(tactic| (k_here; k_dflt (first
  | refine' method_instS ?k1 ?k2 ?k3 ?k4 ?k5 ?k6 ?k7 ?_; (case k1 => k_asm); (case k2 => k_asm); (case k3 => k_inst); (case k4 => k_is); (case k5 => k_is); (case k6 => k_is); (case k7 => k_get); k_whole
  | refine' method_getS ?k1 ?k2 ?_; (case k1 => k_asm); (case k2 => k_mem); k_whole)))
local macro_rules | `(tactic| walk_at "setAttr ref") => `(tactic| (k_here; k_dflt (refine' set_dictS ?k1 ?k2 ?k3 ?k4 ?k5 ?k6 ?k7 ?k8 ?k9 ?k10 ?k11 ?k12 ?k13 ?_; (case k1 => k_asm); (case k2 => k_asm); (case k3 => k_asm); (case k4 => k_inst); (case k5 => exact rfl); (case k6 => k_is); (case k7 => k_is); (case k8 => k_is); (case k9 => k_is); (case k10 => k_get); (case k11 => k_put); (case k12 => k_upd); (case k13 => exact Nat.le_of_ble_eq_true rfl); k_whole; intro h' F' N'; (try k_sweep))))
local macro_rules | `(tactic| walk_at "call builtin:dict.get") => `(tactic| (k_here; k_dflt (refine' call_get_missS ?k1 ?k2 ?k3 ?k4 ?k5 ?_; (case k1 => k_asm); (case k2 => k_mem); (case k3 => assumption); (case k4 => k_keys); (case k5 => k_get); k_whole)))
local macro_rules | `(tactic| walk_at "setItem ref str") => `(tactic| (k_here; k_dflt (refine' setItem_newS ?k1 ?k2 ?k3 ?k4 ?k5 ?k6 ?_; (case k1 => k_asm); (case k2 => k_asm); (case k3 => k_upd); (case k4 => k_keys); (case k5 => k_get); (case k6 => exact Nat.le_of_ble_eq_true rfl); k_whole; intro h' F' N'; (try dsimp only [List.cons_append, List.nil_append] at N'); (try k_sweep))))
local macro_rules | `(tactic| walk_at "exec While") => `(tactic| (k_here; refine Hold.out ?_))
local macro_rules | `(tactic| walk_at "KswEnd") => `(tactic| (refine Hold.out ?_))
local macro_rules | `(tactic| walk_at "binaryOp BitAnd int int") => `(tactic| first | with_reducible refine and_mask ?_ | with_reducible refine and_mask' ?_)
local macro_rules | `(tactic| walk_at "call ref") => `(tactic| (k_here; k_dflt (refine wpAny_call ?_; refine' code_def ?k1 ?k2 ?k3 ?k4 ?k5 ?kA ?kF ?kK ?k6 ?k7 ?k8 ?k9 ?kB ?_ ?c2 ?c3 ?c4 ?c5; (case kA => exact rfl); (case kF => exact rfl); (case kK => first | exact rfl | assumption); (case k1 => k_asm); (case k2 => k_asm); (case k3 => k_asm); (case k4 => k_asm); (case k5 => k_asm); (case k6 => k_is); (case k7 => k_is); (case k8 => ktr_room); (case k9 => first | exact BindsTo.of_eq rfl | exact binds_K (by k_in) rfl (by k_is) rfl rfl rfl); (case c5 => decide); (case kB => exact locs rfl); (case c2 => exact rfl); (case c3 => exact rfl); (case c4 => exact rfl); k_whole; intro g' L' h' FG' F' N' B' X' T'; (try dsimp only); (try k_lift B'); (try k_fold))))
local macro_rules | `(tactic| walk_at "inplaceOp RShift int int") => `(tactic| with_reducible refine shr5 ?_)
local macro_rules | `(tactic| walk_at "binaryOp LShift int int") => `(tactic| (with_reducible refine shl_one ?a ?_; (case a => omega)))
local macro_rules | `(tactic| k_all) => `(tactic| assumption)
local macro_rules | `(tactic| walk_at "call ref") => `(tactic| (k_here; (with_reducible show wpAny _ _ (call (Value.ref 186) _) _ _ _); refine Hold.out ?_))
local macro_rules | `(tactic| walk_at "call ref") => `(tactic| (k_here; (with_reducible show wpAny _ _ (call (Value.ref 302) _) _ _ _); refine Hold.out ?_))
local macro_rules | `(tactic| walk_at "call ref") => `(tactic| (k_here; (with_reducible show wpAny _ _ (call (Value.ref 316) _) _ _ _); refine Hold.out ?_))
local macro_rules | `(tactic| walk_at "call ref") => `(tactic| (k_here; (with_reducible show wpAny _ _ (call (Value.ref 171) _) _ _ _); refine Hold.out ?_))
set_option maxRecDepth 100000 in
set_option maxHeartbeats 8000000 in
theorem turn_cold {w : World} {mean : ExcName → Option Value} {mg mb : Str → Option Value} {Γ' : Ctx} {h₀ h : Heap} {L fa cda I : Addr} {m u : Str → Option Value} {s : Shared} {g : Array GenState} {tk : Nat} {Q : Flow → Shared → Prop} {x1 d1 i1 el1 x2 d2 i2 el2 fl rl bk : Addr} {k11 k12 k13 k14 k15 k16 t11 k21 k22 k23 k24 k25 k26 t21 tz : Tok} {v12 v22 : Value} {vs1 vs2 rs : List Value} {run : List Int} {ep1 ep2 ep3 epE : Nat} {fo bo : Obj} {oi : Obj} {ns : List Int} {c : List (Int × Int)} {i : Nat} {r : Int} {tr : Tok} {k17 k18 t17 t18 k27 k28 t27 t28 : Tok} {v25 : Value} {K n : Nat}
   (hi60 : i < 60) (hr2 : 0 ≤ r ∧ r < 9223372036854775808) (hK40 : K ≤ 1040) (hKf : kdfHas c (wk 10 r K) = false) (hKt : ∀ j < K, kdfHas c (wk 10 r j) = true) (hn : IsFront r n) (hK9 : ¬ n + 32 ≤ K)
   (hPl : Places 10 ns c) (hcl : c.length = i) (hv1 : IntsAre vs1 ns) (hv2 : IntsAre vs2 ns) (hbo : DII PySem.Challenge.rw_fc5025_03.row.prog w bo c) (hrI : IntsAre rs run)
   (h12 : @LT.lt Nat _ i1 d1) (h13 : @LT.lt Nat _ d1 x1) (h14 : @LT.lt Nat _ x1 i2) (h15 : @LT.lt Nat _ i2 d2) (h16 : @LT.lt Nat _ d2 x2) (h17 : @LT.lt Nat _ x2 fl) (h18 : @LT.lt Nat _ fl rl) (h19 : @LT.lt Nat _ rl bk) (hlow : @LT.lt Nat _ 1 i1) (hel : @LT.lt Nat _ el1 i1) (hId1 : @Ne Nat I d1) (hIi1 : @Ne Nat I i1) (hId2 : @Ne Nat I d2) (hIi2 : @Ne Nat I i2) (hIbk : @Ne Nat I bk) 
   (hΓ' : InOK Γ' (callerA.deeper (envOf (Str.ofString "law") lawS.1.2.2 L fa (.ref cda)))) (B : Below callerA h₀ [] h₀) (X : (Mine.hd.heap_39 w.params).In h₀)
   (N : News h₀ L h ((x1, instObj 287 d1) :: (d1, dictOf (coldEs w.params k11 k12 k13 k14 k15 k16 (.int (10 : Nat) t11) v12 (.ref i1) (.ref el1) .none (.bool false)) 6) :: (i1, listOf vs1.toArray ep1) :: (x2, instObj 287 d2) :: (d2, dictOf (coldEs w.params k21 k22 k23 k24 k25 k26 (.int (10 : Nat) t21) v22 (.ref i2) (.ref el2) .none (.bool false)) 6) :: (i2, listOf vs2.toArray ep2) :: (fl, fo) :: (rl, listOf rs.toArray ep3) :: (bk, bo) :: (el1, listOf #[] epE) :: (I, oi) :: [])) (T : Top Mine.hd.view_39 (looseW Mine.hd.view_39 [Str.ofString "_Entry", Str.ofString "_NOT_FOUND", Str.ofString "cached_property", Str.ofString "_HtKeys"]) mean mg mb h₀)
   (F : Fr h₀ L h (fun y => if y = Str.ofString "number" then some (.int r tr) else kstB (fun z => if [Str.ofString "walk", Str.ofString "told"].contains z then u z else (fun y => if y = Str.ofString "places_two" then some (.ref i2) else if y = Str.ofString "places_one" then some (.ref i1) else if y = Str.ofString "memory" then some (.none) else if y = Str.ofString "book" then some (.ref bk) else if y = Str.ofString "family" then some (.ref fl) else if y = Str.ofString "run" then some (.ref rl) else if y = Str.ofString "size" then some (.int (2 ^ 10) tz) else if y = Str.ofString "two" then some (.ref x2) else if y = Str.ofString "one" then some (.ref x1) else m y) z) [(Str.ofString "memory", .none)] y)) :
   wpAt (model PySem.Challenge.rw_fc5025_03.row.prog w) Γ' (execs (forBody ((lawS.1.2.1).drop 13)) (envOf (Str.ofString "law") lawS.1.2.2 L fa (.ref cda))) (AtPost h₀ L { s with gens := g } (fun (c : St3) => (x1, instObj 287 d1) :: (d1, c.o1) :: (i1, listOf c.vs1.toArray ep1) :: (x2, instObj 287 d2) :: (d2, c.o2) :: (i2, listOf c.vs2.toArray ep2) :: (fl, fo) :: (rl, listOf rs.toArray ep3) :: (bk, c.bo) :: (el1, listOf #[] epE) :: c.memL) (fun (c : St3) => [(Str.ofString "memory", c.mv)]) (Str.ofString "number") [Str.ofString "walk", Str.ofString "told"] (fun y => if y = Str.ofString "places_two" then some (.ref i2) else if y = Str.ofString "places_one" then some (.ref i1) else if y = Str.ofString "memory" then some (.none) else if y = Str.ofString "book" then some (.ref bk) else if y = Str.ofString "family" then some (.ref fl) else if y = Str.ofString "run" then some (.ref rl) else if y = Str.ofString "size" then some (.int (2 ^ 10) tz) else if y = Str.ofString "two" then some (.ref x2) else if y = Str.ofString "one" then some (.ref x1) else m y) ((fun (i : Nat) (c : St3) => Places 10 c.ns c.c ∧ c.c.length = i ∧ IntsAre c.vs1 c.ns ∧ IntsAre c.vs2 c.ns ∧ DII PySem.Challenge.rw_fc5025_03.row.prog w c.bo c.c ∧
      ((i = 0 ∧ c.o1 = dictOf (coldEs w.params k11 k12 k13 k14 k15 k16 (.int (10 : Nat) t11) v12 (.ref i1) (.ref el1) .none (.bool false)) 6 ∧ c.o2 = dictOf (coldEs w.params k21 k22 k23 k24 k25 k26 (.int (10 : Nat) t21) v22 (.ref i2) (.ref el2) .none (.bool false)) 6 ∧ c.mv = .none ∧ c.memL = []) ∨
       (0 < i ∧ ∃ k17 k18 t17 t18 k27 k28 t27 t28 v25, c.o2 = dictS (tabEs w.params k21 k22 k23 k24 k25 k26 k27 k28 (.int (10 : Nat) t21) v22 (.ref i2) (.ref el2) v25 (.bool false) (.int (2^10) t27) (.int (2^10-1) t28)) 8 #[none] ∧ ((c.mv = .none ∧ c.memL = [] ∧ c.o1 = dictS (tabEs w.params k11 k12 k13 k14 k15 k16 k17 k18 (.int (10 : Nat) t11) v12 (.ref i1) (.ref el1) .none (.bool false) (.int (2^10) t17) (.int (2^10-1) t18)) 8 #[none]) ∨
         (∃ md mo rd ro cm, @LT.lt Nat _ bk md ∧ @LT.lt Nat _ md rd ∧ c.mv = .ref md ∧ c.memL = [(md, mo), (rd, ro)] ∧ c.o1 = dictS (tabEs w.params k11 k12 k13 k14 k15 k16 k17 k18 (.int (10 : Nat) t11) v12 (.ref i1) (.ref el1) (.ref rd) (.bool false) (.int (2^10) t17) (.int (2^10-1) t18)) 8 #[none] ∧ DII PySem.Challenge.rw_fc5025_03.row.prog w mo cm ∧ DII PySem.Challenge.rw_fc5025_03.row.prog w ro cm ∧ MemOK 10 c.c cm ∧ cm.length ≤ i))))) (i + 1)) (I, oi) Q) { s with heap := h, gens := g, toks := tk } := by
  have e1 := hPl.free (wk_range K).1 (wk_range (h := r) K).2 hKf
  have e3 : ∀ j < K, ns.getD (wk 10 r j).toNat 0 ≠ -1 := fun j hj => hPl.taken (wk_range j).1 (wk_range (h := r) j).2 (hKt j hj)
  have hcb : c.length ≤ 1000 := by omega
  have q0 := (wk_range (n := 10) (h := r) K).1
  have q1 := (wk_range (n := 10) (h := r) K).2
  have q2 : wk 10 r K < (ns.length : Int) := by rw [len_cast hPl.len]; exact q1
  have q3 : wk 10 r K < 2 ^ 63 := by have := pow_le_1024 (n := 10) (by omega); omega
  have hlbk : (bk == sysModules) = false := beq_eq_false_iff_ne.mpr (fun e => by have e2 : @Eq Nat bk 1 := e; omega)
  have hld1 : (d1 == sysModules) = false := beq_eq_false_iff_ne.mpr (fun e => by have e2 : @Eq Nat d1 1 := e; omega)
  have hld2 : (d2 == sysModules) = false := beq_eq_false_iff_ne.mpr (fun e => by have e2 : @Eq Nat d2 1 := e; omega)
  skip
  skip
  w_top off; revert B X N T F; k_fill; intro B X N T F
  dsimp only [lawS, List.drop, forBody] at hΓ' ⊢
  dsimp only [kstB] at F
  refine at_execs_consA hΓ' ?_
  (try k_fold)
  k_steps
  refine Hold.mk ?_
  rename News _ _ _ _ => N9
  replace N9 := news_pick N9 [8, 0, 1, 2, 3, 4, 5, 6, 7, 9, 10]
  simp only [List.filterMap_cons, List.getElem?_cons_succ, List.getElem?_cons_zero, List.filterMap_nil] at N9
  refine' law_walk hr2.1 (by omega) hbo hlbk hKf hKt ?u1 ?u2 ?u3 N9 ?u5 ?u6 ?u7 ?u8 ?_; (case u1 => k_asm); (case u2 => k_asm); (case u3 => k_asm); (case u5 => k_asm); (case u6 => first | exact rfl | assumption); (case u7 => ktr_room); (case u8 => ktr_units)
  intro wl vsw nw h3 tk3 lw hIw F3 N3
  dsimp only [AllLt] at lw
  (try k_fold)
  k_steps
  all_goals try (exfalso; contradiction)
  (try dsimp only)
  (try k_fold)
  refine at_execs_consA hΓ' ?_
  k_steps
  refine Hold.mk ?_
  rename News _ _ _ _ => N9
  refine' law_note_none hr2.1 (by omega) hIw ?u1 ?u2 ?u3 N9 ?u5 ?u6 ?u7 ?u8 ?_ (fun r' hr' hle => absurd (hr'.uniq hn) (by omega)); (case u1 => k_asm); (case u2 => k_asm); (case u3 => k_asm); (case u5 => k_asm); (case u6 => first | exact rfl | assumption); (case u7 => ktr_room); (case u8 => ktr_units)
  intro _ h4 tk4 F4 N4
  have hl9 : ((List.range (K + 1)).map (wk 10 r)).length = K + 1 := by simp
  have hl8 : ((List.range (K + 1)).map (wk 10 r)).getD K 0 = wk 10 r K := by simp
  generalize hxs : (List.range (K + 1)).map (wk 10 r) = xs at *
  have hlast : xs.getD (-1 + (xs.length : Int)).toNat 0 = wk 10 r K := by rw [hl9, show (-1 + ((K + 1 : Nat) : Int)).toNat = K by omega]; exact hl8
  (try k_fold)
  k_steps
  all_goals try (exfalso; contradiction)
  (try dsimp only)
  (try k_fold)
  refine at_execs_consA hΓ' ?_
  (try k_fold)
  k_steps
  all_goals try (exfalso; contradiction)
  (try dsimp only)
  (try k_fold)
  refine at_execs_cons (at_Assign_Name hΓ' (at_methodCall hΓ' ?_))
  (try k_fold)
  k_steps
  (dsimp only; refine at_callWith_K (K := Mine.hd.heap_39 w.params) hΓ' (by k_dflt k_is) ?_)
  (try k_fold)
  k_steps
  rename News _ _ _ _ => N9
  replace N9 := news_pick N9 [2, 3, 4, 0, 1, 5, 6, 7, 8, 9, 10, 11]
  simp only [List.filterMap_cons, List.getElem?_cons_succ, List.getElem?_cons_zero, List.filterMap_nil] at N9
  refine' fes_cold hΓ' (by decide) (by decide) hv1 hPl.len hr2.1 e1 e3 hld1 (by k_all) h13 h12 ?u1 ?u2 ?u3 N9 ?u5 ?u6 ?u7 ?u8 ?_ (fun r' hr' hle => absurd (hr'.uniq hn) (by omega)); (case u1 => k_asm); (case u2 => k_asm); (case u3 => k_asm); (case u5 => k_asm); (case u6 => first | exact rfl | assumption); (case u7 => ktr_room); (case u8 => ktr_units)
  intro _ k17 k18 t17 t18 t5 h5 tk5 F5 N5
  (try k_fold)
  k_steps
  all_goals try (exfalso; contradiction)
  (try dsimp only)
  (try k_fold)
  refine at_execs_cons (at_If (at_isTrue_Or2 hΓ' (at_any hΓ' ?_)))
  (try k_fold)
  k_steps
  all_goals try (exfalso; exact absurd hlast.symm (by assumption))
  refine at_isTrue_Compare1 hΓ' (at_methodCall hΓ' ?_)
  (try k_fold)
  k_steps
  (dsimp only; refine at_callWith_K (K := Mine.hd.heap_39 w.params) hΓ' (by k_dflt k_is) ?_)
  (try k_fold)
  k_steps
  rename News _ _ _ _ => N9
  replace N9 := news_pick N9 [5, 6, 7, 0, 1, 2, 3, 4, 8, 9, 10, 11]
  simp only [List.filterMap_cons, List.getElem?_cons_succ, List.getElem?_cons_zero, List.filterMap_nil] at N9
  refine' fes_cold hΓ' (by decide) (by decide) hv2 hPl.len hr2.1 e1 e3 hld2 (by k_all) h16 h15 ?u1 ?u2 ?u3 N9 ?u5 ?u6 ?u7 ?u8 ?_ (fun r' hr' hle => absurd (hr'.uniq hn) (by omega)); (case u1 => k_asm); (case u2 => k_asm); (case u3 => k_asm); (case u5 => k_asm); (case u6 => first | exact rfl | assumption); (case u7 => ktr_room); (case u8 => ktr_units)
  intro _ k27 k28 t27 t28 t6 h6 tk6 F6 N6
  (try k_fold)
  k_steps
  all_goals try (exfalso; contradiction)
  (try dsimp only)
  (try k_fold)
  refine at_execs_nil ?_
  (try dsimp only)
  refine at_any hΓ' ?_
  obtain ⟨kvsb, hdb, hfb⟩ := hbo
  (try k_fold)
  k_steps
  all_goals try (exfalso; contradiction)
  rename Fr _ _ _ _ => eF
  rename News _ _ _ _ => eN
  rename IntsAre (vs1.set _ _) _ => eI1
  rename IntsAre (vs2.set _ _) _ => eI2
  rename Obj.IsDictOf _ _ _ => hd8
  rename PyProof.V.FlatPairs _ _ _ => hf8
  refine at_end (s := { s with gens := g }) (σ := St3) ⟨dictS (tabEs w.params k11 k12 k13 k14 k15 k16 k17 k18 (.int (10 : Nat) t11) v12 (.ref i1) (.ref el1) .none (.bool false) (.int (2^10) t17) (.int (2^10-1) t18)) 8 #[none], dictS (tabEs w.params k21 k22 k23 k24 k25 k26 k27 k28 (.int (10 : Nat) t21) v22 (.ref i2) (.ref el2) .none (.bool false) (.int (2^10) t27) (.int (2^10-1) t28)) 8 #[none], _, _, _, _, _, .none, []⟩ (fun h => h) eF eN (.tail _ (.tail _ (.tail _ (.tail _ (.tail _ (.tail _ (.tail _ (.tail _ (.tail _ (.tail _ (.tail _ (.head _)))))))))))) (fun p hp => ?_) (List.forall_mem_cons.mpr ⟨rfl, List.forall_mem_nil _⟩) (fun z z1 z2 z3 => ?_) ⟨hPl.put q0 q1, (put_new_len c (wk 10 r K) (-2) hKf).trans (congrArg (· + 1) hcl), eI1, eI2, ⟨_, hd8, hf8⟩, .inr ⟨Nat.succ_pos _, k17, k18, t17, t18, k27, k28, t27, t28, .none, rfl, .inl ⟨rfl, rfl, rfl⟩⟩⟩
  · dsimp only at hp
    simp only [List.mem_cons, List.not_mem_nil, or_false] at hp
    rcases hp with rfl | rfl | rfl | rfl | rfl | rfl | rfl | rfl | rfl | rfl
    · exact .tail _ (.tail _ (.tail _ (.head _)))
    · exact .tail _ (.tail _ (.tail _ (.tail _ (.head _))))
    · exact .tail _ (.tail _ (.tail _ (.tail _ (.tail _ (.head _)))))
    · exact .head _
    · exact .tail _ (.head _)
    · exact .tail _ (.tail _ (.head _))
    · exact .tail _ (.tail _ (.tail _ (.tail _ (.tail _ (.tail _ (.tail _ (.tail _ (.head _))))))))
    · exact .tail _ (.tail _ (.tail _ (.tail _ (.tail _ (.tail _ (.tail _ (.tail _ (.tail _ (.head _)))))))))
    · exact .tail _ (.tail _ (.tail _ (.tail _ (.tail _ (.tail _ (.tail _ (.head _)))))))
    · exact .tail _ (.tail _ (.tail _ (.tail _ (.tail _ (.tail _ (.tail _ (.tail _ (.tail _ (.tail _ (.head _))))))))))
  · simp only [List.forall_mem_cons, List.not_mem_nil, false_implies, implies_true, and_true, ne_eq] at z2
    simp only [List.contains_cons, List.contains_nil, Bool.or_false, Bool.or_eq_false_iff, beq_eq_false_iff_ne, ne_eq] at z3
    simp [z1, z2, z3.1, z3.2]
end Mine
end

section
open PySem PySem.W PySem.Calls PyProof.Rows
namespace Mine
local macro_rules | `(tactic| walk_at "getAttr ref") => `(tactic| (k_here; k_dflt (refine' get_lateS ?k1 ?k2 ?k3 ?k4 ?k5 ?k6 ?k7 ?k8 ?k9 ?k10 ?_; (case k1 => k_asm); (case k2 => k_asm); (case k3 => k_inst); (case k4 => k_is); (case k5 => k_is); (case k6 => k_is); (case k7 => k_is); (case k8 => k_is); (case k9 => decide +kernel); (case k10 => k_get))))
local macro_rules | `(tactic| walk_at "getAttr ref") => `(tactic| (k_here; k_dflt (first
  | refine' get_shadowS ?k1 ?k2 ?k3 ?k4 ?k5 ?k6 ?k7 ?k8 ?k9 ?k10 ?_; (case k1 => k_asm); (case k2 => k_asm); (case k3 => k_inst); (case k4 => k_is); (case k5 => k_is); (case k6 => k_is); (case k7 => k_is); (case k8 => k_is); (case k9 => k_get); (case k10 => k_handed); k_whole
  | refine' get_ownS ?k1 ?k2 ?k3 ?k4 ?k5 ?k6 ?k7 ?k8 ?k9 ?_; (case k1 => k_asm); (case k2 => k_asm); (case k3 => k_inst); (case k4 => k_is); (case k5 => k_is); (case k6 => k_is); (case k7 => k_is); (case k8 => k_get); (case k9 => k_handed); k_whole)))
local macro_rules | `(tactic| walk_at "getAttr ref") => `(tactic| (k_here; (with_reducible show wpAny _ _ (getAttr (Value.ref _) (PySem.Str.ofString "__dict__") _) _ _ _); k_dflt (refine' get_dictS ?k1 ?k2 ?k3 ?k4 ?k5 ?k6 ?k7 ?k8 ?k9 ?k10 ?k11 ?k12 ?k13 ?k14 ?_; (case k1 => k_asm); (case k2 => k_asm); (case k3 => k_asm); (case k4 => k_inst); (case k5 => k_is); (case k6 => k_is); (case k7 => k_is); (case k8 => k_is); (case k9 => k_is); (case k10 => k_is); (case k11 => k_is); (case k12 => k_is); (case k13 => k_is); (case k14 => k_upd); k_whole; intro h' F' N'; (try k_sweep))))
local macro_rules | `(tactic| walk_at "getMethod ref") => `(tactic| (k_here; k_dflt (first
  | refine' method_instS ?k1 ?k2 ?k3 ?k4 ?k5 ?k6 ?k7 ?_; (case k1 => k_asm); (case k2 => k_asm); (case k3 => k_inst); (case k4 => k_is); (case k5 => k_is); (case k6 => k_is); (case k7 => k_get); k_whole
  | refine' method_getS ?k1 ?k2 ?_; (case k1 => k_asm); (case k2 => k_mem); k_whole)))
local macro_rules | `(tactic| walk_at "setAttr ref") => `(tactic| (k_here; k_dflt (refine' set_dictS ?k1 ?k2 ?k3 ?k4 ?k5 ?k6 ?k7 ?k8 ?k9 ?k10 ?k11 ?k12 ?k13 ?_; (case k1 => k_asm); (case k2 => k_asm); (case k3 => k_asm); (case k4 => k_inst); (case k5 => exact rfl); (case k6 => k_is); (case k7 => k_is); (case k8 => k_is); (case k9 => k_is); (case k10 => k_get); (case k11 => k_put); (case k12 => k_upd); (case k13 => exact Nat.le_of_ble_eq_true rfl); k_whole; intro h' F' N'; (try k_sweep))))
local macro_rules | `(tactic| walk_at "call builtin:dict.get") => `(tactic| (k_here; k_dflt (refine' call_get_missS ?k1 ?k2 ?k3 ?k4 ?k5 ?_; (case k1 => k_asm); (case k2 => k_mem); (case k3 => assumption); (case k4 => k_keys); (case k5 => k_get); k_whole)))
local macro_rules | `(tactic| walk_at "setItem ref str") => `(tactic| (k_here; k_dflt (refine' setItem_newS ?k1 ?k2 ?k3 ?k4 ?k5 ?k6 ?_; (case k1 => k_asm); (case k2 => k_asm); (case k3 => k_upd); (case k4 => k_keys); (case k5 => k_get); (case k6 => exact Nat.le_of_ble_eq_true rfl); k_whole; intro h' F' N'; (try dsimp only [List.cons_append, List.nil_append] at N'); (try k_sweep))))
local macro_rules | `(tactic| walk_at "exec While") => `(tactic| (k_here; refine Hold.out ?_))
local macro_rules | `(tactic| walk_at "KswEnd") => `(tactic| (refine Hold.out ?_))
local macro_rules | `(tactic| walk_at "binaryOp BitAnd int int") => `(tactic| first | with_reducible refine and_mask ?_ | with_reducible refine and_mask' ?_)
local macro_rules | `(tactic| walk_at "call ref") => `(tactic| (k_here; k_dflt (refine wpAny_call ?_; refine' code_def ?k1 ?k2 ?k3 ?k4 ?k5 ?kA ?kF ?kK ?k6 ?k7 ?k8 ?k9 ?kB ?_ ?c2 ?c3 ?c4 ?c5; (case kA => exact rfl); (case kF => exact rfl); (case kK => first | exact rfl | assumption); (case k1 => k_asm); (case k2 => k_asm); (case k3 => k_asm); (case k4 => k_asm); (case k5 => k_asm); (case k6 => k_is); (case k7 => k_is); (case k8 => ktr_room); (case k9 => first | exact BindsTo.of_eq rfl | exact binds_K (by k_in) rfl (by k_is) rfl rfl rfl); (case c5 => decide); (case kB => exact locs rfl); (case c2 => exact rfl); (case c3 => exact rfl); (case c4 => exact rfl); k_whole; intro g' L' h' FG' F' N' B' X' T'; (try dsimp only); (try k_lift B'); (try k_fold))))
local macro_rules | `(tactic| walk_at "inplaceOp RShift int int") => `(tactic| with_reducible refine shr5 ?_)
local macro_rules | `(tactic| walk_at "binaryOp LShift int int") => `(tactic| (with_reducible refine shl_one ?a ?_; (case a => omega)))
local macro_rules | `(tactic| k_all) => `(tactic| assumption)
local macro_rules | `(tactic| walk_at "compareOp NotEq ref ref") => `(tactic| (k_here; refine Hold.out ?_))
local macro_rules | `(tactic| walk_at "call ref") => `(tactic| (k_here; (with_reducible show wpAny _ _ (call (Value.ref 186) _) _ _ _); refine Hold.out ?_))
local macro_rules | `(tactic| walk_at "call ref") => `(tactic| (k_here; (with_reducible show wpAny _ _ (call (Value.ref 302) _) _ _ _); refine Hold.out ?_))
local macro_rules | `(tactic| walk_at "call ref") => `(tactic| (k_here; (with_reducible show wpAny _ _ (call (Value.ref 316) _) _ _ _); refine Hold.out ?_))
local macro_rules | `(tactic| walk_at "call ref") => `(tactic| (k_here; (with_reducible show wpAny _ _ (call (Value.ref 171) _) _ _ _); refine Hold.out ?_))
set_option maxRecDepth 100000 in
set_option maxHeartbeats 8000000 in
theorem turn_none_short {w : World} {mean : ExcName → Option Value} {mg mb : Str → Option Value} {Γ' : Ctx} {h₀ h : Heap} {L fa cda I : Addr} {m u : Str → Option Value} {s : Shared} {g : Array GenState} {tk : Nat} {Q : Flow → Shared → Prop} {x1 d1 i1 el1 x2 d2 i2 el2 fl rl bk : Addr} {k11 k12 k13 k14 k15 k16 t11 k21 k22 k23 k24 k25 k26 t21 tz : Tok} {v12 v22 : Value} {vs1 vs2 rs : List Value} {run : List Int} {ep1 ep2 ep3 epE : Nat} {fo bo : Obj} {oi : Obj} {ns : List Int} {c : List (Int × Int)} {i : Nat} {r : Int} {tr : Tok} {k17 k18 t17 t18 k27 k28 t27 t28 : Tok} {v25 : Value} {K n : Nat}
   (hi60 : i < 60) (hr2 : 0 ≤ r ∧ r < 9223372036854775808) (hK40 : K ≤ 1040) (hKf : kdfHas c (wk 10 r K) = false) (hKt : ∀ j < K, kdfHas c (wk 10 r j) = true) (hn : IsFront r n) (hK9 : ¬ n + 32 ≤ K)
   (hPl : Places 10 ns c) (hcl : c.length = i) (hv1 : IntsAre vs1 ns) (hv2 : IntsAre vs2 ns) (hbo : DII PySem.Challenge.rw_fc5025_03.row.prog w bo c) (hrI : IntsAre rs run)
   (h12 : @LT.lt Nat _ i1 d1) (h13 : @LT.lt Nat _ d1 x1) (h14 : @LT.lt Nat _ x1 i2) (h15 : @LT.lt Nat _ i2 d2) (h16 : @LT.lt Nat _ d2 x2) (h17 : @LT.lt Nat _ x2 fl) (h18 : @LT.lt Nat _ fl rl) (h19 : @LT.lt Nat _ rl bk) (hlow : @LT.lt Nat _ 1 i1) (hel : @LT.lt Nat _ el1 i1) (hId1 : @Ne Nat I d1) (hIi1 : @Ne Nat I i1) (hId2 : @Ne Nat I d2) (hIi2 : @Ne Nat I i2) (hIbk : @Ne Nat I bk) 
   (hΓ' : InOK Γ' (callerA.deeper (envOf (Str.ofString "law") lawS.1.2.2 L fa (.ref cda)))) (B : Below callerA h₀ [] h₀) (X : (Mine.hd.heap_39 w.params).In h₀)
   (N : News h₀ L h ((x1, instObj 287 d1) :: (d1, dictS (tabEs w.params k11 k12 k13 k14 k15 k16 k17 k18 (.int (10 : Nat) t11) v12 (.ref i1) (.ref el1) .none (.bool false) (.int (2^10) t17) (.int (2^10-1) t18)) 8 #[none]) :: (i1, listOf vs1.toArray ep1) :: (x2, instObj 287 d2) :: (d2, dictS (tabEs w.params k21 k22 k23 k24 k25 k26 k27 k28 (.int (10 : Nat) t21) v22 (.ref i2) (.ref el2) v25 (.bool false) (.int (2^10) t27) (.int (2^10-1) t28)) 8 #[none]) :: (i2, listOf vs2.toArray ep2) :: (fl, fo) :: (rl, listOf rs.toArray ep3) :: (bk, bo) :: (el1, listOf #[] epE) :: (I, oi) :: [])) (T : Top Mine.hd.view_39 (looseW Mine.hd.view_39 [Str.ofString "_Entry", Str.ofString "_NOT_FOUND", Str.ofString "cached_property", Str.ofString "_HtKeys"]) mean mg mb h₀)
   (F : Fr h₀ L h (fun y => if y = Str.ofString "number" then some (.int r tr) else kstB (fun z => if [Str.ofString "walk", Str.ofString "told"].contains z then u z else (fun y => if y = Str.ofString "places_two" then some (.ref i2) else if y = Str.ofString "places_one" then some (.ref i1) else if y = Str.ofString "memory" then some (.none) else if y = Str.ofString "book" then some (.ref bk) else if y = Str.ofString "family" then some (.ref fl) else if y = Str.ofString "run" then some (.ref rl) else if y = Str.ofString "size" then some (.int (2 ^ 10) tz) else if y = Str.ofString "two" then some (.ref x2) else if y = Str.ofString "one" then some (.ref x1) else m y) z) [(Str.ofString "memory", .none)] y)) :
   wpAt (model PySem.Challenge.rw_fc5025_03.row.prog w) Γ' (execs (forBody ((lawS.1.2.1).drop 13)) (envOf (Str.ofString "law") lawS.1.2.2 L fa (.ref cda))) (AtPost h₀ L { s with gens := g } (fun (c : St3) => (x1, instObj 287 d1) :: (d1, c.o1) :: (i1, listOf c.vs1.toArray ep1) :: (x2, instObj 287 d2) :: (d2, c.o2) :: (i2, listOf c.vs2.toArray ep2) :: (fl, fo) :: (rl, listOf rs.toArray ep3) :: (bk, c.bo) :: (el1, listOf #[] epE) :: c.memL) (fun (c : St3) => [(Str.ofString "memory", c.mv)]) (Str.ofString "number") [Str.ofString "walk", Str.ofString "told"] (fun y => if y = Str.ofString "places_two" then some (.ref i2) else if y = Str.ofString "places_one" then some (.ref i1) else if y = Str.ofString "memory" then some (.none) else if y = Str.ofString "book" then some (.ref bk) else if y = Str.ofString "family" then some (.ref fl) else if y = Str.ofString "run" then some (.ref rl) else if y = Str.ofString "size" then some (.int (2 ^ 10) tz) else if y = Str.ofString "two" then some (.ref x2) else if y = Str.ofString "one" then some (.ref x1) else m y) ((fun (i : Nat) (c : St3) => Places 10 c.ns c.c ∧ c.c.length = i ∧ IntsAre c.vs1 c.ns ∧ IntsAre c.vs2 c.ns ∧ DII PySem.Challenge.rw_fc5025_03.row.prog w c.bo c.c ∧
      ((i = 0 ∧ c.o1 = dictOf (coldEs w.params k11 k12 k13 k14 k15 k16 (.int (10 : Nat) t11) v12 (.ref i1) (.ref el1) .none (.bool false)) 6 ∧ c.o2 = dictOf (coldEs w.params k21 k22 k23 k24 k25 k26 (.int (10 : Nat) t21) v22 (.ref i2) (.ref el2) .none (.bool false)) 6 ∧ c.mv = .none ∧ c.memL = []) ∨
       (0 < i ∧ ∃ k17 k18 t17 t18 k27 k28 t27 t28 v25, c.o2 = dictS (tabEs w.params k21 k22 k23 k24 k25 k26 k27 k28 (.int (10 : Nat) t21) v22 (.ref i2) (.ref el2) v25 (.bool false) (.int (2^10) t27) (.int (2^10-1) t28)) 8 #[none] ∧ ((c.mv = .none ∧ c.memL = [] ∧ c.o1 = dictS (tabEs w.params k11 k12 k13 k14 k15 k16 k17 k18 (.int (10 : Nat) t11) v12 (.ref i1) (.ref el1) .none (.bool false) (.int (2^10) t17) (.int (2^10-1) t18)) 8 #[none]) ∨
         (∃ md mo rd ro cm, @LT.lt Nat _ bk md ∧ @LT.lt Nat _ md rd ∧ c.mv = .ref md ∧ c.memL = [(md, mo), (rd, ro)] ∧ c.o1 = dictS (tabEs w.params k11 k12 k13 k14 k15 k16 k17 k18 (.int (10 : Nat) t11) v12 (.ref i1) (.ref el1) (.ref rd) (.bool false) (.int (2^10) t17) (.int (2^10-1) t18)) 8 #[none] ∧ DII PySem.Challenge.rw_fc5025_03.row.prog w mo cm ∧ DII PySem.Challenge.rw_fc5025_03.row.prog w ro cm ∧ MemOK 10 c.c cm ∧ cm.length ≤ i))))) (i + 1)) (I, oi) Q) { s with heap := h, gens := g, toks := tk } := by
  have e1 := hPl.free (wk_range K).1 (wk_range (h := r) K).2 hKf
  have e3 : ∀ j < K, ns.getD (wk 10 r j).toNat 0 ≠ -1 := fun j hj => hPl.taken (wk_range j).1 (wk_range (h := r) j).2 (hKt j hj)
  have hcb : c.length ≤ 1000 := by omega
  have q0 := (wk_range (n := 10) (h := r) K).1
  have q1 := (wk_range (n := 10) (h := r) K).2
  have q2 : wk 10 r K < (ns.length : Int) := by rw [len_cast hPl.len]; exact q1
  have q3 : wk 10 r K < 2 ^ 63 := by have := pow_le_1024 (n := 10) (by omega); omega
  have hlbk : (bk == sysModules) = false := beq_eq_false_iff_ne.mpr (fun e => by have e2 : @Eq Nat bk 1 := e; omega)
  have hld1 : (d1 == sysModules) = false := beq_eq_false_iff_ne.mpr (fun e => by have e2 : @Eq Nat d1 1 := e; omega)
  have hld2 : (d2 == sysModules) = false := beq_eq_false_iff_ne.mpr (fun e => by have e2 : @Eq Nat d2 1 := e; omega)
  skip
  skip
  w_top off; revert B X N T F; k_fill; intro B X N T F
  dsimp only [lawS, List.drop, forBody] at hΓ' ⊢
  dsimp only [kstB] at F
  refine at_any hΓ' ?_
  (try k_fold)
  k_steps
  all_goals try (exfalso; contradiction)
  refine Hold.mk ?_
  rename News _ _ _ _ => N9
  replace N9 := news_pick N9 [8, 0, 1, 2, 3, 4, 5, 6, 7, 9, 10]
  simp only [List.filterMap_cons, List.getElem?_cons_succ, List.getElem?_cons_zero, List.filterMap_nil] at N9
  refine' law_walk hr2.1 (by omega) hbo hlbk hKf hKt ?u1 ?u2 ?u3 N9 ?u5 ?u6 ?u7 ?u8 ?_; (case u1 => k_asm); (case u2 => k_asm); (case u3 => k_asm); (case u5 => k_asm); (case u6 => first | exact rfl | assumption); (case u7 => ktr_room); (case u8 => ktr_units)
  intro wl vsw nw h3 tk3 lw hIw F3 N3
  dsimp only [AllLt] at lw
  (try k_fold)
  k_steps
  all_goals try (exfalso; contradiction)
  refine Hold.mk ?_
  rename News _ _ _ _ => N9
  refine' law_note_none hr2.1 (by omega) hIw ?u1 ?u2 ?u3 N9 ?u5 ?u6 ?u7 ?u8 ?_ (fun r' hr' hle => absurd (hr'.uniq hn) (by omega)); (case u1 => k_asm); (case u2 => k_asm); (case u3 => k_asm); (case u5 => k_asm); (case u6 => first | exact rfl | assumption); (case u7 => ktr_room); (case u8 => ktr_units)
  intro _ h4 tk4 F4 N4
  have hl9 : ((List.range (K + 1)).map (wk 10 r)).length = K + 1 := by simp
  have hl8 : ((List.range (K + 1)).map (wk 10 r)).getD K 0 = wk 10 r K := by simp
  generalize hxs : (List.range (K + 1)).map (wk 10 r) = xs at *
  have hlast : xs.getD (-1 + (xs.length : Int)).toNat 0 = wk 10 r K := by rw [hl9, show (-1 + ((K + 1 : Nat) : Int)).toNat = K by omega]; exact hl8
  skip
  (try k_fold)
  k_steps
  all_goals try (exfalso; contradiction)
  refine Hold.mk ?_
  rename News _ _ _ _ => N9
  replace N9 := news_pick N9 [2, 3, 4, 0, 1, 5, 6, 7, 8, 9, 10, 11]
  simp only [List.filterMap_cons, List.getElem?_cons_succ, List.getElem?_cons_zero, List.filterMap_nil] at N9
  refine' fes_none (by decide) (by decide) hv1 hPl.len hr2.1 e1 e3 hld1 (by k_all) h13 h12 ?u1 ?u2 ?u3 N9 ?u5 ?u6 ?u7 ?u8 ?_ (fun r' hr' hle => absurd (hr'.uniq hn) (by omega)); (case u1 => k_asm); (case u2 => k_asm); (case u3 => k_asm); (case u5 => k_asm); (case u6 => first | exact rfl | assumption); (case u7 => ktr_room); (case u8 => ktr_units)
  intro _ t5 h5 tk5 F5 N5
  (try k_fold)
  k_steps
  all_goals try (exfalso; contradiction)
  all_goals try (exfalso; exact absurd hlast.symm (by assumption))
  refine Hold.mk ?_
  rename News _ _ _ _ => N9
  replace N9 := news_pick N9 [5, 6, 7, 0, 1, 2, 3, 4, 8, 9, 10, 11]
  simp only [List.filterMap_cons, List.getElem?_cons_succ, List.getElem?_cons_zero, List.filterMap_nil] at N9
  refine' fes_any (by decide) (by decide) hv2 hPl.len hr2.1 e1 e3 hld2 (by k_all) h16 h15 ?u1 ?u2 ?u3 N9 ?u5 ?u6 ?u7 ?u8 ?_; (case u1 => k_asm); (case u2 => k_asm); (case u3 => k_asm); (case u5 => k_asm); (case u6 => first | exact rfl | assumption); (case u7 => ktr_room); (case u8 => ktr_units)
  intro v26 t6 h6 tk6 F6 N6
  (try k_fold)
  k_steps
  all_goals try (exfalso; contradiction)
  obtain ⟨kvsb, hdb, hfb⟩ := hbo
  (try k_fold)
  k_steps
  all_goals try (exfalso; contradiction)
  rename Fr _ _ _ _ => eF
  rename News _ _ _ _ => eN
  rename IntsAre (vs1.set _ _) _ => eI1
  rename IntsAre (vs2.set _ _) _ => eI2
  rename Obj.IsDictOf _ _ _ => hd8
  rename PyProof.V.FlatPairs _ _ _ => hf8
  refine at_end (s := { s with gens := g }) (σ := St3) ⟨dictS (tabEs w.params k11 k12 k13 k14 k15 k16 k17 k18 (.int (10 : Nat) t11) v12 (.ref i1) (.ref el1) .none (.bool false) (.int (2^10) t17) (.int (2^10-1) t18)) 8 #[none], dictS (tabEs w.params k21 k22 k23 k24 k25 k26 k27 k28 (.int (10 : Nat) t21) v22 (.ref i2) (.ref el2) v26 (.bool false) (.int (2^10) t27) (.int (2^10-1) t28)) 8 #[none], _, _, _, _, _, .none, []⟩ (fun h => h) eF eN (.tail _ (.tail _ (.tail _ (.tail _ (.tail _ (.tail _ (.tail _ (.tail _ (.tail _ (.tail _ (.tail _ (.head _)))))))))))) (fun p hp => ?_) (List.forall_mem_cons.mpr ⟨rfl, List.forall_mem_nil _⟩) (fun z z1 z2 z3 => ?_) ⟨hPl.put q0 q1, (put_new_len c (wk 10 r K) (-2) hKf).trans (congrArg (· + 1) hcl), eI1, eI2, ⟨_, hd8, hf8⟩, .inr ⟨Nat.succ_pos _, k17, k18, t17, t18, k27, k28, t27, t28, v26, rfl, .inl ⟨rfl, rfl, rfl⟩⟩⟩
  · dsimp only at hp
    simp only [List.mem_cons, List.not_mem_nil, or_false] at hp
    rcases hp with rfl | rfl | rfl | rfl | rfl | rfl | rfl | rfl | rfl | rfl
    · exact .tail _ (.tail _ (.tail _ (.head _)))
    · exact .tail _ (.tail _ (.tail _ (.tail _ (.head _))))
    · exact .tail _ (.tail _ (.tail _ (.tail _ (.tail _ (.head _)))))
    · exact .head _
    · exact .tail _ (.head _)
    · exact .tail _ (.tail _ (.head _))
    · exact .tail _ (.tail _ (.tail _ (.tail _ (.tail _ (.tail _ (.tail _ (.tail _ (.head _))))))))
    · exact .tail _ (.tail _ (.tail _ (.tail _ (.tail _ (.tail _ (.tail _ (.tail _ (.tail _ (.head _)))))))))
    · exact .tail _ (.tail _ (.tail _ (.tail _ (.tail _ (.tail _ (.tail _ (.head _)))))))
    · exact .tail _ (.tail _ (.tail _ (.tail _ (.tail _ (.tail _ (.tail _ (.tail _ (.tail _ (.tail _ (.head _))))))))))
  · simp only [List.forall_mem_cons, List.not_mem_nil, false_implies, implies_true, and_true, ne_eq] at z2
    simp only [List.contains_cons, List.contains_nil, Bool.or_false, Bool.or_eq_false_iff, beq_eq_false_iff_ne, ne_eq] at z3
    simp [z1, z2, z3.1, z3.2]

end Mine
end

section
open PySem PySem.W PySem.Calls PyProof.Rows
namespace Mine
local macro_rules | `(tactic| walk_at "MinePad") => `(tactic| skip)
local macro_rules | `(tactic| walk_at "getAttr ref") => `(tactic| (k_here; k_dflt (refine' get_lateS ?k1 ?k2 ?k3 ?k4 ?k5 ?k6 ?k7 ?k8 ?k9 ?k10 ?_; (case k1 => k_asm); (case k2 => k_asm); (case k3 => k_inst); (case k4 => k_is); (case k5 => k_is); (case k6 => k_is); (case k7 => k_is); (case k8 => k_is); (case k9 => decide +kernel); (case k10 => k_get))))
local macro_rules | `(tactic| walk_at "getAttr ref") => `(tactic| (k_here; k_dflt (first
  | refine' get_shadowS ?k1 ?k2 ?k3 ?k4 ?k5 ?k6 ?k7 ?k8 ?k9 ?k10 ?_; (case k1 => k_asm); (case k2 => k_asm); (case k3 => k_inst); (case k4 => k_is); (case k5 => k_is); (case k6 => k_is); (case k7 => k_is); (case k8 => k_is); (case k9 => k_get); (case k10 => k_handed); k_whole
  | refine' get_ownS ?k1 ?k2 ?k3 ?k4 ?k5 ?k6 ?k7 ?k8 ?k9 ?_; (case k1 => k_asm); (case k2 => k_asm); (case k3 => k_inst); (case k4 => k_is); (case k5 => k_is); (case k6 => k_is); (case k7 => k_is); (case k8 => k_get); (case k9 => k_handed); k_whole)))
local macro_rules | `(tactic| walk_at "getAttr ref") => `(tactic| (k_here; (with_reducible show wpAny _ _ (getAttr (Value.ref _) (PySem.Str.ofString "__dict__") _) _ _ _); k_dflt (refine' get_dictS ?k1 ?k2 ?k3 ?k4 ?k5 ?k6 ?k7 ?k8 ?k9 ?k10 ?k11 ?k12 ?k13 ?k14 ?_; (case k1 => k_asm); (case k2 => k_asm); (case k3 => k_asm); (case k4 => k_inst); (case k5 => k_is); (case k6 => k_is); (case k7 => k_is); (case k8 => k_is); (case k9 => k_is); (case k10 => k_is); (case k11 => k_is); (case k12 => k_is); (case k13 => k_is); (case k14 => k_upd); k_whole; intro h' F' N'; (try k_sweep))))
local macro_rules | `(tactic| walk_at "getMethod ref") => `(tactic| (k_here; k_dflt (first
  | refine' method_instS ?k1 ?k2 ?k3 ?k4 ?k5 ?k6 ?k7 ?_; (case k1 => k_asm); (case k2 => k_asm); (case k3 => k_inst); (case k4 => k_is); (case k5 => k_is); (case k6 => k_is); (case k7 => k_get); k_whole
  | refine' method_getS ?k1 ?k2 ?_; (case k1 => k_asm); (case k2 => k_mem); k_whole)))
local macro_rules | `(tactic| walk_at "setAttr ref") => `(tactic| (k_here; k_dflt (refine' set_dictS ?k1 ?k2 ?k3 ?k4 ?k5 ?k6 ?k7 ?k8 ?k9 ?k10 ?k11 ?k12 ?k13 ?_; (case k1 => k_asm); (case k2 => k_asm); (case k3 => k_asm); (case k4 => k_inst); (case k5 => exact rfl); (case k6 => k_is); (case k7 => k_is); (case k8 => k_is); (case k9 => k_is); (case k10 => k_get); (case k11 => k_put); (case k12 => k_upd); (case k13 => exact Nat.le_of_ble_eq_true rfl); k_whole; intro h' F' N'; (try k_sweep))))
local macro_rules | `(tactic| walk_at "call builtin:dict.get") => `(tactic| (k_here; k_dflt (refine' call_get_missS ?k1 ?k2 ?k3 ?k4 ?k5 ?_; (case k1 => k_asm); (case k2 => k_mem); (case k3 => assumption); (case k4 => k_keys); (case k5 => k_get); k_whole)))
local macro_rules | `(tactic| walk_at "setItem ref str") => `(tactic| (k_here; k_dflt (refine' setItem_newS ?k1 ?k2 ?k3 ?k4 ?k5 ?k6 ?_; (case k1 => k_asm); (case k2 => k_asm); (case k3 => k_upd); (case k4 => k_keys); (case k5 => k_get); (case k6 => exact Nat.le_of_ble_eq_true rfl); k_whole; intro h' F' N'; (try dsimp only [List.cons_append, List.nil_append] at N'); (try k_sweep))))
local macro_rules | `(tactic| walk_at "exec While") => `(tactic| (k_here; refine Hold.out ?_))
local macro_rules | `(tactic| walk_at "KswEnd") => `(tactic| (refine Hold.out ?_))
local macro_rules | `(tactic| walk_at "binaryOp BitAnd int int") => `(tactic| first | with_reducible refine and_mask ?_ | with_reducible refine and_mask' ?_)
local macro_rules | `(tactic| walk_at "call ref") => `(tactic| (k_here; k_dflt (refine wpAny_call ?_; refine' code_def ?k1 ?k2 ?k3 ?k4 ?k5 ?kA ?kF ?kK ?k6 ?k7 ?k8 ?k9 ?kB ?_ ?c2 ?c3 ?c4 ?c5; (case kA => exact rfl); (case kF => exact rfl); (case kK => first | exact rfl | assumption); (case k1 => k_asm); (case k2 => k_asm); (case k3 => k_asm); (case k4 => k_asm); (case k5 => k_asm); (case k6 => k_is); (case k7 => k_is); (case k8 => ktr_room); (case k9 => first | exact BindsTo.of_eq rfl | exact binds_K (by k_in) rfl (by k_is) rfl rfl rfl); (case c5 => decide); (case kB => exact locs rfl); (case c2 => exact rfl); (case c3 => exact rfl); (case c4 => exact rfl); k_whole; intro g' L' h' FG' F' N' B' X' T'; (try dsimp only); (try k_lift B'); (try k_fold))))
local macro_rules | `(tactic| walk_at "inplaceOp RShift int int") => `(tactic| with_reducible refine shr5 ?_)
local macro_rules | `(tactic| walk_at "binaryOp LShift int int") => `(tactic| (with_reducible refine shl_one ?a ?_; (case a => omega)))
local macro_rules | `(tactic| k_all) => `(tactic| assumption)
local macro_rules | `(tactic| walk_at "compareOp NotEq ref ref") => `(tactic| (k_here; refine Hold.out ?_))
local macro_rules | `(tactic| walk_at "call ref") => `(tactic| (k_here; (with_reducible show wpAny _ _ (call (Value.ref 186) _) _ _ _); refine Hold.out ?_))
local macro_rules | `(tactic| walk_at "call ref") => `(tactic| (k_here; (with_reducible show wpAny _ _ (call (Value.ref 302) _) _ _ _); refine Hold.out ?_))
local macro_rules | `(tactic| walk_at "call ref") => `(tactic| (k_here; (with_reducible show wpAny _ _ (call (Value.ref 316) _) _ _ _); refine Hold.out ?_))
local macro_rules | `(tactic| walk_at "call ref") => `(tactic| (k_here; (with_reducible show wpAny _ _ (call (Value.ref 171) _) _ _ _); refine Hold.out ?_))
set_option maxRecDepth 100000 in
set_option maxHeartbeats 8000000 in
theorem turn_none_long {w : World} {mean : ExcName → Option Value} {mg mb : Str → Option Value} {Γ' : Ctx} {h₀ h : Heap} {L fa cda I : Addr} {m u : Str → Option Value} {s : Shared} {g : Array GenState} {tk : Nat} {Q : Flow → Shared → Prop} {x1 d1 i1 el1 x2 d2 i2 el2 fl rl bk : Addr} {k11 k12 k13 k14 k15 k16 t11 k21 k22 k23 k24 k25 k26 t21 tz : Tok} {v12 v22 : Value} {vs1 vs2 rs : List Value} {run : List Int} {ep1 ep2 ep3 epE : Nat} {fo bo : Obj} {oi : Obj} {ns : List Int} {c : List (Int × Int)} {i : Nat} {r : Int} {tr : Tok} {k17 k18 t17 t18 k27 k28 t27 t28 : Tok} {v25 : Value} {K n : Nat}
   (hi60 : i < 60) (hr2 : 0 ≤ r ∧ r < 9223372036854775808) (hK40 : K ≤ 1040) (hKf : kdfHas c (wk 10 r K) = false) (hKt : ∀ j < K, kdfHas c (wk 10 r j) = true) (hn : IsFront r n) (hK9 : n + 32 ≤ K)
   (hPl : Places 10 ns c) (hcl : c.length = i) (hv1 : IntsAre vs1 ns) (hv2 : IntsAre vs2 ns) (hbo : DII PySem.Challenge.rw_fc5025_03.row.prog w bo c) (hrI : IntsAre rs run)
   (h12 : @LT.lt Nat _ i1 d1) (h13 : @LT.lt Nat _ d1 x1) (h14 : @LT.lt Nat _ x1 i2) (h15 : @LT.lt Nat _ i2 d2) (h16 : @LT.lt Nat _ d2 x2) (h17 : @LT.lt Nat _ x2 fl) (h18 : @LT.lt Nat _ fl rl) (h19 : @LT.lt Nat _ rl bk) (hlow : @LT.lt Nat _ 1 i1) (hel : @LT.lt Nat _ el1 i1) (hId1 : @Ne Nat I d1) (hIi1 : @Ne Nat I i1) (hId2 : @Ne Nat I d2) (hIi2 : @Ne Nat I i2) (hIbk : @Ne Nat I bk) 
   (hΓ' : InOK Γ' (callerA.deeper (envOf (Str.ofString "law") lawS.1.2.2 L fa (.ref cda)))) (B : Below callerA h₀ [] h₀) (X : (Mine.hd.heap_39 w.params).In h₀)
   (N : News h₀ L h ((x1, instObj 287 d1) :: (d1, dictS (tabEs w.params k11 k12 k13 k14 k15 k16 k17 k18 (.int (10 : Nat) t11) v12 (.ref i1) (.ref el1) .none (.bool false) (.int (2^10) t17) (.int (2^10-1) t18)) 8 #[none]) :: (i1, listOf vs1.toArray ep1) :: (x2, instObj 287 d2) :: (d2, dictS (tabEs w.params k21 k22 k23 k24 k25 k26 k27 k28 (.int (10 : Nat) t21) v22 (.ref i2) (.ref el2) v25 (.bool false) (.int (2^10) t27) (.int (2^10-1) t28)) 8 #[none]) :: (i2, listOf vs2.toArray ep2) :: (fl, fo) :: (rl, listOf rs.toArray ep3) :: (bk, bo) :: (el1, listOf #[] epE) :: (I, oi) :: [])) (T : Top Mine.hd.view_39 (looseW Mine.hd.view_39 [Str.ofString "_Entry", Str.ofString "_NOT_FOUND", Str.ofString "cached_property", Str.ofString "_HtKeys"]) mean mg mb h₀)
   (F : Fr h₀ L h (fun y => if y = Str.ofString "number" then some (.int r tr) else kstB (fun z => if [Str.ofString "walk", Str.ofString "told"].contains z then u z else (fun y => if y = Str.ofString "places_two" then some (.ref i2) else if y = Str.ofString "places_one" then some (.ref i1) else if y = Str.ofString "memory" then some (.none) else if y = Str.ofString "book" then some (.ref bk) else if y = Str.ofString "family" then some (.ref fl) else if y = Str.ofString "run" then some (.ref rl) else if y = Str.ofString "size" then some (.int (2 ^ 10) tz) else if y = Str.ofString "two" then some (.ref x2) else if y = Str.ofString "one" then some (.ref x1) else m y) z) [(Str.ofString "memory", .none)] y)) :
   wpAt (model PySem.Challenge.rw_fc5025_03.row.prog w) Γ' (execs (forBody ((lawS.1.2.1).drop 13)) (envOf (Str.ofString "law") lawS.1.2.2 L fa (.ref cda))) (AtPost h₀ L { s with gens := g } (fun (c : St3) => (x1, instObj 287 d1) :: (d1, c.o1) :: (i1, listOf c.vs1.toArray ep1) :: (x2, instObj 287 d2) :: (d2, c.o2) :: (i2, listOf c.vs2.toArray ep2) :: (fl, fo) :: (rl, listOf rs.toArray ep3) :: (bk, c.bo) :: (el1, listOf #[] epE) :: c.memL) (fun (c : St3) => [(Str.ofString "memory", c.mv)]) (Str.ofString "number") [Str.ofString "walk", Str.ofString "told"] (fun y => if y = Str.ofString "places_two" then some (.ref i2) else if y = Str.ofString "places_one" then some (.ref i1) else if y = Str.ofString "memory" then some (.none) else if y = Str.ofString "book" then some (.ref bk) else if y = Str.ofString "family" then some (.ref fl) else if y = Str.ofString "run" then some (.ref rl) else if y = Str.ofString "size" then some (.int (2 ^ 10) tz) else if y = Str.ofString "two" then some (.ref x2) else if y = Str.ofString "one" then some (.ref x1) else m y) ((fun (i : Nat) (c : St3) => Places 10 c.ns c.c ∧ c.c.length = i ∧ IntsAre c.vs1 c.ns ∧ IntsAre c.vs2 c.ns ∧ DII PySem.Challenge.rw_fc5025_03.row.prog w c.bo c.c ∧
      ((i = 0 ∧ c.o1 = dictOf (coldEs w.params k11 k12 k13 k14 k15 k16 (.int (10 : Nat) t11) v12 (.ref i1) (.ref el1) .none (.bool false)) 6 ∧ c.o2 = dictOf (coldEs w.params k21 k22 k23 k24 k25 k26 (.int (10 : Nat) t21) v22 (.ref i2) (.ref el2) .none (.bool false)) 6 ∧ c.mv = .none ∧ c.memL = []) ∨
       (0 < i ∧ ∃ k17 k18 t17 t18 k27 k28 t27 t28 v25, c.o2 = dictS (tabEs w.params k21 k22 k23 k24 k25 k26 k27 k28 (.int (10 : Nat) t21) v22 (.ref i2) (.ref el2) v25 (.bool false) (.int (2^10) t27) (.int (2^10-1) t28)) 8 #[none] ∧ ((c.mv = .none ∧ c.memL = [] ∧ c.o1 = dictS (tabEs w.params k11 k12 k13 k14 k15 k16 k17 k18 (.int (10 : Nat) t11) v12 (.ref i1) (.ref el1) .none (.bool false) (.int (2^10) t17) (.int (2^10-1) t18)) 8 #[none]) ∨
         (∃ md mo rd ro cm, @LT.lt Nat _ bk md ∧ @LT.lt Nat _ md rd ∧ c.mv = .ref md ∧ c.memL = [(md, mo), (rd, ro)] ∧ c.o1 = dictS (tabEs w.params k11 k12 k13 k14 k15 k16 k17 k18 (.int (10 : Nat) t11) v12 (.ref i1) (.ref el1) (.ref rd) (.bool false) (.int (2^10) t17) (.int (2^10-1) t18)) 8 #[none] ∧ DII PySem.Challenge.rw_fc5025_03.row.prog w mo cm ∧ DII PySem.Challenge.rw_fc5025_03.row.prog w ro cm ∧ MemOK 10 c.c cm ∧ cm.length ≤ i))))) (i + 1)) (I, oi) Q) { s with heap := h, gens := g, toks := tk } := by
  have e1 := hPl.free (wk_range K).1 (wk_range (h := r) K).2 hKf
  have e3 : ∀ j < K, ns.getD (wk 10 r j).toNat 0 ≠ -1 := fun j hj => hPl.taken (wk_range j).1 (wk_range (h := r) j).2 (hKt j hj)
  have hcb : c.length ≤ 1000 := by omega
  have q0 := (wk_range (n := 10) (h := r) K).1
  have q1 := (wk_range (n := 10) (h := r) K).2
  have q2 : wk 10 r K < (ns.length : Int) := by rw [len_cast hPl.len]; exact q1
  have q3 : wk 10 r K < 2 ^ 63 := by have := pow_le_1024 (n := 10) (by omega); omega
  have hlbk : (bk == sysModules) = false := beq_eq_false_iff_ne.mpr (fun e => by have e2 : @Eq Nat bk 1 := e; omega)
  have hld1 : (d1 == sysModules) = false := beq_eq_false_iff_ne.mpr (fun e => by have e2 : @Eq Nat d1 1 := e; omega)
  have hld2 : (d2 == sysModules) = false := beq_eq_false_iff_ne.mpr (fun e => by have e2 : @Eq Nat d2 1 := e; omega)
  skip
  skip
  w_top off; revert B X N T F; k_fill; intro B X N T F
  dsimp only [lawS, List.drop, forBody] at hΓ' ⊢
  dsimp only [kstB] at F
  refine at_any hΓ' ?_
  (try k_fold)
  k_steps
  all_goals try (exfalso; contradiction)
  refine Hold.mk ?_
  rename News _ _ _ _ => N9
  replace N9 := news_pick N9 [8, 0, 1, 2, 3, 4, 5, 6, 7, 9, 10]
  simp only [List.filterMap_cons, List.getElem?_cons_succ, List.getElem?_cons_zero, List.filterMap_nil] at N9
  refine' law_walk hr2.1 (by omega) hbo hlbk hKf hKt ?u1 ?u2 ?u3 N9 ?u5 ?u6 ?u7 ?u8 ?_; (case u1 => k_asm); (case u2 => k_asm); (case u3 => k_asm); (case u5 => k_asm); (case u6 => first | exact rfl | assumption); (case u7 => ktr_room); (case u8 => ktr_units)
  intro wl vsw nw h3 tk3 lw hIw F3 N3
  dsimp only [AllLt] at lw
  (try k_fold)
  k_steps
  all_goals try (exfalso; contradiction)
  refine Hold.mk ?_
  rename News _ _ _ _ => N9
  refine' law_note_none hr2.1 (by omega) hIw ?u1 ?u2 ?u3 N9 ?u5 ?u6 ?u7 ?u8 (fun hall => absurd (hall _ hn) (by omega)) ?_; (case u1 => k_asm); (case u2 => k_asm); (case u3 => k_asm); (case u5 => k_asm); (case u6 => first | exact rfl | assumption); (case u7 => ktr_room); (case u8 => ktr_units)
  intro r9 hr9 _ md mo h4 tk4 lm F4 hmo N4
  obtain rfl : r9 = n := hr9.uniq hn
  have hl9 : ((List.range (K + 1)).map (wk 10 r)).length = K + 1 := by simp
  have hl8 : ((List.range (K + 1)).map (wk 10 r)).getD K 0 = wk 10 r K := by simp
  generalize hxs : (List.range (K + 1)).map (wk 10 r) = xs at *
  have hlast : xs.getD (-1 + (xs.length : Int)).toNat 0 = wk 10 r K := by rw [hl9, show (-1 + ((K + 1 : Nat) : Int)).toNat = K by omega]; exact hl8
  dsimp only [AllLt] at lm
  (try k_fold)
  k_steps
  all_goals try (exfalso; contradiction)
  refine Hold.mk ?_
  rename News _ _ _ _ => N9
  replace N9 := news_pick N9 [3, 4, 5, 0, 1, 2, 6, 7, 8, 9, 10, 11, 12]
  simp only [List.filterMap_cons, List.getElem?_cons_succ, List.getElem?_cons_zero, List.filterMap_nil] at N9
  refine' fes_none (by decide) (by decide) hv1 hPl.len hr2.1 e1 e3 hld1 (by k_all) h13 h12 ?u1 ?u2 ?u3 N9 ?u5 ?u6 ?u7 ?u8 (fun hall => absurd (hall _ hn) (by omega)) ?_; (case u1 => k_asm); (case u2 => k_asm); (case u3 => k_asm); (case u5 => k_asm); (case u6 => first | exact rfl | assumption); (case u7 => ktr_room); (case u8 => ktr_units)
  intro r8 hr8 _ t5 rd ro h5 tk5 lr F5 hro N5
  obtain rfl : r8 = r9 := hr8.uniq hn
  dsimp only [AllLt] at lr
  (try k_fold)
  k_steps
  all_goals try (exfalso; contradiction)
  all_goals try (exfalso; exact absurd hlast.symm (by assumption))
  refine Hold.mk ?_
  rename News _ _ _ _ => N9
  replace N9 := news_pick N9 [7, 8, 9, 0, 1, 2, 3, 4, 5, 6, 10, 11, 12, 13]
  simp only [List.filterMap_cons, List.getElem?_cons_succ, List.getElem?_cons_zero, List.filterMap_nil] at N9
  refine' fes_any (by decide) (by decide) hv2 hPl.len hr2.1 e1 e3 hld2 (by k_all) h16 h15 ?u1 ?u2 ?u3 N9 ?u5 ?u6 ?u7 ?u8 ?_; (case u1 => k_asm); (case u2 => k_asm); (case u3 => k_asm); (case u5 => k_asm); (case u6 => first | exact rfl | assumption); (case u7 => ktr_room); (case u8 => ktr_units)
  intro v26 t6 h6 tk6 F6 N6
  (try k_fold)
  k_steps
  all_goals try (exfalso; contradiction)
  refine Hold.mk ?_
  rename News _ _ _ _ => N9
  have hlmd : (md == sysModules) = false := beq_eq_false_iff_ne.mpr (fun e => by have e2 : @Eq Nat md 1 := e; omega)
  have hlrd : (rd == sysModules) = false := beq_eq_false_iff_ne.mpr (fun e => by have e2 : @Eq Nat rd 1 := e; omega)
  refine di_ne N9 (.tail _ (.tail _ (.tail _ (.head _)))) (.tail _ (.tail _ (.tail _ (.tail _ (.tail _ (.tail _ (.tail _ (.head _)))))))) hro hmo hlrd hlmd (by ktr_units) ?_
  (try k_fold)
  k_steps
  all_goals try (exfalso; contradiction)
  obtain ⟨kvsb, hdb, hfb⟩ := hbo
  (try k_fold)
  k_steps
  all_goals try (exfalso; contradiction)
  rename Fr _ _ _ _ => eF
  rename News _ _ _ _ => eN
  rename IntsAre (vs1.set _ _) _ => eI1
  rename IntsAre (vs2.set _ _) _ => eI2
  rename Obj.IsDictOf _ _ _ => hd8
  rename PyProof.V.FlatPairs _ _ _ => hf8
  refine at_end (s := { s with gens := g }) (σ := St3) ⟨dictS (tabEs w.params k11 k12 k13 k14 k15 k16 k17 k18 (.int (10 : Nat) t11) v12 (.ref i1) (.ref el1) (.ref rd) (.bool false) (.int (2^10) t17) (.int (2^10-1) t18)) 8 #[none], dictS (tabEs w.params k21 k22 k23 k24 k25 k26 k27 k28 (.int (10 : Nat) t21) v22 (.ref i2) (.ref el2) v26 (.bool false) (.int (2^10) t27) (.int (2^10-1) t28)) 8 #[none], _, _, _, _, _, (.ref md), [(md, mo), (rd, ro)]⟩ (fun h => h) eF eN (.tail _ (.tail _ (.tail _ (.tail _ (.tail _ (.tail _ (.tail _ (.tail _ (.tail _ (.tail _ (.tail _ (.tail _ (.tail _ (.head _)))))))))))))) (fun p hp => ?_) (List.forall_mem_cons.mpr ⟨rfl, List.forall_mem_nil _⟩) (fun z z1 z2 z3 => ?_) ⟨hPl.put q0 q1, (put_new_len c (wk 10 r K) (-2) hKf).trans (congrArg (· + 1) hcl), eI1, eI2, ⟨_, hd8, hf8⟩, .inr ⟨Nat.succ_pos _, k17, k18, t17, t18, k27, k28, t27, t28, v26, rfl, .inr ⟨md, mo, rd, ro, _, by omega, by omega, rfl, rfl, rfl, hmo, hro, (MemOK.nil (lg := 10) (c := c)).put (cm := []) hn.2.1 (by omega) hKt, by simp⟩⟩⟩
  · dsimp only at hp
    simp only [List.mem_cons, List.not_mem_nil, or_false] at hp
    rcases hp with rfl | rfl | rfl | rfl | rfl | rfl | rfl | rfl | rfl | rfl | rfl | rfl
    · exact .tail _ (.tail _ (.tail _ (.tail _ (.head _))))
    · exact .tail _ (.tail _ (.tail _ (.tail _ (.tail _ (.head _)))))
    · exact .tail _ (.tail _ (.tail _ (.tail _ (.tail _ (.tail _ (.head _))))))
    · exact .head _
    · exact .tail _ (.head _)
    · exact .tail _ (.tail _ (.head _))
    · exact .tail _ (.tail _ (.tail _ (.tail _ (.tail _ (.tail _ (.tail _ (.tail _ (.tail _ (.tail _ (.head _))))))))))
    · exact .tail _ (.tail _ (.tail _ (.tail _ (.tail _ (.tail _ (.tail _ (.tail _ (.tail _ (.tail _ (.tail _ (.head _)))))))))))
    · exact .tail _ (.tail _ (.tail _ (.tail _ (.tail _ (.tail _ (.tail _ (.tail _ (.tail _ (.head _)))))))))
    · exact .tail _ (.tail _ (.tail _ (.tail _ (.tail _ (.tail _ (.tail _ (.tail _ (.tail _ (.tail _ (.tail _ (.tail _ (.head _))))))))))))
    · exact .tail _ (.tail _ (.tail _ (.tail _ (.tail _ (.tail _ (.tail _ (.head _)))))))
    · exact .tail _ (.tail _ (.tail _ (.head _)))
  · simp only [List.forall_mem_cons, List.not_mem_nil, false_implies, implies_true, and_true, ne_eq] at z2
    simp only [List.contains_cons, List.contains_nil, Bool.or_false, Bool.or_eq_false_iff, beq_eq_false_iff_ne, ne_eq] at z3
    simp [z1, z2, z3.1, z3.2]

end Mine
end

section
open PySem PySem.W PySem.Calls PyProof.Rows
namespace Mine
local macro_rules | `(tactic| walk_at "getAttr ref") => `(tactic| (k_here; k_dflt (refine' get_lateS ?k1 ?k2 ?k3 ?k4 ?k5 ?k6 ?k7 ?k8 ?k9 ?k10 ?_; (case k1 => k_asm); (case k2 => k_asm); (case k3 => k_inst); (case k4 => k_is); (case k5 => k_is); (case k6 => k_is); (case k7 => k_is); (case k8 => k_is); (case k9 => decide +kernel); (case k10 => k_get))))
local macro_rules | `(tactic| walk_at "getAttr ref") => `(tactic| (k_here; k_dflt (first
  | refine' get_shadowS ?k1 ?k2 ?k3 ?k4 ?k5 ?k6 ?k7 ?k8 ?k9 ?k10 ?_; (case k1 => k_asm); (case k2 => k_asm); (case k3 => k_inst); (case k4 => k_is); (case k5 => k_is); (case k6 => k_is); (case k7 => k_is); (case k8 => k_is); (case k9 => k_get); (case k10 => k_handed); k_whole
  | refine' get_ownS ?k1 ?k2 ?k3 ?k4 ?k5 ?k6 ?k7 ?k8 ?k9 ?_; (case k1 => k_asm); (case k2 => k_asm); (case k3 => k_inst); (case k4 => k_is); (case k5 => k_is); (case k6 => k_is); (case k7 => k_is); (case k8 => k_get); (case k9 => k_handed); k_whole)))
local macro_rules | `(tactic| walk_at "getAttr ref") => `(tactic| (k_here; (with_reducible show wpAny _ _ (getAttr (Value.ref _) (PySem.Str.ofString "__dict__") _) _ _ _); k_dflt (refine' get_dictS ?k1 ?k2 ?k3 ?k4 ?k5 ?k6 ?k7 ?k8 ?k9 ?k10 ?k11 ?k12 ?k13 ?k14 ?_; (case k1 => k_asm); (case k2 => k_asm); (case k3 => k_asm); (case k4 => k_inst); (case k5 => k_is); (case k6 => k_is); (case k7 => k_is); (case k8 => k_is); (case k9 => k_is); (case k10 => k_is); (case k11 => k_is); (case k12 => k_is); (case k13 => k_is); (case k14 => k_upd); k_whole; intro h' F' N'; (try k_sweep))))
local macro_rules | `(tactic| walk_at "getMethod ref") => `(tactic| (k_here; k_dflt (first
  | refine' method_instS ?k1 ?k2 ?k3 ?k4 ?k5 ?k6 ?k7 ?_; (case k1 => k_asm); (case k2 => k_asm); (case k3 => k_inst); (case k4 => k_is); (case k5 => k_is); (case k6 => k_is); (case k7 => k_get); k_whole
  | refine' method_getS ?k1 ?k2 ?_; (case k1 => k_asm); (case k2 => k_mem); k_whole)))
local macro_rules | `(tactic| walk_at "setAttr ref") => `(tactic| (k_here; k_dflt (refine' set_dictS ?k1 ?k2 ?k3 ?k4 ?k5 ?k6 ?k7 ?k8 ?k9 ?k10 ?k11 ?k12 ?k13 ?_; (case k1 => k_asm); (case k2 => k_asm); (case k3 => k_asm); (case k4 => k_inst); (case k5 => exact rfl); (case k6 => k_is); (case k7 => k_is); (case k8 => k_is); (case k9 => k_is); (case k10 => k_get); (case k11 => k_put); (case k12 => k_upd); (case k13 => exact Nat.le_of_ble_eq_true rfl); k_whole; intro h' F' N'; (try k_sweep))))
local macro_rules | `(tactic| walk_at "call builtin:dict.get") => `(tactic| (k_here; k_dflt (refine' call_get_missS ?k1 ?k2 ?k3 ?k4 ?k5 ?_; (case k1 => k_asm); (case k2 => k_mem); (case k3 => assumption); (case k4 => k_keys); (case k5 => k_get); k_whole)))
local macro_rules | `(tactic| walk_at "setItem ref str") => `(tactic| (k_here; k_dflt (refine' setItem_newS ?k1 ?k2 ?k3 ?k4 ?k5 ?k6 ?_; (case k1 => k_asm); (case k2 => k_asm); (case k3 => k_upd); (case k4 => k_keys); (case k5 => k_get); (case k6 => exact Nat.le_of_ble_eq_true rfl); k_whole; intro h' F' N'; (try dsimp only [List.cons_append, List.nil_append] at N'); (try k_sweep))))
local macro_rules | `(tactic| walk_at "exec While") => `(tactic| (k_here; refine Hold.out ?_))
local macro_rules | `(tactic| walk_at "KswEnd") => `(tactic| (refine Hold.out ?_))
local macro_rules | `(tactic| walk_at "binaryOp BitAnd int int") => `(tactic| first | with_reducible refine and_mask ?_ | with_reducible refine and_mask' ?_)
local macro_rules | `(tactic| walk_at "call ref") => `(tactic| (k_here; k_dflt (refine wpAny_call ?_; refine' code_def ?k1 ?k2 ?k3 ?k4 ?k5 ?kA ?kF ?kK ?k6 ?k7 ?k8 ?k9 ?kB ?_ ?c2 ?c3 ?c4 ?c5; (case kA => exact rfl); (case kF => exact rfl); (case kK => first | exact rfl | assumption); (case k1 => k_asm); (case k2 => k_asm); (case k3 => k_asm); (case k4 => k_asm); (case k5 => k_asm); (case k6 => k_is); (case k7 => k_is); (case k8 => ktr_room); (case k9 => first | exact BindsTo.of_eq rfl | exact binds_K (by k_in) rfl (by k_is) rfl rfl rfl); (case c5 => decide); (case kB => exact locs rfl); (case c2 => exact rfl); (case c3 => exact rfl); (case c4 => exact rfl); k_whole; intro g' L' h' FG' F' N' B' X' T'; (try dsimp only); (try k_lift B'); (try k_fold))))
local macro_rules | `(tactic| walk_at "inplaceOp RShift int int") => `(tactic| with_reducible refine shr5 ?_)
local macro_rules | `(tactic| walk_at "binaryOp LShift int int") => `(tactic| (with_reducible refine shl_one ?a ?_; (case a => omega)))
local macro_rules | `(tactic| k_all) => `(tactic| assumption)
local macro_rules | `(tactic| walk_at "compareOp NotEq ref ref") => `(tactic| (k_here; refine Hold.out ?_))
local macro_rules | `(tactic| walk_at "call ref") => `(tactic| (k_here; (with_reducible show wpAny _ _ (call (Value.ref 186) _) _ _ _); refine Hold.out ?_))
local macro_rules | `(tactic| walk_at "call ref") => `(tactic| (k_here; (with_reducible show wpAny _ _ (call (Value.ref 302) _) _ _ _); refine Hold.out ?_))
local macro_rules | `(tactic| walk_at "call ref") => `(tactic| (k_here; (with_reducible show wpAny _ _ (call (Value.ref 316) _) _ _ _); refine Hold.out ?_))
local macro_rules | `(tactic| walk_at "call ref") => `(tactic| (k_here; (with_reducible show wpAny _ _ (call (Value.ref 171) _) _ _ _); refine Hold.out ?_))
set_option maxRecDepth 100000 in
set_option maxHeartbeats 8000000 in
theorem turn_some_not {w : World} {mean : ExcName → Option Value} {mg mb : Str → Option Value} {Γ' : Ctx} {h₀ h : Heap} {L fa cda I : Addr} {m u : Str → Option Value} {s : Shared} {g : Array GenState} {tk : Nat} {Q : Flow → Shared → Prop} {x1 d1 i1 el1 x2 d2 i2 el2 fl rl bk : Addr} {k11 k12 k13 k14 k15 k16 t11 k21 k22 k23 k24 k25 k26 t21 tz : Tok} {v12 v22 : Value} {vs1 vs2 rs : List Value} {run : List Int} {ep1 ep2 ep3 epE : Nat} {fo bo : Obj} {oi : Obj} {ns : List Int} {c : List (Int × Int)} {i : Nat} {r : Int} {tr : Tok} {k17 k18 t17 t18 k27 k28 t27 t28 : Tok} {v25 : Value} {K n : Nat}
   (hi60 : i < 60) (hr2 : 0 ≤ r ∧ r < 9223372036854775808) (hK40 : K ≤ 1040) (hKf : kdfHas c (wk 10 r K) = false) (hKt : ∀ j < K, kdfHas c (wk 10 r j) = true) (hn : IsFront r n) (hK9 : K < n)
   (hPl : Places 10 ns c) (hcl : c.length = i) (hv1 : IntsAre vs1 ns) (hv2 : IntsAre vs2 ns) (hbo : DII PySem.Challenge.rw_fc5025_03.row.prog w bo c) (hrI : IntsAre rs run)
   (h12 : @LT.lt Nat _ i1 d1) (h13 : @LT.lt Nat _ d1 x1) (h14 : @LT.lt Nat _ x1 i2) (h15 : @LT.lt Nat _ i2 d2) (h16 : @LT.lt Nat _ d2 x2) (h17 : @LT.lt Nat _ x2 fl) (h18 : @LT.lt Nat _ fl rl) (h19 : @LT.lt Nat _ rl bk) (hlow : @LT.lt Nat _ 1 i1) (hel : @LT.lt Nat _ el1 i1) (hId1 : @Ne Nat I d1) (hIi1 : @Ne Nat I i1) (hId2 : @Ne Nat I d2) (hIi2 : @Ne Nat I i2) (hIbk : @Ne Nat I bk) {md rd : Addr} {mo ro : Obj} {cm : List (Int × Int)} (hbm : @LT.lt Nat _ bk md) (hmr : @LT.lt Nat _ md rd) (hmo : DII PySem.Challenge.rw_fc5025_03.row.prog w mo cm) (hro : DII PySem.Challenge.rw_fc5025_03.row.prog w ro cm) (hMem : MemOK 10 c cm) (hcml : cm.length ≤ i) (hImd : @Ne Nat I md) (hIrd : @Ne Nat I rd)
   (hΓ' : InOK Γ' (callerA.deeper (envOf (Str.ofString "law") lawS.1.2.2 L fa (.ref cda)))) (B : Below callerA h₀ [] h₀) (X : (Mine.hd.heap_39 w.params).In h₀)
   (N : News h₀ L h ((x1, instObj 287 d1) :: (d1, dictS (tabEs w.params k11 k12 k13 k14 k15 k16 k17 k18 (.int (10 : Nat) t11) v12 (.ref i1) (.ref el1) (.ref rd) (.bool false) (.int (2^10) t17) (.int (2^10-1) t18)) 8 #[none]) :: (i1, listOf vs1.toArray ep1) :: (x2, instObj 287 d2) :: (d2, dictS (tabEs w.params k21 k22 k23 k24 k25 k26 k27 k28 (.int (10 : Nat) t21) v22 (.ref i2) (.ref el2) v25 (.bool false) (.int (2^10) t27) (.int (2^10-1) t28)) 8 #[none]) :: (i2, listOf vs2.toArray ep2) :: (fl, fo) :: (rl, listOf rs.toArray ep3) :: (bk, bo) :: (el1, listOf #[] epE) :: (md, mo) :: (rd, ro) :: (I, oi) :: [])) (T : Top Mine.hd.view_39 (looseW Mine.hd.view_39 [Str.ofString "_Entry", Str.ofString "_NOT_FOUND", Str.ofString "cached_property", Str.ofString "_HtKeys"]) mean mg mb h₀)
   (F : Fr h₀ L h (fun y => if y = Str.ofString "number" then some (.int r tr) else kstB (fun z => if [Str.ofString "walk", Str.ofString "told"].contains z then u z else (fun y => if y = Str.ofString "places_two" then some (.ref i2) else if y = Str.ofString "places_one" then some (.ref i1) else if y = Str.ofString "memory" then some (.none) else if y = Str.ofString "book" then some (.ref bk) else if y = Str.ofString "family" then some (.ref fl) else if y = Str.ofString "run" then some (.ref rl) else if y = Str.ofString "size" then some (.int (2 ^ 10) tz) else if y = Str.ofString "two" then some (.ref x2) else if y = Str.ofString "one" then some (.ref x1) else m y) z) [(Str.ofString "memory", (.ref md))] y)) :
   wpAt (model PySem.Challenge.rw_fc5025_03.row.prog w) Γ' (execs (forBody ((lawS.1.2.1).drop 13)) (envOf (Str.ofString "law") lawS.1.2.2 L fa (.ref cda))) (AtPost h₀ L { s with gens := g } (fun (c : St3) => (x1, instObj 287 d1) :: (d1, c.o1) :: (i1, listOf c.vs1.toArray ep1) :: (x2, instObj 287 d2) :: (d2, c.o2) :: (i2, listOf c.vs2.toArray ep2) :: (fl, fo) :: (rl, listOf rs.toArray ep3) :: (bk, c.bo) :: (el1, listOf #[] epE) :: c.memL) (fun (c : St3) => [(Str.ofString "memory", c.mv)]) (Str.ofString "number") [Str.ofString "walk", Str.ofString "told"] (fun y => if y = Str.ofString "places_two" then some (.ref i2) else if y = Str.ofString "places_one" then some (.ref i1) else if y = Str.ofString "memory" then some (.none) else if y = Str.ofString "book" then some (.ref bk) else if y = Str.ofString "family" then some (.ref fl) else if y = Str.ofString "run" then some (.ref rl) else if y = Str.ofString "size" then some (.int (2 ^ 10) tz) else if y = Str.ofString "two" then some (.ref x2) else if y = Str.ofString "one" then some (.ref x1) else m y) ((fun (i : Nat) (c : St3) => Places 10 c.ns c.c ∧ c.c.length = i ∧ IntsAre c.vs1 c.ns ∧ IntsAre c.vs2 c.ns ∧ DII PySem.Challenge.rw_fc5025_03.row.prog w c.bo c.c ∧
      ((i = 0 ∧ c.o1 = dictOf (coldEs w.params k11 k12 k13 k14 k15 k16 (.int (10 : Nat) t11) v12 (.ref i1) (.ref el1) .none (.bool false)) 6 ∧ c.o2 = dictOf (coldEs w.params k21 k22 k23 k24 k25 k26 (.int (10 : Nat) t21) v22 (.ref i2) (.ref el2) .none (.bool false)) 6 ∧ c.mv = .none ∧ c.memL = []) ∨
       (0 < i ∧ ∃ k17 k18 t17 t18 k27 k28 t27 t28 v25, c.o2 = dictS (tabEs w.params k21 k22 k23 k24 k25 k26 k27 k28 (.int (10 : Nat) t21) v22 (.ref i2) (.ref el2) v25 (.bool false) (.int (2^10) t27) (.int (2^10-1) t28)) 8 #[none] ∧ ((c.mv = .none ∧ c.memL = [] ∧ c.o1 = dictS (tabEs w.params k11 k12 k13 k14 k15 k16 k17 k18 (.int (10 : Nat) t11) v12 (.ref i1) (.ref el1) .none (.bool false) (.int (2^10) t17) (.int (2^10-1) t18)) 8 #[none]) ∨
         (∃ md mo rd ro cm, @LT.lt Nat _ bk md ∧ @LT.lt Nat _ md rd ∧ c.mv = .ref md ∧ c.memL = [(md, mo), (rd, ro)] ∧ c.o1 = dictS (tabEs w.params k11 k12 k13 k14 k15 k16 k17 k18 (.int (10 : Nat) t11) v12 (.ref i1) (.ref el1) (.ref rd) (.bool false) (.int (2^10) t17) (.int (2^10-1) t18)) 8 #[none] ∧ DII PySem.Challenge.rw_fc5025_03.row.prog w mo cm ∧ DII PySem.Challenge.rw_fc5025_03.row.prog w ro cm ∧ MemOK 10 c.c cm ∧ cm.length ≤ i))))) (i + 1)) (I, oi) Q) { s with heap := h, gens := g, toks := tk } := by
  have e1 := hPl.free (wk_range K).1 (wk_range (h := r) K).2 hKf
  have e3 : ∀ j < K, ns.getD (wk 10 r j).toNat 0 ≠ -1 := fun j hj => hPl.taken (wk_range j).1 (wk_range (h := r) j).2 (hKt j hj)
  have hcb : c.length ≤ 1000 := by omega
  have q0 := (wk_range (n := 10) (h := r) K).1
  have q1 := (wk_range (n := 10) (h := r) K).2
  have q2 : wk 10 r K < (ns.length : Int) := by rw [len_cast hPl.len]; exact q1
  have q3 : wk 10 r K < 2 ^ 63 := by have := pow_le_1024 (n := 10) (by omega); omega
  have hlbk : (bk == sysModules) = false := beq_eq_false_iff_ne.mpr (fun e => by have e2 : @Eq Nat bk 1 := e; omega)
  have hld1 : (d1 == sysModules) = false := beq_eq_false_iff_ne.mpr (fun e => by have e2 : @Eq Nat d1 1 := e; omega)
  have hld2 : (d2 == sysModules) = false := beq_eq_false_iff_ne.mpr (fun e => by have e2 : @Eq Nat d2 1 := e; omega)
  have hlmd : (md == sysModules) = false := beq_eq_false_iff_ne.mpr (fun e => by have e2 : @Eq Nat md 1 := e; omega)
  have hlrd : (rd == sysModules) = false := beq_eq_false_iff_ne.mpr (fun e => by have e2 : @Eq Nat rd 1 := e; omega)
  w_top off; revert B X N T F; k_fill; intro B X N T F
  dsimp only [lawS, List.drop, forBody] at hΓ' ⊢
  dsimp only [kstB] at F
  refine at_any hΓ' ?_
  (try k_fold)
  k_steps
  all_goals try (exfalso; contradiction)
  refine Hold.mk ?_
  rename News _ _ _ _ => N9
  replace N9 := news_pick N9 [8, 0, 1, 2, 3, 4, 5, 6, 7, 9, 10, 11, 12]
  simp only [List.filterMap_cons, List.getElem?_cons_succ, List.getElem?_cons_zero, List.filterMap_nil] at N9
  refine' law_walk hr2.1 (by omega) hbo hlbk hKf hKt ?u1 ?u2 ?u3 N9 ?u5 ?u6 ?u7 ?u8 ?_; (case u1 => k_asm); (case u2 => k_asm); (case u3 => k_asm); (case u5 => k_asm); (case u6 => first | exact rfl | assumption); (case u7 => ktr_room); (case u8 => ktr_units)
  intro wl vsw nw h3 tk3 lw hIw F3 N3
  dsimp only [AllLt] at lw
  (try k_fold)
  k_steps
  all_goals try (exfalso; contradiction)
  refine Hold.mk ?_
  rename News _ _ _ _ => N9
  replace N9 := news_pick N9 [0, 11, 1, 2, 3, 4, 5, 6, 7, 8, 9, 10, 12, 13]
  simp only [List.filterMap_cons, List.getElem?_cons_succ, List.getElem?_cons_zero, List.filterMap_nil] at N9
  refine' law_note_some hr2.1 (by omega) hIw hmo (by omega) hlmd (by omega) (by k_all) ?u1 ?u2 ?u3 N9 ?u5 ?u6 ?u7 ?u8 ?_ (fun r' hr' hle => absurd (hr'.uniq hn) (by omega)); (case u1 => k_asm); (case u2 => k_asm); (case u3 => k_asm); (case u5 => k_asm); (case u6 => first | exact rfl | assumption); (case u7 => ktr_room); (case u8 => ktr_units)
  intro _ h4 tk4 F4 N4
  have hl9 : ((List.range (K + 1)).map (wk 10 r)).length = K + 1 := by simp
  have hl8 : ((List.range (K + 1)).map (wk 10 r)).getD K 0 = wk 10 r K := by simp
  generalize hxs : (List.range (K + 1)).map (wk 10 r) = xs at *
  have hlast : xs.getD (-1 + (xs.length : Int)).toNat 0 = wk 10 r K := by rw [hl9, show (-1 + ((K + 1 : Nat) : Int)).toNat = K by omega]; exact hl8
  skip
  (try k_fold)
  k_steps
  all_goals try (exfalso; contradiction)
  refine Hold.mk ?_
  rename News _ _ _ _ => N9
  replace N9 := news_pick N9 [3, 4, 5, 12, 0, 1, 2, 6, 7, 8, 9, 10, 11, 13]
  simp only [List.filterMap_cons, List.getElem?_cons_succ, List.getElem?_cons_zero, List.filterMap_nil] at N9
  refine' fes_some (by decide) (by decide) hv1 hPl.len hr2.1 e1 e3 hro (by omega) (fun r' hr' hle h9 => absurd (hr'.uniq hn) (by omega)) hld1 (by k_all) h13 h12 hlrd (by omega) (by omega) (by omega) (by k_all) ?u1 ?u2 ?u3 N9 ?u5 ?u6 ?u7 ?u8 ?_ (fun r' hr' hle => absurd (hr'.uniq hn) (by omega)); (case u1 => k_asm); (case u2 => k_asm); (case u3 => k_asm); (case u5 => k_asm); (case u6 => first | exact rfl | assumption); (case u7 => ktr_room); (case u8 => ktr_units)
  intro _ t5 h5 tk5 F5 N5
  (try k_fold)
  k_steps
  all_goals try (exfalso; contradiction)
  all_goals try (exfalso; exact absurd hlast.symm (by assumption))
  refine Hold.mk ?_
  rename News _ _ _ _ => N9
  replace N9 := news_pick N9 [7, 8, 9, 0, 1, 2, 3, 4, 5, 6, 10, 11, 12, 13]
  simp only [List.filterMap_cons, List.getElem?_cons_succ, List.getElem?_cons_zero, List.filterMap_nil] at N9
  refine' fes_any (by decide) (by decide) hv2 hPl.len hr2.1 e1 e3 hld2 (by k_all) h16 h15 ?u1 ?u2 ?u3 N9 ?u5 ?u6 ?u7 ?u8 ?_; (case u1 => k_asm); (case u2 => k_asm); (case u3 => k_asm); (case u5 => k_asm); (case u6 => first | exact rfl | assumption); (case u7 => ktr_room); (case u8 => ktr_units)
  intro v26 t6 h6 tk6 F6 N6
  (try k_fold)
  k_steps
  all_goals try (exfalso; contradiction)
  refine Hold.mk ?_
  rename News _ _ _ _ => N9
  skip
  skip
  refine di_ne N9 (.tail _ (.tail _ (.tail _ (.tail _ (.tail _ (.tail _ (.head _))))))) (.tail _ (.tail _ (.tail _ (.tail _ (.tail _ (.tail _ (.tail _ (.tail _ (.head _))))))))) hro hmo hlrd hlmd (by ktr_units) ?_
  (try k_fold)
  k_steps
  all_goals try (exfalso; contradiction)
  obtain ⟨kvsb, hdb, hfb⟩ := hbo
  (try k_fold)
  k_steps
  all_goals try (exfalso; contradiction)
  rename Fr _ _ _ _ => eF
  rename News _ _ _ _ => eN
  rename IntsAre (vs1.set _ _) _ => eI1
  rename IntsAre (vs2.set _ _) _ => eI2
  rename Obj.IsDictOf _ _ _ => hd8
  rename PyProof.V.FlatPairs _ _ _ => hf8
  refine at_end (s := { s with gens := g }) (σ := St3) ⟨dictS (tabEs w.params k11 k12 k13 k14 k15 k16 k17 k18 (.int (10 : Nat) t11) v12 (.ref i1) (.ref el1) (.ref rd) (.bool false) (.int (2^10) t17) (.int (2^10-1) t18)) 8 #[none], dictS (tabEs w.params k21 k22 k23 k24 k25 k26 k27 k28 (.int (10 : Nat) t21) v22 (.ref i2) (.ref el2) v26 (.bool false) (.int (2^10) t27) (.int (2^10-1) t28)) 8 #[none], _, _, _, _, _, (.ref md), [(md, mo), (rd, ro)]⟩ (fun h => h) eF eN (.tail _ (.tail _ (.tail _ (.tail _ (.tail _ (.tail _ (.tail _ (.tail _ (.tail _ (.tail _ (.tail _ (.tail _ (.tail _ (.head _)))))))))))))) (fun p hp => ?_) (List.forall_mem_cons.mpr ⟨rfl, List.forall_mem_nil _⟩) (fun z z1 z2 z3 => ?_) ⟨hPl.put q0 q1, (put_new_len c (wk 10 r K) (-2) hKf).trans (congrArg (· + 1) hcl), eI1, eI2, ⟨_, hd8, hf8⟩, .inr ⟨Nat.succ_pos _, k17, k18, t17, t18, k27, k28, t27, t28, v26, rfl, .inr ⟨md, mo, rd, ro, cm, hbm, hmr, rfl, rfl, rfl, hmo, hro, hMem.grow, by omega⟩⟩⟩
  · dsimp only at hp
    simp only [List.mem_cons, List.not_mem_nil, or_false] at hp
    rcases hp with rfl | rfl | rfl | rfl | rfl | rfl | rfl | rfl | rfl | rfl | rfl | rfl
    · exact .tail _ (.tail _ (.tail _ (.head _)))
    · exact .tail _ (.tail _ (.tail _ (.tail _ (.head _))))
    · exact .tail _ (.tail _ (.tail _ (.tail _ (.tail _ (.head _)))))
    · exact .head _
    · exact .tail _ (.head _)
    · exact .tail _ (.tail _ (.head _))
    · exact .tail _ (.tail _ (.tail _ (.tail _ (.tail _ (.tail _ (.tail _ (.tail _ (.tail _ (.tail _ (.head _))))))))))
    · exact .tail _ (.tail _ (.tail _ (.tail _ (.tail _ (.tail _ (.tail _ (.tail _ (.tail _ (.tail _ (.tail _ (.head _)))))))))))
    · exact .tail _ (.tail _ (.tail _ (.tail _ (.tail _ (.tail _ (.tail _ (.tail _ (.tail _ (.head _)))))))))
    · exact .tail _ (.tail _ (.tail _ (.tail _ (.tail _ (.tail _ (.tail _ (.tail _ (.tail _ (.tail _ (.tail _ (.tail _ (.head _))))))))))))
    · exact .tail _ (.tail _ (.tail _ (.tail _ (.tail _ (.tail _ (.tail _ (.tail _ (.head _))))))))
    · exact .tail _ (.tail _ (.tail _ (.tail _ (.tail _ (.tail _ (.head _))))))
  · simp only [List.forall_mem_cons, List.not_mem_nil, false_implies, implies_true, and_true, ne_eq] at z2
    simp only [List.contains_cons, List.contains_nil, Bool.or_false, Bool.or_eq_false_iff, beq_eq_false_iff_ne, ne_eq] at z3
    simp [z1, z2, z3.1, z3.2]

end Mine
end

section
open PySem PySem.W PySem.Calls PyProof.Rows
namespace Mine
local macro_rules | `(tactic| walk_at "MinePad") => `(tactic| skip)
local macro_rules | `(tactic| walk_at "getAttr ref") => `(tactic| (k_here; k_dflt (refine' get_lateS ?k1 ?k2 ?k3 ?k4 ?k5 ?k6 ?k7 ?k8 ?k9 ?k10 ?_; (case k1 => k_asm); (case k2 => k_asm); (case k3 => k_inst); (case k4 => k_is); (case k5 => k_is); (case k6 => k_is); (case k7 => k_is); (case k8 => k_is); (case k9 => decide +kernel); (case k10 => k_get))))
local macro_rules | `(tactic| walk_at "getAttr ref") => `(tactic| (k_here; k_dflt (first
  | refine' get_shadowS ?k1 ?k2 ?k3 ?k4 ?k5 ?k6 ?k7 ?k8 ?k9 ?k10 ?_; (case k1 => k_asm); (case k2 => k_asm); (case k3 => k_inst); (case k4 => k_is); (case k5 => k_is); (case k6 => k_is); (case k7 => k_is); (case k8 => k_is); (case k9 => k_get); (case k10 => k_handed); k_whole
  | refine' get_ownS ?k1 ?k2 ?k3 ?k4 ?k5 ?k6 ?k7 ?k8 ?k9 ?_; (case k1 => k_asm); (case k2 => k_asm); (case k3 => k_inst); (case k4 => k_is); (case k5 => k_is); (case k6 => k_is); (case k7 => k_is); (case k8 => k_get); (case k9 => k_handed); k_whole)))
local macro_rules | `(tactic| walk_at "getAttr ref") => `(tactic| (k_here; (with_reducible show wpAny _ _ (getAttr (Value.ref _) (PySem.Str.ofString "__dict__") _) _ _ _); k_dflt (refine' get_dictS ?k1 ?k2 ?k3 ?k4 ?k5 ?k6 ?k7 ?k8 ?k9 ?k10 ?k11 ?k12 ?k13 ?k14 ?_; (case k1 => k_asm); (case k2 => k_asm); (case k3 => k_asm); (case k4 => k_inst); (case k5 => k_is); (case k6 => k_is); (case k7 => k_is); (case k8 => k_is); (case k9 => k_is); (case k10 => k_is); (case k11 => k_is); (case k12 => k_is); (case k13 => k_is); (case k14 => k_upd); k_whole; intro h' F' N'; (try k_sweep))))
local macro_rules | `(tactic| walk_at "getMethod ref") => `(tactic| (k_here; k_dflt (first
  | refine' method_instS ?k1 ?k2 ?k3 ?k4 ?k5 ?k6 ?k7 ?_; (case k1 => k_asm); (case k2 => k_asm); (case k3 => k_inst); (case k4 => k_is); (case k5 => k_is); (case k6 => k_is); (case k7 => k_get); k_whole
  | refine' method_getS ?k1 ?k2 ?_; (case k1 => k_asm); (case k2 => k_mem); k_whole)))
local macro_rules | `(tactic| walk_at "setAttr ref") => `(tactic| (k_here; k_dflt (refine' set_dictS ?k1 ?k2 ?k3 ?k4 ?k5 ?k6 ?k7 ?k8 ?k9 ?k10 ?k11 ?k12 ?k13 ?_; (case k1 => k_asm); (case k2 => k_asm); (case k3 => k_asm); (case k4 => k_inst); (case k5 => exact rfl); (case k6 => k_is); (case k7 => k_is); (case k8 => k_is); (case k9 => k_is); (case k10 => k_get); (case k11 => k_put); (case k12 => k_upd); (case k13 => exact Nat.le_of_ble_eq_true rfl); k_whole; intro h' F' N'; (try k_sweep))))
local macro_rules | `(tactic| walk_at "call builtin:dict.get") => `(tactic| (k_here; k_dflt (refine' call_get_missS ?k1 ?k2 ?k3 ?k4 ?k5 ?_; (case k1 => k_asm); (case k2 => k_mem); (case k3 => assumption); (case k4 => k_keys); (case k5 => k_get); k_whole)))
local macro_rules | `(tactic| walk_at "setItem ref str") => `(tactic| (k_here; k_dflt (refine' setItem_newS ?k1 ?k2 ?k3 ?k4 ?k5 ?k6 ?_; (case k1 => k_asm); (case k2 => k_asm); (case k3 => k_upd); (case k4 => k_keys); (case k5 => k_get); (case k6 => exact Nat.le_of_ble_eq_true rfl); k_whole; intro h' F' N'; (try dsimp only [List.cons_append, List.nil_append] at N'); (try k_sweep))))
local macro_rules | `(tactic| walk_at "exec While") => `(tactic| (k_here; refine Hold.out ?_))
local macro_rules | `(tactic| walk_at "KswEnd") => `(tactic| (refine Hold.out ?_))
local macro_rules | `(tactic| walk_at "binaryOp BitAnd int int") => `(tactic| first | with_reducible refine and_mask ?_ | with_reducible refine and_mask' ?_)
local macro_rules | `(tactic| walk_at "call ref") => `(tactic| (k_here; k_dflt (refine wpAny_call ?_; refine' code_def ?k1 ?k2 ?k3 ?k4 ?k5 ?kA ?kF ?kK ?k6 ?k7 ?k8 ?k9 ?kB ?_ ?c2 ?c3 ?c4 ?c5; (case kA => exact rfl); (case kF => exact rfl); (case kK => first | exact rfl | assumption); (case k1 => k_asm); (case k2 => k_asm); (case k3 => k_asm); (case k4 => k_asm); (case k5 => k_asm); (case k6 => k_is); (case k7 => k_is); (case k8 => ktr_room); (case k9 => first | exact BindsTo.of_eq rfl | exact binds_K (by k_in) rfl (by k_is) rfl rfl rfl); (case c5 => decide); (case kB => exact locs rfl); (case c2 => exact rfl); (case c3 => exact rfl); (case c4 => exact rfl); k_whole; intro g' L' h' FG' F' N' B' X' T'; (try dsimp only); (try k_lift B'); (try k_fold))))
local macro_rules | `(tactic| walk_at "inplaceOp RShift int int") => `(tactic| with_reducible refine shr5 ?_)
local macro_rules | `(tactic| walk_at "binaryOp LShift int int") => `(tactic| (with_reducible refine shl_one ?a ?_; (case a => omega)))
local macro_rules | `(tactic| k_all) => `(tactic| assumption)
local macro_rules | `(tactic| walk_at "compareOp NotEq ref ref") => `(tactic| (k_here; refine Hold.out ?_))
local macro_rules | `(tactic| walk_at "call ref") => `(tactic| (k_here; (with_reducible show wpAny _ _ (call (Value.ref 186) _) _ _ _); refine Hold.out ?_))
local macro_rules | `(tactic| walk_at "call ref") => `(tactic| (k_here; (with_reducible show wpAny _ _ (call (Value.ref 302) _) _ _ _); refine Hold.out ?_))
local macro_rules | `(tactic| walk_at "call ref") => `(tactic| (k_here; (with_reducible show wpAny _ _ (call (Value.ref 316) _) _ _ _); refine Hold.out ?_))
local macro_rules | `(tactic| walk_at "call ref") => `(tactic| (k_here; (with_reducible show wpAny _ _ (call (Value.ref 171) _) _ _ _); refine Hold.out ?_))
set_option maxRecDepth 100000 in
set_option maxHeartbeats 8000000 in
theorem turn_some_put {w : World} {mean : ExcName → Option Value} {mg mb : Str → Option Value} {Γ' : Ctx} {h₀ h : Heap} {L fa cda I : Addr} {m u : Str → Option Value} {s : Shared} {g : Array GenState} {tk : Nat} {Q : Flow → Shared → Prop} {x1 d1 i1 el1 x2 d2 i2 el2 fl rl bk : Addr} {k11 k12 k13 k14 k15 k16 t11 k21 k22 k23 k24 k25 k26 t21 tz : Tok} {v12 v22 : Value} {vs1 vs2 rs : List Value} {run : List Int} {ep1 ep2 ep3 epE : Nat} {fo bo : Obj} {oi : Obj} {ns : List Int} {c : List (Int × Int)} {i : Nat} {r : Int} {tr : Tok} {k17 k18 t17 t18 k27 k28 t27 t28 : Tok} {v25 : Value} {K n : Nat}
   (hi60 : i < 60) (hr2 : 0 ≤ r ∧ r < 9223372036854775808) (hK40 : K ≤ 1040) (hKf : kdfHas c (wk 10 r K) = false) (hKt : ∀ j < K, kdfHas c (wk 10 r j) = true) (hn : IsFront r n) (hK9 : n ≤ K)
   (hPl : Places 10 ns c) (hcl : c.length = i) (hv1 : IntsAre vs1 ns) (hv2 : IntsAre vs2 ns) (hbo : DII PySem.Challenge.rw_fc5025_03.row.prog w bo c) (hrI : IntsAre rs run)
   (h12 : @LT.lt Nat _ i1 d1) (h13 : @LT.lt Nat _ d1 x1) (h14 : @LT.lt Nat _ x1 i2) (h15 : @LT.lt Nat _ i2 d2) (h16 : @LT.lt Nat _ d2 x2) (h17 : @LT.lt Nat _ x2 fl) (h18 : @LT.lt Nat _ fl rl) (h19 : @LT.lt Nat _ rl bk) (hlow : @LT.lt Nat _ 1 i1) (hel : @LT.lt Nat _ el1 i1) (hId1 : @Ne Nat I d1) (hIi1 : @Ne Nat I i1) (hId2 : @Ne Nat I d2) (hIi2 : @Ne Nat I i2) (hIbk : @Ne Nat I bk) {md rd : Addr} {mo ro : Obj} {cm : List (Int × Int)} (hbm : @LT.lt Nat _ bk md) (hmr : @LT.lt Nat _ md rd) (hmo : DII PySem.Challenge.rw_fc5025_03.row.prog w mo cm) (hro : DII PySem.Challenge.rw_fc5025_03.row.prog w ro cm) (hMem : MemOK 10 c cm) (hcml : cm.length ≤ i) (hImd : @Ne Nat I md) (hIrd : @Ne Nat I rd)
   (hΓ' : InOK Γ' (callerA.deeper (envOf (Str.ofString "law") lawS.1.2.2 L fa (.ref cda)))) (B : Below callerA h₀ [] h₀) (X : (Mine.hd.heap_39 w.params).In h₀)
   (N : News h₀ L h ((x1, instObj 287 d1) :: (d1, dictS (tabEs w.params k11 k12 k13 k14 k15 k16 k17 k18 (.int (10 : Nat) t11) v12 (.ref i1) (.ref el1) (.ref rd) (.bool false) (.int (2^10) t17) (.int (2^10-1) t18)) 8 #[none]) :: (i1, listOf vs1.toArray ep1) :: (x2, instObj 287 d2) :: (d2, dictS (tabEs w.params k21 k22 k23 k24 k25 k26 k27 k28 (.int (10 : Nat) t21) v22 (.ref i2) (.ref el2) v25 (.bool false) (.int (2^10) t27) (.int (2^10-1) t28)) 8 #[none]) :: (i2, listOf vs2.toArray ep2) :: (fl, fo) :: (rl, listOf rs.toArray ep3) :: (bk, bo) :: (el1, listOf #[] epE) :: (md, mo) :: (rd, ro) :: (I, oi) :: [])) (T : Top Mine.hd.view_39 (looseW Mine.hd.view_39 [Str.ofString "_Entry", Str.ofString "_NOT_FOUND", Str.ofString "cached_property", Str.ofString "_HtKeys"]) mean mg mb h₀)
   (F : Fr h₀ L h (fun y => if y = Str.ofString "number" then some (.int r tr) else kstB (fun z => if [Str.ofString "walk", Str.ofString "told"].contains z then u z else (fun y => if y = Str.ofString "places_two" then some (.ref i2) else if y = Str.ofString "places_one" then some (.ref i1) else if y = Str.ofString "memory" then some (.none) else if y = Str.ofString "book" then some (.ref bk) else if y = Str.ofString "family" then some (.ref fl) else if y = Str.ofString "run" then some (.ref rl) else if y = Str.ofString "size" then some (.int (2 ^ 10) tz) else if y = Str.ofString "two" then some (.ref x2) else if y = Str.ofString "one" then some (.ref x1) else m y) z) [(Str.ofString "memory", (.ref md))] y)) :
   wpAt (model PySem.Challenge.rw_fc5025_03.row.prog w) Γ' (execs (forBody ((lawS.1.2.1).drop 13)) (envOf (Str.ofString "law") lawS.1.2.2 L fa (.ref cda))) (AtPost h₀ L { s with gens := g } (fun (c : St3) => (x1, instObj 287 d1) :: (d1, c.o1) :: (i1, listOf c.vs1.toArray ep1) :: (x2, instObj 287 d2) :: (d2, c.o2) :: (i2, listOf c.vs2.toArray ep2) :: (fl, fo) :: (rl, listOf rs.toArray ep3) :: (bk, c.bo) :: (el1, listOf #[] epE) :: c.memL) (fun (c : St3) => [(Str.ofString "memory", c.mv)]) (Str.ofString "number") [Str.ofString "walk", Str.ofString "told"] (fun y => if y = Str.ofString "places_two" then some (.ref i2) else if y = Str.ofString "places_one" then some (.ref i1) else if y = Str.ofString "memory" then some (.none) else if y = Str.ofString "book" then some (.ref bk) else if y = Str.ofString "family" then some (.ref fl) else if y = Str.ofString "run" then some (.ref rl) else if y = Str.ofString "size" then some (.int (2 ^ 10) tz) else if y = Str.ofString "two" then some (.ref x2) else if y = Str.ofString "one" then some (.ref x1) else m y) ((fun (i : Nat) (c : St3) => Places 10 c.ns c.c ∧ c.c.length = i ∧ IntsAre c.vs1 c.ns ∧ IntsAre c.vs2 c.ns ∧ DII PySem.Challenge.rw_fc5025_03.row.prog w c.bo c.c ∧
      ((i = 0 ∧ c.o1 = dictOf (coldEs w.params k11 k12 k13 k14 k15 k16 (.int (10 : Nat) t11) v12 (.ref i1) (.ref el1) .none (.bool false)) 6 ∧ c.o2 = dictOf (coldEs w.params k21 k22 k23 k24 k25 k26 (.int (10 : Nat) t21) v22 (.ref i2) (.ref el2) .none (.bool false)) 6 ∧ c.mv = .none ∧ c.memL = []) ∨
       (0 < i ∧ ∃ k17 k18 t17 t18 k27 k28 t27 t28 v25, c.o2 = dictS (tabEs w.params k21 k22 k23 k24 k25 k26 k27 k28 (.int (10 : Nat) t21) v22 (.ref i2) (.ref el2) v25 (.bool false) (.int (2^10) t27) (.int (2^10-1) t28)) 8 #[none] ∧ ((c.mv = .none ∧ c.memL = [] ∧ c.o1 = dictS (tabEs w.params k11 k12 k13 k14 k15 k16 k17 k18 (.int (10 : Nat) t11) v12 (.ref i1) (.ref el1) .none (.bool false) (.int (2^10) t17) (.int (2^10-1) t18)) 8 #[none]) ∨
         (∃ md mo rd ro cm, @LT.lt Nat _ bk md ∧ @LT.lt Nat _ md rd ∧ c.mv = .ref md ∧ c.memL = [(md, mo), (rd, ro)] ∧ c.o1 = dictS (tabEs w.params k11 k12 k13 k14 k15 k16 k17 k18 (.int (10 : Nat) t11) v12 (.ref i1) (.ref el1) (.ref rd) (.bool false) (.int (2^10) t17) (.int (2^10-1) t18)) 8 #[none] ∧ DII PySem.Challenge.rw_fc5025_03.row.prog w mo cm ∧ DII PySem.Challenge.rw_fc5025_03.row.prog w ro cm ∧ MemOK 10 c.c cm ∧ cm.length ≤ i))))) (i + 1)) (I, oi) Q) { s with heap := h, gens := g, toks := tk } := by
  have e1 := hPl.free (wk_range K).1 (wk_range (h := r) K).2 hKf
  have e3 : ∀ j < K, ns.getD (wk 10 r j).toNat 0 ≠ -1 := fun j hj => hPl.taken (wk_range j).1 (wk_range (h := r) j).2 (hKt j hj)
  have hcb : c.length ≤ 1000 := by omega
  have q0 := (wk_range (n := 10) (h := r) K).1
  have q1 := (wk_range (n := 10) (h := r) K).2
  have q2 : wk 10 r K < (ns.length : Int) := by rw [len_cast hPl.len]; exact q1
  have q3 : wk 10 r K < 2 ^ 63 := by have := pow_le_1024 (n := 10) (by omega); omega
  have hlbk : (bk == sysModules) = false := beq_eq_false_iff_ne.mpr (fun e => by have e2 : @Eq Nat bk 1 := e; omega)
  have hld1 : (d1 == sysModules) = false := beq_eq_false_iff_ne.mpr (fun e => by have e2 : @Eq Nat d1 1 := e; omega)
  have hld2 : (d2 == sysModules) = false := beq_eq_false_iff_ne.mpr (fun e => by have e2 : @Eq Nat d2 1 := e; omega)
  have hlmd : (md == sysModules) = false := beq_eq_false_iff_ne.mpr (fun e => by have e2 : @Eq Nat md 1 := e; omega)
  have hlrd : (rd == sysModules) = false := beq_eq_false_iff_ne.mpr (fun e => by have e2 : @Eq Nat rd 1 := e; omega)
  w_top off; revert B X N T F; k_fill; intro B X N T F
  dsimp only [lawS, List.drop, forBody] at hΓ' ⊢
  dsimp only [kstB] at F
  refine at_any hΓ' ?_
  (try k_fold)
  k_steps
  all_goals try (exfalso; contradiction)
  refine Hold.mk ?_
  rename News _ _ _ _ => N9
  replace N9 := news_pick N9 [8, 0, 1, 2, 3, 4, 5, 6, 7, 9, 10, 11, 12]
  simp only [List.filterMap_cons, List.getElem?_cons_succ, List.getElem?_cons_zero, List.filterMap_nil] at N9
  refine' law_walk hr2.1 (by omega) hbo hlbk hKf hKt ?u1 ?u2 ?u3 N9 ?u5 ?u6 ?u7 ?u8 ?_; (case u1 => k_asm); (case u2 => k_asm); (case u3 => k_asm); (case u5 => k_asm); (case u6 => first | exact rfl | assumption); (case u7 => ktr_room); (case u8 => ktr_units)
  intro wl vsw nw h3 tk3 lw hIw F3 N3
  dsimp only [AllLt] at lw
  (try k_fold)
  k_steps
  all_goals try (exfalso; contradiction)
  refine Hold.mk ?_
  rename News _ _ _ _ => N9
  replace N9 := news_pick N9 [0, 11, 1, 2, 3, 4, 5, 6, 7, 8, 9, 10, 12, 13]
  simp only [List.filterMap_cons, List.getElem?_cons_succ, List.getElem?_cons_zero, List.filterMap_nil] at N9
  refine' law_note_some hr2.1 (by omega) hIw hmo (by omega) hlmd (by omega) (by k_all) ?u1 ?u2 ?u3 N9 ?u5 ?u6 ?u7 ?u8 (fun hall => absurd (hall _ hn) (by omega)) ?_; (case u1 => k_asm); (case u2 => k_asm); (case u3 => k_asm); (case u5 => k_asm); (case u6 => first | exact rfl | assumption); (case u7 => ktr_room); (case u8 => ktr_units)
  intro r9 hr9 _ mo9 h4 tk4 F4 hmo9 N4
  obtain rfl : r9 = n := hr9.uniq hn
  have hl9 : ((List.range (K + 1)).map (wk 10 r)).length = K + 1 := by simp
  have hl8 : ((List.range (K + 1)).map (wk 10 r)).getD K 0 = wk 10 r K := by simp
  generalize hxs : (List.range (K + 1)).map (wk 10 r) = xs at *
  have hlast : xs.getD (-1 + (xs.length : Int)).toNat 0 = wk 10 r K := by rw [hl9, show (-1 + ((K + 1 : Nat) : Int)).toNat = K by omega]; exact hl8
  skip
  (try k_fold)
  k_steps
  all_goals try (exfalso; contradiction)
  refine Hold.mk ?_
  rename News _ _ _ _ => N9
  replace N9 := news_pick N9 [3, 4, 5, 12, 0, 1, 2, 6, 7, 8, 9, 10, 11, 13]
  simp only [List.filterMap_cons, List.getElem?_cons_succ, List.getElem?_cons_zero, List.filterMap_nil] at N9
  refine' fes_some (by decide) (by decide) hv1 hPl.len hr2.1 e1 e3 hro (by omega) (fun r' hr' _ h9 => by obtain rfl : r' = r9 := hr'.uniq hn; exact hMem.hit hn.2.1 (by omega) hKf h9) hld1 (by k_all) h13 h12 hlrd (by omega) (by omega) (by omega) (by k_all) ?u1 ?u2 ?u3 N9 ?u5 ?u6 ?u7 ?u8 (fun hall => absurd (hall _ hn) (by omega)) ?_; (case u1 => k_asm); (case u2 => k_asm); (case u3 => k_asm); (case u5 => k_asm); (case u6 => first | exact rfl | assumption); (case u7 => ktr_room); (case u8 => ktr_units)
  intro r8 hr8 _ t5 ro9 h5 tk5 F5 hro9 N5
  obtain rfl : r8 = r9 := hr8.uniq hn
  (try k_fold)
  k_steps
  all_goals try (exfalso; contradiction)
  all_goals try (exfalso; exact absurd hlast.symm (by assumption))
  refine Hold.mk ?_
  rename News _ _ _ _ => N9
  replace N9 := news_pick N9 [7, 8, 9, 0, 1, 2, 3, 4, 5, 6, 10, 11, 12, 13]
  simp only [List.filterMap_cons, List.getElem?_cons_succ, List.getElem?_cons_zero, List.filterMap_nil] at N9
  refine' fes_any (by decide) (by decide) hv2 hPl.len hr2.1 e1 e3 hld2 (by k_all) h16 h15 ?u1 ?u2 ?u3 N9 ?u5 ?u6 ?u7 ?u8 ?_; (case u1 => k_asm); (case u2 => k_asm); (case u3 => k_asm); (case u5 => k_asm); (case u6 => first | exact rfl | assumption); (case u7 => ktr_room); (case u8 => ktr_units)
  intro v26 t6 h6 tk6 F6 N6
  (try k_fold)
  k_steps
  all_goals try (exfalso; contradiction)
  refine Hold.mk ?_
  rename News _ _ _ _ => N9
  skip
  skip
  refine di_ne N9 (.tail _ (.tail _ (.tail _ (.tail _ (.tail _ (.tail _ (.head _))))))) (.tail _ (.tail _ (.tail _ (.tail _ (.tail _ (.tail _ (.tail _ (.tail _ (.head _))))))))) hro9 hmo9 hlrd hlmd (by ktr_units) ?_
  (try k_fold)
  k_steps
  all_goals try (exfalso; contradiction)
  obtain ⟨kvsb, hdb, hfb⟩ := hbo
  (try k_fold)
  k_steps
  all_goals try (exfalso; contradiction)
  rename Fr _ _ _ _ => eF
  rename News _ _ _ _ => eN
  rename IntsAre (vs1.set _ _) _ => eI1
  rename IntsAre (vs2.set _ _) _ => eI2
  rename Obj.IsDictOf _ _ _ => hd8
  rename PyProof.V.FlatPairs _ _ _ => hf8
  refine at_end (s := { s with gens := g }) (σ := St3) ⟨dictS (tabEs w.params k11 k12 k13 k14 k15 k16 k17 k18 (.int (10 : Nat) t11) v12 (.ref i1) (.ref el1) (.ref rd) (.bool false) (.int (2^10) t17) (.int (2^10-1) t18)) 8 #[none], dictS (tabEs w.params k21 k22 k23 k24 k25 k26 k27 k28 (.int (10 : Nat) t21) v22 (.ref i2) (.ref el2) v26 (.bool false) (.int (2^10) t27) (.int (2^10-1) t28)) 8 #[none], _, _, _, _, _, (.ref md), [(md, mo9), (rd, ro9)]⟩ (fun h => h) eF eN (.tail _ (.tail _ (.tail _ (.tail _ (.tail _ (.tail _ (.tail _ (.tail _ (.tail _ (.tail _ (.tail _ (.tail _ (.tail _ (.head _)))))))))))))) (fun p hp => ?_) (List.forall_mem_cons.mpr ⟨rfl, List.forall_mem_nil _⟩) (fun z z1 z2 z3 => ?_) ⟨hPl.put q0 q1, (put_new_len c (wk 10 r K) (-2) hKf).trans (congrArg (· + 1) hcl), eI1, eI2, ⟨_, hd8, hf8⟩, .inr ⟨Nat.succ_pos _, k17, k18, t17, t18, k27, k28, t27, t28, v26, rfl, .inr ⟨md, mo9, rd, ro9, _, hbm, hmr, rfl, rfl, rfl, hmo9, hro9, hMem.put hn.2.1 (by omega) hKt, by have := kdfPut_len cm (wk 10 r r8) (wk 10 r K); omega⟩⟩⟩
  · dsimp only at hp
    simp only [List.mem_cons, List.not_mem_nil, or_false] at hp
    rcases hp with rfl | rfl | rfl | rfl | rfl | rfl | rfl | rfl | rfl | rfl | rfl | rfl
    · exact .tail _ (.tail _ (.tail _ (.head _)))
    · exact .tail _ (.tail _ (.tail _ (.tail _ (.head _))))
    · exact .tail _ (.tail _ (.tail _ (.tail _ (.tail _ (.head _)))))
    · exact .head _
    · exact .tail _ (.head _)
    · exact .tail _ (.tail _ (.head _))
    · exact .tail _ (.tail _ (.tail _ (.tail _ (.tail _ (.tail _ (.tail _ (.tail _ (.tail _ (.tail _ (.head _))))))))))
    · exact .tail _ (.tail _ (.tail _ (.tail _ (.tail _ (.tail _ (.tail _ (.tail _ (.tail _ (.tail _ (.tail _ (.head _)))))))))))
    · exact .tail _ (.tail _ (.tail _ (.tail _ (.tail _ (.tail _ (.tail _ (.tail _ (.tail _ (.head _)))))))))
    · exact .tail _ (.tail _ (.tail _ (.tail _ (.tail _ (.tail _ (.tail _ (.tail _ (.tail _ (.tail _ (.tail _ (.tail _ (.head _))))))))))))
    · exact .tail _ (.tail _ (.tail _ (.tail _ (.tail _ (.tail _ (.tail _ (.tail _ (.head _))))))))
    · exact .tail _ (.tail _ (.tail _ (.tail _ (.tail _ (.tail _ (.head _))))))
  · simp only [List.forall_mem_cons, List.not_mem_nil, false_implies, implies_true, and_true, ne_eq] at z2
    simp only [List.contains_cons, List.contains_nil, Bool.or_false, Bool.or_eq_false_iff, beq_eq_false_iff_ne, ne_eq] at z3
    simp [z1, z2, z3.1, z3.2]

end Mine
end

section
open PySem PySem.W PySem.Calls PyProof.Rows
namespace Mine
local macro_rules | `(tactic| walk_at "getAttr ref") => `(tactic| (k_here; k_dflt (refine' get_lateS ?k1 ?k2 ?k3 ?k4 ?k5 ?k6 ?k7 ?k8 ?k9 ?k10 ?_; (case k1 => k_asm); (case k2 => k_asm); (case k3 => k_inst); (case k4 => k_is); (case k5 => k_is); (case k6 => k_is); (case k7 => k_is); (case k8 => k_is); (case k9 => decide +kernel); (case k10 => k_get))))
local macro_rules | `(tactic| walk_at "getAttr ref") => `(tactic| (k_here; k_dflt (first
  | refine' get_shadowS ?k1 ?k2 ?k3 ?k4 ?k5 ?k6 ?k7 ?k8 ?k9 ?k10 ?_; (case k1 => k_asm); (case k2 => k_asm); (case k3 => k_inst); (case k4 => k_is); (case k5 => k_is); (case k6 => k_is); (case k7 => k_is); (case k8 => k_is); (case k9 => k_get); (case k10 => k_handed); k_whole
  | refine' get_ownS ?k1 ?k2 ?k3 ?k4 ?k5 ?k6 ?k7 ?k8 ?k9 ?_; (case k1 => k_asm); (case k2 => k_asm); (case k3 => k_inst); (case k4 => k_is); (case k5 => k_is); (case k6 => k_is); (case k7 => k_is); (case k8 => k_get); (case k9 => k_handed); k_whole)))
local macro_rules | `(tactic| walk_at "getAttr ref") => `(tactic| (k_here; (with_reducible show wpAny _ _ (getAttr (Value.ref _) (PySem.Str.ofString "__dict__") _) _ _ _); k_dflt (refine' get_dictS ?k1 ?k2 ?k3 ?k4 ?k5 ?k6 ?k7 ?k8 ?k9 ?k10 ?k11 ?k12 ?k13 ?k14 ?_; (case k1 => k_asm); (case k2 => k_asm); (case k3 => k_asm); (case k4 => k_inst); (case k5 => k_is); (case k6 => k_is); (case k7 => k_is); (case k8 => k_is); (case k9 => k_is); (case k10 => k_is); (case k11 => k_is); (case k12 => k_is); (case k13 => k_is); (case k14 => k_upd); k_whole; intro h' F' N'; (try k_sweep))))
local macro_rules | `(tactic| walk_at "getMethod ref") => `(tactic| (k_here; k_dflt (first
  | refine' method_instS ?k1 ?k2 ?k3 ?k4 ?k5 ?k6 ?k7 ?_; (case k1 => k_asm); (case k2 => k_asm); (case k3 => k_inst); (case k4 => k_is); (case k5 => k_is); (case k6 => k_is); (case k7 => k_get); k_whole
  | refine' method_getS ?k1 ?k2 ?_; (case k1 => k_asm); (case k2 => k_mem); k_whole)))
local macro_rules | `(tactic| walk_at "setAttr ref") => `(tactic| (k_here; k_dflt (refine' set_dictS ?k1 ?k2 ?k3 ?k4 ?k5 ?k6 ?k7 ?k8 ?k9 ?k10 ?k11 ?k12 ?k13 ?_; (case k1 => k_asm); (case k2 => k_asm); (case k3 => k_asm); (case k4 => k_inst); (case k5 => exact rfl); (case k6 => k_is); (case k7 => k_is); (case k8 => k_is); (case k9 => k_is); (case k10 => k_get); (case k11 => k_put); (case k12 => k_upd); (case k13 => exact Nat.le_of_ble_eq_true rfl); k_whole; intro h' F' N'; (try k_sweep))))
local macro_rules | `(tactic| walk_at "call builtin:dict.get") => `(tactic| (k_here; k_dflt (refine' call_get_missS ?k1 ?k2 ?k3 ?k4 ?k5 ?_; (case k1 => k_asm); (case k2 => k_mem); (case k3 => assumption); (case k4 => k_keys); (case k5 => k_get); k_whole)))
local macro_rules | `(tactic| walk_at "setItem ref str") => `(tactic| (k_here; k_dflt (refine' setItem_newS ?k1 ?k2 ?k3 ?k4 ?k5 ?k6 ?_; (case k1 => k_asm); (case k2 => k_asm); (case k3 => k_upd); (case k4 => k_keys); (case k5 => k_get); (case k6 => exact Nat.le_of_ble_eq_true rfl); k_whole; intro h' F' N'; (try dsimp only [List.cons_append, List.nil_append] at N'); (try k_sweep))))
local macro_rules | `(tactic| walk_at "exec While") => `(tactic| (k_here; refine Hold.out ?_))
local macro_rules | `(tactic| walk_at "KswEnd") => `(tactic| (refine Hold.out ?_))
local macro_rules | `(tactic| walk_at "binaryOp BitAnd int int") => `(tactic| first | with_reducible refine and_mask ?_ | with_reducible refine and_mask' ?_)
local macro_rules | `(tactic| walk_at "call ref") => `(tactic| (k_here; k_dflt (refine wpAny_call ?_; refine' code_def ?k1 ?k2 ?k3 ?k4 ?k5 ?kA ?kF ?kK ?k6 ?k7 ?k8 ?k9 ?kB ?_ ?c2 ?c3 ?c4 ?c5; (case kA => exact rfl); (case kF => exact rfl); (case kK => first | exact rfl | assumption); (case k1 => k_asm); (case k2 => k_asm); (case k3 => k_asm); (case k4 => k_asm); (case k5 => k_asm); (case k6 => k_is); (case k7 => k_is); (case k8 => ktr_room); (case k9 => first | exact BindsTo.of_eq rfl | exact binds_K (by k_in) rfl (by k_is) rfl rfl rfl); (case c5 => decide); (case kB => exact locs rfl); (case c2 => exact rfl); (case c3 => exact rfl); (case c4 => exact rfl); k_whole; intro g' L' h' FG' F' N' B' X' T'; (try dsimp only); (try k_lift B'); (try k_fold))))
local macro_rules | `(tactic| walk_at "inplaceOp RShift int int") => `(tactic| with_reducible refine shr5 ?_)
local macro_rules | `(tactic| walk_at "binaryOp LShift int int") => `(tactic| (with_reducible refine shl_one ?a ?_; (case a => omega)))
local macro_rules | `(tactic| k_all) => `(tactic| assumption)
local macro_rules | `(tactic| walk_at "call ref") => `(tactic| (k_here; (with_reducible show wpAny _ _ (call (Value.ref 186) _) _ _ _); refine Hold.out ?_))
local macro_rules | `(tactic| walk_at "call ref") => `(tactic| (k_here; (with_reducible show wpAny _ _ (call (Value.ref 302) _) _ _ _); refine Hold.out ?_))
local macro_rules | `(tactic| walk_at "call ref") => `(tactic| (k_here; (with_reducible show wpAny _ _ (call (Value.ref 316) _) _ _ _); refine Hold.out ?_))
local macro_rules | `(tactic| walk_at "call ref") => `(tactic| (k_here; (with_reducible show wpAny _ _ (call (Value.ref 171) _) _ _ _); refine Hold.out ?_))
set_option maxRecDepth 100000 in
set_option maxHeartbeats 8000000 in
theorem stageC {w : World} {mean : ExcName → Option Value} {mg mb : Str → Option Value} {Γ : Ctx} {h₀ : Heap} {L fa cda : Addr} {m : Str → Option Value} {s : Shared} {Q : Flow → Shared → Prop} {x1 d1 i1 el1 x2 d2 i2 el2 fl rl bk : Addr} {k11 k12 k13 k14 k15 k16 t11 k21 k22 k23 k24 k25 k26 t21 tz : Tok} {v22 : Value} {u12 : Int} {tu12 : Tok} {vs1 vs2 rs : List Value} {run : List Int} {ep1 ep2 ep3 epE : Nat} {fo bo : Obj} {fv : List Value} {fam : List Int}
   (hrun : ∀ r ∈ run, 0 ≤ r ∧ r < 9223372036854775808) (hrl : run.length ≤ 60) (hrI : IntsAre rs run) (hi1 : IntsAre vs1 (List.replicate (2 ^ 10) (-1))) (hi2 : IntsAre vs2 (List.replicate (2 ^ 10) (-1))) (hbk : DII PySem.Challenge.rw_fc5025_03.row.prog w bo [])
   (h12 : @LT.lt Nat _ i1 d1) (h13 : @LT.lt Nat _ d1 x1) (h14 : @LT.lt Nat _ x1 i2) (h15 : @LT.lt Nat _ i2 d2) (h16 : @LT.lt Nat _ d2 x2) (h17 : @LT.lt Nat _ x2 fl) (h18 : @LT.lt Nat _ fl rl) (h19 : @LT.lt Nat _ rl bk) (hlow : @LT.lt Nat _ 1 i1) (hel : @LT.lt Nat _ el1 i1) (hfo' : fo.cls = .type "tuple" ∧ ∃ n, fo.data = .seq fv.toArray n) (hfI : IntsAre fv fam) (hfam : ∀ r ∈ fam, 0 ≤ r ∧ r < 9223372036854775808) (hfl : fv.length = 4) (h34 : 34 ≤ run.length)
    (e_one : m (Str.ofString "one") = some (.ref x1)) (e_two : m (Str.ofString "two") = some (.ref x2)) (e_size : m (Str.ofString "size") = some (.int (2 ^ 10) tz)) (e_run : m (Str.ofString "run") = some (.ref rl)) (e_family : m (Str.ofString "family") = some (.ref fl)) (e_book : m (Str.ofString "book") = some (.ref bk)) (e_memory : m (Str.ofString "memory") = some (.none)) (e_places_one : m (Str.ofString "places_one") = some (.ref i1)) (e_places_two : m (Str.ofString "places_two") = some (.ref i2))
   (hΓ : InOK Γ (callerA.deeper (envOf (Str.ofString "law") lawS.1.2.2 L fa (.ref cda)))) (B : Below callerA h₀ [] h₀) (F : Fr h₀ L s.heap m) (X : (Mine.hd.heap_39 w.params).In h₀)
   (N : News h₀ L s.heap ((x1, instObj 287 d1) :: (d1, dictOf (coldEs w.params k11 k12 k13 k14 k15 k16 (.int (10 : Nat) t11) (.int u12 tu12) (.ref i1) (.ref el1) .none (.bool false)) 6) :: (i1, listOf vs1.toArray ep1) :: (x2, instObj 287 d2) :: (d2, dictOf (coldEs w.params k21 k22 k23 k24 k25 k26 (.int (10 : Nat) t21) v22 (.ref i2) (.ref el2) .none (.bool false)) 6) :: (i2, listOf vs2.toArray ep2) :: (fl, fo) :: (rl, listOf rs.toArray ep3) :: (bk, bo) :: (el1, listOf #[] epE) :: [])) (T : Top Mine.hd.view_39 (looseW Mine.hd.view_39 [Str.ofString "_Entry", Str.ofString "_NOT_FOUND", Str.ofString "cached_property", Str.ofString "_HtKeys"]) mean mg mb h₀) (hQ : ∀ h' g' tk' m', Fr h₀ L h' m' → (AllBare s.gens → AllBare g') → Q (.ret (.bool true)) { s with heap := h', gens := g', toks := tk' }) :
   wpAt (model PySem.Challenge.rw_fc5025_03.row.prog w) Γ (execs ((lawS.1.2.1).drop 13) (envOf (Str.ofString "law") lawS.1.2.2 L fa (.ref cda))) Q s := by
  have hfo : fo.cls ≠ .type "list_iterator" := by rw [hfo'.1]; simp
  have E : m = m := rfl
  replace ⟨F, E⟩ := fr_know F E e_one
  replace ⟨F, E⟩ := fr_know F E e_two
  replace ⟨F, E⟩ := fr_know F E e_size
  replace ⟨F, E⟩ := fr_know F E e_run
  replace ⟨F, E⟩ := fr_know F E e_family
  replace ⟨F, E⟩ := fr_know F E e_book
  replace ⟨F, E⟩ := fr_know F E e_memory
  replace ⟨F, E⟩ := fr_know F E e_places_one
  replace ⟨F, E⟩ := fr_know F E e_places_two
  clear E
  clear e_one e_two e_size e_run e_family e_book e_memory e_places_one e_places_two
  w_top off; revert B X N T F; k_fill; intro B X N T F
  dsimp only [lawS, List.drop] at hΓ ⊢
  (try k_fold)
  refine at_execs_cons (at_For hΓ ?_)
  k_steps
  rename Fr _ _ _ _ => F2
  rename News _ _ _ _ => N2
  refine atLoop_listP (σ := St3) (l := rl) (items := rs.toArray) (ep := ep3) (fun c => (x1, instObj 287 d1) :: (d1, c.o1) :: (i1, listOf c.vs1.toArray ep1) :: (x2, instObj 287 d2) :: (d2, c.o2) :: (i2, listOf c.vs2.toArray ep2) :: (fl, fo) :: (rl, listOf rs.toArray ep3) :: (bk, c.bo) :: (el1, listOf #[] epE) :: c.memL)
    (fun c => [(Str.ofString "memory", c.mv)]) [Str.ofString "walk", Str.ofString "told"] (fun (i : Nat) (c : St3) => Places 10 c.ns c.c ∧ c.c.length = i ∧ IntsAre c.vs1 c.ns ∧ IntsAre c.vs2 c.ns ∧ DII PySem.Challenge.rw_fc5025_03.row.prog w c.bo c.c ∧
      ((i = 0 ∧ c.o1 = dictOf (coldEs w.params k11 k12 k13 k14 k15 k16 (.int (10 : Nat) t11) (.int u12 tu12) (.ref i1) (.ref el1) .none (.bool false)) 6 ∧ c.o2 = dictOf (coldEs w.params k21 k22 k23 k24 k25 k26 (.int (10 : Nat) t21) v22 (.ref i2) (.ref el2) .none (.bool false)) 6 ∧ c.mv = .none ∧ c.memL = []) ∨
       (0 < i ∧ ∃ k17 k18 t17 t18 k27 k28 t27 t28 v25, c.o2 = dictS (tabEs w.params k21 k22 k23 k24 k25 k26 k27 k28 (.int (10 : Nat) t21) v22 (.ref i2) (.ref el2) v25 (.bool false) (.int (2^10) t27) (.int (2^10-1) t28)) 8 #[none] ∧ ((c.mv = .none ∧ c.memL = [] ∧ c.o1 = dictS (tabEs w.params k11 k12 k13 k14 k15 k16 k17 k18 (.int (10 : Nat) t11) (.int u12 tu12) (.ref i1) (.ref el1) .none (.bool false) (.int (2^10) t17) (.int (2^10-1) t18)) 8 #[none]) ∨
         (∃ md mo rd ro cm, @LT.lt Nat _ bk md ∧ @LT.lt Nat _ md rd ∧ c.mv = .ref md ∧ c.memL = [(md, mo), (rd, ro)] ∧ c.o1 = dictS (tabEs w.params k11 k12 k13 k14 k15 k16 k17 k18 (.int (10 : Nat) t11) (.int u12 tu12) (.ref i1) (.ref el1) (.ref rd) (.bool false) (.int (2^10) t17) (.int (2^10-1) t18)) 8 #[none] ∧ DII PySem.Challenge.rw_fc5025_03.row.prog w mo cm ∧ DII PySem.Challenge.rw_fc5025_03.row.prog w ro cm ∧ MemOK 10 c.c cm ∧ cm.length ≤ i))))) ⟨_, _, _, _, _, _, _, _, []⟩ hΓ rfl rfl rfl F2 N2 (fun c => ?lm) (List.forall_mem_cons.mpr ⟨rfl, List.forall_mem_nil _⟩) ⟨Places.start, rfl, hi1, hi2, hbk, .inl ⟨rfl, rfl, rfl, rfl, rfl⟩⟩ ?step ?done ?cls
  case lm => simp
  case cls =>
    rintro i ⟨o1, o2, bo, vs1, vs2, ns, c, mv, memL⟩ ⟨-, -, -, -, hbo, hP⟩ p hp
    dsimp only at hbo hP hp
    have hd : ∀ {o : Obj} {c : List (Int × Int)}, DII PySem.Challenge.rw_fc5025_03.row.prog w o c → o.cls ≠ .type "list_iterator" := fun ⟨_, ⟨_, _, h, _⟩, _⟩ => by rw [h.1]; simp
    have ho : o1.cls ≠ .type "list_iterator" ∧ o2.cls ≠ .type "list_iterator" ∧ ∀ p ∈ memL, p.2.cls ≠ .type "list_iterator" := by
      rcases hP with ⟨-, rfl, rfl, rfl, rfl⟩ | ⟨-, k17, k18, t17, t18, k27, k28, t27, t28, v25, rfl, ⟨rfl, rfl, rfl⟩ | ⟨md, mo, rd, ro, cm, -, -, rfl, rfl, rfl, hmo, hro, -, -⟩⟩
      · exact ⟨by simp, by simp, by simp⟩
      · exact ⟨by simp, by simp, by simp⟩
      · exact ⟨by simp, by simp, List.forall_mem_cons.mpr ⟨hd hmo, List.forall_mem_cons.mpr ⟨hd hro, List.forall_mem_nil _⟩⟩⟩
    simp only [List.mem_cons] at hp
    rcases hp with rfl | rfl | rfl | rfl | rfl | rfl | rfl | rfl | rfl | rfl | h
    · exact .inl (by simp)
    · exact .inl ho.1
    · exact .inl (by simp)
    · exact .inl (by simp)
    · exact .inl ho.2.1
    · exact .inl (by simp)
    · exact .inl hfo
    · exact .inl (by simp)
    · exact .inl (hd hbo)
    · exact .inl (by simp)
    · exact .inl (ho.2.2 p h)
  case done =>
    clear F2 N2
    rintro ⟨o1, o2, bo, vs1, vs2, ns, c, mv, memL⟩ u h g tk ⟨hPl, hcl, hv1, hv2, hbo, hP⟩ hg F N
    dsimp only at hPl hcl hv1 hv2 hbo hP F N ⊢
    have hsz : rs.toArray.size = run.length := by rw [List.size_toArray, hrI.length]
    rw [hsz] at hcl hP
    rcases hP with ⟨hi0, -⟩ | ⟨-, k17, k18, t17, t18, k27, k28, t27, t28, v25, rfl, hM⟩
    · exact absurd hi0 (by omega)
    · rcases hM with ⟨rfl, rfl, rfl⟩ | ⟨md, mo, rd, ro, cm, hbm, hmr, rfl, rfl, rfl, hmo, hro, hMem, hcml⟩
      · exact stageD (s := { s with heap := h, gens := g, toks := tk }) (fam := fam) (run := run) (ML := []) (ML1 := []) (oc := none) (mv0 := .none) (v51 := .none) (t31 := 0) (k31 := 0) (k32 := 0) (k33 := 0) (k34 := 0) (k35 := 0) (k36 := 0) (v32 := .none) (vs3 := []) (ep4 := 0) hrl hrI rfl hPl hcl hv1 hbo (.inl ⟨rfl, rfl, rfl⟩) (.inl ⟨rfl, rfl, rfl⟩) (by intro _ e; cases e) hfo' hfI hfam hfl (List.forall_mem_nil _) (List.forall_mem_nil _) (List.forall_mem_nil _)
          h12 h13 (Nat.lt_trans h14 (Nat.lt_trans h15 (Nat.lt_trans h16 h17))) h18 h19 hlow rfl rfl rfl rfl rfl rfl rfl hΓ B F X (news_pick N [0, 1, 2, 6, 7, 8, 9]) T fun h' g' tk' m' F' hg' => hQ h' g' tk' m' F' fun hb => hg' (hg hb)
      · exact stageD (s := { s with heap := h, gens := g, toks := tk }) (fam := fam) (run := run) (ML := [(md, mo)]) (ML1 := [(rd, ro)]) (oc := some cm) (mv0 := .ref md) (v51 := .ref rd) (t31 := 0) (k31 := 0) (k32 := 0) (k33 := 0) (k34 := 0) (k35 := 0) (k36 := 0) (v32 := .none) (vs3 := []) (ep4 := 0) hrl hrI rfl hPl hcl hv1 hbo (.inr ⟨cm, md, mo, rfl, rfl, rfl, hmo⟩) (.inr ⟨cm, rd, ro, rfl, rfl, rfl, hro⟩) (by intro _ e; cases e; exact ⟨hMem, hcml⟩) hfo' hfI hfam hfl (List.forall_mem_cons.mpr ⟨hbm, List.forall_mem_nil _⟩) (List.forall_mem_cons.mpr ⟨Nat.lt_trans hbm hmr, List.forall_mem_nil _⟩) (List.forall_mem_cons.mpr ⟨List.forall_mem_cons.mpr ⟨Ne.symm (Nat.ne_of_lt hmr), List.forall_mem_nil _⟩, List.forall_mem_nil _⟩)
          h12 h13 (Nat.lt_trans h14 (Nat.lt_trans h15 (Nat.lt_trans h16 h17))) h18 h19 hlow rfl rfl rfl rfl rfl rfl rfl hΓ B F X (news_pick N [0, 1, 2, 6, 7, 8, 9, 10, 11]) T fun h' g' tk' m' F' hg' => hQ h' g' tk' m' F' fun hb => hg' (hg hb)
  case step =>
    rintro i ⟨o1, o2, bo, vs1, vs2, ns, c, mv, memL⟩ u h g tk I oi v Γ' hΓ' hv ⟨hPl, hcl, hv1, hv2, hbo, hP⟩ hg hne hoi F N
    dsimp only at hPl hcl hv1 hv2 hbo hP hne F N ⊢
    clear F2 N2
    obtain ⟨r, tr, rfl, hr⟩ := hrI.at i v (by simpa using hv)
    have hr2 := hrun r (List.mem_of_getElem? hr)
    have hil : i < run.length := by
      rcases Nat.lt_or_ge i run.length with h9 | h9
      · exact h9
      · rw [List.getElem?_eq_none h9] at hr; cases hr
    obtain ⟨K, hK40, hKf, hKt⟩ := first_free (n := 10) hr2.1 hr2.2 (by decide) (c := c) (by rw [hcl]; exact Nat.lt_of_lt_of_le hil (by omega))
    have e1 := hPl.free (wk_range K).1 (wk_range (h := r) K).2 hKf
    have e3 : ∀ j < K, ns.getD (wk 10 r j).toNat 0 ≠ -1 := fun j hj => hPl.taken (wk_range j).1 (wk_range (h := r) j).2 (hKt j hj)
    obtain ⟨n, hn⟩ := front_ex r hr2.1
    have hcb : c.length ≤ 1000 := by omega
    have q0 := (wk_range (n := 10) (h := r) K).1
    have q1 := (wk_range (n := 10) (h := r) K).2
    have q2 : wk 10 r K < (ns.length : Int) := by rw [len_cast hPl.len]; exact q1
    have q3 : wk 10 r K < 2 ^ 63 := by have := pow_le_1024 (n := 10) (by omega); omega
    have hlbk : (bk == sysModules) = false := beq_eq_false_iff_ne.mpr (fun e => by have e2 : @Eq Nat bk 1 := e; omega)
    have hld1 : (d1 == sysModules) = false := beq_eq_false_iff_ne.mpr (fun e => by have e2 : @Eq Nat d1 1 := e; omega)
    have hld2 : (d2 == sysModules) = false := beq_eq_false_iff_ne.mpr (fun e => by have e2 : @Eq Nat d2 1 := e; omega)
    have hId1 : @Ne Nat I d1 := Ne.symm (hne (d1, o1) (.tail _ (.head _)))
    have hIi1 : @Ne Nat I i1 := Ne.symm (hne (i1, _) (.tail _ (.tail _ (.head _))))
    have hId2 : @Ne Nat I d2 := Ne.symm (hne (d2, o2) (.tail _ (.tail _ (.tail _ (.tail _ (.head _))))))
    have hIi2 : @Ne Nat I i2 := Ne.symm (hne (i2, _) (.tail _ (.tail _ (.tail _ (.tail _ (.tail _ (.head _)))))))
    have hIbk : @Ne Nat I bk := Ne.symm (hne (bk, bo) (.tail _ (.tail _ (.tail _ (.tail _ (.tail _ (.tail _ (.tail _ (.tail _ (.head _))))))))))
    dsimp only [kstB] at F
    rcases hP with ⟨hi0, rfl, rfl, rfl, rfl⟩ | ⟨hi0, k17, k18, t17, t18, k27, k28, t27, t28, v25, rfl, hM⟩
    · have hK0 : K = 0 := by
        rcases Nat.eq_zero_or_pos K with e | e
        · exact e
        · have h9 := hKt 0 e
          rw [show c = [] from List.eq_nil_of_length_eq_zero (by omega)] at h9; cases h9
      exact turn_cold (k17 := 0) (k18 := 0) (t17 := 0) (t18 := 0) (k27 := 0) (k28 := 0) (t27 := 0) (t28 := 0) (v25 := .none) (by omega) hr2 hK40 hKf hKt hn (by have := hn.1; omega) hPl hcl hv1 hv2 hbo hrI h12 h13 h14 h15 h16 h17 h18 h19 hlow hel hId1 hIi1 hId2 hIi2 hIbk hΓ' B X N T F
    · rcases hM with ⟨rfl, rfl, rfl⟩ | ⟨md, mo, rd, ro, cm, hbm, hmr, rfl, rfl, rfl, hmo, hro, hMem, hcml⟩
      · by_cases hlong : n + 32 ≤ K
        · exact turn_none_long (by omega) hr2 hK40 hKf hKt hn hlong hPl hcl hv1 hv2 hbo hrI h12 h13 h14 h15 h16 h17 h18 h19 hlow hel hId1 hIi1 hId2 hIi2 hIbk hΓ' B X N T F
        · exact turn_none_short (by omega) hr2 hK40 hKf hKt hn hlong hPl hcl hv1 hv2 hbo hrI h12 h13 h14 h15 h16 h17 h18 h19 hlow hel hId1 hIi1 hId2 hIi2 hIbk hΓ' B X N T F
      · rcases Nat.lt_or_ge K n with h9 | h9
        · exact turn_some_not (by omega) hr2 hK40 hKf hKt hn h9 hPl hcl hv1 hv2 hbo hrI h12 h13 h14 h15 h16 h17 h18 h19 hlow hel hId1 hIi1 hId2 hIi2 hIbk hbm hmr hmo hro hMem hcml (Ne.symm (hne (md, mo) (by simp))) (Ne.symm (hne (rd, ro) (by simp))) hΓ' B X N T F
        · exact turn_some_put (by omega) hr2 hK40 hKf hKt hn h9 hPl hcl hv1 hv2 hbo hrI h12 h13 h14 h15 h16 h17 h18 h19 hlow hel hId1 hIi1 hId2 hIi2 hIbk hbm hmr hmo hro hMem hcml (Ne.symm (hne (md, mo) (by simp))) (Ne.symm (hne (rd, ro) (by simp))) hΓ' B X N T F
end Mine
end

section
open PySem PySem.W PySem.Calls PyProof.Rows
namespace Mine
local macro_rules | `(tactic| walk_at "getAttr ref") => `(tactic| (k_here; k_dflt (refine' get_lateS ?k1 ?k2 ?k3 ?k4 ?k5 ?k6 ?k7 ?k8 ?k9 ?k10 ?_; (case k1 => k_asm); (case k2 => k_asm); (case k3 => k_inst); (case k4 => k_is); (case k5 => k_is); (case k6 => k_is); (case k7 => k_is); (case k8 => k_is); (case k9 => decide +kernel); (case k10 => k_get))))
local macro_rules | `(tactic| walk_at "getAttr ref") => `(tactic| (k_here; k_dflt (first
  | refine' get_shadowS ?k1 ?k2 ?k3 ?k4 ?k5 ?k6 ?k7 ?k8 ?k9 ?k10 ?_; (case k1 => k_asm); (case k2 => k_asm); (case k3 => k_inst); (case k4 => k_is); (case k5 => k_is); (case k6 => k_is); (case k7 => k_is); (case k8 => k_is); (case k9 => k_get); (case k10 => k_handed); k_whole
  | refine' get_ownS ?k1 ?k2 ?k3 ?k4 ?k5 ?k6 ?k7 ?k8 ?k9 ?_; (case k1 => k_asm); (case k2 => k_asm); (case k3 => k_inst); (case k4 => k_is); (case k5 => k_is); (case k6 => k_is); (case k7 => k_is); (case k8 => k_get); (case k9 => k_handed); k_whole)))
local macro_rules | `(tactic| walk_at "getAttr ref") => `(tactic| (k_here; (with_reducible show wpAny _ _ (getAttr (Value.ref _) (PySem.Str.ofString "__dict__") _) _ _ _); k_dflt (refine' get_dictS ?k1 ?k2 ?k3 ?k4 ?k5 ?k6 ?k7 ?k8 ?k9 ?k10 ?k11 ?k12 ?k13 ?k14 ?_; (case k1 => k_asm); (case k2 => k_asm); (case k3 => k_asm); (case k4 => k_inst); (case k5 => k_is); (case k6 => k_is); (case k7 => k_is); (case k8 => k_is); (case k9 => k_is); (case k10 => k_is); (case k11 => k_is); (case k12 => k_is); (case k13 => k_is); (case k14 => k_upd); k_whole; intro h' F' N'; (try k_sweep))))
local macro_rules | `(tactic| walk_at "getMethod ref") => `(tactic| (k_here; k_dflt (first
  | refine' method_instS ?k1 ?k2 ?k3 ?k4 ?k5 ?k6 ?k7 ?_; (case k1 => k_asm); (case k2 => k_asm); (case k3 => k_inst); (case k4 => k_is); (case k5 => k_is); (case k6 => k_is); (case k7 => k_get); k_whole
  | refine' method_getS ?k1 ?k2 ?_; (case k1 => k_asm); (case k2 => k_mem); k_whole)))
local macro_rules | `(tactic| walk_at "setAttr ref") => `(tactic| (k_here; k_dflt (refine' set_dictS ?k1 ?k2 ?k3 ?k4 ?k5 ?k6 ?k7 ?k8 ?k9 ?k10 ?k11 ?k12 ?k13 ?_; (case k1 => k_asm); (case k2 => k_asm); (case k3 => k_asm); (case k4 => k_inst); (case k5 => exact rfl); (case k6 => k_is); (case k7 => k_is); (case k8 => k_is); (case k9 => k_is); (case k10 => k_get); (case k11 => k_put); (case k12 => k_upd); (case k13 => exact Nat.le_of_ble_eq_true rfl); k_whole; intro h' F' N'; (try k_sweep))))
local macro_rules | `(tactic| walk_at "call builtin:dict.get") => `(tactic| (k_here; k_dflt (refine' call_get_missS ?k1 ?k2 ?k3 ?k4 ?k5 ?_; (case k1 => k_asm); (case k2 => k_mem); (case k3 => assumption); (case k4 => k_keys); (case k5 => k_get); k_whole)))
local macro_rules | `(tactic| walk_at "setItem ref str") => `(tactic| (k_here; k_dflt (refine' setItem_newS ?k1 ?k2 ?k3 ?k4 ?k5 ?k6 ?_; (case k1 => k_asm); (case k2 => k_asm); (case k3 => k_upd); (case k4 => k_keys); (case k5 => k_get); (case k6 => exact Nat.le_of_ble_eq_true rfl); k_whole; intro h' F' N'; (try dsimp only [List.cons_append, List.nil_append] at N'); (try k_sweep))))
local macro_rules | `(tactic| walk_at "exec While") => `(tactic| (k_here; refine Hold.out ?_))
local macro_rules | `(tactic| walk_at "KswEnd") => `(tactic| (refine Hold.out ?_))
local macro_rules | `(tactic| walk_at "binaryOp BitAnd int int") => `(tactic| first | with_reducible refine and_mask ?_ | with_reducible refine and_mask' ?_)
local macro_rules | `(tactic| walk_at "call ref") => `(tactic| (k_here; k_dflt (refine wpAny_call ?_; refine' code_def ?k1 ?k2 ?k3 ?k4 ?k5 ?kA ?kF ?kK ?k6 ?k7 ?k8 ?k9 ?kB ?_ ?c2 ?c3 ?c4 ?c5; (case kA => exact rfl); (case kF => exact rfl); (case kK => first | exact rfl | assumption); (case k1 => k_asm); (case k2 => k_asm); (case k3 => k_asm); (case k4 => k_asm); (case k5 => k_asm); (case k6 => k_is); (case k7 => k_is); (case k8 => ktr_room); (case k9 => first | exact BindsTo.of_eq rfl | exact binds_K (by k_in) rfl (by k_is) rfl rfl rfl); (case c5 => decide); (case kB => exact locs rfl); (case c2 => exact rfl); (case c3 => exact rfl); (case c4 => exact rfl); k_whole; intro g' L' h' FG' F' N' B' X' T'; (try dsimp only); (try k_lift B'); (try k_fold))))
local macro_rules | `(tactic| walk_at "inplaceOp RShift int int") => `(tactic| with_reducible refine shr5 ?_)
local macro_rules | `(tactic| walk_at "binaryOp LShift int int") => `(tactic| (with_reducible refine shl_one ?a ?_; (case a => omega)))
local macro_rules | `(tactic| k_all) => `(tactic| assumption)
local macro_rules | `(tactic| walk_at "binaryOp Mult int int") => `(tactic| (with_reducible refine mul_int ?_ (IntMulOk.of_bits (by assumption) (by assumption))))
structure StA where
  rs : List Value
  ep : Nat
  run : List Int
set_option maxRecDepth 100000 in
set_option maxHeartbeats 8000000 in
theorem stageA2 {w : World} {mean : ExcName → Option Value} {mg mb : Str → Option Value} {Γ : Ctx} {h₀ : Heap} {L fa cda : Addr} {m : Str → Option Value} {s : Shared} {Q : Flow → Shared → Prop} {x1 d1 i1 el1 x2 d2 i2 el2 fl rl nl : Addr} {k11 k12 k13 k14 k15 k16 t11 k21 k22 k23 k24 k25 k26 t21 tz : Tok} {v22 : Value} {u12 : Int} {tu12 : Tok} {vs1 vs2 rs : List Value} {run : List Int} {ep1 ep2 ep3 epE : Nat} {nv : List Value} {ns : List Int} {ep4 n0 : Nat} {ta tb tc td : Tok} {f1 f2 f3 : Int}
   (hnI : IntsAre nv ns) (hlo9 : 12 ≤ ns.length) (hhi9 : ns.length ≤ 75) (hrI : IntsAre rs run) (hrun : ∀ r ∈ run, 0 ≤ r ∧ r < 9223372036854775808) (hn0 : run.length = n0) (h34 : 34 ≤ n0) (h40 : n0 ≤ 40) (hf1 : 0 ≤ f1 ∧ f1 < 9223372036854775808) (hf2 : 0 ≤ f2 ∧ f2 < 9223372036854775808) (hf3 : 0 ≤ f3 ∧ f3 < 9223372036854775808)
   (hi1 : IntsAre vs1 (List.replicate (2 ^ 10) (-1))) (hi2 : IntsAre vs2 (List.replicate (2 ^ 10) (-1)))
   (h12 : @LT.lt Nat _ i1 d1) (h13 : @LT.lt Nat _ d1 x1) (h14 : @LT.lt Nat _ x1 i2) (h15 : @LT.lt Nat _ i2 d2) (h16 : @LT.lt Nat _ d2 x2) (hlow : @LT.lt Nat _ 1 i1) (hel : @LT.lt Nat _ el1 i1) (hnl : @LT.lt Nat _ nl i1) (hne : @Ne Nat nl el1) (h17 : @LT.lt Nat _ x2 fl) (h18 : @LT.lt Nat _ fl rl)
    (e_numbers : m (Str.ofString "numbers") = some (.ref nl)) (e_size : m (Str.ofString "size") = some (.int 1024 tz)) (e_one : m (Str.ofString "one") = some (.ref x1)) (e_two : m (Str.ofString "two") = some (.ref x2)) (e_family : m (Str.ofString "family") = some (.ref fl)) (e_run : m (Str.ofString "run") = some (.ref rl))
   (hΓ : InOK Γ (callerA.deeper (envOf (Str.ofString "law") lawS.1.2.2 L fa (.ref cda)))) (B : Below callerA h₀ [] h₀) (F : Fr h₀ L s.heap m) (X : (Mine.hd.heap_39 w.params).In h₀)
   (N : News h₀ L s.heap ((x1, instObj 287 d1) :: (d1, dictOf (coldEs w.params k11 k12 k13 k14 k15 k16 (.int (10 : Nat) t11) (.int u12 tu12) (.ref i1) (.ref el1) .none (.bool false)) 6) :: (i1, listOf vs1.toArray ep1) :: (x2, instObj 287 d2) :: (d2, dictOf (coldEs w.params k21 k22 k23 k24 k25 k26 (.int (10 : Nat) t21) v22 (.ref i2) (.ref el2) .none (.bool false)) 6) :: (i2, listOf vs2.toArray ep2) :: (fl, ({ cls := .type "tuple", data := .seq #[.int 0 ta, .int f1 tb, .int f2 tc, .int f3 td] } : Obj)) :: (el1, listOf #[] epE) :: (rl, listOf rs.toArray ep3) :: (nl, listOf nv.toArray ep4) :: [])) (T : Top Mine.hd.view_39 (looseW Mine.hd.view_39 [Str.ofString "_Entry", Str.ofString "_NOT_FOUND", Str.ofString "cached_property", Str.ofString "_HtKeys"]) mean mg mb h₀) (hQ : ∀ h' g' tk' m', Fr h₀ L h' m' → (AllBare s.gens → AllBare g') → Q (.ret (.bool true)) { s with heap := h', gens := g', toks := tk' }) :
   wpAt (model PySem.Challenge.rw_fc5025_03.row.prog w) Γ (execs ((lawS.1.2.1).drop 8) (envOf (Str.ofString "law") lawS.1.2.2 L fa (.ref cda))) Q s := by
  have E : m = m := rfl
  replace ⟨F, E⟩ := fr_know F E e_numbers
  replace ⟨F, E⟩ := fr_know F E e_size
  replace ⟨F, E⟩ := fr_know F E e_one
  replace ⟨F, E⟩ := fr_know F E e_two
  replace ⟨F, E⟩ := fr_know F E e_family
  replace ⟨F, E⟩ := fr_know F E e_run
  clear E
  clear e_numbers e_size e_one e_two e_family e_run
  w_top off; revert B X N T F; k_fill; intro B X N T F
  dsimp only [lawS, List.drop] at hΓ ⊢
  (try k_fold)
  refine at_execs_cons (at_For hΓ ?_)
  k_steps
  rename Addr => sl
  rename List Value => ws
  rename Fr _ _ _ _ => F2
  rename News _ _ _ _ => N2
  rename @LT.lt Nat _ _ _ ∧ _ => l2
  rename IntsAre _ (List.take _ _) => hwI
  rename (List.take _ _).length = _ => hwl
  replace N2 := news_pick N2 [0, 9, 1, 2, 3, 4, 5, 6, 7, 8]
  simp only [List.filterMap_cons, List.getElem?_cons_succ, List.getElem?_cons_zero, List.filterMap_nil] at N2
  generalize hmsE : List.take (min 16 ns.length - 4) (List.drop 4 ns) = ms at *
  have hm12 : ms.length ≤ 12 := by omega
  refine atLoop_listP (σ := StA) (l := sl) (items := ws.toArray) (ep := 0) (fun c => (sl, listOf ws.toArray 0) :: (rl, listOf c.rs.toArray c.ep) :: (x1, instObj 287 d1) :: (d1, dictOf (coldEs w.params k11 k12 k13 k14 k15 k16 (.int (10 : Nat) t11) (.int u12 tu12) (.ref i1) (.ref el1) .none (.bool false)) 6) :: (i1, listOf vs1.toArray ep1) :: (x2, instObj 287 d2) :: (d2, dictOf (coldEs w.params k21 k22 k23 k24 k25 k26 (.int (10 : Nat) t21) v22 (.ref i2) (.ref el2) .none (.bool false)) 6) :: (i2, listOf vs2.toArray ep2) :: (fl, ({ cls := .type "tuple", data := .seq #[.int 0 ta, .int f1 tb, .int f2 tc, .int f3 td] } : Obj)) :: (el1, listOf #[] epE) :: [])
    (fun c => []) [] (fun (i : Nat) (c : StA) => IntsAre c.rs c.run ∧ (∀ r ∈ c.run, 0 ≤ r ∧ r < 9223372036854775808) ∧ c.run.length = n0 + i) ⟨rs, ep3, run⟩ hΓ rfl rfl rfl F2 N2 (fun c => ?lm) (List.forall_mem_nil _) ⟨hrI, hrun, hn0⟩ ?step ?done ?cls
  case lm => exact .head _
  case cls =>
    rintro i ⟨rs, ep, run⟩ - p hp
    simp only [List.mem_cons, List.not_mem_nil, or_false] at hp
    rcases hp with rfl | rfl | rfl | rfl | rfl | rfl | rfl | rfl | rfl | rfl
    all_goals exact .inl (by simp)
  case step =>
    rintro i ⟨rs, ep, run⟩ u h g tk I oi v Γ' hΓ' hv ⟨hrI, hrun, hn0⟩ hg hne hoi F N
    dsimp only at hrI hrun hn0 hne F N ⊢
    clear F2 N2
    obtain ⟨x, tx, rfl, hx⟩ := hwI.at i v (by simpa using hv)
    have hi12 : i < 12 := by
      have := (List.getElem?_eq_some_iff.mp hx).1
      omega
    have hr52 : run.length < 60 := by omega
    simp only [List.cons_append, List.nil_append] at N
    dsimp only [kstB] at F
    have hIrl : @Ne Nat I rl := Ne.symm (hne (rl, _) (.tail _ (.head _)))
    have hxm : 0 ≤ x.fmod 4 ∧ x.fmod 4 < 4 := by rw [Int.fmod_eq_emod_of_nonneg _ (by decide)]; omega
    refine at_any hΓ' ?_
    (try k_fold)
    k_steps
    · rename Fr _ _ _ _ => eF
      rename News _ _ _ _ => eN
      rw [List.push_toArray] at eN
      refine at_end (s := { s with gens := g }) (σ := StA) ⟨rs ++ [.int 0 ta], ep + 1, run ++ [0]⟩ (fun h => h) eF eN (.tail _ (.tail _ (.tail _ (.tail _ (.tail _ (.tail _ (.tail _ (.tail _ (.tail _ (.tail _ (.head _))))))))))) (fun p hp => ?_) (List.forall_mem_nil _) (fun z z1 z2 z3 => ?_) ⟨IntsAre.append hrI (.cons _ _ .nil), fun r hr => ?_, ?_⟩
      · dsimp only at hp
        simp only [List.mem_cons, List.not_mem_nil, or_false] at hp ⊢
        rcases hp with h | h | h | h | h | h | h | h | h | h <;> simp only [h, true_or, or_true]
      · simp [z1]
      · rcases List.mem_append.mp hr with h | h
        · exact hrun r h
        · rw [List.mem_singleton.mp h]
          decide
      · rw [List.length_append, hn0]; rfl
    · rename Fr _ _ _ _ => eF
      rename News _ _ _ _ => eN
      rw [List.push_toArray] at eN
      refine at_end (s := { s with gens := g }) (σ := StA) ⟨rs ++ [.int f1 tb], ep + 1, run ++ [f1]⟩ (fun h => h) eF eN (.tail _ (.tail _ (.tail _ (.tail _ (.tail _ (.tail _ (.tail _ (.tail _ (.tail _ (.tail _ (.head _))))))))))) (fun p hp => ?_) (List.forall_mem_nil _) (fun z z1 z2 z3 => ?_) ⟨IntsAre.append hrI (.cons _ _ .nil), fun r hr => ?_, ?_⟩
      · dsimp only at hp
        simp only [List.mem_cons, List.not_mem_nil, or_false] at hp ⊢
        rcases hp with h | h | h | h | h | h | h | h | h | h <;> simp only [h, true_or, or_true]
      · simp [z1]
      · rcases List.mem_append.mp hr with h | h
        · exact hrun r h
        · rw [List.mem_singleton.mp h]
          exact hf1
      · rw [List.length_append, hn0]; rfl
    · rename Fr _ _ _ _ => eF
      rename News _ _ _ _ => eN
      rw [List.push_toArray] at eN
      refine at_end (s := { s with gens := g }) (σ := StA) ⟨rs ++ [.int f2 tc], ep + 1, run ++ [f2]⟩ (fun h => h) eF eN (.tail _ (.tail _ (.tail _ (.tail _ (.tail _ (.tail _ (.tail _ (.tail _ (.tail _ (.tail _ (.head _))))))))))) (fun p hp => ?_) (List.forall_mem_nil _) (fun z z1 z2 z3 => ?_) ⟨IntsAre.append hrI (.cons _ _ .nil), fun r hr => ?_, ?_⟩
      · dsimp only at hp
        simp only [List.mem_cons, List.not_mem_nil, or_false] at hp ⊢
        rcases hp with h | h | h | h | h | h | h | h | h | h <;> simp only [h, true_or, or_true]
      · simp [z1]
      · rcases List.mem_append.mp hr with h | h
        · exact hrun r h
        · rw [List.mem_singleton.mp h]
          exact hf2
      · rw [List.length_append, hn0]; rfl
    · rename Fr _ _ _ _ => eF
      rename News _ _ _ _ => eN
      rw [List.push_toArray] at eN
      refine at_end (s := { s with gens := g }) (σ := StA) ⟨rs ++ [.int f3 td], ep + 1, run ++ [f3]⟩ (fun h => h) eF eN (.tail _ (.tail _ (.tail _ (.tail _ (.tail _ (.tail _ (.tail _ (.tail _ (.tail _ (.tail _ (.head _))))))))))) (fun p hp => ?_) (List.forall_mem_nil _) (fun z z1 z2 z3 => ?_) ⟨IntsAre.append hrI (.cons _ _ .nil), fun r hr => ?_, ?_⟩
      · dsimp only at hp
        simp only [List.mem_cons, List.not_mem_nil, or_false] at hp ⊢
        rcases hp with h | h | h | h | h | h | h | h | h | h <;> simp only [h, true_or, or_true]
      · simp [z1]
      · rcases List.mem_append.mp hr with h | h
        · exact hrun r h
        · rw [List.mem_singleton.mp h]
          exact hf3
      · rw [List.length_append, hn0]; rfl
  case done =>
    clear F2 N2
    rintro ⟨rs, ep, run⟩ u h g tk ⟨hrI, hrun, hn0⟩ hg F N
    dsimp only at hrI hrun hn0 F N ⊢
    rw [List.size_toArray, hwI.length] at hn0
    dsimp only [kstB] at F
    refine at_execs_consA hΓ ?_
    (try k_fold)
    k_steps
    (try dsimp only)
    (try k_fold)
    refine at_execs_consA hΓ ?_
    k_steps
    (try dsimp only)
    (try k_fold)
    refine at_execs_consA hΓ ?_
    k_steps
    (try dsimp only)
    (try k_fold)
    refine at_execs_consA hΓ ?_
    k_steps
    (try dsimp only)
    (try k_fold)
    rename Fr h₀ L _ _ => F8
    rename News h₀ L _ _ => N8
    rename @LT.lt Nat _ sl _ ∧ _ => lb
    rename Obj.IsDictOf (PySem.intKind _ _) _ _ => hbd
    rename PyProof.V.FlatPairs PyData.int _ _ => hbf
    replace N8 := news_pick N8 [3, 4, 5, 6, 7, 8, 9, 2, 0, 10]
    simp only [List.filterMap_cons, List.getElem?_cons_succ, List.getElem?_cons_zero, List.filterMap_nil] at N8
    refine stageC (s := { s with heap := _, gens := g, toks := _ }) (tz := tz) (fam := [0, f1, f2, f3]) (fv := [.int 0 ta, .int f1 tb, .int f2 tc, .int f3 td]) hrun (by omega) hrI hi1 hi2 ⟨_, hbd, hbf⟩ h12 h13 h14 h15 h16 h17 h18 lb.2.1 hlow hel ⟨rfl, _, rfl⟩ (.cons _ _ (.cons _ _ (.cons _ _ (.cons _ _ .nil)))) (List.forall_mem_cons.mpr ⟨by decide, List.forall_mem_cons.mpr ⟨hf1, List.forall_mem_cons.mpr ⟨hf2, List.forall_mem_cons.mpr ⟨hf3, List.forall_mem_nil _⟩⟩⟩⟩) rfl (by omega)
      rfl rfl ?e rfl rfl rfl rfl rfl rfl hΓ B F8 X N8 T fun h' g' tk' m' F' hg' => hQ h' g' tk' m' F' fun hb => hg' (hg hb)
    case e => rw [show ((2 : Int) ^ 10) = 1024 from by decide]; rfl
set_option maxRecDepth 100000 in
set_option maxHeartbeats 8000000 in
theorem stageA {w : World} {mean : ExcName → Option Value} {mg mb : Str → Option Value} {Γ : Ctx} {h₀ : Heap} {L fa cda : Addr} {m : Str → Option Value} {s : Shared} {Q : Flow → Shared → Prop} {x1 d1 i1 el1 x2 d2 i2 el2 nl : Addr} {k11 k12 k13 k14 k15 k16 t11 k21 k22 k23 k24 k25 k26 t21 tz : Tok} {v22 : Value} {u12 : Int} {tu12 : Tok} {vs1 vs2 : List Value} {ep1 ep2 epE : Nat} {nv : List Value} {ns : List Int} {hd0 : Int} {th : Tok} {ep4 : Nat}
   (hnI : IntsAre nv ns) (hlo9 : 12 ≤ ns.length) (hhi9 : ns.length ≤ 75) (hbits : ∀ n ∈ ns, Builtin.Int.intBits n ≤ 2 ^ 20) (hi1 : IntsAre vs1 (List.replicate (2 ^ 10) (-1))) (hi2 : IntsAre vs2 (List.replicate (2 ^ 10) (-1)))
   (h12 : @LT.lt Nat _ i1 d1) (h13 : @LT.lt Nat _ d1 x1) (h14 : @LT.lt Nat _ x1 i2) (h15 : @LT.lt Nat _ i2 d2) (h16 : @LT.lt Nat _ d2 x2) (hlow : @LT.lt Nat _ 1 i1) (hel : @LT.lt Nat _ el1 i1) (hnl : @LT.lt Nat _ nl i1) (hne : @Ne Nat nl el1)
    (e_numbers : m (Str.ofString "numbers") = some (.ref nl)) (e_head : m (Str.ofString "head") = some (.int hd0 th)) (e_size : m (Str.ofString "size") = some (.int 1024 tz)) (e_one : m (Str.ofString "one") = some (.ref x1)) (e_two : m (Str.ofString "two") = some (.ref x2))
   (hΓ : InOK Γ (callerA.deeper (envOf (Str.ofString "law") lawS.1.2.2 L fa (.ref cda)))) (B : Below callerA h₀ [] h₀) (F : Fr h₀ L s.heap m) (X : (Mine.hd.heap_39 w.params).In h₀)
   (N : News h₀ L s.heap ((x1, instObj 287 d1) :: (d1, dictOf (coldEs w.params k11 k12 k13 k14 k15 k16 (.int (10 : Nat) t11) (.int u12 tu12) (.ref i1) (.ref el1) .none (.bool false)) 6) :: (i1, listOf vs1.toArray ep1) :: (x2, instObj 287 d2) :: (d2, dictOf (coldEs w.params k21 k22 k23 k24 k25 k26 (.int (10 : Nat) t21) v22 (.ref i2) (.ref el2) .none (.bool false)) 6) :: (i2, listOf vs2.toArray ep2) :: (el1, listOf #[] epE) :: (nl, listOf nv.toArray ep4) :: [])) (T : Top Mine.hd.view_39 (looseW Mine.hd.view_39 [Str.ofString "_Entry", Str.ofString "_NOT_FOUND", Str.ofString "cached_property", Str.ofString "_HtKeys"]) mean mg mb h₀) (hQ : ∀ h' g' tk' m', Fr h₀ L h' m' → (AllBare s.gens → AllBare g') → Q (.ret (.bool true)) { s with heap := h', gens := g', toks := tk' }) :
   wpAt (model PySem.Challenge.rw_fc5025_03.row.prog w) Γ (execs ((lawS.1.2.1).drop 5) (envOf (Str.ofString "law") lawS.1.2.2 L fa (.ref cda))) Q s := by
  have E : m = m := rfl
  replace ⟨F, E⟩ := fr_know F E e_numbers
  replace ⟨F, E⟩ := fr_know F E e_head
  replace ⟨F, E⟩ := fr_know F E e_size
  replace ⟨F, E⟩ := fr_know F E e_one
  replace ⟨F, E⟩ := fr_know F E e_two
  clear E
  clear e_numbers e_head e_size e_one e_two
  w_top off; revert B X N T F; k_fill; intro B X N T F
  dsimp only [lawS, List.drop] at hΓ ⊢
  (try k_fold)
  have hb3 : Builtin.Int.intBits (ns.getD (Int.toNat 3) 0) ≤ 2 ^ 20 := hbits _ (by rw [List.getD_eq_getElem?_getD, List.getElem?_eq_getElem (by show 3 < ns.length; omega)]; exact List.getElem_mem _)
  refine at_execs_consA hΓ ?_
  k_steps
  (try dsimp only)
  (try k_fold)
  refine at_execs_consA hΓ ?_
  k_steps
  (try dsimp only)
  (try k_fold)
  have hh6 : 0 ≤ hd0.fmod 6 ∧ hd0.fmod 6 < 6 := by rw [Int.fmod_eq_emod_of_nonneg _ (by decide)]; omega
  refine at_execs_consA hΓ ?_
  k_steps
  (try dsimp only)
  (try k_fold)
  rename Fr h₀ L _ _ => F8
  rename News h₀ L _ _ => N8
  rename @LT.lt Nat _ _ _ ∧ _ => lR
  rename @LT.lt Nat _ x1 _ ∧ _ => lF
  rename IntsAre (List.flatten _) (List.flatten _) => iR
  replace N8 := news_pick N8 [3, 4, 5, 6, 7, 8, 2, 9, 0, 10]
  simp only [List.filterMap_cons, List.getElem?_cons_succ, List.getElem?_cons_zero, List.filterMap_nil] at N8
  have hf1 : 0 ≤ (ns.getD (Int.toNat 1) 0).fmod 32 ∧ (ns.getD (Int.toNat 1) 0).fmod 32 < 9223372036854775808 := by rw [Int.fmod_eq_emod_of_nonneg _ (by decide)]; omega
  have hf2 : 0 ≤ (ns.getD (Int.toNat 2) 0).fmod 1024 ∧ (ns.getD (Int.toNat 2) 0).fmod 1024 < 9223372036854775808 := by rw [Int.fmod_eq_emod_of_nonneg _ (by decide)]; omega
  have hf3 : 0 ≤ (ns.getD (Int.toNat 3) 0 * ns.getD (Int.toNat 3) 0).fmod 9223372036854775808 ∧ (ns.getD (Int.toNat 3) 0 * ns.getD (Int.toNat 3) 0).fmod 9223372036854775808 < 9223372036854775808 := by
    rw [Int.fmod_eq_emod_of_nonneg _ (by decide)]
    exact ⟨Int.emod_nonneg _ (by decide), Int.emod_lt_of_pos _ (by decide)⟩
  have hq : ((hd0.fdiv 6).fmod 3).toNat < 3 := by omega
  generalize (ns.getD (Int.toNat 1) 0).fmod 32 = f1 at *
  generalize (ns.getD (Int.toNat 2) 0).fmod 1024 = f2 at *
  generalize (ns.getD (Int.toNat 3) 0 * ns.getD (Int.toNat 3) 0).fmod 9223372036854775808 = f3 at *
  generalize ((hd0.fdiv 6).fmod 3).toNat = q at *
  have hl : 0 ≤ [0, f1, f2, f3].getD q 0 ∧ [0, f1, f2, f3].getD q 0 < 9223372036854775808 := by
    have h3 : q = 0 ∨ q = 1 ∨ q = 2 := by omega
    rcases h3 with rfl | rfl | rfl
    · exact (by decide : (0 : Int) ≤ 0 ∧ (0 : Int) < 9223372036854775808)
    · exact hf1
    · exact hf2
  refine stageA2 (n0 := (34 + hd0.fmod 6).toNat) hnI hlo9 hhi9 iR ?r1 ?r2 (by omega) (by omega) hf1 hf2 hf3 hi1 hi2 h12 h13 h14 h15 h16 hlow hel hnl hne lF.2.2.2.1 lR.2.1 rfl rfl rfl rfl rfl rfl hΓ B F8 X N8 T hQ
  case r1 =>
    intro r hr
    rw [flat_one] at hr
    rw [List.eq_of_mem_replicate hr]
    exact hl
  case r2 => rw [flat_one, List.length_replicate]
end Mine
end

section
open PySem PySem.W PySem.Calls PyProof.Rows
namespace Mine
local macro_rules | `(tactic| walk_at "MinePad") => `(tactic| skip)
local macro_rules | `(tactic| walk_at "getAttr ref") => `(tactic| (k_here; k_dflt (refine' get_lateS ?k1 ?k2 ?k3 ?k4 ?k5 ?k6 ?k7 ?k8 ?k9 ?k10 ?_; (case k1 => k_asm); (case k2 => k_asm); (case k3 => k_inst); (case k4 => k_is); (case k5 => k_is); (case k6 => k_is); (case k7 => k_is); (case k8 => k_is); (case k9 => decide +kernel); (case k10 => k_get))))
local macro_rules | `(tactic| walk_at "getAttr ref") => `(tactic| (k_here; k_dflt (first
  | refine' get_shadowS ?k1 ?k2 ?k3 ?k4 ?k5 ?k6 ?k7 ?k8 ?k9 ?k10 ?_; (case k1 => k_asm); (case k2 => k_asm); (case k3 => k_inst); (case k4 => k_is); (case k5 => k_is); (case k6 => k_is); (case k7 => k_is); (case k8 => k_is); (case k9 => k_get); (case k10 => k_handed); k_whole
  | refine' get_ownS ?k1 ?k2 ?k3 ?k4 ?k5 ?k6 ?k7 ?k8 ?k9 ?_; (case k1 => k_asm); (case k2 => k_asm); (case k3 => k_inst); (case k4 => k_is); (case k5 => k_is); (case k6 => k_is); (case k7 => k_is); (case k8 => k_get); (case k9 => k_handed); k_whole)))
local macro_rules | `(tactic| walk_at "getAttr ref") => `(tactic| (k_here; (with_reducible show wpAny _ _ (getAttr (Value.ref _) (PySem.Str.ofString "__dict__") _) _ _ _); k_dflt (refine' get_dictS ?k1 ?k2 ?k3 ?k4 ?k5 ?k6 ?k7 ?k8 ?k9 ?k10 ?k11 ?k12 ?k13 ?k14 ?_; (case k1 => k_asm); (case k2 => k_asm); (case k3 => k_asm); (case k4 => k_inst); (case k5 => k_is); (case k6 => k_is); (case k7 => k_is); (case k8 => k_is); (case k9 => k_is); (case k10 => k_is); (case k11 => k_is); (case k12 => k_is); (case k13 => k_is); (case k14 => k_upd); k_whole; intro h' F' N'; (try k_sweep))))
local macro_rules | `(tactic| walk_at "getMethod ref") => `(tactic| (k_here; k_dflt (first
  | refine' method_instS ?k1 ?k2 ?k3 ?k4 ?k5 ?k6 ?k7 ?_; (case k1 => k_asm); (case k2 => k_asm); (case k3 => k_inst); (case k4 => k_is); (case k5 => k_is); (case k6 => k_is); (case k7 => k_get); k_whole
  | refine' method_getS ?k1 ?k2 ?_; (case k1 => k_asm); (case k2 => k_mem); k_whole)))
local macro_rules | `(tactic| walk_at "setAttr ref") => `(tactic| (k_here; k_dflt (refine' set_dictS ?k1 ?k2 ?k3 ?k4 ?k5 ?k6 ?k7 ?k8 ?k9 ?k10 ?k11 ?k12 ?k13 ?_; (case k1 => k_asm); (case k2 => k_asm); (case k3 => k_asm); (case k4 => k_inst); (case k5 => exact rfl); (case k6 => k_is); (case k7 => k_is); (case k8 => k_is); (case k9 => k_is); (case k10 => k_get); (case k11 => k_put); (case k12 => k_upd); (case k13 => exact Nat.le_of_ble_eq_true rfl); k_whole; intro h' F' N'; (try k_sweep))))
local macro_rules | `(tactic| walk_at "call builtin:dict.get") => `(tactic| (k_here; k_dflt (refine' call_get_missS ?k1 ?k2 ?k3 ?k4 ?k5 ?_; (case k1 => k_asm); (case k2 => k_mem); (case k3 => assumption); (case k4 => k_keys); (case k5 => k_get); k_whole)))
local macro_rules | `(tactic| walk_at "setItem ref str") => `(tactic| (k_here; k_dflt (refine' setItem_newS ?k1 ?k2 ?k3 ?k4 ?k5 ?k6 ?_; (case k1 => k_asm); (case k2 => k_asm); (case k3 => k_upd); (case k4 => k_keys); (case k5 => k_get); (case k6 => exact Nat.le_of_ble_eq_true rfl); k_whole; intro h' F' N'; (try dsimp only [List.cons_append, List.nil_append] at N'); (try k_sweep))))
local macro_rules | `(tactic| walk_at "exec While") => `(tactic| (k_here; refine Hold.out ?_))
local macro_rules | `(tactic| walk_at "KswEnd") => `(tactic| (refine Hold.out ?_))
local macro_rules | `(tactic| walk_at "binaryOp BitAnd int int") => `(tactic| first | with_reducible refine and_mask ?_ | with_reducible refine and_mask' ?_)
local macro_rules | `(tactic| walk_at "call ref") => `(tactic| (k_here; k_dflt (refine wpAny_call ?_; refine' code_def ?k1 ?k2 ?k3 ?k4 ?k5 ?kA ?kF ?kK ?k6 ?k7 ?k8 ?k9 ?kB ?_ ?c2 ?c3 ?c4 ?c5; (case kA => exact rfl); (case kF => exact rfl); (case kK => first | exact rfl | assumption); (case k1 => k_asm); (case k2 => k_asm); (case k3 => k_asm); (case k4 => k_asm); (case k5 => k_asm); (case k6 => k_is); (case k7 => k_is); (case k8 => ktr_room); (case k9 => first | exact BindsTo.of_eq rfl | exact binds_K (by k_in) rfl (by k_is) rfl rfl rfl); (case c5 => decide); (case kB => exact locs rfl); (case c2 => exact rfl); (case c3 => exact rfl); (case c4 => exact rfl); k_whole; intro g' L' h' FG' F' N' B' X' T'; (try dsimp only); (try k_lift B'); (try k_fold))))
local macro_rules | `(tactic| walk_at "inplaceOp RShift int int") => `(tactic| with_reducible refine shr5 ?_)
local macro_rules | `(tactic| walk_at "binaryOp LShift int int") => `(tactic| (with_reducible refine shl_one ?a ?_; (case a => omega)))
local macro_rules | `(tactic| k_all) => `(tactic| assumption)
theorem shl_ten {prog : Program} {w : World} {A : Around} {E : Value → Shared → Prop} {s : Shared} {t u : Tok} {lg : Nat} {Q : Value → Shared → Prop} (hl : lg = 10) (h : Q (.int (2 ^ lg) s.toks) { s with toks := s.toks + 1 }) :
    wpAny (model prog w) A (binaryOp .LShift (.int 1 t) (.int 10 u)) Q E s := by
  subst hl
  exact shl_one (k := 10) (by decide) h
local macro_rules | `(tactic| walk_at "binaryOp LShift int int") => `(tactic| (with_reducible refine shl_ten (by assumption) ?_))
set_option maxRecDepth 100000 in
set_option maxHeartbeats 8000000 in
theorem stageB1 {w : World} {mean : ExcName → Option Value} {mg mb : Str → Option Value} {Γ : Ctx} {h₀ : Heap} {L fa cda : Addr} {m : Str → Option Value} {s : Shared} {Q : Flow → Shared → Prop} {x1 d1 i1 el1 nl : Addr} {k11 k12 k13 k14 k15 k16 t11 tz : Tok} {u12 : Int} {tu12 : Tok} {vs1 : List Value} {ep1 epE : Nat} {nv : List Value} {ns : List Int} {hd0 : Int} {th : Tok} {ep4 : Nat}
   (hnI : IntsAre nv ns) (hlo9 : 12 ≤ ns.length) (hhi9 : ns.length ≤ 75) (hbits : ∀ n ∈ ns, Builtin.Int.intBits n ≤ 2 ^ 20) (hi1 : IntsAre vs1 (List.replicate (2 ^ 10) (-1)))
   (h12 : @LT.lt Nat _ i1 d1) (h13 : @LT.lt Nat _ d1 x1) (hlow : @LT.lt Nat _ 1 i1) (hel : @LT.lt Nat _ el1 i1) (hnl : @LT.lt Nat _ nl i1) (hne : @Ne Nat nl el1)
    (e_numbers : m (Str.ofString "numbers") = some (.ref nl)) (e_head : m (Str.ofString "head") = some (.int hd0 th)) (e_size : m (Str.ofString "size") = some (.int 1024 tz)) (e_one : m (Str.ofString "one") = some (.ref x1))
   (hΓ : InOK Γ (callerA.deeper (envOf (Str.ofString "law") lawS.1.2.2 L fa (.ref cda)))) (B : Below callerA h₀ [] h₀) (F : Fr h₀ L s.heap m) (X : (Mine.hd.heap_39 w.params).In h₀)
   (N : News h₀ L s.heap ((x1, instObj 287 d1) :: (d1, dictOf (coldEs w.params k11 k12 k13 k14 k15 k16 (.int (10 : Nat) t11) (.int u12 tu12) (.ref i1) (.ref el1) .none (.bool false)) 6) :: (i1, listOf vs1.toArray ep1) :: (el1, listOf #[] epE) :: (nl, listOf nv.toArray ep4) :: [])) (T : Top Mine.hd.view_39 (looseW Mine.hd.view_39 [Str.ofString "_Entry", Str.ofString "_NOT_FOUND", Str.ofString "cached_property", Str.ofString "_HtKeys"]) mean mg mb h₀) (hQ : ∀ h' g' tk' m', Fr h₀ L h' m' → (AllBare s.gens → AllBare g') → Q (.ret (.bool true)) { s with heap := h', gens := g', toks := tk' }) :
   wpAt (model PySem.Challenge.rw_fc5025_03.row.prog w) Γ (execs ((lawS.1.2.1).drop 4) (envOf (Str.ofString "law") lawS.1.2.2 L fa (.ref cda))) Q s := by
  have E : m = m := rfl
  replace ⟨F, E⟩ := fr_know F E e_numbers
  replace ⟨F, E⟩ := fr_know F E e_head
  replace ⟨F, E⟩ := fr_know F E e_size
  replace ⟨F, E⟩ := fr_know F E e_one
  clear E
  clear e_numbers e_head e_size e_one
  obtain ⟨lg, hlg⟩ : ∃ lg : Nat, lg = 10 := ⟨10, rfl⟩
  have hz1 : (2 : Int) ^ lg ≤ 1024 := by rw [hlg]; decide
  have hz0 := pow2_pos lg
  w_top off; revert B X N T F; k_fill; intro B X N T F
  dsimp only [lawS, List.drop] at hΓ ⊢
  (try k_fold)
  refine at_execs_consA hΓ ?_
  k_steps
  (try dsimp only)
  (try k_fold)
  rename Fr h₀ L _ _ => F8
  rename News h₀ L _ _ => N8
  rename @LT.lt Nat _ _ _ ∧ _ => lD
  rename _ ∧ _ ∧ _ ∧ _ ∧ _ ∧ _ ∧ _ ∧ @LT.lt Nat _ _ _ => lI
  rename @LT.lt Nat _ _ _ => lX
  rename IntsAre (List.flatten _) (List.flatten _) => iI
  replace N8 := news_pick N8 [6, 7, 8, 0, 1, 2, 9, 10]
  simp only [List.filterMap_cons, List.getElem?_cons_succ, List.getElem?_cons_zero, List.filterMap_nil] at N8
  have hsz : ((2 : Int) ^ lg).toNat = 2 ^ 10 := by rw [hlg]; decide
  rw [flat_one (-1 : Int), hsz] at iI
  rw [hsz] at N8
  exact stageA hnI hlo9 hhi9 hbits hi1 iI h12 h13 lI.2.2.2.1 lD.1 lX hlow hel hnl hne rfl rfl rfl rfl rfl hΓ B F8 X N8 T hQ
end Mine
end

section
open PySem PySem.W PySem.Calls PyProof.Rows
namespace Mine
local macro_rules | `(tactic| walk_at "MinePad") => `(tactic| skip)
local macro_rules | `(tactic| walk_at "getAttr ref") => `(tactic| (k_here; k_dflt (refine' get_lateS ?k1 ?k2 ?k3 ?k4 ?k5 ?k6 ?k7 ?k8 ?k9 ?k10 ?_; (case k1 => k_asm); (case k2 => k_asm); (case k3 => k_inst); (case k4 => k_is); (case k5 => k_is); (case k6 => k_is); (case k7 => k_is); (case k8 => k_is); (case k9 => decide +kernel); (case k10 => k_get))))
local macro_rules | `(tactic| walk_at "getAttr ref") => `(tactic| (k_here; k_dflt (first
  | refine' get_shadowS ?k1 ?k2 ?k3 ?k4 ?k5 ?k6 ?k7 ?k8 ?k9 ?k10 ?_; (case k1 => k_asm); (case k2 => k_asm); (case k3 => k_inst); (case k4 => k_is); (case k5 => k_is); (case k6 => k_is); (case k7 => k_is); (case k8 => k_is); (case k9 => k_get); (case k10 => k_handed); k_whole
  | refine' get_ownS ?k1 ?k2 ?k3 ?k4 ?k5 ?k6 ?k7 ?k8 ?k9 ?_; (case k1 => k_asm); (case k2 => k_asm); (case k3 => k_inst); (case k4 => k_is); (case k5 => k_is); (case k6 => k_is); (case k7 => k_is); (case k8 => k_get); (case k9 => k_handed); k_whole)))
local macro_rules | `(tactic| walk_at "getAttr ref") => `(tactic| (k_here; (with_reducible show wpAny _ _ (getAttr (Value.ref _) (PySem.Str.ofString "__dict__") _) _ _ _); k_dflt (refine' get_dictS ?k1 ?k2 ?k3 ?k4 ?k5 ?k6 ?k7 ?k8 ?k9 ?k10 ?k11 ?k12 ?k13 ?k14 ?_; (case k1 => k_asm); (case k2 => k_asm); (case k3 => k_asm); (case k4 => k_inst); (case k5 => k_is); (case k6 => k_is); (case k7 => k_is); (case k8 => k_is); (case k9 => k_is); (case k10 => k_is); (case k11 => k_is); (case k12 => k_is); (case k13 => k_is); (case k14 => k_upd); k_whole; intro h' F' N'; (try k_sweep))))
local macro_rules | `(tactic| walk_at "getMethod ref") => `(tactic| (k_here; k_dflt (first
  | refine' method_instS ?k1 ?k2 ?k3 ?k4 ?k5 ?k6 ?k7 ?_; (case k1 => k_asm); (case k2 => k_asm); (case k3 => k_inst); (case k4 => k_is); (case k5 => k_is); (case k6 => k_is); (case k7 => k_get); k_whole
  | refine' method_getS ?k1 ?k2 ?_; (case k1 => k_asm); (case k2 => k_mem); k_whole)))
local macro_rules | `(tactic| walk_at "setAttr ref") => `(tactic| (k_here; k_dflt (refine' set_dictS ?k1 ?k2 ?k3 ?k4 ?k5 ?k6 ?k7 ?k8 ?k9 ?k10 ?k11 ?k12 ?k13 ?_; (case k1 => k_asm); (case k2 => k_asm); (case k3 => k_asm); (case k4 => k_inst); (case k5 => exact rfl); (case k6 => k_is); (case k7 => k_is); (case k8 => k_is); (case k9 => k_is); (case k10 => k_get); (case k11 => k_put); (case k12 => k_upd); (case k13 => exact Nat.le_of_ble_eq_true rfl); k_whole; intro h' F' N'; (try k_sweep))))
local macro_rules | `(tactic| walk_at "call builtin:dict.get") => `(tactic| (k_here; k_dflt (refine' call_get_missS ?k1 ?k2 ?k3 ?k4 ?k5 ?_; (case k1 => k_asm); (case k2 => k_mem); (case k3 => assumption); (case k4 => k_keys); (case k5 => k_get); k_whole)))
local macro_rules | `(tactic| walk_at "setItem ref str") => `(tactic| (k_here; k_dflt (refine' setItem_newS ?k1 ?k2 ?k3 ?k4 ?k5 ?k6 ?_; (case k1 => k_asm); (case k2 => k_asm); (case k3 => k_upd); (case k4 => k_keys); (case k5 => k_get); (case k6 => exact Nat.le_of_ble_eq_true rfl); k_whole; intro h' F' N'; (try dsimp only [List.cons_append, List.nil_append] at N'); (try k_sweep))))
local macro_rules | `(tactic| walk_at "exec While") => `(tactic| (k_here; refine Hold.out ?_))
local macro_rules | `(tactic| walk_at "KswEnd") => `(tactic| (refine Hold.out ?_))
local macro_rules | `(tactic| walk_at "binaryOp BitAnd int int") => `(tactic| first | with_reducible refine and_mask ?_ | with_reducible refine and_mask' ?_)
local macro_rules | `(tactic| walk_at "call ref") => `(tactic| (k_here; k_dflt (refine wpAny_call ?_; refine' code_def ?k1 ?k2 ?k3 ?k4 ?k5 ?kA ?kF ?kK ?k6 ?k7 ?k8 ?k9 ?kB ?_ ?c2 ?c3 ?c4 ?c5; (case kA => exact rfl); (case kF => exact rfl); (case kK => first | exact rfl | assumption); (case k1 => k_asm); (case k2 => k_asm); (case k3 => k_asm); (case k4 => k_asm); (case k5 => k_asm); (case k6 => k_is); (case k7 => k_is); (case k8 => ktr_room); (case k9 => first | exact BindsTo.of_eq rfl | exact binds_K (by k_in) rfl (by k_is) rfl rfl rfl); (case c5 => decide); (case kB => exact locs rfl); (case c2 => exact rfl); (case c3 => exact rfl); (case c4 => exact rfl); k_whole; intro g' L' h' FG' F' N' B' X' T'; (try dsimp only); (try k_lift B'); (try k_fold))))
local macro_rules | `(tactic| walk_at "inplaceOp RShift int int") => `(tactic| with_reducible refine shr5 ?_)
local macro_rules | `(tactic| walk_at "binaryOp LShift int int") => `(tactic| (with_reducible refine shl_one ?a ?_; (case a => omega)))
local macro_rules | `(tactic| k_all) => `(tactic| assumption)
local macro_rules | `(tactic| walk_at "call type:list") => `(tactic| (k_here; (with_reducible show wpAny _ _ (call (Value.type _) [Value.ref 295]) _ _ _); refine Hold.out ?_))
theorem news_none {h₀ h : Heap} {L : Addr} {m : Str → Option Value} (_F : Fr h₀ L h m) : News h₀ L h [] := fun p hp => by cases hp
theorem fr_one {h₀ h : Heap} {L : Addr} {n : Str} {v : Value} (F : Fr h₀ L h (fun x => List.lookup x [(n, v)].reverse)) : Fr h₀ L h (fun y => if y = n then some v else none) := by
  have e : (fun x => List.lookup x [(n, v)].reverse) = fun y => if y = n then some v else none := by
    funext y
    by_cases hy : y = n
    · subst hy; simp
    · have : (y == n) = false := beq_eq_false_iff_ne.mpr hy
      simp [List.lookup, this, hy]
  rw [← e]; exact F
local macro_rules | `(tactic| walk_at "binaryOp LShift int int") => `(tactic| (with_reducible refine shl_ten (by assumption) ?_))
set_option maxRecDepth 100000 in
set_option maxHeartbeats 8000000 in
theorem main : PySem.Challenge.rw_fc5025_03.Holds := by
  refine Mine.hd ?_
  w_top off
  k_fill
  intro w s₀ s₁ mg mb G Y fa o pm cd doc dV kV ho hd hcd hD hmg hg args vals as hpre hlay hrd hwl hlo
  have KX := kIn_of Y
  have X := (Ground.X G).1
  have V := (Ground.X G).2
  try w_nolog (first | (have GL := glob_more (Ground.glob G (by first | k_qdec | decide +kernel) (by first | k_qdec | decide +kernel)) V) | (have GL := glob_more (Ground.glob G (by decide +kernel)) V))
  refine Ground.open G ?_
  intro T B D TE TW
  try (refine guard_noD D (by decide +kernel) ?_; clear D)
  obtain ⟨_, _, M⟩ := bmod_of_top T
  have TA := at_of_top T
  try (obtain ⟨_, _, he, B0⟩ := based_of_top T rfl hmg ho hd; have he' : cd = _ := he; subst he'; clear he)
  clear hmg
  wrow_args hpre hlay hrd hwl hlo
  have he := Dflts.none hD rfl; subst he
  have he := Dflts.noKw hD; subst he
  refine at_call fun p0 => ?_
  have K0 := below_caller (Top.heap T)
  refine at_law rfl (Γ0_in.enter _ p0) (by decide) ho (fd_plain hd) (Top.nolimit T) hcd (BindsTo.of_eq rfl) (locs rfl) fun h₁ Γ1 hΓ1 F => ?_
  have N0 := news_none F
  replace F := fr_one F
  clear hd TA
  k_drop
  clear G Y TE TW B M GL V X ho
  (try clear hD); (try clear hsh); (try clear hcond)
  (try k_fold)
  refine at_execs_consA hΓ1 ?_
  k_steps
  refine Hold.mk ?_
  k_dflt (refine' ints_ofK [3, 40, 1, 2, 3, 0, 1, 2, 3, 0, 2, 1] ?k1 ?k2 ?k3 ?k4 ?k5 ?k6 ?_; (case k1 => k_asm); (case k2 => k_asm); (case k3 => k_asm); (case k4 => k_is); (case k5 => decide); (case k6 => rfl); k_whole)
  intro D9 c9 h9 vs9 F9 N9 l9 hM
  (try k_lt l9)
  (try k_sweep)
  k_steps
  rename List Int => sc
  rename IntsAre _ (sc ++ _) => hI9
  have hlen9 : (sc ++ [3, 40, 1, 2, 3, 0, 1, 2, 3, 0, 2, 1]).length = sc.length + 12 := by simp
  have hsc : sc.length ≤ 63 := by have : ¬ ((63 : Nat) : Int) < sc.length := by assumption
                                  omega
  generalize hns : sc ++ [3, 40, 1, 2, 3, 0, 1, 2, 3, 0, 2, 1] = ns at *
  have hlo9 : 12 ≤ ns.length := by omega
  have hhi9 : ns.length ≤ 75 := by omega
  clear hlen9 hM l9
  obtain ⟨lg, hlg⟩ : ∃ lg : Nat, lg = 10 := ⟨10, rfl⟩
  have hz1 : (2 : Int) ^ lg ≤ 1024 := by rw [hlg]; decide
  have hz0 := pow2_pos lg
  refine at_execs_consA hΓ1 ?_
  k_steps
  (try dsimp only)
  (try k_fold)
  refine at_execs_consA hΓ1 ?_
  k_steps
  (try dsimp only)
  (try k_fold)
  refine at_execs_consA hΓ1 ?_
  k_steps
  (try dsimp only)
  (try k_fold)
  rename Fr T.heap _ _ _ => F8
  rename News T.heap _ _ _ => N8
  rename @LT.lt Nat _ _ _ ∧ _ => lD
  rename _ ∧ _ ∧ _ ∧ _ ∧ _ ∧ @LT.lt Nat _ _ _ => lI
  rename _ ∧ _ ∧ _ ∧ _ ∧ @LT.lt Nat _ _ _ => lJ
  rename _ ∧ _ ∧ _ ∧ @LT.lt Nat _ _ _ => lK
  rename @LT.lt Nat _ _ _ => lX
  rename IntsAre (List.flatten _) (List.flatten _) => iI
  rename PyData.layable0 (PyData.list (List.map PyData.int sc)) = true => hlay
  replace N8 := news_pick N8 [0, 1, 2, 4, 6]
  simp only [List.filterMap_cons, List.getElem?_cons_succ, List.getElem?_cons_zero, List.filterMap_nil] at N8
  have hsz : ((2 : Int) ^ lg).toNat = 2 ^ 10 := by rw [hlg]; decide
  rw [flat_one (-1 : Int), hsz] at iI
  rw [hsz] at N8
  have hbits : ∀ n ∈ ns, Builtin.Int.intBits n ≤ 2 ^ 20 := fun n hn => by
    rw [← hns] at hn
    rcases List.mem_append.mp hn with h1 | h1
    · exact PyData.bits_item_of_ints hlay h1
    · simp only [List.mem_cons, List.not_mem_nil, or_false] at h1
      rcases h1 with h | h | h | h | h | h | h | h | h | h | h | h <;> (rw [h]; decide +kernel)
  have b1 := lI.1
  have b2 := lI.2.1
  have b3 := lI.2.2.2.1
  have b4 := lJ.1
  have b5 := lK.1
  have b6 := lK.2.1
  clear lJ lK
  refine stageB1 hI9 hlo9 hhi9 hbits iI lD.1 lX ?lw b2 b3 ?ne rfl rfl rfl rfl hΓ1 K0 F8 KX N8 T ?ret
  case lw => clear hI9 iI F8 N8; omega
  case ne => exact Nat.ne_of_lt b6
  case ret =>
    intro h' g' tk' m' Fz hgz
    exact good_true Fz (hgz (AllBare.of_eq hg)) (raisesW_false (by wrow_none_raised)) (postW_of (by wrow_shape) (by wtm_val) (by str_meet; first | done | w_fin)) rfl
end Mine
end

theorem PySem.Challenge.cw_fc5025_03_holds : PySem.Challenge.rw_fc5025_03.Holds := by
  exact Mine.main
