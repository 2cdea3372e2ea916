import PyProof.Rows.All
import Wide.All
import OpenK.AllK
import Wide.FinOn
import Lean
import PySem.Challenge.RW_fc5025_04
set_option Elab.async false
section
open PySem PySem.W PySem.Calls PyProof.Rows
namespace Mine
abbrev Led := List (Addr × Obj)
structure Hold (P : Prop) : Prop where
  out : P
abbrev ent (P : Params) (x : Str) (t : Tok) (v : Value) : DictEntry := ⟨PyData.keyHash P x, .str x t, v⟩
abbrev tabEs (P : Params) (k1 k2 k3 k4 k5 k6 k7 k8 : Tok) (v1 v2 v3 v4 v5 v6 v7 v8 : Value) : List DictEntry :=
  [ent P (Str.ofString "log2_size") k1 v1, ent P (Str.ofString "usable") k2 v2, ent P (Str.ofString "indices") k3 v3, ent P (Str.ofString "entries") k4 v4,
   ent P (Str.ofString "resume_slots") k5 v5, ent P (Str.ofString "maybe_dups") k6 v6, ent P (Str.ofString "nslots") k7 v7, ent P (Str.ofString "mask") k8 v8]
abbrev coldEs (P : Params) (k1 k2 k3 k4 k5 k6 : Tok) (v1 v2 v3 v4 v5 v6 : Value) : List DictEntry :=
  [ent P (Str.ofString "log2_size") k1 v1, ent P (Str.ofString "usable") k2 v2, ent P (Str.ofString "indices") k3 v3, ent P (Str.ofString "entries") k4 v4,
   ent P (Str.ofString "resume_slots") k5 v5, ent P (Str.ofString "maybe_dups") k6 v6]

section
variable {prog : Program} {w : World} {A : Around} {E : Value → Shared → Prop} {s : Shared} {K : Frag} {x C L : Addr} {h₀ : Heap} {m : Str → Option Value} {ox : Obj} {es : List DictEntry} {n : Nat} {name : Str} {v : Value} {expr : Bool} {Q : Value → Shared → Prop} {a g : Value}
theorem findObj_shadow {od : Obj} (hh : hasDictIn K C = true) (ha : findIn K (.ref C) name = some (some a)) (hn : specialIn K a "__get__" = some (some g)) (ht : takesIn K a = some false) (hl : lookIn name od = some (some v)) :
    findObj K C (some od) name = some (.value v) := by
  obtain ⟨cd, hc, hd⟩ := any_some hh
  unfold findObj
  have ho : PySem.W.ownOf cd (some od) name = some (some v) := by unfold PySem.W.ownOf; rw [if_pos hd]; exact hl
  rw [hc, Option.bind_some, ha, Option.bind_some]
  simp [hn, ht, ho]
theorem findObj_late {od : Obj} (hh : hasDictIn K C = true) (ha : findIn K (.ref C) name = some (some a)) (hn : specialIn K a "__get__" = some (some g)) (ht : takesIn K a = some false) (hc' : copiedNames.contains name = false) (hl : lookIn name od = some none) :
    findObj K C (some od) name = some (.bind g a) := by
  obtain ⟨cd, hc, hd⟩ := any_some hh
  unfold findObj
  have ho : PySem.W.ownOf cd (some od) name = some none := by unfold PySem.W.ownOf; rw [if_pos hd]; exact hl
  rw [hc, Option.bind_some, ha, Option.bind_some]
  simp only [hn, ht, ho, hc', Option.bind_some, Bool.false_and, Bool.false_eq_true, if_false]
theorem get_shadow (F : Fr h₀ L s.heap m) (X₀ : K.In h₀) (I : InstAt s.heap x ox C (some (dictOf es n))) (hg : plainGet K C name = true) (hh : hasDictIn K C = true)
    (ha : findIn K (.ref C) name = some (some a)) (hn : specialIn K a "__get__" = some (some g)) (ht : takesIn K a = some false) (hl : getL name es = some (some v)) (hv : handedIn v = true) (h : Q v { s with toks := s.toks + 1 }) :
    wpAny (model prog w) A (getAttr (.ref x) name expr) Q E s :=
  get_value (X₀.keeps F.keep) I (plainGet_of hg).1 (findObj_shadow hh ha hn ht hl) hv h
theorem get_late (F : Fr h₀ L s.heap m) (X₀ : K.In h₀) (I : InstAt s.heap x ox C (some (dictOf es n))) (hg : plainGet K C name = true) (hh : hasDictIn K C = true)
    (ha : findIn K (.ref C) name = some (some a)) (hn : specialIn K a "__get__" = some (some g)) (ht : takesIn K a = some false) (hc : copiedNames.contains name = false) (hl : getL name es = some none)
    (h : wpAny (model prog w) A.in1 (call g [a, .ref x, .ref C]) (fun v s' => wpAny (model prog w) A (handedOut v) Q E s') (fun e s' => wpAny (model prog w) A (noteIf true (.ref x) (.str name s.toks) e) (fun _ s'' => E e s'') E s') { s with toks := s.toks + 1 }) :
    wpAny (model prog w) A (getAttr (.ref x) name expr) Q E s :=
  get_bind (X₀.keeps F.keep) I (plainGet_of hg).1 (findObj_late hh ha hn ht hc hl) (plainGet_of hg).2 h
end

section
variable {prog : Program} {w : World} {A : Around} {E Q : Value → Shared → Prop} {s : Shared} {x : Int} {k : Nat} {t u : Tok}
theorem and_mask (h : Q (.int (x % 2 ^ k) s.toks) { s with toks := s.toks + 1 }) : wpAny (model prog w) A (binaryOp .BitAnd (.int x t) (.int (2 ^ k - 1) u)) Q E s := and_int (by rw [kbt_mask]; exact h)
theorem shl_one (hk : k ≤ 1000) (h : Q (.int (2 ^ k) s.toks) { s with toks := s.toks + 1 }) : wpAny (model prog w) A (binaryOp .LShift (.int 1 t) (.int (k : Int) u)) Q E s :=
  lshift_int_small (by omega) (by omega) (by decide) (by rw [Int.one_mul, Int.toNat_natCast]; exact h)
theorem and_mask' (h : Q (.int (x % 2 ^ k) s.toks) { s with toks := s.toks + 1 }) : wpAny (model prog w) A (binaryOp .BitAnd (.int (2 ^ k - 1) u) (.int x t)) Q E s := and_int (by rw [kbt_mask']; exact h)
end

section
variable {prog : Program} {w : World} {A : Around} {E Q : Value → Shared → Prop} {s : Shared} {x : Int} {t u : Tok}
theorem shr5 (h : Q (.int (x / 32) s.toks) { s with toks := s.toks + 1 }) : wpAny (model prog w) A (inplaceOp .RShift (.int x t) (.int 5 u)) Q E s :=
  irshift_int (by decide) (by
    have : x.fdiv (2 ^ (5 : Int).toNat) = x / 32 := by
      show x.fdiv 32 = x / 32
      exact Int.fdiv_eq_ediv_of_nonneg _ (by decide)
    rw [this]; exact h)
end

/-- the tail's walk -/
def tl (n : Nat) (s : Int) : Nat → Int
  | 0 => s
  | k + 1 => (tl n s k * 5 + 1) % 2 ^ n
theorem pow2_pos (n : Nat) : (0 : Int) < 2 ^ n := Int.pow_pos (by decide)
theorem tl_range {n : Nat} {s : Int} (h0 : 0 ≤ s) (h1 : s < 2 ^ n) : ∀ k, 0 ≤ tl n s k ∧ tl n s k < 2 ^ n
  | 0 => ⟨h0, h1⟩
  | k + 1 => ⟨Int.emod_nonneg _ (by have := pow2_pos n; omega), Int.emod_lt_of_pos _ (pow2_pos n)⟩

/-- what is left of the hash, and its walk -/
def pt (h : Int) : Nat → Int
  | 0 => h
  | k + 1 => pt h k / 32
def wk (n : Nat) (h : Int) : Nat → Int
  | 0 => h % 2 ^ n
  | k + 1 => (wk n h k * 5 + pt h (k + 1) + 1) % 2 ^ n
theorem wk_range {n : Nat} {h : Int} : ∀ k, 0 ≤ wk n h k ∧ wk n h k < 2 ^ n
  | 0 => ⟨Int.emod_nonneg _ (by have := pow2_pos n; omega), Int.emod_lt_of_pos _ (pow2_pos n)⟩
  | k + 1 => ⟨Int.emod_nonneg _ (by have := pow2_pos n; omega), Int.emod_lt_of_pos _ (pow2_pos n)⟩
theorem pt_nonneg {h : Int} (h0 : 0 ≤ h) : ∀ k, 0 ≤ pt h k
  | 0 => h0
  | k + 1 => Int.ediv_nonneg (pt_nonneg h0 k) (by decide)
theorem pt_zero {h : Int} {k : Nat} (e : pt h k = 0) : ∀ j, pt h (k + j) = 0
  | 0 => e
  | j + 1 => by
    show pt h (k + j) / 32 = 0
    rw [pt_zero e j]; rfl
theorem wk_tl {n : Nat} {h : Int} {k : Nat} (e : pt h k = 0) : ∀ j, wk n h (k + j) = tl n (wk n h k) j
  | 0 => rfl
  | j + 1 => by
    show (wk n h (k + j) * 5 + pt h (k + j + 1) + 1) % 2 ^ n = (tl n (wk n h k) j * 5 + 1) % 2 ^ n
    rw [wk_tl e j, show pt h (k + j + 1) = 0 from pt_zero e (j + 1), Int.add_zero]
theorem pow_le_1024 {n : Nat} (h : n ≤ 10) : (2 : Int) ^ n ≤ 1024 := by
  have h1 : (2 : Nat) ^ n ≤ 1024 := Nat.pow_le_pow_right (by decide) h
  have h2 : ((2 ^ n : Nat) : Int) ≤ ((1024 : Nat) : Int) := Int.ofNat_le.mpr h1
  rwa [Int.natCast_pow] at h2
theorem len_cast {ns : List Int} {n : Nat} (h : ns.length = 2 ^ n) : (ns.length : Int) = 2 ^ n := by rw [h]; push_cast; rfl
theorem val_int {m : Str → Option Value} {x : Str} {a b : Int} {t : Tok} (e : m x = some (.int a t)) (h : a = b) : m x = some (.int b t) := h ▸ e
end Mine
end

section
open PySem PySem.W PySem.Calls PyProof.Rows
namespace Mine

/-- the one code whose presence on the stack the model asks for where a dict is handed out -/
def isFin : Code → Bool
  | .builtin "lifetime.gc.finalise" _ => true
  | _ => false

structure BelowOK (Γ : Ctx) (A : Around) : Prop where
  b : Γ.Below A
  f : ∀ c ∈ Γ.below.map (·.1), isFin c = false
structure InOK (Γ : Ctx) (A : Around) : Prop where
  i : Γ.In A
  f : ∀ c ∈ Γ.code :: Γ.below.map (·.1), isFin c = false

theorem InOK.enter {Γ : Ctx} {A : Around} (h : InOK Γ A) (c : Code) (p : Pos) : BelowOK (Γ.enter c none p) A :=
  ⟨h.i.enter c none p (by intro x; cases x), fun c' hc => h.f c' (by simpa [Ctx.enter] using hc)⟩
theorem BelowOK.in {Γ : Ctx} {A : Around} (h : BelowOK Γ A) (hc : isFin Γ.code = false) : InOK Γ (A.under Γ.code) :=
  ⟨h.b.in, fun c' hc' => by
    rcases List.mem_cons.mp hc' with rfl | hc'
    · exact hc
    · exact h.f c' hc'⟩
theorem BelowOK.goto {Γ : Ctx} {A : Around} (h : BelowOK Γ A) (c : Code) : BelowOK (Γ.goto c) A := ⟨h.b, h.f⟩

def wpAt {α : Type} (M : Model) (Γ : Ctx) (t : Sem α) (Q : α → Shared → Prop) (s : Shared) : Prop :=
  ∀ p, Sem.wp M Γ t (fun a _ s' => Q a s') (fun _ _ _ => False) p s
def codeAt (M : Model) (Γ : Ctx) (R : Result → Shared → Prop) (s : Shared) : Prop := ∀ p, wpCode M Γ R p s

section
variable {α β : Type} {M : Model} {Γ : Ctx} {A : Around} {s : Shared}

theorem at_any {t : Sem α} {Q : α → Shared → Prop} (hΓ : InOK Γ A) (h : wpAny M A t Q (fun _ _ => False) s) : wpAt M Γ t Q s := fun p => h Γ p hΓ.i
theorem at_mono {t : Sem α} {Q Q' : α → Shared → Prop} (h : wpAt M Γ t Q s) (k : ∀ a s, Q a s → Q' a s) : wpAt M Γ t Q' s :=
  fun p => Sem.wp_mono M Γ t (fun a _ s => k a s) (fun _ _ _ x => x) p s (h p)
theorem at_pure {a : α} {Q : α → Shared → Prop} (h : Q a s) : wpAt M Γ (pure a) Q s := fun _ => h
theorem at_bind {m : Sem α} {f : α → Sem β} {Q : β → Shared → Prop} (h : wpAt M Γ m (fun a s' => wpAt M Γ (f a) Q s') s) : wpAt M Γ (m >>= f) Q s := fun p => by
  rw [Sem.wp_bind']
  exact Sem.wp_mono M Γ m (fun a p' s' h' => h' p') (fun _ _ _ h' => h') p s (h p)
theorem at_bindA {m : Sem α} {f : α → Sem β} {Q : β → Shared → Prop} (hΓ : InOK Γ A) (h : wpAny M A m (fun a s' => wpAt M Γ (f a) Q s') (fun _ _ => False) s) : wpAt M Γ (m >>= f) Q s :=
  at_bind (at_any hΓ h)
theorem at_holding {vs : List Value} {m : Sem α} {Q : α → Shared → Prop} (h : wpAt M Γ m Q s) : wpAt M Γ (holding vs m) Q s := fun p => by rw [Sem.wp_holding]; exact h p
theorem at_keep {vs : List Value} {m : Sem α} {Q : α → Shared → Prop} (h : wpAt M Γ m Q s) : wpAt M Γ (m.keep vs) Q s := fun p => by rw [Sem.wp_keep]; exact h p
theorem at_onRaise {m : Sem α} {k : Value → Sem Unit} {Q : α → Shared → Prop} (h : wpAt M Γ m Q s) : wpAt M Γ (m.onRaise k) Q s := fun p => by
  rw [Sem.wp_onRaise]
  exact Sem.wp_mono M Γ m (fun _ _ _ x => x) (fun _ _ _ x => x.elim) p s (h p)
theorem at_attempt {m : Sem α} {Q : Except Value α → Shared → Prop} (h : wpAt M Γ m (fun a => Q (.ok a)) s) : wpAt M Γ m.attempt Q s := fun p => by
  rw [Sem.wp_attempt]
  exact Sem.wp_mono M Γ m (fun _ _ _ x => x) (fun _ _ _ x => x.elim) p s (h p)
theorem at_standAt {p' : Pos} {Q : Unit → Shared → Prop} (h : Q () s) : wpAt M Γ (standAt p') Q s := fun _ => h
theorem at_point {Q : Unit → Shared → Prop} (h : Q () s) : wpAt M Γ point Q s := fun _ => h
theorem at_rule {t : String} {Q : Unit → Shared → Prop} (h : Q () s) : wpAt M Γ (rule t) Q s := fun _ => h

theorem at_runValue {c : Code} {Q : Value → Shared → Prop} (h : ∀ p, codeAt M (Γ.enter c none p) (fun r s' => match r with | .ok (.ret v) => Q v s' | _ => False) s) : wpAt M Γ (runValue c) Q s := fun p => by
  rw [Sem.wp_runValue]
  refine wpCode_mono (fun r s' hr => ?_) (h p p)
  cases r with
  | error e => exact hr
  | ok f => cases f <;> exact hr
theorem at_run {c : Code} {Q : Flow → Shared → Prop} (h : ∀ p, codeAt M (Γ.enter c none p) (fun r s' => match r with | .ok f => Q f s' | _ => False) s) : wpAt M Γ (run c) Q s := fun p => by
  rw [Sem.wp_run]
  refine wpCode_mono (fun r s' hr => ?_) (h p p)
  cases r with
  | error e => exact hr
  | ok f => exact hr
theorem at_call {f : Value} {pos : List Value} {kw : List (Str × Value)} {Q : Value → Shared → Prop}
    (h : ∀ p, codeAt M (Γ.enter (.call f ⟨pos, kw⟩) none p) (fun r s' => match r with | .ok (.ret v) => Q v s' | _ => False) s) : wpAt M Γ (call f pos kw) Q s := at_runValue h

theorem codeAt_mono {R R' : Result → Shared → Prop} (h : codeAt M Γ R s) (k : ∀ r s, R r s → R' r s) : codeAt M Γ R' s := fun p => wpCode_mono k (h p)
theorem codeAt_any {R : Result → Shared → Prop} (hΓ : BelowOK Γ A) (h : codeAny M A Γ.code R s) : codeAt M Γ R s := fun p => h Γ p rfl hΓ.b
theorem codeAt_tree {R : Result → Shared → Prop}
    (h : wpAt M Γ (M.den Γ.code) (fun fin s' => match fin with | .done f => R (.ok f) s' | .again c' => c'.quiet = true ∧ codeAt M (Γ.goto c') R s') s) : codeAt M Γ R s := fun p => by
  rw [wpCode_iff_wp]
  refine Sem.wp_mono M Γ _ (fun fin p' s' h' => ?_) (fun _ _ _ h' => h'.elim) p s (h p)
  cases fin with
  | done f => exact h'
  | again c' => exact ⟨h'.1, h'.2 p'⟩

theorem codeAt_loop {R : Result → Shared → Prop} (hq : Γ.code.quiet = true) (I : Nat → Shared → Prop)
    (turn : ∀ n s, I n s → wpAt M Γ (M.den Γ.code)
      (fun fin s' => match fin with | .done f => R (.ok f) s' | .again c' => c' = Γ.code ∧ ∃ m, m < n ∧ I m s') s)
    (n : Nat) (h : I n s) : codeAt M Γ R s := by
  induction n using Nat.strongRecOn generalizing s with
  | ind n ih =>
    refine codeAt_tree (at_mono (turn n s h) fun fin s' hf => ?_)
    cases fin with
    | done f => exact hf
    | again c' => obtain ⟨rfl, m, hm, hI⟩ := hf; exact ⟨hq, ih m hm hI⟩
end

section
variable {prog : Program} {w : World} {Γ : Ctx} {A : Around} {s : Shared} {env : Env} {R : Result → Shared → Prop}

theorem codeAt_builtin {id : String} {args : Args} {b : Builtin} (hc : Γ.code = .builtin id args) (hb : entryFor table id = some b)
    (h : wpAt (model prog w) Γ (b args) (fun fin s' => match fin with | .done f => R (.ok f) s' | .again c' => c'.quiet = true ∧ codeAt (model prog w) (Γ.goto c') R s') s) :
    codeAt (model prog w) Γ R s := by
  refine codeAt_tree ?_
  rw [hc]
  show wpAt _ _ (match entryFor table id with | some b => b args | none => unsupported ((withoutEnding? id "#data").getD id)) _ s
  rw [hb]; exact h

theorem at_execs_cons {st : Stmt} {rest : List Stmt} {Q : Flow → Shared → Prop}
    (h : wpAt (model prog w) Γ (exec st env) (fun f s' => match f with | .next => wpAt (model prog w) Γ (execs rest env) Q s' | f => Q f s') s) :
    wpAt (model prog w) Γ (execs (st :: rest) env) Q s := by
  rw [execs_cons]
  refine at_bind (at_mono h fun f s' hf => ?_)
  cases f with
  | next => exact hf
  | brk => exact at_pure hf
  | cont => exact at_pure hf
  | ret v => exact at_pure hf
theorem at_execs_consA {st : Stmt} {rest : List Stmt} {Q : Flow → Shared → Prop} (hΓ : InOK Γ A)
    (h : wpAny (model prog w) A (exec st env) (fun f s' => match f with | .next => wpAt (model prog w) Γ (execs rest env) Q s' | f => Q f s') (fun _ _ => False) s) :
    wpAt (model prog w) Γ (execs (st :: rest) env) Q s := at_execs_cons (at_any hΓ h)

theorem codeAt_func {body : List Stmt} (hc : Γ.code = .func body env)
    (h : wpAt (model prog w) Γ (execs body env) (fun f s' => R (.ok (.ret (match f with | .ret v => v | _ => .none))) s') s) : codeAt (model prog w) Γ R s := by
  refine codeAt_tree ?_
  rw [hc]
  show wpAt _ _ (do point; match ← (execs body env).onRaise (leaving env) with | .ret v => ret v | _ => ret .none) _ s
  refine at_bind (at_point (at_bind (at_onRaise (at_mono h fun f s' h' => ?_))))
  cases f <;> exact at_pure h'

theorem at_If {test : Expr} {body orelse : List Stmt} {pos : Pos} {Q : Flow → Shared → Prop}
    (h : wpAt (model prog w) Γ (isTrue test env (eval test env)) (fun b s₂ => if b then wpAt (model prog w) Γ (execs body env) Q s₂ else wpAt (model prog w) Γ (execs orelse env) Q s₂) s) :
    wpAt (model prog w) Γ (exec (.If test body orelse pos) env) Q s := by
  rw [exec_If]
  refine at_bind (at_standAt (at_bind (at_mono h fun b s₂ h₂ => ?_)))
  cases b <;> exact h₂
theorem at_Assign_Name {x : Str} {pos' pos : Pos} {value : Expr} {Q : Flow → Shared → Prop} (hΓ : InOK Γ A)
    (h : wpAt (model prog w) Γ (eval value env) (fun v s₁ => wpAny (model prog w) A (storeName env x v) (fun _ => Q .next) (fun _ _ => False) s₁) s)
    (hs : swapsWith value (some (.Name x pos')) pos.line env = pure false := by rfl) :
    wpAt (model prog w) Γ (exec (.Assign [.Name x pos'] value pos) env) Q s := fun p => by
  simp only [exec_Assign_Name env x pos' value pos hs, Sem.wp_bind', Sem.wp_cmd_standAt, Sem.wp_bindName, Sem.wp_pure']
  exact Sem.wp_mono _ Γ _ (fun v _ s₁ h₁ => h₁ Γ _ hΓ.i) (fun _ _ _ h' => h') _ _ (h _)
theorem at_Return {e : Expr} {pos : Pos} {Q : Flow → Shared → Prop} (h : wpAt (model prog w) Γ (eval e env) (fun v => Q (.ret v)) s) :
    wpAt (model prog w) Γ (exec (.Return (some e) pos) env) Q s := by
  rw [exec_Return_some]
  exact at_bind (at_standAt (at_bind (at_mono h fun v s' h' => at_pure h')))
theorem at_Try {body orelse : List Stmt} {h₀ : ExceptHandler} {hs : List ExceptHandler} {pos : Pos} {Q : Flow → Shared → Prop}
    (h : wpAt (model prog w) Γ (execs body env) (fun f s₁ => match f with | .next => wpAt (model prog w) Γ (execs orelse env) Q s₁ | f => Q f s₁) s) :
    wpAt (model prog w) Γ (exec (.Try body (h₀ :: hs) orelse [] pos) env) Q s := by
  rw [arm_exec_Try]
  refine at_bind (at_standAt ?_)
  unfold tryStmt
  simp only [List.isEmpty_nil, if_true]
  refine at_bind (at_attempt (at_mono h fun f s₁ h₁ => ?_))
  cases f with
  | next => exact h₁
  | brk => exact at_pure h₁
  | cont => exact at_pure h₁
  | ret v => exact at_pure h₁

theorem codeAt_call_function {a : Addr} {args : Args} {o : Obj} {fd : FuncData} {body : List Stmt} (hc : Γ.code = .call (.ref a) args) (hΓ : BelowOK Γ A) (hroom : A.depth < recursionLimit)
    (ho : s.heap.get? a = some o)
    (hd' : o.data = .func fd) (hco : fd.scope.isCoroutine = false) (hgen : fd.scope.isGenerator = false) (hbody : fd.body = .stmts body) (hcd : s.heap.CodeRec fd.code fd.qualname)
    (h : wpAny (model prog w) A.in1 (bindArgs fd args) (fun binds s₁ =>
      wpAny (model prog w) A.in1 (newFunctionEnv fd.scope fd.globals fd.closure binds (fd.qualname ++ ".<locals>.") (some a) fd.code none fd.builtins)
        (fun env s₂ => s₂.heap.NoLimit ∧ codeAt (model prog w) (Γ.goto (.func body env)) R s₂) (fun _ _ => False) s₁) (fun _ _ => False) s) :
    codeAt (model prog w) Γ R s := by
  refine codeAt_tree ?_
  have hin : InOK Γ A.in1 := by
    have := hΓ.in (by rw [hc]; rfl)
    rw [hc] at this
    exact this
  rw [hc]
  refine at_any hin ?_
  show wpAny _ A.in1 (callAny (.ref a) args) _ _ s
  simp only [callAny]
  refine wpAny_bind (wpAny_load ho ?_)
  obtain ⟨c, oc, vs, tq, hc', hoc, hdc, hq⟩ := hcd
  simp only [hd', callFunction, hco, hgen, hbody, hc']
  rw [hc'] at h
  refine wpAny_bind (m := field (.ref c) 1) (wpAny_field hoc hdc hq (wpAny_bind (wpAny_pure ?_)))
  exact wpAny_bind (wpAny_mono h (fun binds s₁ h₁ => wpAny_bind (wpAny_mono h₁ (fun env s₂ h₂ => wpAny_bind (wpAny_enterFrame h₂.1 hroom
    (wpAny_pure (And.intro rfl h₂.2)))) fun _ _ h' => h')) fun _ _ h' => h')

theorem codeAt_defX {K : Frag} {A₀ : Around} {base h₀ : Heap} {outer : List Env} {L f : Addr} {m mg mb : Str → Option Value} {cenv : Env} {news : List (Addr × Obj)} {p : Program} {loose : List Str} {mean : ExcName → Option Value}
    {name qual : Str} {params : Arguments} {body : List Stmt} {scope : Scope} {dV kV doc pm cdv ct oc : Value} {an od : Option Addr} {osl : Array (Option Value)} {args : Args} {binds : List (Str × Value)}
    (hc : Γ.code = .call (.ref f) args) (hΓ : BelowOK Γ A)
    (B : Below A₀ base outer h₀) (F : Fr h₀ L s.heap m) (X₀ : K.In h₀) (N : News h₀ L s.heap news) (T : Top p loose mean mg mb h₀) (hA : A.frames = some (cenv :: outer)) (hf : cenv.frame = some L) (hke : cenv.scope.kind = .function)
    (ho : K.lookup f = some ⟨oc, od, .func (fnOf name qual params body scope dV kV doc pm an cdv ct), osl⟩) (hcd : codeIn K cdv qual = true) (hroom : A.depth < recursionLimit)
    (hbind : BindsTo s (fnOf name qual params body scope dV kV doc pm an cdv ct) args binds) (hloc : ∀ y ∈ binds, scope.names.lookup y.1 = some .local)
    (h : ∀ g L' h₁ Γ', Fr h₀ L g m → Fr g L' h₁ (fun y => binds.reverse.lookup y) → News g L' h₁ news → Below A base (cenv :: outer) g → K.In g → Top p loose mean mg mb g →
      InOK Γ' (A.deeper (envOf qual scope L' f cdv)) →
      wpAt (model prog w) Γ' (execs body (envOf qual scope L' f cdv))
        (fun fl s' => LeaveK h₀ L m g R (match fl with | .ret v => v | _ => .none) s')
        { s with heap := h₁, toks := s.toks + binds.length })
    (hco : scope.isCoroutine = false) (hgen : scope.isGenerator = false) (hk : scope.kind = .function)
    (hcell : ∀ x ∈ scope.names, x.2 ≠ .cell) : codeAt (model prog w) Γ R s := by
  obtain ⟨FG, BG, st, lv⟩ := groundX (R := R) B F N hA hf hke
  refine codeAt_call_function (fd := fnOf name qual params body scope dV kV doc pm an cdv ct) (body := body) hc hΓ hroom ((X₀.keeps F.keep) _ _ ho) rfl hco hgen rfl (codeRec_of (X₀.keeps F.keep) hcd) (hbind _ _ _ _ ?_)
  refine wpAny_newFunctionEnv hcell hloc (fun h₁ hns₁ hsb₁ => ⟨(T.nolimit.keeps F.keep).fresh _ hsb₁, ?_⟩) hk
  have hk₁ : ∀ b o, s.heap.get? b = some o → h₁.get? b = some o := fun b o e => hsb₁.extBut b o (Nat.ne_of_lt (Heap.lt_size e)) (Heap.get?_push_of_some _ e)
  refine codeAt_func rfl ?_
  refine at_mono (h _ s.heap.objs.size h₁ _ FG ⟨hns₁, fun b o e => hk₁ b o (of_hideAll _ e), Nat.le_of_eq (hideAll_size _ _)⟩
    (fun p hp => ⟨hk₁ _ _ (N p hp).1, Nat.ne_of_lt (Heap.lt_size (N p hp).1), hideAll_none _ (List.mem_map_of_mem hp)⟩) BG (X₀.keeps st) (T.keeps st) ((hΓ.goto _).in rfl)) (fun fl s' hl => lv _ _ hl)
end
end Mine
end

section
open PySem PySem.W PySem.Calls PyProof.Rows PySem.Builtin PySem.Builtin.ObjectAttr PySem.Builtin.Getset_descriptor
namespace Mine
section
variable {prog : Program} {w : World} {Γ : Ctx} {A : Around} {s : Shared} {env : Env}

theorem at_Attribute_name {n attr : Str} {np pos : Pos} {Q : Value → Shared → Prop} (hΓ : InOK Γ A)
    (h : wpAny (model prog w) A (eval (.Name n np) env) (fun o s₁ => wpAt (model prog w) Γ (getAttr o attr true) Q s₁) (fun _ _ => False) s) :
    wpAt (model prog w) Γ (eval (.Attribute (.Name n np) attr pos) env) Q s := by
  rw [arm_eval_Attribute]
  have e1 : attributeBase (.Name n np) attr env (eval (.Name n np) env) = eval (.Name n np) env := rfl
  rw [e1]
  refine at_bindA hΓ (wpAny_mono h (fun o s₁ h₁ => at_bind (at_standAt (at_bind (at_holding (at_mono h₁ fun r s₂ h₂ => ?_))))) fun _ _ y => y)
  have e2 : letTemporaryGo (.Name n np) o r = pure () := rfl
  rw [e2]
  exact at_bind (at_pure (at_pure h₂))

theorem at_BinOp {l r : Expr} {op : Operator} {pos : Pos} {Q : Value → Shared → Prop} (hΓ : InOK Γ A)
    (h : wpAt (model prog w) Γ (eval l env) (fun a s₁ => wpAny (model prog w) A (eval r env) (fun b s₂ => wpAny (model prog w) A (binaryOp op a b) Q (fun _ _ => False) s₂) (fun _ _ => False) s₁) s) :
    wpAt (model prog w) Γ (eval (.BinOp l op r pos) env) Q s := by
  rw [arm_eval_BinOp]
  refine at_bind (at_mono h fun a s₁ h₁ => at_bindA hΓ (wpAny_holding (wpAny_mono h₁ (fun b s₂ h₂ => at_bind (at_standAt ?_)) fun _ _ x => x)))
  exact fun p => by rw [Sem.wp_operate]; exact h₂ Γ p hΓ.i

theorem at_methodCall {o : Expr} {name : Str} {apos pos : Pos} {args : List Expr} {kws : List Keyword} {pl : Sem Bool} {Q : Value → Shared → Prop} (hΓ : InOK Γ A)
    (h : wpAny (model prog w) A (eval o env) (fun ov s₁ => wpAny (model prog w) A (getMethod ov name pl) (fun fx s₂ => wpAt (model prog w) Γ (callWith pos fx.1 fx.2 (backTo pos (starEach args env)) (backToKw pos (keywordEach kws env))) Q s₂) (fun _ _ => False) s₁) (fun _ _ => False) s)
    (he : eval (.Call (.Attribute o name apos) args kws pos) env = (do
      let ov ← eval o env
      standAt apos.atName
      let (f, first) ← holding [ov] (getMethod ov name pl)
      callWith pos f first (backTo pos (starEach args env)) (backToKw pos (keywordEach kws env))) := by rfl) :
    wpAt (model prog w) Γ (eval (.Call (.Attribute o name apos) args kws pos) env) Q s := by
  rw [he]
  refine at_bindA hΓ (wpAny_mono h (fun ov s₁ h₁ => at_bind (at_standAt (at_bindA hΓ (wpAny_holding (wpAny_mono h₁ (fun fx s₂ h₂ => ?_) fun _ _ x => x))))) fun _ _ x => x)
  exact h₂

theorem at_callWith_of {P : Heap → Prop} {f : Value} {first : List Value} {pos : Pos} {Q : Value → Shared → Prop} {args : List (Bool × Sem Value)} {keywords : List (Option Str × Sem Value)} (hΓ : InOK Γ A) (hplain : (args.any (·.1) || keywords.any (·.1.isNone)) = false)
    (hk : ∀ h, P h → ∃ k, (k = Keeper.frame ∨ k = Keeper.machine ∨ k = Keeper.boundFrame) ∧ Looks (model prog w) h (keeperOf f) k)
    (h : wpAny (model prog w) A (evalArgs f true args keywords) (fun a s₁ => P s₁.heap ∧ wpAt (model prog w) Γ (call f (first ++ a.pos) a.kw) Q s₁) (fun _ _ => False) s) : wpAt (model prog w) Γ (callWith pos f first args keywords) Q s := by
  unfold callWith
  refine at_bindA hΓ (wpAny_holding (wpAny_mono h (fun a s₁ h₁ => at_bind (at_standAt ?_)) fun _ _ x => x))
  obtain ⟨k, hk', L⟩ := hk _ h₁.1
  simp only [hplain]
  refine at_bindA hΓ (L.here ?_)
  have tail : ∀ {t : Sem Value}, wpAt (model prog w) Γ t Q s₁ → wpAt (model prog w) Γ (t >>= fun r => holding [r] point >>= fun _ => pure r) Q s₁ :=
    fun ht => at_bind (at_mono ht (fun r s₂ hr => at_bind (at_holding (at_point (at_pure hr)))))
  have marked (mk : Value) : wpAt (model prog w) Γ (callMarked mk f (first ++ a.pos) a.kw) Q s₁ := by unfold callMarked; exact at_keep h₁.2
  rcases hk' with rfl | rfl | rfl <;> dsimp only <;> first | exact tail h₁.2 | (split <;> first | exact tail h₁.2 | exact tail (marked _))
theorem at_callWith_K {K : Frag} {f : Value} {first : List Value} {pos : Pos} {Q : Value → Shared → Prop} {e : Expr} {rest : List Expr} (hΓ : InOK Γ A) (hk : keepIn K f = true)
    (h : wpAny (model prog w) A (spliced (backTo pos (starEach (e :: rest) env))) (fun vs s₁ => K.In s₁.heap ∧ wpAt (model prog w) Γ (call f (first ++ vs)) Q s₁) (fun _ _ => False) s)
    (he : starEach (e :: rest) env = (false, eval e env) :: starEach rest env := by rfl) (hplain : (backTo pos (starEach rest env)).any (·.1) = false := by rfl) :
    wpAt (model prog w) Γ (callWith pos f first (backTo pos (starEach (e :: rest) env)) []) Q s := by
  rw [he] at h ⊢
  exact at_callWith_of hΓ (by show ((false || (backTo pos (starEach rest env)).any (·.1)) || false) = false; rw [hplain]; rfl) (keeps_K hk) (evalArgs_plain h)
theorem at_callWith_K0 {K : Frag} {f : Value} {first : List Value} {pos : Pos} {Q : Value → Shared → Prop} (hΓ : InOK Γ A) (X : K.In s.heap) (hk : keepIn K f = true) (h : wpAt (model prog w) Γ (call f (first ++ [])) Q s) :
    wpAt (model prog w) Γ (callWith pos f first (backTo pos (starEach [] env)) []) Q s :=
  at_callWith_of hΓ rfl (keeps_K hk) (evalArgs_nil3 ⟨X, h⟩)
end

section
variable {prog : Program} {w : World} {Γ : Ctx} {A : Around} {s : Shared} {K : Frag} {x C L : Addr} {h₀ : Heap} {m : Str → Option Value} {ox : Obj} {od : Option Obj} {es : List DictEntry} {n : Nat} {name : Str} {expr : Bool} {Q : Value → Shared → Prop} {a g : Value}

theorem at_get_open (hΓ : InOK Γ A) (X : K.In s.heap) (I : InstAt s.heap x ox C od) (hga : findIn K (.ref C) "__getattribute__" = some (some (.builtin "object.__getattribute__")))
    (h : ∀ Γ', InOK Γ' A.in1 → wpAt (model prog w) Γ' (Builtin.«proto.getattr_hooked» ⟨[.ref x, .str name s.toks], []⟩)
      (fun fin s' => match fin with | .done (.ret v) => wpAny (model prog w) A (handedOut v) Q (fun _ _ => False) s' | _ => False) { s with toks := s.toks + 1 }) :
    wpAt (model prog w) Γ (getAttr (.ref x) name expr) Q s := by
  obtain ⟨hh, gg, d, t, os⟩ := s
  have L0 := I.type (M := model prog w)
  have L1 := looks_findIn (M := model prog w) X hga
  unfold getAttr getAttrBy
  refine at_bindA hΓ (wpAny_mkText ?_)
  refine at_holding (at_bindA hΓ (L0.at (at_bindA hΓ (L1.at ?_))))
  show wpAt _ _ (getAttrEveryday _ _ _) _ _
  refine at_bind (at_onRaise (at_runValue fun p => codeAt_builtin rfl F.plainObj_entry_getattr_hooked ?_))
  have hin : InOK (Γ.enter (.builtin "proto.getattr_hooked" ⟨[.ref x, .str name t], []⟩) none p) A.in1 := by
    have := (hΓ.enter (.builtin "proto.getattr_hooked" ⟨[.ref x, .str name t], []⟩) p).in rfl
    rwa [show A.under (Γ.enter (.builtin "proto.getattr_hooked" ⟨[.ref x, .str name t], []⟩) none p).code = A.in1 from Around.under_plainId (by decide +kernel) _] at this
  refine at_mono (h _ hin) fun fin s' z => ?_
  rcases fin with (_ | _ | _ | _) | _ <;> first | exact at_any hΓ z | exact z.elim

theorem at_get_bind (hΓ : InOK Γ A) (X : K.In s.heap) (I : InstAt s.heap x ox C od) (hga : findIn K (.ref C) "__getattribute__" = some (some (.builtin "object.__getattribute__")))
    (hf : findObj K C od name = some (.bind g a)) (hk : findIn K (.ref C) "__getattr__" = some none)
    (h : ∀ Γ', InOK Γ' A.in1 → wpAt (model prog w) Γ' (call g [a, .ref x, .ref C]) (fun v s' => wpAny (model prog w) A (handedOut v) Q (fun _ _ => False) s') { s with toks := s.toks + 1 }) :
    wpAt (model prog w) Γ (getAttr (.ref x) name expr) Q s := by
  refine at_get_open hΓ X I hga fun Γ' hΓ' => ?_
  obtain ⟨hh', gg, d, t, os⟩ := s
  have L0 := I.type (M := model prog w)
  have L1 := looks_find (M := model prog w) X I hf
  have L2 := looks_findIn (M := model prog w) X hk
  refine at_bind (at_pure (at_bindA hΓ' (L0.at (at_bindA hΓ' (L1.at (at_bindA hΓ' (L2.at ?_)))))))
  show wpAt _ _ (holding [a] (call g [a, .ref x, .ref C]) >>= ret) _ _
  exact at_bind (at_holding (at_mono (h _ hΓ') (fun v s' z => at_pure z)))

theorem at_get_late (hΓ : InOK Γ A) (F : Fr h₀ L s.heap m) (X₀ : K.In h₀) (I : InstAt s.heap x ox C (some (dictOf es n))) (hg : plainGet K C name = true) (hh : hasDictIn K C = true)
    (ha : findIn K (.ref C) name = some (some a)) (hn : specialIn K a "__get__" = some (some g)) (ht : takesIn K a = some false) (hc : copiedNames.contains name = false) (hl : getL name es = some none)
    (h : ∀ Γ', InOK Γ' A.in1 → wpAt (model prog w) Γ' (call g [a, .ref x, .ref C]) (fun v s' => wpAny (model prog w) A (handedOut v) Q (fun _ _ => False) s') { s with toks := s.toks + 1 }) :
    wpAt (model prog w) Γ (getAttr (.ref x) name expr) Q s :=
  at_get_bind hΓ (X₀.keeps F.keep) I (plainGet_of hg).1 (findObj_late hh ha hn ht hc hl) (plainGet_of hg).2 h
end
end Mine
end

section
open PySem PySem.W PySem.Calls PyProof.Rows PySem.Builtin PySem.Builtin.ObjectAttr PySem.Builtin.Getset_descriptor
namespace Mine
section
variable {prog : Program} {w : World} {Γ : Ctx} {A : Around} {s : Shared} {R : Result → Shared → Prop}

theorem codeAt_call_builtin {id : String} {args : Args} {b : Builtin} (hc : Γ.code = .call (.builtin id) args) (hΓ : BelowOK Γ A) (hq : plainId id = true) (hb : entryFor table id = some b) (hf : isFin (.builtin id args) = false)
    (h : wpAny (model prog w) A.in1 (checkBuiltinCall id args) (fun _ s₁ => ∀ Γ', Γ'.code = .builtin id args → BelowOK Γ' A → InOK Γ' A.in1 → (∀ c, (Γ'.goto c) = Γ.goto c) → wpAt (model prog w) Γ' (b args)
      (fun fin s' => match fin with | .done f => R (.ok f) s' | .again c' => c'.quiet = true ∧ codeAt (model prog w) (Γ'.goto c') R s') s₁) (fun _ _ => False) s) :
    codeAt (model prog w) Γ R s := by
  refine codeAt_tree ?_
  have hin : InOK Γ A.in1 := by
    have := hΓ.in (by rw [hc]; rfl)
    rw [hc] at this
    exact this
  rw [hc]
  refine at_any hin ?_
  show wpAny _ A.in1 (do checkBuiltinCall id args; again (.builtin id args)) _ _ s
  refine wpAny_bind (wpAny_mono h (fun _ s₁ h₁ => wpAny_pure (And.intro (plainId_quiet hq args) ?_)) fun _ _ h' => h')
  have hi2 : InOK (Γ.goto (.builtin id args)) A.in1 := by
    have := (hΓ.goto (.builtin id args)).in hf
    rwa [show A.under (Γ.goto (.builtin id args)).code = A.in1 from Around.under_plainId hq args] at this
  exact codeAt_builtin rfl hb (h₁ (Γ.goto (.builtin id args)) rfl (hΓ.goto _) hi2 fun _ => rfl)
end

abbrev dictS (es : List DictEntry) (n : Nat) (sl : Array (Option Value)) : Obj := { cls := .type "dict", data := .dict es.toArray n, slots := sl }

namespace DF
theorem entry_dict : entryFor table "function.__dict__" = some Builtin.«function.__dict__» := entryFor_of_tree (by kernel_rfl)
end DF

theorem no_fin_some {α : Type} {f : Code × Pos → Option α} (hf : ∀ c p, isFin c = false → f (c, p) = none) : ∀ {l : List (Code × Pos)}, (∀ c ∈ l.map (·.1), isFin c = false) → l.findSome? f = none
  | [], _ => rfl
  | (c, p) :: r, h => by
    rw [List.findSome?_cons, hf c p (h c (by simp))]
    exact no_fin_some hf fun c' hc' => h c' (by simp at hc' ⊢; exact .inr hc')

theorem at_stack {α : Type} {M : Model} {Γ : Ctx} {s : Shared} {f : List (Code × Pos) → Sem α} {Q : α → Shared → Prop} (h : ∀ p, wpAt M Γ (f ((Γ.code, p) :: Γ.below)) Q s) : wpAt M Γ (stack >>= f) Q s := fun p => h p p

section
variable {prog : Program} {w : World} {Γ : Ctx} {A : Around} {s : Shared} {K : Frag} {x C L dx : Addr} {h₀ : Heap} {m : Str → Option Value} {es : List DictEntry} {n : Nat} {sl : Array (Option Value)} {Q : Fin → Shared → Prop}

theorem dict_tree (hΓ : InOK Γ A) (X : K.In s.heap) (I : InstAt s.heap x ⟨.ref C, some dx, .plain, sl⟩ C (some (dictOf es n)))
    (h1 : mroIn K C (.type "staticmethod") = some false) (h2 : mroIn K C (.type "classmethod") = some false) (hh : hasDictIn K C = true)
    (ht : nsIn K cStatics "_thread.count" = some none)
    (h : Q (.done (.ret (.ref dx))) { s with heap := s.heap.update dx fun o => if o.slots.isEmpty then { o with slots := #[none] } else o }) :
    wpAt (model prog w) Γ (Builtin.«function.__dict__» ⟨[.ref x], []⟩) Q s := by
  obtain ⟨hh', gg, d, t, os⟩ := s
  have L0 := I.type (M := model prog w)
  have L1 : Looks (model prog w) hh' (isInstance (.ref x) (.type "staticmethod")) false := L0.andThen (looks_mroIn X h1)
  have L2 : Looks (model prog w) hh' (isInstance (.ref x) (.type "classmethod")) false := L0.andThen (looks_mroIn X h2)
  have hx := I.at_
  have hd : hh'.get? dx = some (dictOf es n) := I.dict
  obtain ⟨cd, hcd, hhd⟩ := any_some hh
  have L3 := looks_clsIn (M := model prog w) X hcd
  unfold Builtin.«function.__dict__»
  refine at_bindA hΓ (wpAny_bind (L1.at (L2.at ?_)))
  simp only [Bool.false_eq_true, if_false]
  refine at_bind ?_
  unfold instanceDictHandedOut instanceDict
  refine at_bind (at_bindA hΓ (wpAny_loadPart hx ?_))
  dsimp only
  refine at_bindA hΓ (L3.at ?_)
  rw [hhd]
  simp only [Bool.not_true, Bool.false_eq_true, if_false]
  refine at_pure ?_
  dsimp only
  refine at_bindA hΓ (wpAny_loadPart hx ?_)
  dsimp only
  refine at_bind ?_
  k_delta "dictMadeRealInsideACollection"
  refine at_bindA hΓ (wpAny_load hd ?_)
  dsimp only
  have fin : wpAt (model prog w) Γ (pure (none : Option String)) (fun a s' =>
      wpAt (model prog w) Γ
        (match a with
        | some word => do
          unsupported word
          update dx fun o => if o.slots.isEmpty = true then { cls := o.cls, dict := o.dict, data := o.data, slots := #[none] } else o
          pure (some dx)
        | _ => do
          update dx fun o => if o.slots.isEmpty = true then { cls := o.cls, dict := o.dict, data := o.data, slots := #[none] } else o
          pure (some dx))
        (fun a s' => wpAt (model prog w) Γ (ret (match a with | some d => Value.ref d | none => Value.none)) Q s') s') ⟨hh', gg, d, t, os⟩ := by
    refine at_pure ?_
    dsimp only
    refine at_bindA hΓ (wpAny_update hd ?_)
    exact at_pure (at_pure h)
  split
  · exact fin
  · refine at_stack fun p => ?_
    rw [no_fin_some (fun c p hc => by
      dsimp only
      split
      · cases hc
      · rfl) (l := (Γ.code, p) :: Γ.below) (fun c hc => hΓ.f c (by simpa using hc))]
    dsimp only
    refine at_bindA hΓ ((looks_nsIn X ht).at ?_)
    simp only [Option.isNone_none, if_true]
    exact fin
end


section
variable {prog : Program} {w : World} {Γ : Ctx} {A : Around} {s : Shared} {K : Frag} {x C L dx p : Addr} {h₀ : Heap} {m : Str → Option Value} {es : List DictEntry} {n : Nat} {sl : Array (Option Value)} {expr : Bool} {Q : Value → Shared → Prop} {news news' : List (Addr × Obj)} {dn : Str} {dt : Tok} {gs : Value}

theorem at_dict (hΓ : InOK Γ A) (F : Fr h₀ L s.heap m) (X₀ : K.In h₀) (N : News h₀ L s.heap news) (I : InstAt s.heap x ⟨.ref C, some dx, .plain, sl⟩ C (some (dictOf es n)))
    (hg : plainGet K C "__dict__" = true) (hh : hasDictIn K C = true) (ha : findIn K (.ref C) "__dict__" = some (some (.ref p)))
    (hn : specialIn K (.ref p) "__get__" = some (some (.builtin "getset_descriptor.__get__"))) (htk : takesIn K (.ref p) = some true)
    (hp : recIn K p "getset_descriptor" = some [.str dn dt, .ref C, .builtin "function.__dict__", gs]) (hm : mroIn K C (.ref C) = some true)
    (h1 : mroIn K C (.type "staticmethod") = some false) (h2 : mroIn K C (.type "classmethod") = some false) (ht : nsIn K cStatics "_thread.count" = some none)
    (U : Upd dx (dictOf es n) (dictS es n #[none]) news news')
    (h : ∀ h', Fr h₀ L h' m → News h₀ L h' news' → Q (.ref dx) { s with heap := h', toks := s.toks + 1 }) :
    wpAt (model prog w) Γ (getAttr (.ref x) "__dict__" expr) Q s := by
  have X := X₀.keeps F.keep
  obtain ⟨pre, post, rfl, rfl, ua, ub⟩ := U.split
  obtain ⟨F', N'⟩ := news_upd (f := fun o => if o.slots.isEmpty then { o with slots := #[none] } else o) F N ua ub (o' := dictS es n #[none]) rfl rfl
  refine at_get_bind hΓ X I (plainGet_of hg).1 (findObj_data (by obtain ⟨cd, hc, _⟩ := any_some hh; rw [hc]; rfl) ha hn htk) (plainGet_of hg).2 fun Γ' hΓ' => ?_
  obtain ⟨d, sl', ho⟩ := rec_of X hp
  obtain ⟨hh', g, dr, t, os⟩ := s
  have L0 := I.type (M := model prog w)
  have L1 := looks_mroIn (M := model prog w) X hm
  dsimp only at ho L0 L1
  have f0 := looks_field (M := model prog w) ho 0 (v := .str dn dt) rfl
  have f1 := looks_field (M := model prog w) ho 1 (v := .ref C) rfl
  have f2 := looks_field (M := model prog w) ho 2 (v := .builtin "function.__dict__") rfl
  refine at_call fun p' => codeAt_call_builtin rfl (hΓ'.enter _ p') KF.slot_gs.plain KF.entry_gs rfl (KF.slot_gs.check _ _ _ _ _ _ _ _ ⟨_, ho, rfl⟩ (KF.args_gs _ _ _) fun Γ2 hc2 hB2 hI2 _ => ?_)
  refine at_any hI2 ?_
  unfold Builtin.«getset_descriptor.__get__» descrGet
  rw [dga_obj]
  refine wpAny_bind (wpAny_pure ?_)
  unfold descrGetter descrCheckInstance descrNameAndClass isInstance
  repeat lk
  show (Code.builtin "function.__dict__" ⟨[.ref x], []⟩).quiet = true ∧ codeAt _ (Γ2.goto (.builtin "function.__dict__" ⟨[.ref x], []⟩)) _ _
  have hI3 : InOK (Γ2.goto (.builtin "function.__dict__" ⟨[.ref x], []⟩)) A.in1.in1 := by
    have := (hB2.goto (.builtin "function.__dict__" ⟨[.ref x], []⟩)).in rfl
    rwa [show A.in1.under (Γ2.goto (.builtin "function.__dict__" ⟨[.ref x], []⟩)).code = A.in1.in1 from Around.under_plainId (by decide +kernel) _] at this
  refine ⟨Code.quiet_builtin _ (by decide +kernel), codeAt_builtin rfl DF.entry_dict (dict_tree (s := ⟨hh', g, dr, t + 1, os⟩) hI3 X I h1 h2 hh ht ?_)⟩
  dsimp only
  rw [handedOut_of (v := .ref dx) rfl]
  exact wpAny_pure (h _ F' N')
end

section
variable {prog : Program} {w : World} {A : Around} {E : Value → Shared → Prop} {s : Shared} {K : Frag} {x C L dx p : Addr} {h₀ : Heap} {m : Str → Option Value} {es : List DictEntry} {n : Nat} {sl : Array (Option Value)} {news : List (Addr × Obj)} {dn : Str} {dt : Tok} {gs : Value} {expr : Bool}

theorem dict_treeS {Q : PySem.Fin → Shared → Prop} (X : K.In s.heap) (I : InstAt s.heap x ⟨.ref C, some dx, .plain, sl⟩ C (some (dictS es n #[none])))
    (h1 : mroIn K C (.type "staticmethod") = some false) (h2 : mroIn K C (.type "classmethod") = some false) (hh : hasDictIn K C = true)
    (h : Q (.done (.ret (.ref dx))) { s with heap := s.heap.update dx fun o => if o.slots.isEmpty then { o with slots := #[none] } else o }) :
    wpAny (model prog w) A (Builtin.«function.__dict__» ⟨[.ref x], []⟩) Q E s := by
  obtain ⟨hh', gg, d, t, os⟩ := s
  have L0 := I.type (M := model prog w)
  have L1 : Looks (model prog w) hh' (isInstance (.ref x) (.type "staticmethod")) false := L0.andThen (looks_mroIn X h1)
  have L2 : Looks (model prog w) hh' (isInstance (.ref x) (.type "classmethod")) false := L0.andThen (looks_mroIn X h2)
  have hx := I.at_
  have hd : hh'.get? dx = some (dictS es n #[none]) := I.dict
  obtain ⟨cd, hcd, hhd⟩ := any_some hh
  have L3 := looks_clsIn (M := model prog w) X hcd
  unfold Builtin.«function.__dict__»
  refine wpAny_bind (wpAny_bind (L1.at (L2.at ?_)))
  simp only [Bool.false_eq_true, if_false]
  refine wpAny_bind ?_
  unfold instanceDictHandedOut instanceDict
  refine wpAny_bind (wpAny_bind (wpAny_loadPart hx ?_))
  dsimp only
  refine wpAny_bind (L3.at ?_)
  rw [hhd]
  simp only [Bool.not_true, Bool.false_eq_true, if_false]
  refine wpAny_pure ?_
  dsimp only
  refine wpAny_bind (wpAny_loadPart hx ?_)
  dsimp only
  refine wpAny_bind ?_
  k_delta "dictMadeRealInsideACollection"
  refine wpAny_bind (wpAny_load hd ?_)
  dsimp only
  rw [if_pos (by rfl)]
  refine wpAny_pure ?_
  dsimp only
  refine wpAny_bind (wpAny_update hd ?_)
  exact wpAny_pure (wpAny_pure h)

theorem get_dictS {Q : Value → Shared → Prop} (F : Fr h₀ L s.heap m) (X₀ : K.In h₀) (N : News h₀ L s.heap news) (I : InstAt s.heap x ⟨.ref C, some dx, .plain, sl⟩ C (some (dictS es n #[none])))
    (hg : plainGet K C "__dict__" = true) (hh : hasDictIn K C = true) (ha : findIn K (.ref C) "__dict__" = some (some (.ref p)))
    (hn : specialIn K (.ref p) "__get__" = some (some (.builtin "getset_descriptor.__get__"))) (htk : takesIn K (.ref p) = some true)
    (hp : recIn K p "getset_descriptor" = some [.str dn dt, .ref C, .builtin "function.__dict__", gs]) (hm : mroIn K C (.ref C) = some true)
    (h1 : mroIn K C (.type "staticmethod") = some false) (h2 : mroIn K C (.type "classmethod") = some false)
    (U : Upd dx (dictS es n #[none]) (dictS es n #[none]) news news)
    (h : ∀ h', Fr h₀ L h' m → News h₀ L h' news → Q (.ref dx) { s with heap := h', toks := s.toks + 1 }) :
    wpAny (model prog w) A (getAttr (.ref x) "__dict__" expr) Q E s := by
  have X := X₀.keeps F.keep
  obtain ⟨pre, post, e1, e2, ua, ub⟩ := U.split
  rw [e1] at N
  obtain ⟨F', N'⟩ := news_upd (f := fun o => if o.slots.isEmpty then { o with slots := #[none] } else o) F N ua ub (o' := dictS es n #[none]) rfl rfl
  rw [← e1] at N'
  refine get_bind X I (plainGet_of hg).1 (findObj_data (by obtain ⟨cd, hc, _⟩ := any_some hh; rw [hc]; rfl) ha hn htk) (plainGet_of hg).2 ?_
  obtain ⟨d, sl', ho⟩ := rec_of X hp
  obtain ⟨hh', g, dr, t, os⟩ := s
  have L0 := I.type (M := model prog w)
  have L1 := looks_mroIn (M := model prog w) X hm
  dsimp only at ho L0 L1
  have f0 := looks_field (M := model prog w) ho 0 (v := .str dn dt) rfl
  have f1 := looks_field (M := model prog w) ho 1 (v := .ref C) rfl
  have f2 := looks_field (M := model prog w) ho 2 (v := .builtin "function.__dict__") rfl
  refine wpAny_call (codeAny_call_builtin KF.slot_gs.plain KF.entry_gs (KF.slot_gs.check _ _ _ _ _ _ _ _ ⟨_, ho, rfl⟩ (KF.args_gs _ _ _) ?_))
  unfold Builtin.«getset_descriptor.__get__» descrGet
  rw [dga_obj]
  refine wpAny_bind (wpAny_pure ?_)
  unfold descrGetter descrCheckInstance descrNameAndClass isInstance
  repeat lk
  show (Code.builtin "function.__dict__" ⟨[.ref x], []⟩).quiet = true ∧ codeAny _ _ (.builtin "function.__dict__" ⟨[.ref x], []⟩) _ _
  refine ⟨Code.quiet_builtin _ (by decide +kernel), codeAny_builtin DF.entry_dict ?_⟩
  refine dict_treeS (s := ⟨hh', g, dr, t + 1, os⟩) X I h1 h2 hh ?_
  dsimp only
  rw [handedOut_of (v := .ref dx) rfl]
  exact wpAny_pure (h _ F' N')
end
end Mine
end

section
open PySem PySem.W PySem.Calls PyProof.Rows
namespace Mine
theorem putName_dictS (name : Str) (hsh : Int) (key v : Value) (es : List DictEntry) (n : Nat) (sl : Array (Option Value)) : Obj.putName name hsh key v (dictS es n sl) = dictS (putL name hsh key v es) (putN name es n) sl := by
  rw [Obj.putName_eq]
  unfold Obj.putNameByArray dictS putN
  have h1 := putL_find name hsh key v es
  have h2 := any_of_findIdx name es
  simp only [List.findIdx?_toArray]
  cases h : List.findIdx? (fun x => x.key.isStr name) es with
  | none => rw [h] at h1 h2; rw [← h2, ← h1]; simp
  | some i => rw [h] at h1 h2; rw [← h2, ← h1]; simp
theorem lookIn_dictS (name : Str) (es : List DictEntry) (n : Nat) (sl : Array (Option Value)) : lookIn name (dictS es n sl) = getL name es := rfl

section
variable {prog : Program} {w : World} {A : Around} {E : Value → Shared → Prop} {s : Shared} {K : Frag} {x C L dx : Addr} {h₀ : Heap} {m : Str → Option Value} {ox : Obj} {es es' : List DictEntry} {n n' : Nat} {sl : Array (Option Value)} {name : Str} {v : Value} {expr : Bool} {a g : Value} {news news' : List (Addr × Obj)}
theorem get_ownS {Q : Value → Shared → Prop} {attr : Option Value} (F : Fr h₀ L s.heap m) (X₀ : K.In h₀) (I : InstAt s.heap x ox C (some (dictS es n sl))) (hg : plainGet K C name = true) (hh : hasDictIn K C = true)
    (ha : findIn K (.ref C) name = some attr) (hn : noGet K attr = true) (hl : getL name es = some (some v)) (hv : handedIn v = true) (h : Q v { s with toks := s.toks + 1 }) :
    wpAny (model prog w) A (getAttr (.ref x) name expr) Q E s :=
  get_value (X₀.keeps F.keep) I (plainGet_of hg).1 (findObj_own hh ha hn hl) hv h
theorem get_shadowS {Q : Value → Shared → Prop} (F : Fr h₀ L s.heap m) (X₀ : K.In h₀) (I : InstAt s.heap x ox C (some (dictS es n sl))) (hg : plainGet K C name = true) (hh : hasDictIn K C = true)
    (ha : findIn K (.ref C) name = some (some a)) (hn : specialIn K a "__get__" = some (some g)) (ht : takesIn K a = some false) (hl : getL name es = some (some v)) (hv : handedIn v = true) (h : Q v { s with toks := s.toks + 1 }) :
    wpAny (model prog w) A (getAttr (.ref x) name expr) Q E s :=
  get_value (X₀.keeps F.keep) I (plainGet_of hg).1 (findObj_shadow hh ha hn ht hl) hv h
theorem get_lateS {Q : Value → Shared → Prop} (F : Fr h₀ L s.heap m) (X₀ : K.In h₀) (I : InstAt s.heap x ox C (some (dictS es n sl))) (hg : plainGet K C name = true) (hh : hasDictIn K C = true)
    (ha : findIn K (.ref C) name = some (some a)) (hn : specialIn K a "__get__" = some (some g)) (ht : takesIn K a = some false) (hc : copiedNames.contains name = false) (hl : getL name es = some none)
    (h : wpAny (model prog w) A.in1 (call g [a, .ref x, .ref C]) (fun v s' => wpAny (model prog w) A (handedOut v) Q E s') (fun e s' => wpAny (model prog w) A (noteIf true (.ref x) (.str name s.toks) e) (fun _ s'' => E e s'') E s') { s with toks := s.toks + 1 }) :
    wpAny (model prog w) A (getAttr (.ref x) name expr) Q E s :=
  get_bind (X₀.keeps F.keep) I (plainGet_of hg).1 (findObj_late hh ha hn ht hc hl) (plainGet_of hg).2 h
theorem method_instS {pl : Sem Bool} {Q : Value × List Value → Shared → Prop} {f : Addr} (F : Fr h₀ L s.heap m) (X₀ : K.In h₀) (I : InstAt s.heap x ox C (some (dictS es n sl))) (hg : plainGet K C name = true)
    (hf : findIn K (.ref C) name = some (some (.ref f))) (ht : isFn K (.ref f) = true) (hl : getL name es = some none) (h : Q (.ref f, [.ref x]) s) : wpAny (model prog w) A (getMethod (.ref x) name pl) Q E s :=
  method_fn (X₀.keeps F.keep) I (plainGet_of hg).1 (plainGet_of hg).2 hf (beq_iff_eq.mp ht) (by show (lookIn name (dictS es n sl)).map _ = _; rw [lookIn_dictS, hl]; rfl) h
theorem set_dictS {Q : Unit → Shared → Prop} (F : Fr h₀ L s.heap m) (X₀ : K.In h₀) (N : News h₀ L s.heap news) (I : InstAt s.heap x ox C (some (dictS es n sl))) (hd : ox.dict = some dx)
    (hs : findIn K (.ref C) "__setattr__" = some (some (.builtin "object.__setattr__"))) (hp : plainOver K C = true) (ht : takerIn K C name = some none) (hh : hasDictIn K C = true) (hl : (getL name es).isSome = true)
    (e : (putL name (PyData.keyHash w.params name) (.str name (s.toks + 1)) v es, putN name es n) = (es', n')) (U : Upd dx (dictS es n sl) (dictS es' n' sl) news news') (hz : es'.length ≤ 1000)
    (h : ∀ h', Fr h₀ L h' m → News h₀ L h' news' → Q () { s with heap := h', toks := s.toks + 2 }) :
    wpAny (model prog w) A (setAttr (.ref x) name v) Q E s := by
  obtain ⟨pre, post, rfl, rfl, a, b⟩ := U.split
  obtain ⟨e1, e2⟩ := Prod.mk.inj e
  exact set_plain (X₀.keeps F.keep) I hs (osa_dict (s := { s with toks := s.toks + 1 }) F N (X₀.keeps F.keep) I hd hp ht hh hl a b (by rw [putName_dictS, e1, e2]) rfl hz fun h' F' N' => h h' F' N')
end

section
variable {prog : Program} {w : World} {A : Around} {E : Value → Shared → Prop} {s : Shared} {d L : Addr} {h₀ : Heap} {m : Str → Option Value} {es es' : List DictEntry} {n : Nat} {sl : Array (Option Value)} {x : Str} {t : Tok} {v dflt : Value} {news news' : List (Addr × Obj)}

theorem typeIsS (ho : s.heap.get? d = some (dictS es n sl)) : s.TypeIs (.ref d) "dict" := ⟨_, ho, rfl⟩
theorem method_getS {pl : Sem Bool} {Q : Value × List Value → Shared → Prop} (N : News h₀ L s.heap news) (hm : (d, dictS es n sl) ∈ news) (h : Q (.builtin "dict.get", [.ref d]) s) :
    wpAny (model prog w) A (getMethod (.ref d) "get" pl) Q E s :=
  getMethod_builtin (typeIsS (N _ hm).1) PySem.F.plainAttrs_dict PySem.F.slot_dict_get PySem.F.type_dict_get (fun b e => by injection e with e; subst e; exact ⟨_, (N _ hm).1, rfl⟩) h

theorem keysOf_lit (hk : KeysLit w.params es) : KeysOf (PySem.strKind prog w) es.toArray := fun e he => by
  obtain ⟨x, t, e1, e2⟩ := hk.all e (by simpa using he)
  exact ⟨x, by rw [e1]; exact strKind_is prog w x t, e2⟩

theorem dictGet_missS {Q : Option Value → Shared → Prop} (ho : s.heap.get? d = some (dictS es n sl)) (hk : KeysLit w.params es) (hf : getL x es = some none)
    (h : Q none { s with toks := s.toks + 1 }) : wpAny (model prog w) A (dictGet d (.str x t)) Q E s := by
  have hkey := strKind_is prog w x t
  have hno : (es.toArray.findIdx? fun e => (PySem.strKind prog w).is x e.key) = none := by
    have q : (fun e : DictEntry => (PySem.strKind prog w).is x e.key) = fun e => e.key.isStr x := funext fun e => (isStr_of x e.key).symm
    rw [q]
    unfold getL at hf
    split at hf
    · cases hf
    · rename_i hnone
      rw [List.findIdx?_toArray]
      rw [List.findIdx?_eq_none_iff]
      intro e he
      have := List.find?_eq_none.mp hnone e he
      simpa using this
  unfold dictGet
  try with_reducible refine wpAny_holding ?_
  refine wpAny_bind ((PySem.strKind prog w).pyHash hkey (wpAny_bind (wpAny_dictFind_of (s := { s with toks := s.toks + 1 }) hkey ho rfl (keysOf_lit hk) ?_)))
  rw [hno]
  exact wpAny_pure h
theorem call_get_missS {Q : Value → Shared → Prop} (N : News h₀ L s.heap news) (hm : (d, dictS es n sl) ∈ news) (lo : (d == sysModules) = false) (hk : KeysLit w.params es) (hf : getL x es = some none)
    (h : Q dflt { s with toks := s.toks + 1 }) : wpAny (model prog w) A (call (.builtin "dict.get") [.ref d, .str x t, dflt]) Q E s := by
  refine wpAny_call_entry PySem.F.slot_dict_get (typeIsS (N _ hm).1) PySem.F.entry_dict_get ?_ (PySem.F.args_dict_get_3 _ _ _)
  show wpAny _ _ (dictGet d (.str x t) >>= _) _ _ s
  refine wpAny_bind (dictGet_missS (N _ hm).1 hk hf ?_)
  show wpAny _ _ (Builtin.Dict.missed d (.str x t) >>= _) _ _ _
  exact wpAny_bind (wpAny_missed_other lo (wpAny_pure ⟨dflt, rfl, h⟩))

theorem setItem_newS {Q : Unit → Shared → Prop} (F : Fr h₀ L s.heap m) (N : News h₀ L s.heap news) (U : Upd d (dictS es n sl) (dictS (es ++ [⟨PyData.keyHash w.params x, .str x t, v⟩]) (n + 1) sl) news news') (hk : KeysLit w.params es) (hf : getL x es = some none) (hz : es.length ≤ 1000)
    (h : ∀ h', Fr h₀ L h' m → News h₀ L h' news' → Q () { s with heap := h', toks := s.toks + 1 }) : wpAny (model prog w) A (setItem (.ref d) (.str x t) v) Q E s := by
  obtain ⟨pre, post, rfl, rfl, a, b⟩ := U.split
  have ho := (N (d, dictS es n sl) (by simp)).1
  have hkey := strKind_is prog w x t
  have hno : (es.toArray.findIdx? fun e => (PySem.strKind prog w).is x e.key) = none := by
    have q : (fun e : DictEntry => (PySem.strKind prog w).is x e.key) = fun e => e.key.isStr x := funext fun e => (isStr_of x e.key).symm
    rw [q]
    unfold getL at hf
    split at hf
    · cases hf
    · rename_i hnone
      rw [List.findIdx?_toArray]
      rw [List.findIdx?_eq_none_iff]
      intro e he
      have := List.find?_eq_none.mp hnone e he
      simpa using this
  have T := typeIsS ho
  obtain ⟨F', N'⟩ := news_upd (f := Obj.mapDictKeys fun es => es.push ⟨PyData.keyHash w.params x, .str x t, v⟩) F N a b (o' := dictS (es ++ [⟨PyData.keyHash w.params x, .str x t, v⟩]) (n + 1) sl) (by
    show Obj.mk _ _ _ _ = Obj.mk _ _ _ _
    simp) rfl
  unfold setItem
  try with_reducible refine wpAny_holding ?_
  refine wpAny_bind (wpAny_sequenceKey T (by decide) ?_)
  refine wpAny_bind (wpAny_callSpecial?_slot (name := Str.ofString "__setitem__") T PySem.slot_dict_setitem
    (wpAny_call_entry PySem.slot_dict_setitem T PySem.entry_dict_setitem ?_ (PySem.args_dict_setitem _ _ _)))
  show wpAny _ _ (Builtin.Dict.notOrdered "__setitem__" ⟨[.ref d, .str x t, v], []⟩ >>= _) _ _ s
  refine wpAny_bind (wpAny_notOrdered_dict T ?_)
  show wpAny _ _ (dictSet d (.str x t) v >>= _) _ _ s
  refine wpAny_bind ?_
  unfold dictSet
  try with_reducible refine wpAny_holding ?_
  refine wpAny_bind ((PySem.strKind prog w).pyHash hkey ?_)
  unfold dictSetHashed
  try with_reducible refine wpAny_holding ?_
  refine wpAny_bind (wpAny_dictFind_of (s := { s with toks := s.toks + 1 }) hkey ho rfl (keysOf_lit hk) ?_)
  rw [hno]
  refine wpAny_bind (wpAny_rule (wpAny_updateDictKeys (s := { s with toks := s.toks + 1 }) ho rfl ?_ (by rw [sizeLine_eq]; simp; omega)))
  exact wpAny_pure ⟨.none, rfl, wpAny_pure (h _ F' N')⟩
end
end Mine
end

section
open PySem PySem.W PySem.Calls PyProof.Rows
namespace Mine

/-- what a generator's body runs under -/
abbrev genA (A : Around) (body : List Stmt) (env : Env) : Around := (A.in1.in1.in1).over (.func body env) []

structure GenLeft (s : Shared) (g : Nat) (L' : Addr) (s' : Shared) : Prop where
  heap : ∀ b o, b ≠ L' → s.heap.get? b = some o → s'.heap.get? b = some o
  gens : AllBare s.gens → AllBare s'.gens
  drawn : s'.drawn = s.drawn
  os : s'.os = s.os

section
variable {prog : Program} {w : World} {A : Around} {E : Value → Shared → Prop} {s : Shared} {a L' : Addr} {g : Nat} {body : List Stmt} {env : Env} {Q : Value → Shared → Prop}

theorem bare_set {a : Array GenState} (h : AllBare a) (g : Nat) (x : GenState) (hx : x.bare = true) : AllBare (a.setIfInBounds g x) := by
  intro y hy
  rcases Array.mem_or_eq_of_mem_setIfInBounds hy with h1 | h1
  · exact h y h1
  · exact h1 ▸ hx
theorem setGen_twice (s : Shared) (g : Nat) (x y : GenState) : ((s.setGen g x).setGen g y) = s.setGen g y := by
  obtain ⟨h, gs, d, t, o⟩ := s
  simp only [Shared.setGen, Array.setIfInBounds_setIfInBounds]

theorem list_gen_empty (hh : A.handled = none) (hroom : A.depth < recursionLimit) (hl : s.heap.NoLimit) (hg : s.heap.IsGen a g) (hgs : s.gens[g]? = some (.fresh (.func body env))) (haL : a ≠ L') (hL : L' < s.heap.objs.size)
    (run : ∀ s₁ : Shared, (∀ b o, s.heap.get? b = some o → s₁.heap.get? b = some o) → wpAny (model prog w) (genA A body env) (execs body env)
      (fun f s₂ => (match f with | .ret v => v | _ => .none) = Value.none ∧ ∃ h' tk, s₂ = { s₁ with heap := h', toks := tk } ∧ ∀ b o, b ≠ L' → s₁.heap.get? b = some o → h'.get? b = some o) (fun _ _ => False) s₁)
    (hQ : ∀ s' n, GenLeft s g L' s' → s'.heap.get? s.heap.objs.size = some { cls := .type "list", data := .seq #[] n } → Q (.ref s.heap.objs.size) s') :
    wpAny (model prog w) A (call (.type "list") [.ref a]) Q E s := by
  obtain ⟨oa, nma, qna, hoa, ra⟩ := hg
  have hlt : a < s.heap.objs.size := Heap.lt_size hoa
  refine call_list_gen (prog := prog) (w := w) (I := a) (fp := List.range s.heap.objs.size) (wr := [L']) (G := fun x y => AllBare x → AllBare y) (n := 0) (P := fun _ _ => True)
    (St := fun i s₁ => i = 0 ∧ (∀ b o, s.heap.get? b = some o → s₁.heap.get? b = some o) ∧ s₁.gens[g]? = some (.fresh (.func body env))) ?W (fun i s₁ st => ⟨oa, st.2.1 _ _ hoa, ra.1⟩) ⟨rfl, fun _ _ e => e, hgs⟩ (fun b hb => List.mem_range.mp hb) (List.mem_range.mpr hlt) ?_ (Nat.zero_le _)
  · refine ⟨fun b hb => by rw [List.mem_singleton.mp hb]; exact List.mem_range.mpr hL, fun _ h => h, fun _ _ _ x y h => y (x h), ?_, fun i _ _ _ hi => absurd hi (Nat.not_lt_zero _), ?_, ?_⟩
    · rintro i s₁ h' tk ⟨h0, hk, hg'⟩ _ hk'
      exact ⟨h0, fun b o e => hk' b (List.mem_range.mpr (Heap.lt_size e)) o (hk b o e), hg'⟩
    · rintro s₁ Q' E' ⟨_, hk, hg'⟩ hQ'
      refine wpAny_with_toks (Nat.le_refl s₁.toks) ?_
      refine wpAny_pyNext_gen (n := 0) (Y := fun _ _ _ _ _ => False) (P := fun _ s₀ s₂ => ∃ h' tk, s₂ = { s₀ with heap := h', toks := tk } ∧ ∀ b o, b ≠ L' → s₀.heap.get? b = some o → h'.get? b = some o) (A := A.in1.in1) hh (hl.keeps hk) hroom ⟨oa, nma, qna, hk _ _ hoa, ra⟩ hg' ⟨rfl, ?_⟩ (fun v s₂ gs' hf => hf.elim) ?_
      · refine seg_func (seg_wrap (wpAny_mono (run (s₁.setGen g .running) hk) (fun f s₂ hs₂ => ?_) fun _ _ x => x.elim))
        obtain ⟨hv, hs⟩ := hs₂
        exact seg_end (.ok (.ret _)) ⟨congrArg (fun v => Except.ok (Flow.ret v)) hv, hs⟩
      · rintro s₂ ⟨h', tk, rfl, hk2⟩ h'' hk3 htk
        refine hQ' _ ⟨fun b o hb e => hk3 b o (hk2 b o (fun e' => hb (List.mem_singleton.mpr e')) e), fun hb => ?_, rfl, rfl, htk⟩
        exact bare_set (bare_set hb g .running rfl) g .finished rfl
    · intro i s₁ Q' E' st hq
      exact wpAny_pyIter_gen ⟨oa, nma, qna, st.2.1 _ _ hoa, ra⟩ hq
  · rintro s' acc' c' hm hS' hacc
    obtain ⟨l⟩ := acc'
    have : l = [] := List.eq_nil_of_length_eq_zero hacc.1
    subst this
    refine hQ s' c' ⟨fun b o hb e => hm.heap b o (fun h1 => ?_) (Heap.get?_push_of_some _ e), hm.gens, hm.drawn, hm.os⟩ hS'
    rcases List.mem_cons.mp h1 with rfl | h1
    · exact absurd (Heap.lt_size e) (Nat.lt_irrefl _)
    · exact hb (List.mem_singleton.mp h1)
end
end Mine
end

section
open PySem PySem.W PySem.Calls PyProof.Rows
namespace Mine

/-- a generator just made: where it stands, and what its frame is -/
structure GenMade (s : Shared) (h' : Heap) (gens' : Array GenState) (a L' : Addr) (body : List Stmt) (env : Env) (binds : List (Str × Value)) : Prop where
  at_ : L' = s.heap.objs.size
  a_ : a = s.heap.objs.size + 1
  size : h'.objs.size = s.heap.objs.size + 2
  ns : h'.Ns L' (fun y => binds.reverse.lookup y)
  isGen : h'.IsGen a s.gens.size
  gens : gens' = s.gens.push (.fresh (.func body env))
  keep : ∀ b o, s.heap.get? b = some o → h'.get? b = some o

section
variable {prog : Program} {w : World} {A : Around} {E : Value → Shared → Prop} {s : Shared} {K : Frag} {h₀ : Heap} {L f : Addr} {m mg mb : Str → Option Value} {news : List (Addr × Obj)} {p : Program} {loose : List Str} {mean : ExcName → Option Value}
    {name qual : Str} {params : Arguments} {body : List Stmt} {scope : Scope} {dV kV doc pm cdv ct oc : Value} {an od : Option Addr} {osl : Array (Option Value)} {args : Args} {binds : List (Str × Value)} {Q : Value → Shared → Prop}

theorem gen_make (F : Fr h₀ L s.heap m) (X₀ : K.In h₀) (N : News h₀ L s.heap news) (T : Top p loose mean mg mb h₀)
    (ho : K.lookup f = some ⟨oc, od, .func (fnOf name qual params body scope dV kV doc pm an cdv ct), osl⟩) (hcd : codeIn K cdv qual = true) (hroom : A.depth < recursionLimit)
    (hbind : BindsTo s (fnOf name qual params body scope dV kV doc pm an cdv ct) args binds) (hloc : ∀ y ∈ binds, scope.names.lookup y.1 = some .local)
    (h : ∀ a h' tk gens', Fr h₀ L h' m → News h₀ L h' news → GenMade s h' gens' a s.heap.objs.size body (envOf qual scope s.heap.objs.size f cdv) binds → Q (.ref a) { s with heap := h', gens := gens', toks := tk })
    (hco : scope.isCoroutine = false) (hgen : scope.isGenerator = true) (hk : scope.kind = .function)
    (hcell : ∀ x ∈ scope.names, x.2 ≠ .cell) : wpAny (model prog w) A (call (.ref f) args.pos args.kw) Q E s := by
  refine wpAny_call ?_
  refine codeAny_call_generator (fd := fnOf name qual params body scope dV kV doc pm an cdv ct) (body := body) hroom ((X₀.keeps F.keep) _ _ ho) rfl hco hgen rfl (codeRec_of (X₀.keeps F.keep) hcd) (hbind _ _ _ _ ?_)
  refine wpAny_newFunctionEnv hcell hloc (fun h₁ hns₁ hsb₁ => ⟨(T.nolimit.keeps F.keep).fresh _ hsb₁, ?_⟩) hk
  have hk₁ : ∀ b o, s.heap.get? b = some o → h₁.get? b = some o := fun b o e => hsb₁.extBut b o (Nat.ne_of_lt (Heap.lt_size e)) (Heap.get?_push_of_some _ e)
  have hsz : h₁.objs.size = s.heap.objs.size + 1 := by rw [hsb₁.1, Heap.size_push]
  have e1 : (⟨h₁, s.gens, s.drawn, s.toks + binds.length, s.os⟩ : Shared).heap.objs.size = s.heap.objs.size + 1 := hsz
  refine h _ _ _ _ (F.keeps fun b o e => Heap.get?_push_of_some _ (hk₁ b o e)) (fun p hp => ⟨Heap.get?_push_of_some _ (hk₁ _ _ (N p hp).1), (N p hp).2⟩) ⟨rfl, ?_, ?_, hns₁.push _, ?_, rfl, fun b o e => Heap.get?_push_of_some _ (hk₁ b o e)⟩
  · exact e1
  · rw [Heap.size_push]; show h₁.objs.size + 1 = _; rw [hsz]
  · exact ⟨_, _, _, Heap.get?_push_size _ rfl, rfl, rfl, rfl⟩
end

/-- a frame and a ledger for a generator's body: all that stands, but the frame -/
theorem gen_frame {s₀ : Heap} {L' : Addr} {m : Str → Option Value} (hid : List Addr) {h₁ : Heap} (hL : L' = s₀.objs.size) (hns : h₁.Ns L' m) (hk : ∀ b o, s₀.get? b = some o → h₁.get? b = some o) :
    ∃ R, Fr (hideAll s₀ hid) L' h₁ m ∧ News (hideAll s₀ hid) L' h₁ R ∧ (∀ b o, b ≠ L' → (hideAll s₀ hid).get? b = none → h₁.get? b = some o → (b, o) ∈ R) := by
  refine ⟨PyProof.Rows.ownOf (hideAll s₀ hid) ((List.range h₁.objs.size).filter (· ≠ L')) h₁, ⟨hns, fun b o e => hk b o (of_hideAll _ e), by rw [hideAll_size, hL]; exact Nat.le_refl _⟩, news_ownOf (by simp), fun b o hb hn e => mem_ownOf (by simp [hb]; exact Heap.lt_size e) hn e⟩
end Mine
end

section
open PySem PySem.W PySem.Calls PyProof.Rows
namespace Mine

section
variable {prog : Program} {w : World} {Γ : Ctx} {A : Around} {s : Shared} {env : Env} {R : Result → Shared → Prop}

theorem at_runOwn {M : Model} {c : Code} {Q : Flow → Shared → Prop}
    (hc : ∀ p, codeAt M (Γ.enter c none p) (fun r s' => match r with | .ok f => Q f s' | .error _ => False) s) :
    wpAt M Γ (runOwn c env none) Q s := by
  unfold runOwn
  exact at_onRaise (at_run fun p => codeAt_mono (hc p) fun r s' h => by cases r <;> exact h)

theorem codeAt_loopG {M : Model} (hq : Γ.code.quiet = true) (I : Nat → Shared → Prop)
    (turn : ∀ n s, I n s → wpAt M Γ (M.den Γ.code)
      (fun fin s' => match fin with | .done f => R (.ok f) s' | .again c' => (c' = Γ.code ∧ ∃ m, m < n ∧ I m s') ∨ (c'.quiet = true ∧ codeAt M (Γ.goto c') R s')) s)
    (n : Nat) (h : I n s) : codeAt M Γ R s := by
  induction n using Nat.strongRecOn generalizing s with
  | ind n ih =>
    refine codeAt_tree (at_mono (turn n s h) fun fin s' hf => ?_)
    cases fin with
    | done f => exact hf
    | again c' =>
      rcases hf with ⟨rfl, m, hm, hI⟩ | h2
      · exact ⟨hq, ih m hm hI⟩
      · exact h2

theorem codeAt_block {stmts : List Stmt} (hc : Γ.code = .block stmts env)
    (h : wpAt (model prog w) Γ (execs stmts env) (fun f s' => R (.ok f) s') s) : codeAt (model prog w) Γ R s := by
  refine codeAt_tree ?_
  rw [hc]
  show wpAt _ _ (do return Fin.done (← (execs stmts env).onRaise (fun x => do noteFrame x env; theTreesLotGoes x))) _ s
  exact at_bind (at_onRaise (at_mono h fun f s' h' => at_pure h'))

theorem at_execs_nil {Q : Flow → Shared → Prop} (h : Q .next s) : wpAt (model prog w) Γ (execs [] env) Q s := by
  have : execs [] env = pure .next := rfl
  rw [this]; exact at_pure h

/-- a for-loop behind its iterable -/
def AtLoop (M : Model) (Γ : Ctx) (env : Env) (target : Expr) (body : List Stmt) (ip : Pos) (x : Value) (Q : Flow → Shared → Prop) (s : Shared) : Prop :=
  wpAt M Γ (do standAt ip; runOwn (.forLoop target (← holding [x] (pyIter x)) body [] env) env) Q s

theorem at_For {target iter body pos} {Q : Flow → Shared → Prop} (hΓ : InOK Γ A)
    (h : wpAny (model prog w) A (eval iter env) (fun x s₁ => AtLoop (model prog w) Γ env target body iter.pos x Q s₁) (fun _ _ => False) s)
    (hs : ∀ x, foldedSetIterable iter env x = pure x := by intro _; rfl) :
    wpAt (model prog w) Γ (exec (.For target iter body [] pos) env) Q s := by
  rw [exec_For]
  refine at_bind (at_standAt (at_bindA hΓ (wpAny_mono h (fun x s₁ h₁ => ?_) fun _ _ x => x)))
  rw [hs x]
  exact at_bind (at_pure h₁)

theorem codeAt_forLoop {x : Str} {px : Pos} {it : Value} {body : List Stmt} (hc : Γ.code = .forLoop (.Name x px) it body [] env) (hΓ : BelowOK Γ A) (I : Nat → Shared → Prop)
    (turn : ∀ n s, I n s → InOK Γ A → wpAny (model prog w) A (pyNext it) (fun r s₁ => match r with
      | none => R (.ok .next) s₁
      | some v => wpAny (model prog w) A (storeName env x v) (fun _ s₂ => wpAt (model prog w) Γ (execs body env) (fun f s₃ => match f with
          | .next | .cont => ∃ m, m < n ∧ I m s₃
          | .brk => R (.ok .next) s₃
          | .ret v => R (.ok (.ret v)) s₃) s₂) (fun _ _ => False) s₁) (fun _ _ => False) s)
    (n : Nat) (h : I n s) : codeAt (model prog w) Γ R s := by
  have hin : InOK Γ A := by
    have := hΓ.in (by rw [hc]; rfl)
    rw [hc] at this
    exact this
  refine codeAt_loopG (by rw [hc]; rfl) I (fun n s hI => ?_) n h
  rw [hc]
  show wpAt _ _ ((forTurn (.Name x px) it body [] env).onRaise (fun x => do noteFrame x env; theTreesLotGoes x)) _ s
  refine at_onRaise ?_
  simp only [forTurn]
  refine at_bind (at_standAt (at_bind (at_onRaise (at_any hin (wpAny_mono (turn n s hI hin) (fun r s₁ h₁ => ?_) fun _ _ h' => h')))))
  cases r with
  | none => exact at_pure (.inr ⟨rfl, codeAt_block rfl (at_execs_nil h₁)⟩)
  | some v =>
    refine at_bind (at_pure (at_bindA hin (wpAny_assign_Name (wpAny_mono h₁ (fun _ s₂ h₂ => at_bind (at_mono h₂ fun f s₃ h₃ => ?_)) fun _ _ h' => h'))))
    cases f with
    | next => exact at_pure (.inl ⟨rfl, h₃⟩)
    | cont => exact at_pure (.inl ⟨rfl, h₃⟩)
    | brk => exact at_pure h₃
    | ret v => exact at_pure h₃

def AtEnd {σ : Type} (h₀ : Heap) (L : Addr) (s : Shared) (Led : σ → List (Addr × Obj)) (ps : σ → List (Str × Value)) (x : Str) (stored : List Str) (m₀ : Str → Option Value) (P : σ → Prop) (own : Addr × Obj) (s₂ : Shared) : Prop :=
  ∃ (c' : σ) (h' : Heap) (g' : Array GenState) (tk : Nat) (m' : Str → Option Value) (news' : List (Addr × Obj)), s₂ = { s with heap := h', gens := g', toks := tk } ∧ (AllBare s.gens → AllBare g') ∧ Fr h₀ L h' m' ∧ News h₀ L h' news' ∧ own ∈ news' ∧ (∀ p ∈ Led c', p ∈ news') ∧
    (∀ p ∈ ps c', m' p.1 = some p.2) ∧ (∀ z, z ≠ x → (∀ p ∈ ps c', z ≠ p.1) → stored.contains z = false → m' z = m₀ z) ∧ P c'
def AtPost {σ : Type} (h₀ : Heap) (L : Addr) (s : Shared) (Led : σ → List (Addr × Obj)) (ps : σ → List (Str × Value)) (x : Str) (stored : List Str) (m₀ : Str → Option Value) (P : σ → Prop) (own : Addr × Obj) (Q : Flow → Shared → Prop) (f : Flow) (s₂ : Shared) : Prop :=
  match f with
  | .ret v => Q (.ret v) s₂
  | .brk => Q .next s₂
  | _ => AtEnd h₀ L s Led ps x stored m₀ P own s₂
theorem at_end {σ : Type} {h₀ : Heap} {L : Addr} {s : Shared} {Led : σ → List (Addr × Obj)} {ps : σ → List (Str × Value)} {x : Str} {stored : List Str} {m₀ m' : Str → Option Value} {P : σ → Prop} {own : Addr × Obj} {h' : Heap} {g' : Array GenState} {tk : Nat} {news' : List (Addr × Obj)} (c' : σ)
    (hg : AllBare s.gens → AllBare g') (F : Fr h₀ L h' m') (N : News h₀ L h' news') (ho : own ∈ news') (hn : ∀ p ∈ Led c', p ∈ news') (hk : ∀ p ∈ ps c', m' p.1 = some p.2) (hr : ∀ z, z ≠ x → (∀ p ∈ ps c', z ≠ p.1) → stored.contains z = false → m' z = m₀ z) (hp : P c') :
    AtEnd h₀ L s Led ps x stored m₀ P own { s with heap := h', gens := g', toks := tk } := ⟨c', h', g', tk, m', news', rfl, hg, F, N, ho, hn, hk, hr, hp⟩

theorem atLoop_list {σ : Type} {h₀ : Heap} {x : Str} {px ip : Pos} {body : List Stmt} {Q : Flow → Shared → Prop} {m₀ : Str → Option Value} {l : Addr} {items : Array Value} {ep : Nat}
    (Led : σ → List (Addr × Obj)) (ps : σ → List (Str × Value)) (stored : List Str) (P : Nat → σ → Prop) (c₀ : σ) (hΓ : InOK Γ A) (hh : A.handled = none) (hx : env.kindOf x = some .local)
    (hpk : (env.scope.kind == .class || (env.scope.kind == .module && env.locals != env.globals)) = false)
    (F : Fr h₀ env.locals s.heap m₀) (N : News h₀ env.locals s.heap (Led c₀)) (hl : ∀ c, (l, listOf items ep) ∈ Led c) (hk : ∀ p ∈ ps c₀, m₀ p.1 = some p.2) (hp : P 0 c₀)
    (step : ∀ i (c : σ) (u : Str → Option Value) h g tk I o v Γ', InOK Γ' A → items[i]? = some v → P i c → (AllBare s.gens → AllBare g) →
      (∀ p ∈ Led c, p.1 ≠ I) → o.cls = .type "list_iterator" → Fr h₀ env.locals h (fun y => if y = x then some v else kstB (fun z => if stored.contains z then u z else m₀ z) (ps c) y) → News h₀ env.locals h (Led c ++ [(I, o)]) →
      wpAt (model prog w) Γ' (execs body env) (AtPost h₀ env.locals { s with gens := g } Led ps x stored m₀ (P (i + 1)) (I, o) Q) { s with heap := h, gens := g, toks := tk })
    (done : ∀ (c : σ) (u : Str → Option Value) h g tk, P items.size c → (AllBare s.gens → AllBare g) → Fr h₀ env.locals h (fun y => if y = x then u y else kstB (fun z => if stored.contains z then u z else m₀ z) (ps c) y) → News h₀ env.locals h (Led c) → Q .next { s with heap := h, gens := g, toks := tk })
    (hcls : ∀ (c : σ), ∀ p ∈ Led c, p.2.cls ≠ .type "list_iterator") :
    AtLoop (model prog w) Γ env (.Name x px) body ip (.ref l) Q s := by
  unfold AtLoop
  have isl : ∀ {h : Heap} {c : σ} {nx : List (Addr × Obj)}, News h₀ env.locals h nx → (∀ p ∈ Led c, p ∈ nx) → h.IsList l items := fun {h c nx} N hs => ⟨_, (N _ (hs _ (hl c))).1, rfl, ep, rfl⟩
  refine at_bind (at_standAt (at_bind (at_holding (at_any hΓ (wpAny_pyIter_list (isl N fun _ h => h) ?_)))))
  refine at_runOwn fun p => ?_
  have hIL : s.heap.objs.size ≠ env.locals := fun e => by
    have := F.ns.lt
    rw [← e] at this; exact absurd this (Nat.lt_irrefl _)
  have hI0 : h₀.get? s.heap.objs.size = none := by
    cases e : h₀.get? s.heap.objs.size with
    | none => rfl
    | some o => exact absurd (Heap.lt_size (F.keep _ _ e)) (Nat.lt_irrefl _)
  refine codeAt_forLoop rfl (hΓ.enter _ p)
    (fun k s' => ∃ i c h' g' tk m' o, s' = { s with heap := h', gens := g', toks := tk } ∧ (AllBare s.gens → AllBare g') ∧ h'.IsListIter s.heap.objs.size l i ∧ h'.get? s.heap.objs.size = some o ∧ Fr h₀ env.locals h' m' ∧ News h₀ env.locals h' (Led c) ∧
      (∀ p ∈ ps c, m' p.1 = some p.2) ∧ (∀ z, z ≠ x → (∀ p ∈ ps c, z ≠ p.1) → stored.contains z = false → m' z = m₀ z) ∧ P i c ∧ i ≤ items.size ∧ k = items.size + 1 - i) ?_ (items.size + 1) ?_
  · rintro k s' ⟨i, c, h', g', tk, m', o, rfl, hg, hit, ho, F', N', hk', hr', hP, hi, rfl⟩ hΓ'
    have hocls : o.cls = .type "list_iterator" := by
      obtain ⟨o', e1, e2, _⟩ := hit
      rw [ho] at e1; cases e1; exact e2
    have hne : ∀ p ∈ Led c, p.1 ≠ s.heap.objs.size := fun p hp e => by
      have h1 := (N' _ hp).1
      rw [e, ho] at h1
      cases h1
      exact hcls c p hp hocls
    have hli : l ≠ s.heap.objs.size := hne _ (hl c)
    by_cases hlt : i < items.size
    · refine wpAny_pyNext_list_item hit (isl N' fun _ h => h) (x := items[i]) (by simp [hlt]) fun h₁ hit₁ hs₁ => ?_
      have keep₁ : ∀ b o, b ≠ s.heap.objs.size → h'.get? b = some o → h₁.get? b = some o := fun b o hb e => hs₁.extBut b o hb e
      have F₁ : Fr h₀ env.locals h₁ m' := ⟨F'.ns.at' fun o e => keep₁ _ o (Ne.symm hIL) e, fun b o e => keep₁ b o (fun q => by rw [q, hI0] at e; cases e) (F'.keep b o e), F'.above⟩
      have N₁ : News h₀ env.locals h₁ (Led c) := fun p hp => ⟨keep₁ _ _ (hne p hp) (N' p hp).1, (N' p hp).2⟩
      refine wpAny_storeName_local hx F₁.ns (fun h₂ hn₂ hs₂ => ?_) hpk
      have F₂ := F₁.set hn₂ hs₂
      have N₂ := N₁.set hs₂
      have hi₂ : h₂.IsListIter s.heap.objs.size l (i + 1) := hit₁.at fun o e => (hs₂.2 _ hIL).trans e
      obtain ⟨o₂, ho₂, hc₂, hd₂⟩ := id hi₂
      have F₃ : Fr h₀ env.locals h₂ (fun y => if y = x then some items[i] else kstB (fun z => if stored.contains z then m' z else m₀ z) (ps c) y) := by
        have em : (fun y => if y = x then some items[i] else kstB (fun z => if stored.contains z then m' z else m₀ z) (ps c) y) = fun y => if y = x then some items[i] else m' y := by
          funext y
          by_cases hy : y = x
          · simp [hy]
          · rw [if_neg hy, if_neg hy]
            refine kstB_eq hk' fun hn => ?_
            show (if stored.contains y = true then m' y else m₀ y) = m' y
            cases h3 : stored.contains y with
            | true => simp
            | false => simp only [Bool.false_eq_true, if_false]; exact (hr' y hy hn h3).symm
        rw [em]; exact F₂
      refine at_mono (step i c m' h₂ g' _ s.heap.objs.size o₂ items[i] _ hΓ' (by simp [hlt]) hP hg hne hc₂ F₃ (fun p hp => by
        rcases List.mem_append.mp hp with h1 | h1
        · exact N₂ p h1
        · rw [List.mem_singleton.mp h1]; exact ⟨ho₂, hIL, hI0⟩)) fun f s₃ h₃ => ?_
      have nx : AtEnd h₀ env.locals { s with gens := g' } Led ps x stored m₀ (P (i + 1)) (s.heap.objs.size, o₂) s₃ → ∃ m, m < items.size + 1 - i ∧ ∃ i c h' g' tk m' o, s₃ = { s with heap := h', gens := g', toks := tk } ∧ (AllBare s.gens → AllBare g') ∧ h'.IsListIter s.heap.objs.size l i ∧ h'.get? s.heap.objs.size = some o ∧ Fr h₀ env.locals h' m' ∧ News h₀ env.locals h' (Led c) ∧
          (∀ p ∈ ps c, m' p.1 = some p.2) ∧ (∀ z, z ≠ x → (∀ p ∈ ps c, z ≠ p.1) → stored.contains z = false → m' z = m₀ z) ∧ P i c ∧ i ≤ items.size ∧ m = items.size + 1 - i := by
        rintro ⟨c', h₄, g₄, tk₄, m₄, n₄, rfl, hg₄, F₄, N₄, ho₄, hn₄, hk₄, hr₄, hp₄⟩
        have e4 := (N₄ _ ho₄).1
        exact ⟨items.size + 1 - (i + 1), by omega, i + 1, c', h₄, g₄, tk₄, m₄, o₂, rfl, fun h => hg₄ (hg h), ⟨o₂, e4, hc₂, hd₂⟩, e4, F₄, fun p hp => N₄ p (hn₄ p hp), hk₄, hr₄, hp₄, hlt, rfl⟩
      cases f with
      | next => exact nx h₃
      | cont => exact nx h₃
      | brk => exact h₃
      | ret v => exact h₃
    · have hin : i = items.size := by omega
      subst hin
      refine wpAny_pyNext_list_end (by exact hh) hit (isl N' fun _ h => h) (by simp) fun h₁ hs₁ => ?_
      have keep₁ : ∀ b o, b ≠ s.heap.objs.size → h'.get? b = some o → h₁.get? b = some o := fun b o hb e => hs₁ b o hb e
      have F₁ : Fr h₀ env.locals h₁ m' := ⟨F'.ns.at' fun o e => keep₁ _ o (Ne.symm hIL) e, fun b o e => keep₁ b o (fun q => by rw [q, hI0] at e; cases e) (F'.keep b o e), F'.above⟩
      have N₁ : News h₀ env.locals h₁ (Led c) := fun p hp => ⟨keep₁ _ _ (hne p hp) (N' p hp).1, (N' p hp).2⟩
      refine done c m' h₁ g' tk hP hg ?_ N₁
      have em : (fun y => if y = x then m' y else kstB (fun z => if stored.contains z then m' z else m₀ z) (ps c) y) = m' := by
        funext y
        by_cases hy : y = x
        · simp [hy]
        · rw [if_neg hy]
          refine kstB_eq hk' fun hn => ?_
          show (if stored.contains y = true then m' y else m₀ y) = m' y
          cases h3 : stored.contains y with
          | true => simp
          | false => simp only [Bool.false_eq_true, if_false]; exact (hr' y hy hn h3).symm
      rw [em]; exact F₁
  · refine ⟨0, c₀, _, s.gens, s.toks, m₀, _, rfl, fun h => h, ⟨_, Heap.get?_push_size _ rfl, rfl, rfl⟩, Heap.get?_push_size _ rfl, F.keeps fun b o e => Heap.get?_push_of_some _ e, fun p hp => ⟨Heap.get?_push_of_some _ (N p hp).1, (N p hp).2⟩, hk, fun _ _ _ _ => rfl, hp, Nat.zero_le _, rfl⟩

theorem at_isTrue_Or {x y : Expr} {pos : Pos} {whole : Sem Value} {Q : Bool → Shared → Prop} (hΓ : InOK Γ A)
    (h : wpAt (model prog w) Γ (isTrue x env (eval x env)) (fun b s₁ => if b then Q true s₁ else wpAny (model prog w) A (isTrue y env (eval y env)) Q (fun _ _ => False) s₁) s) :
    wpAt (model prog w) Γ (isTrue (.BoolOp .Or [x, y] pos) env whole) Q s := by
  rw [arm_isTrue_BoolOp]
  show wpAt (model prog w) Γ (do match BoolOp.Or, ← isTrue x env (eval x env) with | .And, false => pure false | .Or, true => pure true | _, _ => allTrue .Or [y] env) Q s
  refine at_bind (at_mono h fun b s₁ h₁ => ?_)
  cases b with
  | true => exact at_pure h₁
  | false =>
    refine at_any hΓ (wpAny_allTrue_Or_cons (wpAny_mono h₁ (fun b s₂ h₂ => ?_) fun _ _ x => x))
    cases b with
    | true => exact h₂
    | false => exact wpAny_allTrue_Or_nil h₂

theorem at_isTrue_Compare1 {l r op pos whole} {Q : Bool → Shared → Prop} (hΓ : InOK Γ A)
    (h : wpAt (model prog w) Γ (eval l env) (fun a s₁ => wpAny (model prog w) A (eval r env) (fun b s₂ => wpAny (model prog w) A (compareOp op a b)
      (fun c s₃ => wpAny (model prog w) A (truthy c) Q (fun _ _ => False) s₃) (fun _ _ => False) s₂) (fun _ _ => False) s₁) s)
    (hm : behindInMarks op r = false := by with_unfolding_all rfl) : wpAt (model prog w) Γ (isTrue (.Compare l [op] [r] pos) env whole) Q s := by
  simp only [isTrue_Compare1, markedBehindIn_of_false hm]
  refine at_bind (at_mono h fun a s₁ h₁ => at_bindA hΓ (wpAny_holding (wpAny_mono h₁ (fun b s₂ h₂ => at_bind (at_standAt (at_bind ?_))) fun _ _ x => x)))
  exact fun p => by
    rw [Sem.wp_operate]
    exact Sem.wp_mono _ Γ _ (fun c p₃ s₃ h₃ => at_holding (at_any hΓ h₃)) (fun _ _ _ x => x) _ _ (h₂ Γ p hΓ.i)
end
end Mine
end

section
open PySem PySem.W PySem.Calls PyProof.Rows
namespace Mine
/-- the one context at which a claim's call is made -/
abbrev Γ0 : Ctx := ⟨.builtin "claim.caller" {}, none, none, [], none⟩
theorem Γ0_in : InOK Γ0 callerA := ⟨caller_in, by intro c hc; simp at hc; subst hc; rfl⟩
theorem ends_at {prog : Program} {w : World} {t : Sem Fin} {s : Shared} {R : Result → Shared → Prop} (hreg : s.asleep)
    (h : wpAt (model prog w) Γ0 t (fun fin s' => ∃ f, fin = .done f ∧ (R (.ok f) s' ∧ leftWithCleanup s'.gens = false)) s) :
    ∃ n r s' s'', runN (denote table) prog w n s ⟨t, .builtin "claim.caller" {}, default, []⟩ = .halted (outcomeOf r) s' ∧
      schedN (denote table) prog w n (.single s ⟨t, .builtin "claim.caller" {}, default, []⟩) = .halted (outcomeOf r) s' ∧ s'.forget = s''.forget ∧ R r s'' := by
  obtain ⟨n, r, s₁, s₂, hs, hn, hfo, hR⟩ := wp_halts_full (M := model prog w) (R := R) hreg
    (Sem.wp_mono _ _ _ (fun fin p s' x => by obtain ⟨f, rfl, y⟩ := x; exact y) (fun _ _ _ x => x.elim) _ _ (h default))
  exact ⟨n, r, s₂, s₁, hn, hs, hfo, hR⟩

theorem callFrom_at {c : ClaimW} {tree : List Value → Sem Fin} {w : World} {s : Shared} {free : Addr → Prop} {gens : Prop} {kept : Heap → Prop} (hz : s.asleep) (hgens : s.gens = #[])
    (hspec : ∀ args, c.pre args = true → WData.layableAll args = true →
      ∀ ord : List DictEntry → List DictEntry, (∀ l, (ord l).Perm l) →
      ∃ vs s₁, layAllW c.records (classAt s.heap) w.params ord args s = some (vs, s₁) ∧
        wpAt (model c.prog w) Γ0 (tree vs) (fun fin s' => ∃ f, fin = .done f ∧ (c.Ends s args vs s₁ (.ok f) s' ∧ s'.os = s.os ∧ AllBare s'.gens ∧ kept s'.heap)) s₁) :
    c.CallFrom (fun vs => ⟨tree vs, .builtin "claim.caller" {}, default, []⟩) w free gens kept s := by
  intro args hpre hlay ord hord
  obtain ⟨vs, s₁, hlaid, hcode⟩ := hspec args hpre hlay ord hord
  have hal := layAllW_rest _ _ _ hlaid
  obtain ⟨k, r, s', s'', hrun, hsched, hfo, hcase, hos, hkp⟩ := ends_at (prog := c.prog) (w := w) (t := tree vs) (s := s₁)
    (R := fun r s' => c.Ends s args vs s₁ r s' ∧ s'.os = s.os ∧ kept s'.heap)
    (Shared.asleep_of_life hal.2.2.2 hz)
    (at_mono hcode (by
      rintro fin s' ⟨f, e, h1, h2, h3, h4⟩
      exact ⟨f, e, ⟨h1, h2, h4⟩, leftWithCleanup_false_of_bare h3⟩))
  obtain ⟨eh, _, _, eo, _⟩ := Shared.forget_eq hfo
  have hcase := hcase.congr eh
  have hkp : kept s'.heap := by first | exact eh ▸ hkp | (rw [eh] at hkp; exact hkp) | (rw [← eh] at hkp; exact hkp)
  rw [← eo] at hos
  have hlife : s'.heap.life = s.heap.life := (runN_life _ _ _ hrun).trans hal.2.2.2
  refine ⟨vs, s₁, hlaid, k, _, s', hsched, ?_, (fun _ i x hx => by rw [hgens] at hx; simp at hx), hkp, by rw [hlife], Shared.rest_eq hos⟩
  rcases hcase with ⟨v, rfl, d1, d2, d3, d4, d5⟩ | ⟨e, ob, cls, rfl, d1, d2, d3, d4, d5⟩
  · exact .inl ⟨v, rfl, d1, d2, d3, fun b o y _ => d4 b o y, d5⟩
  · exact .inr ⟨e, ob, cls, rfl, d1, d2, d3, d4, fun b o y _ => d5 b o y⟩

theorem open_at {r : RowW} {run : Value → List Value → Sem Value} {tree : List Value → Sem Fin} {q : Program} {loose defs kps : List Str} {writes : Bool} {Xt : Shared → Bool} {XP : (Str → Option Value) → Heap → Prop} {α : Type} {Yf : Shared → α} {Ya : World → α} {YP : World → Heap → Prop} {N : Nat}
    (left : LeftO r.prog q loose Xt Yf Ya N) (hY : ∀ w s, Yf s = Ya w → YP w s.heap) (hYk : ∀ w h h', YP w h → (∀ b o, h.get? b = some o → h'.get? b = some o) → YP w h') (hX : ∀ s, Xt s = true → XP (s.heap.nsMap mainGlobals) s.heap) (hXk : ∀ mg h h', XP mg h → (∀ b o, h.get? b = some o → h'.get? b = some o) → XP mg h')
    (hRf : ∀ s, Xt s = true → RecFacts r.records s.heap) (hwr : (!writes || r.records.isEmpty) = true) (ok : (chainsOk q && opensWell r.prog && (frees r && r.within.isEmpty)) = true) (hb : r.prog.bare) (hw : r.promised)
    (ht : ∀ vs (w : World) (s : Shared) mg f (Q : Fin → Shared → Prop), s.heap.Ns mainGlobals mg → mg r.name = some f → wpAt (model r.prog w) Γ0 (run f vs) (fun v s' => Q (.done (.ret v)) s') s → wpAt (model r.prog w) Γ0 (tree vs) Q s)
    (pin : ∀ w s, s.heap.isNs mainGlobals = true → Ground q loose [] XP w s (s.heap.nsMap mainGlobals) (s.heap.nsMap builtinsNs) s.heap → ∀ n ∈ defs, isTheDefsW r.prog s.heap n)
    (call : ∀ (w : World) (s₀ s₁ : Shared) (mg mb : Str → Option Value), Ground q loose r.records XP w s₀ mg mb s₁.heap → YP w s₁.heap → ∀ (args : List WData) (vs : List Value) (as : List Addr),
      r.claim.pre args = true → WData.layableAll args = true → Laid r.records w s₀ s₁ args vs as → sysModules < s₀.heap.objs.size → ∃ f, mg r.name = some f ∧
        wpAt (model r.prog w) Γ0 (run f vs) (fun v s' => GoodWG r.claim (classAt s₀.heap) (ExcName.means s₀.heap) args s₁ (.ok (.ret v)) s') s₁) : r.claim.HoldsOpenBy (fun vs => ⟨tree vs, .builtin "claim.caller" {}, default, []⟩) defs kps writes := by
  obtain ⟨ok, k5⟩ := Bool.and_eq_true_iff.mp ok
  obtain ⟨hch, o1⟩ := Bool.and_eq_true_iff.mp ok
  obtain ⟨k5, k6⟩ := Bool.and_eq_true_iff.mp k5
  obtain ⟨hsame, hu, ha, hap, hm⟩ := frees_parts k5
  refine ⟨⟨hb, o1, by show r.makers.map _ = []; rw [hm]; rfl⟩, hw.witness, fun w => ⟨(left.behind hX hch w).1, fun s' hs' => ?_⟩⟩
  obtain ⟨s₀, hf, hg0, s, hT, hz, hgens, hg, G00, y⟩ := (left.behind (XP := fun mg h => XP mg h ∧ RecFacts r.records h) (fun s hs => ⟨hX s hs, hRf s hs⟩) hch w).2 s' hs'
  have G0 : Ground q loose [] XP w s (s.heap.nsMap mainGlobals) (s.heap.nsMap builtinsNs) s.heap := ⟨G00.T, G00.B, G00.D, G00.TE, G00.TD, G00.W, G00.X.1, G00.cls, G00.has, G00.apart, G00.once, G00.K⟩
  have RF := G00.X.2
  have hT' := hT
  refine ⟨s₀, hf, hg0, s, hT, pin w s hg G0, RF.1, RF.2.1, ?_⟩
  have hgens : s.gens = #[] := Array.eq_empty_of_size_eq_zero (beq_iff_eq.mp hgens)
  have G : Ground q loose r.records XP w s _ _ s.heap := RF.ground G0
  refine callFrom_at (c := r.claim) hz hgens fun args hpre hlay ord hord => ?_
  obtain ⟨⟨vs, s₁⟩, hlaid⟩ := Option.isSome_iff_exists.mp (layAllW_isSome (P := w.params) (ord := ord) G.has args r.args s (pre_splitW hpre).1)
  have keeps := layAllW_keeps _ _ _ hlaid
  have hal := layAllW_rest _ _ _ hlaid
  obtain ⟨as, hrd, hin, hold⟩ := reads_layAllW hord _ _ _ hlaid hlay s₁.heap (fun _ _ e => e)
  have L : Laid r.records w s s₁ args vs as := ⟨⟨ord, hord, hlaid⟩, hrd, hin, hold, keeps, hal.1.trans hgens, hal.2.2.1⟩
  have G₁ := G.keeps hXk keeps
  obtain ⟨f, hf, h⟩ := call w s s₁ _ _ G₁ (hYk _ _ _ (hY w s y) keeps) args vs as hpre hlay L G.low
  have hi := ident_freeW hu ha hap
  have hwi : r.claim.within = [] := List.isEmpty_iff.mp k6
  exact ⟨vs, s₁, hlaid, ht vs w s₁ _ f _ G₁.T.g hf (at_mono h (fun v s' g => ⟨_, rfl, have z := g.laid (c := r.claim) hsame hwi hi L; ⟨z.1, z.2.1, z.2.2, fun q => ⟨namesKept_of hT' hg kps keeps g.2.1.old, noTable hwr q⟩⟩⟩))⟩

abbrev WalkA (q : Program) (loose : List Str) (XP : (Str → Option Value) → Heap → Prop) (YP : World → Heap → Prop) (r : RowW) (d : DefRec) (kwd : List (Str × Expr)) (run : Value → List Value → Sem Value) : Prop :=
  ∀ (w : World) (s₀ s₁ : Shared) (mg mb : Str → Option Value), Ground q loose r.records XP w s₀ mg mb s₁.heap → YP w s₁.heap → ∀ (a : Addr) (o : Obj) (pm cd doc dV kV : Value), s₁.heap.get? a = some o →
    o.data = .func { docDef d.name d.params d.body d.scope pm cd doc with defaults := dV, kwdefaults := kV } → s₁.heap.CodeRec cd d.name → Dflts mg s₁.heap d.params kwd dV kV → mg d.name = some (.ref a) → s₁.gens = #[] →
    ∀ (args : List WData) (vals : List Value) (as : List Addr), r.claim.pre args = true → WData.layableAll args = true → ReadsAllW r.records (classAt s₀.heap) s₁.heap vals args as → WellAll w.params s₁.heap vals args → (∀ a ∈ as, (a == sysModules) = false) →
      wpAt (model r.prog w) Γ0 (run (.ref a) vals) (fun v s' => GoodWG r.claim (classAt s₀.heap) (ExcName.means s₀.heap) args s₁ (.ok (.ret v)) s') s₁

theorem PySem.W.holds_open {r : OpenRow} {q : Program} {loose : List Str} {Xt : Shared → Bool} {XP : (Str → Option Value) → Heap → Prop} {α : Type} {Yf : Shared → α} {Ya : World → α} {YP : World → Heap → Prop} {d : DefRec} {kwd : List (Str × Expr)} {N : Nat}
    (left : LeftO r.prog q loose Xt Yf Ya N) (hY : ∀ w s, Yf s = Ya w → YP w s.heap) (hYk : ∀ w h h', YP w h → (∀ b o, h.get? b = some o → h'.get? b = some o) → YP w h')
    (hX : ∀ s, Xt s = true → XP (s.heap.nsMap mainGlobals) s.heap) (hXk : ∀ mg h h', XP mg h → (∀ b o, h.get? b = some o → h'.get? b = some o) → XP mg h')
    (hdef : defOf q r.name = some (d, kwd)) (hp : r.prog.theDef r.name = some (d.params, d.body, d.scope)) (hk : kwWritten? d.params.kwonlyargs d.params.kw_defaults = some kwd) (hRf : ∀ s, Xt s = true → RecFacts r.records s.heap) (hwr : (!r.writes || r.records.isEmpty) = true)
    (k1 : r.wellSaid = true) (ok : (chainsOk q && opensWell r.prog && (frees r.toRowW && r.within.isEmpty)) = true) (hb : r.prog.bare) (hw : r.toRowW.promised)
    (call : WalkA q loose XP YP r.toRowW d kwd fun f vs => PySem.call f vs) : r.Holds := by
  refine ⟨k1, hw, open_at (r := r.toRowW) (run := fun f vs => PySem.call f vs) (tree := fun vs => do match ← nsGet mainNs r.name with
      | some f => do ret (← PySem.call f vs)
      | none => unsupported "claim.caller:no-such-global") left hY hYk hX hXk hRf hwr ok hb hw
    (fun vs w s mg f Q hg hf h => at_bindA Γ0_in (wpAny_nsGet hg (by rw [hf]; exact at_bind (at_mono h (fun _ _ x => at_pure x)))))
    (fun w s hg G n hn => ?_) fun w s₀ s₁ mg mb G Y args vs as hpre hlay L low => ?_⟩
  · obtain rfl : n = r.name := by split at hn <;> simp_all
    exact pinned_of_view hg G hdef hp hk
  · obtain ⟨a, o, pm, cd, doc, dV, kV, h1, h2, h3, h4, h5⟩ := G.fn hdef
    exact ⟨.ref a, h1, call w s₀ s₁ mg mb G Y a o pm cd doc dV kV h2 h3 h4 h5 (defOf_name hdef ▸ h1) L.gens args vs as hpre hlay L.reads L.well (L.low low)⟩

end Mine
end

section
open PySem PySem.W PyProof.Rows
namespace Mine
set_option maxRecDepth 100000 in
set_option maxHeartbeats 8000000 in
open_top hd for PySem.Challenge.rw_fc5025_04
end Mine
end

section
open PySem PySem.W PySem.Calls PyProof.Rows
namespace Mine
section
variable {prog : Program} {w : World} {Γ : Ctx} {A : Around} {R : Result → Shared → Prop} {s : Shared} {name : Str} {params : Arguments} {body : List Stmt} {scope : Scope} {dV kV pm cd doc : Value} {a : Addr} {o : Obj}

theorem at_law_cells {args : List Value} {binds : List (Str × Value)} (hc : Γ.code = .call (.ref a) ⟨args, []⟩) (hΓ : BelowOK Γ A)
    (hroom : A.depth < recursionLimit) (ho : s.heap.get? a = some o) (hdata : o.data = .func (Calls.docDef name params body scope pm cd doc)) (hlim : s.heap.NoLimit) (hcd : s.heap.CodeRec cd name)
    (hbind : bindArgs (Calls.docDef name params body scope pm cd doc) ⟨args, []⟩ = pure binds)
    (hkind : ∀ x ∈ binds, scope.names.lookup x.1 = some .local ∨ (scope.names.lookup x.1 = some .cell ∧ ((cellsFrom (s.heap.objs.size + 1) scope.names []).lookup x.1).isSome = true))
    (hnd : ((cellsFrom 0 scope.names []).map (·.1)).Nodup)
    (h : ∀ h₁ tk cells Γ', InOK Γ' (A.deeper (envOfC name scope s.heap.objs.size a cd)) → Fr s.heap s.heap.objs.size h₁ (bindL (envOfC name scope s.heap.objs.size a cd).kindOf binds fun _ => none) → News s.heap s.heap.objs.size h₁ cells →
      CellsAre (bindC (envOfC name scope s.heap.objs.size a cd).kindOf binds fun _ => none) (cellsFrom (s.heap.objs.size + 1) scope.names []) cells →
      wpAt (model prog w) Γ' (execs body (envOfC name scope s.heap.objs.size a cd))
        (fun f s' => R (.ok (.ret (match f with | .ret v => v | _ => .none))) s') { s with heap := h₁, toks := tk })
    (hco : scope.isCoroutine = false := by rfl) (hgen : scope.isGenerator = false := by rfl) (hk : scope.kind = .function := by rfl) :
    codeAt (model prog w) Γ R s := by
  refine codeAt_call_function (fd := Calls.docDef name params body scope pm cd doc) (body := body) hc hΓ hroom ho hdata hco hgen rfl hcd ?_
  rw [hbind]
  refine wpAny_pure (wpAny_newFunctionEnv_cells hk hkind fun env he s' x => ?_)
  subst he
  refine ⟨hlim.keeps x.toInCall.keep, codeAt_func rfl ?_⟩
  obtain ⟨h₁, tk, rfl, _⟩ := x.done
  obtain ⟨cells, N, Y⟩ := Cl.news (h₀ := s.heap) (Nat.le_refl _) fun n c hm => ⟨x.cell n c (lookup_of_mem_nodup (cellsFrom_names scope.names 0 (s.heap.objs.size + 1) [] [] rfl ▸ hnd) hm), x.above n c hm⟩
  exact at_mono (h h₁ tk cells _ ((hΓ.goto _).in rfl) ⟨x.toInCall.ns, x.toInCall.keep, x.toInCall.fresh⟩ N Y) fun f s' h' => h'

theorem at_law {args : Args} {binds : List (Str × Value)} (hc : Γ.code = .call (.ref a) args) (hΓ : BelowOK Γ A)
    (hroom : A.depth < recursionLimit) (ho : s.heap.get? a = some o) (hdata : o.data = .func (Calls.docDef name params body scope pm cd doc)) (hlim : s.heap.NoLimit) (hcd : s.heap.CodeRec cd name)
    (hbind : BindsTo s (Calls.docDef name params body scope pm cd doc) args binds) (hloc : ∀ x ∈ binds, scope.names.lookup x.1 = some .local)
    (h : ∀ h₁ Γ', InOK Γ' (A.deeper (envOf name scope s.heap.objs.size a cd)) → Fr s.heap s.heap.objs.size h₁ (fun x => binds.reverse.lookup x) →
      wpAt (model prog w) Γ' (execs body (envOf name scope s.heap.objs.size a cd))
        (fun f s' => R (.ok (.ret (match f with | .ret v => v | _ => .none))) s') { s with heap := h₁, toks := s.toks + binds.length })
    (hco : scope.isCoroutine = false := by rfl) (hgen : scope.isGenerator = false := by rfl) (hk : scope.kind = .function := by rfl)
    (hcell : ∀ x ∈ scope.names, x.2 ≠ .cell := by decide) :
    codeAt (model prog w) Γ R s := by
  refine codeAt_call_function (fd := Calls.docDef name params body scope pm cd doc) (body := body) hc hΓ hroom ho hdata hco hgen rfl hcd (hbind _ _ _ _ ?_)
  refine wpAny_newFunctionEnv hcell hloc (fun h₁ hns₁ hsb₁ => ⟨hlim.fresh _ hsb₁, codeAt_func rfl ?_⟩) hk
  have hk₁ : ∀ b o, s.heap.get? b = some o → h₁.get? b = some o := fun b o e => hsb₁.extBut b o (Nat.ne_of_lt (Heap.lt_size e)) (Heap.get?_push_of_some _ e)
  exact at_mono (h h₁ _ ((hΓ.goto _).in rfl) ⟨hns₁, hk₁, Nat.le_refl _⟩) fun f s' h' => h'
end
end Mine
end

section
open PySem PySem.W PySem.Calls PyProof.Rows
namespace Mine
section
variable {prog : Program} {w : World} {A : Around} {E : Value → Shared → Prop} {s : Shared} {K : Frag} {h₀ : Heap} {L : Addr} {m : Str → Option Value} {news : List (Addr × Obj)} {Q : Value → Shared → Prop}
theorem list_ofK {l : Addr} {items : Array Value} {n : Nat} {od : Option Addr} {sl : Array (Option Value)} (F : Fr h₀ L s.heap m) (N : News h₀ L s.heap news) (X₀ : K.In h₀) (ho : K.lookup l = some ⟨.type "tuple", od, .seq items n, sl⟩) (hsz : items.size ≤ sizeLine)
    (h : ∀ D c h', Fr h₀ L h' m → News h₀ L h' ((D, listOf items c) :: news) → (∀ q ∈ news, q.1 < D) → Q (.ref D) { s with heap := h' }) :
    wpAny (model prog w) A (call (.type "list") [.ref l]) Q E s :=
  call_list_seq (hsz := hsz) l (.inr rfl) ((X₀.keeps F.keep) _ _ ho) rfl rfl fun h' c' hk hD => h _ c' h' (F.keeps hk) (news_pushed F N hk hD rfl) fun q hq => Heap.lt_size (N q hq).1
theorem ints_ofK {l : Addr} {vs : List Value} (ns : List Int) {n : Nat} {od : Option Addr} {sl : Array (Option Value)} (F : Fr h₀ L s.heap m) (N : News h₀ L s.heap news) (X₀ : K.In h₀) (ho : K.lookup l = some ⟨.type "tuple", od, .seq vs.toArray n, sl⟩) (hsz : vs.toArray.size ≤ sizeLine)
    (hm : intsMatch vs ns = true)
    (h : ∀ D c h' (vs : List Value), Fr h₀ L h' m → News h₀ L h' ((D, listOf vs.toArray c) :: news) → (∀ q ∈ news, q.1 < D) → IntsAre vs ns → Q (.ref D) { s with heap := h' }) :
    wpAny (model prog w) A (call (.type "list") [.ref l]) Q E s :=
  list_ofK F N X₀ ho hsz fun D c h' F' N' l1 => h D c h' vs F' N' l1 (intsMatch_spec hm)
theorem pow_two {t u : Tok} {k : Nat} (hk : k ≤ 1000) (h : Q (.int (2 ^ k) s.toks) { s with toks := s.toks + 1 }) : wpAny (model prog w) A (binaryOp .Pow (.int 2 t) (.int (k : Int) u)) Q E s :=
  pow_int_small (by omega) (by omega) (by decide) (by rw [Int.toNat_natCast]; exact h)
end
theorem fr_know {h₀ h : Heap} {L : Addr} {m m' : Str → Option Value} {n : Str} {v : Value} (F : Fr h₀ L h m') (hm : m' = m) (e : m n = some v) : Fr h₀ L h (fun y => if y = n then some v else m' y) ∧ (fun y => if y = n then some v else m' y) = m := by
  have : (fun y => if y = n then some v else m' y) = m := by
    subst hm
    funext y; by_cases hy : y = n
    · subst hy; simp [e]
    · simp [hy]
  exact ⟨by rw [this, ← hm]; exact F, this⟩
theorem toNat_lt_pow {x : Int} {n : Nat} (h0 : 0 ≤ x) (h1 : x < 2 ^ n) : x.toNat < 2 ^ n := by
  have h2 : ((2 ^ n : Nat) : Int) = 2 ^ n := by rw [Int.natCast_pow]; rfl
  omega
theorem ne_of_cls {h₀ h : Heap} {L a b : Addr} {led : List (Addr × Obj)} {o o' : Obj} (N : News h₀ L h led) (h1 : (a, o) ∈ led) (h2 : (b, o') ∈ led) (hc : o.cls ≠ o'.cls) : a ≠ b := fun e => by
  have e1 := (N _ h1).1
  have e2 := (N _ h2).1
  dsimp only at e1 e2
  rw [e] at e1
  rw [e1] at e2
  cases e2
  exact hc rfl
theorem news_pick {h₀ h : Heap} {L : Addr} {led : List (Addr × Obj)} (N : News h₀ L h led) (js : List Nat) : News h₀ L h (js.filterMap (led[·]?)) := fun p hp => by
  obtain ⟨j, _, e⟩ := List.mem_filterMap.mp hp
  exact N p (List.mem_of_getElem? e)
theorem flat_one {α : Type} (a : α) : ∀ n, (List.replicate n [a]).flatten = List.replicate n a
  | 0 => rfl
  | n + 1 => by simp [List.replicate_succ, flat_one a n]
theorem good_true {c : ClaimW} {cl : Str → Option Addr} {mean : ExcName → Option Value} {args : List WData} {s₁ s' : Shared} {L : Addr} {m : Str → Option Value} (F : Fr s₁.heap L s'.heap m) (hg : AllBare s'.gens)
    (hn : ∀ cls, c.raises args cls = false) (hp : c.post args (.bool true) args = true) (hos : s'.os = s₁.os) : GoodWG c cl mean args s₁ (.ok (.ret (.bool true))) s' :=
  ⟨.inl ⟨.bool true, .bool true, [], rfl, hn, readsW_of_reads (d := .bool true) (.bool true), hp, fun _ => ⟨List.nodup_nil, fun a h => by simp at h⟩⟩, .of_keep F.keep, hos, hg⟩
/-- the counter of tokens does not matter -/
theorem at_toks {P : Shared → Prop} {h : Heap} {g : Array GenState} {d : Drawn} {tk : Nat} {os} (k : ∀ tk, P ⟨h, g, d, tk, os⟩) : P ⟨h, g, d, tk, os⟩ := k tk
theorem to_nat {x : Int} (h : 0 ≤ x) : ∃ n : Nat, x = (n : Int) := ⟨x.toNat, (Int.toNat_of_nonneg h).symm⟩
end Mine
end

section
open PySem PySem.W PySem.Calls PyProof.Rows
namespace Mine
local macro_rules | `(tactic| walk_at "getAttr ref") => `(tactic| (k_here; k_dflt (refine' get_lateS ?k1 ?k2 ?k3 ?k4 ?k5 ?k6 ?k7 ?k8 ?k9 ?k10 ?_; (case k1 => k_asm); (case k2 => k_asm); (case k3 => k_inst); (case k4 => k_is); (case k5 => k_is); (case k6 => k_is); (case k7 => k_is); (case k8 => k_is); (case k9 => decide +kernel); (case k10 => k_get))))
local macro_rules | `(tactic| walk_at "getAttr ref") => `(tactic| (k_here; k_dflt (first
  | refine' get_shadowS ?k1 ?k2 ?k3 ?k4 ?k5 ?k6 ?k7 ?k8 ?k9 ?k10 ?_; (case k1 => k_asm); (case k2 => k_asm); (case k3 => k_inst); (case k4 => k_is); (case k5 => k_is); (case k6 => k_is); (case k7 => k_is); (case k8 => k_is); (case k9 => k_get); (case k10 => k_handed); k_whole
  | refine' get_ownS ?k1 ?k2 ?k3 ?k4 ?k5 ?k6 ?k7 ?k8 ?k9 ?_; (case k1 => k_asm); (case k2 => k_asm); (case k3 => k_inst); (case k4 => k_is); (case k5 => k_is); (case k6 => k_is); (case k7 => k_is); (case k8 => k_get); (case k9 => k_handed); k_whole)))
local macro_rules | `(tactic| walk_at "getAttr ref") => `(tactic| (k_here; (with_reducible show wpAny _ _ (getAttr (Value.ref _) (PySem.Str.ofString "__dict__") _) _ _ _); k_dflt (refine' get_dictS ?k1 ?k2 ?k3 ?k4 ?k5 ?k6 ?k7 ?k8 ?k9 ?k10 ?k11 ?k12 ?k13 ?k14 ?_; (case k1 => k_asm); (case k2 => k_asm); (case k3 => k_asm); (case k4 => k_inst); (case k5 => k_is); (case k6 => k_is); (case k7 => k_is); (case k8 => k_is); (case k9 => k_is); (case k10 => k_is); (case k11 => k_is); (case k12 => k_is); (case k13 => k_is); (case k14 => k_upd); k_whole; intro h' F' N'; (try k_sweep))))
local macro_rules | `(tactic| walk_at "getMethod ref") => `(tactic| (k_here; k_dflt (first
  | refine' method_instS ?k1 ?k2 ?k3 ?k4 ?k5 ?k6 ?k7 ?_; (case k1 => k_asm); (case k2 => k_asm); (case k3 => k_inst); (case k4 => k_is); (case k5 => k_is); (case k6 => k_is); (case k7 => k_get); k_whole
  | refine' method_getS ?k1 ?k2 ?_; (case k1 => k_asm); (case k2 => k_mem); k_whole)))
local macro_rules | `(tactic| walk_at "setAttr ref") => `(tactic| (k_here; k_dflt (refine' set_dictS ?k1 ?k2 ?k3 ?k4 ?k5 ?k6 ?k7 ?k8 ?k9 ?k10 ?k11 ?k12 ?k13 ?_; (case k1 => k_asm); (case k2 => k_asm); (case k3 => k_asm); (case k4 => k_inst); (case k5 => exact rfl); (case k6 => k_is); (case k7 => k_is); (case k8 => k_is); (case k9 => k_is); (case k10 => k_get); (case k11 => k_put); (case k12 => k_upd); (case k13 => exact Nat.le_of_ble_eq_true rfl); k_whole; intro h' F' N'; (try k_sweep))))
local macro_rules | `(tactic| walk_at "call builtin:dict.get") => `(tactic| (k_here; k_dflt (refine' call_get_missS ?k1 ?k2 ?k3 ?k4 ?k5 ?_; (case k1 => k_asm); (case k2 => k_mem); (case k3 => assumption); (case k4 => k_keys); (case k5 => k_get); k_whole)))
local macro_rules | `(tactic| walk_at "setItem ref str") => `(tactic| (k_here; k_dflt (refine' setItem_newS ?k1 ?k2 ?k3 ?k4 ?k5 ?k6 ?_; (case k1 => k_asm); (case k2 => k_asm); (case k3 => k_upd); (case k4 => k_keys); (case k5 => k_get); (case k6 => exact Nat.le_of_ble_eq_true rfl); k_whole; intro h' F' N'; (try dsimp only [List.cons_append, List.nil_append] at N'); (try k_sweep))))
local macro_rules | `(tactic| walk_at "exec While") => `(tactic| (k_here; refine Hold.out ?_))
local macro_rules | `(tactic| walk_at "KswEnd") => `(tactic| (refine Hold.out ?_))
local macro_rules | `(tactic| walk_at "binaryOp BitAnd int int") => `(tactic| first | with_reducible refine and_mask ?_ | with_reducible refine and_mask' ?_)
local macro_rules | `(tactic| walk_at "call ref") => `(tactic| (k_here; k_dflt (refine wpAny_call ?_; refine' code_def ?k1 ?k2 ?k3 ?k4 ?k5 ?kA ?kF ?kK ?k6 ?k7 ?k8 ?k9 ?kB ?_ ?c2 ?c3 ?c4 ?c5; (case kA => exact rfl); (case kF => exact rfl); (case kK => first | exact rfl | assumption); (case k1 => k_asm); (case k2 => k_asm); (case k3 => k_asm); (case k4 => k_asm); (case k5 => k_asm); (case k6 => k_is); (case k7 => k_is); (case k8 => ktr_room); (case k9 => first | exact BindsTo.of_eq rfl | exact binds_K (by k_in) rfl (by k_is) rfl rfl rfl); (case c5 => decide); (case kB => exact locs rfl); (case c2 => exact rfl); (case c3 => exact rfl); (case c4 => exact rfl); k_whole; intro g' L' h' FG' F' N' B' X' T'; (try dsimp only); (try k_lift B'); (try k_fold))))
local macro_rules | `(tactic| walk_at "inplaceOp RShift int int") => `(tactic| with_reducible refine shr5 ?_)
local macro_rules | `(tactic| walk_at "binaryOp LShift int int") => `(tactic| (with_reducible refine shl_one ?a ?_; (case a => omega)))
local macro_rules | `(tactic| k_all) => `(tactic| assumption)
set_option maxRecDepth 100000 in
set_option maxHeartbeats 8000000 in
theorem nslots_cold {w : World} {mean : ExcName → Option Value} {mg mb : Str → Option Value}
   {dp un : Nat} {gd : Option (List Code)} {cn : Str} {cs : Scope} {a : Addr} {ccd : Value} {cl : List (Str × Addr)} {outer : List Env} {A₀ : Around} {base h₀ : Heap} {L : Addr} {m : Str → Option Value} {s : Shared} {Q : Value → Shared → Prop}
   {Γ : Ctx} (hΓ : InOK Γ (ktrTop dp un gd cn cs L a ccd cl outer)) {x dx : Addr} {k1 k2 k3 k4 k5 k6 t1 : Tok} {v2 v3 v4 v5 v6 : Value} {lg : Nat} {rest : Led} (hlg : lg ≤ 1000) (hlo : (dx == sysModules) = false) (hsep : ∀ p ∈ rest, p.1 ≠ dx) (hxd : @LT.lt Nat _ dx x)
   (B : Below A₀ base outer h₀) (F : Fr h₀ L s.heap m) (X : (Mine.hd.heap_39 w.params).In h₀)
   (N : News h₀ L s.heap ((x, instObj 227 dx) :: (dx, dictOf (coldEs w.params k1 k2 k3 k4 k5 k6 (.int lg t1) v2 v3 v4 v5 v6) 6) :: rest))
   (T : Top Mine.hd.view_39 (looseW Mine.hd.view_39 [Str.ofString "_NOT_FOUND", Str.ofString "cached_property", Str.ofString "_HtKeys"]) mean mg mb h₀) (hk : cs.kind = .function) (hd : dp + 3 < recursionLimit) (hu : un + 40 < cLine)
   (hret : ∀ k7 t7, ∀ h' tk', Fr h₀ L h' m → News h₀ L h' ((x, instObj 227 dx) :: (dx, dictS (coldEs w.params k1 k2 k3 k4 k5 k6 (.int lg t1) v2 v3 v4 v5 v6 ++ [ent w.params (Str.ofString "nslots") k7 (.int (2^lg) t7)]) 7 #[none]) :: rest) → Q (.int (2^lg) t7) { s with heap := h', toks := tk' }) :
   wpAt (model PySem.Challenge.rw_fc5025_04.row.prog w) Γ (getAttr (.ref x) (Str.ofString "nslots") true) Q s := by
  w_top off; revert B F X N T; k_fill; intro B F X N T
  (k_dflt (refine' at_get_late hΓ ?k1 ?k2 ?k3 ?k4 ?k5 ?k6 ?k7 ?k8 ?k9 ?k10 ?_; (case k1 => k_asm); (case k2 => k_asm); (case k3 => k_inst); (case k4 => k_is); (case k5 => k_is); (case k6 => k_is); (case k7 => k_is); (case k8 => k_is); (case k9 => decide +kernel); (case k10 => k_get)))
  intro Γ1 h1
  refine at_call fun p1 => ?_
  (k_dflt (refine' codeAt_defX rfl ?kG ?k1 ?k2 ?k3 ?k4 ?k5 ?kA ?kF ?kK ?k6 ?k7 ?k8 ?k9 ?kB ?_ ?c2 ?c3 ?c4 ?c5; (case kG => exact h1.enter _ p1); (case kA => exact rfl); (case kF => exact rfl); (case kK => first | exact rfl | assumption); (case k1 => k_asm); (case k2 => k_asm); (case k3 => k_asm); (case k4 => k_asm); (case k5 => k_asm); (case k6 => k_is); (case k7 => k_is); (case k8 => ktr_room); (case k9 => first | exact BindsTo.of_eq rfl | exact binds_K (by k_in) rfl (by k_is) rfl rfl rfl); (case c5 => decide); (case kB => exact locs rfl); (case c2 => exact rfl); (case c3 => exact rfl); (case c4 => exact rfl)))
  intro g' L' h' Γ2 FG' F' N' B' X' T' h2
  refine at_execs_consA h2 ?_
  (try k_fold)
  k_steps
  refine at_execs_consA h2 ?_
  (try k_fold)
  k_steps
  refine at_execs_cons (at_Try (at_execs_cons (at_Assign_Name h2 (at_Attribute_name h2 ?_))))
  (try k_fold)
  k_steps
  (k_dflt (refine' at_dict h2 ?k1 ?k2 ?k3 ?k4 ?k5 ?k6 ?k7 ?k8 ?k9 ?k10 ?k11 ?k12 ?k13 ?k14 ?k15 ?_; (case k1 => k_asm); (case k2 => k_asm); (case k3 => k_asm); (case k4 => k_inst); (case k5 => k_is); (case k6 => k_is); (case k7 => k_is); (case k8 => k_is); (case k9 => k_is); (case k10 => k_is); (case k11 => k_is); (case k12 => k_is); (case k13 => k_is); (case k14 => k_is); (case k15 => k_upd)))
  intro h9 F9 N9
  (try k_fold)
  k_steps
  refine at_any h2 ?_
  (try k_fold)
  k_steps
  refine at_any h2 ?_
  (try k_fold)
  k_steps
  refine at_any h2 ?_
  (try k_fold)
  k_steps
  exact hret _ _ _ _ (by assumption) (by assumption)
set_option maxRecDepth 100000 in
set_option maxHeartbeats 8000000 in
theorem mask_cold {w : World} {mean : ExcName → Option Value} {mg mb : Str → Option Value}
   {dp un : Nat} {gd : Option (List Code)} {cn : Str} {cs : Scope} {a : Addr} {ccd : Value} {cl : List (Str × Addr)} {outer : List Env} {A₀ : Around} {base h₀ : Heap} {L : Addr} {m : Str → Option Value} {s : Shared} {Q : Value → Shared → Prop}
   {Γ : Ctx} (hΓ : InOK Γ (ktrTop dp un gd cn cs L a ccd cl outer)) {x dx : Addr} {k1 k2 k3 k4 k5 k6 t1 : Tok} {v2 v3 v4 v5 v6 : Value} {lg : Nat} {rest : Led} (hlg : lg ≤ 1000) (hlo : (dx == sysModules) = false) (hsep : ∀ p ∈ rest, p.1 ≠ dx) (hxd : @LT.lt Nat _ dx x)
   (B : Below A₀ base outer h₀) (F : Fr h₀ L s.heap m) (X : (Mine.hd.heap_39 w.params).In h₀)
   (N : News h₀ L s.heap ((x, instObj 227 dx) :: (dx, dictOf (coldEs w.params k1 k2 k3 k4 k5 k6 (.int lg t1) v2 v3 v4 v5 v6) 6) :: rest))
   (T : Top Mine.hd.view_39 (looseW Mine.hd.view_39 [Str.ofString "_NOT_FOUND", Str.ofString "cached_property", Str.ofString "_HtKeys"]) mean mg mb h₀) (hk : cs.kind = .function) (hd : dp + 6 < recursionLimit) (hu : un + 80 < cLine)
   (hret : ∀ k7 k8 t7 t8, ∀ h' tk', Fr h₀ L h' m → News h₀ L h' ((x, instObj 227 dx) :: (dx, dictS (tabEs w.params k1 k2 k3 k4 k5 k6 k7 k8 (.int lg t1) v2 v3 v4 v5 v6 (.int (2^lg) t7) (.int (2^lg-1) t8)) 8 #[none]) :: rest) → Q (.int (2^lg-1) t8) { s with heap := h', toks := tk' }) :
   wpAt (model PySem.Challenge.rw_fc5025_04.row.prog w) Γ (getAttr (.ref x) (Str.ofString "mask") true) Q s := by
  w_top off; revert B F X N T; k_fill; intro B F X N T
  (k_dflt (refine' at_get_late hΓ ?k1 ?k2 ?k3 ?k4 ?k5 ?k6 ?k7 ?k8 ?k9 ?k10 ?_; (case k1 => k_asm); (case k2 => k_asm); (case k3 => k_inst); (case k4 => k_is); (case k5 => k_is); (case k6 => k_is); (case k7 => k_is); (case k8 => k_is); (case k9 => decide +kernel); (case k10 => k_get)))
  intro Γ1 h1
  refine at_call fun p1 => ?_
  (k_dflt (refine' codeAt_defX rfl ?kG ?k1 ?k2 ?k3 ?k4 ?k5 ?kA ?kF ?kK ?k6 ?k7 ?k8 ?k9 ?kB ?_ ?c2 ?c3 ?c4 ?c5; (case kG => exact h1.enter _ p1); (case kA => exact rfl); (case kF => exact rfl); (case kK => first | exact rfl | assumption); (case k1 => k_asm); (case k2 => k_asm); (case k3 => k_asm); (case k4 => k_asm); (case k5 => k_asm); (case k6 => k_is); (case k7 => k_is); (case k8 => ktr_room); (case k9 => first | exact BindsTo.of_eq rfl | exact binds_K (by k_in) rfl (by k_is) rfl rfl rfl); (case c5 => decide); (case kB => exact locs rfl); (case c2 => exact rfl); (case c3 => exact rfl); (case c4 => exact rfl)))
  intro g' L' h' Γ2 FG' F' N' B' X' T' h2
  refine at_execs_consA h2 ?_
  (try k_fold)
  k_steps
  refine at_execs_consA h2 ?_
  (try k_fold)
  k_steps
  refine at_execs_cons (at_Try (at_execs_cons (at_Assign_Name h2 (at_Attribute_name h2 ?_))))
  (try k_fold)
  k_steps
  (k_dflt (refine' at_dict h2 ?k1 ?k2 ?k3 ?k4 ?k5 ?k6 ?k7 ?k8 ?k9 ?k10 ?k11 ?k12 ?k13 ?k14 ?k15 ?_; (case k1 => k_asm); (case k2 => k_asm); (case k3 => k_asm); (case k4 => k_inst); (case k5 => k_is); (case k6 => k_is); (case k7 => k_is); (case k8 => k_is); (case k9 => k_is); (case k10 => k_is); (case k11 => k_is); (case k12 => k_is); (case k13 => k_is); (case k14 => k_is); (case k15 => k_upd)))
  intro h9 F9 N9
  (try k_fold)
  k_steps
  refine at_any h2 ?_
  (try k_fold)
  k_steps
  refine at_any h2 ?_
  (try k_fold)
  k_steps
  refine at_any h2 ?_
  (try k_fold)
  k_steps
  exact hret _ _ _ _ _ _ (by assumption) (by assumption)
end Mine
end

section
open PySem PySem.W PySem.Calls PyProof.Rows
namespace Mine
local macro_rules | `(tactic| walk_at "MinePad") => `(tactic| skip)
local macro_rules | `(tactic| walk_at "getAttr ref") => `(tactic| (k_here; k_dflt (refine' get_lateS ?k1 ?k2 ?k3 ?k4 ?k5 ?k6 ?k7 ?k8 ?k9 ?k10 ?_; (case k1 => k_asm); (case k2 => k_asm); (case k3 => k_inst); (case k4 => k_is); (case k5 => k_is); (case k6 => k_is); (case k7 => k_is); (case k8 => k_is); (case k9 => decide +kernel); (case k10 => k_get))))
local macro_rules | `(tactic| walk_at "getAttr ref") => `(tactic| (k_here; k_dflt (first
  | refine' get_shadowS ?k1 ?k2 ?k3 ?k4 ?k5 ?k6 ?k7 ?k8 ?k9 ?k10 ?_; (case k1 => k_asm); (case k2 => k_asm); (case k3 => k_inst); (case k4 => k_is); (case k5 => k_is); (case k6 => k_is); (case k7 => k_is); (case k8 => k_is); (case k9 => k_get); (case k10 => k_handed); k_whole
  | refine' get_ownS ?k1 ?k2 ?k3 ?k4 ?k5 ?k6 ?k7 ?k8 ?k9 ?_; (case k1 => k_asm); (case k2 => k_asm); (case k3 => k_inst); (case k4 => k_is); (case k5 => k_is); (case k6 => k_is); (case k7 => k_is); (case k8 => k_get); (case k9 => k_handed); k_whole)))
local macro_rules | `(tactic| walk_at "getAttr ref") => `(tactic| (k_here; (with_reducible show wpAny _ _ (getAttr (Value.ref _) (PySem.Str.ofString "__dict__") _) _ _ _); k_dflt (refine' get_dictS ?k1 ?k2 ?k3 ?k4 ?k5 ?k6 ?k7 ?k8 ?k9 ?k10 ?k11 ?k12 ?k13 ?k14 ?_; (case k1 => k_asm); (case k2 => k_asm); (case k3 => k_asm); (case k4 => k_inst); (case k5 => k_is); (case k6 => k_is); (case k7 => k_is); (case k8 => k_is); (case k9 => k_is); (case k10 => k_is); (case k11 => k_is); (case k12 => k_is); (case k13 => k_is); (case k14 => k_upd); k_whole; intro h' F' N'; (try k_sweep))))
local macro_rules | `(tactic| walk_at "getMethod ref") => `(tactic| (k_here; k_dflt (first
  | refine' method_instS ?k1 ?k2 ?k3 ?k4 ?k5 ?k6 ?k7 ?_; (case k1 => k_asm); (case k2 => k_asm); (case k3 => k_inst); (case k4 => k_is); (case k5 => k_is); (case k6 => k_is); (case k7 => k_get); k_whole
  | refine' method_getS ?k1 ?k2 ?_; (case k1 => k_asm); (case k2 => k_mem); k_whole)))
local macro_rules | `(tactic| walk_at "setAttr ref") => `(tactic| (k_here; k_dflt (refine' set_dictS ?k1 ?k2 ?k3 ?k4 ?k5 ?k6 ?k7 ?k8 ?k9 ?k10 ?k11 ?k12 ?k13 ?_; (case k1 => k_asm); (case k2 => k_asm); (case k3 => k_asm); (case k4 => k_inst); (case k5 => exact rfl); (case k6 => k_is); (case k7 => k_is); (case k8 => k_is); (case k9 => k_is); (case k10 => k_get); (case k11 => k_put); (case k12 => k_upd); (case k13 => exact Nat.le_of_ble_eq_true rfl); k_whole; intro h' F' N'; (try k_sweep))))
local macro_rules | `(tactic| walk_at "call builtin:dict.get") => `(tactic| (k_here; k_dflt (refine' call_get_missS ?k1 ?k2 ?k3 ?k4 ?k5 ?_; (case k1 => k_asm); (case k2 => k_mem); (case k3 => assumption); (case k4 => k_keys); (case k5 => k_get); k_whole)))
local macro_rules | `(tactic| walk_at "setItem ref str") => `(tactic| (k_here; k_dflt (refine' setItem_newS ?k1 ?k2 ?k3 ?k4 ?k5 ?k6 ?_; (case k1 => k_asm); (case k2 => k_asm); (case k3 => k_upd); (case k4 => k_keys); (case k5 => k_get); (case k6 => exact Nat.le_of_ble_eq_true rfl); k_whole; intro h' F' N'; (try dsimp only [List.cons_append, List.nil_append] at N'); (try k_sweep))))
local macro_rules | `(tactic| walk_at "exec While") => `(tactic| (k_here; refine Hold.out ?_))
local macro_rules | `(tactic| walk_at "KswEnd") => `(tactic| (refine Hold.out ?_))
local macro_rules | `(tactic| walk_at "binaryOp BitAnd int int") => `(tactic| first | with_reducible refine and_mask ?_ | with_reducible refine and_mask' ?_)
local macro_rules | `(tactic| walk_at "call ref") => `(tactic| (k_here; k_dflt (refine wpAny_call ?_; refine' code_def ?k1 ?k2 ?k3 ?k4 ?k5 ?kA ?kF ?kK ?k6 ?k7 ?k8 ?k9 ?kB ?_ ?c2 ?c3 ?c4 ?c5; (case kA => exact rfl); (case kF => exact rfl); (case kK => first | exact rfl | assumption); (case k1 => k_asm); (case k2 => k_asm); (case k3 => k_asm); (case k4 => k_asm); (case k5 => k_asm); (case k6 => k_is); (case k7 => k_is); (case k8 => ktr_room); (case k9 => first | exact BindsTo.of_eq rfl | exact binds_K (by k_in) rfl (by k_is) rfl rfl rfl); (case c5 => decide); (case kB => exact locs rfl); (case c2 => exact rfl); (case c3 => exact rfl); (case c4 => exact rfl); k_whole; intro g' L' h' FG' F' N' B' X' T'; (try dsimp only); (try k_lift B'); (try k_fold))))
local macro_rules | `(tactic| walk_at "inplaceOp RShift int int") => `(tactic| with_reducible refine shr5 ?_)
local macro_rules | `(tactic| walk_at "binaryOp LShift int int") => `(tactic| (with_reducible refine shl_one ?a ?_; (case a => omega)))
local macro_rules | `(tactic| k_all) => `(tactic| assumption)
set_option maxRecDepth 100000 in
set_option maxHeartbeats 8000000 in
theorem resume_none {w : World} {mean : ExcName → Option Value} {mg mb : Str → Option Value}
   {dp un : Nat} {gd : Option (List Code)} {cn : Str} {cs : Scope} {a : Addr} {ccd : Value} {cl : List (Str × Addr)} {outer : List Env} {A₀ : Around} {base h₀ : Heap} {L : Addr} {m : Str → Option Value} {s : Shared} {Q : Value → Shared → Prop}
   {E : Value → Shared → Prop} {x dx : Addr} {k1 k2 k3 k4 k5 k6 t1 : Tok} {v2 v4 v6 : Value} {lg : Nat} {rest : Led} {k7 k8 t7 t8 : Tok} {il : Addr} {vs : List Value} {ns : List Int} {ep : Nat} {i0 : Int} {ti : Tok} {K : Nat}
   (hlg : lg < 10) (hi : IntsAre vs ns) (hlen : ns.length = 2 ^ lg) (h0 : 0 ≤ i0) (h1 : i0 < 2 ^ lg)
   (hK : ns.getD (tl lg i0 K).toNat 0 = -1) (hK' : ∀ j < K, ns.getD (tl lg i0 j).toNat 0 ≠ -1)
   (B : Below A₀ base outer h₀) (F : Fr h₀ L s.heap m) (X : (Mine.hd.heap_39 w.params).In h₀)
   (N : News h₀ L s.heap ((x, instObj 227 dx) :: (dx, dictS (tabEs w.params k1 k2 k3 k4 k5 k6 k7 k8 (.int lg t1) v2 (.ref il) v4 .none v6 (.int (2^lg) t7) (.int (2^lg-1) t8)) 8 #[none]) :: (il, listOf vs.toArray ep) :: rest))
   (T : Top Mine.hd.view_39 (looseW Mine.hd.view_39 [Str.ofString "_NOT_FOUND", Str.ofString "cached_property", Str.ofString "_HtKeys"]) mean mg mb h₀) (hk : cs.kind = .function) (hd : dp + 2 < recursionLimit) (hu : un + 20 < cLine)
   (hret : ∀ t, ∀ h' tk', Fr h₀ L h' m → News h₀ L h' ((x, instObj 227 dx) :: (dx, dictS (tabEs w.params k1 k2 k3 k4 k5 k6 k7 k8 (.int lg t1) v2 (.ref il) v4 .none v6 (.int (2^lg) t7) (.int (2^lg-1) t8)) 8 #[none]) :: (il, listOf vs.toArray ep) :: rest) → Q (.int (tl lg i0 K) t) { s with heap := h', toks := tk' }) :
   wpAny (model PySem.Challenge.rw_fc5025_04.row.prog w) (ktrTop dp un gd cn cs L a ccd cl outer) (call (.ref 140) [.ref x, .int i0 ti]) Q E s := by
  w_top off; revert B F X N T; k_fill; intro B F X N T
  refine wpAny_call ?_
  k_dflt (refine' code_def ?k1 ?k2 ?k3 ?k4 ?k5 ?kA ?kF ?kK ?k6 ?k7 ?k8 ?k9 ?kB ?_ ?c2 ?c3 ?c4 ?c5; (case kA => exact rfl); (case kF => exact rfl); (case kK => first | exact rfl | assumption); (case k1 => k_asm); (case k2 => k_asm); (case k3 => k_asm); (case k4 => k_asm); (case k5 => k_asm); (case k6 => k_is); (case k7 => k_is); (case k8 => ktr_room); (case k9 => first | exact BindsTo.of_eq rfl | exact binds_K (by k_in) rfl (by k_is) rfl rfl rfl); (case c5 => decide); (case kB => exact locs rfl); (case c2 => exact rfl); (case c3 => exact rfl); (case c4 => exact rfl); k_whole)
  intro g' L' h' FG' F' N' B' X' T'
  (try dsimp only)
  (try k_fold)
  k_steps
  refine Hold.mk ?_
  rename Fr _ _ _ _ => lF
  rename News _ _ _ _ => lN
  refine ksw_while (σ := Nat × Tok × Tok) (fun _ => (x, instObj 227 dx) :: (dx, dictS (tabEs w.params k1 k2 k3 k4 k5 k6 k7 k8 (.int lg t1) v2 (.ref il) v4 .none v6 (.int (2^lg) t7) (.int (2^lg-1) t8)) 8 #[none]) :: (il, listOf vs.toArray ep) :: rest)
    (fun c => [(Str.ofString "i", .int (tl lg i0 c.1) c.2.1), (Str.ofString "steps", .int c.1 c.2.2)]) (fun _ => True) [] (fun c => c.1 ≤ K) (fun c => K - c.1) (0, _, _) lF lN trivial (by kst_all) (Nat.zero_le _) ?_
  clear lF lN
  rintro ⟨k, tk1, tk2⟩ u hh tkk - hkK F N
  dsimp only at hkK N ⊢
  dsimp only [kstB] at F
  have r0 := (tl_range h0 h1 k).1
  have r1 := (tl_range h0 h1 k).2
  have r2 : tl lg i0 k < (ns.length : Int) := by rw [len_cast hlen]; exact r1
  have r3 : tl lg i0 k < 2 ^ 63 := by have := pow_le_1024 (n := lg) (by omega); omega
  (try k_fold)
  k_steps
  · have hne : k ≠ K := by rintro rfl; contradiction
    refine Hold.mk ?_
    rename Fr _ _ _ _ => eF
    rename News _ _ _ _ => eN
    exact ksw_end (k + 1, _, _) eF eN (fun _ h => h) trivial (List.forall_mem_cons.mpr ⟨rfl, List.forall_mem_cons.mpr ⟨rfl, List.forall_mem_nil _⟩⟩) (by ksw_same) (by show k + 1 ≤ K; omega) (by show K - (k + 1) < K - k; omega)
  all_goals (
    have he : k = K := by
      rcases Nat.lt_or_eq_of_le hkK with hlt | e
      · exact absurd (by assumption) (hK' k hlt)
      · exact e
    subst he
    exact hret _ _ _ (by assumption) (by assumption))
end Mine
end

section
open PySem PySem.W PySem.Calls PyProof.Rows
namespace Mine
local macro_rules | `(tactic| walk_at "getAttr ref") => `(tactic| (k_here; k_dflt (refine' get_lateS ?k1 ?k2 ?k3 ?k4 ?k5 ?k6 ?k7 ?k8 ?k9 ?k10 ?_; (case k1 => k_asm); (case k2 => k_asm); (case k3 => k_inst); (case k4 => k_is); (case k5 => k_is); (case k6 => k_is); (case k7 => k_is); (case k8 => k_is); (case k9 => decide +kernel); (case k10 => k_get))))
local macro_rules | `(tactic| walk_at "getAttr ref") => `(tactic| (k_here; k_dflt (first
  | refine' get_shadowS ?k1 ?k2 ?k3 ?k4 ?k5 ?k6 ?k7 ?k8 ?k9 ?k10 ?_; (case k1 => k_asm); (case k2 => k_asm); (case k3 => k_inst); (case k4 => k_is); (case k5 => k_is); (case k6 => k_is); (case k7 => k_is); (case k8 => k_is); (case k9 => k_get); (case k10 => k_handed); k_whole
  | refine' get_ownS ?k1 ?k2 ?k3 ?k4 ?k5 ?k6 ?k7 ?k8 ?k9 ?_; (case k1 => k_asm); (case k2 => k_asm); (case k3 => k_inst); (case k4 => k_is); (case k5 => k_is); (case k6 => k_is); (case k7 => k_is); (case k8 => k_get); (case k9 => k_handed); k_whole)))
local macro_rules | `(tactic| walk_at "getAttr ref") => `(tactic| (k_here; (with_reducible show wpAny _ _ (getAttr (Value.ref _) (PySem.Str.ofString "__dict__") _) _ _ _); k_dflt (refine' get_dictS ?k1 ?k2 ?k3 ?k4 ?k5 ?k6 ?k7 ?k8 ?k9 ?k10 ?k11 ?k12 ?k13 ?k14 ?_; (case k1 => k_asm); (case k2 => k_asm); (case k3 => k_asm); (case k4 => k_inst); (case k5 => k_is); (case k6 => k_is); (case k7 => k_is); (case k8 => k_is); (case k9 => k_is); (case k10 => k_is); (case k11 => k_is); (case k12 => k_is); (case k13 => k_is); (case k14 => k_upd); k_whole; intro h' F' N'; (try k_sweep))))
local macro_rules | `(tactic| walk_at "getMethod ref") => `(tactic| (k_here; k_dflt (first
  | refine' method_instS ?k1 ?k2 ?k3 ?k4 ?k5 ?k6 ?k7 ?_; (case k1 => k_asm); (case k2 => k_asm); (case k3 => k_inst); (case k4 => k_is); (case k5 => k_is); (case k6 => k_is); (case k7 => k_get); k_whole
  | refine' method_getS ?k1 ?k2 ?_; (case k1 => k_asm); (case k2 => k_mem); k_whole)))
local macro_rules | `(tactic| walk_at "setAttr ref") => `(tactic| (k_here; k_dflt (refine' set_dictS ?k1 ?k2 ?k3 ?k4 ?k5 ?k6 ?k7 ?k8 ?k9 ?k10 ?k11 ?k12 ?k13 ?_; (case k1 => k_asm); (case k2 => k_asm); (case k3 => k_asm); (case k4 => k_inst); (case k5 => exact rfl); (case k6 => k_is); (case k7 => k_is); (case k8 => k_is); (case k9 => k_is); (case k10 => k_get); (case k11 => k_put); (case k12 => k_upd); (case k13 => exact Nat.le_of_ble_eq_true rfl); k_whole; intro h' F' N'; (try k_sweep))))
local macro_rules | `(tactic| walk_at "call builtin:dict.get") => `(tactic| (k_here; k_dflt (refine' call_get_missS ?k1 ?k2 ?k3 ?k4 ?k5 ?_; (case k1 => k_asm); (case k2 => k_mem); (case k3 => assumption); (case k4 => k_keys); (case k5 => k_get); k_whole)))
local macro_rules | `(tactic| walk_at "setItem ref str") => `(tactic| (k_here; k_dflt (refine' setItem_newS ?k1 ?k2 ?k3 ?k4 ?k5 ?k6 ?_; (case k1 => k_asm); (case k2 => k_asm); (case k3 => k_upd); (case k4 => k_keys); (case k5 => k_get); (case k6 => exact Nat.le_of_ble_eq_true rfl); k_whole; intro h' F' N'; (try dsimp only [List.cons_append, List.nil_append] at N'); (try k_sweep))))
local macro_rules | `(tactic| walk_at "exec While") => `(tactic| (k_here; refine Hold.out ?_))
local macro_rules | `(tactic| walk_at "KswEnd") => `(tactic| (refine Hold.out ?_))
local macro_rules | `(tactic| walk_at "binaryOp BitAnd int int") => `(tactic| first | with_reducible refine and_mask ?_ | with_reducible refine and_mask' ?_)
local macro_rules | `(tactic| walk_at "call ref") => `(tactic| (k_here; k_dflt (refine wpAny_call ?_; refine' code_def ?k1 ?k2 ?k3 ?k4 ?k5 ?kA ?kF ?kK ?k6 ?k7 ?k8 ?k9 ?kB ?_ ?c2 ?c3 ?c4 ?c5; (case kA => exact rfl); (case kF => exact rfl); (case kK => first | exact rfl | assumption); (case k1 => k_asm); (case k2 => k_asm); (case k3 => k_asm); (case k4 => k_asm); (case k5 => k_asm); (case k6 => k_is); (case k7 => k_is); (case k8 => ktr_room); (case k9 => first | exact BindsTo.of_eq rfl | exact binds_K (by k_in) rfl (by k_is) rfl rfl rfl); (case c5 => decide); (case kB => exact locs rfl); (case c2 => exact rfl); (case c3 => exact rfl); (case c4 => exact rfl); k_whole; intro g' L' h' FG' F' N' B' X' T'; (try dsimp only); (try k_lift B'); (try k_fold))))
local macro_rules | `(tactic| walk_at "inplaceOp RShift int int") => `(tactic| with_reducible refine shr5 ?_)
local macro_rules | `(tactic| walk_at "binaryOp LShift int int") => `(tactic| (with_reducible refine shl_one ?a ?_; (case a => omega)))
local macro_rules | `(tactic| k_all) => `(tactic| assumption)
local macro_rules | `(tactic| walk_at "call ref") => `(tactic| (k_here; (with_reducible show wpAny _ _ (call (Value.ref 140) _) _ _ _); refine Hold.out ?_))
local macro_rules | `(tactic| walk_at "call ref") => `(tactic| (k_here; (with_reducible show wpAny _ _ (call (Value.ref 133) _) _ _ _); refine Hold.out ?_))
set_option maxRecDepth 100000 in
set_option maxHeartbeats 8000000 in
theorem fes_abs {w : World} {mean : ExcName → Option Value} {mg mb : Str → Option Value}
   {dp un : Nat} {gd : Option (List Code)} {cn : Str} {cs : Scope} {a : Addr} {ccd : Value} {cl : List (Str × Addr)} {outer : List Env} {A₀ : Around} {base h₀ : Heap} {L : Addr} {m : Str → Option Value} {s : Shared} {Q : Value → Shared → Prop}
   {E : Value → Shared → Prop} {x dx : Addr} {k1 k2 k3 k4 k5 k6 t1 : Tok} {v2 v4 v6 : Value} {lg : Nat} {rest : Led} {k7 k8 t7 t8 : Tok} {il : Addr} {vs : List Value} {ns : List Int} {ep : Nat} {h : Int} {th : Tok} {K : Nat}
   (hlg : lg < 10) (hi : IntsAre vs ns) (hlen : ns.length = 2 ^ lg) (hh0 : 0 ≤ h)
   (hK : ns.getD (wk lg h K).toNat 0 = -1) (hK' : ∀ j < K, ns.getD (wk lg h j).toNat 0 ≠ -1)
   (B : Below A₀ base outer h₀) (F : Fr h₀ L s.heap m) (X : (Mine.hd.heap_39 w.params).In h₀)
   (N : News h₀ L s.heap ((x, instObj 227 dx) :: (dx, dictS (tabEs w.params k1 k2 k3 k4 k5 k6 k7 k8 (.int lg t1) v2 (.ref il) v4 .none v6 (.int (2^lg) t7) (.int (2^lg-1) t8)) 8 #[none]) :: (il, listOf vs.toArray ep) :: rest))
   (T : Top Mine.hd.view_39 (looseW Mine.hd.view_39 [Str.ofString "_NOT_FOUND", Str.ofString "cached_property", Str.ofString "_HtKeys"]) mean mg mb h₀) (hk : cs.kind = .function) (hd : dp + 4 < recursionLimit) (hu : un + 40 < cLine)
   (hret : ∀ t, ∀ h' tk', Fr h₀ L h' m → News h₀ L h' ((x, instObj 227 dx) :: (dx, dictS (tabEs w.params k1 k2 k3 k4 k5 k6 k7 k8 (.int lg t1) v2 (.ref il) v4 .none v6 (.int (2^lg) t7) (.int (2^lg-1) t8)) 8 #[none]) :: (il, listOf vs.toArray ep) :: rest) → Q (.int (wk lg h K) t) { s with heap := h', toks := tk' }) :
   wpAny (model PySem.Challenge.rw_fc5025_04.row.prog w) (ktrTop dp un gd cn cs L a ccd cl outer) (call (.ref 126) [.ref x, .int h th, .bool true]) Q E s := by
  have w0 := (wk_range (n := lg) (h := h) 0).1
  have w1 := (wk_range (n := lg) (h := h) 0).2
  have w2 : wk lg h 0 < (ns.length : Int) := by rw [len_cast hlen]; exact w1
  have p0 := pow_le_1024 (n := lg) (by omega)
  dsimp only [wk] at w0 w1 w2
  w_top off; revert B F X N T; k_fill; intro B F X N T
  refine wpAny_call ?_
  k_dflt (refine' code_def ?k1 ?k2 ?k3 ?k4 ?k5 ?kA ?kF ?kK ?k6 ?k7 ?k8 ?k9 ?kB ?_ ?c2 ?c3 ?c4 ?c5; (case kA => exact rfl); (case kF => exact rfl); (case kK => first | exact rfl | assumption); (case k1 => k_asm); (case k2 => k_asm); (case k3 => k_asm); (case k4 => k_asm); (case k5 => k_asm); (case k6 => k_is); (case k7 => k_is); (case k8 => ktr_room); (case k9 => first | exact BindsTo.of_eq rfl | exact binds_K (by k_in) rfl (by k_is) rfl rfl rfl); (case c5 => decide); (case kB => exact locs rfl); (case c2 => exact rfl); (case c3 => exact rfl); (case c4 => exact rfl); k_whole)
  intro g' L' h' FG' F' N' B' X' T'
  (try dsimp only)
  (try k_fold)
  k_steps
  all_goals (
    refine Hold.mk ?_
    rename Fr _ _ _ _ => lF
    rename News _ _ _ _ => lN
    refine ksw_while (σ := Nat × Tok × Tok × Tok) (fun _ => (x, instObj 227 dx) :: (dx, dictS (tabEs w.params k1 k2 k3 k4 k5 k6 k7 k8 (.int lg t1) v2 (.ref il) v4 .none v6 (.int (2^lg) t7) (.int (2^lg-1) t8)) 8 #[none]) :: (il, listOf vs.toArray ep) :: rest)
      (fun c => [(Str.ofString "ix", .int (ns.getD (wk lg h c.1).toNat 0) c.2.1), (Str.ofString "i", .int (wk lg h c.1) c.2.2.1), (Str.ofString "perturb", .int (pt h c.1) c.2.2.2)]) (fun _ => True) [] (fun c => c.1 ≤ K) (fun c => K - c.1) (0, _, _, _) lF lN trivial
      (List.forall_mem_cons.mpr ⟨rfl, List.forall_mem_cons.mpr ⟨rfl, List.forall_mem_cons.mpr ⟨rfl, List.forall_mem_nil _⟩⟩⟩) (Nat.zero_le _) ?_
    clear lF lN
    rintro ⟨k, tk1, tk2, tk3⟩ u hh tkk - hkK F N
    dsimp only at hkK N ⊢
    dsimp only [kstB] at F
    have r0 := (wk_range (n := lg) (h := h) k).1
    have r1 := (wk_range (n := lg) (h := h) k).2
    have r2 : wk lg h k < (ns.length : Int) := by rw [len_cast hlen]; exact r1
    have p0 := pow_le_1024 (n := lg) (by omega)
    have q0 := (wk_range (n := lg) (h := h) (k + 1)).1
    have q1 := (wk_range (n := lg) (h := h) (k + 1)).2
    have q2 : wk lg h (k + 1) < (ns.length : Int) := by rw [len_cast hlen]; exact q1
    dsimp only [wk, pt] at q0 q1 q2
    (try k_fold)
    k_steps
    all_goals first
      | (have hne : k ≠ K := by rintro rfl; contradiction
         refine Hold.mk ?_
         rename Fr _ _ _ _ => eF
         rename News _ _ _ _ => eN
         exact ksw_end (k + 1, _, _, _) eF eN (fun _ h => h) trivial (List.forall_mem_cons.mpr ⟨rfl, List.forall_mem_cons.mpr ⟨rfl, List.forall_mem_cons.mpr ⟨rfl, List.forall_mem_nil _⟩⟩⟩) (by ksw_same) (by show k + 1 ≤ K; omega) (by show K - (k + 1) < K - k; omega))
      | (have he : k = K := by
           rcases Nat.lt_or_eq_of_le hkK with hlt | e
           · exact absurd (by assumption) (hK' k hlt)
           · exact e
         subst he
         exact hret _ _ _ (by assumption) (by assumption))
      | (have hne : k ≠ K := by rintro rfl; contradiction
         refine Hold.mk ?_
         have hp : pt h (k + 1) = 0 := by assumption
         have e9 := wk_tl (n := lg) hp
         have hk1 : k + 1 + (K - (k + 1)) = K := by omega
         have e10 := e9 (K - (k + 1))
         rw [hk1] at e10
         refine' resume_none (K := K - (k + 1)) hlg hi hlen q0 q1 (by rw [show tl lg ((wk lg h k * 5 + pt h k / 32 + 1) % 2 ^ lg) (K - (k + 1)) = wk lg h K from e10.symm]; exact hK)
           (fun j hj => by rw [show tl lg ((wk lg h k * 5 + pt h k / 32 + 1) % 2 ^ lg) j = wk lg h (k + 1 + j) from (e9 j).symm]; exact hK' _ (by omega)) ?u1 ?u2 ?u3 ?u4 ?u5 ?u6 ?u7 ?u8 ?_; (case u1 => k_asm); (case u2 => k_asm); (case u3 => k_asm); (case u4 => k_asm); (case u5 => k_asm); (case u6 => first | exact rfl | assumption); (case u7 => ktr_room); (case u8 => ktr_units)
         intro t9 h9 tk9 F9 N9
         rw [show tl lg ((wk lg h k * 5 + pt h k / 32 + 1) % 2 ^ lg) (K - (k + 1)) = wk lg h K from e10.symm]
         (try k_fold)
         k_steps
         exact hret _ _ _ (by assumption) (by assumption)))
end Mine
end

section
open PySem PySem.W PySem.Calls PyProof.Rows
namespace Mine
local macro_rules | `(tactic| walk_at "MinePad") => `(tactic| skip)
local macro_rules | `(tactic| walk_at "getAttr ref") => `(tactic| (k_here; k_dflt (refine' get_lateS ?k1 ?k2 ?k3 ?k4 ?k5 ?k6 ?k7 ?k8 ?k9 ?k10 ?_; (case k1 => k_asm); (case k2 => k_asm); (case k3 => k_inst); (case k4 => k_is); (case k5 => k_is); (case k6 => k_is); (case k7 => k_is); (case k8 => k_is); (case k9 => decide +kernel); (case k10 => k_get))))
local macro_rules | `(tactic| walk_at "getAttr ref") => `(tactic| (k_here; k_dflt (first
  | refine' get_shadowS ?k1 ?k2 ?k3 ?k4 ?k5 ?k6 ?k7 ?k8 ?k9 ?k10 ?_; (case k1 => k_asm); (case k2 => k_asm); (case k3 => k_inst); (case k4 => k_is); (case k5 => k_is); (case k6 => k_is); (case k7 => k_is); (case k8 => k_is); (case k9 => k_get); (case k10 => k_handed); k_whole
  | refine' get_ownS ?k1 ?k2 ?k3 ?k4 ?k5 ?k6 ?k7 ?k8 ?k9 ?_; (case k1 => k_asm); (case k2 => k_asm); (case k3 => k_inst); (case k4 => k_is); (case k5 => k_is); (case k6 => k_is); (case k7 => k_is); (case k8 => k_get); (case k9 => k_handed); k_whole)))
local macro_rules | `(tactic| walk_at "getAttr ref") => `(tactic| (k_here; (with_reducible show wpAny _ _ (getAttr (Value.ref _) (PySem.Str.ofString "__dict__") _) _ _ _); k_dflt (refine' get_dictS ?k1 ?k2 ?k3 ?k4 ?k5 ?k6 ?k7 ?k8 ?k9 ?k10 ?k11 ?k12 ?k13 ?k14 ?_; (case k1 => k_asm); (case k2 => k_asm); (case k3 => k_asm); (case k4 => k_inst); (case k5 => k_is); (case k6 => k_is); (case k7 => k_is); (case k8 => k_is); (case k9 => k_is); (case k10 => k_is); (case k11 => k_is); (case k12 => k_is); (case k13 => k_is); (case k14 => k_upd); k_whole; intro h' F' N'; (try k_sweep))))
local macro_rules | `(tactic| walk_at "getMethod ref") => `(tactic| (k_here; k_dflt (first
  | refine' method_instS ?k1 ?k2 ?k3 ?k4 ?k5 ?k6 ?k7 ?_; (case k1 => k_asm); (case k2 => k_asm); (case k3 => k_inst); (case k4 => k_is); (case k5 => k_is); (case k6 => k_is); (case k7 => k_get); k_whole
  | refine' method_getS ?k1 ?k2 ?_; (case k1 => k_asm); (case k2 => k_mem); k_whole)))
local macro_rules | `(tactic| walk_at "setAttr ref") => `(tactic| (k_here; k_dflt (refine' set_dictS ?k1 ?k2 ?k3 ?k4 ?k5 ?k6 ?k7 ?k8 ?k9 ?k10 ?k11 ?k12 ?k13 ?_; (case k1 => k_asm); (case k2 => k_asm); (case k3 => k_asm); (case k4 => k_inst); (case k5 => exact rfl); (case k6 => k_is); (case k7 => k_is); (case k8 => k_is); (case k9 => k_is); (case k10 => k_get); (case k11 => k_put); (case k12 => k_upd); (case k13 => exact Nat.le_of_ble_eq_true rfl); k_whole; intro h' F' N'; (try k_sweep))))
local macro_rules | `(tactic| walk_at "call builtin:dict.get") => `(tactic| (k_here; k_dflt (refine' call_get_missS ?k1 ?k2 ?k3 ?k4 ?k5 ?_; (case k1 => k_asm); (case k2 => k_mem); (case k3 => assumption); (case k4 => k_keys); (case k5 => k_get); k_whole)))
local macro_rules | `(tactic| walk_at "setItem ref str") => `(tactic| (k_here; k_dflt (refine' setItem_newS ?k1 ?k2 ?k3 ?k4 ?k5 ?k6 ?_; (case k1 => k_asm); (case k2 => k_asm); (case k3 => k_upd); (case k4 => k_keys); (case k5 => k_get); (case k6 => exact Nat.le_of_ble_eq_true rfl); k_whole; intro h' F' N'; (try dsimp only [List.cons_append, List.nil_append] at N'); (try k_sweep))))
local macro_rules | `(tactic| walk_at "exec While") => `(tactic| (k_here; refine Hold.out ?_))
local macro_rules | `(tactic| walk_at "KswEnd") => `(tactic| (refine Hold.out ?_))
local macro_rules | `(tactic| walk_at "binaryOp BitAnd int int") => `(tactic| first | with_reducible refine and_mask ?_ | with_reducible refine and_mask' ?_)
local macro_rules | `(tactic| walk_at "call ref") => `(tactic| (k_here; k_dflt (refine wpAny_call ?_; refine' code_def ?k1 ?k2 ?k3 ?k4 ?k5 ?kA ?kF ?kK ?k6 ?k7 ?k8 ?k9 ?kB ?_ ?c2 ?c3 ?c4 ?c5; (case kA => exact rfl); (case kF => exact rfl); (case kK => first | exact rfl | assumption); (case k1 => k_asm); (case k2 => k_asm); (case k3 => k_asm); (case k4 => k_asm); (case k5 => k_asm); (case k6 => k_is); (case k7 => k_is); (case k8 => ktr_room); (case k9 => first | exact BindsTo.of_eq rfl | exact binds_K (by k_in) rfl (by k_is) rfl rfl rfl); (case c5 => decide); (case kB => exact locs rfl); (case c2 => exact rfl); (case c3 => exact rfl); (case c4 => exact rfl); k_whole; intro g' L' h' FG' F' N' B' X' T'; (try dsimp only); (try k_lift B'); (try k_fold))))
local macro_rules | `(tactic| walk_at "inplaceOp RShift int int") => `(tactic| with_reducible refine shr5 ?_)
local macro_rules | `(tactic| walk_at "binaryOp LShift int int") => `(tactic| (with_reducible refine shl_one ?a ?_; (case a => omega)))
local macro_rules | `(tactic| k_all) => `(tactic| assumption)
local macro_rules | `(tactic| walk_at "call ref") => `(tactic| (k_here; (with_reducible show wpAny _ _ (call (Value.ref 140) _) _ _ _); refine Hold.out ?_))
local macro_rules | `(tactic| walk_at "call ref") => `(tactic| (k_here; (with_reducible show wpAny _ _ (call (Value.ref 133) _) _ _ _); refine Hold.out ?_))
set_option maxRecDepth 100000 in
set_option maxHeartbeats 8000000 in
theorem fes_dup {w : World} {mean : ExcName → Option Value} {mg mb : Str → Option Value}
   {dp un : Nat} {gd : Option (List Code)} {cn : Str} {cs : Scope} {a : Addr} {ccd : Value} {cl : List (Str × Addr)} {outer : List Env} {A₀ : Around} {base h₀ : Heap} {L : Addr} {m : Str → Option Value} {s : Shared} {Q : Value → Shared → Prop}
   {E : Value → Shared → Prop} {x dx : Addr} {k1 k2 k3 k4 k5 k6 t1 : Tok} {v2 v4 : Value} {lg : Nat} {rest : Led} {k7 k8 t7 t8 : Tok} {il : Addr} {vs : List Value} {ns : List Int} {ep : Nat} {h : Int} {th : Tok} {K : Nat}
   (hlg : lg < 10) (hi : IntsAre vs ns) (hlen : ns.length = 2 ^ lg) (hh0 : 0 ≤ h)
   (hK : ns.getD (wk lg h K).toNat 0 = -1) (hK' : ∀ j < K, ns.getD (wk lg h j).toNat 0 ≠ -1)
   (B : Below A₀ base outer h₀) (F : Fr h₀ L s.heap m) (X : (Mine.hd.heap_39 w.params).In h₀)
   (N : News h₀ L s.heap ((x, instObj 227 dx) :: (dx, dictS (tabEs w.params k1 k2 k3 k4 k5 k6 k7 k8 (.int lg t1) v2 (.ref il) v4 .none (.bool true) (.int (2^lg) t7) (.int (2^lg-1) t8)) 8 #[none]) :: (il, listOf vs.toArray ep) :: rest))
   (T : Top Mine.hd.view_39 (looseW Mine.hd.view_39 [Str.ofString "_NOT_FOUND", Str.ofString "cached_property", Str.ofString "_HtKeys"]) mean mg mb h₀) (hk : cs.kind = .function) (hd : dp + 4 < recursionLimit) (hu : un + 40 < cLine)
   (hret : ∀ t, ∀ h' tk', Fr h₀ L h' m → News h₀ L h' ((x, instObj 227 dx) :: (dx, dictS (tabEs w.params k1 k2 k3 k4 k5 k6 k7 k8 (.int lg t1) v2 (.ref il) v4 .none (.bool true) (.int (2^lg) t7) (.int (2^lg-1) t8)) 8 #[none]) :: (il, listOf vs.toArray ep) :: rest) → Q (.int (wk lg h K) t) { s with heap := h', toks := tk' }) :
   wpAny (model PySem.Challenge.rw_fc5025_04.row.prog w) (ktrTop dp un gd cn cs L a ccd cl outer) (call (.ref 126) [.ref x, .int h th]) Q E s := by
  have w0 := (wk_range (n := lg) (h := h) 0).1
  have w1 := (wk_range (n := lg) (h := h) 0).2
  have w2 : wk lg h 0 < (ns.length : Int) := by rw [len_cast hlen]; exact w1
  have p0 := pow_le_1024 (n := lg) (by omega)
  dsimp only [wk] at w0 w1 w2
  w_top off; revert B F X N T; k_fill; intro B F X N T
  refine wpAny_call ?_
  k_dflt (refine' code_def ?k1 ?k2 ?k3 ?k4 ?k5 ?kA ?kF ?kK ?k6 ?k7 ?k8 ?k9 ?kB ?_ ?c2 ?c3 ?c4 ?c5; (case kA => exact rfl); (case kF => exact rfl); (case kK => first | exact rfl | assumption); (case k1 => k_asm); (case k2 => k_asm); (case k3 => k_asm); (case k4 => k_asm); (case k5 => k_asm); (case k6 => k_is); (case k7 => k_is); (case k8 => ktr_room); (case k9 => first | exact BindsTo.of_eq rfl | exact binds_K (by k_in) rfl (by k_is) rfl rfl rfl); (case c5 => decide); (case kB => exact locs rfl); (case c2 => exact rfl); (case c3 => exact rfl); (case c4 => exact rfl); k_whole)
  intro g' L' h' FG' F' N' B' X' T'
  (try dsimp only)
  (try k_fold)
  k_steps
  all_goals (
    refine Hold.mk ?_
    rename Fr _ _ _ _ => lF
    rename News _ _ _ _ => lN
    refine ksw_while (σ := Nat × Tok × Tok × Tok) (fun _ => (x, instObj 227 dx) :: (dx, dictS (tabEs w.params k1 k2 k3 k4 k5 k6 k7 k8 (.int lg t1) v2 (.ref il) v4 .none (.bool true) (.int (2^lg) t7) (.int (2^lg-1) t8)) 8 #[none]) :: (il, listOf vs.toArray ep) :: rest)
      (fun c => [(Str.ofString "ix", .int (ns.getD (wk lg h c.1).toNat 0) c.2.1), (Str.ofString "i", .int (wk lg h c.1) c.2.2.1), (Str.ofString "perturb", .int (pt h c.1) c.2.2.2)]) (fun _ => True) [] (fun c => c.1 ≤ K) (fun c => K - c.1) (0, _, _, _) lF lN trivial
      (List.forall_mem_cons.mpr ⟨rfl, List.forall_mem_cons.mpr ⟨rfl, List.forall_mem_cons.mpr ⟨rfl, List.forall_mem_nil _⟩⟩⟩) (Nat.zero_le _) ?_
    clear lF lN
    rintro ⟨k, tk1, tk2, tk3⟩ u hh tkk - hkK F N
    dsimp only at hkK N ⊢
    dsimp only [kstB] at F
    have r0 := (wk_range (n := lg) (h := h) k).1
    have r1 := (wk_range (n := lg) (h := h) k).2
    have r2 : wk lg h k < (ns.length : Int) := by rw [len_cast hlen]; exact r1
    have p0 := pow_le_1024 (n := lg) (by omega)
    have q0 := (wk_range (n := lg) (h := h) (k + 1)).1
    have q1 := (wk_range (n := lg) (h := h) (k + 1)).2
    have q2 : wk lg h (k + 1) < (ns.length : Int) := by rw [len_cast hlen]; exact q1
    dsimp only [wk, pt] at q0 q1 q2
    (try k_fold)
    k_steps
    all_goals first
      | (have hne : k ≠ K := by rintro rfl; contradiction
         refine Hold.mk ?_
         rename Fr _ _ _ _ => eF
         rename News _ _ _ _ => eN
         exact ksw_end (k + 1, _, _, _) eF eN (fun _ h => h) trivial (List.forall_mem_cons.mpr ⟨rfl, List.forall_mem_cons.mpr ⟨rfl, List.forall_mem_cons.mpr ⟨rfl, List.forall_mem_nil _⟩⟩⟩) (by ksw_same) (by show k + 1 ≤ K; omega) (by show K - (k + 1) < K - k; omega))
      | (have he : k = K := by
           rcases Nat.lt_or_eq_of_le hkK with hlt | e
           · exact absurd (by assumption) (hK' k hlt)
           · exact e
         subst he
         exact hret _ _ _ (by assumption) (by assumption))
      | (have hne : k ≠ K := by rintro rfl; contradiction
         refine Hold.mk ?_
         have hp : pt h (k + 1) = 0 := by assumption
         have e9 := wk_tl (n := lg) hp
         have hk1 : k + 1 + (K - (k + 1)) = K := by omega
         have e10 := e9 (K - (k + 1))
         rw [hk1] at e10
         refine' resume_none (K := K - (k + 1)) hlg hi hlen q0 q1 (by rw [show tl lg ((wk lg h k * 5 + pt h k / 32 + 1) % 2 ^ lg) (K - (k + 1)) = wk lg h K from e10.symm]; exact hK)
           (fun j hj => by rw [show tl lg ((wk lg h k * 5 + pt h k / 32 + 1) % 2 ^ lg) j = wk lg h (k + 1 + j) from (e9 j).symm]; exact hK' _ (by omega)) ?u1 ?u2 ?u3 ?u4 ?u5 ?u6 ?u7 ?u8 ?_; (case u1 => k_asm); (case u2 => k_asm); (case u3 => k_asm); (case u4 => k_asm); (case u5 => k_asm); (case u6 => first | exact rfl | assumption); (case u7 => ktr_room); (case u8 => ktr_units)
         intro t9 h9 tk9 F9 N9
         rw [show tl lg ((wk lg h k * 5 + pt h k / 32 + 1) % 2 ^ lg) (K - (k + 1)) = wk lg h K from e10.symm]
         (try k_fold)
         k_steps
         exact hret _ _ _ (by assumption) (by assumption)))
end Mine
end

section
open PySem PySem.W PySem.Calls PyProof.Rows
namespace Mine
local macro_rules | `(tactic| walk_at "getAttr ref") => `(tactic| (k_here; k_dflt (refine' get_lateS ?k1 ?k2 ?k3 ?k4 ?k5 ?k6 ?k7 ?k8 ?k9 ?k10 ?_; (case k1 => k_asm); (case k2 => k_asm); (case k3 => k_inst); (case k4 => k_is); (case k5 => k_is); (case k6 => k_is); (case k7 => k_is); (case k8 => k_is); (case k9 => decide +kernel); (case k10 => k_get))))
local macro_rules | `(tactic| walk_at "getAttr ref") => `(tactic| (k_here; k_dflt (first
  | refine' get_shadowS ?k1 ?k2 ?k3 ?k4 ?k5 ?k6 ?k7 ?k8 ?k9 ?k10 ?_; (case k1 => k_asm); (case k2 => k_asm); (case k3 => k_inst); (case k4 => k_is); (case k5 => k_is); (case k6 => k_is); (case k7 => k_is); (case k8 => k_is); (case k9 => k_get); (case k10 => k_handed); k_whole
  | refine' get_ownS ?k1 ?k2 ?k3 ?k4 ?k5 ?k6 ?k7 ?k8 ?k9 ?_; (case k1 => k_asm); (case k2 => k_asm); (case k3 => k_inst); (case k4 => k_is); (case k5 => k_is); (case k6 => k_is); (case k7 => k_is); (case k8 => k_get); (case k9 => k_handed); k_whole)))
local macro_rules | `(tactic| walk_at "getAttr ref") => `(tactic| (k_here; (with_reducible show wpAny _ _ (getAttr (Value.ref _) (PySem.Str.ofString "__dict__") _) _ _ _); k_dflt (refine' get_dictS ?k1 ?k2 ?k3 ?k4 ?k5 ?k6 ?k7 ?k8 ?k9 ?k10 ?k11 ?k12 ?k13 ?k14 ?_; (case k1 => k_asm); (case k2 => k_asm); (case k3 => k_asm); (case k4 => k_inst); (case k5 => k_is); (case k6 => k_is); (case k7 => k_is); (case k8 => k_is); (case k9 => k_is); (case k10 => k_is); (case k11 => k_is); (case k12 => k_is); (case k13 => k_is); (case k14 => k_upd); k_whole; intro h' F' N'; (try k_sweep))))
local macro_rules | `(tactic| walk_at "getMethod ref") => `(tactic| (k_here; k_dflt (first
  | refine' method_instS ?k1 ?k2 ?k3 ?k4 ?k5 ?k6 ?k7 ?_; (case k1 => k_asm); (case k2 => k_asm); (case k3 => k_inst); (case k4 => k_is); (case k5 => k_is); (case k6 => k_is); (case k7 => k_get); k_whole
  | refine' method_getS ?k1 ?k2 ?_; (case k1 => k_asm); (case k2 => k_mem); k_whole)))
local macro_rules | `(tactic| walk_at "setAttr ref") => `(tactic| (k_here; k_dflt (refine' set_dictS ?k1 ?k2 ?k3 ?k4 ?k5 ?k6 ?k7 ?k8 ?k9 ?k10 ?k11 ?k12 ?k13 ?_; (case k1 => k_asm); (case k2 => k_asm); (case k3 => k_asm); (case k4 => k_inst); (case k5 => exact rfl); (case k6 => k_is); (case k7 => k_is); (case k8 => k_is); (case k9 => k_is); (case k10 => k_get); (case k11 => k_put); (case k12 => k_upd); (case k13 => exact Nat.le_of_ble_eq_true rfl); k_whole; intro h' F' N'; (try k_sweep))))
local macro_rules | `(tactic| walk_at "call builtin:dict.get") => `(tactic| (k_here; k_dflt (refine' call_get_missS ?k1 ?k2 ?k3 ?k4 ?k5 ?_; (case k1 => k_asm); (case k2 => k_mem); (case k3 => assumption); (case k4 => k_keys); (case k5 => k_get); k_whole)))
local macro_rules | `(tactic| walk_at "setItem ref str") => `(tactic| (k_here; k_dflt (refine' setItem_newS ?k1 ?k2 ?k3 ?k4 ?k5 ?k6 ?_; (case k1 => k_asm); (case k2 => k_asm); (case k3 => k_upd); (case k4 => k_keys); (case k5 => k_get); (case k6 => exact Nat.le_of_ble_eq_true rfl); k_whole; intro h' F' N'; (try dsimp only [List.cons_append, List.nil_append] at N'); (try k_sweep))))
local macro_rules | `(tactic| walk_at "exec While") => `(tactic| (k_here; refine Hold.out ?_))
local macro_rules | `(tactic| walk_at "KswEnd") => `(tactic| (refine Hold.out ?_))
local macro_rules | `(tactic| walk_at "binaryOp BitAnd int int") => `(tactic| first | with_reducible refine and_mask ?_ | with_reducible refine and_mask' ?_)
local macro_rules | `(tactic| walk_at "call ref") => `(tactic| (k_here; k_dflt (refine wpAny_call ?_; refine' code_def ?k1 ?k2 ?k3 ?k4 ?k5 ?kA ?kF ?kK ?k6 ?k7 ?k8 ?k9 ?kB ?_ ?c2 ?c3 ?c4 ?c5; (case kA => exact rfl); (case kF => exact rfl); (case kK => first | exact rfl | assumption); (case k1 => k_asm); (case k2 => k_asm); (case k3 => k_asm); (case k4 => k_asm); (case k5 => k_asm); (case k6 => k_is); (case k7 => k_is); (case k8 => ktr_room); (case k9 => first | exact BindsTo.of_eq rfl | exact binds_K (by k_in) rfl (by k_is) rfl rfl rfl); (case c5 => decide); (case kB => exact locs rfl); (case c2 => exact rfl); (case c3 => exact rfl); (case c4 => exact rfl); k_whole; intro g' L' h' FG' F' N' B' X' T'; (try dsimp only); (try k_lift B'); (try k_fold))))
local macro_rules | `(tactic| walk_at "inplaceOp RShift int int") => `(tactic| with_reducible refine shr5 ?_)
local macro_rules | `(tactic| walk_at "binaryOp LShift int int") => `(tactic| (with_reducible refine shl_one ?a ?_; (case a => omega)))
local macro_rules | `(tactic| k_all) => `(tactic| assumption)
local macro_rules | `(tactic| walk_at "call ref") => `(tactic| (k_here; (with_reducible show wpAny _ _ (call (Value.ref 140) _) _ _ _); refine Hold.out ?_))
local macro_rules | `(tactic| walk_at "call ref") => `(tactic| (k_here; (with_reducible show wpAny _ _ (call (Value.ref 133) _) _ _ _); refine Hold.out ?_))
set_option maxRecDepth 100000 in
set_option maxHeartbeats 8000000 in
theorem fes_cold {w : World} {mean : ExcName → Option Value} {mg mb : Str → Option Value}
   {dp un : Nat} {gd : Option (List Code)} {cn : Str} {cs : Scope} {a : Addr} {ccd : Value} {cl : List (Str × Addr)} {outer : List Env} {A₀ : Around} {base h₀ : Heap} {L : Addr} {m : Str → Option Value} {s : Shared} {Q : Value → Shared → Prop}
   {Γ : Ctx} (hΓ : InOK Γ (ktrTop dp un gd cn cs L a ccd cl outer)) {x dx : Addr} {k1 k2 k3 k4 k5 k6 t1 : Tok} {v2 v4 v6 : Value} {lg : Nat} {rest : Led} {il : Addr} {vs : List Value} {ns : List Int} {ep : Nat} {h : Int} {th : Tok} {K : Nat}
   (hlg : lg < 10) (hi : IntsAre vs ns) (hlen : ns.length = 2 ^ lg) (hh0 : 0 ≤ h)
   (hK : ns.getD (wk lg h K).toNat 0 = -1) (hK' : ∀ j < K, ns.getD (wk lg h j).toNat 0 ≠ -1) (hlo : (dx == sysModules) = false) (hsep : ∀ p ∈ rest, p.1 ≠ dx) (hxd : @LT.lt Nat _ dx x) (hild : @LT.lt Nat _ il dx)
   (B : Below A₀ base outer h₀) (F : Fr h₀ L s.heap m) (X : (Mine.hd.heap_39 w.params).In h₀)
   (N : News h₀ L s.heap ((x, instObj 227 dx) :: (dx, dictOf (coldEs w.params k1 k2 k3 k4 k5 k6 (.int lg t1) v2 (.ref il) v4 .none v6) 6) :: (il, listOf vs.toArray ep) :: rest))
   (T : Top Mine.hd.view_39 (looseW Mine.hd.view_39 [Str.ofString "_NOT_FOUND", Str.ofString "cached_property", Str.ofString "_HtKeys"]) mean mg mb h₀) (hk : cs.kind = .function) (hd : dp + 8 < recursionLimit) (hu : un + 120 < cLine)
   (hret : ∀ t k7 k8 t7 t8, ∀ h' tk', Fr h₀ L h' m → News h₀ L h' ((x, instObj 227 dx) :: (dx, dictS (tabEs w.params k1 k2 k3 k4 k5 k6 k7 k8 (.int lg t1) v2 (.ref il) v4 .none v6 (.int (2^lg) t7) (.int (2^lg-1) t8)) 8 #[none]) :: (il, listOf vs.toArray ep) :: rest) → Q (.int (wk lg h K) t) { s with heap := h', toks := tk' }) :
   wpAt (model PySem.Challenge.rw_fc5025_04.row.prog w) Γ (call (.ref 126) [.ref x, .int h th, .bool true]) Q s := by
  have w0 := (wk_range (n := lg) (h := h) 0).1
  have w1 := (wk_range (n := lg) (h := h) 0).2
  have w2 : wk lg h 0 < (ns.length : Int) := by rw [len_cast hlen]; exact w1
  have p0 := pow_le_1024 (n := lg) (by omega)
  dsimp only [wk] at w0 w1 w2
  w_top off; revert B F X N T; k_fill; intro B F X N T
  refine at_call fun p1 => ?_
  (k_dflt (refine' codeAt_defX rfl ?kG ?k1 ?k2 ?k3 ?k4 ?k5 ?kA ?kF ?kK ?k6 ?k7 ?k8 ?k9 ?kB ?_ ?c2 ?c3 ?c4 ?c5; (case kG => exact hΓ.enter _ p1); (case kA => exact rfl); (case kF => exact rfl); (case kK => first | exact rfl | assumption); (case k1 => k_asm); (case k2 => k_asm); (case k3 => k_asm); (case k4 => k_asm); (case k5 => k_asm); (case k6 => k_is); (case k7 => k_is); (case k8 => ktr_room); (case k9 => first | exact BindsTo.of_eq rfl | exact binds_K (by k_in) rfl (by k_is) rfl rfl rfl); (case c5 => decide); (case kB => exact locs rfl); (case c2 => exact rfl); (case c3 => exact rfl); (case c4 => exact rfl)))
  intro g' L' h' Γ2 FG' F' N' B' X' T' h2
  refine at_execs_cons (at_Assign_Name h2 (at_Attribute_name h2 ?_))
  (try k_fold)
  k_steps
  refine' mask_cold (lg := lg) (rest := (il, listOf vs.toArray ep) :: rest) h2 (by omega) hlo (List.forall_mem_cons.mpr ⟨Nat.ne_of_lt hild, hsep⟩) hxd ?u1 ?u2 ?u3 ?u4 ?u5 ?u6 ?u7 ?u8 ?_; (case u1 => k_asm); (case u2 => k_asm); (case u3 => k_asm); (case u4 => k_asm); (case u5 => k_asm); (case u6 => first | exact rfl | assumption); (case u7 => ktr_room); (case u8 => ktr_units)
  intro k7 k8 t7 t8 h6 tk6 F6 N6
  (try k_fold)
  k_steps
  refine at_any h2 ?_
  (try k_fold)
  k_steps
  all_goals (
    refine Hold.mk ?_
    rename Fr _ _ _ _ => lF
    rename News _ _ _ _ => lN
    refine ksw_while (σ := Nat × Tok × Tok × Tok) (fun _ => (x, instObj 227 dx) :: (dx, dictS (tabEs w.params k1 k2 k3 k4 k5 k6 k7 k8 (.int lg t1) v2 (.ref il) v4 .none v6 (.int (2^lg) t7) (.int (2^lg-1) t8)) 8 #[none]) :: (il, listOf vs.toArray ep) :: rest)
      (fun c => [(Str.ofString "ix", .int (ns.getD (wk lg h c.1).toNat 0) c.2.1), (Str.ofString "i", .int (wk lg h c.1) c.2.2.1), (Str.ofString "perturb", .int (pt h c.1) c.2.2.2)]) (fun _ => True) [] (fun c => c.1 ≤ K) (fun c => K - c.1) (0, _, _, _) lF lN trivial
      (List.forall_mem_cons.mpr ⟨rfl, List.forall_mem_cons.mpr ⟨rfl, List.forall_mem_cons.mpr ⟨rfl, List.forall_mem_nil _⟩⟩⟩) (Nat.zero_le _) ?_
    clear lF lN
    rintro ⟨k, tk1, tk2, tk3⟩ u hh tkk - hkK F N
    dsimp only at hkK N ⊢
    dsimp only [kstB] at F
    have r0 := (wk_range (n := lg) (h := h) k).1
    have r1 := (wk_range (n := lg) (h := h) k).2
    have r2 : wk lg h k < (ns.length : Int) := by rw [len_cast hlen]; exact r1
    have p0 := pow_le_1024 (n := lg) (by omega)
    have q0 := (wk_range (n := lg) (h := h) (k + 1)).1
    have q1 := (wk_range (n := lg) (h := h) (k + 1)).2
    have q2 : wk lg h (k + 1) < (ns.length : Int) := by rw [len_cast hlen]; exact q1
    dsimp only [wk, pt] at q0 q1 q2
    (try k_fold)
    k_steps
    all_goals first
      | (have hne : k ≠ K := by rintro rfl; contradiction
         refine Hold.mk ?_
         rename Fr _ _ _ _ => eF
         rename News _ _ _ _ => eN
         exact ksw_end (k + 1, _, _, _) eF eN (fun _ h => h) trivial (List.forall_mem_cons.mpr ⟨rfl, List.forall_mem_cons.mpr ⟨rfl, List.forall_mem_cons.mpr ⟨rfl, List.forall_mem_nil _⟩⟩⟩) (by ksw_same) (by show k + 1 ≤ K; omega) (by show K - (k + 1) < K - k; omega))
      | (have he : k = K := by
           rcases Nat.lt_or_eq_of_le hkK with hlt | e
           · exact absurd (by assumption) (hK' k hlt)
           · exact e
         subst he
         exact hret _ _ _ _ _ _ _ (by assumption) (by assumption))
      | (have hne : k ≠ K := by rintro rfl; contradiction
         refine Hold.mk ?_
         have hp : pt h (k + 1) = 0 := by assumption
         have e9 := wk_tl (n := lg) hp
         have hk1 : k + 1 + (K - (k + 1)) = K := by omega
         have e10 := e9 (K - (k + 1))
         rw [hk1] at e10
         refine' resume_none (K := K - (k + 1)) hlg hi hlen q0 q1 (by rw [show tl lg ((wk lg h k * 5 + pt h k / 32 + 1) % 2 ^ lg) (K - (k + 1)) = wk lg h K from e10.symm]; exact hK)
           (fun j hj => by rw [show tl lg ((wk lg h k * 5 + pt h k / 32 + 1) % 2 ^ lg) j = wk lg h (k + 1 + j) from (e9 j).symm]; exact hK' _ (by omega)) ?u1 ?u2 ?u3 ?u4 ?u5 ?u6 ?u7 ?u8 ?_; (case u1 => k_asm); (case u2 => k_asm); (case u3 => k_asm); (case u4 => k_asm); (case u5 => k_asm); (case u6 => first | exact rfl | assumption); (case u7 => ktr_room); (case u8 => ktr_units)
         intro t9 h9 tk9 F9 N9
         rw [show tl lg ((wk lg h k * 5 + pt h k / 32 + 1) % 2 ^ lg) (K - (k + 1)) = wk lg h K from e10.symm]
         (try k_fold)
         k_steps
         exact hret _ _ _ _ _ _ _ (by assumption) (by assumption)))
end Mine
end

section
open PySem PySem.W PySem.Calls PyProof.Rows
namespace Mine
local macro_rules | `(tactic| walk_at "getAttr ref") => `(tactic| (k_here; k_dflt (refine' get_lateS ?k1 ?k2 ?k3 ?k4 ?k5 ?k6 ?k7 ?k8 ?k9 ?k10 ?_; (case k1 => k_asm); (case k2 => k_asm); (case k3 => k_inst); (case k4 => k_is); (case k5 => k_is); (case k6 => k_is); (case k7 => k_is); (case k8 => k_is); (case k9 => decide +kernel); (case k10 => k_get))))
local macro_rules | `(tactic| walk_at "getAttr ref") => `(tactic| (k_here; k_dflt (first
  | refine' get_shadowS ?k1 ?k2 ?k3 ?k4 ?k5 ?k6 ?k7 ?k8 ?k9 ?k10 ?_; (case k1 => k_asm); (case k2 => k_asm); (case k3 => k_inst); (case k4 => k_is); (case k5 => k_is); (case k6 => k_is); (case k7 => k_is); (case k8 => k_is); (case k9 => k_get); (case k10 => k_handed); k_whole
  | refine' get_ownS ?k1 ?k2 ?k3 ?k4 ?k5 ?k6 ?k7 ?k8 ?k9 ?_; (case k1 => k_asm); (case k2 => k_asm); (case k3 => k_inst); (case k4 => k_is); (case k5 => k_is); (case k6 => k_is); (case k7 => k_is); (case k8 => k_get); (case k9 => k_handed); k_whole)))
local macro_rules | `(tactic| walk_at "getAttr ref") => `(tactic| (k_here; (with_reducible show wpAny _ _ (getAttr (Value.ref _) (PySem.Str.ofString "__dict__") _) _ _ _); k_dflt (refine' get_dictS ?k1 ?k2 ?k3 ?k4 ?k5 ?k6 ?k7 ?k8 ?k9 ?k10 ?k11 ?k12 ?k13 ?k14 ?_; (case k1 => k_asm); (case k2 => k_asm); (case k3 => k_asm); (case k4 => k_inst); (case k5 => k_is); (case k6 => k_is); (case k7 => k_is); (case k8 => k_is); (case k9 => k_is); (case k10 => k_is); (case k11 => k_is); (case k12 => k_is); (case k13 => k_is); (case k14 => k_upd); k_whole; intro h' F' N'; (try k_sweep))))
local macro_rules | `(tactic| walk_at "getMethod ref") => `(tactic| (k_here; k_dflt (first
  | refine' method_instS ?k1 ?k2 ?k3 ?k4 ?k5 ?k6 ?k7 ?_; (case k1 => k_asm); (case k2 => k_asm); (case k3 => k_inst); (case k4 => k_is); (case k5 => k_is); (case k6 => k_is); (case k7 => k_get); k_whole
  | refine' method_getS ?k1 ?k2 ?_; (case k1 => k_asm); (case k2 => k_mem); k_whole)))
local macro_rules | `(tactic| walk_at "setAttr ref") => `(tactic| (k_here; k_dflt (refine' set_dictS ?k1 ?k2 ?k3 ?k4 ?k5 ?k6 ?k7 ?k8 ?k9 ?k10 ?k11 ?k12 ?k13 ?_; (case k1 => k_asm); (case k2 => k_asm); (case k3 => k_asm); (case k4 => k_inst); (case k5 => exact rfl); (case k6 => k_is); (case k7 => k_is); (case k8 => k_is); (case k9 => k_is); (case k10 => k_get); (case k11 => k_put); (case k12 => k_upd); (case k13 => exact Nat.le_of_ble_eq_true rfl); k_whole; intro h' F' N'; (try k_sweep))))
local macro_rules | `(tactic| walk_at "call builtin:dict.get") => `(tactic| (k_here; k_dflt (refine' call_get_missS ?k1 ?k2 ?k3 ?k4 ?k5 ?_; (case k1 => k_asm); (case k2 => k_mem); (case k3 => assumption); (case k4 => k_keys); (case k5 => k_get); k_whole)))
local macro_rules | `(tactic| walk_at "setItem ref str") => `(tactic| (k_here; k_dflt (refine' setItem_newS ?k1 ?k2 ?k3 ?k4 ?k5 ?k6 ?_; (case k1 => k_asm); (case k2 => k_asm); (case k3 => k_upd); (case k4 => k_keys); (case k5 => k_get); (case k6 => exact Nat.le_of_ble_eq_true rfl); k_whole; intro h' F' N'; (try dsimp only [List.cons_append, List.nil_append] at N'); (try k_sweep))))
local macro_rules | `(tactic| walk_at "exec While") => `(tactic| (k_here; refine Hold.out ?_))
local macro_rules | `(tactic| walk_at "KswEnd") => `(tactic| (refine Hold.out ?_))
local macro_rules | `(tactic| walk_at "binaryOp BitAnd int int") => `(tactic| first | with_reducible refine and_mask ?_ | with_reducible refine and_mask' ?_)
local macro_rules | `(tactic| walk_at "call ref") => `(tactic| (k_here; k_dflt (refine wpAny_call ?_; refine' code_def ?k1 ?k2 ?k3 ?k4 ?k5 ?kA ?kF ?kK ?k6 ?k7 ?k8 ?k9 ?kB ?_ ?c2 ?c3 ?c4 ?c5; (case kA => exact rfl); (case kF => exact rfl); (case kK => first | exact rfl | assumption); (case k1 => k_asm); (case k2 => k_asm); (case k3 => k_asm); (case k4 => k_asm); (case k5 => k_asm); (case k6 => k_is); (case k7 => k_is); (case k8 => ktr_room); (case k9 => first | exact BindsTo.of_eq rfl | exact binds_K (by k_in) rfl (by k_is) rfl rfl rfl); (case c5 => decide); (case kB => exact locs rfl); (case c2 => exact rfl); (case c3 => exact rfl); (case c4 => exact rfl); k_whole; intro g' L' h' FG' F' N' B' X' T'; (try dsimp only); (try k_lift B'); (try k_fold))))
local macro_rules | `(tactic| walk_at "inplaceOp RShift int int") => `(tactic| with_reducible refine shr5 ?_)
local macro_rules | `(tactic| walk_at "binaryOp LShift int int") => `(tactic| (with_reducible refine shl_one ?a ?_; (case a => omega)))
local macro_rules | `(tactic| k_all) => `(tactic| assumption)
local macro_rules | `(tactic| walk_at "call ref") => `(tactic| (k_here; (with_reducible show wpAny _ _ (call (Value.ref 140) _) _ _ _); refine Hold.out ?_))
local macro_rules | `(tactic| walk_at "call ref") => `(tactic| (k_here; (with_reducible show wpAny _ _ (call (Value.ref 126) _) _ _ _); refine Hold.out ?_))
local macro_rules | `(tactic| walk_at "subscriptTail") => `(tactic| (k_here; (with_reducible show wpAny _ _ (subscriptTail (Expr.Name (PySem.Str.ofString "entries") _) _ _ _) _ _ _); refine Hold.out ?_))
set_option maxRecDepth 100000 in
set_option maxHeartbeats 8000000 in
theorem noting {w : World} {mean : ExcName → Option Value} {mg mb : Str → Option Value}
   {dp un : Nat} {gd : Option (List Code)} {cn : Str} {cs : Scope} {a : Addr} {ccd : Value} {cl : List (Str × Addr)} {outer : List Env} {A₀ : Around} {base h₀ : Heap} {L : Addr} {m : Str → Option Value} {s : Shared} {Q : Value → Shared → Prop}
   {E : Value → Shared → Prop} {x dx : Addr} {k1 k2 k3 k4 k5 k6 t1 : Tok} {v2 v6 : Value} {lg : Nat} {rest : Led} {k7 k8 t7 t8 : Tok} {il : Addr} {vs : List Value} {ns : List Int} {ep : Nat} {el : Addr} {ents : List Value} {ep2 : Nat} {h : Int} {th : Tok} {K : Nat}
   (hlg : lg < 10) (hi : IntsAre vs ns) (hlen : ns.length = 2 ^ lg) (hh0 : 0 ≤ h)
   (hK : ns.getD (wk lg h K).toNat 0 = -1) (hK' : ∀ j < K, ns.getD (wk lg h j).toNat 0 ≠ -1) (hneg : ∀ j < K, ns.getD (wk lg h j).toNat 0 < 0) (hlo : (dx == sysModules) = false) (hsep : ∀ p ∈ rest, p.1 ≠ dx) (hxd : @LT.lt Nat _ dx x) (hild : @LT.lt Nat _ il dx) (held : @LT.lt Nat _ el dx)
   (B : Below A₀ base outer h₀) (F : Fr h₀ L s.heap m) (X : (Mine.hd.heap_39 w.params).In h₀)
   (N : News h₀ L s.heap ((x, instObj 227 dx) :: (dx, dictS (tabEs w.params k1 k2 k3 k4 k5 k6 k7 k8 (.int lg t1) v2 (.ref il) (.ref el) .none v6 (.int (2^lg) t7) (.int (2^lg-1) t8)) 8 #[none]) :: (il, listOf vs.toArray ep) :: (el, listOf ents.toArray ep2) :: rest))
   (T : Top Mine.hd.view_39 (looseW Mine.hd.view_39 [Str.ofString "_NOT_FOUND", Str.ofString "cached_property", Str.ofString "_HtKeys"]) mean mg mb h₀) (hk : cs.kind = .function) (hd : dp + 6 < recursionLimit) (hu : un + 60 < cLine)
   (hend : 0 < K → pt h K = 0 → ∀ t h' tk', Fr h₀ L h' m → News h₀ L h' ((x, instObj 227 dx) :: (dx, dictS (tabEs w.params k1 k2 k3 k4 k5 k6 k7 k8 (.int lg t1) v2 (.ref il) (.ref el) .none (.bool true) (.int (2^lg) t7) (.int (2^lg-1) t8)) 8 #[none]) :: (il, listOf vs.toArray ep) :: (el, listOf ents.toArray ep2) :: rest) → Q (.int (wk lg h K) t) { s with heap := h', toks := tk' })
   (hnot : (0 < K → pt h K ≠ 0) → ∀ t h' tk', Fr h₀ L h' m → News h₀ L h' ((x, instObj 227 dx) :: (dx, dictS (tabEs w.params k1 k2 k3 k4 k5 k6 k7 k8 (.int lg t1) v2 (.ref il) (.ref el) .none v6 (.int (2^lg) t7) (.int (2^lg-1) t8)) 8 #[none]) :: (il, listOf vs.toArray ep) :: (el, listOf ents.toArray ep2) :: rest) → Q (.int (wk lg h K) t) { s with heap := h', toks := tk' }) :
   wpAny (model PySem.Challenge.rw_fc5025_04.row.prog w) (ktrTop dp un gd cn cs L a ccd cl outer) (call (.ref 133) [.ref x, .int h th]) Q E s := by
  have w0 := (wk_range (n := lg) (h := h) 0).1
  have w1 := (wk_range (n := lg) (h := h) 0).2
  have w2 : wk lg h 0 < (ns.length : Int) := by rw [len_cast hlen]; exact w1
  have p0 := pow_le_1024 (n := lg) (by omega)
  dsimp only [wk] at w0 w1 w2
  w_top off; revert B F X N T; k_fill; intro B F X N T
  refine wpAny_call ?_
  k_dflt (refine' code_def ?k1 ?k2 ?k3 ?k4 ?k5 ?kA ?kF ?kK ?k6 ?k7 ?k8 ?k9 ?kB ?_ ?c2 ?c3 ?c4 ?c5; (case kA => exact rfl); (case kF => exact rfl); (case kK => first | exact rfl | assumption); (case k1 => k_asm); (case k2 => k_asm); (case k3 => k_asm); (case k4 => k_asm); (case k5 => k_asm); (case k6 => k_is); (case k7 => k_is); (case k8 => ktr_room); (case k9 => first | exact BindsTo.of_eq rfl | exact binds_K (by k_in) rfl (by k_is) rfl rfl rfl); (case c5 => decide); (case kB => exact locs rfl); (case c2 => exact rfl); (case c3 => exact rfl); (case c4 => exact rfl); k_whole)
  intro g' L' h' FG' F' N' B' X' T'
  (try dsimp only)
  (try k_fold)
  k_steps
  all_goals (
    refine Hold.mk ?_
    rename Fr _ _ _ _ => lF
    rename News _ _ _ _ => lN
    refine ksw_while (σ := Nat × Tok × Tok × Tok) (fun _ => (x, instObj 227 dx) :: (dx, dictS (tabEs w.params k1 k2 k3 k4 k5 k6 k7 k8 (.int lg t1) v2 (.ref il) (.ref el) .none v6 (.int (2^lg) t7) (.int (2^lg-1) t8)) 8 #[none]) :: (il, listOf vs.toArray ep) :: (el, listOf ents.toArray ep2) :: rest)
      (fun c => [(Str.ofString "ix", .int (ns.getD (wk lg h c.1).toNat 0) c.2.1), (Str.ofString "i", .int (wk lg h c.1) c.2.2.1), (Str.ofString "perturb", .int (pt h c.1) c.2.2.2)]) (fun _ => True) [] (fun c => c.1 ≤ K ∧ (0 < c.1 → pt h c.1 ≠ 0)) (fun c => K - c.1) (0, _, _, _) lF lN trivial
      (List.forall_mem_cons.mpr ⟨rfl, List.forall_mem_cons.mpr ⟨rfl, List.forall_mem_cons.mpr ⟨rfl, List.forall_mem_nil _⟩⟩⟩) ⟨Nat.zero_le _, fun h9 => absurd h9 (Nat.lt_irrefl _)⟩ ?_
    clear lF lN
    rintro ⟨k, tk1, tk2, tk3⟩ u hh tkk - ⟨hkK, hpk⟩ F N
    dsimp only at hkK hpk N ⊢
    dsimp only [kstB] at F
    have r0 := (wk_range (n := lg) (h := h) k).1
    have r1 := (wk_range (n := lg) (h := h) k).2
    have r2 : wk lg h k < (ns.length : Int) := by rw [len_cast hlen]; exact r1
    have p0 := pow_le_1024 (n := lg) (by omega)
    have q0 := (wk_range (n := lg) (h := h) (k + 1)).1
    have q1 := (wk_range (n := lg) (h := h) (k + 1)).2
    have q2 : wk lg h (k + 1) < (ns.length : Int) := by rw [len_cast hlen]; exact q1
    dsimp only [wk, pt] at q0 q1 q2
    (try k_fold)
    k_steps
    all_goals try (have hne : k ≠ K := by (rintro rfl; contradiction)
                   have := hneg k (by omega)
                   exfalso; omega)
    all_goals first
      | (have hne : k ≠ K := by rintro rfl; contradiction
         refine Hold.mk ?_
         rename Fr _ _ _ _ => eF
         rename News _ _ _ _ => eN
         exact ksw_end (k + 1, _, _, _) eF eN (fun _ h => h) trivial (List.forall_mem_cons.mpr ⟨rfl, List.forall_mem_cons.mpr ⟨rfl, List.forall_mem_cons.mpr ⟨rfl, List.forall_mem_nil _⟩⟩⟩) (by ksw_same) ⟨by show k + 1 ≤ K; omega, fun _ => by assumption⟩ (by show K - (k + 1) < K - k; omega))
      | (have he : k = K := by
           rcases Nat.lt_or_eq_of_le hkK with hlt | e
           · exact absurd (by assumption) (hK' k hlt)
           · exact e
         subst he
         exact hnot hpk _ _ _ (by assumption) (by assumption))
      | (have hne : k ≠ K := by rintro rfl; contradiction
         refine Hold.mk ?_
         have hp : pt h (k + 1) = 0 := by assumption
         have e9 := wk_tl (n := lg) hp
         have hk1 : k + 1 + (K - (k + 1)) = K := by omega
         have e10 := e9 (K - (k + 1))
         have e11 : pt h K = 0 := by have := pt_zero hp (K - (k + 1)); rwa [hk1] at this
         rw [hk1] at e10
         refine' resume_none (K := K - (k + 1)) hlg hi hlen q0 q1 (by rw [show tl lg ((wk lg h k * 5 + pt h k / 32 + 1) % 2 ^ lg) (K - (k + 1)) = wk lg h K from e10.symm]; exact hK)
           (fun j hj => by rw [show tl lg ((wk lg h k * 5 + pt h k / 32 + 1) % 2 ^ lg) j = wk lg h (k + 1 + j) from (e9 j).symm]; exact hK' _ (by omega)) ?u1 ?u2 ?u3 ?u4 ?u5 ?u6 ?u7 ?u8 ?_; (case u1 => k_asm); (case u2 => k_asm); (case u3 => k_asm); (case u4 => k_asm); (case u5 => k_asm); (case u6 => first | exact rfl | assumption); (case u7 => ktr_room); (case u8 => ktr_units)
         intro t9 h9 tk9 F9 N9
         rw [show tl lg ((wk lg h k * 5 + pt h k / 32 + 1) % 2 ^ lg) (K - (k + 1)) = wk lg h K from e10.symm]
         (try k_fold)
         k_steps
         exact hend (by omega) e11 _ _ _ (by assumption) (by assumption)))
end Mine
end

section
open PySem PySem.W PySem.Calls PyProof.Rows
namespace Mine
local macro_rules | `(tactic| walk_at "MinePad") => `(tactic| skip)
local macro_rules | `(tactic| walk_at "getAttr ref") => `(tactic| (k_here; k_dflt (refine' get_lateS ?k1 ?k2 ?k3 ?k4 ?k5 ?k6 ?k7 ?k8 ?k9 ?k10 ?_; (case k1 => k_asm); (case k2 => k_asm); (case k3 => k_inst); (case k4 => k_is); (case k5 => k_is); (case k6 => k_is); (case k7 => k_is); (case k8 => k_is); (case k9 => decide +kernel); (case k10 => k_get))))
local macro_rules | `(tactic| walk_at "getAttr ref") => `(tactic| (k_here; k_dflt (first
  | refine' get_shadowS ?k1 ?k2 ?k3 ?k4 ?k5 ?k6 ?k7 ?k8 ?k9 ?k10 ?_; (case k1 => k_asm); (case k2 => k_asm); (case k3 => k_inst); (case k4 => k_is); (case k5 => k_is); (case k6 => k_is); (case k7 => k_is); (case k8 => k_is); (case k9 => k_get); (case k10 => k_handed); k_whole
  | refine' get_ownS ?k1 ?k2 ?k3 ?k4 ?k5 ?k6 ?k7 ?k8 ?k9 ?_; (case k1 => k_asm); (case k2 => k_asm); (case k3 => k_inst); (case k4 => k_is); (case k5 => k_is); (case k6 => k_is); (case k7 => k_is); (case k8 => k_get); (case k9 => k_handed); k_whole)))
local macro_rules | `(tactic| walk_at "getAttr ref") => `(tactic| (k_here; (with_reducible show wpAny _ _ (getAttr (Value.ref _) (PySem.Str.ofString "__dict__") _) _ _ _); k_dflt (refine' get_dictS ?k1 ?k2 ?k3 ?k4 ?k5 ?k6 ?k7 ?k8 ?k9 ?k10 ?k11 ?k12 ?k13 ?k14 ?_; (case k1 => k_asm); (case k2 => k_asm); (case k3 => k_asm); (case k4 => k_inst); (case k5 => k_is); (case k6 => k_is); (case k7 => k_is); (case k8 => k_is); (case k9 => k_is); (case k10 => k_is); (case k11 => k_is); (case k12 => k_is); (case k13 => k_is); (case k14 => k_upd); k_whole; intro h' F' N'; (try k_sweep))))
local macro_rules | `(tactic| walk_at "getMethod ref") => `(tactic| (k_here; k_dflt (first
  | refine' method_instS ?k1 ?k2 ?k3 ?k4 ?k5 ?k6 ?k7 ?_; (case k1 => k_asm); (case k2 => k_asm); (case k3 => k_inst); (case k4 => k_is); (case k5 => k_is); (case k6 => k_is); (case k7 => k_get); k_whole
  | refine' method_getS ?k1 ?k2 ?_; (case k1 => k_asm); (case k2 => k_mem); k_whole)))
local macro_rules | `(tactic| walk_at "setAttr ref") => `(tactic| (k_here; k_dflt (refine' set_dictS ?k1 ?k2 ?k3 ?k4 ?k5 ?k6 ?k7 ?k8 ?k9 ?k10 ?k11 ?k12 ?k13 ?_; (case k1 => k_asm); (case k2 => k_asm); (case k3 => k_asm); (case k4 => k_inst); (case k5 => exact rfl); (case k6 => k_is); (case k7 => k_is); (case k8 => k_is); (case k9 => k_is); (case k10 => k_get); (case k11 => k_put); (case k12 => k_upd); (case k13 => exact Nat.le_of_ble_eq_true rfl); k_whole; intro h' F' N'; (try k_sweep))))
local macro_rules | `(tactic| walk_at "call builtin:dict.get") => `(tactic| (k_here; k_dflt (refine' call_get_missS ?k1 ?k2 ?k3 ?k4 ?k5 ?_; (case k1 => k_asm); (case k2 => k_mem); (case k3 => assumption); (case k4 => k_keys); (case k5 => k_get); k_whole)))
local macro_rules | `(tactic| walk_at "setItem ref str") => `(tactic| (k_here; k_dflt (refine' setItem_newS ?k1 ?k2 ?k3 ?k4 ?k5 ?k6 ?_; (case k1 => k_asm); (case k2 => k_asm); (case k3 => k_upd); (case k4 => k_keys); (case k5 => k_get); (case k6 => exact Nat.le_of_ble_eq_true rfl); k_whole; intro h' F' N'; (try dsimp only [List.cons_append, List.nil_append] at N'); (try k_sweep))))
local macro_rules | `(tactic| walk_at "exec While") => `(tactic| (k_here; refine Hold.out ?_))
local macro_rules | `(tactic| walk_at "KswEnd") => `(tactic| (refine Hold.out ?_))
local macro_rules | `(tactic| walk_at "binaryOp BitAnd int int") => `(tactic| first | with_reducible refine and_mask ?_ | with_reducible refine and_mask' ?_)
local macro_rules | `(tactic| walk_at "call ref") => `(tactic| (k_here; k_dflt (refine wpAny_call ?_; refine' code_def ?k1 ?k2 ?k3 ?k4 ?k5 ?kA ?kF ?kK ?k6 ?k7 ?k8 ?k9 ?kB ?_ ?c2 ?c3 ?c4 ?c5; (case kA => exact rfl); (case kF => exact rfl); (case kK => first | exact rfl | assumption); (case k1 => k_asm); (case k2 => k_asm); (case k3 => k_asm); (case k4 => k_asm); (case k5 => k_asm); (case k6 => k_is); (case k7 => k_is); (case k8 => ktr_room); (case k9 => first | exact BindsTo.of_eq rfl | exact binds_K (by k_in) rfl (by k_is) rfl rfl rfl); (case c5 => decide); (case kB => exact locs rfl); (case c2 => exact rfl); (case c3 => exact rfl); (case c4 => exact rfl); k_whole; intro g' L' h' FG' F' N' B' X' T'; (try dsimp only); (try k_lift B'); (try k_fold))))
local macro_rules | `(tactic| walk_at "inplaceOp RShift int int") => `(tactic| with_reducible refine shr5 ?_)
local macro_rules | `(tactic| walk_at "binaryOp LShift int int") => `(tactic| (with_reducible refine shl_one ?a ?_; (case a => omega)))
local macro_rules | `(tactic| k_all) => `(tactic| assumption)
local macro_rules | `(tactic| walk_at "call ref") => `(tactic| (k_here; (with_reducible show wpAny _ _ (call (Value.ref 140) _) _ _ _); refine Hold.out ?_))
local macro_rules | `(tactic| walk_at "call ref") => `(tactic| (k_here; (with_reducible show wpAny _ _ (call (Value.ref 133) _) _ _ _); refine Hold.out ?_))
local macro_rules | `(tactic| walk_at "subscriptTail") => `(tactic| (k_here; (with_reducible show wpAny _ _ (subscriptTail (Expr.Name (PySem.Str.ofString "entries") _) _ _ _) _ _ _); refine Hold.out ?_))
set_option maxRecDepth 100000 in
set_option maxHeartbeats 8000000 in
theorem fes_gen {w : World} {mean : ExcName → Option Value} {mg mb : Str → Option Value}
   {dp un : Nat} {gd : Option (List Code)} {cn : Str} {cs : Scope} {a : Addr} {ccd : Value} {cl : List (Str × Addr)} {outer : List Env} {A₀ : Around} {base h₀ : Heap} {L : Addr} {m : Str → Option Value} {s : Shared} {Q : Value → Shared → Prop}
   {E : Value → Shared → Prop} {x dx : Addr} {k1 k2 k3 k4 k5 k6 t1 : Tok} {v2 : Value} {lg : Nat} {rest : Led} {k7 k8 t7 t8 : Tok} {il : Addr} {vs : List Value} {ns : List Int} {ep : Nat} {el : Addr} {ents : List Value} {ep2 : Nat} {h : Int} {th : Tok} {K : Nat}
   (hlg : lg < 10) (hi : IntsAre vs ns) (hlen : ns.length = 2 ^ lg) (hh0 : 0 ≤ h)
   (hK : ns.getD (wk lg h K).toNat 0 = -1) (hK' : ∀ j < K, ns.getD (wk lg h j).toNat 0 ≠ -1) (hneg : ∀ j < K, ns.getD (wk lg h j).toNat 0 < 0) (hlo : (dx == sysModules) = false) (hsep : ∀ p ∈ rest, p.1 ≠ dx) (hxd : @LT.lt Nat _ dx x) (hild : @LT.lt Nat _ il dx) (held : @LT.lt Nat _ el dx)
   (B : Below A₀ base outer h₀) (F : Fr h₀ L s.heap m) (X : (Mine.hd.heap_39 w.params).In h₀)
   (N : News h₀ L s.heap ((x, instObj 227 dx) :: (dx, dictS (tabEs w.params k1 k2 k3 k4 k5 k6 k7 k8 (.int lg t1) v2 (.ref il) (.ref el) .none (.bool false) (.int (2^lg) t7) (.int (2^lg-1) t8)) 8 #[none]) :: (il, listOf vs.toArray ep) :: (el, listOf ents.toArray ep2) :: rest))
   (T : Top Mine.hd.view_39 (looseW Mine.hd.view_39 [Str.ofString "_NOT_FOUND", Str.ofString "cached_property", Str.ofString "_HtKeys"]) mean mg mb h₀) (hk : cs.kind = .function) (hd : dp + 8 < recursionLimit) (hu : un + 80 < cLine)
   (hend : 0 < K → pt h K = 0 → ∀ t h' tk', Fr h₀ L h' m → News h₀ L h' ((x, instObj 227 dx) :: (dx, dictS (tabEs w.params k1 k2 k3 k4 k5 k6 k7 k8 (.int lg t1) v2 (.ref il) (.ref el) .none (.bool true) (.int (2^lg) t7) (.int (2^lg-1) t8)) 8 #[none]) :: (il, listOf vs.toArray ep) :: (el, listOf ents.toArray ep2) :: rest) → Q (.int (wk lg h K) t) { s with heap := h', toks := tk' })
   (hnot : (0 < K → pt h K ≠ 0) → ∀ t h' tk', Fr h₀ L h' m → News h₀ L h' ((x, instObj 227 dx) :: (dx, dictS (tabEs w.params k1 k2 k3 k4 k5 k6 k7 k8 (.int lg t1) v2 (.ref il) (.ref el) .none (.bool false) (.int (2^lg) t7) (.int (2^lg-1) t8)) 8 #[none]) :: (il, listOf vs.toArray ep) :: (el, listOf ents.toArray ep2) :: rest) → Q (.int (wk lg h K) t) { s with heap := h', toks := tk' }) :
   wpAny (model PySem.Challenge.rw_fc5025_04.row.prog w) (ktrTop dp un gd cn cs L a ccd cl outer) (call (.ref 126) [.ref x, .int h th]) Q E s := by
  have w0 := (wk_range (n := lg) (h := h) 0).1
  have w1 := (wk_range (n := lg) (h := h) 0).2
  have w2 : wk lg h 0 < (ns.length : Int) := by rw [len_cast hlen]; exact w1
  have p0 := pow_le_1024 (n := lg) (by omega)
  dsimp only [wk] at w0 w1 w2
  w_top off; revert B F X N T; k_fill; intro B F X N T
  refine wpAny_call ?_
  k_dflt (refine' code_def ?k1 ?k2 ?k3 ?k4 ?k5 ?kA ?kF ?kK ?k6 ?k7 ?k8 ?k9 ?kB ?_ ?c2 ?c3 ?c4 ?c5; (case kA => exact rfl); (case kF => exact rfl); (case kK => first | exact rfl | assumption); (case k1 => k_asm); (case k2 => k_asm); (case k3 => k_asm); (case k4 => k_asm); (case k5 => k_asm); (case k6 => k_is); (case k7 => k_is); (case k8 => ktr_room); (case k9 => first | exact BindsTo.of_eq rfl | exact binds_K (by k_in) rfl (by k_is) rfl rfl rfl); (case c5 => decide); (case kB => exact locs rfl); (case c2 => exact rfl); (case c3 => exact rfl); (case c4 => exact rfl); k_whole)
  intro g' L' h' FG' F' N' B' X' T'
  (try dsimp only)
  (try k_fold)
  k_steps
  all_goals first
    | (refine Hold.mk ?_
       refine' noting (K := K) (h := h) hlg hi hlen hh0 hK hK' hneg hlo hsep hxd hild held ?u1 ?u2 ?u3 ?u4 ?u5 ?u6 ?u7 ?u8 ?_ ?_; (case u1 => k_asm); (case u2 => k_asm); (case u3 => k_asm); (case u4 => k_asm); (case u5 => k_asm); (case u6 => first | exact rfl | assumption); (case u7 => ktr_room); (case u8 => ktr_units)
       
       · intro hq1 hq2 t9 h9 tk9 F9 N9
         (try k_fold)
         k_steps
         exact hend hq1 hq2 _ _ _ (by assumption) (by assumption)
       · intro hq1 t9 h9 tk9 F9 N9
         (try k_fold)
         k_steps
         exact hnot hq1 _ _ _ (by assumption) (by assumption))
    | (refine Hold.mk ?_
       have hK0 : K = 0 := by
         rcases Nat.eq_zero_or_pos K with e | hp
         · exact e
         · exact absurd (by assumption) (hK' 0 hp)
       subst hK0
       have hKi : ns.getD (h % 2 ^ lg).toNat 0 = -1 := hK
       rename Fr _ _ _ _ => lF
       rename News _ _ _ _ => lN
       refine ksw_while (σ := Unit) (fun _ => (x, instObj 227 dx) :: (dx, dictS (tabEs w.params k1 k2 k3 k4 k5 k6 k7 k8 (.int lg t1) v2 (.ref il) (.ref el) .none (.bool false) (.int (2^lg) t7) (.int (2^lg-1) t8)) 8 #[none]) :: (il, listOf vs.toArray ep) :: (el, listOf ents.toArray ep2) :: rest)
         (fun c => []) (fun _ => True) [] (fun c => True) (fun c => 0) () lF lN trivial
         (List.forall_mem_nil _) trivial ?_
       intro c u hh tkk _ _ F N
       dsimp only at N ⊢
       dsimp only [kstB] at F
       simp only [List.contains_nil, Bool.false_eq_true, if_false] at F
       (try k_fold)
       k_steps
       all_goals first
         | exact hnot (fun hq => absurd hq (Nat.lt_irrefl _)) _ _ _ (by assumption) (by assumption)
         | (exfalso; contradiction))
end Mine
end

section
open PySem PySem.W PySem.Calls PyProof.Rows
namespace Mine
local macro_rules | `(tactic| walk_at "getAttr ref") => `(tactic| (k_here; k_dflt (refine' get_lateS ?k1 ?k2 ?k3 ?k4 ?k5 ?k6 ?k7 ?k8 ?k9 ?k10 ?_; (case k1 => k_asm); (case k2 => k_asm); (case k3 => k_inst); (case k4 => k_is); (case k5 => k_is); (case k6 => k_is); (case k7 => k_is); (case k8 => k_is); (case k9 => decide +kernel); (case k10 => k_get))))
local macro_rules | `(tactic| walk_at "getAttr ref") => `(tactic| (k_here; k_dflt (first
  | refine' get_shadowS ?k1 ?k2 ?k3 ?k4 ?k5 ?k6 ?k7 ?k8 ?k9 ?k10 ?_; (case k1 => k_asm); (case k2 => k_asm); (case k3 => k_inst); (case k4 => k_is); (case k5 => k_is); (case k6 => k_is); (case k7 => k_is); (case k8 => k_is); (case k9 => k_get); (case k10 => k_handed); k_whole
  | refine' get_ownS ?k1 ?k2 ?k3 ?k4 ?k5 ?k6 ?k7 ?k8 ?k9 ?_; (case k1 => k_asm); (case k2 => k_asm); (case k3 => k_inst); (case k4 => k_is); (case k5 => k_is); (case k6 => k_is); (case k7 => k_is); (case k8 => k_get); (case k9 => k_handed); k_whole)))
local macro_rules | `(tactic| walk_at "getAttr ref") => `(tactic| (k_here; (with_reducible show wpAny _ _ (getAttr (Value.ref _) (PySem.Str.ofString "__dict__") _) _ _ _); k_dflt (refine' get_dictS ?k1 ?k2 ?k3 ?k4 ?k5 ?k6 ?k7 ?k8 ?k9 ?k10 ?k11 ?k12 ?k13 ?k14 ?_; (case k1 => k_asm); (case k2 => k_asm); (case k3 => k_asm); (case k4 => k_inst); (case k5 => k_is); (case k6 => k_is); (case k7 => k_is); (case k8 => k_is); (case k9 => k_is); (case k10 => k_is); (case k11 => k_is); (case k12 => k_is); (case k13 => k_is); (case k14 => k_upd); k_whole; intro h' F' N'; (try k_sweep))))
local macro_rules | `(tactic| walk_at "getMethod ref") => `(tactic| (k_here; k_dflt (first
  | refine' method_instS ?k1 ?k2 ?k3 ?k4 ?k5 ?k6 ?k7 ?_; (case k1 => k_asm); (case k2 => k_asm); (case k3 => k_inst); (case k4 => k_is); (case k5 => k_is); (case k6 => k_is); (case k7 => k_get); k_whole
  | refine' method_getS ?k1 ?k2 ?_; (case k1 => k_asm); (case k2 => k_mem); k_whole)))
local macro_rules | `(tactic| walk_at "setAttr ref") => `(tactic| (k_here; k_dflt (refine' set_dictS ?k1 ?k2 ?k3 ?k4 ?k5 ?k6 ?k7 ?k8 ?k9 ?k10 ?k11 ?k12 ?k13 ?_; (case k1 => k_asm); (case k2 => k_asm); (case k3 => k_asm); (case k4 => k_inst); (case k5 => exact rfl); (case k6 => k_is); (case k7 => k_is); (case k8 => k_is); (case k9 => k_is); (case k10 => k_get); (case k11 => k_put); (case k12 => k_upd); (case k13 => exact Nat.le_of_ble_eq_true rfl); k_whole; intro h' F' N'; (try k_sweep))))
local macro_rules | `(tactic| walk_at "call builtin:dict.get") => `(tactic| (k_here; k_dflt (refine' call_get_missS ?k1 ?k2 ?k3 ?k4 ?k5 ?_; (case k1 => k_asm); (case k2 => k_mem); (case k3 => assumption); (case k4 => k_keys); (case k5 => k_get); k_whole)))
local macro_rules | `(tactic| walk_at "setItem ref str") => `(tactic| (k_here; k_dflt (refine' setItem_newS ?k1 ?k2 ?k3 ?k4 ?k5 ?k6 ?_; (case k1 => k_asm); (case k2 => k_asm); (case k3 => k_upd); (case k4 => k_keys); (case k5 => k_get); (case k6 => exact Nat.le_of_ble_eq_true rfl); k_whole; intro h' F' N'; (try dsimp only [List.cons_append, List.nil_append] at N'); (try k_sweep))))
local macro_rules | `(tactic| walk_at "exec While") => `(tactic| (k_here; refine Hold.out ?_))
local macro_rules | `(tactic| walk_at "KswEnd") => `(tactic| (refine Hold.out ?_))
local macro_rules | `(tactic| walk_at "binaryOp BitAnd int int") => `(tactic| first | with_reducible refine and_mask ?_ | with_reducible refine and_mask' ?_)
local macro_rules | `(tactic| walk_at "call ref") => `(tactic| (k_here; k_dflt (refine wpAny_call ?_; refine' code_def ?k1 ?k2 ?k3 ?k4 ?k5 ?kA ?kF ?kK ?k6 ?k7 ?k8 ?k9 ?kB ?_ ?c2 ?c3 ?c4 ?c5; (case kA => exact rfl); (case kF => exact rfl); (case kK => first | exact rfl | assumption); (case k1 => k_asm); (case k2 => k_asm); (case k3 => k_asm); (case k4 => k_asm); (case k5 => k_asm); (case k6 => k_is); (case k7 => k_is); (case k8 => ktr_room); (case k9 => first | exact BindsTo.of_eq rfl | exact binds_K (by k_in) rfl (by k_is) rfl rfl rfl); (case c5 => decide); (case kB => exact locs rfl); (case c2 => exact rfl); (case c3 => exact rfl); (case c4 => exact rfl); k_whole; intro g' L' h' FG' F' N' B' X' T'; (try dsimp only); (try k_lift B'); (try k_fold))))
local macro_rules | `(tactic| walk_at "inplaceOp RShift int int") => `(tactic| with_reducible refine shr5 ?_)
local macro_rules | `(tactic| walk_at "binaryOp LShift int int") => `(tactic| (with_reducible refine shl_one ?a ?_; (case a => omega)))
local macro_rules | `(tactic| k_all) => `(tactic| assumption)
set_option maxRecDepth 100000 in
set_option maxHeartbeats 8000000 in
theorem itr_empty {w : World} {mean : ExcName → Option Value} {mg mb : Str → Option Value}
   {dp un : Nat} {gd : Option (List Code)} {cn : Str} {cs : Scope} {a₀ : Addr} {ccd : Value} {cl : List (Str × Addr)} {outer : List Env} {A₀ : Around} {base h₀ : Heap} {L : Addr} {m : Str → Option Value} {s : Shared} {Q : Value → Shared → Prop}
   {E : Value → Shared → Prop} {x dx : Addr} {k1 k2 k3 k4 k5 k6 t1 : Tok} {v2 v5 v6 : Value} {lg : Nat} {rest : Led} {k7 k8 t7 t8 : Tok} {il : Addr} {vs : List Value} {ns : List Int} {ep : Nat} {el : Addr} {ents : List Value} {ep2 : Nat} {h : Int} {th : Tok} {K : Nat}
   (hlg : lg < 10) (hi : IntsAre vs ns) (hlen : ns.length = 2 ^ lg) (hh0 : 0 ≤ h)
   (hK : ns.getD (wk lg h K).toNat 0 = -1) (hK' : ∀ j < K, ns.getD (wk lg h j).toNat 0 ≠ -1) (hneg : ∀ j < K, ns.getD (wk lg h j).toNat 0 = -2)
   (B : Below A₀ base outer h₀) (F : Fr h₀ L s.heap m) (X : (Mine.hd.heap_39 w.params).In h₀)
   (N : News h₀ L s.heap ((x, instObj 227 dx) :: (dx, dictS (tabEs w.params k1 k2 k3 k4 k5 k6 k7 k8 (.int lg t1) v2 (.ref il) (.ref el) v5 v6 (.int (2^lg) t7) (.int (2^lg-1) t8)) 8 #[none]) :: (il, listOf vs.toArray ep) :: (el, listOf ents.toArray ep2) :: rest))
   (T : Top Mine.hd.view_39 (looseW Mine.hd.view_39 [Str.ofString "_NOT_FOUND", Str.ofString "cached_property", Str.ofString "_HtKeys"]) mean mg mb h₀) (hk : cs.kind = .function) (hd : dp + 8 < recursionLimit) (hu : un + 80 < cLine)
   (hret : ∀ a h' tk gens', Fr h₀ L h' m → News h₀ L h' ((x, instObj 227 dx) :: (dx, dictS (tabEs w.params k1 k2 k3 k4 k5 k6 k7 k8 (.int lg t1) v2 (.ref il) (.ref el) v5 v6 (.int (2^lg) t7) (.int (2^lg-1) t8)) 8 #[none]) :: (il, listOf vs.toArray ep) :: (el, listOf ents.toArray ep2) :: rest) → (AllBare s.gens → AllBare gens') →
     (∀ tk (Q' : Value → Shared → Prop) (E' : Value → Shared → Prop), (∀ l n h'' g'' tk', Fr h₀ L h'' m → News h₀ L h'' ((l, listOf #[] n) :: (x, instObj 227 dx) :: (dx, dictS (tabEs w.params k1 k2 k3 k4 k5 k6 k7 k8 (.int lg t1) v2 (.ref il) (.ref el) v5 v6 (.int (2^lg) t7) (.int (2^lg-1) t8)) 8 #[none]) :: (il, listOf vs.toArray ep) :: (el, listOf ents.toArray ep2) :: rest) → (AllBare gens' → AllBare g'') → Q' (.ref l) { s with heap := h'', gens := g'', toks := tk' }) →
       wpAny (model PySem.Challenge.rw_fc5025_04.row.prog w) (ktrTop dp un gd cn cs L a₀ ccd cl outer) (call (.type "list") [.ref a]) Q' E' { s with heap := h', gens := gens', toks := tk }) →
     Q (.ref a) { s with heap := h', gens := gens', toks := tk }) :
   wpAny (model PySem.Challenge.rw_fc5025_04.row.prog w) (ktrTop dp un gd cn cs L a₀ ccd cl outer) (call (.ref 147) [.ref x, .int h th]) Q E s := by
  have w0 := (wk_range (n := lg) (h := h) 0).1
  have w1 := (wk_range (n := lg) (h := h) 0).2
  have w2 : wk lg h 0 < (ns.length : Int) := by rw [len_cast hlen]; exact w1
  have p0 := pow_le_1024 (n := lg) (by omega)
  dsimp only [wk] at w0 w1 w2
  w_top off; revert B F X N T; k_fill; intro B F X N T
  k_dflt (refine' gen_make (args := ⟨[.ref x, .int h th], []⟩) (K := Mine.hd.heap_39 w.params) ?k1 ?k2 ?k3 ?k4 ?k6 ?k7 ?k8 ?k9 ?kB ?_ ?c2 ?c3 ?c4 ?c5; (case k1 => k_asm); (case k2 => k_asm); (case k3 => k_asm); (case k4 => k_asm); (case k6 => k_is); (case k7 => k_is); (case k8 => ktr_room); (case k9 => first | exact BindsTo.of_eq rfl | exact binds_K (by k_in) rfl (by k_is) rfl rfl rfl); (case c5 => decide); (case kB => exact locs rfl); (case c2 => exact rfl); (case c3 => exact rfl); (case c4 => exact rfl); k_whole)
  intro a h' tk gens' F' N' G
  have hbg : AllBare s.gens → AllBare gens' := fun h => by
    rw [G.gens]; intro y hy
    rcases Array.mem_push.mp hy with h1 | rfl
    · exact h y h1
    · rfl
  refine hret _ _ _ _ F' N' hbg ?_
  intro tk2 Q' E' hQ'
  refine list_gen_empty (L' := s.heap.objs.size) (g := s.gens.size) rfl (by ktr_room) (T.nolimit.keeps F'.keep) G.isGen (by show gens'[_]? = _; rw [G.gens]; exact Array.getElem?_push_size) (by rw [G.a_]; exact Nat.succ_ne_self _) (by show _ < h'.objs.size; rw [G.size]; exact Nat.lt_succ_of_lt (Nat.lt_succ_self _)) ?run ?hQ
  case hQ =>
    rintro ⟨h2, g2, d2, t2, o2⟩ n9 GL hS
    obtain ⟨e1, e2, e3, e4⟩ := GL
    dsimp only at e1 e2 e3 e4 hS ⊢
    subst e3 e4
    have hL0 : s.heap.objs.size ≠ L := fun e => by have := F.ns.lt; rw [← e] at this; exact absurd this (Nat.lt_irrefl _)
    have hold : ∀ b, (∃ o, s.heap.get? b = some o) → b ≠ s.heap.objs.size := fun b ⟨o, e⟩ => Nat.ne_of_lt (Heap.lt_size e)
    have F2 : Fr h₀ L h2 m := ⟨F'.ns.at' fun o e => e1 _ _ (Ne.symm hL0) e, fun b o e => e1 b o (hold b ⟨o, F.keep _ _ e⟩) (F'.keep b o e), F'.above⟩
    refine hQ' _ n9 _ _ _ F2 (List.forall_mem_cons.mpr ⟨⟨hS, ?_, ?_⟩, fun p hp => ⟨e1 _ _ (hold _ ⟨_, (N p hp).1⟩) (N' p hp).1, (N' p hp).2⟩⟩) e2
    · have := F'.ns.lt; exact fun e => absurd (e ▸ this) (Nat.lt_irrefl _)
    · cases e : h₀.get? h'.objs.size with
      | none => rfl
      | some o => exact absurd (Heap.lt_size (F'.keep _ _ e)) (Nat.lt_irrefl _)
  intro s₁ hk₁
  have hk2 : ∀ b o, s.heap.get? b = some o → s₁.heap.get? b = some o := fun b o e => hk₁ _ _ (G.keep _ _ e)
  obtain ⟨R, FR, NR, hR⟩ := gen_frame (((x, instObj 227 dx) :: (dx, dictS (tabEs w.params k1 k2 k3 k4 k5 k6 k7 k8 (.int lg t1) v2 (.ref il) (.ref el) v5 v6 (.int (2^lg) t7) (.int (2^lg-1) t8)) 8 #[none]) :: (il, listOf vs.toArray ep) :: (el, listOf ents.toArray ep2) :: rest).map (·.1)) (s₀ := s.heap) (L' := s.heap.objs.size) rfl (G.ns.at' fun o e => hk₁ _ _ e) hk2
  obtain ⟨-, -, st, -⟩ := groundX (A := ktrTop dp un gd cn cs L a₀ ccd cl outer) (R := fun _ _ => True) B F N rfl rfl hk
  have X9 := X.keeps st
  have T9 := T.keeps st
  have NL : News (hideAll s.heap (((x, instObj 227 dx) :: (dx, dictS (tabEs w.params k1 k2 k3 k4 k5 k6 k7 k8 (.int lg t1) v2 (.ref il) (.ref el) v5 v6 (.int (2^lg) t7) (.int (2^lg-1) t8)) 8 #[none]) :: (il, listOf vs.toArray ep) :: (el, listOf ents.toArray ep2) :: rest).map (·.1))) s.heap.objs.size s₁.heap ((x, instObj 227 dx) :: (dx, dictS (tabEs w.params k1 k2 k3 k4 k5 k6 k7 k8 (.int lg t1) v2 (.ref il) (.ref el) v5 v6 (.int (2^lg) t7) (.int (2^lg-1) t8)) 8 #[none]) :: (il, listOf vs.toArray ep) :: (el, listOf ents.toArray ep2) :: rest ++ R) := by
    intro p hp
    rcases List.mem_append.mp hp with h1 | h1
    · exact ⟨hk2 _ _ (N p h1).1, Nat.ne_of_lt (Heap.lt_size (N p h1).1), hideAll_none _ (List.mem_map_of_mem h1)⟩
    · exact NR p h1
  have hFk := FR.keep
  clear hQ' hret B F N F' N' T X NR G hbg
  generalize hideAll s.heap (((x, instObj 227 dx) :: (dx, dictS (tabEs w.params k1 k2 k3 k4 k5 k6 k7 k8 (.int lg t1) v2 (.ref il) (.ref el) v5 v6 (.int (2^lg) t7) (.int (2^lg-1) t8)) 8 #[none]) :: (il, listOf vs.toArray ep) :: (el, listOf ents.toArray ep2) :: rest).map (·.1)) = hb at *
  generalize s.heap.objs.size = L9 at *
  dsimp only [List.cons_append] at NL
  (try k_fold)
  k_steps
  refine Hold.mk ?_
  rename Fr _ _ _ _ => lF
  rename News _ _ _ _ => lN
  refine ksw_while (σ := Nat × Tok × Tok × Tok) (fun _ => (x, instObj 227 dx) :: (dx, dictS (tabEs w.params k1 k2 k3 k4 k5 k6 k7 k8 (.int lg t1) v2 (.ref il) (.ref el) v5 v6 (.int (2^lg) t7) (.int (2^lg-1) t8)) 8 #[none]) :: (il, listOf vs.toArray ep) :: (el, listOf ents.toArray ep2) :: rest ++ R)
      (fun c => [(Str.ofString "ix", .int (ns.getD (wk lg h c.1).toNat 0) c.2.1), (Str.ofString "i", .int (wk lg h c.1) c.2.2.1), (Str.ofString "perturb", .int (pt h c.1) c.2.2.2)]) (fun _ => True) [] (fun c => c.1 ≤ K) (fun c => K - c.1) (0, _, _, _) lF lN trivial
      (List.forall_mem_cons.mpr ⟨rfl, List.forall_mem_cons.mpr ⟨rfl, List.forall_mem_cons.mpr ⟨rfl, List.forall_mem_nil _⟩⟩⟩) (Nat.zero_le _) ?_
  clear lF lN
  rintro ⟨k, tk1, tk2, tk3⟩ u hh tkk - hkK F N
  dsimp only at hkK N ⊢
  dsimp only [kstB] at F
  have r0 := (wk_range (n := lg) (h := h) k).1
  have r1 := (wk_range (n := lg) (h := h) k).2
  have r2 : wk lg h k < (ns.length : Int) := by rw [len_cast hlen]; exact r1
  have p0 := pow_le_1024 (n := lg) (by omega)
  have q0 := (wk_range (n := lg) (h := h) (k + 1)).1
  have q1 := (wk_range (n := lg) (h := h) (k + 1)).2
  have q2 : wk lg h (k + 1) < (ns.length : Int) := by rw [len_cast hlen]; exact q1
  dsimp only [wk, pt] at q0 q1 q2
  dsimp only [List.cons_append] at N
  (try k_fold)
  k_steps
  all_goals first
    | (have hne : k ≠ K := by rintro rfl; contradiction
       refine Hold.mk ?_
       rename Fr _ _ _ _ => eF
       rename News _ _ _ _ => eN
       exact ksw_end (k + 1, _, _, _) eF eN (fun _ h => h) trivial (List.forall_mem_cons.mpr ⟨rfl, List.forall_mem_cons.mpr ⟨rfl, List.forall_mem_cons.mpr ⟨rfl, List.forall_mem_nil _⟩⟩⟩) (by ksw_same) (by show k + 1 ≤ K; omega) (by show K - (k + 1) < K - k; omega))
    | (exfalso
       have hne : k ≠ K := by rintro rfl; contradiction
       have h5 := hneg k (by omega)
       contradiction)
    | (rename Fr _ _ _ _ => eF
       rename News _ _ _ _ => eN
       rename_i b9 o9 n9 e9
       show hh.get? b9 = some o9
       cases e8 : hb.get? b9 with
       | some o8 =>
         have e7 := hFk _ _ e8
         rw [e9] at e7; cases e7
         exact eF.keep _ _ e8
       | none => exact (eN (b9, o9) (List.mem_append_right ((x, instObj 227 dx) :: (dx, dictS (tabEs w.params k1 k2 k3 k4 k5 k6 k7 k8 (.int lg t1) v2 (.ref il) (.ref el) v5 v6 (.int (2^lg) t7) (.int (2^lg-1) t8)) 8 #[none]) :: (il, listOf vs.toArray ep) :: (el, listOf ents.toArray ep2) :: rest) (hR _ _ n9 e8 e9))).1)
end Mine
end

section
open PySem PySem.W PySem.Calls PyProof.Rows
namespace Mine
set_option maxRecDepth 100000 in
set_option maxHeartbeats 8000000 in
def lawS : { x : Arguments × List Stmt × Scope // PySem.Challenge.rw_fc5025_04.row.prog.theDef (Str.ofString "law") = some x } := ⟨_, rfl⟩
end Mine
end

section
open PySem PySem.W PySem.Calls PyProof.Rows
namespace Mine
/-- the tail's walk, not reduced -/
def ty (s : Int) : Nat → Int
  | 0 => s
  | k + 1 => ty s k * 5 + 1
theorem ty_add (s : Int) (k : Nat) : ∀ m, ty s (k + m) = 5 ^ m * ty s k + ty 0 m
  | 0 => by simp [ty]
  | m + 1 => by
    show ty s (k + m) * 5 + 1 = 5 ^ (m + 1) * ty s k + (ty 0 m * 5 + 1)
    rw [ty_add s k m, Int.pow_succ]; grind
theorem five (m : Nat) : (5 : Int) ^ m = 4 * ty 0 m + 1 := by
  induction m with
  | zero => rfl
  | succ m ih => rw [Int.pow_succ, ih]; show _ = 4 * (ty 0 m * 5 + 1) + 1; omega
theorem ty_two (n : Nat) : ∃ r : Int, ty 0 (2 ^ n) = 2 ^ n * (2 * r + 1) := by
  induction n with
  | zero => exact ⟨0, rfl⟩
  | succ n ih =>
    obtain ⟨r, hr⟩ := ih
    have e : ty 0 (2 ^ (n + 1)) = 2 * ty 0 (2 ^ n) * (2 * ty 0 (2 ^ n) + 1) := by
      have h1 : (2 : Nat) ^ (n + 1) = 2 ^ n + 2 ^ n := by rw [Nat.pow_succ]; omega
      rw [h1, ty_add, five]; grind
    refine ⟨r + 2 * ty 0 (2 ^ n) * r + ty 0 (2 ^ n), ?_⟩
    rw [e, Int.pow_succ]
    generalize ty 0 (2 ^ n) = y at *
    grind
theorem reach (s t : Int) : ∀ n : Nat, ∃ (k : Nat) (q : Int), ty s k - t = 2 ^ n * q
  | 0 => ⟨0, s - t, by simp [ty]⟩
  | n + 1 => by
    obtain ⟨k, q, h⟩ := reach s t n
    obtain ⟨r, hr⟩ := ty_two n
    rcases (by omega : q % 2 = 0 ∨ q % 2 = 1) with e | e
    · refine ⟨k, q / 2, ?_⟩
      have : q = 2 * (q / 2) := by omega
      rw [h, Int.pow_succ]
      generalize q / 2 = p at *
      subst this; grind
    · refine ⟨k + 2 ^ n, 2 * (2 * r + 1) * ty s k + q / 2 + r + 1, ?_⟩
      have hq : q = 2 * (q / 2) + 1 := by omega
      rw [ty_add, five, hr, Int.pow_succ]
      generalize q / 2 = p at *
      generalize (2 : Int) ^ n = z at *
      generalize ty s k = y at *
      subst hq
      have : y = t + z * (2 * p + 1) := by omega
      grind
theorem tl_ty {n : Nat} {s : Int} (h0 : 0 ≤ s) (h1 : s < 2 ^ n) : ∀ k, tl n s k = ty s k % 2 ^ n
  | 0 => (Int.emod_eq_of_lt h0 h1).symm
  | k + 1 => by
    show (tl n s k * 5 + 1) % 2 ^ n = (ty s k * 5 + 1) % 2 ^ n
    rw [tl_ty h0 h1 k, Int.add_emod, Int.mul_emod, Int.emod_emod, ← Int.mul_emod, ← Int.add_emod]
theorem tl_reach {n : Nat} {s t : Int} (h0 : 0 ≤ s) (h1 : s < 2 ^ n) (t0 : 0 ≤ t) (t1 : t < 2 ^ n) : ∃ k, tl n s k = t := by
  obtain ⟨k, q, h⟩ := reach s t n
  refine ⟨k, ?_⟩
  rw [tl_ty h0 h1, show ty s k = t + 2 ^ n * q by omega, Int.add_mul_emod_self_left, Int.emod_eq_of_lt t0 t1]
theorem pt_ends (h : Int) (h0 : 0 ≤ h) : ∃ k, pt h k = 0 := by
  have key : ∀ (b : Nat) (k : Nat), pt h k ≤ b → ∃ k, pt h k = 0 := by
    intro b
    induction b with
    | zero => intro k hk; exact ⟨k, by have := pt_nonneg h0 k; omega⟩
    | succ b ih =>
      intro k hk
      have h1 := pt_nonneg h0 k
      by_cases hz : pt h k = 0
      · exact ⟨k, hz⟩
      · refine ih (k + 1) ?_
        show pt h k / 32 ≤ b
        omega
  exact key h.toNat 0 (by show h ≤ _; omega)
theorem wk_reach {n : Nat} {h t : Int} (h0 : 0 ≤ h) (t0 : 0 ≤ t) (t1 : t < 2 ^ n) : ∃ k, wk n h k = t := by
  obtain ⟨k, hk⟩ := pt_ends h h0
  obtain ⟨j, hj⟩ := tl_reach (n := n) (wk_range k).1 (wk_range (h := h) k).2 t0 t1
  exact ⟨k + j, by rw [wk_tl hk]; exact hj⟩
theorem least {p : Nat → Prop} (h : ∃ k, p k) : ∃ k, p k ∧ ∀ j < k, ¬ p j := by
  obtain ⟨k, hk⟩ := h
  induction k using Nat.strongRecOn with
  | ind k ih =>
    by_cases hj : ∃ j, j < k ∧ p j
    · obtain ⟨j, h1, h2⟩ := hj; exact ih j h1 h2
    · exact ⟨k, hk, fun j h1 h2 => hj ⟨j, h1, h2⟩⟩
end Mine
end

section
open PySem PySem.W PySem.Calls PyProof.Rows
namespace Mine
section
variable {prog : Program} {w : World} {Γ : Ctx} {A : Around} {s : Shared} {env : Env} {R : Result → Shared → Prop}

theorem atLoop_listP {σ : Type} {h₀ : Heap} {x : Str} {px ip : Pos} {body : List Stmt} {Q : Flow → Shared → Prop} {m₀ : Str → Option Value} {l : Addr} {items : Array Value} {ep : Nat}
    (Led : σ → List (Addr × Obj)) (ps : σ → List (Str × Value)) (stored : List Str) (P : Nat → σ → Prop) (c₀ : σ) (hΓ : InOK Γ A) (hh : A.handled = none) (hx : env.kindOf x = some .local)
    (hpk : (env.scope.kind == .class || (env.scope.kind == .module && env.locals != env.globals)) = false)
    (F : Fr h₀ env.locals s.heap m₀) (N : News h₀ env.locals s.heap (Led c₀)) (hl : ∀ c, (l, listOf items ep) ∈ Led c) (hk : ∀ p ∈ ps c₀, m₀ p.1 = some p.2) (hp : P 0 c₀)
    (step : ∀ i (c : σ) (u : Str → Option Value) h g tk I o v Γ', InOK Γ' A → items[i]? = some v → P i c → (AllBare s.gens → AllBare g) →
      (∀ p ∈ Led c, p.1 ≠ I) → o.cls = .type "list_iterator" → Fr h₀ env.locals h (fun y => if y = x then some v else kstB (fun z => if stored.contains z then u z else m₀ z) (ps c) y) → News h₀ env.locals h (Led c ++ [(I, o)]) →
      wpAt (model prog w) Γ' (execs body env) (AtPost h₀ env.locals { s with gens := g } Led ps x stored m₀ (P (i + 1)) (I, o) Q) { s with heap := h, gens := g, toks := tk })
    (done : ∀ (c : σ) (u : Str → Option Value) h g tk, P items.size c → (AllBare s.gens → AllBare g) → Fr h₀ env.locals h (fun y => if y = x then u y else kstB (fun z => if stored.contains z then u z else m₀ z) (ps c) y) → News h₀ env.locals h (Led c) → Q .next { s with heap := h, gens := g, toks := tk })
    (hcls : ∀ i (c : σ), P i c → ∀ p ∈ Led c, p.2.cls ≠ .type "list_iterator" ∨ ∀ x, p.2.data ≠ .fields x) :
    AtLoop (model prog w) Γ env (.Name x px) body ip (.ref l) Q s := by
  unfold AtLoop
  have isl : ∀ {h : Heap} {c : σ} {nx : List (Addr × Obj)}, News h₀ env.locals h nx → (∀ p ∈ Led c, p ∈ nx) → h.IsList l items := fun {h c nx} N hs => ⟨_, (N _ (hs _ (hl c))).1, rfl, ep, rfl⟩
  refine at_bind (at_standAt (at_bind (at_holding (at_any hΓ (wpAny_pyIter_list (isl N fun _ h => h) ?_)))))
  refine at_runOwn fun p => ?_
  have hIL : s.heap.objs.size ≠ env.locals := fun e => by
    have := F.ns.lt
    rw [← e] at this; exact absurd this (Nat.lt_irrefl _)
  have hI0 : h₀.get? s.heap.objs.size = none := by
    cases e : h₀.get? s.heap.objs.size with
    | none => rfl
    | some o => exact absurd (Heap.lt_size (F.keep _ _ e)) (Nat.lt_irrefl _)
  refine codeAt_forLoop rfl (hΓ.enter _ p)
    (fun k s' => ∃ i c h' g' tk m' o, s' = { s with heap := h', gens := g', toks := tk } ∧ (AllBare s.gens → AllBare g') ∧ h'.IsListIter s.heap.objs.size l i ∧ h'.get? s.heap.objs.size = some o ∧ Fr h₀ env.locals h' m' ∧ News h₀ env.locals h' (Led c) ∧
      (∀ p ∈ ps c, m' p.1 = some p.2) ∧ (∀ z, z ≠ x → (∀ p ∈ ps c, z ≠ p.1) → stored.contains z = false → m' z = m₀ z) ∧ P i c ∧ i ≤ items.size ∧ k = items.size + 1 - i) ?_ (items.size + 1) ?_
  · rintro k s' ⟨i, c, h', g', tk, m', o, rfl, hg, hit, ho, F', N', hk', hr', hP, hi, rfl⟩ hΓ'
    have hocls : o.cls = .type "list_iterator" ∧ ∃ x, o.data = .fields x := by
      obtain ⟨o', e1, e2, e3⟩ := hit
      rw [ho] at e1; cases e1; exact ⟨e2, _, e3⟩
    have hne : ∀ p ∈ Led c, p.1 ≠ s.heap.objs.size := fun p hp e => by
      have h1 := (N' _ hp).1
      rw [e, ho] at h1
      cases h1
      rcases hcls i c hP p hp with h9 | h9
      · exact h9 hocls.1
      · obtain ⟨x9, hx9⟩ := hocls.2; exact h9 x9 hx9
    have hli : l ≠ s.heap.objs.size := hne _ (hl c)
    by_cases hlt : i < items.size
    · refine wpAny_pyNext_list_item hit (isl N' fun _ h => h) (x := items[i]) (by simp [hlt]) fun h₁ hit₁ hs₁ => ?_
      have keep₁ : ∀ b o, b ≠ s.heap.objs.size → h'.get? b = some o → h₁.get? b = some o := fun b o hb e => hs₁.extBut b o hb e
      have F₁ : Fr h₀ env.locals h₁ m' := ⟨F'.ns.at' fun o e => keep₁ _ o (Ne.symm hIL) e, fun b o e => keep₁ b o (fun q => by rw [q, hI0] at e; cases e) (F'.keep b o e), F'.above⟩
      have N₁ : News h₀ env.locals h₁ (Led c) := fun p hp => ⟨keep₁ _ _ (hne p hp) (N' p hp).1, (N' p hp).2⟩
      refine wpAny_storeName_local hx F₁.ns (fun h₂ hn₂ hs₂ => ?_) hpk
      have F₂ := F₁.set hn₂ hs₂
      have N₂ := N₁.set hs₂
      have hi₂ : h₂.IsListIter s.heap.objs.size l (i + 1) := hit₁.at fun o e => (hs₂.2 _ hIL).trans e
      obtain ⟨o₂, ho₂, hc₂, hd₂⟩ := id hi₂
      have F₃ : Fr h₀ env.locals h₂ (fun y => if y = x then some items[i] else kstB (fun z => if stored.contains z then m' z else m₀ z) (ps c) y) := by
        have em : (fun y => if y = x then some items[i] else kstB (fun z => if stored.contains z then m' z else m₀ z) (ps c) y) = fun y => if y = x then some items[i] else m' y := by
          funext y
          by_cases hy : y = x
          · simp [hy]
          · rw [if_neg hy, if_neg hy]
            refine kstB_eq hk' fun hn => ?_
            show (if stored.contains y = true then m' y else m₀ y) = m' y
            cases h3 : stored.contains y with
            | true => simp
            | false => simp only [Bool.false_eq_true, if_false]; exact (hr' y hy hn h3).symm
        rw [em]; exact F₂
      refine at_mono (step i c m' h₂ g' _ s.heap.objs.size o₂ items[i] _ hΓ' (by simp [hlt]) hP hg hne hc₂ F₃ (fun p hp => by
        rcases List.mem_append.mp hp with h1 | h1
        · exact N₂ p h1
        · rw [List.mem_singleton.mp h1]; exact ⟨ho₂, hIL, hI0⟩)) fun f s₃ h₃ => ?_
      have nx : AtEnd h₀ env.locals { s with gens := g' } Led ps x stored m₀ (P (i + 1)) (s.heap.objs.size, o₂) s₃ → ∃ m, m < items.size + 1 - i ∧ ∃ i c h' g' tk m' o, s₃ = { s with heap := h', gens := g', toks := tk } ∧ (AllBare s.gens → AllBare g') ∧ h'.IsListIter s.heap.objs.size l i ∧ h'.get? s.heap.objs.size = some o ∧ Fr h₀ env.locals h' m' ∧ News h₀ env.locals h' (Led c) ∧
          (∀ p ∈ ps c, m' p.1 = some p.2) ∧ (∀ z, z ≠ x → (∀ p ∈ ps c, z ≠ p.1) → stored.contains z = false → m' z = m₀ z) ∧ P i c ∧ i ≤ items.size ∧ m = items.size + 1 - i := by
        rintro ⟨c', h₄, g₄, tk₄, m₄, n₄, rfl, hg₄, F₄, N₄, ho₄, hn₄, hk₄, hr₄, hp₄⟩
        have e4 := (N₄ _ ho₄).1
        exact ⟨items.size + 1 - (i + 1), by omega, i + 1, c', h₄, g₄, tk₄, m₄, o₂, rfl, fun h => hg₄ (hg h), ⟨o₂, e4, hc₂, hd₂⟩, e4, F₄, fun p hp => N₄ p (hn₄ p hp), hk₄, hr₄, hp₄, hlt, rfl⟩
      cases f with
      | next => exact nx h₃
      | cont => exact nx h₃
      | brk => exact h₃
      | ret v => exact h₃
    · have hin : i = items.size := by omega
      subst hin
      refine wpAny_pyNext_list_end (by exact hh) hit (isl N' fun _ h => h) (by simp) fun h₁ hs₁ => ?_
      have keep₁ : ∀ b o, b ≠ s.heap.objs.size → h'.get? b = some o → h₁.get? b = some o := fun b o hb e => hs₁ b o hb e
      have F₁ : Fr h₀ env.locals h₁ m' := ⟨F'.ns.at' fun o e => keep₁ _ o (Ne.symm hIL) e, fun b o e => keep₁ b o (fun q => by rw [q, hI0] at e; cases e) (F'.keep b o e), F'.above⟩
      have N₁ : News h₀ env.locals h₁ (Led c) := fun p hp => ⟨keep₁ _ _ (hne p hp) (N' p hp).1, (N' p hp).2⟩
      refine done c m' h₁ g' tk hP hg ?_ N₁
      have em : (fun y => if y = x then m' y else kstB (fun z => if stored.contains z then m' z else m₀ z) (ps c) y) = m' := by
        funext y
        by_cases hy : y = x
        · simp [hy]
        · rw [if_neg hy]
          refine kstB_eq hk' fun hn => ?_
          show (if stored.contains y = true then m' y else m₀ y) = m' y
          cases h3 : stored.contains y with
          | true => simp
          | false => simp only [Bool.false_eq_true, if_false]; exact (hr' y hy hn h3).symm
      rw [em]; exact F₁
  · refine ⟨0, c₀, _, s.gens, s.toks, m₀, _, rfl, fun h => h, ⟨_, Heap.get?_push_size _ rfl, rfl, rfl⟩, Heap.get?_push_size _ rfl, F.keeps fun b o e => Heap.get?_push_of_some _ e, fun p hp => ⟨Heap.get?_push_of_some _ (N p hp).1, (N p hp).2⟩, hk, fun _ _ _ _ => rfl, hp, Nat.zero_le _, rfl⟩

end
end Mine
end

section
open PySem PySem.W PySem.Calls PyProof.Rows
namespace Mine
local macro_rules | `(tactic| walk_at "getAttr ref") => `(tactic| (k_here; k_dflt (refine' get_lateS ?k1 ?k2 ?k3 ?k4 ?k5 ?k6 ?k7 ?k8 ?k9 ?k10 ?_; (case k1 => k_asm); (case k2 => k_asm); (case k3 => k_inst); (case k4 => k_is); (case k5 => k_is); (case k6 => k_is); (case k7 => k_is); (case k8 => k_is); (case k9 => decide +kernel); (case k10 => k_get))))
local macro_rules | `(tactic| walk_at "getAttr ref") => `(tactic| (k_here; k_dflt (first
  | refine' get_shadowS ?k1 ?k2 ?k3 ?k4 ?k5 ?k6 ?k7 ?k8 ?k9 ?k10 ?_; (case k1 => k_asm); (case k2 => k_asm); (case k3 => k_inst); (case k4 => k_is); (case k5 => k_is); (case k6 => k_is); (case k7 => k_is); (case k8 => k_is); (case k9 => k_get); (case k10 => k_handed); k_whole
  | refine' get_ownS ?k1 ?k2 ?k3 ?k4 ?k5 ?k6 ?k7 ?k8 ?k9 ?_; (case k1 => k_asm); (case k2 => k_asm); (case k3 => k_inst); (case k4 => k_is); (case k5 => k_is); (case k6 => k_is); (case k7 => k_is); (case k8 => k_get); (case k9 => k_handed); k_whole)))
local macro_rules | `(tactic| walk_at "getAttr ref") => `(tactic| (k_here; (with_reducible show wpAny _ _ (getAttr (Value.ref _) (PySem.Str.ofString "__dict__") _) _ _ _); k_dflt (refine' get_dictS ?k1 ?k2 ?k3 ?k4 ?k5 ?k6 ?k7 ?k8 ?k9 ?k10 ?k11 ?k12 ?k13 ?k14 ?_; (case k1 => k_asm); (case k2 => k_asm); (case k3 => k_asm); (case k4 => k_inst); (case k5 => k_is); (case k6 => k_is); (case k7 => k_is); (case k8 => k_is); (case k9 => k_is); (case k10 => k_is); (case k11 => k_is); (case k12 => k_is); (case k13 => k_is); (case k14 => k_upd); k_whole; intro h' F' N'; (try k_sweep))))
local macro_rules | `(tactic| walk_at "getMethod ref") => `(tactic| (k_here; k_dflt (first
  | refine' method_instS ?k1 ?k2 ?k3 ?k4 ?k5 ?k6 ?k7 ?_; (case k1 => k_asm); (case k2 => k_asm); (case k3 => k_inst); (case k4 => k_is); (case k5 => k_is); (case k6 => k_is); (case k7 => k_get); k_whole
  | refine' method_getS ?k1 ?k2 ?_; (case k1 => k_asm); (case k2 => k_mem); k_whole)))
local macro_rules | `(tactic| walk_at "setAttr ref") => `(tactic| (k_here; k_dflt (refine' set_dictS ?k1 ?k2 ?k3 ?k4 ?k5 ?k6 ?k7 ?k8 ?k9 ?k10 ?k11 ?k12 ?k13 ?_; (case k1 => k_asm); (case k2 => k_asm); (case k3 => k_asm); (case k4 => k_inst); (case k5 => exact rfl); (case k6 => k_is); (case k7 => k_is); (case k8 => k_is); (case k9 => k_is); (case k10 => k_get); (case k11 => k_put); (case k12 => k_upd); (case k13 => exact Nat.le_of_ble_eq_true rfl); k_whole; intro h' F' N'; (try k_sweep))))
local macro_rules | `(tactic| walk_at "call builtin:dict.get") => `(tactic| (k_here; k_dflt (refine' call_get_missS ?k1 ?k2 ?k3 ?k4 ?k5 ?_; (case k1 => k_asm); (case k2 => k_mem); (case k3 => assumption); (case k4 => k_keys); (case k5 => k_get); k_whole)))
local macro_rules | `(tactic| walk_at "setItem ref str") => `(tactic| (k_here; k_dflt (refine' setItem_newS ?k1 ?k2 ?k3 ?k4 ?k5 ?k6 ?_; (case k1 => k_asm); (case k2 => k_asm); (case k3 => k_upd); (case k4 => k_keys); (case k5 => k_get); (case k6 => exact Nat.le_of_ble_eq_true rfl); k_whole; intro h' F' N'; (try dsimp only [List.cons_append, List.nil_append] at N'); (try k_sweep))))
local macro_rules | `(tactic| walk_at "exec While") => `(tactic| (k_here; refine Hold.out ?_))
local macro_rules | `(tactic| walk_at "KswEnd") => `(tactic| (refine Hold.out ?_))
local macro_rules | `(tactic| walk_at "binaryOp BitAnd int int") => `(tactic| first | with_reducible refine and_mask ?_ | with_reducible refine and_mask' ?_)
local macro_rules | `(tactic| walk_at "call ref") => `(tactic| (k_here; k_dflt (refine wpAny_call ?_; refine' code_def ?k1 ?k2 ?k3 ?k4 ?k5 ?kA ?kF ?kK ?k6 ?k7 ?k8 ?k9 ?kB ?_ ?c2 ?c3 ?c4 ?c5; (case kA => exact rfl); (case kF => exact rfl); (case kK => first | exact rfl | assumption); (case k1 => k_asm); (case k2 => k_asm); (case k3 => k_asm); (case k4 => k_asm); (case k5 => k_asm); (case k6 => k_is); (case k7 => k_is); (case k8 => ktr_room); (case k9 => first | exact BindsTo.of_eq rfl | exact binds_K (by k_in) rfl (by k_is) rfl rfl rfl); (case c5 => decide); (case kB => exact locs rfl); (case c2 => exact rfl); (case c3 => exact rfl); (case c4 => exact rfl); k_whole; intro g' L' h' FG' F' N' B' X' T'; (try dsimp only); (try k_lift B'); (try k_fold))))
local macro_rules | `(tactic| walk_at "inplaceOp RShift int int") => `(tactic| with_reducible refine shr5 ?_)
local macro_rules | `(tactic| walk_at "binaryOp LShift int int") => `(tactic| (with_reducible refine shl_one ?a ?_; (case a => omega)))
local macro_rules | `(tactic| k_all) => `(tactic| assumption)
local macro_rules | `(tactic| walk_at "binaryOp Mult int int") => `(tactic| (with_reducible refine mul_int ?_ (IntMulOk.of_bits (by assumption) (by assumption))))
theorem find2 {w : World} {mean : ExcName → Option Value} {mg mb : Str → Option Value}
   {dp un : Nat} {gd : Option (List Code)} {cn : Str} {cs : Scope} {a : Addr} {ccd : Value} {cl : List (Str × Addr)} {outer : List Env} {A₀ : Around} {base h₀ : Heap} {L : Addr} {m : Str → Option Value} {s : Shared} {Q : Value → Shared → Prop}
   {E : Value → Shared → Prop} {x dx : Addr} {k1 k2 k3 k4 k5 k6 t1 : Tok} {v2 : Value} {lg : Nat} {rest : Led} {k7 k8 t7 t8 : Tok} {il : Addr} {vs : List Value} {ns : List Int} {ep : Nat} {el : Addr} {ents : List Value} {ep2 : Nat} {b : Bool} {h : Int} {th : Tok} {K : Nat}
   (hlg : lg < 10) (hi : IntsAre vs ns) (hlen : ns.length = 2 ^ lg) (hh0 : 0 ≤ h)
   (hK : ns.getD (wk lg h K).toNat 0 = -1) (hK' : ∀ j < K, ns.getD (wk lg h j).toNat 0 ≠ -1) (hneg : ∀ j < K, ns.getD (wk lg h j).toNat 0 < 0) (hlo : (dx == sysModules) = false) (hsep : ∀ p ∈ rest, p.1 ≠ dx) (hxd : @LT.lt Nat _ dx x) (hild : @LT.lt Nat _ il dx) (held : @LT.lt Nat _ el dx)
   (B : Below A₀ base outer h₀) (F : Fr h₀ L s.heap m) (X : (Mine.hd.heap_39 w.params).In h₀)
   (N : News h₀ L s.heap ((x, instObj 227 dx) :: (dx, dictS (tabEs w.params k1 k2 k3 k4 k5 k6 k7 k8 (.int lg t1) v2 (.ref il) (.ref el) .none (.bool b) (.int (2^lg) t7) (.int (2^lg-1) t8)) 8 #[none]) :: (il, listOf vs.toArray ep) :: (el, listOf ents.toArray ep2) :: rest))
   (T : Top Mine.hd.view_39 (looseW Mine.hd.view_39 [Str.ofString "_NOT_FOUND", Str.ofString "cached_property", Str.ofString "_HtKeys"]) mean mg mb h₀) (hk : cs.kind = .function) (hd : dp + 8 < recursionLimit) (hu : un + 80 < cLine)
   (hret : ∀ b' t h' tk', Fr h₀ L h' m → News h₀ L h' ((x, instObj 227 dx) :: (dx, dictS (tabEs w.params k1 k2 k3 k4 k5 k6 k7 k8 (.int lg t1) v2 (.ref il) (.ref el) .none (.bool b') (.int (2^lg) t7) (.int (2^lg-1) t8)) 8 #[none]) :: (il, listOf vs.toArray ep) :: (el, listOf ents.toArray ep2) :: rest) → Q (.int (wk lg h K) t) { s with heap := h', toks := tk' }) :
   wpAny (model PySem.Challenge.rw_fc5025_04.row.prog w) (ktrTop dp un gd cn cs L a ccd cl outer) (call (.ref 126) [.ref x, .int h th]) Q E s := by
  cases b with
  | true => exact fes_dup (rest := (el, listOf ents.toArray ep2) :: rest) (v4 := .ref el) hlg hi hlen hh0 hK hK' B F X N T hk (by omega) (by omega) fun t h' tk' F N => hret true t h' tk' F N
  | false => exact fes_gen hlg hi hlen hh0 hK hK' hneg hlo hsep hxd hild held B F X N T hk hd hu (fun _ _ t h' tk' F N => hret true t h' tk' F N) (fun _ t h' tk' F N => hret false t h' tk' F N)
theorem note2 {w : World} {mean : ExcName → Option Value} {mg mb : Str → Option Value}
   {dp un : Nat} {gd : Option (List Code)} {cn : Str} {cs : Scope} {a : Addr} {ccd : Value} {cl : List (Str × Addr)} {outer : List Env} {A₀ : Around} {base h₀ : Heap} {L : Addr} {m : Str → Option Value} {s : Shared} {Q : Value → Shared → Prop}
   {E : Value → Shared → Prop} {x dx : Addr} {k1 k2 k3 k4 k5 k6 t1 : Tok} {v2 : Value} {lg : Nat} {rest : Led} {k7 k8 t7 t8 : Tok} {il : Addr} {vs : List Value} {ns : List Int} {ep : Nat} {el : Addr} {ents : List Value} {ep2 : Nat} {b : Bool} {h : Int} {th : Tok} {K : Nat}
   (hlg : lg < 10) (hi : IntsAre vs ns) (hlen : ns.length = 2 ^ lg) (hh0 : 0 ≤ h)
   (hK : ns.getD (wk lg h K).toNat 0 = -1) (hK' : ∀ j < K, ns.getD (wk lg h j).toNat 0 ≠ -1) (hneg : ∀ j < K, ns.getD (wk lg h j).toNat 0 < 0) (hlo : (dx == sysModules) = false) (hsep : ∀ p ∈ rest, p.1 ≠ dx) (hxd : @LT.lt Nat _ dx x) (hild : @LT.lt Nat _ il dx) (held : @LT.lt Nat _ el dx)
   (B : Below A₀ base outer h₀) (F : Fr h₀ L s.heap m) (X : (Mine.hd.heap_39 w.params).In h₀)
   (N : News h₀ L s.heap ((x, instObj 227 dx) :: (dx, dictS (tabEs w.params k1 k2 k3 k4 k5 k6 k7 k8 (.int lg t1) v2 (.ref il) (.ref el) .none (.bool b) (.int (2^lg) t7) (.int (2^lg-1) t8)) 8 #[none]) :: (il, listOf vs.toArray ep) :: (el, listOf ents.toArray ep2) :: rest))
   (T : Top Mine.hd.view_39 (looseW Mine.hd.view_39 [Str.ofString "_NOT_FOUND", Str.ofString "cached_property", Str.ofString "_HtKeys"]) mean mg mb h₀) (hk : cs.kind = .function) (hd : dp + 6 < recursionLimit) (hu : un + 60 < cLine)
   (hret : ∀ b' t h' tk', Fr h₀ L h' m → News h₀ L h' ((x, instObj 227 dx) :: (dx, dictS (tabEs w.params k1 k2 k3 k4 k5 k6 k7 k8 (.int lg t1) v2 (.ref il) (.ref el) .none (.bool b') (.int (2^lg) t7) (.int (2^lg-1) t8)) 8 #[none]) :: (il, listOf vs.toArray ep) :: (el, listOf ents.toArray ep2) :: rest) → Q (.int (wk lg h K) t) { s with heap := h', toks := tk' }) :
   wpAny (model PySem.Challenge.rw_fc5025_04.row.prog w) (ktrTop dp un gd cn cs L a ccd cl outer) (call (.ref 133) [.ref x, .int h th]) Q E s :=
  noting hlg hi hlen hh0 hK hK' hneg hlo hsep hxd hild held B F X N T hk hd hu (fun _ _ t h' tk' F N => hret true t h' tk' F N) (fun _ t h' tk' F N => hret b t h' tk' F N)
set_option maxRecDepth 100000 in
set_option maxHeartbeats 8000000 in
theorem lawnum {w : World} {mean : ExcName → Option Value} {mg mb : Str → Option Value}
   {dp un : Nat} {gd : Option (List Code)} {cn : Str} {cs : Scope} {a : Addr} {ccd : Value} {cl : List (Str × Addr)} {outer : List Env} {A₀ : Around} {base h₀ : Heap} {L : Addr} {m : Str → Option Value} {s : Shared} {Q : Value → Shared → Prop}
   {E : Value → Shared → Prop} {xv : Int} {tx tz : Tok} {lg : Nat} {led : Led} (hb : Builtin.Int.intBits xv ≤ 2 ^ 20)
   (B : Below A₀ base outer h₀) (F : Fr h₀ L s.heap m) (X : (Mine.hd.heap_39 w.params).In h₀)
   (N : News h₀ L s.heap (led))
   (T : Top Mine.hd.view_39 (looseW Mine.hd.view_39 [Str.ofString "_NOT_FOUND", Str.ofString "cached_property", Str.ofString "_HtKeys"]) mean mg mb h₀) (hk : cs.kind = .function) (hd : dp + 2 < recursionLimit) (hu : un + 20 < cLine)
   (hret : ∀ r t h' tk', 0 ≤ r → Fr h₀ L h' m → News h₀ L h' led → Q (.int r t) { s with heap := h', toks := tk' }) :
   wpAny (model PySem.Challenge.rw_fc5025_04.row.prog w) (ktrTop dp un gd cn cs L a ccd cl outer) (call (.ref 242) [.int xv tx, .int (2 ^ lg) tz]) Q E s := by
  have hz0 := pow2_pos lg
  w_top off; revert B F X N T; k_fill; intro B F X N T
  refine wpAny_call ?_
  k_dflt (refine' code_def ?k1 ?k2 ?k3 ?k4 ?k5 ?kA ?kF ?kK ?k6 ?k7 ?k8 ?k9 ?kB ?_ ?c2 ?c3 ?c4 ?c5; (case kA => exact rfl); (case kF => exact rfl); (case kK => first | exact rfl | assumption); (case k1 => k_asm); (case k2 => k_asm); (case k3 => k_asm); (case k4 => k_asm); (case k5 => k_asm); (case k6 => k_is); (case k7 => k_is); (case k8 => ktr_room); (case k9 => first | exact BindsTo.of_eq rfl | exact binds_K (by k_in) rfl (by k_is) rfl rfl rfl); (case c5 => decide); (case kB => exact locs rfl); (case c2 => exact rfl); (case c3 => exact rfl); (case c4 => exact rfl); k_whole)
  intro g' L' h' FG' F' N' B' X' T'
  (try dsimp only)
  (try k_fold)
  k_steps
  all_goals first
    | (refine hret _ _ _ _ ?_ (by assumption) (by assumption); first | decide | (rw [Int.fmod_eq_emod_of_nonneg _ (by omega)]; exact Int.emod_nonneg _ (by omega)))
end Mine
end

section
open PySem PySem.W PySem.Calls PyProof.Rows
namespace Mine
local macro_rules | `(tactic| walk_at "getAttr ref") => `(tactic| (k_here; k_dflt (refine' get_lateS ?k1 ?k2 ?k3 ?k4 ?k5 ?k6 ?k7 ?k8 ?k9 ?k10 ?_; (case k1 => k_asm); (case k2 => k_asm); (case k3 => k_inst); (case k4 => k_is); (case k5 => k_is); (case k6 => k_is); (case k7 => k_is); (case k8 => k_is); (case k9 => decide +kernel); (case k10 => k_get))))
local macro_rules | `(tactic| walk_at "getAttr ref") => `(tactic| (k_here; k_dflt (first
  | refine' get_shadowS ?k1 ?k2 ?k3 ?k4 ?k5 ?k6 ?k7 ?k8 ?k9 ?k10 ?_; (case k1 => k_asm); (case k2 => k_asm); (case k3 => k_inst); (case k4 => k_is); (case k5 => k_is); (case k6 => k_is); (case k7 => k_is); (case k8 => k_is); (case k9 => k_get); (case k10 => k_handed); k_whole
  | refine' get_ownS ?k1 ?k2 ?k3 ?k4 ?k5 ?k6 ?k7 ?k8 ?k9 ?_; (case k1 => k_asm); (case k2 => k_asm); (case k3 => k_inst); (case k4 => k_is); (case k5 => k_is); (case k6 => k_is); (case k7 => k_is); (case k8 => k_get); (case k9 => k_handed); k_whole)))
local macro_rules | `(tactic| walk_at "getAttr ref") => `(tactic| (k_here; (with_reducible show wpAny _ _ (getAttr (Value.ref _) (PySem.Str.ofString "__dict__") _) _ _ _); k_dflt (refine' get_dictS ?k1 ?k2 ?k3 ?k4 ?k5 ?k6 ?k7 ?k8 ?k9 ?k10 ?k11 ?k12 ?k13 ?k14 ?_; (case k1 => k_asm); (case k2 => k_asm); (case k3 => k_asm); (case k4 => k_inst); (case k5 => k_is); (case k6 => k_is); (case k7 => k_is); (case k8 => k_is); (case k9 => k_is); (case k10 => k_is); (case k11 => k_is); (case k12 => k_is); (case k13 => k_is); (case k14 => k_upd); k_whole; intro h' F' N'; (try k_sweep))))
local macro_rules | `(tactic| walk_at "getMethod ref") => `(tactic| (k_here; k_dflt (first
  | refine' method_instS ?k1 ?k2 ?k3 ?k4 ?k5 ?k6 ?k7 ?_; (case k1 => k_asm); (case k2 => k_asm); (case k3 => k_inst); (case k4 => k_is); (case k5 => k_is); (case k6 => k_is); (case k7 => k_get); k_whole
  | refine' method_getS ?k1 ?k2 ?_; (case k1 => k_asm); (case k2 => k_mem); k_whole)))
local macro_rules | `(tactic| walk_at "setAttr ref") => `(tactic| (k_here; k_dflt (refine' set_dictS ?k1 ?k2 ?k3 ?k4 ?k5 ?k6 ?k7 ?k8 ?k9 ?k10 ?k11 ?k12 ?k13 ?_; (case k1 => k_asm); (case k2 => k_asm); (case k3 => k_asm); (case k4 => k_inst); (case k5 => exact rfl); (case k6 => k_is); (case k7 => k_is); (case k8 => k_is); (case k9 => k_is); (case k10 => k_get); (case k11 => k_put); (case k12 => k_upd); (case k13 => exact Nat.le_of_ble_eq_true rfl); k_whole; intro h' F' N'; (try k_sweep))))
local macro_rules | `(tactic| walk_at "call builtin:dict.get") => `(tactic| (k_here; k_dflt (refine' call_get_missS ?k1 ?k2 ?k3 ?k4 ?k5 ?_; (case k1 => k_asm); (case k2 => k_mem); (case k3 => assumption); (case k4 => k_keys); (case k5 => k_get); k_whole)))
local macro_rules | `(tactic| walk_at "setItem ref str") => `(tactic| (k_here; k_dflt (refine' setItem_newS ?k1 ?k2 ?k3 ?k4 ?k5 ?k6 ?_; (case k1 => k_asm); (case k2 => k_asm); (case k3 => k_upd); (case k4 => k_keys); (case k5 => k_get); (case k6 => exact Nat.le_of_ble_eq_true rfl); k_whole; intro h' F' N'; (try dsimp only [List.cons_append, List.nil_append] at N'); (try k_sweep))))
local macro_rules | `(tactic| walk_at "exec While") => `(tactic| (k_here; refine Hold.out ?_))
local macro_rules | `(tactic| walk_at "KswEnd") => `(tactic| (refine Hold.out ?_))
local macro_rules | `(tactic| walk_at "binaryOp BitAnd int int") => `(tactic| first | with_reducible refine and_mask ?_ | with_reducible refine and_mask' ?_)
local macro_rules | `(tactic| walk_at "call ref") => `(tactic| (k_here; k_dflt (refine wpAny_call ?_; refine' code_def ?k1 ?k2 ?k3 ?k4 ?k5 ?kA ?kF ?kK ?k6 ?k7 ?k8 ?k9 ?kB ?_ ?c2 ?c3 ?c4 ?c5; (case kA => exact rfl); (case kF => exact rfl); (case kK => first | exact rfl | assumption); (case k1 => k_asm); (case k2 => k_asm); (case k3 => k_asm); (case k4 => k_asm); (case k5 => k_asm); (case k6 => k_is); (case k7 => k_is); (case k8 => ktr_room); (case k9 => first | exact BindsTo.of_eq rfl | exact binds_K (by k_in) rfl (by k_is) rfl rfl rfl); (case c5 => decide); (case kB => exact locs rfl); (case c2 => exact rfl); (case c3 => exact rfl); (case c4 => exact rfl); k_whole; intro g' L' h' FG' F' N' B' X' T'; (try dsimp only); (try k_lift B'); (try k_fold))))
local macro_rules | `(tactic| walk_at "inplaceOp RShift int int") => `(tactic| with_reducible refine shr5 ?_)
local macro_rules | `(tactic| walk_at "binaryOp LShift int int") => `(tactic| (with_reducible refine shl_one ?a ?_; (case a => omega)))
local macro_rules | `(tactic| k_all) => `(tactic| assumption)
local macro_rules | `(tactic| walk_at "call ref") => `(tactic| (k_here; (with_reducible show wpAny _ _ (call (Value.ref 126) _) _ _ _); refine Hold.out ?_))
local macro_rules | `(tactic| walk_at "call ref") => `(tactic| (k_here; (with_reducible show wpAny _ _ (call (Value.ref 133) _) _ _ _); refine Hold.out ?_))
local macro_rules | `(tactic| walk_at "call ref") => `(tactic| (k_here; (with_reducible show wpAny _ _ (call (Value.ref 140) _) _ _ _); refine Hold.out ?_))
local macro_rules | `(tactic| walk_at "call ref") => `(tactic| (k_here; (with_reducible show wpAny _ _ (call (Value.ref 147) _) _ _ _); refine Hold.out ?_))
local macro_rules | `(tactic| walk_at "call ref") => `(tactic| (k_here; (with_reducible show wpAny _ _ (call (Value.ref 242) _) _ _ _); refine Hold.out ?_))
local macro_rules | `(tactic| walk_at "call type:list") => `(tactic| (k_here; (with_reducible show wpAny _ _ (call (Value.type _) [Value.ref _]) _ _ _); refine Hold.out ?_))
set_option maxRecDepth 100000 in
set_option maxHeartbeats 8000000 in
theorem stageD {w : World} {mean : ExcName → Option Value} {mg mb : Str → Option Value} {Γ : Ctx} {h₀ : Heap} {L fa cda : Addr} {m : Str → Option Value} {s : Shared} {Q : Flow → Shared → Prop} {x dx il el nl dl : Addr} {k1 k2 k3 k4 k5 k6 t1 tz tf tc : Tok} {v2 : Value} {lg : Nat} {vs ws ds : List Value} {ns ps : List Int} {ep ep2 ep3 ep4 : Nat} {co : Obj} {rest : Led} {fr : Int}
   (hlg : lg < 8) (hi : IntsAre vs ps) (hdi : IntsAre ds ps) (hw : IntsAre ws ns) (hn0 : 10 ≤ ns.length) (hn1 : ns.length ≤ 73) (hbits : ∀ n ∈ ns, Builtin.Int.intBits n ≤ 2 ^ 20) (hfr0 : 0 ≤ fr) (hfr1 : fr < 2 ^ lg) (hpl : ps.length = 2 ^ lg)
   (hps : ∀ k : Nat, k < 2 ^ lg → ps.getD k 0 = if (k : Int) = fr then -1 else -2) (hco : co.data = .cell (some (.int fr tc)))
   (hlo : (dx == sysModules) = false) (hxd : @LT.lt Nat _ dx x) (hild : @LT.lt Nat _ il dx) (held : @LT.lt Nat _ el dx) (hnld : @LT.lt Nat _ nl dx) (hdld : dl ≠ dx) (hcd : @LT.lt Nat _ (L + 1) dx) (hsep : ∀ p ∈ rest, p.1 ≠ dx) (hcls : ∀ p ∈ rest, p.2.cls ≠ .type "list_iterator")
    (e_found : m (Str.ofString "found") = some (.int 0 tf)) (e_due : m (Str.ofString "due") = some (.ref dl)) (e_ht : m (Str.ofString "ht") = some (.ref x)) (e_size : m (Str.ofString "size") = some (.int (2 ^ lg) tz)) (e_numbers : m (Str.ofString "numbers") = some (.ref nl))
   (hΓ : InOK Γ (callerA.deeper (envOfC (Str.ofString "law") lawS.1.2.2 L fa (.ref cda)))) (B : Below callerA h₀ [] h₀) (F : Fr h₀ L s.heap m) (X : (Mine.hd.heap_39 w.params).In h₀)
   (N : News h₀ L s.heap ((x, instObj 227 dx) :: (dx, dictOf (coldEs w.params k1 k2 k3 k4 k5 k6 (.int lg t1) v2 (.ref il) (.ref el) .none (.bool false)) 6) :: (il, listOf vs.toArray ep) :: (el, listOf #[] ep2) :: (nl, listOf ws.toArray ep3) :: (dl, listOf ds.toArray ep4) :: (L + 1, co) :: rest)) (T : Top Mine.hd.view_39 (looseW Mine.hd.view_39 [Str.ofString "_NOT_FOUND", Str.ofString "cached_property", Str.ofString "_HtKeys"]) mean mg mb h₀)
   (hret : ∀ h' g' tk' m', Fr h₀ L h' m' → (AllBare s.gens → AllBare g') → Q (.ret (.bool true)) { s with heap := h', gens := g', toks := tk' }) :
   wpAt (model PySem.Challenge.rw_fc5025_04.row.prog w) Γ (execs ((lawS.1.2.1).drop 9) (envOfC (Str.ofString "law") lawS.1.2.2 L fa (.ref cda))) Q s := by
  have E : m = m := rfl
  replace ⟨F, E⟩ := fr_know F E e_found
  replace ⟨F, E⟩ := fr_know F E e_due
  replace ⟨F, E⟩ := fr_know F E e_ht
  replace ⟨F, E⟩ := fr_know F E e_size
  replace ⟨F, E⟩ := fr_know F E e_numbers
  clear E
  clear e_found e_due e_ht e_size e_numbers
  w_top off; revert B X N T F; k_fill; intro B X N T F
  dsimp only [lawS, List.drop] at hΓ ⊢
  (try k_fold)
  refine at_execs_cons (at_For hΓ ?_)
  k_steps
  rename Fr _ _ _ _ => F2
  rename News _ _ _ _ => N2
  rename_i sl us h3 hUI hC hL hAl
  have hx8 : (List.take (min 10 ns.length - 2) (List.drop 2 ns)).length = 8 := by rw [hC]; omega
  have hxm : ∀ z ∈ List.take (min 10 ns.length - 2) (List.drop 2 ns), z ∈ ns := fun z hz => List.mem_of_mem_drop (List.mem_of_mem_take hz)
  clear hC hL
  generalize List.take (min 10 ns.length - 2) (List.drop 2 ns) = xs at *
  have hus : us.length = 8 := hUI.length.trans hx8
  have hsd : dx ≠ sl := Nat.ne_of_lt hAl.2.1
  refine atLoop_listP (σ := Obj × Int × Tok) (l := sl) (items := us.toArray) (ep := 0) (fun c => (x, instObj 227 dx) :: (dx, c.1) :: (il, listOf vs.toArray ep) :: (el, listOf #[] ep2) :: (nl, listOf ws.toArray ep3) :: (dl, listOf ds.toArray ep4) :: (L + 1, co) :: (sl, listOf us.toArray 0) :: rest)
    (fun c => [(Str.ofString "found", .int c.2.1 c.2.2)]) [Str.ofString "number"] (fun i c => c.2.1 = i ∧ ((i = 0 ∧ c.1 = dictOf (coldEs w.params k1 k2 k3 k4 k5 k6 (.int lg t1) v2 (.ref il) (.ref el) .none (.bool false)) 6) ∨ (0 < i ∧ ∃ b k7 k8 t7 t8, c.1 = dictS (tabEs w.params k1 k2 k3 k4 k5 k6 k7 k8 (.int lg t1) v2 (.ref il) (.ref el) .none (.bool b) (.int (2^lg) t7) (.int (2^lg-1) t8)) 8 #[none]))) (_, _, _) hΓ rfl rfl rfl F2 (fun p hp => N2 p ?nw) (fun c => ?lm) (List.forall_mem_cons.mpr ⟨rfl, List.forall_mem_nil _⟩) ⟨rfl, .inl ⟨rfl, rfl⟩⟩ ?step ?done ?cls
  case nw =>
    simp only [List.mem_cons] at hp ⊢
    rcases hp with h | h | h | h | h | h | h | h | h <;> simp [h]
  case lm => simp
  case cls =>
    rintro i ⟨o, f, t⟩ ⟨-, hP⟩
    have ho : o.cls ≠ .type "list_iterator" := by
      rcases hP with ⟨-, h⟩ | ⟨-, b, k7, k8, t7, t8, h⟩ <;> (dsimp only at h; subst h; simp)
    intro p hp
    simp only [List.mem_cons] at hp
    rcases hp with h | h | h | h | h | h | h | h | h
    · subst h; simp
    · subst h; exact .inl ho
    · subst h; simp
    · subst h; simp
    · subst h; simp
    · subst h; simp
    · subst h; exact .inr fun x9 h9 => by dsimp only at h9; rw [hco] at h9; cases h9
    · subst h; simp
    · exact .inl (hcls p h)
  case done =>
    rintro ⟨o, f, t⟩ u h g tk ⟨hf, hP⟩ hg F N
    clear F2 N2
    have h8 : us.toArray.size = 8 := by rw [List.size_toArray]; exact hus
    rw [h8] at hf hP
    rcases hP with ⟨h0, -⟩ | ⟨-, b, k7, k8, t7, t8, ho⟩
    · exact absurd h0 (by decide)
    dsimp only at hf ho F N ⊢
    subst ho hf
    dsimp only [kstB] at F
    (try k_fold)
    refine at_any hΓ ?_
    k_steps
    exact hret _ _ _ _ (by assumption) hg
  case step =>
    rintro i ⟨o, f, t⟩ u h g tk I oi v Γ' hΓ' hv ⟨hf, hP⟩ hg hne hoi F N
    clear F2 N2
    obtain ⟨xi, tx, rfl, hxi⟩ := hUI.at i v (by simpa using hv)
    have hbx := hbits xi (hxm xi (List.mem_of_getElem? hxi))
    dsimp only at hf hP F N hne ⊢
    have hID : I ≠ dx := Ne.symm (hne (dx, o) (by simp))
    have hsep9 : ∀ p ∈ (nl, listOf ws.toArray ep3) :: (dl, listOf ds.toArray ep4) :: (L + 1, co) :: (sl, listOf us.toArray 0) :: (rest ++ [(I, oi)]), p.1 ≠ dx := by
      refine List.forall_mem_cons.mpr ⟨Nat.ne_of_lt hnld, List.forall_mem_cons.mpr ⟨hdld, List.forall_mem_cons.mpr ⟨Nat.ne_of_lt hcd, List.forall_mem_cons.mpr ⟨Ne.symm hsd, fun p hp => ?_⟩⟩⟩⟩
      rcases List.mem_append.mp hp with h1 | h1
      · exact hsep p h1
      · rw [List.mem_singleton.mp h1]; exact hID
    have hsep10 : ∀ p ∈ (el, listOf #[] ep2) :: (nl, listOf ws.toArray ep3) :: (dl, listOf ds.toArray ep4) :: (L + 1, co) :: (sl, listOf us.toArray 0) :: (rest ++ [(I, oi)]), p.1 ≠ dx := List.forall_mem_cons.mpr ⟨Nat.ne_of_lt held, hsep9⟩
    have pick : ∀ r : Int, 0 ≤ r → ∃ K, wk lg r K = fr ∧ ps.getD (wk lg r K).toNat 0 = -1 ∧ (∀ j < K, ps.getD (wk lg r j).toNat 0 = -2) := fun r hr => by
      obtain ⟨K, hK, hKj⟩ := least (wk_reach (n := lg) hr hfr0 hfr1)
      refine ⟨K, hK, ?_, fun j hj => ?_⟩
      · have := (wk_range (n := lg) (h := r) K)
        rw [hps (wk lg r K).toNat (by apply toNat_lt_pow <;> omega), if_pos (by omega)]
      · have := (wk_range (n := lg) (h := r) j)
        have := hKj j hj
        rw [hps (wk lg r j).toNat (by apply toNat_lt_pow <;> omega), if_neg (by omega)]
    have hz0 := pow2_pos lg
    have pickT : ∀ r : Int, 0 ≤ r → r < 2 ^ lg → ∃ K, tl lg r K = fr ∧ ps.getD (tl lg r K).toNat 0 = -1 ∧ (∀ j < K, ps.getD (tl lg r j).toNat 0 ≠ -1) := fun r hr hr1 => by
      obtain ⟨K, hK, hKj⟩ := least (tl_reach (n := lg) hr hr1 hfr0 hfr1)
      refine ⟨K, hK, ?_, fun j hj => ?_⟩
      · have := (tl_range hr hr1 K)
        rw [hps (tl lg r K).toNat (by apply toNat_lt_pow <;> omega), if_pos (by omega)]
      · have := (tl_range hr hr1 j)
        have := hKj j hj
        rw [hps (tl lg r j).toNat (by apply toNat_lt_pow <;> omega), if_neg (by omega)]
        decide
    dsimp only [kstB] at F
    dsimp only [List.cons_append] at N
    rcases hP with ⟨hi0, ho⟩ | ⟨hi0, b, k7, k8, t7, t8, ho⟩
    · subst ho
      refine at_execs_consA hΓ' ?_
      (try k_fold)
      k_steps
      refine Hold.mk ?_
      refine' lawnum hbx ?u1 ?u2 ?u3 ?u4 ?u5 ?u6 ?u7 ?u8 ?_; (case u1 => k_asm); (case u2 => k_asm); (case u3 => k_asm); (case u4 => k_asm); (case u5 => k_asm); (case u6 => first | exact rfl | assumption); (case u7 => ktr_room); (case u8 => ktr_units)
      intro r tr h3 tk3 hr0 F3 N3
      obtain ⟨K, hK, e1, e2⟩ := pick r hr0
      have e3 : ∀ j < K, ps.getD (wk lg r j).toNat 0 ≠ -1 := fun j hj => by rw [e2 j hj]; decide
      have e4 : ∀ j < K, ps.getD (wk lg r j).toNat 0 < 0 := fun j hj => by rw [e2 j hj]; decide
      have hlg10 : lg < 10 := by omega
      (try k_fold)
      k_steps
      (try dsimp only)
      (try k_fold)
      refine at_execs_cons (at_If (at_isTrue_Or hΓ' (at_isTrue_Compare1 hΓ' (at_methodCall hΓ' ?_))))
      (try k_fold)
      k_steps
      (dsimp only; refine at_callWith_K (K := Mine.hd.heap_39 w.params) hΓ' (by k_dflt k_is) ?_)
      (try k_fold)
      k_steps
      refine' fes_cold hΓ' hlg10 hi hpl hr0 e1 e3 hlo hsep10 hxd hild ?u1 ?u2 ?u3 ?u4 ?u5 ?u6 ?u7 ?u8 ?_; (case u1 => k_asm); (case u2 => k_asm); (case u3 => k_asm); (case u4 => k_asm); (case u5 => k_asm); (case u6 => first | exact rfl | assumption); (case u7 => ktr_room); (case u8 => ktr_units)
      rw [hK]
      intro t4 k7 k8 t7 t8 h4 tk4 F4 N4
      have b : Bool := false
      (try k_fold)
      k_steps
      all_goals try (exfalso; contradiction)
      refine Hold.mk ?_
      refine' find2 hlg10 hi hpl hr0 e1 e3 e4 hlo hsep9 hxd hild held ?u1 ?u2 ?u3 ?u4 ?u5 ?u6 ?u7 ?u8 ?_; (case u1 => k_asm); (case u2 => k_asm); (case u3 => k_asm); (case u4 => k_asm); (case u5 => k_asm); (case u6 => first | exact rfl | assumption); (case u7 => ktr_room); (case u8 => ktr_units)
      rw [hK]
      intro b5 t5 h5 tk5 F5 N5
      (try k_fold)
      k_steps
      all_goals try (exfalso; contradiction)
      (try (refine at_execs_nil ?_; (try dsimp only); refine at_any hΓ' ?_; (try k_fold); k_steps))
      refine Hold.mk ?_
      refine' note2 hlg10 hi hpl hr0 e1 e3 e4 hlo hsep9 hxd hild held ?u1 ?u2 ?u3 ?u4 ?u5 ?u6 ?u7 ?u8 ?_; (case u1 => k_asm); (case u2 => k_asm); (case u3 => k_asm); (case u4 => k_asm); (case u5 => k_asm); (case u6 => first | exact rfl | assumption); (case u7 => ktr_room); (case u8 => ktr_units)
      rw [hK]
      intro b6 t6 h6 tk6 F6 N6
      (try k_fold)
      k_steps
      all_goals try (exfalso; contradiction)
      refine Hold.mk ?_
      have q0 : 0 ≤ r.fmod (2 ^ lg) := by rw [Int.fmod_eq_emod_of_nonneg _ (by omega)]; exact Int.emod_nonneg _ (by omega)
      have q1 : r.fmod (2 ^ lg) < 2 ^ lg := by rw [Int.fmod_eq_emod_of_nonneg _ (by omega)]; exact Int.emod_lt_of_pos _ hz0
      obtain ⟨J, hJ, d1, d3⟩ := pickT _ q0 q1
      refine' resume_none (K := J) hlg10 hi hpl q0 q1 d1 d3 ?u1 ?u2 ?u3 ?u4 ?u5 ?u6 ?u7 ?u8 ?_; (case u1 => k_asm); (case u2 => k_asm); (case u3 => k_asm); (case u4 => k_asm); (case u5 => k_asm); (case u6 => first | exact rfl | assumption); (case u7 => ktr_room); (case u8 => ktr_units)
      rw [hJ]
      intro tt7 h7 tk7 F7 N7
      (try k_fold)
      k_steps
      all_goals try (exfalso; contradiction)
      refine Hold.mk ?_
      refine' itr_empty hlg10 hi hpl hr0 e1 e3 e2 ?u1 ?u2 ?u3 ?u4 ?u5 ?u6 ?u7 ?u8 ?_; (case u1 => k_asm); (case u2 => k_asm); (case u3 => k_asm); (case u4 => k_asm); (case u5 => k_asm); (case u6 => first | exact rfl | assumption); (case u7 => ktr_room); (case u8 => ktr_units)
      intro a8 h8 tk8 g8 F8 N8 hg8 hlist
      (try k_fold)
      k_steps
      refine Hold.mk ?_
      refine hlist _ _ _ ?_
      intro l9 n9 h9 g9 tk9 F9 N9 hg9
      (try k_fold)
      k_steps
      rename Fr _ _ _ _ => eF
      rename News _ _ _ _ => eN
      refine at_end (s := { s with gens := g }) (dictS (tabEs w.params k1 k2 k3 k4 k5 k6 k7 k8 (.int lg t1) v2 (.ref il) (.ref el) .none (.bool b6) (.int (2^lg) t7) (.int (2^lg-1) t8)) 8 #[none], f + 1, _) (fun h9 => hg9 (hg8 h9)) eF eN (by simp) (fun p hp => ?_) (List.forall_mem_cons.mpr ⟨rfl, List.forall_mem_nil _⟩) (fun z z1 z2 z3 => ?_) ⟨by dsimp only; omega, .inr ⟨by omega, b6, k7, k8, t7, t8, rfl⟩⟩
      · simp only [List.mem_cons] at hp ⊢
        rcases hp with h | h | h | h | h | h | h | h | h <;> simp [h]
      · simp only [List.forall_mem_cons, List.not_mem_nil, false_implies, implies_true, and_true, ne_eq] at z2
        simp only [List.contains_cons, List.contains_nil, Bool.or_false, beq_eq_false_iff_ne, ne_eq] at z3
        simp [z1, z2, z3]
    · subst ho
      refine at_any hΓ' ?_
      (try k_fold)
      k_steps
      refine Hold.mk ?_
      refine' lawnum hbx ?u1 ?u2 ?u3 ?u4 ?u5 ?u6 ?u7 ?u8 ?_; (case u1 => k_asm); (case u2 => k_asm); (case u3 => k_asm); (case u4 => k_asm); (case u5 => k_asm); (case u6 => first | exact rfl | assumption); (case u7 => ktr_room); (case u8 => ktr_units)
      intro r tr h3 tk3 hr0 F3 N3
      obtain ⟨K, hK, e1, e2⟩ := pick r hr0
      have e3 : ∀ j < K, ps.getD (wk lg r j).toNat 0 ≠ -1 := fun j hj => by rw [e2 j hj]; decide
      have e4 : ∀ j < K, ps.getD (wk lg r j).toNat 0 < 0 := fun j hj => by rw [e2 j hj]; decide
      have hlg10 : lg < 10 := by omega
      (try k_fold)
      k_steps
      refine Hold.mk ?_
      refine' fes_abs hlg10 hi hpl hr0 e1 e3 ?u1 ?u2 ?u3 ?u4 ?u5 ?u6 ?u7 ?u8 ?_; (case u1 => k_asm); (case u2 => k_asm); (case u3 => k_asm); (case u4 => k_asm); (case u5 => k_asm); (case u6 => first | exact rfl | assumption); (case u7 => ktr_room); (case u8 => ktr_units)
      rw [hK]
      intro t4 h4 tk4 F4 N4
      (try k_fold)
      k_steps
      all_goals try (exfalso; contradiction)
      refine Hold.mk ?_
      refine' find2 hlg10 hi hpl hr0 e1 e3 e4 hlo hsep9 hxd hild held ?u1 ?u2 ?u3 ?u4 ?u5 ?u6 ?u7 ?u8 ?_; (case u1 => k_asm); (case u2 => k_asm); (case u3 => k_asm); (case u4 => k_asm); (case u5 => k_asm); (case u6 => first | exact rfl | assumption); (case u7 => ktr_room); (case u8 => ktr_units)
      rw [hK]
      intro b5 t5 h5 tk5 F5 N5
      (try k_fold)
      k_steps
      all_goals try (exfalso; contradiction)
      (try (refine at_execs_nil ?_; (try dsimp only); refine at_any hΓ' ?_; (try k_fold); k_steps))
      refine Hold.mk ?_
      refine' note2 hlg10 hi hpl hr0 e1 e3 e4 hlo hsep9 hxd hild held ?u1 ?u2 ?u3 ?u4 ?u5 ?u6 ?u7 ?u8 ?_; (case u1 => k_asm); (case u2 => k_asm); (case u3 => k_asm); (case u4 => k_asm); (case u5 => k_asm); (case u6 => first | exact rfl | assumption); (case u7 => ktr_room); (case u8 => ktr_units)
      rw [hK]
      intro b6 t6 h6 tk6 F6 N6
      (try k_fold)
      k_steps
      all_goals try (exfalso; contradiction)
      refine Hold.mk ?_
      have q0 : 0 ≤ r.fmod (2 ^ lg) := by rw [Int.fmod_eq_emod_of_nonneg _ (by omega)]; exact Int.emod_nonneg _ (by omega)
      have q1 : r.fmod (2 ^ lg) < 2 ^ lg := by rw [Int.fmod_eq_emod_of_nonneg _ (by omega)]; exact Int.emod_lt_of_pos _ hz0
      obtain ⟨J, hJ, d1, d3⟩ := pickT _ q0 q1
      refine' resume_none (K := J) hlg10 hi hpl q0 q1 d1 d3 ?u1 ?u2 ?u3 ?u4 ?u5 ?u6 ?u7 ?u8 ?_; (case u1 => k_asm); (case u2 => k_asm); (case u3 => k_asm); (case u4 => k_asm); (case u5 => k_asm); (case u6 => first | exact rfl | assumption); (case u7 => ktr_room); (case u8 => ktr_units)
      rw [hJ]
      intro tt7 h7 tk7 F7 N7
      (try k_fold)
      k_steps
      all_goals try (exfalso; contradiction)
      refine Hold.mk ?_
      refine' itr_empty hlg10 hi hpl hr0 e1 e3 e2 ?u1 ?u2 ?u3 ?u4 ?u5 ?u6 ?u7 ?u8 ?_; (case u1 => k_asm); (case u2 => k_asm); (case u3 => k_asm); (case u4 => k_asm); (case u5 => k_asm); (case u6 => first | exact rfl | assumption); (case u7 => ktr_room); (case u8 => ktr_units)
      intro a8 h8 tk8 g8 F8 N8 hg8 hlist
      (try k_fold)
      k_steps
      refine Hold.mk ?_
      refine hlist _ _ _ ?_
      intro l9 n9 h9 g9 tk9 F9 N9 hg9
      (try k_fold)
      k_steps
      rename Fr _ _ _ _ => eF
      rename News _ _ _ _ => eN
      refine at_end (s := { s with gens := g }) (dictS (tabEs w.params k1 k2 k3 k4 k5 k6 k7 k8 (.int lg t1) v2 (.ref il) (.ref el) .none (.bool b6) (.int (2^lg) t7) (.int (2^lg-1) t8)) 8 #[none], f + 1, _) (fun h9 => hg9 (hg8 h9)) eF eN (by simp) (fun p hp => ?_) (List.forall_mem_cons.mpr ⟨rfl, List.forall_mem_nil _⟩) (fun z z1 z2 z3 => ?_) ⟨by dsimp only; omega, .inr ⟨by omega, b6, k7, k8, t7, t8, rfl⟩⟩
      · simp only [List.mem_cons] at hp ⊢
        rcases hp with h | h | h | h | h | h | h | h | h <;> simp [h]
      · simp only [List.forall_mem_cons, List.not_mem_nil, false_implies, implies_true, and_true, ne_eq] at z2
        simp only [List.contains_cons, List.contains_nil, Bool.or_false, beq_eq_false_iff_ne, ne_eq] at z3
        simp [z1, z2, z3]
end Mine
end

section
open PySem PySem.W PySem.Calls PyProof.Rows
namespace Mine
local macro_rules | `(tactic| walk_at "getAttr ref") => `(tactic| (k_here; k_dflt (refine' get_lateS ?k1 ?k2 ?k3 ?k4 ?k5 ?k6 ?k7 ?k8 ?k9 ?k10 ?_; (case k1 => k_asm); (case k2 => k_asm); (case k3 => k_inst); (case k4 => k_is); (case k5 => k_is); (case k6 => k_is); (case k7 => k_is); (case k8 => k_is); (case k9 => decide +kernel); (case k10 => k_get))))
local macro_rules | `(tactic| walk_at "getAttr ref") => `(tactic| (k_here; k_dflt (first
  | refine' get_shadowS ?k1 ?k2 ?k3 ?k4 ?k5 ?k6 ?k7 ?k8 ?k9 ?k10 ?_; (case k1 => k_asm); (case k2 => k_asm); (case k3 => k_inst); (case k4 => k_is); (case k5 => k_is); (case k6 => k_is); (case k7 => k_is); (case k8 => k_is); (case k9 => k_get); (case k10 => k_handed); k_whole
  | refine' get_ownS ?k1 ?k2 ?k3 ?k4 ?k5 ?k6 ?k7 ?k8 ?k9 ?_; (case k1 => k_asm); (case k2 => k_asm); (case k3 => k_inst); (case k4 => k_is); (case k5 => k_is); (case k6 => k_is); (case k7 => k_is); (case k8 => k_get); (case k9 => k_handed); k_whole)))
local macro_rules | `(tactic| walk_at "getAttr ref") => `(tactic| (k_here; (with_reducible show wpAny _ _ (getAttr (Value.ref _) (PySem.Str.ofString "__dict__") _) _ _ _); k_dflt (refine' get_dictS ?k1 ?k2 ?k3 ?k4 ?k5 ?k6 ?k7 ?k8 ?k9 ?k10 ?k11 ?k12 ?k13 ?k14 ?_; (case k1 => k_asm); (case k2 => k_asm); (case k3 => k_asm); (case k4 => k_inst); (case k5 => k_is); (case k6 => k_is); (case k7 => k_is); (case k8 => k_is); (case k9 => k_is); (case k10 => k_is); (case k11 => k_is); (case k12 => k_is); (case k13 => k_is); (case k14 => k_upd); k_whole; intro h' F' N'; (try k_sweep))))
local macro_rules | `(tactic| walk_at "getMethod ref") => `(tactic| (k_here; k_dflt (first
  | refine' method_instS ?k1 ?k2 ?k3 ?k4 ?k5 ?k6 ?k7 ?_; (case k1 => k_asm); (case k2 => k_asm); (case k3 => k_inst); (case k4 => k_is); (case k5 => k_is); (case k6 => k_is); (case k7 => k_get); k_whole
  | refine' method_getS ?k1 ?k2 ?_; (case k1 => k_asm); (case k2 => k_mem); k_whole)))
local macro_rules | `(tactic| walk_at "setAttr ref") => `(tactic| (k_here; k_dflt (refine' set_dictS ?k1 ?k2 ?k3 ?k4 ?k5 ?k6 ?k7 ?k8 ?k9 ?k10 ?k11 ?k12 ?k13 ?_; (case k1 => k_asm); (case k2 => k_asm); (case k3 => k_asm); (case k4 => k_inst); (case k5 => exact rfl); (case k6 => k_is); (case k7 => k_is); (case k8 => k_is); (case k9 => k_is); (case k10 => k_get); (case k11 => k_put); (case k12 => k_upd); (case k13 => exact Nat.le_of_ble_eq_true rfl); k_whole; intro h' F' N'; (try k_sweep))))
local macro_rules | `(tactic| walk_at "call builtin:dict.get") => `(tactic| (k_here; k_dflt (refine' call_get_missS ?k1 ?k2 ?k3 ?k4 ?k5 ?_; (case k1 => k_asm); (case k2 => k_mem); (case k3 => assumption); (case k4 => k_keys); (case k5 => k_get); k_whole)))
local macro_rules | `(tactic| walk_at "setItem ref str") => `(tactic| (k_here; k_dflt (refine' setItem_newS ?k1 ?k2 ?k3 ?k4 ?k5 ?k6 ?_; (case k1 => k_asm); (case k2 => k_asm); (case k3 => k_upd); (case k4 => k_keys); (case k5 => k_get); (case k6 => exact Nat.le_of_ble_eq_true rfl); k_whole; intro h' F' N'; (try dsimp only [List.cons_append, List.nil_append] at N'); (try k_sweep))))
local macro_rules | `(tactic| walk_at "exec While") => `(tactic| (k_here; refine Hold.out ?_))
local macro_rules | `(tactic| walk_at "KswEnd") => `(tactic| (refine Hold.out ?_))
local macro_rules | `(tactic| walk_at "binaryOp BitAnd int int") => `(tactic| first | with_reducible refine and_mask ?_ | with_reducible refine and_mask' ?_)
local macro_rules | `(tactic| walk_at "call ref") => `(tactic| (k_here; k_dflt (refine wpAny_call ?_; refine' code_def ?k1 ?k2 ?k3 ?k4 ?k5 ?kA ?kF ?kK ?k6 ?k7 ?k8 ?k9 ?kB ?_ ?c2 ?c3 ?c4 ?c5; (case kA => exact rfl); (case kF => exact rfl); (case kK => first | exact rfl | assumption); (case k1 => k_asm); (case k2 => k_asm); (case k3 => k_asm); (case k4 => k_asm); (case k5 => k_asm); (case k6 => k_is); (case k7 => k_is); (case k8 => ktr_room); (case k9 => first | exact BindsTo.of_eq rfl | exact binds_K (by k_in) rfl (by k_is) rfl rfl rfl); (case c5 => decide); (case kB => exact locs rfl); (case c2 => exact rfl); (case c3 => exact rfl); (case c4 => exact rfl); k_whole; intro g' L' h' FG' F' N' B' X' T'; (try dsimp only); (try k_lift B'); (try k_fold))))
local macro_rules | `(tactic| walk_at "inplaceOp RShift int int") => `(tactic| with_reducible refine shr5 ?_)
local macro_rules | `(tactic| walk_at "binaryOp LShift int int") => `(tactic| (with_reducible refine shl_one ?a ?_; (case a => omega)))
local macro_rules | `(tactic| k_all) => `(tactic| assumption)
local macro_rules | `(tactic| walk_at "pyIter ref") => `(tactic| (k_here; refine Hold.out ?_))
local macro_rules | `(tactic| walk_at "InvEndN") => `(tactic| (refine Hold.out ?_))
def plc (sz : Nat) (fr : Int) (k : Nat) : List Int := (List.range sz).map fun (i : Nat) => if i < k ∧ (i : Int) ≠ fr then -2 else -1
theorem plc_len {sz fr k} : (plc sz fr k).length = sz := by simp [plc]
theorem plc_set {sz : Nat} {fr : Int} {k : Nat} (h : k < sz) (hf : (k : Int) ≠ fr) : (plc sz fr k).set k (-2) = plc sz fr (k + 1) := by
  refine List.ext_getElem (by simp [plc]) fun i h1 h2 => ?_
  have hi : i < sz := by simpa [plc] using h2
  rw [List.getElem_set]
  simp only [plc, List.getElem_map, List.getElem_range]
  by_cases e : k = i
  · subst e; simp [hf]
  · rw [if_neg e]
    by_cases h9 : (i : Int) = fr
    · simp [h9]
    · by_cases h8 : i < k
      · simp [h8, h9, show i < k + 1 by omega]
      · simp [h8, h9, show ¬ i < k + 1 by omega]
theorem plc_skip {sz : Nat} {fr : Int} {k : Nat} (hf : (k : Int) = fr) : plc sz fr k = plc sz fr (k + 1) := by
  refine List.ext_getElem (by simp [plc]) fun i h1 h2 => ?_
  simp only [plc, List.getElem_map, List.getElem_range]
  by_cases h9 : (i : Int) = fr
  · simp [h9]
  · by_cases h8 : i < k
    · simp [h8, h9, show i < k + 1 by omega]
    · simp [h8, h9, show ¬ i < k + 1 by omega]
theorem plc_map {fr : Int} {n : Nat} : (rangeKs 0 n).map (fun k' => if k' = fr then (-1 : Int) else -2) = plc n fr n := by
  refine List.ext_getElem (by simp [plc, rangeKs]) fun i h1 h2 => ?_
  have hi : i < n := by simpa [plc] using h2
  simp only [plc, rangeKs, List.getElem_map, List.getElem_range]
  by_cases h9 : (i : Int) = fr
  · simp [h9]
  · simp [h9, hi]
theorem plc_none {sz : Nat} {fr : Int} : plc sz fr 0 = List.replicate sz (-1) := by
  refine List.ext_getElem (by simp [plc]) fun i h1 h2 => ?_
  simp [plc]
theorem plc_at {sz fr k i} (h : i < sz) : (plc sz fr k).getD i 0 = if i < k ∧ (i : Int) ≠ fr then -2 else -1 := by simp [plc, h]
set_option maxRecDepth 100000 in
set_option maxHeartbeats 8000000 in
theorem stageB {w : World} {mean : ExcName → Option Value} {mg mb : Str → Option Value} {Γ : Ctx} {h₀ : Heap} {L fa cda : Addr} {m : Str → Option Value} {s : Shared} {Q : Flow → Shared → Prop} {x dx il el nl : Addr} {k1 k2 k3 k4 k5 k6 t1 tz tc : Tok} {v2 : Value} {lg : Nat} {vs ws : List Value} {ns : List Int} {ep ep2 ep3 : Nat} {co : Obj} {rest : Led} {fr : Int}
   (hlg : lg < 8) (hi : IntsAre vs (plc (2 ^ lg) fr 0)) (hw : IntsAre ws ns) (hn0 : 10 ≤ ns.length) (hn1 : ns.length ≤ 73) (hbits : ∀ n ∈ ns, Builtin.Int.intBits n ≤ 2 ^ 20) (hfr0 : 0 ≤ fr) (hfr1 : fr < 2 ^ lg)
   (hco : co.data = .cell (some (.int fr tc)))
   (hlo : (dx == sysModules) = false) (hxd : @LT.lt Nat _ dx x) (hild : @LT.lt Nat _ il dx) (held : @LT.lt Nat _ el dx) (hnld : @LT.lt Nat _ nl dx) (hcd : @LT.lt Nat _ (L + 1) dx) (hsep : ∀ p ∈ rest, p.1 ≠ dx) (hcls : ∀ p ∈ rest, p.2.cls ≠ .type "list_iterator")
   (heli : @LT.lt Nat _ el il) (hnli : @LT.lt Nat _ nl il) (hci : @LT.lt Nat _ (L + 1) il) (hsepi : ∀ p ∈ rest, @LT.lt Nat _ p.1 il)
    (e_ht : m (Str.ofString "ht") = some (.ref x)) (e_size : m (Str.ofString "size") = some (.int (2 ^ lg) tz)) (e_numbers : m (Str.ofString "numbers") = some (.ref nl))
   (hΓ : InOK Γ (callerA.deeper (envOfC (Str.ofString "law") lawS.1.2.2 L fa (.ref cda)))) (B : Below callerA h₀ [] h₀) (F : Fr h₀ L s.heap m) (X : (Mine.hd.heap_39 w.params).In h₀)
   (N : News h₀ L s.heap ((x, instObj 227 dx) :: (dx, dictOf (coldEs w.params k1 k2 k3 k4 k5 k6 (.int lg t1) v2 (.ref il) (.ref el) .none (.bool false)) 6) :: (il, listOf vs.toArray ep) :: (el, listOf #[] ep2) :: (nl, listOf ws.toArray ep3) :: (L + 1, co) :: rest)) (T : Top Mine.hd.view_39 (looseW Mine.hd.view_39 [Str.ofString "_NOT_FOUND", Str.ofString "cached_property", Str.ofString "_HtKeys"]) mean mg mb h₀)
   (hret : ∀ h' g' tk' m', Fr h₀ L h' m' → (AllBare s.gens → AllBare g') → Q (.ret (.bool true)) { s with heap := h', gens := g', toks := tk' }) :
   wpAt (model PySem.Challenge.rw_fc5025_04.row.prog w) Γ (execs ((lawS.1.2.1).drop 5) (envOfC (Str.ofString "law") lawS.1.2.2 L fa (.ref cda))) Q s := by
  have E : m = m := rfl
  replace ⟨F, E⟩ := fr_know F E e_ht
  replace ⟨F, E⟩ := fr_know F E e_size
  replace ⟨F, E⟩ := fr_know F E e_numbers
  clear E
  clear e_ht e_size e_numbers
  have hz0 := pow2_pos lg
  have hz1 : (2 : Int) ^ lg ≤ 128 := by
    have h1 : (2 : Nat) ^ lg ≤ 2 ^ 7 := Nat.pow_le_pow_right (by decide) (by omega)
    have h2 : ((2 ^ lg : Nat) : Int) ≤ ((128 : Nat) : Int) := Int.ofNat_le.mpr h1
    rwa [Int.natCast_pow] at h2
  w_top off; revert B X N T F; k_fill; intro B X N T F
  dsimp only [lawS, List.drop] at hΓ ⊢
  (try k_fold)
  refine at_execs_consA hΓ ?_
  k_steps
  (try dsimp only)
  (try k_fold)
  refine at_execs_consA hΓ ?_
  k_steps
  refine Hold.mk ?_
  rename Fr _ _ _ _ => lF
  rename News _ _ _ _ => lN
  rename IsRange _ _ _ _ _ _ _ _ => rgX
  refine kst_range (σ := List Value × List Int) (fun c => (x, instObj 227 dx) :: (dx, dictOf (coldEs w.params k1 k2 k3 k4 k5 k6 (.int lg t1) v2 (.ref il) (.ref el) .none (.bool false)) 6) :: (il, listOf c.1.toArray ep) :: (el, listOf #[] ep2) :: (nl, listOf ws.toArray ep3) :: (L + 1, co) :: rest) (fun c => []) (fun c => IntsAre c.1 c.2) [] (fun pre c => c.2 = plc (2 ^ lg) fr pre.length) (vs, plc (2 ^ lg) fr 0) rfl rgX (by exact small_one (by omega) (by omega) (by omega) (by omega)) (by exact rangeSize_nat _ _) lF (fun p hp => lN p ?nw) hi (List.forall_mem_nil _) rfl ?_ ?_
  case nw => exact hp
  · rintro ⟨vs1, ns1⟩ pre k t u h tk own hk hlt hown hI hc F N
    clear lF lN
    dsimp only at hI hc N F ⊢
    dsimp only [kstB] at F
    dsimp only [List.cons_append] at N
    have hpl : ns1.length = 2 ^ lg := by rw [hc]; exact plc_len
    have hcast : ((2 ^ lg : Nat) : Int) = 2 ^ lg := by rw [Int.natCast_pow]; rfl
    have hk0 : 0 ≤ k := by omega
    have hk1 : k < 2 ^ lg := by omega
    have hk2 : k < (ns1.length : Int) := by omega
    have hpost : ∀ p ∈ rest ++ own, p.1 ≠ il := fun p hp => by
      rcases List.mem_append.mp hp with h1 | h1
      · exact Nat.ne_of_lt (hsepi p h1)
      · exact hown.ne (by simp) p h1
    (try k_fold)
    k_steps
    · refine Hold.mk ?_
      rename Fr _ _ _ _ => eF
      rename News _ _ _ _ => eN
      rename IntsAre _ (ns1.set _ _) => eI
      have hne : k ≠ fr := by assumption
      exact InvEndN.intro eF eN ⟨(_, _), rfl, eI, List.forall_mem_nil _, fun z z1 _ _ => by simp [z1], by
        dsimp only; rw [hc, List.length_append, List.length_singleton, ← plc_set (by omega) (by omega), show k.toNat = pre.length by omega]⟩ rfl (fun p hp => by simp only [List.mem_cons, List.mem_append] at hp ⊢; rcases hp with h | h | h | h | h | h | h <;> simp [h]) (fun p hp => by simp [hp])
    · refine Hold.mk ?_
      rename Fr _ _ _ _ => eF
      rename News _ _ _ _ => eN
      have heq : k = fr := by assumption
      exact InvEndN.intro eF eN ⟨(vs1, ns1), rfl, hI, List.forall_mem_nil _, fun z z1 _ _ => by simp [z1], by
        dsimp only; rw [hc, List.length_append, List.length_singleton, ← plc_skip (by omega)]⟩ rfl (fun p hp => by simp only [List.mem_cons, List.mem_append] at hp ⊢; rcases hp with h | h | h | h | h | h | h <;> simp [h]) (fun p hp => by simp [hp])
  · rintro ⟨vs1, ns1⟩ u h tk hI hc F N
    clear lF lN
    dsimp only at hI hc N F ⊢
    dsimp only [kstB] at F
    (try k_fold)
    refine at_execs_consA hΓ ?_
    k_steps
    (try dsimp only)
    (try k_fold)
    refine at_execs_consA hΓ ?_
    k_steps
    (try dsimp only)
    (try k_fold)
    rename Fr h₀ L _ _ => F9
    rename News h₀ L _ _ => N9
    rename IntsAre _ (List.map _ _) => hdi
    have hps9 : ∀ k : Nat, k < 2 ^ lg → (plc (2 ^ lg) fr (2 ^ lg)).getD k 0 = if (k : Int) = fr then -1 else -2 := fun k hk => by
      rw [plc_at hk]; by_cases h9 : (k : Int) = fr <;> simp [h9, hk]
    have hsz : (2 ^ lg - 0 : Int).toNat = 2 ^ lg := by
      have hcast : ((2 ^ lg : Nat) : Int) = 2 ^ lg := by rw [Int.natCast_pow]; rfl
      omega
    have ha : ns1 = plc (2 ^ lg) fr (2 ^ lg) := by rw [hc, rangeKs_length, hsz]
    rw [plc_map, hsz] at hdi
    subst ha
    exact stageD hlg hI hdi hw hn0 hn1 hbits hfr0 hfr1 plc_len hps9 hco hlo hxd hild held hnld (ne_of_cls N9 (.head _) (.tail _ (.tail _ (.head _))) (by simp)) hcd hsep hcls rfl rfl rfl rfl rfl hΓ B F9 X
      (fun p hp => N9 p (by
        simp only [List.mem_cons] at hp
        rcases hp with rfl | rfl | rfl | rfl | rfl | rfl | rfl | h
        · exact .tail _ (.head _)
        · exact .tail _ (.tail _ (.head _))
        · exact .tail _ (.tail _ (.tail _ (.head _)))
        · exact .tail _ (.tail _ (.tail _ (.tail _ (.head _))))
        · exact .tail _ (.tail _ (.tail _ (.tail _ (.tail _ (.head _)))))
        · exact .head _
        · exact .tail _ (.tail _ (.tail _ (.tail _ (.tail _ (.tail _ (.head _))))))
        · exact .tail _ (.tail _ (.tail _ (.tail _ (.tail _ (.tail _ (.tail _ (h)))))))))
      T hret
end Mine
end

section
open PySem PySem.W PySem.Calls PyProof.Rows
namespace Mine
local macro_rules | `(tactic| walk_at "MinePad") => `(tactic| skip)
local macro_rules | `(tactic| walk_at "getAttr ref") => `(tactic| (k_here; k_dflt (refine' get_lateS ?k1 ?k2 ?k3 ?k4 ?k5 ?k6 ?k7 ?k8 ?k9 ?k10 ?_; (case k1 => k_asm); (case k2 => k_asm); (case k3 => k_inst); (case k4 => k_is); (case k5 => k_is); (case k6 => k_is); (case k7 => k_is); (case k8 => k_is); (case k9 => decide +kernel); (case k10 => k_get))))
local macro_rules | `(tactic| walk_at "getAttr ref") => `(tactic| (k_here; k_dflt (first
  | refine' get_shadowS ?k1 ?k2 ?k3 ?k4 ?k5 ?k6 ?k7 ?k8 ?k9 ?k10 ?_; (case k1 => k_asm); (case k2 => k_asm); (case k3 => k_inst); (case k4 => k_is); (case k5 => k_is); (case k6 => k_is); (case k7 => k_is); (case k8 => k_is); (case k9 => k_get); (case k10 => k_handed); k_whole
  | refine' get_ownS ?k1 ?k2 ?k3 ?k4 ?k5 ?k6 ?k7 ?k8 ?k9 ?_; (case k1 => k_asm); (case k2 => k_asm); (case k3 => k_inst); (case k4 => k_is); (case k5 => k_is); (case k6 => k_is); (case k7 => k_is); (case k8 => k_get); (case k9 => k_handed); k_whole)))
local macro_rules | `(tactic| walk_at "getAttr ref") => `(tactic| (k_here; (with_reducible show wpAny _ _ (getAttr (Value.ref _) (PySem.Str.ofString "__dict__") _) _ _ _); k_dflt (refine' get_dictS ?k1 ?k2 ?k3 ?k4 ?k5 ?k6 ?k7 ?k8 ?k9 ?k10 ?k11 ?k12 ?k13 ?k14 ?_; (case k1 => k_asm); (case k2 => k_asm); (case k3 => k_asm); (case k4 => k_inst); (case k5 => k_is); (case k6 => k_is); (case k7 => k_is); (case k8 => k_is); (case k9 => k_is); (case k10 => k_is); (case k11 => k_is); (case k12 => k_is); (case k13 => k_is); (case k14 => k_upd); k_whole; intro h' F' N'; (try k_sweep))))
local macro_rules | `(tactic| walk_at "getMethod ref") => `(tactic| (k_here; k_dflt (first
  | refine' method_instS ?k1 ?k2 ?k3 ?k4 ?k5 ?k6 ?k7 ?_; (case k1 => k_asm); (case k2 => k_asm); (case k3 => k_inst); (case k4 => k_is); (case k5 => k_is); (case k6 => k_is); (case k7 => k_get); k_whole
  | refine' method_getS ?k1 ?k2 ?_; (case k1 => k_asm); (case k2 => k_mem); k_whole)))
local macro_rules | `(tactic| walk_at "setAttr ref") => `(tactic| (k_here; k_dflt (refine' set_dictS ?k1 ?k2 ?k3 ?k4 ?k5 ?k6 ?k7 ?k8 ?k9 ?k10 ?k11 ?k12 ?k13 ?_; (case k1 => k_asm); (case k2 => k_asm); (case k3 => k_asm); (case k4 => k_inst); (case k5 => exact rfl); (case k6 => k_is); (case k7 => k_is); (case k8 => k_is); (case k9 => k_is); (case k10 => k_get); (case k11 => k_put); (case k12 => k_upd); (case k13 => exact Nat.le_of_ble_eq_true rfl); k_whole; intro h' F' N'; (try k_sweep))))
local macro_rules | `(tactic| walk_at "call builtin:dict.get") => `(tactic| (k_here; k_dflt (refine' call_get_missS ?k1 ?k2 ?k3 ?k4 ?k5 ?_; (case k1 => k_asm); (case k2 => k_mem); (case k3 => assumption); (case k4 => k_keys); (case k5 => k_get); k_whole)))
local macro_rules | `(tactic| walk_at "setItem ref str") => `(tactic| (k_here; k_dflt (refine' setItem_newS ?k1 ?k2 ?k3 ?k4 ?k5 ?k6 ?_; (case k1 => k_asm); (case k2 => k_asm); (case k3 => k_upd); (case k4 => k_keys); (case k5 => k_get); (case k6 => exact Nat.le_of_ble_eq_true rfl); k_whole; intro h' F' N'; (try dsimp only [List.cons_append, List.nil_append] at N'); (try k_sweep))))
local macro_rules | `(tactic| walk_at "exec While") => `(tactic| (k_here; refine Hold.out ?_))
local macro_rules | `(tactic| walk_at "KswEnd") => `(tactic| (refine Hold.out ?_))
local macro_rules | `(tactic| walk_at "binaryOp BitAnd int int") => `(tactic| first | with_reducible refine and_mask ?_ | with_reducible refine and_mask' ?_)
local macro_rules | `(tactic| walk_at "call ref") => `(tactic| (k_here; k_dflt (refine wpAny_call ?_; refine' code_def ?k1 ?k2 ?k3 ?k4 ?k5 ?kA ?kF ?kK ?k6 ?k7 ?k8 ?k9 ?kB ?_ ?c2 ?c3 ?c4 ?c5; (case kA => exact rfl); (case kF => exact rfl); (case kK => first | exact rfl | assumption); (case k1 => k_asm); (case k2 => k_asm); (case k3 => k_asm); (case k4 => k_asm); (case k5 => k_asm); (case k6 => k_is); (case k7 => k_is); (case k8 => ktr_room); (case k9 => first | exact BindsTo.of_eq rfl | exact binds_K (by k_in) rfl (by k_is) rfl rfl rfl); (case c5 => decide); (case kB => exact locs rfl); (case c2 => exact rfl); (case c3 => exact rfl); (case c4 => exact rfl); k_whole; intro g' L' h' FG' F' N' B' X' T'; (try dsimp only); (try k_lift B'); (try k_fold))))
local macro_rules | `(tactic| walk_at "inplaceOp RShift int int") => `(tactic| with_reducible refine shr5 ?_)
local macro_rules | `(tactic| walk_at "binaryOp LShift int int") => `(tactic| (with_reducible refine shl_one ?a ?_; (case a => omega)))
local macro_rules | `(tactic| k_all) => `(tactic| assumption)
local macro_rules | `(tactic| walk_at "call type:list") => `(tactic| (k_here; (with_reducible show wpAny _ _ (call (Value.type _) [Value.ref 235]) _ _ _); refine Hold.out ?_))
local macro_rules | `(tactic| walk_at "binaryOp Pow int int") => `(tactic| ((with_reducible refine pow_two ?a ?_); (case a => omega)))
set_option maxRecDepth 100000 in
set_option maxHeartbeats 8000000 in
theorem main : PySem.Challenge.rw_fc5025_04.Holds := by
  refine Mine.hd ?_
  w_top off
  k_fill
  intro w s₀ s₁ mg mb G Y fa o pm cd doc dV kV ho hd hcd hD hmg hg args vals as hpre hlay hrd hwl hlo
  have KX := kIn_of Y
  have X := (Ground.X G).1
  have V := (Ground.X G).2
  try w_nolog (first | (have GL := glob_more (Ground.glob G (by first | k_qdec | decide +kernel) (by first | k_qdec | decide +kernel)) V) | (have GL := glob_more (Ground.glob G (by decide +kernel)) V))
  refine Ground.open G ?_
  intro T B D TE TW
  try (refine guard_noD D (by decide +kernel) ?_; clear D)
  obtain ⟨_, _, M⟩ := bmod_of_top T
  have TA := at_of_top T
  try (obtain ⟨_, _, he, B0⟩ := based_of_top T rfl hmg ho hd; have he' : cd = _ := he; subst he'; clear he)
  clear hmg
  wrow_args hpre hlay hrd hwl hlo
  have he := Dflts.none hD rfl; subst he
  have he := Dflts.noKw hD; subst he
  refine at_call fun p0 => ?_
  have K0 := below_caller (Top.heap T)
  refine at_law_cells rfl (Γ0_in.enter _ p0) (by decide) ho (fd_plain hd) (Top.nolimit T) hcd rfl (kinds_of (by kinds_ok)) (by decide) fun h₁ tk₁ cells Γ1 hΓ1 F N0 X0 => ?_
  cells_open X0
  clear hd TA
  k_drop
  clear G Y TE TW B M GL V X ho
  (try clear hD); (try clear hsh); (try clear hcond)
  (try k_fold)
  refine at_execs_consA hΓ1 ?_
  k_steps
  refine Hold.mk ?_
  k_dflt (refine' ints_ofK [3, 9, 0, 7, 5, 12, 2, 1, 10, 8] ?k1 ?k2 ?k3 ?k4 ?k5 ?k6 ?_; (case k1 => k_asm); (case k2 => k_asm); (case k3 => k_asm); (case k4 => k_is); (case k5 => decide); (case k6 => rfl); k_whole)
  intro D9 c9 h9 vs9 F9 N9 l9 hM
  (try k_lt l9)
  (try k_sweep)
  k_steps
  rename List Int => sc
  rename IntsAre _ (sc ++ _) => hI9
  have hlen9 : (sc ++ [3, 9, 0, 7, 5, 12, 2, 1, 10, 8]).length = sc.length + 10 := by simp
  have hsc : sc.length ≤ 63 := by have : ¬ ((63 : Nat) : Int) < sc.length := by assumption
                                  omega
  generalize hns : sc ++ [3, 9, 0, 7, 5, 12, 2, 1, 10, 8] = ns at *
  have hlo9 : 10 ≤ ns.length := by omega
  have hhi9 : ns.length ≤ 73 := by omega
  clear hlen9 hM l9
  refine at_execs_consA hΓ1 ?_
  k_steps
  have hn0 : 0 ≤ (ns.getD (Int.toNat 0) 0).fmod 5 ∧ (ns.getD (Int.toNat 0) 0).fmod 5 < 5 := by
    rw [Int.fmod_eq_emod_of_nonneg _ (by decide)]; omega
  obtain ⟨lg, hlg⟩ := to_nat (x := 3 + (ns.getD (Int.toNat 0) 0).fmod 5) (by omega)
  have hlg3 : 3 ≤ lg := by omega
  have hlg7 : lg < 8 := by omega
  rename Fr _ _ _ _ => F8
  rw [hlg] at F8
  (try dsimp only)
  (try k_fold)
  refine at_execs_consA hΓ1 ?_
  k_steps
  (try dsimp only)
  (try k_fold)
  have hz1 : (2 : Int) ^ lg ≤ 128 := by
    have h1 : (2 : Nat) ^ lg ≤ 2 ^ 7 := Nat.pow_le_pow_right (by decide) (by omega)
    have h2 : ((2 ^ lg : Nat) : Int) ≤ ((128 : Nat) : Int) := Int.ofNat_le.mpr h1
    rwa [Int.natCast_pow] at h2
  have hz0 := pow2_pos lg
  refine at_execs_consA hΓ1 ?_
  k_steps
  (try dsimp only)
  (try k_fold)
  refine at_execs_consA hΓ1 ?_
  k_steps
  (try dsimp only)
  (try k_fold)
  rename Fr T.heap _ _ _ => F9
  rename News T.heap _ _ _ => N9
  rename IntsAre (List.flatten _) (List.flatten _) => iI
  rename _ ∧ _ ∧ _ ∧ _ ∧ AllLt _ _ => lD
  rename _ ∧ _ ∧ _ ∧ AllLt _ _ => lI
  rename @LT.lt Nat _ _ _ => lX
  rename _ = Data.cell (some (Value.int _ _)) => hco
  rename PyData.layable0 (PyData.list (List.map PyData.int sc)) = true => hlay
  rw [flat_one, flat_one] at iI
  rw [flat_one] at N9
  dsimp only [AllLt, List.cons_append, List.nil_append] at lD lI N9
  have N10 := news_pick N9 [0, 1, 2, 4, 6, 9, 3, 5, 7, 8]
  simp only [List.filterMap_cons, List.getElem?_cons_succ, List.getElem?_cons_zero, List.filterMap_nil] at N10
  have hbits : ∀ n ∈ ns, Builtin.Int.intBits n ≤ 2 ^ 20 := fun n hn => by
    rw [← hns] at hn
    rcases List.mem_append.mp hn with h1 | h1
    · exact PyData.bits_item_of_ints hlay h1
    · simp only [List.mem_cons, List.not_mem_nil, or_false] at h1
      rcases h1 with h | h | h | h | h | h | h | h | h | h <;> (rw [h]; decide +kernel)
  have hsz : ((2 : Int) ^ lg).toNat = 2 ^ lg := by
    have hcast : ((2 ^ lg : Nat) : Int) = 2 ^ lg := by rw [Int.natCast_pow]; rfl
    omega
  rw [hsz, ← plc_none (fr := (ns.getD (Int.toNat 1) 0).fmod (2 ^ lg))] at iI
  rw [hsz] at N10
  have q0 : 0 ≤ (ns.getD (Int.toNat 1) 0).fmod (2 ^ lg) := by rw [Int.fmod_eq_emod_of_nonneg _ (by omega)]; exact Int.emod_nonneg _ (by omega)
  have q1 : (ns.getD (Int.toNat 1) 0).fmod (2 ^ lg) < 2 ^ lg := by rw [Int.fmod_eq_emod_of_nonneg _ (by omega)]; exact Int.emod_lt_of_pos _ hz0
  refine stageB hlg7 iI hI9 hlo9 hhi9 hbits q0 q1 hco ?a1 lX ?a2 ?a3 ?a4 ?a5 ?a6 ?a8 ?a9 ?a10 ?a11 ?a12 rfl rfl rfl hΓ1 K0 F9 KX N10 T ?ret
  case a1 => exact beq_eq_false_iff_ne.mpr (fun e => by have e2 : @Eq Nat _ 1 := e; have e3 := lD.2.2.2.2.2.2.2.1; omega)
  case a2 => exact lD.1
  case a3 => exact lD.2.2.1
  case a4 => exact lD.2.2.2.2.1
  case a5 => exact lD.2.2.2.2.2.2.2.1
  case a6 => exact List.forall_mem_cons.mpr ⟨Nat.ne_of_lt lD.2.1, List.forall_mem_cons.mpr ⟨Nat.ne_of_lt lD.2.2.2.1, List.forall_mem_cons.mpr ⟨Nat.ne_of_lt lD.2.2.2.2.2.1, List.forall_mem_cons.mpr ⟨Nat.ne_of_lt lD.2.2.2.2.2.2.1, List.forall_mem_nil _⟩⟩⟩⟩
  case a8 => exact List.forall_mem_cons.mpr ⟨by simp, List.forall_mem_cons.mpr ⟨by simp, List.forall_mem_cons.mpr ⟨by simp, List.forall_mem_cons.mpr ⟨by simp, List.forall_mem_nil _⟩⟩⟩⟩
  case a9 => exact lI.2.1
  case a10 => exact lI.2.2.2.1
  case a11 => exact lI.2.2.2.2.2.2.1
  case a12 => exact List.forall_mem_cons.mpr ⟨lI.1, List.forall_mem_cons.mpr ⟨lI.2.2.1, List.forall_mem_cons.mpr ⟨lI.2.2.2.2.1, List.forall_mem_cons.mpr ⟨lI.2.2.2.2.2.1, List.forall_mem_nil _⟩⟩⟩⟩
  case ret =>
    intro h' g' tk' m' Fz hgz
    exact good_true Fz (hgz (AllBare.of_eq hg)) (raisesW_false (by wrow_none_raised)) (postW_of (by wrow_shape) (by wtm_val) (by str_meet; first | done | w_fin)) rfl
end Mine
end

theorem PySem.Challenge.cw_fc5025_04_holds : PySem.Challenge.rw_fc5025_04.Holds := by
  exact Mine.main
