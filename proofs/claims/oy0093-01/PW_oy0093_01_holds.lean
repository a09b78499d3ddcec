import PyProof.Rows.All
import Wide.All
import OpenK.AllK
import Wide.FinOn
import PySem.Challenge.RW_oy0093_01
set_option Elab.async false
set_option compiler.extract_closed false
/- part Hd -/
section
open PySem PySem.W PyProof.Rows
set_option maxRecDepth 100000
set_option maxHeartbeats 8000000
namespace Mine
open_top hd for PySem.Challenge.rw_oy0093_01
end Mine
end
/- part Base -/
section
open PySem PySem.W PyProof.Rows PySem.Calls
set_option maxRecDepth 100000
set_option maxHeartbeats 8000000
namespace Mine
noncomputable abbrev LL : List Str := looseW Mine.hd.view_39 [Str.ofString "bytes_types", Str.ofString "a2b_base64", Str.ofString "b64decode", Str.ofString "_twin_re_1", Str.ofString "_twin_re_2", Str.ofString "_filemode_table"]

/-- what a call leaves: everything that stood, and the objects of tl new -/
def Left (h h' : Heap) (tl : List (Addr × Obj)) : Prop := (∀ b o, h.get? b = some o → h'.get? b = some o) ∧ ∀ p ∈ tl, h'.get? p.1 = some p.2 ∧ h.get? p.1 = none

/-- the surroundings of a call from a frame on envs -/
abbrev around (dp un : Nat) (gd : Option (List Code)) (envs : List Env) : Around := { handled := none, depth := dp, frames := some envs, guards := gd, units := un }
/-- a call of the def at f with these arguments, from any state that holds the text's own objects, comes back by Good. -/
def Says (n : Nat) (w : World) (mean : ExcName → Option Value) (mg mb : Str → Option Value) (f : Addr) (args : List Value) (Good : Value → List (Addr × Obj) → Prop) : Prop :=
  ∀ (dp un : Nat) (gd : Option (List Code)) (base : Heap) (envs : List Env) (h₀ : Heap) (gg : Array GenState) (dd : Drawn) (tt : Nat) (oo : OsState) (R : Result → Shared → Prop),
    Below (around dp un gd envs) base envs h₀ → (Mine.hd.heap_39 w.params).In h₀ → Top Mine.hd.view_39 LL mean mg mb h₀ → dp + n < recursionLimit → un + 50 * n < cLine →
    (∀ v tl h' tk', Good v tl → Left h₀ h' tl → R (.ok (.ret v)) ⟨h', gg, dd, tk', oo⟩) →
    codeAny (model PySem.Challenge.rw_oy0093_01.row.prog w) (around dp un gd envs) (.call (.ref f) ⟨args, []⟩) R ⟨h₀, gg, dd, tt, oo⟩

theorem below_push {A₀ A : Around} {base h₀ h : Heap} {outer : List Env} {env : Env} {L : Addr} {m : Str → Option Value} (B : Below A₀ base outer h₀) (F : Fr h₀ L h m) (hA : A.frames = some (env :: outer)) (hf : env.frame = some L) (hk : env.scope.kind = .function) :
    Below A base (env :: outer) h := by
  have hnew : base.get? L = none := by
    cases hq : base.get? L with
    | none => rfl
    | some o => exact absurd (Nat.lt_of_lt_of_le (Heap.lt_size (B.stays L o hq)) F.above) (Nat.lt_irrefl _)
  exact ⟨hA, fun b o e => F.keep b o (B.stays b o e), .cons (by rw [hk]; decide) hf F.ns hnew (B.frames.of_keeps fun b o e _ => ⟨o, F.keep b o e, rfl⟩)⟩

theorem left_news {h₀ h h' : Heap} {L : Addr} {m : Str → Option Value} {news tl : List (Addr × Obj)} (F : Fr h₀ L h m) (N : News h₀ L h news) (K : Left h h' tl) : Fr h₀ L h' m ∧ News h₀ L h' (tl ++ news) := by
  refine ⟨⟨F.ns.keeps K.1, fun b o e => K.1 b o (F.keep b o e), F.above⟩, fun p hp => ?_⟩
  rcases List.mem_append.mp hp with hp | hp
  · have q := K.2 p hp
    refine ⟨q.1, fun e => ?_, ?_⟩
    · obtain ⟨o, _, _, hL, _⟩ := F.ns
      rw [e, hL] at q; cases q.2
    · cases z : h₀.get? p.1 with
      | none => rfl
      | some o => have := F.keep _ _ z; rw [q.2] at this; cases this
  · exact ⟨K.1 _ _ (N p hp).1, (N p hp).2⟩

theorem Says.use {n : Nat} {w : World} {mean : ExcName → Option Value} {mg mb : Str → Option Value} {f : Addr} {args : List Value} {Good : Value → List (Addr × Obj) → Prop} (S : Says n w mean mg mb f args Good)
    {A : Around} {base h₀ h : Heap} {outer : List Env} {env : Env} {L : Addr} {m : Str → Option Value} {news : List (Addr × Obj)} {gg : Array GenState} {dd : Drawn} {tt : Nat} {oo : OsState} {Q E : Value → Shared → Prop}
    (B : Below A base outer h₀) (F : Fr h₀ L h m) (X : (Mine.hd.heap_39 w.params).In h₀) (N : News h₀ L h news) (T : Top Mine.hd.view_39 LL mean mg mb h₀)
    (hf : env.frame = some L) (hk : env.scope.kind = .function) (hh : A.handled = none) (hd : A.depth + 1 + n < recursionLimit) (hu : A.units + 3 + 50 * n < cLine)
    (ret : ∀ v tl h' tk', Good v tl → Fr h₀ L h' m → News h₀ L h' (tl ++ news) → (∀ p ∈ news, ∀ q ∈ tl, q.1 ≠ p.1) → Q v ⟨h', gg, dd, tk', oo⟩) :
    wpAny (model PySem.Challenge.rw_oy0093_01.row.prog w) (A.deeper env) (call (.ref f) args) Q E ⟨h, gg, dd, tt, oo⟩ :=
  have e : A.deeper env = around (A.depth + 1) (A.units + 3) A.guards (env :: outer) := by
    have st := B.stack
    obtain ⟨a1, a2, a3, a4, a5⟩ := A
    simp only at hh st
    subst hh st
    rfl
  e ▸ wpAny_call (S (A.depth + 1) (A.units + 3) A.guards base (env :: outer) h gg dd tt oo _ (below_push B F rfl hf hk) (X.keeps F.keep) (T.keeps F.keep) hd hu fun v tl h' tk' g K =>
    ret v tl h' tk' g (left_news F N K).1 (left_news F N K).2 fun p hp q hq e => by
      have a := (N p hp).1
      have b := (K.2 q hq).2
      rw [e, a] at b; cases b)

theorem enter {w : World} {K : Frag} {mean : ExcName → Option Value} {mg mb : Str → Option Value} {A : Around} {h₀ : Heap} {gg : Array GenState} {dd : Drawn} {tt : Nat} {oo : OsState} {prog p : Program} {loose : List Str}
    {R : Result → Shared → Prop} {name qual : Str} {params : Arguments} {body : List Stmt} {scope : Scope} {dV kV doc pm cdv ct oc : Value} {an od : Option Addr} {osl : Array (Option Value)} {f : Addr} {args : Args} {binds : List (Str × Value)}
    (X : K.In h₀) (T : Top p loose mean mg mb h₀)
    (ho : K.lookup f = some ⟨oc, od, .func (fnOf name qual params body scope dV kV doc pm an cdv ct), osl⟩) (hcd : codeIn K cdv qual = true) (hroom : A.depth < recursionLimit)
    (hbind : BindsTo ⟨h₀, gg, dd, tt, oo⟩ (fnOf name qual params body scope dV kV doc pm an cdv ct) args binds) (hloc : ∀ y ∈ binds, scope.names.lookup y.1 = some .local)
    (h : ∀ L' h₁ tk, Fr h₀ L' h₁ (fun y => binds.reverse.lookup y) → News h₀ L' h₁ [] →
      wpAny (model prog w) (A.deeper (envOf qual scope L' f cdv)) (execs body (envOf qual scope L' f cdv))
        (fun fl s' => R (.ok (.ret (match fl with | .ret v => v | _ => .none))) s')
        (fun e s' => wpAny (model prog w) (A.deeper (envOf qual scope L' f cdv)) (leaving (envOf qual scope L' f cdv) e) (fun _ s'' => R (.error e) s'') (fun e' s'' => R (.error e') s'') s')
        ⟨h₁, gg, dd, tk, oo⟩)
    (hco : scope.isCoroutine = false) (hgen : scope.isGenerator = false) (hk : scope.kind = .function)
    (hcell : ∀ x ∈ scope.names, x.2 ≠ .cell) : codeAny (model prog w) A (.call (.ref f) args) R ⟨h₀, gg, dd, tt, oo⟩ :=
  codeAny_call_def (fd := fnOf name qual params body scope dV kV doc pm an cdv ct) (body := body) (binds := binds) hroom (X _ _ ho) rfl T.nolimit (codeRec_of X hcd) rfl hbind hcell hloc
    (fun h₁ hns hk₁ => h _ h₁ _ ⟨hns, hk₁, Nat.le_refl _⟩ News.nil) hco hgen hk

def retI (x : Int) (v : Value) (tl : List (Addr × Obj)) : Prop := tl = [] ∧ ∃ t, v = .int x t
def retB (x : Bool) (v : Value) (tl : List (Addr × Obj)) : Prop := tl = [] ∧ v = .bool x
def retS (x : Str) (v : Value) (tl : List (Addr × Obj)) : Prop := tl = [] ∧ ∃ t, v = .str x t
def retY (x : Array UInt8) (v : Value) (tl : List (Addr × Obj)) : Prop := tl = [] ∧ ∃ t, v = .bytes x t

section
variable {h₀ h' : Heap} {L : Addr} {m : Str → Option Value} {gg : Array GenState} {dd : Drawn} {oo : OsState} {R : Result → Shared → Prop} {t : Tok} {tk' : Nat}
theorem left_of (F : Fr h₀ L h' m) : Left h₀ h' [] := ⟨F.keep, fun _ hp => nomatch hp⟩
theorem endI {x y : Int} (hret : ∀ v tl h' tk', retI x v tl → Left h₀ h' tl → R (.ok (.ret v)) ⟨h', gg, dd, tk', oo⟩) (F : Fr h₀ L h' m) (e : y = x) : R (.ok (.ret (.int y t))) ⟨h', gg, dd, tk', oo⟩ :=
  hret _ [] _ _ ⟨rfl, t, by rw [e]⟩ (left_of F)
theorem endB {x y : Bool} (hret : ∀ v tl h' tk', retB x v tl → Left h₀ h' tl → R (.ok (.ret v)) ⟨h', gg, dd, tk', oo⟩) (F : Fr h₀ L h' m) (e : y = x) : R (.ok (.ret (.bool y))) ⟨h', gg, dd, tk', oo⟩ :=
  hret _ [] _ _ ⟨rfl, by rw [e]⟩ (left_of F)
theorem endS {x y : Str} (hret : ∀ v tl h' tk', retS x v tl → Left h₀ h' tl → R (.ok (.ret v)) ⟨h', gg, dd, tk', oo⟩) (F : Fr h₀ L h' m) (e : y = x) : R (.ok (.ret (.str y t))) ⟨h', gg, dd, tk', oo⟩ :=
  hret _ [] _ _ ⟨rfl, t, by rw [e]⟩ (left_of F)
theorem endY {x y : Array UInt8} (hret : ∀ v tl h' tk', retY x v tl → Left h₀ h' tl → R (.ok (.ret v)) ⟨h', gg, dd, tk', oo⟩) (F : Fr h₀ L h' m) (e : y = x) : R (.ok (.ret (.bytes y t))) ⟨h', gg, dd, tk', oo⟩ :=
  hret _ [] _ _ ⟨rfl, t, by rw [e]⟩ (left_of F)
end
/-- a step stopped on purpose -/
def Halt (p : Prop) : Prop := p
theorem Halt.mk {p : Prop} (h : Halt p) : p := h
section
variable {M : Model} {A : Around} {E : Value → Shared → Prop} {env : Env} {p pos : Pos} {body orelse : List Stmt} {Q : Flow → Shared → Prop} {s : Shared}
theorem halt_if {x y : Expr} (h : Halt (wpAny M A (exec (.If (.BoolOp .And [x, y] p) body orelse pos) env) Q E s)) :
    wpAny M A (exec (.If (.BoolOp .And [x, y] p) body orelse pos) env) Q E s := h
theorem halt_chain {l : Expr} {o1 o2 : CmpOp} {rs : List Expr} (h : Halt (wpAny M A (exec (.If (.Compare l [o1, o2] rs p) body orelse pos) env) Q E s)) :
    wpAny M A (exec (.If (.Compare l [o1, o2] rs p) body orelse pos) env) Q E s := h
/-- a test's ways brought together: one body, one way past it -/
theorem if_merge (P : Prop) {h : Heap} {gg : Array GenState} {dd : Drawn} {tk : Nat} {oo : OsState} {test : Expr}
    (ht : ∀ Q' : Bool → Shared → Prop, (P → ∀ tk', Q' true ⟨h, gg, dd, tk', oo⟩) → (¬ P → ∀ tk', Q' false ⟨h, gg, dd, tk', oo⟩) → wpAny M A (isTrue test env (eval test env)) Q' E ⟨h, gg, dd, tk, oo⟩)
    (hT : P → ∀ tk', wpAny M A (execs body env) Q E ⟨h, gg, dd, tk', oo⟩) (hF : ¬ P → ∀ tk', wpAny M A (execs orelse env) Q E ⟨h, gg, dd, tk', oo⟩) :
    wpAny M A (exec (.If test body orelse pos) env) Q E ⟨h, gg, dd, tk, oo⟩ :=
  wpAny_If (ht _ (fun p tk' => hT p tk') (fun p tk' => hF p tk'))
theorem chain_end {P₁ P₂ : Prop} [Decidable P₂] {h : Heap} {gg : Array GenState} {dd : Drawn} {oo : OsState} {Q' : Bool → Shared → Prop} (qT : P₁ ∧ P₂ → ∀ tk', Q' true ⟨h, gg, dd, tk', oo⟩) (qF : ¬ (P₁ ∧ P₂) → ∀ tk', Q' false ⟨h, gg, dd, tk', oo⟩)
    (h1 : P₁) (tk' : Nat) : Q' (decide P₂) ⟨h, gg, dd, tk', oo⟩ := by
  by_cases h2 : P₂
  · rw [decide_eq_true h2]; exact qT ⟨h1, h2⟩ _
  · rw [decide_eq_false h2]; exact qF (fun h => h2 h.2) _
end
section
variable {prog : Program} {w : World} {A : Around} {E : Value → Shared → Prop} {env : Env} {Q : Value → Shared → Prop} {h : Heap} {gg : Array GenState} {dd : Drawn} {tk : Nat} {oo : OsState} {a b : Int} {t u : Tok}
theorem const_int {M : Model} {i : Int} {k : Nat} {pos : Pos} (hq : Q (.int i tk) ⟨h, gg, dd, tk + 1, oo⟩) : wpAny M A (eval (.Constant (.int i) k pos) env) Q E ⟨h, gg, dd, tk, oo⟩ := wpAny_Constant_int hq
theorem add_int' (hq : Q (.int (a + b) tk) ⟨h, gg, dd, tk + 1, oo⟩) : wpAny (model prog w) A (binaryOp .Add (.int a t) (.int b u)) Q E ⟨h, gg, dd, tk, oo⟩ := add_int hq
end
end Mine
end
theorem Mine.gapT1 : (if True then True else True) := by
  w_top off
  (try walk1)
  w_top off
  all_goals first | trivial | simp
/- part T1 -/
section
open PySem PySem.W PyProof.Rows PySem.Calls
set_option maxRecDepth 100000
set_option maxHeartbeats 2000000
namespace Mine
local macro_rules | `(tactic| walk_at "mine enter") => `(tactic| (
  k_dflt (refine' enter ?kX ?kT ?k6 ?k7 ?k8 ?k9 ?kB ?_ ?c2 ?c3 ?c4 ?c5; (case kX => k_asm); (case kT => k_asm); (case k6 => k_is); (case k7 => k_is); (case k8 => (dsimp only [around]; omega)); (case k9 => first | exact BindsTo.of_eq rfl | walk_at "mine binds"); (case kB => exact locs rfl); (case c2 => exact rfl); (case c3 => exact rfl); (case c4 => exact rfl); (case c5 => decide); k_whole); intro L' h' tk' F' N'; (try dsimp only); (try k_fold)))
local macro_rules | `(tactic| walk_at "mine says") => `(tactic| (
   (case k1 => k_asm); (case k2 => k_asm); (case k3 => k_asm); (case k4 => k_asm); (case k5 => k_asm); (try (case kS => walk_at "mine whom")); (case k6 => exact rfl); (case k7 => exact rfl); (case k8 => exact rfl); (case k9 => first | (dsimp only [around]; omega) | decide); (case k10 => first | (dsimp only [around]; omega) | decide); k_whole))
def b64v (c : Int) : Int := if 65 ≤ c ∧ c ≤ 90 then c - 65 else if 97 ≤ c ∧ c ≤ 122 then c - 71 else if 48 ≤ c ∧ c ≤ 57 then c + 4 else if c = 43 then 62 else if c = 47 then 63 else 64
local macro_rules | `(tactic| walk_at "exec If") => `(tactic| (k_here; (with_reducible refine halt_chain ?_)))
theorem b64_value_says {w mean mg mb} (c : Int) (t : Tok) : Says 1 w mean mg mb 80 [.int c t] (retI (b64v c)) := by
  unfold Says; k_fill
  intro dp un gd base envs h₀ gg dd tt oo R B X T hd hu hret
  walk_at "mine enter"
  k_steps
  unfold Halt
  refine if_merge (65 ≤ c ∧ c ≤ 90) ?_ ?_ ?_
  · intro Q' qT qF
    k_steps
    · exact chain_end qT qF (by assumption) _
    · exact qF (fun h => absurd h.1 (by assumption)) _
  · intro h1 tk'
    k_steps
    refine endI hret (by k_asm) ?_
    rw [b64v, if_pos h1]
  · intro h1 tk'
    k_steps
    unfold Halt
    refine if_merge (97 ≤ c ∧ c ≤ 122) ?_ ?_ ?_
    · intro Q' qT qF
      k_steps
      · exact chain_end qT qF (by assumption) _
      · exact qF (fun h => absurd h.1 (by assumption)) _
    · intro h2 tk'
      k_steps
      refine endI hret (by k_asm) ?_
      rw [b64v, if_neg h1, if_pos h2]
    · intro h2 tk'
      k_steps
      unfold Halt
      refine if_merge (48 ≤ c ∧ c ≤ 57) ?_ ?_ ?_
      · intro Q' qT qF
        k_steps
        · exact chain_end qT qF (by assumption) _
        · exact qF (fun h => absurd h.1 (by assumption)) _
      · intro h3 tk'
        k_steps
        refine endI hret (by k_asm) ?_
        rw [b64v, if_neg h1, if_neg h2, if_pos h3]
      · intro h3 tk'
        k_steps
        all_goals (refine endI hret (by k_asm) ?_)
        · rw [b64v, if_neg h1, if_neg h2, if_neg h3, if_pos (by assumption)]
        · rw [b64v, if_neg h1, if_neg h2, if_neg h3, if_neg (by assumption), if_pos (by assumption)]
        · rw [b64v, if_neg h1, if_neg h2, if_neg h3, if_neg (by assumption), if_neg (by assumption)]
theorem S_IFMT_says {w mean mg mb} (c : Int) (t : Tok) : Says 1 w mean mg mb 120 [.int c t] (retI (Builtin.bitAnd c 61440)) := by
  unfold Says; k_fill
  intro dp un gd base envs h₀ gg dd tt oo R B X T hd hu hret
  walk_at "mine enter"
  k_steps
  all_goals (refine endI hret (by k_asm) ?_)
  rfl
local macro_rules | `(tactic| walk_at "mine use") => `(tactic| (refine' Says.use ?kS ?k1 ?k2 ?k3 ?k4 ?k5 ?k6 ?k7 ?k8 ?k9 ?k10 ?_; walk_at "mine says"))
local macro_rules | `(tactic| walk_at "mine came") => `(tactic| (intro v' tl' h' tk' hg' F' N' hn'; (first | (obtain ⟨ht', t', hv'⟩ := hg'; subst ht' hv') | (obtain ⟨ht', hv'⟩ := hg'; subst ht' hv')); (try dsimp only [List.nil_append] at N'); clear hn'; (try k_sweep)))
local macro_rules | `(tactic| walk_at "call ref") => `(tactic| (k_here; k_dflt (walk_at "mine use"); walk_at "mine came"))
local macro_rules | `(tactic| walk_at "mine whom") => `(tactic| exact S_IFMT_says _ _)
theorem S_ISDIR_says {w mean mg mb} (c : Int) (t : Tok) : Says 2 w mean mg mb 127 [.int c t] (retB (decide (Builtin.bitAnd c 61440 = 16384))) := by
  unfold Says; k_fill
  intro dp un gd base envs h₀ gg dd tt oo R B X T hd hu hret
  walk_at "mine enter"
  k_steps
  all_goals (refine endB hret (by k_asm) ?_)
  all_goals rfl
theorem S_ISFIFO_says {w mean mg mb} (c : Int) (t : Tok) : Says 2 w mean mg mb 134 [.int c t] (retB (decide (Builtin.bitAnd c 61440 = 4096))) := by
  unfold Says; k_fill
  intro dp un gd base envs h₀ gg dd tt oo R B X T hd hu hret
  walk_at "mine enter"
  k_steps
  all_goals (refine endB hret (by k_asm) ?_)
  all_goals rfl
theorem S_ISLNK_says {w mean mg mb} (c : Int) (t : Tok) : Says 2 w mean mg mb 141 [.int c t] (retB (decide (Builtin.bitAnd c 61440 = 40960))) := by
  unfold Says; k_fill
  intro dp un gd base envs h₀ gg dd tt oo R B X T hd hu hret
  walk_at "mine enter"
  k_steps
  all_goals (refine endB hret (by k_asm) ?_)
  all_goals rfl
theorem truth_says {w mean mg mb} (b : Bool) : Says 1 w mean mg mb 73 [.bool b] (retB b) := by
  unfold Says; k_fill
  intro dp un gd base envs h₀ gg dd tt oo R B X T hd hu hret
  walk_at "mine enter"
  k_steps
  all_goals (refine endB hret (by k_asm) ?_)
  all_goals (first | rfl | simp_all)
end Mine
end
/- part SaysP -/
section
open PySem PySem.W PyProof.Rows PySem.Calls
set_option maxRecDepth 100000
set_option maxHeartbeats 2000000
namespace Mine
/-- a call's contract from heaps where Pre holds -/
def SaysP (n : Nat) (w : World) (mean : ExcName → Option Value) (mg mb : Str → Option Value) (f : Addr) (args : List Value) (Pre : Heap → Prop) (Good : Value → List (Addr × Obj) → Prop) : Prop :=
  ∀ (dp un : Nat) (gd : Option (List Code)) (base : Heap) (envs : List Env) (h₀ : Heap) (gg : Array GenState) (dd : Drawn) (tt : Nat) (oo : OsState) (R : Result → Shared → Prop),
    Below (around dp un gd envs) base envs h₀ → (Mine.hd.heap_39 w.params).In h₀ → Top Mine.hd.view_39 LL mean mg mb h₀ → dp + n < recursionLimit → un + 50 * n < cLine → Pre h₀ →
    (∀ v tl h' tk', Good v tl → Left h₀ h' tl → R (.ok (.ret v)) ⟨h', gg, dd, tk', oo⟩) →
    codeAny (model PySem.Challenge.rw_oy0093_01.row.prog w) (around dp un gd envs) (.call (.ref f) ⟨args, []⟩) R ⟨h₀, gg, dd, tt, oo⟩
theorem SaysP.use {n : Nat} {w : World} {mean : ExcName → Option Value} {mg mb : Str → Option Value} {f : Addr} {args : List Value} {Pre : Heap → Prop} {Good : Value → List (Addr × Obj) → Prop} (S : SaysP n w mean mg mb f args Pre Good)
    {A : Around} {base h₀ h : Heap} {outer : List Env} {env : Env} {L : Addr} {m : Str → Option Value} {news : List (Addr × Obj)} {gg : Array GenState} {dd : Drawn} {tt : Nat} {oo : OsState} {Q E : Value → Shared → Prop}
    (B : Below A base outer h₀) (F : Fr h₀ L h m) (X : (Mine.hd.heap_39 w.params).In h₀) (N : News h₀ L h news) (T : Top Mine.hd.view_39 LL mean mg mb h₀)
    (hf : env.frame = some L) (hk : env.scope.kind = .function) (hh : A.handled = none) (hd : A.depth + 1 + n < recursionLimit) (hu : A.units + 3 + 50 * n < cLine) (hp : Pre h)
    (ret : ∀ v tl h' tk', Good v tl → Fr h₀ L h' m → News h₀ L h' (tl ++ news) → (∀ p ∈ news, ∀ q ∈ tl, q.1 ≠ p.1) → Q v ⟨h', gg, dd, tk', oo⟩) :
    wpAny (model PySem.Challenge.rw_oy0093_01.row.prog w) (A.deeper env) (call (.ref f) args) Q E ⟨h, gg, dd, tt, oo⟩ :=
  have e : A.deeper env = around (A.depth + 1) (A.units + 3) A.guards (env :: outer) := by
    have st := B.stack
    obtain ⟨a1, a2, a3, a4, a5⟩ := A
    simp only at hh st
    subst hh st
    rfl
  e ▸ wpAny_call (S (A.depth + 1) (A.units + 3) A.guards base (env :: outer) h gg dd tt oo _ (below_push B F rfl hf hk) (X.keeps F.keep) (T.keeps F.keep) hd hu hp fun v tl h' tk' g K =>
    ret v tl h' tk' g (left_news F N K).1 (left_news F N K).2 fun p hp q hq e => by
      have a := (N p hp).1
      have b := (K.2 q hq).2
      rw [e, a] at b; cases b)
end Mine
end
/- part EnumT -/
section
open PySem PySem.W PyProof.Rows PySem.Calls
open AutoSeq1 (wpAny_loadPart')
set_option maxRecDepth 100000
namespace Mine
section
variable {prog : Program} {w : World} {A : Around} {E : Value → Shared → Prop} {s : Shared}
theorem nextOf_tuple_item {it l : Addr} {i : Nat} {items} {x : Value} {Q : Value → Shared → Prop} (hit : s.heap.IsTupleIter it l i)
    (hl : s.heap.IsTuple l items) (hx : items[i]? = some x)
    (hQ : ∀ h', h'.IsTupleIter it l (i + 1) → Heap.SameBut it s.heap h' → Q x { s with heap := h' }) :
    wpAny (model prog w) A (Builtin.SmallTypes.nextOf (.ref it)) Q E s := by
  obtain ⟨o, ho, hc, hd⟩ := id hit
  obtain ⟨ol, hol, _, nl, hdl⟩ := hl
  unfold Builtin.SmallTypes.nextOf
  refine wpAny_bind (wpAny_callSpecial?_slot (name := Str.ofString "__next__") hit.typeIs F.slot_tuple_iterator_next
    (wpAny_call_entry F.slot_tuple_iterator_next hit.typeIs F.entry_tuple_iterator_next ?_ (F.args_tuple_iterator_next_1 _)))
  show wpAny _ _ (field (.ref it) 0 >>= _) _ _ s
  refine wpAny_bind (wpAny_field ho hd (x := .ref l) rfl ?_)
  show wpAny _ _ (if (Value.ref l == Value.none) = true then _ else _) _ _ s
  rw [if_neg (show ¬ ((Value.ref l == Value.none) = true) from Bool.false_ne_true)]
  show wpAny _ _ (field (.ref it) 1 >>= _) _ _ s
  refine wpAny_bind (wpAny_field ho hd (x := .int i 0) rfl ?_)
  show wpAny _ _ (seqItems? (.ref l) >>= _) _ _ s
  refine wpAny_bind (wpAny_seqItems hol hdl ?_)
  simp only [Int.toNat_natCast, hx]
  refine wpAny_bind (wpAny_setField ho hd (by simp) (wpAny_pure ⟨x, rfl, wpAny_pure (hQ _ ?_ (Heap.SameBut.update ..))⟩))
  exact ⟨_, Heap.get?_update_self _ ho (Obj.isFreed_of_fields (Obj.data_mapFields hd _)), (Obj.cls_mapFields ..).trans hc, by
    rw [Obj.data_mapFields hd]; simp [rawInt]⟩
theorem nextOf_tuple_end {it l : Addr} {i : Nat} {items} {Q : Value → Shared → Prop} (hh : A.handled = none)
    (hit : s.heap.IsTupleIter it l i) (hl : s.heap.IsTuple l items) (hx : items[i]? = none)
    (hE : ∀ h' e, Heap.ExtBut it s.heap h' → (∃ o, h'.get? e = some o ∧ o.cls = .type "StopIteration") → E (.ref e) { s with heap := h' }) :
    wpAny (model prog w) A (Builtin.SmallTypes.nextOf (.ref it)) Q E s := by
  obtain ⟨o, ho, hc, hd⟩ := id hit
  obtain ⟨ol, hol, _, nl, hdl⟩ := hl
  unfold Builtin.SmallTypes.nextOf
  refine wpAny_bind (wpAny_callSpecial?_slot (name := Str.ofString "__next__") hit.typeIs F.slot_tuple_iterator_next
    (wpAny_call_entry F.slot_tuple_iterator_next hit.typeIs F.entry_tuple_iterator_next ?_ (F.args_tuple_iterator_next_1 _)))
  show wpAny _ _ (field (.ref it) 0 >>= _) _ _ s
  refine wpAny_bind (wpAny_field ho hd (x := .ref l) rfl ?_)
  show wpAny _ _ (if (Value.ref l == Value.none) = true then _ else _) _ _ s
  rw [if_neg (show ¬ ((Value.ref l == Value.none) = true) from Bool.false_ne_true)]
  show wpAny _ _ (field (.ref it) 1 >>= _) _ _ s
  refine wpAny_bind (wpAny_field ho hd (x := .int i 0) rfl ?_)
  show wpAny _ _ (seqItems? (.ref l) >>= _) _ _ s
  refine wpAny_bind (wpAny_seqItems hol hdl ?_)
  simp only [Int.toNat_natCast, hx]
  refine wpAny_bind (wpAny_rule (wpAny_bind (wpAny_setField ho hd (by simp) ?_)))
  show wpAny _ _ (newExc (.type "StopIteration") [] >>= _) _ _ _
  refine wpAny_bind ?_
  simp only [newExc, newTuple]
  refine wpAny_bind (wpAny_newObj_type ?_ (by size_fits))
  refine wpAny_bind (m := firstArgMember _ _) (wpAny_of_eq (a := Value.none) (by first | rfl | (simp only [firstArgMember]; rfl)) ?_)
  refine wpAny_newObj_type ?_ (by size_fits)
  simp only [raiseNew]
  refine wpAny_bind (wpAny_handled ?_)
  first | rw [show A.in1.handled = none from hh] | rw [hh]
  refine wpAny_bind (wpAny_pure (wpAny_throw ?_))
  exact hE _ _ (((Heap.SameBut.update ..).extBut.push _).push _) ⟨_, Heap.get?_push_size _ rfl, rfl⟩
end
theorem drawsTuple {prog : Program} {w : World} {A : Around} (hh : A.handled = none) (it l : Addr) (hne : l ≠ it) (items : Array Value) :
    Draws prog w A it [it, l] items.size (fun i v => items[i]? = some v) (fun i h => h.IsTupleIter it l i ∧ h.IsTuple l items) where
  live := fun _ _ st => let ⟨o, ho, _⟩ := st.1; ⟨o, ho⟩
  frame := fun _ _ _ st hk => ⟨st.1.at fun o e => hk it (by simp) o e, st.2.at fun o e => hk l (by simp) o e⟩
  item := fun i s Q E hi st hQ => by
    refine nextOf_tuple_item st.1 st.2 (x := items[i]) (by simp [hi]) fun h' hit' hs' => ?_
    exact hQ _ h' s.toks (by simp [hi]) ⟨hit', st.2.extBut hs'.extBut hne⟩ hs'
  done := fun s Q E st hE => nextOf_tuple_end hh st.1 st.2 (by simp) hE
theorem meets_enum_newT (l : Addr) (items : Array Value) (n : Nat) (dct : Option Addr) (sl : Array (Option Value)) :
    Meets (Builtin.«enumerate.__new__» ⟨[.type "enumerate", .ref l], []⟩) (fun _ R s => s.heap.get? l = some { cls := .type "tuple", dict := dct, data := .seq items n, slots := sl } ∧
      R (.ok (.ret (.ref (s.heap.push { cls := .type "tuple_iterator", data := .fields #[.ref l, .int 0 0] }).objs.size)))
        { s with heap := (s.heap.push { cls := .type "tuple_iterator", data := .fields #[.ref l, .int 0 0] }).push { cls := .type "enumerate", data := .fields #[.none, .bool false, .ref s.heap.objs.size, rawInt 0, .none, .none] } }) :=
  .of_wp fun prog w A R s h => by
    obtain ⟨hp, g, d, tk, os⟩ := s; obtain ⟨hl, h⟩ := h
    have hsub := sub_enumerate
    have hL : Heap.IsTuple (Shared.heap ⟨hp, g, d, tk, os⟩) l items := ⟨_, hl, rfl, n, rfl⟩
    wp_walk using wpAny_loadPart' hl
    refine wpAny_stack_any fun st => wpAny_pure ?_
    split
    · rename_i c _ _ _ _ _
      cases (c == Value.type "enumerate")
      · wp_walk using wpAny_loadPart' hl, wpAny_pyIter_tuple hL
        exact ⟨_, rfl, h⟩
      · wp_walk using wpAny_loadPart' hl, wpAny_pyIter_tuple hL
        exact ⟨_, rfl, h⟩
    · wp_walk using wpAny_loadPart' hl, wpAny_pyIter_tuple hL
      exact ⟨_, rfl, h⟩
theorem call_enum_tuple {prog : Program} {w : World} {A : Around} {E : Value → Shared → Prop} {s : Shared} {l : Addr} {items : Array Value} {Q : Value → Shared → Prop} (hL : s.heap.IsTuple l items)
    (h : ∀ h', IsEnum h' (s.heap.objs.size + 1) s.heap.objs.size 0 .none → h'.IsTupleIter s.heap.objs.size l 0 → h'.objs.size = s.heap.objs.size + 2 →
      (∀ b o, s.heap.get? b = some o → h'.get? b = some o) → Q (.ref (s.heap.objs.size + 1)) { s with heap := h' }) :
    wpAny (model prog w) A (call (.type "enumerate") [.ref l]) Q E s := by
  obtain ⟨⟨c, dct, dt, sl⟩, hl, hc, n, hd⟩ := hL
  replace hc : c = .type "tuple" := hc
  replace hd : dt = .seq items n := hd
  subst hc hd
  refine callType_new F.called_enumerate (by decide) (F.typeCall_enumerate_1 _) (F.newCall_enumerate_1 _) (fun obj => F.args_object_init_2 obj _) F.entry_enumerate_new
    (meets_enum_newT l items n dct sl) ⟨hl, ?_⟩
  have hz : (s.heap.push { cls := .type "tuple_iterator", data := .fields #[.ref l, .int 0 0] }).objs.size = s.heap.objs.size + 1 := Heap.size_push ..
  show _ ∧ _
  rw [hz]
  have he : IsEnum ((s.heap.push { cls := .type "tuple_iterator", data := .fields #[.ref l, .int 0 0] }).push
      { cls := .type "enumerate", data := .fields #[.none, .bool false, .ref s.heap.objs.size, rawInt 0, .none, .none] }) (s.heap.objs.size + 1) s.heap.objs.size 0 .none := by
    have := Heap.get?_push_size (s.heap.push { cls := .type "tuple_iterator", data := .fields #[.ref l, .int 0 0] })
      (o := { cls := .type "enumerate", data := .fields #[.none, .bool false, .ref s.heap.objs.size, rawInt 0, .none, .none] }) rfl
    rw [hz] at this; exact this
  refine ⟨⟨_, he, rfl⟩, h _ he ⟨_, Heap.get?_push_of_some _ (Heap.get?_push_size _ rfl), rfl, rfl⟩ (by rw [Heap.size_push, hz]) fun b o x => Heap.get?_push_of_some _ (Heap.get?_push_of_some _ x)⟩
end Mine
end
/- part Loop -/
section
open PySem PySem.W PyProof.Rows PySem.Calls
set_option maxRecDepth 100000
namespace Mine
section
variable {prog : Program} {w : World} {A : Around} {h₀ : Heap} {env : Env} {target : PySem.Expr} {body orelse : List Stmt} {gg : Array GenState} {dd : Drawn} {oo : OsState}

theorem own_one {own : List (Addr × Obj)} {I : Addr} (h : own.map (·.1) = [I]) : ∃ o, own = [(I, o)] := by
  cases own with
  | nil => cases h
  | cons p r =>
    cases r with
    | nil => exact ⟨p.2, by rw [← (List.cons.inj h).1]⟩
    | cons q r => cases (List.cons.inj h).2
theorem own_two {own : List (Addr × Obj)} {I K : Addr} (h : own.map (·.1) = [I, K]) : ∃ o o', own = [(I, o), (K, o')] := by
  cases own with
  | nil => cases h
  | cons p r =>
    obtain ⟨o', e⟩ := own_one (List.cons.inj h).2
    exact ⟨p.2, o', by rw [e, ← (List.cons.inj h).1]⟩

/-- the end of a turn: the iterator's objects and the constant part as they stood, J of the rest -/
def TurnEnd (h₀ : Heap) (L : Addr) (own cst : List (Addr × Obj)) (Jn : (Str → Option Value) → List (Addr × Obj) → Prop) (gg : Array GenState) (dd : Drawn) (oo : OsState) (s : Shared) : Prop :=
  ∃ h' tk m' nx, s = ⟨h', gg, dd, tk, oo⟩ ∧ Fr h₀ L h' m' ∧ News h₀ L h' (own ++ (cst ++ nx)) ∧ (∀ p ∈ nx, ∀ q ∈ own, p.1 ≠ q.1) ∧ Jn m' nx
def TurnPost (h₀ : Heap) (L : Addr) (own cst : List (Addr × Obj)) (Jn : (Str → Option Value) → List (Addr × Obj) → Prop) (gg : Array GenState) (dd : Drawn) (oo : OsState) (Q : Flow → Shared → Prop) (f : Flow) (s : Shared) : Prop :=
  match f with
  | .ret v => Q (.ret v) s
  | .brk => Q .next s
  | _ => TurnEnd h₀ L own cst Jn gg dd oo s
theorem turnEnd {L : Addr} {own cst nx : List (Addr × Obj)} {Jn : (Str → Option Value) → List (Addr × Obj) → Prop} {h' : Heap} {tk : Nat} {m' : Str → Option Value} (F : Fr h₀ L h' m') (N : News h₀ L h' (own ++ (cst ++ nx))) (hn : ∀ p ∈ nx, ∀ q ∈ own, p.1 ≠ q.1) (hJ : Jn m' nx) :
    TurnEnd h₀ L own cst Jn gg dd oo ⟨h', gg, dd, tk, oo⟩ := ⟨h', tk, m', nx, rfl, F, N, hn, hJ⟩

theorem loop_own {R : Result → Shared → Prop} {I : Addr} {fp wr : List Addr} {n : Nat} {P Md : Nat → Value → Heap → Prop} {St : Nat → Heap → Prop} {h : Heap} {tt : Nat} {m : Str → Option Value} {cst news : List (Addr × Obj)}
    (W : KTurns prog w A target I fp wr n P Md St) (hLf : env.locals ∉ fp) (hwr : ∀ b ∈ wr, h₀.get? b = none) (hfp : ∀ b ∈ fp, b ∈ wr ∨ (∃ o, h₀.get? b = some o) ∨ ∃ o, (b, o) ∈ cst)
    (hIo : ∀ i h, St i h → ∃ own : List (Addr × Obj), own.map (·.1) = wr ∧ ∀ p ∈ own, h.get? p.1 = some p.2)
    (hst : St 0 h) (F : Fr h₀ env.locals h m) (N : News h₀ env.locals h (cst ++ news)) (hoff : ∀ p ∈ cst ++ news, p.1 ∉ wr)
    (J : Nat → (Str → Option Value) → List (Addr × Obj) → Prop) (h0 : J 0 m news)
    (step : ∀ i v m₁ nx h₁ tk₁ (own : List (Addr × Obj)), own.map (·.1) = wr → i < n → P i v h₁ → J i m₁ nx → (∀ p ∈ nx, p.1 ∉ wr) → Fr h₀ env.locals h₁ m₁ → News h₀ env.locals h₁ (own ++ (cst ++ nx)) →
      wpAny (model prog w) A (assign target env v) (fun _ s₂ => wpAny (model prog w) A (execs body env) (TurnPost h₀ env.locals own cst (J (i + 1)) gg dd oo fun f s' => R (.ok f) s') (notedBy (model prog w) A env fun e s' => R (.error e) s') s₂)
        (notedBy (model prog w) A env fun e s' => R (.error e) s') ⟨h₁, gg, dd, tk₁, oo⟩)
    (fin : ∀ h' tk m' nx, Fr h₀ env.locals h' m' → News h₀ env.locals h' (cst ++ nx) → J n m' nx → wpAny (model prog w) A (execs orelse env) (fun f s' => R (.ok f) s') (notedBy (model prog w) A env fun e s' => R (.error e) s') ⟨h', gg, dd, tk, oo⟩) :
    codeAny (model prog w) A (.forLoop target (.ref I) body orelse env) R ⟨h, gg, dd, tt, oo⟩ := by
  have hLw : env.locals ∉ wr := fun h => hLf (W.sub _ h)
  have old : ∀ b o, h₀.get? b = some o → b ∉ wr := fun b o e hb => by rw [hwr b hb] at e; cases e
  refine codeAny_forLoop_any
    (fun k s' => ∃ h' tk m' nx i, s' = ⟨h', gg, dd, tk, oo⟩ ∧ St i h' ∧ Fr h₀ env.locals h' m' ∧ News h₀ env.locals h' (cst ++ nx) ∧ (∀ p ∈ cst ++ nx, p.1 ∉ wr) ∧ J i m' nx ∧ i ≤ n ∧ k = n + 1 - i) ?_ (n + 1)
    ⟨h, tt, m, news, 0, rfl, hst, F, N, hoff, h0, Nat.zero_le _, rfl⟩
  rintro k s' ⟨h', tk, m', nx, i, rfl, hst', F', N', hnw', hJ, hi, rfl⟩
  have next : ∀ h₁ : Heap, (∀ b o, b ∉ wr → h'.get? b = some o → h₁.get? b = some o) → Fr h₀ env.locals h₁ m' ∧ News h₀ env.locals h₁ (cst ++ nx) := fun h₁ hk₁ =>
    ⟨⟨F'.ns.at' fun o e => hk₁ _ o hLw e, fun b o e => hk₁ b o (old b o e) (F'.keep b o e), F'.above⟩, fun p hp => ⟨hk₁ _ _ (hnw' p hp) (N' p hp).1, (N' p hp).2⟩⟩
  by_cases hlt : i < n
  · refine W.item i _ _ _ hlt hst' fun v h₁ tk₁ hMd hk₁ => ?_
    refine W.go i v _ _ _ hMd fun h₂ hP hst₂ hk₂ => ?_
    obtain ⟨F₂, N₂⟩ := next h₂ fun b o hb x => hk₂ b o hb (hk₁ b o hb x)
    obtain ⟨own, hown, hoI⟩ := hIo _ _ hst₂
    have hmem : ∀ p ∈ own, p.1 ∈ wr := fun p hp => hown ▸ List.mem_map_of_mem hp
    have N₃ : News h₀ env.locals h₂ (own ++ (cst ++ nx)) := fun p hp => by
      rcases List.mem_append.mp hp with hp | hp
      · exact ⟨hoI p hp, fun e => hLw (e ▸ hmem p hp), hwr _ (hmem p hp)⟩
      · exact N₂ p hp
    refine wpAny_mono (step i v m' nx h₂ tk₁ own hown hlt hP hJ (fun p hp => hnw' p (List.mem_append_right _ hp)) F₂ N₃) (fun _ s₂ h₂' => wpAny_mono h₂' (fun f s₃ h₃ => ?_) fun _ _ e => e) fun _ _ e => e
    have go : TurnEnd h₀ env.locals own cst (J (i + 1)) gg dd oo s₃ → ∃ m, m < n + 1 - i ∧ ∃ h' tk m' nx i, s₃ = ⟨h', gg, dd, tk, oo⟩ ∧ St i h' ∧ Fr h₀ env.locals h' m' ∧ News h₀ env.locals h' (cst ++ nx) ∧ (∀ p ∈ cst ++ nx, p.1 ∉ wr) ∧ J i m' nx ∧ i ≤ n ∧ m = n + 1 - i := by
      rintro ⟨h₄, tk₄, m₄, nx₄, rfl, F₄, N₄, ho₄, hJ₄⟩
      refine ⟨n + 1 - (i + 1), by omega, h₄, tk₄, m₄, nx₄, i + 1, rfl, ?_, F₄, fun p hp => N₄ p (List.mem_append_right _ hp), fun p hp => ?_, hJ₄, hlt, rfl⟩
      · refine W.frame _ _ _ hst₂ fun b hb o e => ?_
        rcases hfp b hb with hb | ⟨o', e'⟩ | ⟨o', e'⟩
        · rw [← hown] at hb
          obtain ⟨p, hp, rfl⟩ := List.mem_map.mp hb
          have : o = p.2 := Option.some.inj (e.symm.trans (hoI p hp))
          rw [this]; exact (N₄ p (List.mem_append_left _ hp)).1
        · have : o' = o := Option.some.inj ((F₂.keep _ _ e').symm.trans e)
          rw [← this]; exact F₄.keep _ _ e'
        · have : o' = o := Option.some.inj ((N₂ _ (List.mem_append_left _ e')).1.symm.trans e)
          rw [← this]; exact (N₄ _ (List.mem_append_right _ (List.mem_append_left _ e'))).1
      · rcases List.mem_append.mp hp with hp | hp
        · exact hnw' p (List.mem_append_left _ hp)
        · intro hb
          rw [← hown] at hb
          obtain ⟨q, hq, e⟩ := List.mem_map.mp hb
          exact ho₄ p hp q hq e.symm
    cases f with
    | ret v => exact h₃
    | brk => exact h₃
    | cont => exact go h₃
    | next => exact go h₃
  · have hin : i = n := by omega
    subst hin
    refine W.done _ _ _ hst' fun h₁ tk₁ hk₁ => ?_
    obtain ⟨F₁, N₁⟩ := next h₁ hk₁
    exact fin h₁ tk₁ m' nx F₁ N₁ hJ

/-- a for over a tuple that stood before the call -/
theorem for_tuple {E : Value → Shared → Prop} {Q : Flow → Shared → Prop} {iter : PySem.Expr} {pos : Pos} {ax : Addr} {items : Array Value} {h : Heap} {tt : Nat} {m : Str → Option Value} {cst news : List (Addr × Obj)}
    (hh : A.handled = none) (hax : h₀.IsTuple ax items) (F : Fr h₀ env.locals h m) (N : News h₀ env.locals h (cst ++ news))
    (hev : ∀ Q' : Value → Shared → Prop, Q' (.ref ax) ⟨h, gg, dd, tt, oo⟩ → wpAny (model prog w) A (eval iter env) Q' E ⟨h, gg, dd, tt, oo⟩)
    (J : Nat → (Str → Option Value) → List (Addr × Obj) → Prop) (h0 : J 0 m news)
    (step : ∀ i v m₁ nx h₁ tk₁ I o, i < items.size → items[i]? = some v → J i m₁ nx → (∀ p ∈ cst, p.1 < I) → (∀ p ∈ nx, p.1 ≠ I) → Fr h₀ env.locals h₁ m₁ → News h₀ env.locals h₁ ((I, o) :: (cst ++ nx)) →
      wpAny (model prog w) A (assign target env v) (fun _ s₂ => wpAny (model prog w) A (execs body env) (TurnPost h₀ env.locals [(I, o)] cst (J (i + 1)) gg dd oo Q) E s₂) E ⟨h₁, gg, dd, tk₁, oo⟩)
    (fin : ∀ h' tk m' nx, Fr h₀ env.locals h' m' → News h₀ env.locals h' (cst ++ nx) → J items.size m' nx → wpAny (model prog w) A (execs orelse env) Q E ⟨h', gg, dd, tk, oo⟩)
    (hs : ∀ x, foldedSetIterable iter env x = pure x := by intro _; rfl)
    (hE : PassesOwn (model prog w) A env E := by passes_own) :
    wpAny (model prog w) A (exec (.For target iter body orelse pos) env) Q E ⟨h, gg, dd, tt, oo⟩ := by
  refine wpAny_For (hev _ ?_) hs
  obtain ⟨oa, hoa, hca, na, hda⟩ := id hax
  have hlt : ax < h.objs.size := Heap.lt_size (F.keep _ _ hoa)
  have hl : h.IsTuple ax items := ⟨oa, F.keep _ _ hoa, hca, na, hda⟩
  refine wpAny_pyIter_tuple hl ?_
  have W := KTurns.ofWalks (target := target) (Walks.tuple (prog := prog) (w := w) hh h.objs.size ax (Nat.ne_of_lt hlt) items) fun i v s Q E st q => letGo_tupleiter st.1 q
  have hnew : h₀.get? h.objs.size = none := next_is_new F
  refine loop_own (cst := cst) (news := news) W ?_ ?_ ?_ ?_ ⟨⟨_, Heap.get?_push_size _ rfl, rfl, rfl⟩, hl.at fun o e => Heap.get?_push_of_some _ e⟩ (F.push _) ?_ ?_ J h0 ?_ ?_
  · intro hm
    rcases List.mem_cons.mp hm with e | hm
    · exact absurd F.ns.lt (e ▸ Nat.lt_irrefl _)
    · have e := List.mem_singleton.mp hm
      exact absurd (Heap.lt_size hoa) (Nat.not_lt.mpr (e ▸ F.above))
  · intro b hb; rw [List.mem_singleton.mp hb]; exact hnew
  · intro b hb
    rcases List.mem_cons.mp hb with e | hb
    · exact .inl (by rw [e]; exact .head _)
    · exact .inr (.inl ⟨oa, by rw [List.mem_singleton.mp hb]; exact hoa⟩)
  · intro i h' st
    obtain ⟨o, ho, _⟩ := st.1
    exact ⟨[(h.objs.size, o)], rfl, fun p hp => by rw [List.mem_singleton.mp hp]; exact ho⟩
  · exact fun p hp => ⟨Heap.get?_push_of_some _ (N p hp).1, (N p hp).2⟩
  · intro p hp hI
    exact absurd (Heap.lt_size (N p hp).1) ((List.mem_singleton.mp hI) ▸ Nat.lt_irrefl _)
  · intro i v m₁ nx h₁ tk₁ own hown hi hP hJ hnx F₁ N₁
    obtain ⟨o, rfl⟩ := own_one hown
    refine wpAny_mono (step i v m₁ nx h₁ tk₁ _ o hi hP hJ (fun p hp => Heap.lt_size (N p (List.mem_append_left _ hp)).1) (fun p hp e => hnx p hp (by rw [e]; exact .head _)) F₁ N₁) (fun _ s₂ h₂ => wpAny_passesOwn hE h₂) hE
  · intro h' tk m' nx F' N' hJ
    exact wpAny_passesOwn hE (fin h' tk m' nx F' N' hJ)

/-- a for over enumerate of a tuple that stood before the call -/
theorem for_enum {E : Value → Shared → Prop} {Q : Flow → Shared → Prop} {iter : PySem.Expr} {elts : List PySem.Expr} {tk0 : Nat} {tpos pos : Pos} {ax : Addr} {items : Array Value} {h : Heap} {tt : Nat} {m : Str → Option Value} {cst news : List (Addr × Obj)}
    (hh : A.handled = none) (hax : h₀.IsTuple ax items) (F : Fr h₀ env.locals h m) (N : News h₀ env.locals h (cst ++ news))
    (hev : ∀ Q' : Value → Shared → Prop, wpAny (model prog w) A (call (.type "enumerate") [.ref ax]) Q' E ⟨h, gg, dd, tt, oo⟩ → wpAny (model prog w) A (eval iter env) Q' E ⟨h, gg, dd, tt, oo⟩)
    (J : Nat → (Str → Option Value) → List (Addr × Obj) → Prop) (h0 : J 0 m news)
    (step : ∀ i t x T m₁ nx h₁ tk₁ I I' o o', i < items.size → items[i]? = some x → IsTup h₁ T #[.int i t, x] → J i m₁ nx → (∀ p ∈ cst, p.1 < I' ∧ p.1 < I) → (∀ p ∈ nx, p.1 ≠ I ∧ p.1 ≠ I') → Fr h₀ env.locals h₁ m₁ → News h₀ env.locals h₁ ((I, o) :: (I', o') :: (cst ++ nx)) →
      wpAny (model prog w) A (assign (.Tuple elts tk0 tpos) env (.ref T)) (fun _ s₂ => wpAny (model prog w) A (execs body env) (TurnPost h₀ env.locals [(I, o), (I', o')] cst (J (i + 1)) gg dd oo Q) E s₂) E ⟨h₁, gg, dd, tk₁, oo⟩)
    (fin : ∀ h' tk m' nx, Fr h₀ env.locals h' m' → News h₀ env.locals h' (cst ++ nx) → J items.size m' nx → wpAny (model prog w) A (execs orelse env) Q E ⟨h', gg, dd, tk, oo⟩)
    (hs : ∀ x, foldedSetIterable iter env x = pure x := by intro _; rfl)
    (hE : PassesOwn (model prog w) A env E := by passes_own) :
    wpAny (model prog w) A (exec (.For (.Tuple elts tk0 tpos) iter body orelse pos) env) Q E ⟨h, gg, dd, tt, oo⟩ := by
  refine wpAny_For (hev _ ?_) hs
  obtain ⟨oa, hoa, hca, na, hda⟩ := id hax
  have hlt : ax < h.objs.size := Heap.lt_size (F.keep _ _ hoa)
  have hl : h.IsTuple ax items := ⟨oa, F.keep _ _ hoa, hca, na, hda⟩
  refine call_enum_tuple (s := ⟨h, gg, dd, tt, oo⟩) hl fun h' he hit hsz hk => ?_
  refine wpAny_pyIter_enum he ?_
  have hax0 : ax < h₀.objs.size := Heap.lt_size hoa
  have hL : env.locals < h.objs.size := F.ns.lt
  have hef : h.objs.size + 1 ∉ [h.objs.size, ax] := fun q => by
    rcases List.mem_cons.mp q with e | q
    · exact absurd e (Nat.succ_ne_self _)
    · exact absurd (List.mem_singleton.mp q) (Nat.ne_of_gt (Nat.lt_succ_of_lt hlt))
  have W := KTurns.ofWalksU (elts := elts) (k := tk0) (pos := tpos) (WalksT.enumerateD (prog := prog) (w := w) (A := A) (drawsTuple (A := A.in1) hh h.objs.size ax (Nat.ne_of_lt hlt) items) (h.objs.size + 1) (Nat.succ_ne_self _) hef (.head _)).toU
  have old : ∀ b, h.objs.size ≤ b → h₀.get? b = none := fun b hb => by
    cases q : h₀.get? b with
    | none => rfl
    | some o => exact absurd (Heap.lt_size (F.keep _ _ q)) (Nat.not_lt.mpr hb)
  have F' : Fr h₀ env.locals h' m := ⟨F.ns.keeps hk, fun b o e => hk b o (F.keep b o e), F.above⟩
  refine loop_own (cst := cst) (news := news) W ?_ ?_ ?_ ?_ ⟨⟨_, he⟩, hit, hl.at fun o e => hk _ _ e⟩ F' ?_ ?_ J h0 ?_ ?_
  · intro hm
    rcases List.mem_cons.mp hm with e | hm
    · exact absurd hL (Nat.not_lt.mpr (by rw [e]; exact Nat.le_succ _))
    · rcases List.mem_cons.mp hm with e | hm
      · exact absurd hL (e ▸ Nat.lt_irrefl _)
      · have e := List.mem_singleton.mp hm
        exact absurd hax0 (Nat.not_lt.mpr (e ▸ F.above))
  · intro b hb
    rcases List.mem_cons.mp hb with e | hb
    · exact old _ (by rw [e]; exact Nat.le_succ _)
    · exact old _ (by rw [List.mem_singleton.mp hb]; exact Nat.le_refl _)
  · intro b hb
    rcases List.mem_cons.mp hb with e | hb
    · exact .inl (by rw [e]; exact .head _)
    · rcases List.mem_cons.mp hb with e | hb
      · exact .inl (by rw [e]; exact .tail _ (.head _))
      · exact .inr (.inl ⟨oa, by rw [List.mem_singleton.mp hb]; exact hoa⟩)
  · intro i h'' st
    obtain ⟨⟨old', he'⟩, ⟨o, ho, _⟩, _⟩ := st
    exact ⟨[(h.objs.size + 1, _), (h.objs.size, o)], rfl, fun p hp => by
      rcases List.mem_cons.mp hp with rfl | hp
      · exact he'
      · rw [List.mem_singleton.mp hp]; exact ho⟩
  · exact fun p hp => ⟨hk _ _ (N p hp).1, (N p hp).2⟩
  · intro p hp hI
    have := Heap.lt_size (N p hp).1
    rcases List.mem_cons.mp hI with e | hI
    · exact absurd this (Nat.not_lt.mpr (by rw [e]; exact Nat.le_succ _))
    · exact absurd this ((List.mem_singleton.mp hI) ▸ Nat.lt_irrefl _)
  · intro i v m₁ nx h₁ tk₁ own hown hi hP hJ hnx F₁ N₁
    obtain ⟨o, o', rfl⟩ := own_two hown
    obtain ⟨T, vals, rfl, ⟨t, x, hx, rfl⟩, hT⟩ := hP
    refine wpAny_mono (step i t x T m₁ nx h₁ tk₁ _ _ o o' hi hx hT hJ (fun p hp => ⟨Heap.lt_size (N p (List.mem_append_left _ hp)).1, Nat.lt_succ_of_lt (Heap.lt_size (N p (List.mem_append_left _ hp)).1)⟩) (fun p hp => ⟨fun e => hnx p hp (by rw [e]; exact .head _), fun e => hnx p hp (by rw [e]; exact .tail _ (.head _))⟩) F₁ N₁) (fun _ s₂ h₂ => wpAny_passesOwn hE h₂) hE
  · intro h' tk m' nx F' N' hJ
    exact wpAny_passesOwn hE (fin h' tk m' nx F' N' hJ)
end
end Mine
end
/- part LoopA -/
section
open PySem PySem.W PyProof.Rows PySem.Calls
set_option maxRecDepth 100000
namespace Mine
/-- m' is m but at the stored names -/
def Agrees (stored : List Str) (m m' : Str → Option Value) : Prop := ∀ y, stored.contains y = false → m' y = m y
def over (stored : List Str) (u m : Str → Option Value) : Str → Option Value := fun y => if stored.contains y then u y else m y
theorem Agrees.eq {stored : List Str} {m m' : Str → Option Value} (h : Agrees stored m m') : m' = fun y => if stored.contains y then m' y else m y := by
  funext y
  cases q : stored.contains y with
  | true => rfl
  | false => exact h y q
theorem Agrees.refl {stored : List Str} {m : Str → Option Value} : Agrees stored m m := fun _ _ => rfl
theorem Agrees.base {stored : List Str} {m u : Str → Option Value} : Agrees stored m (fun y => if stored.contains y then u y else m y) := fun y q => by
  show (if stored.contains y = true then _ else _) = _
  rw [q]; rfl
theorem Agrees.store {stored : List Str} {m m' : Str → Option Value} {x : Str} {v : Option Value} (hx : stored.contains x = true) (h : Agrees stored m m') : Agrees stored m (fun y => if y = x then v else m' y) := fun y q => by
  show (if y = x then _ else _) = _
  have : y ≠ x := fun e => by rw [e, hx] at q; cases q
  rw [if_neg this]; exact h y q
theorem Agrees.over {stored st : List Str} {m m' u : Str → Option Value} (hs : (st.all fun x => stored.contains x) = true) (h : Agrees stored m m') : Agrees stored m (fun y => if st.contains y then u y else m' y) := fun y q => by
  show (if st.contains y = true then _ else _) = _
  have : st.contains y = false := by
    cases z : st.contains y with
    | false => rfl
    | true =>
      have := List.all_eq_true.mp hs y (List.contains_iff_mem.mp z)
      rw [this] at q; cases q
  rw [this]; exact h y q
section
variable {prog : Program} {w : World} {A : Around} {h₀ : Heap} {env : Env} {target : PySem.Expr} {body orelse : List Stmt} {gg : Array GenState} {dd : Drawn} {oo : OsState}
theorem for_tupleA (stored : List Str) {E : Value → Shared → Prop} {Q : Flow → Shared → Prop} {iter : PySem.Expr} {pos : Pos} {ax : Addr} {items : Array Value} {h : Heap} {tt : Nat} {m : Str → Option Value} {cst news : List (Addr × Obj)}
    (hh : A.handled = none) (hax : h₀.IsTuple ax items) (F : Fr h₀ env.locals h m) (N : News h₀ env.locals h (cst ++ news))
    (J : Nat → (Str → Option Value) → List (Addr × Obj) → Prop) (h0 : J 0 m news)
    (hev : ∀ Q' : Value → Shared → Prop, Q' (.ref ax) ⟨h, gg, dd, tt, oo⟩ → wpAny (model prog w) A (eval iter env) Q' E ⟨h, gg, dd, tt, oo⟩)
    (step : ∀ i v u nx h₁ tk₁ I o, i < items.size → items[i]? = some v → J i u nx → (∀ p ∈ cst, p.1 < I) → (∀ p ∈ nx, p.1 ≠ I) → Fr h₀ env.locals h₁ (fun y => if stored.contains y then u y else m y) → News h₀ env.locals h₁ ((I, o) :: (cst ++ nx)) →
      wpAny (model prog w) A (assign target env v) (fun _ s₂ => wpAny (model prog w) A (execs body env) (TurnPost h₀ env.locals [(I, o)] cst (fun m' nx' => Agrees stored m m' ∧ J (i + 1) m' nx') gg dd oo Q) E s₂) E ⟨h₁, gg, dd, tk₁, oo⟩)
    (fin : ∀ h' tk u nx, Fr h₀ env.locals h' (fun y => if stored.contains y then u y else m y) → News h₀ env.locals h' (cst ++ nx) → J items.size u nx → wpAny (model prog w) A (execs orelse env) Q E ⟨h', gg, dd, tk, oo⟩)
    (hs : ∀ x, foldedSetIterable iter env x = pure x := by intro _; rfl)
    (hE : PassesOwn (model prog w) A env E := by passes_own) :
    wpAny (model prog w) A (exec (.For target iter body orelse pos) env) Q E ⟨h, gg, dd, tt, oo⟩ :=
  for_tuple hh hax F N hev (fun i m' nx => Agrees stored m m' ∧ J i m' nx) ⟨.refl, h0⟩
    (fun i v m₁ nx h₁ tk₁ I o hi hv hJ hc hn F₁ N₁ => step i v m₁ nx h₁ tk₁ I o hi hv hJ.2 hc hn (by have e := hJ.1.eq; rw [← e]; exact F₁) N₁)
    (fun h' tk m' nx F' N' hJ => fin h' tk m' nx (by have e := hJ.1.eq; rw [← e]; exact F') N' hJ.2) hs hE
theorem for_enumA (stored : List Str) {E : Value → Shared → Prop} {Q : Flow → Shared → Prop} {iter : PySem.Expr} {elts : List PySem.Expr} {tk0 : Nat} {tpos pos : Pos} {ax : Addr} {items : Array Value} {h : Heap} {tt : Nat} {m : Str → Option Value} {cst news : List (Addr × Obj)}
    (hh : A.handled = none) (hax : h₀.IsTuple ax items) (F : Fr h₀ env.locals h m) (N : News h₀ env.locals h (cst ++ news))
    (J : Nat → (Str → Option Value) → List (Addr × Obj) → Prop) (h0 : J 0 m news)
    (hev : ∀ Q' : Value → Shared → Prop, wpAny (model prog w) A (call (.type "enumerate") [.ref ax]) Q' E ⟨h, gg, dd, tt, oo⟩ → wpAny (model prog w) A (eval iter env) Q' E ⟨h, gg, dd, tt, oo⟩)
    (step : ∀ i t x T u nx h₁ tk₁ I I' o o', i < items.size → items[i]? = some x → IsTup h₁ T #[.int i t, x] → J i u nx → (∀ p ∈ cst, p.1 < I' ∧ p.1 < I) → (∀ p ∈ nx, p.1 ≠ I ∧ p.1 ≠ I') → Fr h₀ env.locals h₁ (fun y => if stored.contains y then u y else m y) → News h₀ env.locals h₁ ((I, o) :: (I', o') :: (cst ++ nx)) →
      wpAny (model prog w) A (assign (.Tuple elts tk0 tpos) env (.ref T)) (fun _ s₂ => wpAny (model prog w) A (execs body env) (TurnPost h₀ env.locals [(I, o), (I', o')] cst (fun m' nx' => Agrees stored m m' ∧ J (i + 1) m' nx') gg dd oo Q) E s₂) E ⟨h₁, gg, dd, tk₁, oo⟩)
    (fin : ∀ h' tk u nx, Fr h₀ env.locals h' (fun y => if stored.contains y then u y else m y) → News h₀ env.locals h' (cst ++ nx) → J items.size u nx → wpAny (model prog w) A (execs orelse env) Q E ⟨h', gg, dd, tk, oo⟩)
    (hs : ∀ x, foldedSetIterable iter env x = pure x := by intro _; rfl)
    (hE : PassesOwn (model prog w) A env E := by passes_own) :
    wpAny (model prog w) A (exec (.For (.Tuple elts tk0 tpos) iter body orelse pos) env) Q E ⟨h, gg, dd, tt, oo⟩ :=
  for_enum hh hax F N hev (fun i m' nx => Agrees stored m m' ∧ J i m' nx) ⟨.refl, h0⟩
    (fun i t x T m₁ nx h₁ tk₁ I I' o o' hi hx hT hJ hc hn F₁ N₁ => step i t x T m₁ nx h₁ tk₁ I I' o o' hi hx hT hJ.2 hc hn (by have e := hJ.1.eq; rw [← e]; exact F₁) N₁)
    (fun h' tk m' nx F' N' hJ => fin h' tk m' nx (by have e := hJ.1.eq; rw [← e]; exact F') N' hJ.2) hs hE
end
end Mine
end
/- part LoopB -/
section
open PySem PySem.W PyProof.Rows PySem.Calls
set_option maxRecDepth 100000
namespace Mine
section
variable {prog : Program} {w : World} {A : Around} {h₀ : Heap} {env : Env} {target : PySem.Expr} {body orelse : List Stmt} {gg : Array GenState} {dd : Drawn} {oo : OsState}

/-- a for over anything whose iterator is one new object -/
theorem for_one (stored : List Str) {E : Value → Shared → Prop} {Q : Flow → Shared → Prop} {iter : PySem.Expr} {pos : Pos} {v₀ : Value} {h : Heap} {tt : Nat} {m : Str → Option Value} {cst news : List (Addr × Obj)} {ob : Obj} {fpr : List Addr} {n : Nat} {P Md : Nat → Value → Heap → Prop} {St : Nat → Heap → Prop}
    (W : KTurns prog w A target h.objs.size (h.objs.size :: fpr) [h.objs.size] n P Md St) (hst : St 0 (h.push ob)) (hSt : ∀ i h', St i h' → ∃ o, h'.get? h.objs.size = some o)
    (hfp : ∀ b ∈ fpr, (∃ o, h₀.get? b = some o) ∨ ∃ o, (b, o) ∈ cst)
    (F : Fr h₀ env.locals h m) (N : News h₀ env.locals h (cst ++ news))
    (hev : ∀ Q' : Value → Shared → Prop, Q' v₀ ⟨h, gg, dd, tt, oo⟩ → wpAny (model prog w) A (eval iter env) Q' E ⟨h, gg, dd, tt, oo⟩)
    (hpy : ∀ Q' : Value → Shared → Prop, Q' (.ref h.objs.size) ⟨h.push ob, gg, dd, tt, oo⟩ → wpAny (model prog w) A (pyIter v₀) Q' E ⟨h, gg, dd, tt, oo⟩)
    (J : Nat → (Str → Option Value) → List (Addr × Obj) → Prop) (h0 : J 0 m news)
    (step : ∀ i v u nx h₁ tk₁ I o, i < n → P i v h₁ → J i u nx → (∀ p ∈ cst, p.1 < I) → (∀ p ∈ nx, p.1 ≠ I) → Fr h₀ env.locals h₁ (fun y => if stored.contains y then u y else m y) → News h₀ env.locals h₁ ((I, o) :: (cst ++ nx)) →
      wpAny (model prog w) A (assign target env v) (fun _ s₂ => wpAny (model prog w) A (execs body env) (TurnPost h₀ env.locals [(I, o)] cst (fun m' nx' => Agrees stored m m' ∧ J (i + 1) m' nx') gg dd oo Q) E s₂) E ⟨h₁, gg, dd, tk₁, oo⟩)
    (fin : ∀ h' tk u nx, Fr h₀ env.locals h' (fun y => if stored.contains y then u y else m y) → News h₀ env.locals h' (cst ++ nx) → J n u nx → wpAny (model prog w) A (execs orelse env) Q E ⟨h', gg, dd, tk, oo⟩)
    (hs : ∀ x, foldedSetIterable iter env x = pure x := by intro _; rfl)
    (hE : PassesOwn (model prog w) A env E := by passes_own) :
    wpAny (model prog w) A (exec (.For target iter body orelse pos) env) Q E ⟨h, gg, dd, tt, oo⟩ := by
  refine wpAny_For (hev _ (hpy _ ?_)) hs
  refine loop_own (cst := cst) (news := news) W ?_ ?_ ?_ ?_ hst (F.push _) ?_ ?_ (fun i m' nx => Agrees stored m m' ∧ J i m' nx) ⟨.refl, h0⟩ ?_ ?_
  · intro hm
    rcases List.mem_cons.mp hm with e | hm
    · exact absurd F.ns.lt (e ▸ Nat.lt_irrefl _)
    · rcases hfp _ hm with ⟨o, e⟩ | ⟨o, e⟩
      · exact absurd (Heap.lt_size e) (Nat.not_lt.mpr F.above)
      · exact (N _ (List.mem_append_left _ e)).2.1 rfl
  · intro b hb; rw [List.mem_singleton.mp hb]; exact next_is_new F
  · intro b hb
    rcases List.mem_cons.mp hb with e | hb
    · exact .inl (by rw [e]; exact .head _)
    · exact .inr (hfp b hb)
  · intro i h' st
    obtain ⟨o, ho⟩ := hSt i h' st
    exact ⟨[(h.objs.size, o)], rfl, fun p hp => by rw [List.mem_singleton.mp hp]; exact ho⟩
  · exact fun p hp => ⟨Heap.get?_push_of_some _ (N p hp).1, (N p hp).2⟩
  · intro p hp hI
    exact absurd (Heap.lt_size (N p hp).1) ((List.mem_singleton.mp hI) ▸ Nat.lt_irrefl _)
  · intro i v m₁ nx h₁ tk₁ own hown hi hP hJ hnx F₁ N₁
    obtain ⟨o, rfl⟩ := own_one hown
    refine wpAny_mono (step i v m₁ nx h₁ tk₁ _ o hi hP hJ.2 (fun p hp => Heap.lt_size (N p (List.mem_append_left _ hp)).1) (fun p hp e => hnx p hp (by rw [e]; exact .head _)) (by have e := hJ.1.eq; rw [← e]; exact F₁) N₁) (fun _ s₂ h₂ => wpAny_passesOwn hE h₂) hE
  · intro h' tk m' nx F' N' hJ
    exact wpAny_passesOwn hE (fin h' tk m' nx (by have e := hJ.1.eq; rw [← e]; exact F') N' hJ.2)

/-- a for over a made list of the constant part -/
theorem for_listA (stored : List Str) {E : Value → Shared → Prop} {Q : Flow → Shared → Prop} {iter : PySem.Expr} {pos : Pos} {ax : Addr} {items : Array Value} {k : Nat} {h : Heap} {tt : Nat} {m : Str → Option Value} {cst news : List (Addr × Obj)}
    (hh : A.handled = none) (hax : (ax, W.listOf items k) ∈ cst) (F : Fr h₀ env.locals h m) (N : News h₀ env.locals h (cst ++ news))
    (J : Nat → (Str → Option Value) → List (Addr × Obj) → Prop) (h0 : J 0 m news)
    (hev : ∀ Q' : Value → Shared → Prop, Q' (.ref ax) ⟨h, gg, dd, tt, oo⟩ → wpAny (model prog w) A (eval iter env) Q' E ⟨h, gg, dd, tt, oo⟩)
    (step : ∀ i v u nx h₁ tk₁ I o, i < items.size → items[i]? = some v → J i u nx → (∀ p ∈ cst, p.1 < I) → (∀ p ∈ nx, p.1 ≠ I) → Fr h₀ env.locals h₁ (fun y => if stored.contains y then u y else m y) → News h₀ env.locals h₁ ((I, o) :: (cst ++ nx)) →
      wpAny (model prog w) A (assign target env v) (fun _ s₂ => wpAny (model prog w) A (execs body env) (TurnPost h₀ env.locals [(I, o)] cst (fun m' nx' => Agrees stored m m' ∧ J (i + 1) m' nx') gg dd oo Q) E s₂) E ⟨h₁, gg, dd, tk₁, oo⟩)
    (fin : ∀ h' tk u nx, Fr h₀ env.locals h' (fun y => if stored.contains y then u y else m y) → News h₀ env.locals h' (cst ++ nx) → J items.size u nx → wpAny (model prog w) A (execs orelse env) Q E ⟨h', gg, dd, tk, oo⟩)
    (hs : ∀ x, foldedSetIterable iter env x = pure x := by intro _; rfl)
    (hE : PassesOwn (model prog w) A env E := by passes_own) :
    wpAny (model prog w) A (exec (.For target iter body orelse pos) env) Q E ⟨h, gg, dd, tt, oo⟩ := by
  have hl : h.IsList ax items := ⟨_, (N _ (List.mem_append_left _ hax)).1, rfl, k, rfl⟩
  have hlt : ax < h.objs.size := Heap.lt_size (N _ (List.mem_append_left _ hax)).1
  have W := KTurns.ofWalks (target := target) (Walks.list (prog := prog) (w := w) hh h.objs.size ax (Nat.ne_of_lt hlt) items) fun i v s Q E st q => letGo_listiter st.1 q
  exact for_one stored W ⟨⟨_, Heap.get?_push_size _ rfl, rfl, rfl⟩, hl.push _⟩ (fun i h' st => let ⟨o, ho, _⟩ := st.1; ⟨o, ho⟩) (fun b hb => .inr ⟨PySem.W.listOf items k, (List.mem_singleton.mp hb).symm ▸ hax⟩) F N hev
    (fun Q' q => wpAny_pyIter_list hl q) J h0 (fun i v u nx h₁ tk₁ I o hi hP => step i v u nx h₁ tk₁ I o hi hP) fin hs hE

/-- a for over bytes -/
theorem for_bytesA (stored : List Str) {E : Value → Shared → Prop} {Q : Flow → Shared → Prop} {iter : PySem.Expr} {pos tp : Pos} {x : Str} {b : Array UInt8} {tb : Tok} {h : Heap} {tt : Nat} {m : Str → Option Value} {cst news : List (Addr × Obj)}
    (hh : A.handled = none) (F : Fr h₀ env.locals h m) (N : News h₀ env.locals h (cst ++ news))
    (J : Nat → (Str → Option Value) → List (Addr × Obj) → Prop) (h0 : J 0 m news)
    (hev : ∀ Q' : Value → Shared → Prop, Q' (.bytes b tb) ⟨h, gg, dd, tt, oo⟩ → wpAny (model prog w) A (eval iter env) Q' E ⟨h, gg, dd, tt, oo⟩)
    (step : ∀ i c t u nx h₁ tk₁ I o, i < b.size → b[i]? = some c → J i u nx → (∀ p ∈ cst, p.1 < I) → (∀ p ∈ nx, p.1 ≠ I) → Fr h₀ env.locals h₁ (fun y => if stored.contains y then u y else m y) → News h₀ env.locals h₁ ((I, o) :: (cst ++ nx)) →
      wpAny (model prog w) A (assign (.Name x tp) env (.int (c.toNat : Int) t)) (fun _ s₂ => wpAny (model prog w) A (execs body env) (TurnPost h₀ env.locals [(I, o)] cst (fun m' nx' => Agrees stored m m' ∧ J (i + 1) m' nx') gg dd oo Q) E s₂) E ⟨h₁, gg, dd, tk₁, oo⟩)
    (fin : ∀ h' tk u nx, Fr h₀ env.locals h' (fun y => if stored.contains y then u y else m y) → News h₀ env.locals h' (cst ++ nx) → J b.size u nx → wpAny (model prog w) A (execs orelse env) Q E ⟨h', gg, dd, tk, oo⟩)
    (hs : ∀ x, foldedSetIterable iter env x = pure x := by intro _; rfl)
    (hE : PassesOwn (model prog w) A env E := by passes_own) :
    wpAny (model prog w) A (exec (.For (.Name x tp) iter body orelse pos) env) Q E ⟨h, gg, dd, tt, oo⟩ := by
  have W := KTurns.ofWalks (target := .Name x tp) (KBw.walks (prog := prog) (w := w) hh h.objs.size b tb) fun i v s Q E st q => wpAny_of_eq (a := ()) rfl q
  refine for_one stored W ⟨_, Heap.get?_push_size _ rfl, rfl, rfl⟩ (fun i h' st => let ⟨o, ho, _⟩ := st; ⟨o, ho⟩) (fun b hb => nomatch hb) F N hev
    (fun Q' q => KBw.pyIter_bytes q) J h0 (fun i v u nx h₁ tk₁ I o hi hP => ?_) fin hs hE
  obtain ⟨c, t, hc, rfl⟩ := hP
  exact step i c t u nx h₁ tk₁ I o hi hc

end
theorem Agrees.storeU {stored : List Str} {m m' u : Str → Option Value} {x : Str} (hx : stored.contains x = true) (h : Agrees stored m m') : Agrees stored m (fun y => if y = x then u y else m' y) := fun y q => by
  show (if y = x then _ else _) = _
  have : y ≠ x := fun e => by rw [e, hx] at q; cases q
  rw [if_neg this]; exact h y q
/-- m, but at these names these values -/
def names (m : Str → Option Value) : List (Str × Value) → Str → Option Value
  | [] => m
  | p :: r => fun y => if y = p.1 then some p.2 else names m r y
theorem names_eq {m : Str → Option Value} : ∀ {ps : List (Str × Value)}, (∀ p ∈ ps, m p.1 = some p.2) → names m ps = m
  | [], _ => rfl
  | p :: r, h => by
    funext y
    show (if y = p.1 then some p.2 else names m r y) = _
    rw [names_eq fun q hq => h q (.tail _ hq)]
    by_cases e : y = p.1
    · rw [if_pos e, e, h p (.head _)]
    · rw [if_neg e]
theorem frame_named {h₀ h : Heap} {L : Addr} {stored : List Str} {m u : Str → Option Value} (ps : List (Str × Value)) (F : Fr h₀ L h (fun y => if stored.contains y then u y else m y)) (he : ∀ p ∈ ps, stored.contains p.1 = true ∧ u p.1 = some p.2) :
    Fr h₀ L h (names (fun y => if stored.contains y then u y else m y) ps) := by
  rw [names_eq]
  · exact F
  · intro p hp
    show (if stored.contains p.1 = true then _ else _) = _
    rw [if_pos (he p hp).1]
    exact (he p hp).2
theorem nm_nil {stored : List Str} {u : Str → Option Value} : ∀ p ∈ ([] : List (Str × Value)), stored.contains p.1 = true ∧ u p.1 = some p.2 := fun _ h => nomatch h
theorem nm_cons {stored : List Str} {u : Str → Option Value} {x : Str} {v : Value} {l : List (Str × Value)} (hx : stored.contains x = true) (e : u x = some v) (t : ∀ p ∈ l, stored.contains p.1 = true ∧ u p.1 = some p.2) :
    ∀ p ∈ (x, v) :: l, stored.contains p.1 = true ∧ u p.1 = some p.2 := fun p hp => by
  rcases List.mem_cons.mp hp with rfl | hp
  · exact ⟨hx, e⟩
  · exact t p hp
/-- what a map says at these names -/
def Has (m : Str → Option Value) : List (Str × Value) → Prop
  | [] => True
  | (x, v) :: r => m x = some v ∧ Has m r
theorem hs_nil {m : Str → Option Value} : Has m [] := trivial
theorem hs_cons {m : Str → Option Value} {x : Str} {v : Value} {r : List (Str × Value)} (e : m x = some v) (t : Has m r) : Has m ((x, v) :: r) := ⟨e, t⟩
theorem Has.at {m : Str → Option Value} : ∀ {ps : List (Str × Value)}, Has m ps → ∀ p ∈ ps, m p.1 = some p.2
  | _ :: _, h, _, .head _ => h.1
  | _ :: _, h, _, .tail _ q => Has.at h.2 _ q
/-- the frame's map as a letter, with what is known of it -/
theorem fr_open {h₀ h : Heap} {L : Addr} {m : Str → Option Value} (ps : List (Str × Value)) (F : Fr h₀ L h m) (e : Has m ps) : ∃ m', Fr h₀ L h m' ∧ Has m' ps := ⟨m, F, e⟩
theorem fr_at {h₀ h : Heap} {L : Addr} {m : Str → Option Value} {x : Str} {v : Value} (F : Fr h₀ L h m) (e : m x = some v) : Fr h₀ L h (fun y => if y = x then some v else m y) := by
  have a : names m [(x, v)] = m := names_eq fun p hp => by rw [List.mem_singleton.mp hp]; exact e
  rw [← a] at F
  exact F
theorem st_of {stored : List Str} {u m : Str → Option Value} {x : Str} {v : Value} (hx : stored.contains x = true) (e : u x = some v) : (fun y => if stored.contains y then u y else m y) x = some v := (if_pos hx).trans e
theorem cs_of {stored : List Str} {u m : Str → Option Value} {x : Str} {v : Value} (hx : stored.contains x = false) (e : m x = some v) : (fun y => if stored.contains y then u y else m y) x = some v := (if_neg (by rw [hx]; exact Bool.false_ne_true)).trans e
theorem frame_open {h₀ h : Heap} {L : Addr} {stored : List Str} {m u : Str → Option Value} (ps : List (Str × Value)) (F : Fr h₀ L h (fun y => if stored.contains y then u y else m y)) (e : Has (fun y => if stored.contains y then u y else m y) ps) :
    ∃ m', Agrees stored m (names m' ps) ∧ Fr h₀ L h (names m' ps) := by
  refine ⟨fun y => if stored.contains y then u y else m y, ?_⟩
  rw [names_eq e.at]
  exact ⟨Agrees.base, F⟩
end Mine
end
/- part LoopC -/
section
open PySem PySem.W PyProof.Rows PySem.Calls
set_option maxRecDepth 100000
namespace Mine
section
variable {prog : Program} {w : World} {A : Around} {h₀ : Heap} {env : Env} {target : PySem.Expr} {body orelse : List Stmt} {gg : Array GenState} {dd : Drawn} {oo : OsState}
/-- the loop behind its iterable's value: any iterator that is one new object -/
theorem for_core (stored : List Str) {E : Value → Shared → Prop} {Q : Flow → Shared → Prop} {v₀ : Value} {h : Heap} {tt : Nat} {m : Str → Option Value} {cst news : List (Addr × Obj)} {ob : Obj} {fpr : List Addr} {n : Nat} {P Md : Nat → Value → Heap → Prop} {St : Nat → Heap → Prop}
    (W : KTurns prog w A target h.objs.size (h.objs.size :: fpr) [h.objs.size] n P Md St) (hst : St 0 (h.push ob)) (hSt : ∀ i h', St i h' → ∃ o, h'.get? h.objs.size = some o)
    (hfp : ∀ b ∈ fpr, (∃ o, h₀.get? b = some o) ∨ ∃ o, (b, o) ∈ cst)
    (F : Fr h₀ env.locals h m) (N : News h₀ env.locals h (cst ++ news))
    (hpy : ∀ Q' : Value → Shared → Prop, Q' (.ref h.objs.size) ⟨h.push ob, gg, dd, tt, oo⟩ → wpAny (model prog w) A (pyIter v₀) Q' E ⟨h, gg, dd, tt, oo⟩)
    (J : Nat → (Str → Option Value) → List (Addr × Obj) → Prop) (h0 : J 0 m news)
    (step : ∀ i v u nx h₁ tk₁ I o, i < n → P i v h₁ → J i u nx → (∀ p ∈ cst, p.1 < I) → (∀ p ∈ nx, p.1 ≠ I) → Fr h₀ env.locals h₁ (fun y => if stored.contains y then u y else m y) → News h₀ env.locals h₁ ((I, o) :: (cst ++ nx)) →
      wpAny (model prog w) A (assign target env v) (fun _ s₂ => wpAny (model prog w) A (execs body env) (TurnPost h₀ env.locals [(I, o)] cst (fun m' nx' => Agrees stored m m' ∧ J (i + 1) m' nx') gg dd oo Q) E s₂) E ⟨h₁, gg, dd, tk₁, oo⟩)
    (fin : ∀ h' tk u nx, Fr h₀ env.locals h' (fun y => if stored.contains y then u y else m y) → News h₀ env.locals h' (cst ++ nx) → J n u nx → wpAny (model prog w) A (execs orelse env) Q E ⟨h', gg, dd, tk, oo⟩)
    (hE : PassesOwn (model prog w) A env E := by passes_own) :
    wpAny (model prog w) A (pyIter v₀) (fun it s₂ => codeAny (model prog w) A (.forLoop target it body orelse env) (fun r s' => match r with | .ok f => Q f s' | .error e => cameBackBy (model prog w) A env E e s') s₂) E ⟨h, gg, dd, tt, oo⟩ := by
  refine hpy _ ?_
  refine loop_own (cst := cst) (news := news) W ?_ ?_ ?_ ?_ hst (F.push _) ?_ ?_ (fun i m' nx => Agrees stored m m' ∧ J i m' nx) ⟨.refl, h0⟩ ?_ ?_
  · intro hm
    rcases List.mem_cons.mp hm with e | hm
    · exact absurd F.ns.lt (e ▸ Nat.lt_irrefl _)
    · rcases hfp _ hm with ⟨o, e⟩ | ⟨o, e⟩
      · exact absurd (Heap.lt_size e) (Nat.not_lt.mpr F.above)
      · exact (N _ (List.mem_append_left _ e)).2.1 rfl
  · intro b hb; rw [List.mem_singleton.mp hb]; exact next_is_new F
  · intro b hb
    rcases List.mem_cons.mp hb with e | hb
    · exact .inl (by rw [e]; exact .head _)
    · exact .inr (hfp b hb)
  · intro i h' st
    obtain ⟨o, ho⟩ := hSt i h' st
    exact ⟨[(h.objs.size, o)], rfl, fun p hp => by rw [List.mem_singleton.mp hp]; exact ho⟩
  · exact fun p hp => ⟨Heap.get?_push_of_some _ (N p hp).1, (N p hp).2⟩
  · intro p hp hI
    exact absurd (Heap.lt_size (N p hp).1) ((List.mem_singleton.mp hI) ▸ Nat.lt_irrefl _)
  · intro i v m₁ nx h₁ tk₁ own hown hi hP hJ hnx F₁ N₁
    obtain ⟨o, rfl⟩ := own_one hown
    refine wpAny_mono (step i v m₁ nx h₁ tk₁ _ o hi hP hJ.2 (fun p hp => Heap.lt_size (N p (List.mem_append_left _ hp)).1) (fun p hp e => hnx p hp (by rw [e]; exact .head _)) (by have e := hJ.1.eq; rw [← e]; exact F₁) N₁) (fun _ s₂ h₂ => wpAny_passesOwn hE h₂) hE
  · intro h' tk m' nx F' N' hJ
    exact wpAny_passesOwn hE (fin h' tk m' nx (by have e := hJ.1.eq; rw [← e]; exact F') N' hJ.2)
/-- over a range of n turns by c from a -/
theorem for_rangeC (stored : List Str) {E : Value → Shared → Prop} {Q : Flow → Shared → Prop} {x : Str} {tp : Pos} {r : Addr} {a b c : Int} {t u v : Tok} {n : Nat} {h : Heap} {tt : Nat} {m : Str → Option Value} {cst news : List (Addr × Obj)}
    (hh : A.handled = none) (hr : IsRange h r a b c t u v) (hsm : Builtin.Range.small a b c = true) (hn : Builtin.Range.rangeSize a b c = ((n : Nat) : Int))
    (F : Fr h₀ env.locals h m) (N : News h₀ env.locals h (cst ++ news))
    (J : Nat → (Str → Option Value) → List (Addr × Obj) → Prop) (h0 : J 0 m news)
    (step : ∀ i t u nx h₁ tk₁ I o, i < n → J i u nx → (∀ p ∈ cst, p.1 < I) → (∀ p ∈ nx, p.1 ≠ I) → Fr h₀ env.locals h₁ (fun y => if stored.contains y then u y else m y) → News h₀ env.locals h₁ ((I, o) :: (cst ++ nx)) →
      wpAny (model prog w) A (assign (.Name x tp) env (.int (a + (i : Int) * c) t)) (fun _ s₂ => wpAny (model prog w) A (execs body env) (TurnPost h₀ env.locals [(I, o)] cst (fun m' nx' => Agrees stored m m' ∧ J (i + 1) m' nx') gg dd oo Q) E s₂) E ⟨h₁, gg, dd, tk₁, oo⟩)
    (fin : ∀ h' tk u nx, Fr h₀ env.locals h' (fun y => if stored.contains y then u y else m y) → News h₀ env.locals h' (cst ++ nx) → J n u nx → wpAny (model prog w) A (execs orelse env) Q E ⟨h', gg, dd, tk, oo⟩)
    (hE : PassesOwn (model prog w) A env E := by passes_own) :
    wpAny (model prog w) A (pyIter (.ref r)) (fun it s₂ => codeAny (model prog w) A (.forLoop (.Name x tp) it body orelse env) (fun r s' => match r with | .ok f => Q f s' | .error e => cameBackBy (model prog w) A env E e s') s₂) E ⟨h, gg, dd, tt, oo⟩ := by
  have W := KTurns.ofWalks (target := .Name x tp) (Walks.range (prog := prog) (w := w) hh h.objs.size a c n) fun i v s Q E st q => wpAny_of_eq (a := ()) rfl q
  refine for_core stored W (ob := { cls := .type "range_iterator", data := .fields #[rawInt a, rawInt (Builtin.Range.rangeSize a b c), rawInt c] }) ?_ (fun i h' st => ⟨_, st⟩) (fun b hb => nomatch hb) F N
    (fun Q' q => wpAny_pyIter_range hr hsm q) J h0 (fun i v u nx h₁ tk₁ I o hi hP => ?_) fin hE
  · show IsRangeIter _ _ _ _ _
    rw [hn]
    simpa using Heap.get?_push_size _ rfl
  · obtain ⟨t, rfl⟩ := hP
    exact step i t u nx h₁ tk₁ I o hi
/-- over a made list of the constant part -/
theorem for_listC (stored : List Str) {E : Value → Shared → Prop} {Q : Flow → Shared → Prop} {ax : Addr} {items : Array Value} {k : Nat} {h : Heap} {tt : Nat} {m : Str → Option Value} {cst news : List (Addr × Obj)}
    (hh : A.handled = none) (hl : h.IsList ax items) (hax : (∃ o, h₀.get? ax = some o) ∨ ∃ o, (ax, o) ∈ cst) (F : Fr h₀ env.locals h m) (N : News h₀ env.locals h (cst ++ news))
    (J : Nat → (Str → Option Value) → List (Addr × Obj) → Prop) (h0 : J 0 m news)
    (step : ∀ i v u nx h₁ tk₁ I o, i < items.size → items[i]? = some v → J i u nx → (∀ p ∈ cst, p.1 < I) → (∀ p ∈ nx, p.1 ≠ I) → Fr h₀ env.locals h₁ (fun y => if stored.contains y then u y else m y) → News h₀ env.locals h₁ ((I, o) :: (cst ++ nx)) →
      wpAny (model prog w) A (assign target env v) (fun _ s₂ => wpAny (model prog w) A (execs body env) (TurnPost h₀ env.locals [(I, o)] cst (fun m' nx' => Agrees stored m m' ∧ J (i + 1) m' nx') gg dd oo Q) E s₂) E ⟨h₁, gg, dd, tk₁, oo⟩)
    (fin : ∀ h' tk u nx, Fr h₀ env.locals h' (fun y => if stored.contains y then u y else m y) → News h₀ env.locals h' (cst ++ nx) → J items.size u nx → wpAny (model prog w) A (execs orelse env) Q E ⟨h', gg, dd, tk, oo⟩)
    (hE : PassesOwn (model prog w) A env E := by passes_own) :
    wpAny (model prog w) A (pyIter (.ref ax)) (fun it s₂ => codeAny (model prog w) A (.forLoop target it body orelse env) (fun r s' => match r with | .ok f => Q f s' | .error e => cameBackBy (model prog w) A env E e s') s₂) E ⟨h, gg, dd, tt, oo⟩ := by
  have hlt : ax < h.objs.size := let ⟨_, ho, _⟩ := hl; Heap.lt_size ho
  have W := KTurns.ofWalks (target := target) (Walks.list (prog := prog) (w := w) hh h.objs.size ax (Nat.ne_of_lt hlt) items) fun i v s Q E st q => letGo_listiter st.1 q
  exact for_core stored W ⟨⟨_, Heap.get?_push_size _ rfl, rfl, rfl⟩, hl.push _⟩ (fun i h' st => let ⟨o, ho, _⟩ := st.1; ⟨o, ho⟩) (fun b hb => (List.mem_singleton.mp hb).symm ▸ hax) F N
    (fun Q' q => wpAny_pyIter_list hl q) J h0 (fun i v u nx h₁ tk₁ I o hi hP => step i v u nx h₁ tk₁ I o hi hP) fin hE
end
end Mine
end
theorem Mine.gapRows : (if True then True else True) := by
  w_top off
  (try walk1)
  w_top off
  all_goals first | trivial | simp
/- part Rows -/
section
open PySem PySem.W PyProof.Rows PySem.Calls
set_option maxRecDepth 100000
set_option maxHeartbeats 2000000
namespace Mine
local macro_rules | `(tactic| walk_at "eval Constant int") => `(tactic| refine const_int ?_)
local macro_rules | `(tactic| walk_at "binaryOp Add int int") => `(tactic| refine add_int' ?_)
local macro_rules | `(tactic| walk_at "mine enter") => `(tactic| (
  k_dflt (refine' enter ?kX ?kT ?k6 ?k7 ?k8 ?k9 ?kB ?_ ?c2 ?c3 ?c4 ?c5; (case kX => k_asm); (case kT => k_asm); (case k6 => k_is); (case k7 => k_is); (case k8 => (dsimp only [around]; omega)); (case k9 => first | exact BindsTo.of_eq rfl | walk_at "mine binds"); (case kB => exact locs rfl); (case c2 => exact rfl); (case c3 => exact rfl); (case c4 => exact rfl); (case c5 => decide); k_whole); intro L' h' tk' F' N'; (try dsimp only); (try k_fold)))
local macro_rules | `(tactic| walk_at "pyIter ref") => `(tactic| (k_here; refine Halt.mk ?_))
local macro_rules | `(tactic| walk_at "exec For Name Subscript cons nil") => `(tactic| (k_here; refine Halt.mk ?_))
local macro_rules | `(tactic| walk_at "TurnPost") => `(tactic| (dsimp only [TurnPost]))
local macro_rules | `(tactic| walk_at "mine agrees") => `(tactic| (repeat (first | (with_reducible refine Agrees.store (by decide) ?_) | (with_reducible refine Agrees.storeU (by decide) ?_) | (with_reducible exact Agrees.base) | refine Agrees.store (by decide) ?_ | exact Agrees.base | exact Agrees.refl | refine Agrees.over (by decide) ?_)))
structure Row where
  dots : Int
  mode : Int
  stop : Str
def IsTupObj (o : Obj) (vals : Array Value) : Prop := o.cls = .type "tuple" ∧ ∃ n, o.data = .seq vals n
/-- the values of rows: each a tuple of these objects -/
def RowsAre (its : Array Value) (tups : List (Addr × Obj)) (rs : List Row) : Prop :=
  its.size = rs.length ∧ ∀ (j : Nat) (r : Row), rs[j]? = some r → ∃ T o td tm te, its[j]? = some (.ref T) ∧ (T, o) ∈ tups ∧ IsTupObj o #[.int r.dots td, .int r.mode tm, .str r.stop te]
theorem RowsAre.snoc {its : Array Value} {tups : List (Addr × Obj)} {rs : List Row} {T : Addr} {o : Obj} {r : Row} {td tm te : Tok} (h : RowsAre its tups rs) (ho : IsTupObj o #[.int r.dots td, .int r.mode tm, .str r.stop te]) :
    RowsAre (its.push (.ref T)) ((T, o) :: tups) (rs ++ [r]) := by
  refine ⟨by rw [Array.size_push, List.length_append, h.1]; rfl, fun j r' hj => ?_⟩
  by_cases e : j < rs.length
  · rw [List.getElem?_append_left e] at hj
    obtain ⟨T', o', td', tm', te', h1, h2, h3⟩ := h.2 j r' hj
    exact ⟨T', o', td', tm', te', by rw [Array.getElem?_push, if_neg (by rw [h.1]; omega)]; exact h1, .tail _ h2, h3⟩
  · rw [List.getElem?_append_right (by omega)] at hj
    have e' : j - rs.length = 0 := by
      cases q : j - rs.length with
      | zero => rfl
      | succ k => rw [q] at hj; cases hj
    rw [e'] at hj
    cases hj
    exact ⟨T, o, td, tm, te, by rw [Array.getElem?_push, if_pos (by rw [h.1]; omega)], .head _, ho⟩
def stopF (k : Int) : Str := if k = 0 then Str.ofString "\r" else if k = 1 then Str.ofString "\n" else Str.ofString "\r\n"
theorem menu3 {prog : Program} {w : World} {A : Around} {E : Value → Shared → Prop} {s : Shared} {h₀ : Heap} {L l : Addr} {news : List (Addr × Obj)} {value slice : PySem.Expr} {Y : Int} {ta tb tc u : Tok} {n : Nat} {Q : Value → Shared → Prop}
    (N : News h₀ L s.heap ((l, PySem.W.listOf #[.str (Str.ofString "\r") ta, .str (Str.ofString "\n") tb, .str (Str.ofString "\r\n") tc] n) :: news))
    (h : ∀ z t, z = stopF (Int.fmod Y 3) → News h₀ L s.heap news → Q (.str z t) s)
    (hs : subscripted slice false (.ref l) (.int (Int.fmod Y 3) u) = operate [.ref l, .int (Int.fmod Y 3) u] (getItem (.ref l) (.int (Int.fmod Y 3) u)) := by with_unfolding_all rfl) :
    wpAny (model prog w) A (subscriptTail value slice (.ref l) (.int (Int.fmod Y 3) u)) Q E s := by
  have hl : s.heap.IsList l #[.str (Str.ofString "\r") ta, .str (Str.ofString "\n") tb, .str (Str.ofString "\r\n") tc] := ⟨_, (N _ (.head _)).1, rfl, n, rfl⟩
  have hq : ∀ t, Q (.str (stopF (Int.fmod Y 3)) t) s := fun t => h _ t rfl fun p hp => N p (.tail _ hp)
  have e : Int.fmod Y 3 = 0 ∨ Int.fmod Y 3 = 1 ∨ Int.fmod Y 3 = 2 := by
    have h1 := Int.fmod_nonneg_of_pos Y (b := 3) (by decide)
    have h2 := Int.fmod_lt_of_pos Y (b := 3) (by decide)
    omega
  have go : ∀ (k : Int) (v : Value), Int.fmod Y 3 = k → 0 ≤ k → k < 4 → (#[.str (Str.ofString "\r") ta, .str (Str.ofString "\n") tb, .str (Str.ofString "\r\n") tc] : Array Value)[k.toNat]? = some v → Q v s →
      wpAny (model prog w) A (subscriptTail value slice (.ref l) (.int (Int.fmod Y 3) u)) Q E s := by
    intro k v hk h0 h1 hv hqv
    rw [hk] at hs ⊢
    exact tail_any hl.typeIs slot_list_getitem.lookup (wpAny_getItem_list hl h0 (by omega) hv hqv) hs
  rcases e with e | e | e
  · exact go 0 _ e (by decide) (by decide) rfl (by have := hq ta; rw [stopF, if_pos e] at this; exact this)
  · exact go 1 _ e (by decide) (by decide) rfl (by have := hq tb; rw [stopF, if_neg (by omega), if_pos e] at this; exact this)
  · exact go 2 _ e (by decide) (by decide) rfl (by have := hq tc; rw [stopF, if_neg (by omega), if_neg (by omega)] at this; exact this)
local macro_rules | `(tactic| walk_at "subscriptTail") => `(tactic| (k_here; (with_reducible show wpAny _ _ (subscriptTail _ _ (Value.ref _) (Value.int (Int.fmod _ 3) _)) _ _ _); (with_reducible rename News _ _ _ _ => lN'); (with_unfolding_all refine' menu3 lN' ?_ ?k5; (case k5 => with_unfolding_all rfl); k_whole); clear lN'; intro z' t' hz' N'; (try dsimp only at N'); (try dsimp only)))
def rowOf (x : Int) : Row :=
  let y := x % 1000000000
  ⟨y / 5 % 3, if y % 5 = 0 then -1 else if y % 5 = 4 then y / 45 % 65536 / 512 * 512 + 511 else y / 45 % 65536, stopF (y / 15 % 3)⟩
def row0 : Row := ⟨0, 16895, Str.ofString "\n"⟩
def rowsF (ns : List Int) : List Row := row0 :: (ns.take 9).map rowOf
def RowJ (D : Addr) (ns : List Int) (i : Nat) (_ : Str → Option Value) (nx : List (Addr × Obj)) : Prop :=
  ∃ its n tups, nx = (D, W.listOf its n) :: tups ∧ RowsAre its tups (row0 :: (ns.take i).map rowOf) ∧ ∀ p ∈ tups, p.1 ≠ D
theorem row0_are {T : Addr} {td tm te : Tok} {n : Nat} : RowsAre #[.ref T] [(T, { cls := .type "tuple", data := .seq #[.int 0 td, .int 16895 tm, .str (Str.ofString "\n") te] n })] (row0 :: List.map rowOf []) := by
  refine ⟨rfl, fun j r hj => ?_⟩
  match j, hj with
  | 0, hj => cases hj; exact ⟨T, _, td, tm, te, rfl, .head _, rfl, _, rfl⟩
  | j + 1, hj => cases hj
abbrev yOf (x : Int) : Int := x.fmod (10 ^ Int.toNat 9)
theorem y_eq (x : Int) : yOf x = x % 1000000000 := by
  show x.fmod 1000000000 = _
  exact Int.fmod_eq_emod_of_nonneg _ (by decide)
theorem fdv (y k : Int) (hk : 0 ≤ k) : y.fdiv k = y / k := Int.fdiv_eq_ediv_of_nonneg _ hk
theorem fmd (y k : Int) (hk : 0 ≤ k) : y.fmod k = y % k := Int.fmod_eq_emod_of_nonneg _ hk
theorem row_of {x m : Int} {z : Str} (hm : m = if x % 1000000000 % 5 = 0 then -1 else if x % 1000000000 % 5 = 4 then x % 1000000000 / 45 % 65536 / 512 * 512 + 511 else x % 1000000000 / 45 % 65536) (hz : z = stopF (((yOf x).fdiv 15).fmod 3)) :
    (⟨((yOf x).fdiv 5).fmod 3, m, z⟩ : Row) = rowOf x := by
  rw [hm, hz, y_eq, fdv _ _ (by decide), fdv _ _ (by decide), fmd _ _ (by decide), fmd _ _ (by decide)]
  rfl
theorem row_a {x : Int} {z : Str} (h : (yOf x).fmod 5 = 0) (hz : z = stopF (((yOf x).fdiv 15).fmod 3)) : (⟨((yOf x).fdiv 5).fmod 3, -1, z⟩ : Row) = rowOf x := by
  rw [y_eq, fmd _ _ (by decide)] at h
  exact row_of (by rw [if_pos h]) hz
theorem row_b {x : Int} {z : Str} (h : (yOf x).fmod 5 ≠ 0) (h4 : (yOf x).fmod 5 = 4) (hz : z = stopF (((yOf x).fdiv 15).fmod 3)) : (⟨((yOf x).fdiv 5).fmod 3, (((yOf x).fdiv 45).fmod 65536).fdiv 512 * 512 + 511, z⟩ : Row) = rowOf x := by
  rw [y_eq, fmd _ _ (by decide)] at h h4
  refine row_of ?_ hz
  rw [if_neg h, if_pos h4, y_eq, fdv _ _ (by decide), fmd _ _ (by decide), fdv _ _ (by decide)]
theorem row_c {x : Int} {z : Str} (h : (yOf x).fmod 5 ≠ 0) (h4 : (yOf x).fmod 5 ≠ 4) (hz : z = stopF (((yOf x).fdiv 15).fmod 3)) : (⟨((yOf x).fdiv 5).fmod 3, ((yOf x).fdiv 45).fmod 65536, z⟩ : Row) = rowOf x := by
  rw [y_eq, fmd _ _ (by decide)] at h h4
  refine row_of ?_ hz
  rw [if_neg h, if_neg h4, y_eq, fdv _ _ (by decide), fmd _ _ (by decide)]
theorem row_turn {h₀ h' : Heap} {L D I S T : Addr} {o oT oS : Obj} {m m' : Str → Option Value} {its : Array Value} {n i : Nat} {ns : List Int} {x : Int} {r : Row} {td tm te : Tok} {tups : List (Addr × Obj)} {gg : Array GenState} {dd : Drawn} {tk : Nat} {oo : OsState} {st : List Str}
    (F : Fr h₀ L h' m') (N : News h₀ L h' ((T, oT) :: (I, o) :: ([(S, oS)] ++ (D, W.listOf (its.push (.ref T)) (n + 1)) :: tups))) (hT : IsTupObj oT #[.int r.dots td, .int r.mode tm, .str r.stop te]) (hr : r = rowOf x) (hx : (ns.take 9)[i]? = some x)
    (hne : D ≠ I) (hIT : I ≠ T) (hDT : D ≠ T) (hnx : ∀ p ∈ tups, p.1 ≠ I) (hoff : ∀ p ∈ tups, p.1 ≠ D) (hrows : RowsAre its tups (row0 :: (ns.take i).map rowOf)) (ag : Agrees st m m') :
    TurnEnd h₀ L [(I, o)] [(S, oS)] (fun m' nx' => Agrees st m m' ∧ RowJ D ns (i + 1) m' nx') gg dd oo ⟨h', gg, dd, tk, oo⟩ := by
  have hx' : ns[i]? = some x := by
    rw [List.getElem?_take] at hx
    split at hx
    · exact hx
    · cases hx
  refine turnEnd (nx := (D, W.listOf (its.push (.ref T)) (n + 1)) :: (T, oT) :: tups) F (fun p hp => N p ?_) (fun p hp q hq => ?_) ⟨ag, _, _, _, rfl, ?_, fun p hp => ?_⟩
  · simp only [List.cons_append, List.nil_append, List.mem_cons] at hp ⊢
    rcases hp with hp | hp | hp | hp | hp
    · exact .inr (.inl hp)
    · exact .inr (.inr (.inl hp))
    · exact .inr (.inr (.inr (.inl hp)))
    · exact .inl hp
    · exact .inr (.inr (.inr (.inr hp)))
  · rw [List.mem_singleton.mp hq]
    rcases List.mem_cons.mp hp with rfl | hp
    · exact hne
    · rcases List.mem_cons.mp hp with rfl | hp
      · exact Ne.symm hIT
      · exact hnx p hp
  · have e : row0 :: (ns.take (i + 1)).map rowOf = (row0 :: (ns.take i).map rowOf) ++ [rowOf x] := by
      rw [List.take_add_one, hx']
      simp
    rw [e, ← hr]
    exact hrows.snoc hT
  · rcases List.mem_cons.mp hp with rfl | hp
    · exact Ne.symm hDT
    · exact hoff p hp
def RowsOut (ns : List Int) (v : Value) (tl : List (Addr × Obj)) : Prop := ∃ D its n tups, v = .ref D ∧ tl = (D, W.listOf its n) :: tups ∧ RowsAre its tups (rowsF ns) ∧ ∀ p ∈ tups, p.1 ≠ D
theorem rows_says {w mean mg mb} (a : Addr) (vs : List Value) (ns : List Int) (hvs : IntsAre vs ns) (hlen : ns.length ≤ 63) :
    SaysP 3 w mean mg mb 188 [.ref a] (fun h => h.IsList a vs.toArray) (RowsOut ns) := by
  unfold SaysP; k_fill
  intro dp un gd base envs h₀ gg dd tt oo R B X T hd hu hl hret
  walk_at "mine enter"
  k_steps
  unfold Halt
  refine wpAny_For ?_ (by intro _; rfl)
  k_steps
  unfold Halt
  (with_reducible rename Fr _ _ _ _ => F'); (with_reducible rename News _ _ _ _ => N'); (with_reducible rename IntsAre _ _ => hI); (with_reducible rename List Value => ws)
  rename_i l1
  refine for_listC (k := 0) (cst := [_]) (news := [_, _]) [Str.ofString "x", Str.ofString "y", Str.ofString "mode"] rfl (News.isList N' (.head _)) (.inr ⟨_, .head _⟩) F' N' (RowJ _ ns) ⟨_, _, _, rfl, ?r0, ?n0⟩ ?step ?fin
  case r0 => exact row0_are
  case n0 =>
    intro p hp
    rw [List.mem_singleton.mp hp]
    exact Nat.ne_of_lt (by assumption)
  case step =>
    intro i v u nx h₁ tk₁ I o hi hv hJ hcst hnx F₁ N₁
    obtain ⟨its, n, tups, rfl, hrows, hoff⟩ := hJ
    obtain ⟨x, tx, rfl, hx⟩ := hI.at i v (by simpa using hv)
    have hsz : its.size + 1 ≤ sizeLine := by
      have h9 : (100 : Nat) ≤ sizeLine := by decide
      have := hI.length
      have h8 : (ns.take i).length ≤ i := by rw [List.length_take]; omega
      rw [hrows.1, List.length_cons, List.length_map]
      rw [List.size_toArray] at hi
      omega
    have hne := neN (hnx _ (.head _))
    have hne2 := neN (Nat.ne_of_lt (hcst _ (.head _)))
    dsimp only at hne hne2
    k_steps
    all_goals (rename_i l1b; (with_reducible rename Fr _ _ _ _ => Fx); (with_reducible rename News _ _ _ _ => Nx); (with_reducible rename _ = stopF _ => hz))
    all_goals (refine append_K Fx Nx (.tail (Ne.symm (Nat.ne_of_lt l1b.2.2.1)) (.tail (Ne.symm hne) (.tail (Ne.symm (Nat.ne_of_lt l1.1)) (.head hoff)))) ?_ (Nat.le_of_succ_le hsz))
    all_goals (intro h'' F'' N''; (try dsimp only))
    all_goals k_steps
    · exact row_turn (r := ⟨_, _, _⟩) F'' N'' ⟨rfl, _, rfl⟩ (row_a (by assumption) hz) hx hne (Nat.ne_of_lt l1b.1) (Nat.ne_of_lt l1b.2.2.1) (fun p hp => hnx p (.tail _ hp)) hoff hrows (by walk_at "mine agrees")
    · exact row_turn (r := ⟨_, _, _⟩) F'' N'' ⟨rfl, _, rfl⟩ (row_b (by assumption) (by assumption) hz) hx hne (Nat.ne_of_lt l1b.1) (Nat.ne_of_lt l1b.2.2.1) (fun p hp => hnx p (.tail _ hp)) hoff hrows (by walk_at "mine agrees")
    · exact row_turn (r := ⟨_, _, _⟩) F'' N'' ⟨rfl, _, rfl⟩ (row_c (by assumption) (by assumption) hz) hx hne (Nat.ne_of_lt l1b.1) (Nat.ne_of_lt l1b.2.2.1) (fun p hp => hnx p (.tail _ hp)) hoff hrows (by walk_at "mine agrees")
  case fin =>
    intro h' tk u nx F₁ N₁ hJ
    obtain ⟨its, n, tups, rfl, hrows, hoff⟩ := hJ
    k_steps
    dsimp only
    with_reducible rename Fr _ _ _ _ => Fx
    have e : ns.take ws.toArray.size = ns.take 9 := by
      rw [List.size_toArray, hI.length, List.length_take]
      rcases Nat.le_total 9 ns.length with h | h
      · rw [Nat.min_eq_left h]
      · rw [Nat.min_eq_right h, List.take_of_length_le (Nat.le_refl _), List.take_of_length_le h]
    rw [e] at hrows
    exact hret _ ((_, W.listOf its n) :: tups) _ _ ⟨_, its, n, tups, rfl, rfl, hrows, hoff⟩ ⟨Fx.keep, fun p hp => ⟨(N₁ p (.tail _ hp)).1, (N₁ p (.tail _ hp)).2.2⟩⟩
end Mine
end
/- part Sre1 -/
section
open PySem PySem.Sre
set_option maxRecDepth 100000
namespace Mine.S

def it : Nat → M → M
  | 0, m => m
  | n + 1, m => it n m.step

theorem step_done {m : M} (h : m.outcome.isSome = true) : m.step = m := by unfold M.step; rw [if_pos h]
theorem it_done {m : M} (h : m.outcome.isSome = true) : ∀ n, it n m = m
  | 0 => rfl
  | n + 1 => by show it n m.step = m; rw [step_done h]; exact it_done h n
theorem runFor_it : ∀ (n : Nat) (m : M), m.runFor n = it n m
  | 0, _ => rfl
  | n + 1, m => by
    show (if m.outcome.isSome then m else M.runFor n m.step) = it n m.step
    cases h : m.outcome.isSome with
    | true => rw [if_pos rfl, step_done h, it_done h]
    | false => rw [if_neg Bool.false_ne_true]; exact runFor_it n m.step
theorem it_add : ∀ (a b : Nat) (m : M), it (a + b) m = it b (it a m)
  | 0, b, m => by rw [Nat.zero_add]; rfl
  | a + 1, b, m => by rw [Nat.succ_add]; exact it_add a b m.step

def code1 : Array Nat := #[14, 4, 0, 1, 1, 6, 1, 16, 46, 1]
def code2 : Array Nat := #[14, 9, 4, 1, 2, 16, 10, 16, 13, 0, 7, 7, 16, 13, 16, 10, 15, 18, 5, 16, 10, 15, 13, 11, 16, 13, 5, 5, 0, 16, 10, 1, 15, 2, 0, 1]

/-- an attempt of the first pattern at place s -/
def att1 (text : Array Nat) (seen : Seen) (s : Nat) (first : Bool) : M :=
  { code := code1, text := text, lim := text.size, start := s, lastStart := text.size, pc := 5, pos := s, handed := s, outermost := first, marks := #[],
    frames := [{ wait := .nextStart, pc := 5, pos := s, outermost := first }], weight := 1, seen := seen }

def bol (text : Array Nat) (s : Nat) : Bool := s == 0 || text.getD (s - 1) 0 == 10

theorem att1_at (text : Array Nat) (seen : Seen) (s : Nat) (first : Bool) : ∃ seen', (att1 text seen s first).step = if bol text s then { att1 text seen' s first with pc := 7 } else { att1 text seen' s first with answer := some false } := by
  refine ⟨(seen.add 6).add 44, ?_⟩
  rfl
theorem att1_next {text : Array Nat} {seen : Seen} {s : Nat} {first : Bool} (hs : s < text.size) : M.step { att1 text seen s first with answer := some false } = att1 text seen (s + 1) false := by
  show (if s < text.size then _ else _) = _
  rw [if_pos hs]
  rfl
theorem att1_lit {text : Array Nat} {seen : Seen} {s : Nat} {first : Bool} : ∃ seen', M.step { att1 text seen s first with pc := 7 } = if s < text.size ∧ text.getD s 0 = 46 then { att1 text seen' s first with pc := 9, pos := s + 1 } else { att1 text seen' s first with pc := 7, answer := some false } := by
  refine ⟨seen.add 16, ?_⟩
  show (if s ≥ text.size then _ else (match (.ok (text.getD s 0 == 46, seen.add 16) : Except String (Bool × Seen)) with | .error why => _ | .ok (false, seen) => _ | .ok (true, seen) => _)) = _
  by_cases h : s ≥ text.size
  · rw [if_pos h, if_neg (by omega)]; rfl
  · rw [if_neg h]
    by_cases h2 : text.getD s 0 = 46
    · rw [if_pos ⟨by omega, h2⟩, h2]; rfl
    · rw [if_neg (fun q => h2 q.2)]
      have : (text.getD s 0 == 46) = false := by simpa using h2
      rw [this]; rfl

theorem att1_found {text : Array Nat} {seen : Seen} {s : Nat} {first : Bool} : ∃ m', it 3 { att1 text seen s first with pc := 9, pos := s + 1 } = m' ∧ m'.start = s ∧ m'.handed = s + 1 ∧ m'.outcome = some .matched := by
  refine ⟨_, rfl, ?_⟩
  have : M.step { att1 text seen s first with pc := 9, pos := s + 1 } = { att1 text (seen.add 1) s first with pc := 9, pos := s + 1, handed := s + 1, answer := some true } := by
    show (if (first && ((false && _) || (false && _))) = true then _ else _) = _
    rw [if_neg (by simp)]
    rfl
  show (it 2 (M.step { att1 text seen s first with pc := 9, pos := s + 1 })).start = s ∧ (it 2 (M.step { att1 text seen s first with pc := 9, pos := s + 1 })).handed = s + 1 ∧ (it 2 (M.step { att1 text seen s first with pc := 9, pos := s + 1 })).outcome = some .matched
  rw [this]
  exact ⟨rfl, rfl, rfl⟩

/-- the first pattern's matches -/
def hit1 (text : Array Nat) (s : Nat) : Bool := bol text s && decide (s < text.size) && text.getD s 0 == 46

theorem att1_miss {text : Array Nat} {seen : Seen} {s : Nat} {first : Bool} (hs : s < text.size) (hm : hit1 text s = false) : ∃ k seen', k ≤ 3 ∧ it k (att1 text seen s first) = att1 text seen' (s + 1) false := by
  obtain ⟨e1, h1⟩ := att1_at text seen s first
  cases hb : bol text s with
  | false =>
    rw [hb] at h1
    refine ⟨2, e1, by omega, ?_⟩
    show (M.step (M.step (att1 text seen s first))) = _
    rw [h1]
    exact att1_next hs
  | true =>
    rw [hb] at h1
    obtain ⟨e2, h2⟩ := att1_lit (text := text) (seen := e1) (s := s) (first := first)
    have : ¬ (s < text.size ∧ text.getD s 0 = 46) := by
      rintro ⟨a, b⟩
      rw [hit1, hb, b] at hm
      simp [a] at hm
    rw [if_neg this] at h2
    refine ⟨3, e2, by omega, ?_⟩
    show (M.step (M.step (M.step (att1 text seen s first)))) = _
    rw [h1, if_pos rfl, h2]
    exact att1_next hs
theorem att1_last {text : Array Nat} {seen : Seen} {s : Nat} {first : Bool} (hs : ¬ s < text.size) : ∃ k m', k ≤ 4 ∧ it k (att1 text seen s first) = m' ∧ m'.outcome = some .failed := by
  have fin : ∀ (e : Seen) (pc : Nat), (it 2 { att1 text e s first with pc := pc, answer := some false }).outcome = some .failed := by
    intro e pc
    have : M.step { att1 text e s first with pc := pc, answer := some false } = { att1 text e s first with answer := some false, frames := [], weight := 0 } := by
      show (if s < text.size then _ else _) = _
      rw [if_neg hs]; rfl
    show (it 1 (M.step { att1 text e s first with pc := pc, answer := some false })).outcome = _
    rw [this]; rfl
  obtain ⟨e1, h1⟩ := att1_at text seen s first
  cases hb : bol text s with
  | false =>
    rw [hb] at h1
    refine ⟨3, _, by omega, rfl, ?_⟩
    show (it 2 (M.step (att1 text seen s first))).outcome = _
    rw [h1]
    exact fin e1 5
  | true =>
    rw [hb] at h1
    obtain ⟨e2, h2⟩ := att1_lit (text := text) (seen := e1) (s := s) (first := first)
    rw [if_neg (fun q => hs q.1)] at h2
    refine ⟨4, _, by omega, rfl, ?_⟩
    show (it 2 (M.step (M.step (att1 text seen s first)))).outcome = _
    rw [h1, if_pos rfl, h2]
    exact fin e2 7
theorem att1_hit {text : Array Nat} {seen : Seen} {s : Nat} {first : Bool} (hm : hit1 text s = true) : ∃ k m', k ≤ 5 ∧ it k (att1 text seen s first) = m' ∧ m'.start = s ∧ m'.handed = s + 1 ∧ m'.outcome = some .matched := by
  obtain ⟨e1, h1⟩ := att1_at text seen s first
  obtain ⟨e2, h2⟩ := att1_lit (text := text) (seen := e1) (s := s) (first := first)
  obtain ⟨m', h3, r⟩ := att1_found (text := text) (seen := e2) (s := s) (first := first)
  simp only [hit1, Bool.and_eq_true, decide_eq_true_eq, beq_iff_eq] at hm
  refine ⟨5, m', by omega, ?_, r⟩
  show it 3 (M.step (M.step (att1 text seen s first))) = _
  rw [h1, hm.1.1, if_pos rfl, h2, if_pos ⟨hm.1.2, hm.2⟩]
  exact h3

def Ends (m : M) (n : Nat) (P : M → Prop) : Prop := ∃ k m', k ≤ n ∧ it k m = m' ∧ P m'
theorem Ends.go {m m₁ : M} {k n n' : Nat} {P : M → Prop} (h : it k m = m₁) (e : Ends m₁ n P) (hn : k + n ≤ n') : Ends m n' P := by
  obtain ⟨j, m', hj, h', p⟩ := e
  exact ⟨k + j, m', by omega, by rw [it_add, h]; exact h', p⟩

def Found (hit : Nat → Bool) (width : Nat → Nat) (s last : Nat) (m : M) : Prop :=
  (∃ j, s ≤ j ∧ j ≤ last ∧ hit j = true ∧ (∀ i, s ≤ i → i < j → hit i = false) ∧ m.start = j ∧ m.handed = j + width j ∧ m.outcome = some .matched) ∨
  ((∀ i, s ≤ i → i ≤ last → hit i = false) ∧ m.outcome = some .failed)

theorem att1_run (text : Array Nat) : ∀ n s seen first, s + n = text.size → Ends (att1 text seen s first) (4 * n + 5) (Found (hit1 text) (fun _ => 1) s text.size)
  | 0, s, seen, first, hn => by
    obtain ⟨k, m', hk, e, ho⟩ := att1_last (text := text) (seen := seen) (s := s) (first := first) (by omega)
    refine ⟨k, m', by omega, e, .inr ⟨fun i h1 h2 => ?_, ho⟩⟩
    simp [hit1]; omega
  | n + 1, s, seen, first, hn => by
    cases hm : hit1 text s with
    | true =>
      obtain ⟨k, m', hk, e, h1, h2, h3⟩ := att1_hit (text := text) (seen := seen) (s := s) (first := first) hm
      exact ⟨k, m', by omega, e, .inl ⟨s, by omega, by omega, hm, fun i _ _ => by omega, h1, h2, h3⟩⟩
    | false =>
      obtain ⟨k, seen', hk, e⟩ := att1_miss (text := text) (seen := seen) (s := s) (first := first) (by omega) hm
      obtain ⟨j, m', hj, e', p⟩ := att1_run text n (s + 1) seen' false (by omega)
      refine Ends.go e ⟨j, m', hj, e', ?_⟩ (by omega)
      have low : ∀ i, s ≤ i → ¬ s + 1 ≤ i → hit1 text i = false := fun i a b => by
        have : i = s := by omega
        rw [this]; exact hm
      rcases p with ⟨q, a, b, c, d, r⟩ | ⟨a, b⟩
      · exact .inl ⟨q, by omega, b, c, fun i x y => if z : s + 1 ≤ i then d i z y else low i x z, r⟩
      · exact .inr ⟨fun i x y => if z : s + 1 ≤ i then a i z y else low i x z, b⟩

theorem search1 {text : Array Nat} {s : Nat} (hs : s ≤ text.size) : Ends (forSearch code1 text 0 s text.size false) (4 * text.size + 5) (Found (hit1 text) (fun _ => 1) s text.size) := by
  by_cases h : s = text.size
  · refine ⟨1, _, by omega, rfl, .inr ⟨fun i a b => ?_, ?_⟩⟩
    · simp [hit1]; omega
    · subst h
      show (M.step (if (decide (text.size > text.size) || decide (text.size - text.size < 1)) = true then _ else _)).outcome = _
      rw [if_pos (by simp)]
      rfl
  · have : ∃ seen, forSearch code1 text 0 s text.size false = att1 text seen s true := by
      refine ⟨({} : Seen).add 14, ?_⟩
      show (if (decide (s > text.size) || decide (text.size - s < 1)) = true then _ else _) = _
      rw [if_neg (by simp; omega)]
      rfl
    obtain ⟨seen, e⟩ := this
    rw [e]
    obtain ⟨k, m', hk, r⟩ := att1_run text (text.size - s) s seen true (by omega)
    exact ⟨k, m', by omega, r⟩

/-- an attempt of the second pattern at place s -/
def att2 (text : Array Nat) (seen : Seen) (s : Nat) (first : Bool) : M :=
  { code := code2, text := text, lim := text.size, start := s, lastStart := text.size, pc := 10, pos := s, handed := s, outermost := first, marks := #[],
    frames := [{ wait := .nextStart, pc := 10, pos := s, outermost := first }], weight := 1, seen := seen }
def fr2 (s : Nat) (first : Bool) (alt : Nat) : Sre.Frame := { wait := .nextBranch, pc := alt, pos := s, outermost := first }
def fr0 (s : Nat) (first : Bool) : Sre.Frame := { wait := .nextStart, pc := 10, pos := s, outermost := first }

/-- within an alternative -/
def alt2 (text : Array Nat) (seen : Seen) (s : Nat) (first : Bool) (alt pc pos : Nat) : M :=
  { att2 text seen s first with pc := pc, pos := pos, frames := [fr2 s first alt, fr0 s first], weight := 2 }
/-- an alternative has said its word -/
def said2 (text : Array Nat) (seen : Seen) (s : Nat) (first : Bool) (alt pc pos handed : Nat) (yes : Bool) : M :=
  { att2 text seen s first with pc := pc, pos := pos, handed := handed, frames := [fr2 s first alt, fr0 s first], weight := 2, answer := some yes }

section
variable {text : Array Nat} {seen : Seen} {s : Nat} {first : Bool}
theorem att2_branch : (att2 text seen s first).step = alt2 text (seen.add 7) s first 11 12 s := rfl
theorem alt2_no1 {pc pos handed : Nat} : (said2 text seen s first 11 pc pos handed false).step = { alt2 text seen s first 18 19 s with handed := s } := rfl
theorem alt2_no2 {pc pos handed : Nat} : (said2 text seen s first 18 pc pos handed false).step = { alt2 text seen s first 23 24 s with handed := s } := rfl
theorem said2_yes {alt pc pos handed : Nat} : ∃ m', it 3 (said2 text seen s first alt pc pos handed true) = m' ∧ m'.start = s ∧ m'.handed = handed ∧ m'.outcome = some .matched := ⟨_, rfl, rfl, rfl, rfl⟩
theorem alt2_lit12 {pos : Nat} : (alt2 text seen s first 11 12 pos).step = if pos < text.size ∧ text.getD pos 0 = 13 then alt2 text (seen.add 16) s first 11 14 (pos + 1) else said2 text (seen.add 16) s first 11 12 pos s false := by
  show (if pos ≥ text.size then _ else (match (.ok (text.getD pos 0 == 13, seen.add 16) : Except String (Bool × Seen)) with | .error why => _ | .ok (false, seen) => _ | .ok (true, seen) => _)) = _
  by_cases h : pos ≥ text.size
  · rw [if_pos h, if_neg (by omega)]; rfl
  · rw [if_neg h]
    by_cases h2 : text.getD pos 0 = 13
    · rw [if_pos ⟨by omega, h2⟩, h2]; rfl
    · rw [if_neg (fun q => h2 q.2)]
      have : (text.getD pos 0 == 13) = false := by simpa using h2
      rw [this]; rfl
theorem alt2_lit14 {pos : Nat} : (alt2 text seen s first 11 14 pos).step = if pos < text.size ∧ text.getD pos 0 = 10 then alt2 text (seen.add 16) s first 11 16 (pos + 1) else said2 text (seen.add 16) s first 11 14 pos s false := by
  show (if pos ≥ text.size then _ else (match (.ok (text.getD pos 0 == 10, seen.add 16) : Except String (Bool × Seen)) with | .error why => _ | .ok (false, seen) => _ | .ok (true, seen) => _)) = _
  by_cases h : pos ≥ text.size
  · rw [if_pos h, if_neg (by omega)]; rfl
  · rw [if_neg h]
    by_cases h2 : text.getD pos 0 = 10
    · rw [if_pos ⟨by omega, h2⟩, h2]; rfl
    · rw [if_neg (fun q => h2 q.2)]
      have : (text.getD pos 0 == 10) = false := by simpa using h2
      rw [this]; rfl
theorem alt2_lit19 {pos : Nat} : (alt2 text seen s first 18 19 pos).step = if pos < text.size ∧ text.getD pos 0 = 10 then alt2 text (seen.add 16) s first 18 21 (pos + 1) else said2 text (seen.add 16) s first 18 19 pos s false := by
  show (if pos ≥ text.size then _ else (match (.ok (text.getD pos 0 == 10, seen.add 16) : Except String (Bool × Seen)) with | .error why => _ | .ok (false, seen) => _ | .ok (true, seen) => _)) = _
  by_cases h : pos ≥ text.size
  · rw [if_pos h, if_neg (by omega)]; rfl
  · rw [if_neg h]
    by_cases h2 : text.getD pos 0 = 10
    · rw [if_pos ⟨by omega, h2⟩, h2]; rfl
    · rw [if_neg (fun q => h2 q.2)]
      have : (text.getD pos 0 == 10) = false := by simpa using h2
      rw [this]; rfl
theorem alt2_lit24 {pos : Nat} : (alt2 text seen s first 23 24 pos).step = if pos < text.size ∧ text.getD pos 0 = 13 then alt2 text (seen.add 16) s first 23 26 (pos + 1) else said2 text (seen.add 16) s first 23 24 pos s false := by
  show (if pos ≥ text.size then _ else (match (.ok (text.getD pos 0 == 13, seen.add 16) : Except String (Bool × Seen)) with | .error why => _ | .ok (false, seen) => _ | .ok (true, seen) => _)) = _
  by_cases h : pos ≥ text.size
  · rw [if_pos h, if_neg (by omega)]; rfl
  · rw [if_neg h]
    by_cases h2 : text.getD pos 0 = 13
    · rw [if_pos ⟨by omega, h2⟩, h2]; rfl
    · rw [if_neg (fun q => h2 q.2)]
      have : (text.getD pos 0 == 13) = false := by simpa using h2
      rw [this]; rfl
theorem alt2_jump16 {pos : Nat} : (alt2 text seen s first 11 16 pos).step = alt2 text (seen.add 15) s first 11 35 pos := rfl
theorem alt2_jump21 {pos : Nat} : (alt2 text seen s first 18 21 pos).step = alt2 text (seen.add 15) s first 18 35 pos := rfl
theorem alt2_jump32 {pos : Nat} : (alt2 text seen s first 23 32 pos).step = alt2 text (seen.add 15) s first 23 35 pos := rfl
theorem alt2_yes {alt pos : Nat} : (alt2 text seen s first alt 35 pos).step = said2 text (seen.add 1) s first alt 35 pos pos true := by
  show (if (first && ((false && _) || (false && _))) = true then _ else _) = _
  rw [if_neg (by simp)]
  rfl
def frN (pos : Nat) (first : Bool) : Sre.Frame := { wait := .lookNot, pc := 26, pos := pos, outermost := first }
def look2 (text : Array Nat) (seen : Seen) (s : Nat) (first : Bool) (pos : Nat) : M :=
  { att2 text seen s first with pc := 29, pos := pos, handed := pos, outermost := false, frames := [frN pos first, fr2 s first 23, fr0 s first], weight := 3 }
theorem alt2_assert {pos : Nat} : (alt2 text seen s first 23 26 pos).step = look2 text (seen.add 5) s first pos := rfl
theorem look2_no {pos : Nat} (h : ¬ (pos < text.size ∧ text.getD pos 0 = 10)) : ∃ seen', it 2 (look2 text seen s first pos) = { alt2 text seen' s first 23 32 pos with handed := pos } := by
  refine ⟨seen.add 16, ?_⟩
  have e : M.step (look2 text seen s first pos) = { look2 text (seen.add 16) s first pos with answer := some false } := by
    show (if pos ≥ text.size then _ else (match (.ok (text.getD pos 0 == 10, seen.add 16) : Except String (Bool × Seen)) with | .error why => _ | .ok (false, seen) => _ | .ok (true, seen) => _)) = _
    by_cases h1 : pos ≥ text.size
    · rw [if_pos h1]; rfl
    · rw [if_neg h1]
      have : (text.getD pos 0 == 10) = false := by
        have : ¬ text.getD pos 0 = 10 := fun q => h ⟨by omega, q⟩
        simpa using this
      rw [this]; rfl
  show M.step (M.step (look2 text seen s first pos)) = _
  rw [e]; rfl
theorem tail32 {pos : Nat} : it 2 { alt2 text seen s first 23 32 pos with handed := pos } = said2 text ((seen.add 15).add 1) s first 23 35 pos pos true := by
  have e : M.step { alt2 text seen s first 23 32 pos with handed := pos } = { alt2 text (seen.add 15) s first 23 35 pos with handed := pos } := rfl
  show M.step (M.step { alt2 text seen s first 23 32 pos with handed := pos }) = _
  rw [e]
  show (if (first && ((false && _) || (false && _))) = true then _ else _) = _
  rw [if_neg (by simp)]
  rfl
end

def hit2 (text : Array Nat) (s : Nat) : Bool := decide (s < text.size) && (text.getD s 0 == 10 || text.getD s 0 == 13)
def wid2 (text : Array Nat) (s : Nat) : Nat := if text.getD s 0 = 13 ∧ s + 1 < text.size ∧ text.getD (s + 1) 0 = 10 then 2 else 1

theorem att2_hit {text : Array Nat} {seen : Seen} {s : Nat} {first : Bool} (hm : hit2 text s = true) : ∃ m', it 15 (att2 text seen s first) = m' ∧ m'.start = s ∧ m'.handed = s + wid2 text s ∧ m'.outcome = some .matched := by
  have done : ∀ {k : Nat} {e : Seen} {alt pc pos handed : Nat}, k ≤ 12 → handed = s + wid2 text s → it k (att2 text seen s first) = said2 text e s first alt pc pos handed true →
      ∃ m', it 15 (att2 text seen s first) = m' ∧ m'.start = s ∧ m'.handed = s + wid2 text s ∧ m'.outcome = some .matched := by
    intro k e alt pc pos handed hk hh he
    obtain ⟨m', h3, a, b, c⟩ := said2_yes (text := text) (seen := e) (s := s) (first := first) (alt := alt) (pc := pc) (pos := pos) (handed := handed)
    refine ⟨m', ?_, a, b.trans hh, c⟩
    have : (15 : Nat) = k + (3 + (12 - k)) := by omega
    rw [this, it_add, it_add, he, h3, it_done (by rw [c]; rfl)]
  simp only [hit2, Bool.and_eq_true, decide_eq_true_eq, Bool.or_eq_true, beq_iff_eq] at hm
  obtain ⟨hlt, hc⟩ := hm
  have b1 := att2_branch (text := text) (seen := seen) (s := s) (first := first)
  rcases hc with hc | hc
  · -- a feed
    refine done (k := 6) (e := ((((seen.add 7).add 16).add 16).add 15).add 1) (alt := 18) (pc := 35) (pos := s + 1) (handed := s + 1) (by omega) (by rw [wid2, if_neg (by rw [hc]; omega)]) ?_
    show M.step (M.step (M.step (M.step (M.step (M.step (att2 text seen s first)))))) = _
    rw [b1, alt2_lit12, if_neg (by rw [hc]; omega), alt2_no1]
    show M.step (M.step (M.step (alt2 text _ s first 18 19 s))) = _
    rw [alt2_lit19, if_pos ⟨hlt, hc⟩, alt2_jump21, alt2_yes]
    rfl
  · by_cases hn : s + 1 < text.size ∧ text.getD (s + 1) 0 = 10
    · refine done (k := 5) (e := ((((seen.add 7).add 16).add 16).add 15).add 1) (alt := 11) (pc := 35) (pos := s + 2) (handed := s + 2) (by omega) (by rw [wid2, if_pos ⟨hc, hn⟩]) ?_
      show M.step (M.step (M.step (M.step (M.step (att2 text seen s first))))) = _
      rw [b1, alt2_lit12, if_pos ⟨hlt, hc⟩, alt2_lit14, if_pos hn, alt2_jump16, alt2_yes]
    · obtain ⟨e', hl⟩ := look2_no (text := text) (seen := ((((((seen.add 7).add 16).add 16).add 16).add 16)).add 5) (s := s) (first := first) (pos := s + 1) hn
      refine done (k := 12) (e := (e'.add 15).add 1) (alt := 23) (pc := 35) (pos := s + 1) (handed := s + 1) (by omega) (by rw [wid2, if_neg (fun q => hn q.2)]) ?_
      have h7 : it 8 (att2 text seen s first) = look2 text ((((((seen.add 7).add 16).add 16).add 16).add 16).add 5) s first (s + 1) := by
        show M.step (M.step (M.step (M.step (M.step (M.step (M.step (M.step (att2 text seen s first)))))))) = _
        rw [b1, alt2_lit12, if_pos ⟨hlt, hc⟩, alt2_lit14, if_neg hn, alt2_no1]
        show M.step (M.step (M.step (M.step (alt2 text _ s first 18 19 s)))) = _
        rw [alt2_lit19, if_neg (by rw [hc]; omega), alt2_no2]
        show M.step (M.step (alt2 text _ s first 23 24 s)) = _
        rw [alt2_lit24, if_pos ⟨hlt, hc⟩, alt2_assert]
        rfl
      have : (12 : Nat) = 8 + (2 + 2) := rfl
      rw [this, it_add, it_add, h7, hl]
      exact tail32

theorem admitted2 {m : M} (hc : m.code = code2) : ∀ (fuel s : Nat) (seen : Seen), s ≤ m.lim → m.lim = m.text.size → m.lim + 1 ≤ s + fuel →
    ∃ seen', (∃ j, s ≤ j ∧ hit2 m.text j = true ∧ (∀ i, s ≤ i → i < j → hit2 m.text i = false) ∧ M.admitted m fuel s seen = .ok (some j, seen')) ∨
      ((∀ i, s ≤ i → hit2 m.text i = false) ∧ M.admitted m fuel s seen = .ok (none, seen'))
  | 0, s, seen, h1, h2, h3 => by omega
  | fuel + 1, s, seen, h1, h2, h3 => by
    by_cases h : s ≥ m.lim
    · refine ⟨seen, .inr ⟨fun i hi => ?_, ?_⟩⟩
      · simp [hit2]; omega
      · show (if s ≥ m.lim then _ else _) = _
        rw [if_pos h]
    · have step : M.admitted m (fuel + 1) s seen = match inSet m.code (m.text.getD s 0) m.code.size 5 true seen with
          | .ok (true, seen) => .ok (some s, seen)
          | .ok (false, seen) => M.admitted m fuel (s + 1) seen
          | .error why => .error why := by
        show (if s ≥ m.lim then _ else _) = _
        rw [if_neg h]
        rfl
      rw [hc] at step
      have set : ∃ e, inSet code2 (m.text.getD s 0) code2.size 5 true seen = .ok (hit2 m.text s, e) := by
        show ∃ e, (if (m.text.getD s 0 == 10) = true then (.ok (true, seen.add 16) : Except String (Bool × Seen)) else if (m.text.getD s 0 == 13) = true then .ok (true, (seen.add 16).add 16) else .ok (false, ((seen.add 16).add 16).add 0)) = .ok (hit2 m.text s, e)
        have hd : decide (s < m.text.size) = true := by simp; omega
        cases h10 : (m.text.getD s 0 == 10) with
        | true => exact ⟨_, by rw [hit2, hd, h10]; rfl⟩
        | false =>
          cases h13 : (m.text.getD s 0 == 13) with
          | true => exact ⟨_, by rw [hit2, hd, h10, h13]; rfl⟩
          | false => exact ⟨_, by rw [hit2, hd, h10, h13]; rfl⟩
      obtain ⟨e, set⟩ := set
      rw [set] at step
      cases hh : hit2 m.text s with
      | true =>
        rw [hh] at step
        exact ⟨e, .inl ⟨s, by omega, hh, fun i _ _ => by omega, step⟩⟩
      | false =>
        rw [hh] at step
        have low : ∀ i, s ≤ i → ¬ s + 1 ≤ i → hit2 m.text i = false := fun i a b => by
          have : i = s := by omega
          rw [this]; exact hh
        obtain ⟨e', r⟩ := admitted2 hc fuel (s + 1) e (by omega) h2 (by omega)
        refine ⟨e', ?_⟩
        rcases r with ⟨j, a, b, c, d⟩ | ⟨a, b⟩
        · exact .inl ⟨j, by omega, b, fun i x y => if z : s + 1 ≤ i then c i z y else low i x z, step.trans d⟩
        · exact .inr ⟨fun i x => if z : s + 1 ≤ i then a i z else low i x z, step.trans b⟩

theorem hit2_lt {text : Array Nat} {s : Nat} (h : hit2 text s = true) : s < text.size := by
  simp only [hit2, Bool.and_eq_true, decide_eq_true_eq] at h
  exact h.1

theorem search2 {text : Array Nat} {s : Nat} (hs : s ≤ text.size) : Ends (forSearch code2 text 0 s text.size false) 16 (Found (hit2 text) (wid2 text) s text.size) := by
  by_cases h : s = text.size
  · refine ⟨1, _, by omega, rfl, .inr ⟨fun i a b => ?_, ?_⟩⟩
    · simp [hit2]; omega
    · subst h
      show (M.step (if (decide (text.size > text.size) || decide (text.size - text.size < 1)) = true then _ else _)).outcome = _
      rw [if_pos (by simp)]
      rfl
  · let m₀ : M := { code := code2, text := text, lim := text.size, start := s, lastStart := text.size, pc := 10, pos := s, handed := s, marks := #[], seen := ({} : Seen).add 14 }
    have e0 : forSearch code2 text 0 s text.size false = m₀.attemptFrom s true := by
      show (if (decide (s > text.size) || decide (text.size - s < 1)) = true then _ else _) = _
      rw [if_neg (by simp; omega)]
      rfl
    obtain ⟨seen', r⟩ := admitted2 (m := m₀) rfl (text.size + 1 - s) s (({} : Seen).add 14) hs rfl (by show text.size + 1 ≤ _; omega)
    have e1 : m₀.attemptFrom s true = match M.admitted m₀ (text.size + 1 - s) s (({} : Seen).add 14) with
        | .ok (some s, seen) => M.attemptAt { m₀ with mustAdvance := false, seen } s true
        | .ok (none, seen) => M.say { m₀ with seen } false
        | .error why => m₀.stick why := rfl
    rw [e0, e1]
    rcases r with ⟨j, a, b, c, d⟩ | ⟨a, b⟩
    · rw [d]
      have b' : hit2 text j = true := b
      obtain ⟨m', h1, h2, h3, h4⟩ := att2_hit (text := text) (seen := seen') (s := j) (first := true) b'
      exact ⟨15, m', by omega, h1, .inl ⟨j, a, Nat.le_of_lt (hit2_lt b'), b', c, h2, h3, h4⟩⟩
    · rw [b]
      exact ⟨1, _, by omega, rfl, .inr ⟨fun i x _ => a i x, rfl⟩⟩
end Mine.S
end
/- part Sub -/
section
open PySem PySem.Builtin PySem.Builtin.Re
set_option maxRecDepth 100000
namespace Mine.S

section
variable {M : Model} {A : Around} {E : Value → Shared → Prop} {s : Shared}

theorem drive_wp : ∀ (turns n : Nat) (m : Sre.M) {Q : Sre.M → Shared → Prop}, (it n m).outcome.isSome = true → n ≤ 4 * turns → Q (it n m) s → wpAny M A (reDrive (turns + 1) m) Q E s
  | turns, n, m, Q, ho, hn, hq => by
    show wpAny M A (if (Sre.M.runFor 4 m).outcome.isSome then pure (Sre.M.runFor 4 m) else (rule "sre.turn" >>= fun _ => reDrive turns (Sre.M.runFor 4 m))) Q E s
    rw [runFor_it]
    cases h : (it 4 m).outcome.isSome with
    | true =>
      rw [if_pos rfl]
      have : it n m = it 4 m := by
        by_cases h4 : n ≤ 4
        · have e : (4 : Nat) = n + (4 - n) := by omega
          rw [e, it_add, it_done ho]
        · have e : n = 4 + (n - 4) := by omega
          rw [e, it_add, it_done h]
      rw [← this]
      exact wpAny_pure hq
    | false =>
      rw [if_neg Bool.false_ne_true]
      refine wpAny_bind (wpAny_rule ?_)
      have h4 : ¬ n ≤ 4 := fun h4 => by
        have e : (4 : Nat) = n + (4 - n) := by omega
        rw [e, it_add, it_done ho, ho] at h
        cases h
      have e : it n m = it (n - 4) (it 4 m) := by
        rw [← it_add]; congr 1; omega
      rw [e] at ho hq
      match turns, hn with
      | 0, hn => omega
      | turns + 1, hn => exact drive_wp turns (n - 4) (it 4 m) ho (by omega) hq

theorem toEnd_wp {m : Sre.M} {n : Nat} {P : Sre.M → Prop} {Q : Option Sre.M → Shared → Prop} (hn : n ≤ 1000000) (h : Ends m n P)
    (hp : ∀ m', P m' → (m'.outcome = some .matched ∧ Q (some m') s) ∨ (m'.outcome = some .failed ∧ Q none s)) : wpAny M A (reRunToEnd m) Q E s := by
  obtain ⟨k, m', hk, e, p⟩ := h
  have ho : (it k m).outcome.isSome = true := by
    rw [e]
    rcases hp m' p with h | h <;> rw [h.1] <;> rfl
  unfold reRunToEnd
  have e64 : (2 : Nat) ^ 64 = (2 ^ 64 - 1) + 1 := by decide
  rw [e64]
  refine wpAny_bind (drive_wp (2 ^ 64 - 1) k m ho (by have : (1000000 : Nat) ≤ 4 * (2 ^ 64 - 1) := by decide
                                                      omega) ?_)
  rw [e]
  refine wpAny_bind (wpAny_forIn_list _ (fun _ _ s' => s' = s) _ ?_ ?_ _ _ rfl)
  · rintro x rest b s' rfl
    show wpAny M A (if Sre.Seen.has m'.seen x = true then _ else _) _ E _
    by_cases hb : Sre.Seen.has m'.seen x = true
    · rw [if_pos hb]; exact wpAny_bind (wpAny_rule (wpAny_pure rfl))
    · rw [if_neg hb]; exact wpAny_pure rfl
  · rintro b s' rfl
    rcases hp m' p with h | h
    · rw [h.1]; exact wpAny_pure h.2
    · rw [h.1]; exact wpAny_pure h.2
end
end Mine.S
end
/- part Sub2 -/
section
open PySem PySem.Builtin PySem.Builtin.Re
set_option maxRecDepth 100000
namespace Mine.S

def tailSub (text : Array Nat) (hit : Nat → Bool) (wid : Nat → Nat) (rep : List Nat) : Nat → Nat → List Nat
  | 0, _ => []
  | fuel + 1, p => if p < text.size then (if hit p then rep ++ tailSub text hit wid rep fuel (p + wid p) else text.getD p 0 :: tailSub text hit wid rep fuel (p + 1)) else []

section
variable {text : Array Nat} {hit : Nat → Bool} {wid : Nat → Nat} {rep : List Nat}
theorem tailSub_fuel (hw : ∀ p, hit p = true → 1 ≤ wid p) : ∀ (f g p : Nat), text.size - p ≤ f → text.size - p ≤ g → tailSub text hit wid rep f p = tailSub text hit wid rep g p
  | 0, 0, p, _, _ => rfl
  | 0, g + 1, p, h, _ => by
    show [] = if p < text.size then _ else _
    rw [if_neg (by omega)]
  | f + 1, 0, p, _, h => by
    show (if p < text.size then _ else _) = []
    rw [if_neg (by omega)]
  | f + 1, g + 1, p, h1, h2 => by
    show (if p < text.size then _ else _) = (if p < text.size then _ else _)
    by_cases hp : p < text.size
    · rw [if_pos hp, if_pos hp]
      cases hh : hit p with
      | true =>
        rw [if_pos rfl, if_pos rfl]
        have := hw p hh
        rw [tailSub_fuel hw f g (p + wid p) (by omega) (by omega)]
      | false =>
        rw [if_neg Bool.false_ne_true, if_neg Bool.false_ne_true, tailSub_fuel hw f g (p + 1) (by omega) (by omega)]
    · rw [if_neg hp, if_neg hp]

def rest (text : Array Nat) (hit : Nat → Bool) (wid : Nat → Nat) (rep : List Nat) (p : Nat) : List Nat := tailSub text hit wid rep (text.size - p) p
theorem rest_hit (hw : ∀ p, hit p = true → 1 ≤ wid p) {p : Nat} (hp : p < text.size) (hh : hit p = true) : rest text hit wid rep p = rep ++ rest text hit wid rep (p + wid p) := by
  unfold rest
  have e : text.size - p = (text.size - p - 1) + 1 := by omega
  rw [e]
  show (if p < text.size then _ else _) = _
  rw [if_pos hp, if_pos hh]
  have := hw p hh
  rw [tailSub_fuel hw _ (text.size - (p + wid p)) _ (by omega) (by omega)]
theorem rest_miss (hw : ∀ p, hit p = true → 1 ≤ wid p) {p : Nat} (hp : p < text.size) (hh : hit p = false) : rest text hit wid rep p = text.getD p 0 :: rest text hit wid rep (p + 1) := by
  unfold rest
  have e : text.size - p = (text.size - p - 1) + 1 := by omega
  rw [e]
  show (if p < text.size then _ else _) = _
  rw [if_pos hp, if_neg (by rw [hh]; exact Bool.false_ne_true)]
  rw [tailSub_fuel hw _ (text.size - (p + 1)) _ (by omega) (by omega)]
theorem rest_end {p : Nat} (hp : ¬ p < text.size) : rest text hit wid rep p = [] := by
  unfold rest
  have e : text.size - p = 0 := by omega
  rw [e]; rfl
theorem extract_cons {p j : Nat} (hp : p < j) (hj : j ≤ text.size) : (text.extract p j).toList = text.getD p 0 :: (text.extract (p + 1) j).toList := by
  rw [Array.toList_extract, Array.toList_extract, List.extract_eq_take_drop, List.extract_eq_take_drop]
  have hp' : p < text.toList.length := by rw [Array.length_toList]; omega
  have e1 : j - p = (j - (p + 1)) + 1 := by omega
  rw [List.drop_eq_getElem_cons hp', e1, List.take_succ_cons]
  congr 1
  rw [Array.getElem_toList, Array.getD_eq_getD_getElem?, Array.getElem?_eq_getElem (by omega)]
  rfl
theorem rest_run (hw : ∀ p, hit p = true → 1 ≤ wid p) : ∀ (n p j : Nat), j - p = n → p ≤ j → j ≤ text.size → (∀ i, p ≤ i → i < j → hit i = false) → rest text hit wid rep p = (text.extract p j).toList ++ rest text hit wid rep j
  | 0, p, j, hn, h1, h2, _ => by
    have : p = j := by omega
    subst this
    simp
  | n + 1, p, j, hn, h1, h2, h3 => by
    rw [rest_miss hw (by omega) (h3 p (by omega) (by omega)), rest_run hw n (p + 1) j (by omega) (by omega) h2 (fun i a b => h3 i (by omega) b), extract_cons (p := p) (by omega) h2]
    rfl
end

section
variable {M : Model} {A : Around} {E : Value → Shared → Prop} {s : Shared}

structure PatAt (h : Heap) (a : Addr) (code : Array Nat) : Prop where
  obj : ∃ o vs c oc cs n, h.get? a = some o ∧ o.cls = .type "re.Pattern" ∧ o.dict = none ∧ o.data = .fields vs ∧ vs.getD 5 .none = .ref c ∧ vs.getD 2 .none = .int 0 0 ∧ vs.getD 6 .none = .int 0 0 ∧
    h.get? c = some oc ∧ oc.data = .seq cs n ∧ (cs.map reRawOf).map (·.toNat) = code
theorem PatAt.keeps {h h' : Heap} {a : Addr} {code : Array Nat} (P : PatAt h a code) (hk : ∀ b o, h.get? b = some o → h'.get? b = some o) : PatAt h' a code := by
  obtain ⟨o, vs, c, oc, cs, n, h1, h2, h3, h4, h5, h6, h7, h8, h9, h10⟩ := P.obj
  exact ⟨o, vs, c, oc, cs, n, hk _ _ h1, h2, h3, h4, h5, h6, h7, hk _ _ h8, h9, h10⟩
theorem PatAt.typeIs {a : Addr} {code : Array Nat} (P : PatAt s.heap a code) : s.TypeIs (.ref a) "re.Pattern" := by
  obtain ⟨o, vs, c, oc, cs, n, h1, h2, _⟩ := P.obj
  exact ⟨o, h1, h2⟩

theorem whole_wp {a : Addr} {code : Array Nat} {x : Str} {t : Tok} {Q : ReTarget → Shared → Prop} (P : PatAt s.heap a code)
    (h : Q { pattern := .ref a, string := .str x t, code := code, text := x.cps, kind := 0, groups := 0, pos := 0, lim := x.cps.size } s) : wpAny M A (reWholeTarget (.ref a) (.str x t)) Q E s := by
  obtain ⟨o, vs, c, oc, cs, n, h1, h2, h3, h4, h5, h6, h7, h8, h9, h10⟩ := P.obj
  unfold reWholeTarget fieldsOf
  refine wpAny_bind (wpAny_bind (wpAny_load h1 ?_))
  rw [h4]
  refine wpAny_pure ?_
  refine wpAny_bind (wpAny_pure (a := (x.cps, 0)) ?_)
  dsimp only
  rw [h7, h5, h6]
  show wpAny M A (do
    let __do_lift ← reRawItems (.ref c)
    pure ({ pattern := .ref a, string := .str x t, code := __do_lift.map (·.toNat), text := x.cps, kind := 0, groups := 0, pos := 0, lim := x.cps.size } : ReTarget)) Q E s
  unfold reRawItems
  refine wpAny_bind (wpAny_bind (wpAny_seqItems h8 h9 (wpAny_pure (wpAny_pure ?_))))
  show Q { pattern := .ref a, string := .str x t, code := (cs.map reRawOf).map (·.toNat), text := x.cps, kind := 0, groups := 0, pos := 0, lim := x.cps.size } s
  rw [h10]; exact h
end
end Mine.S
end
/- part Sub3 -/
section
open PySem PySem.Builtin PySem.Builtin.Re PySem.Builtin.Str
set_option maxRecDepth 100000
namespace Mine.S

theorem strExt {x y : Str} (h : x.cps.toList = y.cps.toList) : x = y := by
  obtain ⟨a⟩ := x; obtain ⟨b⟩ := y
  congr 1
  exact Array.ext' h
theorem join_flat : ∀ ts : List Str, (Str.join ⟨#[]⟩ ts).cps.toList = (ts.map (·.cps.toList)).flatten
  | [] => rfl
  | [x] => by show x.cps.toList = _; simp
  | x :: y :: r => by
    show (x ++ ⟨#[]⟩ ++ Str.join ⟨#[]⟩ (y :: r)).cps.toList = _
    have e : (x ++ ⟨#[]⟩ ++ Str.join ⟨#[]⟩ (y :: r)).cps.toList = x.cps.toList ++ (Str.join ⟨#[]⟩ (y :: r)).cps.toList := by
      show (x.cps ++ #[] ++ (Str.join ⟨#[]⟩ (y :: r)).cps).toList = _
      simp
    rw [e, join_flat (y :: r)]; rfl
theorem txtJoin_flat (ts : List Str) : Txt.join ⟨#[]⟩ ts = ⟨((ts.map (·.cps.toList)).flatten).toArray⟩ := by
  apply strExt
  show (glued ⟨#[]⟩ ts).cps.toList = _
  rw [StrLaws.glued_eq_join, join_flat]

def flat (ps : List (Str × Tok)) : List Nat := (ps.map (·.1.cps.toList)).flatten
theorem flat_snoc (ps : List (Str × Tok)) (x : Str) (t : Tok) : flat (ps ++ [(x, t)]) = flat ps ++ x.cps.toList := by simp [flat]
theorem strValues_snoc (ps : List (Str × Tok)) (x : Str) (t : Tok) : (strValues ps).toArray.push (.str x t) = (strValues (ps ++ [(x, t)])).toArray := by
  simp [strValues]

theorem entry_loop : entryFor table "re.Pattern.sub.loop" = some Builtin.«re.Pattern.sub.loop» := entryFor_of_tree (by kernel_rfl)
theorem plain_loop : plainId "re.Pattern.sub.loop" = true := by decide +kernel
def ListAt (h : Heap) (D : Addr) (vs : Array Value) : Prop := ∃ n, h.get? D = some { cls := .type "list", data := .seq vs n }
theorem ListAt.isList {h : Heap} {D : Addr} {vs : Array Value} (x : ListAt h D vs) : h.IsList D vs := let ⟨n, hn⟩ := x; ⟨_, hn, rfl, n, rfl⟩

section
variable {prog : Program} {w : World} {A : Around}

/-- one push upon the pieces -/
theorem push_wp {M : Model} {A : Around} {E : Value → Shared → Prop} {s : Shared} {h₀ : Heap} {D : Addr} {vs : Array Value} {v : Value} {Q : Unit → Shared → Prop} (hD : h₀.get? D = none) (hk : ∀ b o, h₀.get? b = some o → s.heap.get? b = some o)
    (hl : ListAt s.heap D vs) (hz : vs.size ≤ 1000000)
    (h : ∀ h', (∀ b o, h₀.get? b = some o → h'.get? b = some o) → ListAt h' D (vs.push v) → Q () { s with heap := h' }) : wpAny M A (updateSeq D (·.push v)) Q E s := by
  obtain ⟨n, hn⟩ := hl
  have hs : (1000000 : Nat) ≤ sizeLine := by decide
  refine wpAny_updateSeq hn rfl (h _ (fun b o e => ?_) ?_) (by omega) (by rw [Array.size_push]; omega)
  · have hb : b ≠ D := fun q => by subst q; rw [hD] at e; cases e
    exact ((Heap.SameBut.update (h := s.heap) (a := D) (f := Obj.mapSeq (·.push v))).2 b hb).trans (hk b o e)
  · exact ⟨_, Heap.get?_update_self _ hn rfl⟩
end
end Mine.S
end
/- part Sub4 -/
section
open PySem PySem.Builtin PySem.Builtin.Re PySem.Builtin.Str
set_option maxRecDepth 100000
namespace Mine.S

def loopArgs (a : Addr) (x : Str) (t : Tok) (rep : Str) (u : Tok) (n : Int) (p : Nat) (D : Addr) : Args :=
  ⟨[.ref a, .str x t, .str rep u, rawInt 0, rawInt 0, rawInt n, rawInt p, rawInt p, .bool false, .ref D, .bool false], []⟩

section
variable {prog : Program} {w : World} {A : Around} {R : Result → Shared → Prop} {h₀ : Heap} {a D : Addr} {code : Array Nat} {x rep : Str} {t u : Tok} {hit : Nat → Bool} {wid : Nat → Nat}

theorem loop_wp (P : PatAt h₀ a code) (hD : h₀.get? D = none) (hsz : x.cps.size ≤ 10000) (hrep : rep.cps.size ≤ 2) (hw : ∀ p, hit p = true → 1 ≤ wid p ∧ p < x.cps.size ∧ p + wid p ≤ x.cps.size)
    (find : ∀ p, p ≤ x.cps.size → Ends (Sre.forSearch code x.cps 0 p x.cps.size false) 100000 (Found hit wid p x.cps.size)) :
    ∀ (k p : Nat) (n : Int) (ps : List (Str × Tok)) (s : Shared), x.cps.size - p ≤ k → p ≤ x.cps.size → (∀ b o, h₀.get? b = some o → s.heap.get? b = some o) → ListAt s.heap D (strValues ps).toArray → ps.length ≤ 2 * p → (flat ps).length ≤ 3 * p →
      (∀ t' k' h', (∀ b o, h₀.get? b = some o → h'.get? b = some o) → R (.ok (.ret (.str ⟨(flat ps ++ rest x.cps hit wid rep.cps.toList p).toArray⟩ t'))) { s with heap := h', toks := k' }) →
      codeAny (model prog w) A (.builtin "re.Pattern.sub.loop" (loopArgs a x t rep u n p D)) R s
  | k, p, n, ps, s, hkp, hp, hk, hl, hlen, hflat, hR => by
    have hw1 : ∀ p, hit p = true → 1 ≤ wid p := fun p h => (hw p h).1
    refine codeAny_builtin entry_loop ?_
    rw [Around.under_plainId plain_loop]
    show wpAny _ _ (reWholeTarget (.ref a) (.str x t) >>= fun tg => _) _ _ s
    refine wpAny_bind (whole_wp (P.keeps hk) ?_)
    show wpAny _ _ (reNextFound { pattern := .ref a, string := .str x t, code := code, text := x.cps, kind := 0, groups := 0, pos := 0, lim := x.cps.size } (Int.toNat (p : Int)) false >>= fun fm => _) _ _ s
    refine wpAny_bind ?_
    rw [Int.toNat_natCast]
    refine toEnd_wp (by decide) (find p hp) fun m' hm => ?_
    rcases hm with ⟨j, h1, h2, h3, h4, h5, h6, h7⟩ | ⟨h1, h2⟩
    · refine .inl ⟨h7, ?_⟩
      have hj := hw j h3
      have hstart : (m'.handed == m'.start) = false := by
        rw [h5, h6]; simp; omega
      have hsl : (1000000 : Nat) ≤ sizeLine := by decide
      -- behind the slice's push
      have tail : ∀ (qs : List (Str × Tok)) (s₁ : Shared), (∃ h' tk, s₁ = { s with heap := h', toks := tk }) → (∀ b o, h₀.get? b = some o → s₁.heap.get? b = some o) → ListAt s₁.heap D (strValues qs).toArray → qs.length ≤ 2 * p + 1 → flat qs = flat ps ++ (x.cps.extract p j).toList →
          wpAny (model prog w) A.in1 (updateSeq D (·.push (.str rep u)) >>= fun _ => again (.builtin "re.Pattern.sub.loop" ⟨[.ref a, .str x t, .str rep u, rawInt 0, rawInt 0, rawInt (n + 1), rawInt m'.handed, rawInt m'.handed, .bool (m'.handed == m'.start), .ref D, .bool false], []⟩))
            (fun fin s' => match fin with | .done f => R (.ok f) s' | .again c' => c'.quiet = true ∧ codeAny (model prog w) A c' R s') (fun e s' => R (.error e) s') s₁ := by
        rintro qs s₁ ⟨h', tk, rfl⟩ hk₁ hl₁ hlen₁ hflat₁
        refine wpAny_bind (push_wp hD hk₁ hl₁ (by simp [strValues]; omega) fun h'' hk₂ hl₂ => wpAny_pure ⟨plainId_quiet plain_loop _, ?_⟩)
        rw [hstart, h6]
        have hfl : (x.cps.extract p j).toList.length = j - p := by simp; omega
        have e : flat (qs ++ [(rep, u)]) ++ rest x.cps hit wid rep.cps.toList (j + wid j) = flat ps ++ rest x.cps hit wid rep.cps.toList p := by
          rw [flat_snoc, hflat₁, rest_run hw1 (j - p) p j rfl h1 h2 h4, rest_hit hw1 hj.2.1 h3]
          simp
        rw [strValues_snoc] at hl₂
        match k, hkp with
        | 0, hkp => omega
        | k + 1, hkp =>
        refine loop_wp P hD hsz hrep hw find k (j + wid j) (n + 1) (qs ++ [(rep, u)]) _ (by omega) (by omega) hk₂ hl₂ (by simp; omega) ?_ ?_
        · have hrl : rep.cps.toList.length = rep.cps.size := Array.length_toList
          rw [flat_snoc, hflat₁, List.length_append, List.length_append, hfl]; omega
        · intro t' k' h' hk'
          rw [e]
          exact hR t' k' h' hk'
      show wpAny _ _ (if p < m'.start then (mkStr ⟨x.cps.extract p m'.start⟩ >>= fun v => updateSeq D (·.push v) >>= fun _ => updateSeq D (·.push (.str rep u)) >>= fun _ => again (.builtin "re.Pattern.sub.loop" ⟨[.ref a, .str x t, .str rep u, rawInt 0, rawInt 0, rawInt (n + 1), rawInt m'.handed, rawInt m'.handed, .bool (m'.handed == m'.start), .ref D, .bool false], []⟩))
        else (updateSeq D (·.push (.str rep u)) >>= fun _ => again (.builtin "re.Pattern.sub.loop" ⟨[.ref a, .str x t, .str rep u, rawInt 0, rawInt 0, rawInt (n + 1), rawInt m'.handed, rawInt m'.handed, .bool (m'.handed == m'.start), .ref D, .bool false], []⟩))) _ _ s
      by_cases hlt : p < m'.start
      · rw [if_pos hlt]
        rw [h5] at hlt
        refine wpAny_bind (wpAny_mkStr ?_ (by show (x.cps.extract p m'.start).size ≤ sizeLine; rw [Array.size_extract]; omega))
        refine wpAny_bind (push_wp hD hk hl (by simp [strValues]; omega) fun h'' hk₂ hl₂ => ?_)
        rw [strValues_snoc] at hl₂
        refine tail _ _ ⟨h'', _, rfl⟩ hk₂ hl₂ (by simp; omega) ?_
        rw [flat_snoc, h5]
      · rw [if_neg hlt]
        rw [h5] at hlt
        refine tail ps s ⟨_, _, rfl⟩ hk hl (by omega) ?_
        have : p = j := by omega
        subst this
        simp
    · refine .inr ⟨h2, ?_⟩
      have hsl : (1000000 : Nat) ≤ sizeLine := by decide
      have er : rest x.cps hit wid rep.cps.toList p = (x.cps.extract p x.cps.size).toList := by
        rw [rest_run hw1 (x.cps.size - p) p x.cps.size rfl hp (Nat.le_refl _) (fun i a b => h1 i a (by omega)), rest_end (by omega)]
        simp
      have tail : ∀ (qs : List (Str × Tok)) (s₁ : Shared), (∃ h' tk, s₁ = { s with heap := h', toks := tk }) → (∀ b o, h₀.get? b = some o → s₁.heap.get? b = some o) → ListAt s₁.heap D (strValues qs).toArray → qs.length ≤ 2 * p + 1 → flat qs = flat ps ++ (x.cps.extract p x.cps.size).toList →
          wpAny (model prog w) A.in1 (mkStr ⟨x.cps.extract 0 0⟩ >>= fun joiner => seqItems? (.ref D) >>= fun its => if (its.getD #[]).isEmpty = true then ret joiner else (call (.builtin "str.join") [joiner, .ref D] >>= fun text => ret text))
            (fun fin s' => match fin with | .done f => R (.ok f) s' | .again c' => c'.quiet = true ∧ codeAny (model prog w) A c' R s') (fun e s' => R (.error e) s') s₁ := by
        rintro qs s₁ ⟨h', tk, rfl⟩ hk₁ hl₁ hlen₁ hflat₁
        have ej : x.cps.extract 0 0 = #[] := by simp
        rw [ej]
        refine wpAny_bind (wpAny_mkStr ?_ (by decide))
        obtain ⟨nl, hnl⟩ := hl₁
        refine wpAny_bind (wpAny_seqItems hnl rfl ?_)
        show wpAny _ _ (if (strValues qs).toArray.isEmpty = true then _ else _) _ _ _
        by_cases hq : (strValues qs).toArray.isEmpty = true
        · rw [if_pos hq]
          refine wpAny_pure ?_
          have hq0 : qs = [] := by simpa [strValues] using hq
          have := hR tk (tk + 1) h' hk₁
          rw [er, ← hflat₁, hq0] at this
          exact this
        · rw [if_neg hq]
          have hfl : (flat qs).length ≤ 1000000 := by
            rw [hflat₁, List.length_append]
            have : (x.cps.extract p x.cps.size).toList.length = x.cps.size - p := by simp
            omega
          have hok : tooLong ((qs.map (·.1)).toArray.foldl (· + ·.length + (⟨#[]⟩ : Str).length) 0) = false := by
            have tot : ∀ (l : List (Str × Tok)) (n : Nat), (l.map (·.1)).foldl (fun (n : Nat) (y : Str) => n + y.length + (⟨#[]⟩ : Str).length) n = n + (flat l).length := by
              intro l
              induction l with
              | nil => intro n; rfl
              | cons q l ih =>
                intro n
                show (l.map (·.1)).foldl _ (n + q.1.length + (⟨#[]⟩ : Str).length) = _
                rw [ih]
                have : (flat (q :: l)).length = q.1.length + (flat l).length := by
                  show (q.1.cps.toList ++ flat l).length = _
                  rw [List.length_append]; rfl
                have e0 : (⟨#[]⟩ : Str).length = 0 := rfl
                omega
            have e : (qs.map (·.1)).toArray.foldl (· + ·.length + (⟨#[]⟩ : Str).length) 0 = (flat qs).length := by
              rw [List.foldl_toArray]
              have := tot qs 0
              omega
            rw [e]
            unfold tooLong
            simp; omega
          refine wpAny_bind (call_meets F.slot_str_join (typeIs_str _ _ _) F.entry_str_join (F.args_str_join_2 _ _) (meets_str_join_list ⟨#[]⟩ _ D qs hok) ⟨⟨_, hnl, rfl, nl, rfl⟩, ?_⟩)
          refine post_join qs ⟨joinFit_length hok, fun t' k' => ?_⟩
          have := hR t' k' h' hk₁
          rw [er, ← hflat₁] at this
          rw [txtJoin_flat, List.map_map]
          exact wpAny_pure this
      show wpAny _ _ (if p < x.cps.size then (mkStr ⟨x.cps.extract p x.cps.size⟩ >>= fun v => updateSeq D (·.push v) >>= fun _ => mkStr ⟨x.cps.extract 0 0⟩ >>= fun joiner => seqItems? (.ref D) >>= fun its => if (its.getD #[]).isEmpty = true then ret joiner else (call (.builtin "str.join") [joiner, .ref D] >>= fun text => ret text))
        else (mkStr ⟨x.cps.extract 0 0⟩ >>= fun joiner => seqItems? (.ref D) >>= fun its => if (its.getD #[]).isEmpty = true then ret joiner else (call (.builtin "str.join") [joiner, .ref D] >>= fun text => ret text))) _ _ s
      by_cases hlt : p < x.cps.size
      · rw [if_pos hlt]
        refine wpAny_bind (wpAny_mkStr ?_ (by show (x.cps.extract p x.cps.size).size ≤ sizeLine; rw [Array.size_extract]; omega))
        refine wpAny_bind (push_wp hD hk hl (by simp [strValues]; omega) fun h'' hk₂ hl₂ => ?_)
        rw [strValues_snoc] at hl₂
        refine tail _ _ ⟨h'', _, rfl⟩ hk₂ hl₂ (by simp; omega) ?_
        rw [flat_snoc]
      · rw [if_neg hlt]
        refine tail ps s ⟨_, _, rfl⟩ hk hl (by omega) ?_
        have : (x.cps.extract p x.cps.size).toList = [] := by
          apply List.eq_nil_of_length_eq_zero
          simp; omega
        rw [this, List.append_nil]
end
end Mine.S
end
/- part Join -/
section
open PySem PySem.W PyProof.Rows PySem.Calls
set_option maxRecDepth 100000
namespace Mine
theorem joinFit (ts : List (Str × Tok)) (h : (S.flat ts).length ≤ 1000000) : Builtin.Str.tooLong ((ts.map (·.1)).toArray.foldl (· + ·.length + (⟨#[]⟩ : Str).length) 0) = false := by
  have tot : ∀ (l : List (Str × Tok)) (n : Nat), (l.map (·.1)).foldl (fun (n : Nat) (y : Str) => n + y.length + (⟨#[]⟩ : Str).length) n = n + (S.flat l).length := by
    intro l
    induction l with
    | nil => intro n; rfl
    | cons q l ih =>
      intro n
      show (l.map (·.1)).foldl _ (n + q.1.length + (⟨#[]⟩ : Str).length) = _
      rw [ih]
      have : (S.flat (q :: l)).length = q.1.length + (S.flat l).length := by
        show (q.1.cps.toList ++ S.flat l).length = _
        rw [List.length_append]; rfl
      have e0 : (⟨#[]⟩ : Str).length = 0 := rfl
      omega
  have e : (ts.map (·.1)).toArray.foldl (· + ·.length + (⟨#[]⟩ : Str).length) 0 = (S.flat ts).length := by
    rw [List.foldl_toArray]
    have := tot ts 0
    omega
  rw [e]
  unfold Builtin.Str.tooLong
  have hsl : (1000000 : Nat) ≤ sizeLine := by decide
  simp; omega
theorem join_K {prog : Program} {w : World} {A : Around} {E : Value → Shared → Prop} {h₀ h : Heap} {L P : Addr} {news : List (Addr × Obj)} {ts : List (Str × Tok)} {n : Nat} {t : Tok} {Q : Value → Shared → Prop} {gg : Array GenState} {dd : Drawn} {tt : Nat} {oo : OsState}
    (N : News h₀ L h news) (hm : (P, W.listOf (strValues ts).toArray n) ∈ news) (hl : (S.flat ts).length ≤ 1000000)
    (hq : ∀ t' k', Q (.str ⟨(S.flat ts).toArray⟩ t') ⟨h, gg, dd, k', oo⟩) : wpAny (model prog w) A (call (.builtin "str.join") [.str (Str.ofString "") t, .ref P]) Q E ⟨h, gg, dd, tt, oo⟩ := by
  have e0 : Str.ofString "" = ⟨#[]⟩ := by decide +kernel
  rw [e0]
  refine call_meets F.slot_str_join (typeIs_str _ _ _) F.entry_str_join (F.args_str_join_2 _ _) (meets_str_join_list ⟨#[]⟩ _ P ts (joinFit ts hl)) ⟨⟨_, (N _ hm).1, rfl, n, rfl⟩, ?_⟩
  refine post_join ts ⟨joinFit_length (joinFit ts hl), fun t' k' => ?_⟩
  rw [S.txtJoin_flat, List.map_map]
  exact hq t' k'
end Mine
end
/- part File -/
section
open PySem PySem.W PyProof.Rows PySem.Calls
set_option maxRecDepth 100000
set_option maxHeartbeats 2000000
namespace Mine
def tabs : List (List (Int × Nat)) := [[(40960, 108), (49152, 115), (32768, 45), (24576, 98), (16384, 100), (8192, 99), (4096, 112)], [(256, 114)], [(128, 119)], [(2112, 115), (2048, 83), (64, 120)], [(32, 114)], [(16, 119)],
  [(1032, 115), (1024, 83), (8, 120)], [(4, 114)], [(2, 119)], [(513, 116), (512, 84), (1, 120)]]
def tst (i : Nat) (c b : Int) : Bool := if i = 0 then decide (Builtin.bitAnd c 61440 = b) else decide (Builtin.bitAnd c b = b)
def charIn (i : Nat) (c : Int) (tab : List (Int × Nat)) : Nat := match tab.find? (fun p => tst i c p.1) with | some p => p.2 | none => if i = 0 then 63 else 45
def charOf (c : Int) (i : Nat) : Nat := charIn i c (tabs.getD i [])
def TabAt (h : Heap) (x : Value) (tab : List (Int × Nat)) : Prop := ∃ (T : Addr) (es : Array Value), x = .ref T ∧ h.IsTuple T es ∧ es.size = tab.length ∧ ∀ (j : Nat) (v : Value), es[j]? = some v → ∃ (b : Int) (ch : Nat) (p : Addr) (tb tc : Tok), tab[j]? = some (b, ch) ∧ v = .ref p ∧ IsTup h p #[.int b tb, .str ⟨#[ch]⟩ tc]
def items174 : Array Value := #[.ref 149, .ref 151, .ref 153, .ref 157, .ref 159, .ref 161, .ref 165, .ref 167, .ref 169, .ref 173]
theorem tab_one {P : Params} {h : Heap} (X : (Mine.hd.heap_39 P).In h) {i : Nat} {x : Value} (hx : items174[i]? = some x) : TabAt h x (tabs.getD i []) := by
  have hi : i < 10 := by
    have := (Array.getElem?_eq_some_iff.mp hx).1
    exact this
  have : i = 0 ∨ i = 1 ∨ i = 2 ∨ i = 3 ∨ i = 4 ∨ i = 5 ∨ i = 6 ∨ i = 7 ∨ i = 8 ∨ i = 9 := by omega
  rcases this with e | e | e | e | e | e | e | e | e | e <;> subst e <;> cases hx
  · refine ⟨149, _, rfl, ⟨_, X 149 _ rfl, rfl, _, rfl⟩, rfl, fun j v hj => ?_⟩
    match j, hj with
    | 0, hj => cases hj; exact ⟨_, _, _, _, _, rfl, rfl, ⟨_, X 142 _ rfl, rfl, _, rfl⟩⟩
    | 1, hj => cases hj; exact ⟨_, _, _, _, _, rfl, rfl, ⟨_, X 143 _ rfl, rfl, _, rfl⟩⟩
    | 2, hj => cases hj; exact ⟨_, _, _, _, _, rfl, rfl, ⟨_, X 144 _ rfl, rfl, _, rfl⟩⟩
    | 3, hj => cases hj; exact ⟨_, _, _, _, _, rfl, rfl, ⟨_, X 145 _ rfl, rfl, _, rfl⟩⟩
    | 4, hj => cases hj; exact ⟨_, _, _, _, _, rfl, rfl, ⟨_, X 146 _ rfl, rfl, _, rfl⟩⟩
    | 5, hj => cases hj; exact ⟨_, _, _, _, _, rfl, rfl, ⟨_, X 147 _ rfl, rfl, _, rfl⟩⟩
    | 6, hj => cases hj; exact ⟨_, _, _, _, _, rfl, rfl, ⟨_, X 148 _ rfl, rfl, _, rfl⟩⟩
    | j + 7, hj => cases hj
  · refine ⟨151, _, rfl, ⟨_, X 151 _ rfl, rfl, _, rfl⟩, rfl, fun j v hj => ?_⟩
    match j, hj with
    | 0, hj => cases hj; exact ⟨_, _, _, _, _, rfl, rfl, ⟨_, X 150 _ rfl, rfl, _, rfl⟩⟩
    | j + 1, hj => cases hj
  · refine ⟨153, _, rfl, ⟨_, X 153 _ rfl, rfl, _, rfl⟩, rfl, fun j v hj => ?_⟩
    match j, hj with
    | 0, hj => cases hj; exact ⟨_, _, _, _, _, rfl, rfl, ⟨_, X 152 _ rfl, rfl, _, rfl⟩⟩
    | j + 1, hj => cases hj
  · refine ⟨157, _, rfl, ⟨_, X 157 _ rfl, rfl, _, rfl⟩, rfl, fun j v hj => ?_⟩
    match j, hj with
    | 0, hj => cases hj; exact ⟨_, _, _, _, _, rfl, rfl, ⟨_, X 154 _ rfl, rfl, _, rfl⟩⟩
    | 1, hj => cases hj; exact ⟨_, _, _, _, _, rfl, rfl, ⟨_, X 155 _ rfl, rfl, _, rfl⟩⟩
    | 2, hj => cases hj; exact ⟨_, _, _, _, _, rfl, rfl, ⟨_, X 156 _ rfl, rfl, _, rfl⟩⟩
    | j + 3, hj => cases hj
  · refine ⟨159, _, rfl, ⟨_, X 159 _ rfl, rfl, _, rfl⟩, rfl, fun j v hj => ?_⟩
    match j, hj with
    | 0, hj => cases hj; exact ⟨_, _, _, _, _, rfl, rfl, ⟨_, X 158 _ rfl, rfl, _, rfl⟩⟩
    | j + 1, hj => cases hj
  · refine ⟨161, _, rfl, ⟨_, X 161 _ rfl, rfl, _, rfl⟩, rfl, fun j v hj => ?_⟩
    match j, hj with
    | 0, hj => cases hj; exact ⟨_, _, _, _, _, rfl, rfl, ⟨_, X 160 _ rfl, rfl, _, rfl⟩⟩
    | j + 1, hj => cases hj
  · refine ⟨165, _, rfl, ⟨_, X 165 _ rfl, rfl, _, rfl⟩, rfl, fun j v hj => ?_⟩
    match j, hj with
    | 0, hj => cases hj; exact ⟨_, _, _, _, _, rfl, rfl, ⟨_, X 162 _ rfl, rfl, _, rfl⟩⟩
    | 1, hj => cases hj; exact ⟨_, _, _, _, _, rfl, rfl, ⟨_, X 163 _ rfl, rfl, _, rfl⟩⟩
    | 2, hj => cases hj; exact ⟨_, _, _, _, _, rfl, rfl, ⟨_, X 164 _ rfl, rfl, _, rfl⟩⟩
    | j + 3, hj => cases hj
  · refine ⟨167, _, rfl, ⟨_, X 167 _ rfl, rfl, _, rfl⟩, rfl, fun j v hj => ?_⟩
    match j, hj with
    | 0, hj => cases hj; exact ⟨_, _, _, _, _, rfl, rfl, ⟨_, X 166 _ rfl, rfl, _, rfl⟩⟩
    | j + 1, hj => cases hj
  · refine ⟨169, _, rfl, ⟨_, X 169 _ rfl, rfl, _, rfl⟩, rfl, fun j v hj => ?_⟩
    match j, hj with
    | 0, hj => cases hj; exact ⟨_, _, _, _, _, rfl, rfl, ⟨_, X 168 _ rfl, rfl, _, rfl⟩⟩
    | j + 1, hj => cases hj
  · refine ⟨173, _, rfl, ⟨_, X 173 _ rfl, rfl, _, rfl⟩, rfl, fun j v hj => ?_⟩
    match j, hj with
    | 0, hj => cases hj; exact ⟨_, _, _, _, _, rfl, rfl, ⟨_, X 170 _ rfl, rfl, _, rfl⟩⟩
    | 1, hj => cases hj; exact ⟨_, _, _, _, _, rfl, rfl, ⟨_, X 171 _ rfl, rfl, _, rfl⟩⟩
    | 2, hj => cases hj; exact ⟨_, _, _, _, _, rfl, rfl, ⟨_, X 172 _ rfl, rfl, _, rfl⟩⟩
    | j + 3, hj => cases hj
end Mine
end
theorem Mine.gapFile2 : (if True then True else True) := by
  w_top off
  (try walk1)
  w_top off
  all_goals first | trivial | simp
/- part File2 -/
section
open PySem PySem.W PyProof.Rows PySem.Calls
set_option maxRecDepth 100000
set_option maxHeartbeats 2000000
namespace Mine
local macro_rules | `(tactic| walk_at "mine enter") => `(tactic| (
  k_dflt (refine' enter ?kX ?kT ?k6 ?k7 ?k8 ?k9 ?kB ?_ ?c2 ?c3 ?c4 ?c5; (case kX => k_asm); (case kT => k_asm); (case k6 => k_is); (case k7 => k_is); (case k8 => (dsimp only [around]; omega)); (case k9 => first | exact BindsTo.of_eq rfl | walk_at "mine binds"); (case kB => exact locs rfl); (case c2 => exact rfl); (case c3 => exact rfl); (case c4 => exact rfl); (case c5 => decide); k_whole); intro L' h' tk' F' N'; (try dsimp only); (try k_fold)))
local macro_rules | `(tactic| walk_at "mine says") => `(tactic| (
   (case k1 => k_asm); (case k2 => k_asm); (case k3 => k_asm); (case k4 => k_asm); (case k5 => k_asm); (try (case kS => walk_at "mine whom")); (case k6 => exact rfl); (case k7 => exact rfl); (case k8 => exact rfl); (case k9 => first | (dsimp only [around]; omega) | decide); (case k10 => first | (dsimp only [around]; omega) | decide); k_whole))
local macro_rules | `(tactic| walk_at "mine use") => `(tactic| (refine' Says.use ?kS ?k1 ?k2 ?k3 ?k4 ?k5 ?k6 ?k7 ?k8 ?k9 ?k10 ?_; walk_at "mine says"))
local macro_rules | `(tactic| walk_at "mine came") => `(tactic| (intro v' tl' h' tk' hg' F' N' hn'; (first | (obtain ⟨ht', t', hv'⟩ := hg'; subst ht' hv') | (obtain ⟨ht', hv'⟩ := hg'; subst ht' hv')); (try dsimp only [List.nil_append] at N'); clear hn'; (try k_sweep)))
local macro_rules | `(tactic| walk_at "call ref") => `(tactic| (k_here; k_dflt (walk_at "mine use"); walk_at "mine came"))
local macro_rules | `(tactic| walk_at "mine whom") => `(tactic| exact S_IFMT_says _ _)
local macro_rules | `(tactic| walk_at "exec For Tuple Call") => `(tactic| (k_here; refine Halt.mk ?_))
local macro_rules | `(tactic| walk_at "exec For Tuple Name") => `(tactic| (k_here; refine Halt.mk ?_))
local macro_rules | `(tactic| walk_at "TurnPost") => `(tactic| (dsimp only [TurnPost]))
theorem charIn_hit {i : Nat} {c b : Int} {ch j : Nat} {tab : List (Int × Nat)} (hj : tab[j]? = some (b, ch)) (hno : ∀ p ∈ tab.take j, tst i c p.1 = false) (ht : tst i c b = true) : charIn i c tab = ch := by
  have hlt := (List.getElem?_eq_some_iff.mp hj).1
  have e : tab = tab.take j ++ (b, ch) :: tab.drop (j + 1) := by
    have h1 := List.take_append_drop j tab
    rw [List.drop_eq_getElem_cons hlt, (List.getElem?_eq_some_iff.mp hj).2] at h1
    exact h1.symm
  have f : tab.find? (fun p => tst i c p.1) = some (b, ch) := by
    rw [e, List.find?_append]
    have : (tab.take j).find? (fun p => tst i c p.1) = none := by
      rw [List.find?_eq_none]
      intro p hp
      rw [hno p hp]; exact Bool.false_ne_true
    rw [this, List.find?_cons]
    show (none.or (match tst i c b with | true => some (b, ch) | false => _)) = _
    rw [ht]; rfl
  unfold charIn
  rw [f]
theorem charIn_none {i : Nat} {c : Int} {tab : List (Int × Nat)} (hno : ∀ p ∈ tab, tst i c p.1 = false) : charIn i c tab = if i = 0 then 63 else 45 := by
  have f : tab.find? (fun p => tst i c p.1) = none := by
    rw [List.find?_eq_none]
    intro p hp
    rw [hno p hp]; exact Bool.false_ne_true
  unfold charIn
  rw [f]
theorem no_more {i j : Nat} {c b : Int} {ch : Nat} {tab : List (Int × Nat)} (hj : tab[j]? = some (b, ch)) (hno : ∀ p ∈ tab.take j, tst i c p.1 = false) (ht : tst i c b = false) : ∀ p ∈ tab.take (j + 1), tst i c p.1 = false := by
  intro p hp
  rw [List.take_add_one, hj] at hp
  rcases List.mem_append.mp hp with hp | hp
  · exact hno p hp
  · have : p = (b, ch) := by simpa using hp
    rw [this]; exact ht
theorem texts_more {c : Int} {i ch : Nat} {ts : List (Str × Tok)} {tc : Tok} (hts : ts.map (·.1) = (List.range i).map fun j => (⟨#[charOf c j]⟩ : Str)) (hch : charOf c i = ch) : (ts ++ [((⟨#[ch]⟩ : Str), tc)]).map (·.1) = (List.range (i + 1)).map fun j => (⟨#[charOf c j]⟩ : Str) := by
  rw [List.map_append, hts, List.range_succ, List.map_append, ← hch]
  rfl
theorem push_ex {P : Addr} {c : Int} {i ch n : Nat} {ts : List (Str × Tok)} {tc : Tok} (hts : ts.map (·.1) = (List.range i).map fun j => (⟨#[charOf c j]⟩ : Str)) (hch : charOf c i = ch) :
    ∃ ts' n', [(P, W.listOf ((strValues ts).toArray.push (.str ⟨#[ch]⟩ tc)) (n + 1))] = [(P, W.listOf (strValues ts').toArray n')] ∧ ts'.map (·.1) = (List.range (i + 1)).map fun j => (⟨#[charOf c j]⟩ : Str) :=
  ⟨ts ++ [(⟨#[ch]⟩, tc)], n + 1, by rw [← S.strValues_snoc], texts_more hts hch⟩
theorem size_of {ts : List (Str × Tok)} {l : List Str} {k : Nat} (h : ts.map (·.1) = l) (hl : l.length ≤ k) (hk : k ≤ sizeLine) : (strValues ts).toArray.size ≤ sizeLine := by
  have : ts.length = l.length := by rw [← h, List.length_map]
  rw [List.size_toArray, strValues, List.length_map]
  omega
local macro_rules | `(tactic| walk_at "mine agrees") => `(tactic| (repeat (first | (with_reducible refine Agrees.store (by decide) ?_) | (with_reducible refine Agrees.storeU (by decide) ?_) | (with_reducible exact Agrees.base) | refine Agrees.store (by decide) ?_ | exact Agrees.base | exact Agrees.refl | refine Agrees.over (by decide) ?_)))
def fileF (c : Int) : Str := ⟨((List.range 10).map (charOf c)).toArray⟩
theorem file_says {w mean mg mb} (c : Int) (t : Tok) : Says 2 w mean mg mb 181 [.int c t] (retS (fileF c)) := by
  unfold Says; k_fill
  intro dp un gd base envs h₀ gg dd tt oo R B X T hd hu hret
  walk_at "mine enter"
  k_steps
  unfold Halt
  rename_i F' N'
  refine for_enumA (cst := []) (news := [_]) [Str.ofString "index", Str.ofString "table", Str.ofString "bit", Str.ofString "char"] rfl (⟨_, X 174 _ rfl, rfl, _, rfl⟩ : h₀.IsTuple 174 items174) F' N'
    (fun i u nx => ∃ ts n, nx = [(_, W.listOf (strValues ts).toArray n)] ∧ ts.map (·.1) = (List.range i).map fun j => ⟨#[charOf c j]⟩) ⟨[], 0, rfl, rfl⟩ ?hev ?step ?fin
  case hev =>
    intro Q' hq
    k_steps
    exact hq
  case fin =>
    intro h' tk u nx F' N' hJ
    obtain ⟨ts, n, rfl, hts⟩ := hJ
    k_steps
    refine join_K N' (.head _) ?_ ?_
    · have : (S.flat ts).length = ts.length := by
        unfold S.flat
        have e : ts.map (fun x => x.1.cps.toList) = (List.range items174.size).map fun j => [charOf c j] := by
          have := congrArg (List.map fun x : Str => x.cps.toList) hts
          rw [List.map_map, List.map_map] at this
          exact this
        have hl : ts.length = items174.size := by
          have := congrArg List.length hts
          simpa using this
        rw [e, hl]
        rfl
      have hl : ts.length = items174.size := by
        have := congrArg List.length hts
        simpa using this
      rw [this, hl]; decide
    · intro t' k'
      k_steps
      refine endS hret (by k_asm) ?_
      unfold S.flat fileF
      have := congrArg (List.map fun x : Str => x.cps.toList) hts
      rw [List.map_map, List.map_map] at this
      have e : ts.map (fun x => x.1.cps.toList) = (List.range items174.size).map fun j => [charOf c j] := this
      rw [e]
      rfl
  case step =>
    intro i t' x T' u nx h₁ tk₁ I I' o o' hi hx hT hJ hc hn F₁ N₁
    obtain ⟨ts, n, rfl, hts⟩ := hJ
    obtain ⟨Ta, es, rfl, hes, hsz, hent⟩ := tab_one X hx
    refine unpackN_ F₁ N₁ hT rfl rfl rfl ?_
    intro h' F' N'
    k_steps
    unfold Halt
    rename_i F₂ N₂
    refine for_tupleA (cst := [(I, o), (I', o'), (_, _)]) (news := []) [Str.ofString "bit", Str.ofString "char"] rfl hes F₂ N₂
      (fun j u nx => nx = [] ∧ ∀ p ∈ (tabs.getD i []).take j, tst i c p.1 = false) ⟨rfl, fun p hp => by simp at hp⟩ ?hev2 ?step2 ?fin2
    case hev2 =>
      intro Q' hq
      k_steps
      exact hq
    case step2 =>
      intro j v u' nx h₂ tk₂ I₂ o₂ hj hv hJ₂ hc₂ hn₂ F₃ N₃
      obtain ⟨rfl, hno⟩ := hJ₂
      obtain ⟨b, ch, p, tb, tc, hbc, rfl, hp⟩ := hent j v hv
      have q1 := hn _ (.head _)
      have q2 := hc₂ _ (.tail _ (.tail _ (.head _)))
      have hsz' := size_of hts (k := 10) (by rw [List.length_map, List.length_range]; exact Nat.le_of_lt hi) (by decide)
      refine unpackN_ F₃ N₃ ⟨_, F₃.keep _ _ hp.choose_spec.1, hp.choose_spec.2⟩ rfl rfl rfl ?_
      intro h' F' N'
      k_steps
      · rename_i hi0 _ _ _ F₄ _ N₄ hb
        refine append_K F₄ N₄ (.tail (Ne.symm (Nat.ne_of_lt q2)) (.tail q1.1.symm (.tail q1.2.symm (.head fun _ h => nomatch h)))) ?_ hsz'
        intro h'' F'' N''
        dsimp only
        k_steps
        refine turnEnd (nx := [_]) F'' (fun p hp => N'' p (.tail _ hp)) (fun p hp q hq => ?_) ⟨?_, ts ++ [(⟨#[ch]⟩, tc)], n + 1, ?_, texts_more hts (charIn_hit hbc hno ?_)⟩
        · rw [List.mem_singleton.mp hp]
          rcases List.mem_cons.mp hq with rfl | hq
          · exact q1.1
          · rw [List.mem_singleton.mp hq]; exact q1.2
        · walk_at "mine agrees"
        · rw [← S.strValues_snoc]
        · unfold tst
          rw [if_pos (by omega)]; exact decide_eq_true hb
      · rename_i hi0 _ _ _ F₄ _ N₄ hb
        refine turnEnd (nx := []) F₄ N₄ (fun p hp => nomatch hp) ⟨by walk_at "mine agrees", rfl, no_more hbc hno ?_⟩
        unfold tst
        rw [if_pos (by omega)]; exact decide_eq_false hb
      · rename_i F₄ N₄ _ hi0 _ hb
        refine append_K F₄ N₄ (.tail (Ne.symm (Nat.ne_of_lt q2)) (.tail q1.1.symm (.tail q1.2.symm (.head fun _ h => nomatch h)))) ?_ hsz'
        intro h'' F'' N''
        dsimp only
        k_steps
        refine turnEnd (nx := [_]) F'' (fun p hp => N'' p (.tail _ hp)) (fun p hp q hq => ?_) ⟨?_, ts ++ [(⟨#[ch]⟩, tc)], n + 1, ?_, texts_more hts (charIn_hit hbc hno ?_)⟩
        · rw [List.mem_singleton.mp hp]
          rcases List.mem_cons.mp hq with rfl | hq
          · exact q1.1
          · rw [List.mem_singleton.mp hq]; exact q1.2
        · walk_at "mine agrees"
        · rw [← S.strValues_snoc]
        · unfold tst
          rw [if_neg (by omega)]; exact decide_eq_true hb
      · rename_i F₄ N₄ _ hi0 _ hb
        refine turnEnd (nx := []) F₄ N₄ (fun p hp => nomatch hp) ⟨by walk_at "mine agrees", rfl, no_more hbc hno ?_⟩
        unfold tst
        rw [if_neg (by omega)]; exact decide_eq_false hb
    case fin2 =>
      intro h' tk u nx F' N' hJ₂
      obtain ⟨rfl, hno⟩ := hJ₂
      have q1 := hn _ (.head _)
      have hsz' := size_of hts (k := 10) (by rw [List.length_map, List.length_range]; exact Nat.le_of_lt hi) (by decide)
      have hno' : ∀ p ∈ tabs.getD i [], tst i c p.1 = false := by
        rw [hsz, List.take_length] at hno
        exact hno
      k_steps
      · have hi0 : (i : Int) = 0 := by assumption
        have e : Str.ofString "?" = ⟨#[63]⟩ := by decide +kernel
        rw [e]
        refine append_K (by k_asm) N' (.tail q1.1.symm (.tail q1.2.symm (.head fun _ h => nomatch h))) ?_ hsz'
        intro h'' F'' N''
        dsimp only
        k_steps
        refine turnEnd (nx := [_]) F'' N'' (fun p hp q hq => ?_) ⟨?_, push_ex hts ((charIn_none hno').trans ?_)⟩
        · rw [List.mem_singleton.mp hp]
          rcases List.mem_cons.mp hq with rfl | hq
          · exact q1.1
          · rw [List.mem_singleton.mp hq]; exact q1.2
        · walk_at "mine agrees"
        · rw [if_pos (by omega)]
      · have hi0 : ¬ (i : Int) = 0 := by assumption
        have e : Str.ofString "-" = ⟨#[45]⟩ := by decide +kernel
        rw [e]
        refine append_K (by k_asm) N' (.tail q1.1.symm (.tail q1.2.symm (.head fun _ h => nomatch h))) ?_ hsz'
        intro h'' F'' N''
        dsimp only
        k_steps
        refine turnEnd (nx := [_]) F'' N'' (fun p hp q hq => ?_) ⟨?_, push_ex hts ((charIn_none hno').trans ?_)⟩
        · rw [List.mem_singleton.mp hp]
          rcases List.mem_cons.mp hq with rfl | hq
          · exact q1.1
          · rw [List.mem_singleton.mp hq]; exact q1.2
        · walk_at "mine agrees"
        · rw [if_neg (by omega)]
end Mine
end
/- part ToldF -/
section
open PySem
set_option maxRecDepth 100000
namespace Mine
def pick (X P : Int) : Str := if P < 2 then (if Int.fmod X 2 = 0 then Str.ofString "-x" else Str.ofString "Ss") else (if Int.fmod X 2 = 0 then Str.ofString "-x" else Str.ofString "Tt")
def sufF (k : Int) : Str := if k = 4 then Str.ofString "/" else if k = 10 then Str.ofString "@" else if k = 1 then Str.ofString "|" else Str.ofString ""
def grp (x a : Int) (S s : Nat) : List Nat := [if x / 4 = 0 then 45 else 114, if x / 2 % 2 = 0 then 45 else 119, if a = 0 then (if x % 2 = 0 then 45 else 120) else (if x % 2 = 0 then S else s)]
def typeF (k : Int) : Nat := ([63, 112, 99, 63, 100, 63, 98, 63, 45, 63, 108, 63, 115, 63, 63, 63] : List Nat).getD k.toNat 63
def sufL (k : Int) : List Nat := if k = 4 then [47] else if k = 10 then [64] else if k = 1 then [124] else []
def toldL (c : Int) : List Nat := typeF (c / 4096) :: (grp (c / 64 % 8) (c / 2048 % 2) 83 115 ++ grp (c / 8 % 8) (c / 1024 % 2) 83 115 ++ grp (c % 8) (c / 512 % 2) 84 116 ++ sufL (c / 4096))
def strOf (l : List Nat) : Str := ⟨l.toArray⟩
def toldF (c : Int) : Str := strOf (toldL c)
theorem strOf_append (a b : List Nat) : strOf a ++ strOf b = strOf (a ++ b) := by
  show (⟨a.toArray ++ b.toArray⟩ : Str) = ⟨(a ++ b).toArray⟩
  simp
theorem type_item {k : Int} (h0 : 0 ≤ k) (h1 : k < 16) : Txt.item (Str.ofString "?pc?d?b?-?l?s???") k = strOf [typeF k] := by
  obtain ⟨n, rfl⟩ := Int.eq_ofNat_of_zero_le h0
  have key : ∀ n < 16, Txt.item (Str.ofString "?pc?d?b?-?l?s???") ((n : Nat) : Int) = strOf [typeF ((n : Nat) : Int)] := by decide +kernel
  exact key n (Int.ofNat_lt.mp h1)
theorem suf_str (k : Int) : sufF k = strOf (sufL k) := by
  unfold sufF sufL
  (repeat' split) <;> decide +kernel
theorem grp_key : ∀ n < 8, ∀ m < 2, (Txt.item (Str.ofString "-r") (((n : Nat) : Int).fdiv 4) ++ Txt.item (Str.ofString "-w") ((((n : Nat) : Int).fdiv 2).fmod 2)) ++ Txt.item (if ((m : Nat) : Int) = 0 then Str.ofString "-x" else Str.ofString "Ss") (((n : Nat) : Int).fmod 2) = strOf (grp ((n : Nat) : Int) ((m : Nat) : Int) 83 115) ∧
    (Txt.item (Str.ofString "-r") (((n : Nat) : Int).fdiv 4) ++ Txt.item (Str.ofString "-w") ((((n : Nat) : Int).fdiv 2).fmod 2)) ++ Txt.item (if ((m : Nat) : Int) = 0 then Str.ofString "-x" else Str.ofString "Tt") (((n : Nat) : Int).fmod 2) = strOf (grp ((n : Nat) : Int) ((m : Nat) : Int) 84 116) := by decide +kernel
theorem str_assoc (a b c : Str) : a ++ b ++ c = a ++ (b ++ c) := by
  show (⟨a.cps ++ b.cps ++ c.cps⟩ : Str) = ⟨a.cps ++ (b.cps ++ c.cps)⟩
  rw [Array.append_assoc]
theorem grp_item {x Y P a : Int} {S s : Nat} (h0 : 0 ≤ x) (h1 : x < 8) (ha : a = Int.fmod Y 2) (hP : (P < 2 ∧ S = 83 ∧ s = 115) ∨ (¬ P < 2 ∧ S = 84 ∧ s = 116)) (z : Str) :
    z ++ (Txt.item (Str.ofString "-r") (x.fdiv 4) ++ Txt.item (Str.ofString "-w") ((x.fdiv 2).fmod 2)) ++ Txt.item (pick Y P) (x.fmod 2) = z ++ strOf (grp x a S s) := by
  have p1 := Int.fmod_nonneg_of_pos Y (b := 2) (by decide)
  have p2 := Int.fmod_lt_of_pos Y (b := 2) (by decide)
  rw [← ha] at p1 p2
  obtain ⟨n, rfl⟩ := Int.eq_ofNat_of_zero_le h0
  obtain ⟨m, rfl⟩ := Int.eq_ofNat_of_zero_le p1
  have key := grp_key n (Int.ofNat_lt.mp h1) m (Int.ofNat_lt.mp p2)
  rw [str_assoc]
  congr 1
  unfold pick
  rw [← ha]
  rcases hP with ⟨hP, rfl, rfl⟩ | ⟨hP, rfl, rfl⟩
  · rw [if_pos hP]; exact key.1
  · rw [if_neg hP]; exact key.2
theorem told_end {c : Int} (h0 : 0 ≤ c) (h1 : c < 65536) {a0 a1 a2 b0 b1 b2 P0 P1 P2 : Int} (e0 : a0 = 64) (e1 : a1 = 8) (e2 : a2 = 1) (f0 : b0 = 4) (f1 : b1 = 2) (f2 : b2 = 1) (g0 : P0 = 0) (g1 : P1 = 1) (g2 : P2 = 2) :
    Txt.item (Str.ofString "?pc?d?b?-?l?s???") (c.fdiv 4096) ++
      (Txt.item (Str.ofString "-r") (((c.fdiv a0).fmod 8).fdiv 4) ++ Txt.item (Str.ofString "-w") ((((c.fdiv a0).fmod 8).fdiv 2).fmod 2)) ++
      Txt.item (pick ((c.fdiv 512).fdiv b0) P0) (((c.fdiv a0).fmod 8).fmod 2) ++
      (Txt.item (Str.ofString "-r") (((c.fdiv a1).fmod 8).fdiv 4) ++ Txt.item (Str.ofString "-w") ((((c.fdiv a1).fmod 8).fdiv 2).fmod 2)) ++
      Txt.item (pick ((c.fdiv 512).fdiv b1) P1) (((c.fdiv a1).fmod 8).fmod 2) ++
      (Txt.item (Str.ofString "-r") (((c.fdiv a2).fmod 8).fdiv 4) ++ Txt.item (Str.ofString "-w") ((((c.fdiv a2).fmod 8).fdiv 2).fmod 2)) ++
      Txt.item (pick ((c.fdiv 512).fdiv b2) P2) (((c.fdiv a2).fmod 8).fmod 2) ++ sufF (c.fdiv 4096) = toldF c := by
  subst e0 e1 e2 f0 f1 f2 g0 g1 g2
  have d : ∀ (x : Int) (k : Int), 0 < k → x.fdiv k = x / k := fun x k hk => Int.fdiv_eq_ediv_of_nonneg x (Int.le_of_lt hk)
  have md : ∀ (x : Int) (k : Int), 0 < k → x.fmod k = x % k := fun x k hk => Int.fmod_eq_emod_of_nonneg x (Int.le_of_lt hk)
  have ex0 : (c.fdiv 64).fmod 8 = c / 64 % 8 := by rw [d _ _ (by decide), md _ _ (by decide)]
  have ex1 : (c.fdiv 8).fmod 8 = c / 8 % 8 := by rw [d _ _ (by decide), md _ _ (by decide)]
  have ex2 : (c.fdiv 1).fmod 8 = c % 8 := by rw [d _ _ (by decide), md _ _ (by decide), Int.ediv_one]
  have ea0 : c / 2048 % 2 = Int.fmod ((c.fdiv 512).fdiv 4) 2 := by rw [d _ _ (by decide), d _ _ (by decide), md _ _ (by decide), Int.ediv_ediv_of_nonneg (by decide)]; rfl
  have ea1 : c / 1024 % 2 = Int.fmod ((c.fdiv 512).fdiv 2) 2 := by rw [d _ _ (by decide), d _ _ (by decide), md _ _ (by decide), Int.ediv_ediv_of_nonneg (by decide)]; rfl
  have ea2 : c / 512 % 2 = Int.fmod ((c.fdiv 512).fdiv 1) 2 := by rw [d _ _ (by decide), d _ _ (by decide), md _ _ (by decide), Int.ediv_ediv_of_nonneg (by decide)]; rfl
  rw [ex0, ex1, ex2, d c 4096 (by decide)]
  rw [grp_item (by omega) (by omega) ea0 (.inl ⟨by decide, rfl, rfl⟩), grp_item (by omega) (by omega) ea1 (.inl ⟨by decide, rfl, rfl⟩), grp_item (by omega) (by omega) ea2 (.inr ⟨by decide, rfl, rfl⟩)]
  rw [type_item (by omega) (by omega), suf_str, strOf_append, strOf_append, strOf_append, strOf_append]
  unfold toldF toldL
  simp
end Mine
end
theorem Mine.gapTold : (if True then True else True) := by
  w_top off
  (try walk1)
  w_top off
  all_goals first | trivial | simp
/- part Told -/
section
open PySem PySem.W PyProof.Rows PySem.Calls
set_option maxRecDepth 100000
set_option maxHeartbeats 2000000
namespace Mine
local macro_rules | `(tactic| walk_at "eval Constant int") => `(tactic| refine const_int ?_)
local macro_rules | `(tactic| walk_at "binaryOp Add int int") => `(tactic| refine add_int' ?_)
local macro_rules | `(tactic| walk_at "mine enter") => `(tactic| (
  k_dflt (refine' enter ?kX ?kT ?k6 ?k7 ?k8 ?k9 ?kB ?_ ?c2 ?c3 ?c4 ?c5; (case kX => k_asm); (case kT => k_asm); (case k6 => k_is); (case k7 => k_is); (case k8 => (dsimp only [around]; omega)); (case k9 => first | exact BindsTo.of_eq rfl | walk_at "mine binds"); (case kB => exact locs rfl); (case c2 => exact rfl); (case c3 => exact rfl); (case c4 => exact rfl); (case c5 => decide); k_whole); intro L' h' tk' F' N'; (try dsimp only); (try k_fold)))
/-- a mark: loops are walked, not stopped at -/
def GoT : Prop := True
local macro_rules | `(tactic| walk_at "pyIter ref") => `(tactic| (k_here; (fail_if_success (with_reducible rename GoT => hgo)); refine Halt.mk ?_))
local macro_rules | `(tactic| walk_at "exec For Name Call cons nil") => `(tactic| (k_here; (fail_if_success (with_reducible rename GoT => hgo)); refine Halt.mk ?_))
local macro_rules | `(tactic| walk_at "TurnPost") => `(tactic| (dsimp only [TurnPost]))
local macro_rules | `(tactic| walk_at "mine agrees") => `(tactic| (repeat (first | (with_reducible refine Agrees.store (by decide) ?_) | (with_reducible refine Agrees.storeU (by decide) ?_) | (with_reducible exact Agrees.base) | refine Agrees.store (by decide) ?_ | exact Agrees.base | exact Agrees.refl | refine Agrees.over (by decide) ?_)))
theorem pick_length (X P : Int) : (pick X P).length = 2 := by
  unfold pick
  (repeat' split) <;> decide +kernel
theorem pick_K {prog : Program} {w : World} {A : Around} {E : Value → Shared → Prop} {s : Shared} {h₀ : Heap} {L l : Addr} {news : List (Addr × Obj)} {value slice : PySem.Expr} {X P : Int} {ta tb tc td u : Tok} {n : Nat} {Q : Value → Shared → Prop}
    (N : News h₀ L s.heap ((l, W.listOf #[.str (Str.ofString "-x") ta, .str (Str.ofString "Ss") tb, .str (Str.ofString "-x") tc, .str (Str.ofString "Tt") td] n) :: news)) (hP : P = 0 ∨ P = 1 ∨ P = 2)
    (h : ∀ z t, z = pick X P → z.length = 2 → News h₀ L s.heap news → Q (.str z t) s)
    (hs : subscripted slice false (.ref l) (.int (Int.fmod X 2 + 2 * Int.fdiv P 2) u) = operate [.ref l, .int (Int.fmod X 2 + 2 * Int.fdiv P 2) u] (getItem (.ref l) (.int (Int.fmod X 2 + 2 * Int.fdiv P 2) u)) := by with_unfolding_all rfl) :
    wpAny (model prog w) A (subscriptTail value slice (.ref l) (.int (Int.fmod X 2 + 2 * Int.fdiv P 2) u)) Q E s := by
  have hl : s.heap.IsList l #[.str (Str.ofString "-x") ta, .str (Str.ofString "Ss") tb, .str (Str.ofString "-x") tc, .str (Str.ofString "Tt") td] := ⟨_, (N _ (.head _)).1, rfl, n, rfl⟩
  have hlen := pick_length X P
  have hq : ∀ t, Q (.str (pick X P) t) s := fun t => h _ t rfl hlen fun p hp => N p (.tail _ hp)
  have e : Int.fmod X 2 = 0 ∨ Int.fmod X 2 = 1 := by
    have h1 := Int.fmod_nonneg_of_pos X (b := 2) (by decide)
    have h2 := Int.fmod_lt_of_pos X (b := 2) (by decide)
    omega
  have go : ∀ (k : Int) (v : Value), Int.fmod X 2 + 2 * Int.fdiv P 2 = k → 0 ≤ k → k < 4 → (#[.str (Str.ofString "-x") ta, .str (Str.ofString "Ss") tb, .str (Str.ofString "-x") tc, .str (Str.ofString "Tt") td] : Array Value)[k.toNat]? = some v → Q v s →
      wpAny (model prog w) A (subscriptTail value slice (.ref l) (.int (Int.fmod X 2 + 2 * Int.fdiv P 2) u)) Q E s := by
    intro k v hk h0 h1 hv hqv
    rw [hk] at hs ⊢
    exact tail_any hl.typeIs slot_list_getitem.lookup (wpAny_getItem_list hl h0 (by omega) hv hqv) hs
  rcases e with e | e <;> rcases hP with rfl | rfl | rfl
  · exact go 0 _ (by rw [e]; decide) (by decide) (by decide) rfl (by have := hq ta; rw [pick, if_pos (by decide), if_pos e] at this; exact this)
  · exact go 0 _ (by rw [e]; decide) (by decide) (by decide) rfl (by have := hq ta; rw [pick, if_pos (by decide), if_pos e] at this; exact this)
  · exact go 2 _ (by rw [e]; decide) (by decide) (by decide) rfl (by have := hq tc; rw [pick, if_neg (by decide), if_pos e] at this; exact this)
  · exact go 1 _ (by rw [e]; decide) (by decide) (by decide) rfl (by have := hq tb; rw [pick, if_pos (by decide), if_neg (by omega)] at this; exact this)
  · exact go 1 _ (by rw [e]; decide) (by decide) (by decide) rfl (by have := hq tb; rw [pick, if_pos (by decide), if_neg (by omega)] at this; exact this)
  · exact go 3 _ (by rw [e]; decide) (by decide) (by decide) rfl (by have := hq td; rw [pick, if_neg (by decide), if_neg (by omega)] at this; exact this)
theorem item_isSome {x : Str} {k : Int} (h0 : 0 ≤ k) (h1 : k < x.length) : (Txt.charAt x k).isSome = true := by
  unfold Txt.charAt seqIndex?
  have hx : x.length = x.cps.size := rfl
  have e : (if k < 0 then k + (x.length : Int) else k) = k := if_neg (by omega)
  have e2 : (decide (0 ≤ k) && decide (k < (x.length : Int))) = true := by simp; omega
  simp only [e, e2, if_true]
  show (x.cps[k.toNat]?).isSome = true
  rw [Array.getElem?_eq_getElem (by omega)]
  rfl
theorem itemG {prog : Program} {w : World} {A : Around} {E : Value → Shared → Prop} {s : Shared} {value slice : PySem.Expr} {x : Str} {t u : Tok} {n : Nat} {i : Int} {Q : Value → Shared → Prop}
    (hk : x.length = n) (h0 : -(n : Int) ≤ i) (h1 : i < (n : Int)) (hn : n ≤ 16777216) (h : ∀ z t' k', z = Txt.item x i → z.length = 1 → Q (.str z t') { s with toks := k' })
    (hs : subscripted slice false (.str x t) (.int i u) = operate [.str x t, .int i u] (getItem (.str x t) (.int i u)) := by with_unfolding_all rfl)
    (ht : ∀ r, letTemporaryGo value (.str x t) r = pure () := by intro _; with_unfolding_all rfl) :
    wpAny (model prog w) A (subscriptTail value slice (.str x t) (.int i u)) Q E s := KXi.item hk h0 h1 hn (fun e => h _ _ _ rfl e) hs ht
theorem fmod2 (Y : Int) : -((2 : Nat) : Int) ≤ Int.fmod Y 2 ∧ Int.fmod Y 2 < ((2 : Nat) : Int) := by
  have h1 := Int.fmod_nonneg_of_pos Y (b := 2) (by decide)
  have h2 := Int.fmod_lt_of_pos Y (b := 2) (by decide)
  omega
theorem item2G {prog : Program} {w : World} {A : Around} {E : Value → Shared → Prop} {s : Shared} {value slice : PySem.Expr} {x : Str} {t u : Tok} {Y : Int} {Q : Value → Shared → Prop}
    (hk : x.length = 2) (h : ∀ z t' k', z = Txt.item x (Int.fmod Y 2) → z.length = 1 → Q (.str z t') { s with toks := k' })
    (hs : subscripted slice false (.str x t) (.int (Int.fmod Y 2) u) = operate [.str x t, .int (Int.fmod Y 2) u] (getItem (.str x t) (.int (Int.fmod Y 2) u)) := by with_unfolding_all rfl)
    (ht : ∀ r, letTemporaryGo value (.str x t) r = pure () := by intro _; with_unfolding_all rfl) :
    wpAny (model prog w) A (subscriptTail value slice (.str x t) (.int (Int.fmod Y 2) u)) Q E s := itemG hk (fmod2 Y).1 (fmod2 Y).2 (by decide) h hs ht
theorem addG {prog : Program} {w : World} {A : Around} {E : Value → Shared → Prop} {s : Shared} {x y : Str} {t u : Tok} {Q : Value → Shared → Prop} (hz : x.length + y.length ≤ 1000)
    (h : ∀ z t' k', z = x ++ y → z.length = x.length + y.length → Q (.str z t') { s with toks := k' }) : wpAny (model prog w) A (binaryOp .Add (.str x t) (.str y u)) Q E s :=
  SB.add (fun t' k' => h _ t' k' rfl (Str.length_append ..)) (Nat.le_trans hz (by decide))
theorem iaddG {prog : Program} {w : World} {A : Around} {E : Value → Shared → Prop} {s : Shared} {x y : Str} {t u : Tok} {Q : Value → Shared → Prop} (hz : x.length + y.length ≤ 1000)
    (h : ∀ z t' k', z = x ++ y → z.length = x.length + y.length → Q (.str z t') { s with toks := k' }) : wpAny (model prog w) A (inplaceOp .Add (.str x t) (.str y u)) Q E s :=
  SB.iadd (fun t' k' => h _ t' k' rfl (Str.length_append ..)) (Nat.le_trans hz (by decide))
local macro_rules | `(tactic| walk_at "inplaceOp Add str str") => `(tactic| (k_here; (refine iaddG (by omega) ?_); intro z' t' k' hz' hl'; (try dsimp only)))
local macro_rules | `(tactic| walk_at "binaryOp Add str str") => `(tactic| (k_here; (refine addG (by omega) ?_); intro z' t' k' hz' hl'; (try dsimp only)))
local macro_rules | `(tactic| walk_at "subscriptTail") => `(tactic| (k_here; (with_reducible show wpAny _ _ (subscriptTail _ _ (Value.str _ _) (Value.int _ _)) _ _ _); (refine itemG (by kxi_len) (by kxi_fact) (by kxi_fact) (by decide) ?_); intro z' t' k' hz' hl'; (try dsimp only)))
local macro_rules | `(tactic| walk_at "subscriptTail") => `(tactic| (k_here; (with_reducible show wpAny _ _ (subscriptTail _ _ (Value.str _ _) (Value.int (Int.fmod _ 2) _)) _ _ _); (refine item2G (by assumption) ?_); intro z' t' k' hz' hl'; (try dsimp only)))
local macro_rules | `(tactic| walk_at "subscriptTail") => `(tactic| (k_here; (with_reducible show wpAny _ _ (subscriptTail _ _ (Value.ref _) (Value.int (_ + 2 * _) _)) _ _ _); (with_reducible rename News _ _ _ _ => lN'); (with_unfolding_all refine' pick_K lN' ?k3 ?_ ?k5; (case k3 => first | decide | omega); (case k5 => with_unfolding_all rfl); k_whole); clear lN'; intro z' t' hz' hlen' N'; (try dsimp only at N'); (try dsimp only)))
theorem suf_length (k : Int) : (sufF k).length ≤ 1 := by
  unfold sufF
  (repeat' split) <;> decide +kernel
theorem tail_flat {k : Int} {v : Value} {t1 t2 t3 u1 u2 u3 : Tok} (h : PyProof.V.Flat v ((Spec.lookup (.int k) (intData [(.int 4 t1, .str (Str.ofString "/") u1), (.int 10 t2, .str (Str.ofString "@") u2), (.int 1 t3, .str (Str.ofString "|") u3)])).getD (.str (Str.ofString "")))) : ∃ t, v = .str (sufF k) t := by
  have same : ∀ a : Int, Spec.same (.int a) (.int k) = decide (a = k) := fun a => by
    show (a == k) = _
    rw [Bool.eq_iff_iff]; simp
  have e : (Spec.lookup (.int k) (intData [(.int 4 t1, .str (Str.ofString "/") u1), (.int 10 t2, .str (Str.ofString "@") u2), (.int 1 t3, .str (Str.ofString "|") u3)])).getD (.str (Str.ofString "")) = .str (sufF k) := by
    show (if Spec.same (.int 4) (.int k) = true then some (PyData.str (Str.ofString "/")) else if Spec.same (.int 10) (.int k) = true then some (PyData.str (Str.ofString "@")) else if Spec.same (.int 1) (.int k) = true then some (PyData.str (Str.ofString "|")) else none).getD (.str (Str.ofString "")) = _
    rw [same, same, same]
    unfold sufF
    simp only [decide_eq_true_eq, eq_comm (b := k)]
    (repeat' split) <;> first | rfl | omega
  rw [e] at h
  exact h.str_inv
abbrev toldN : List Str := [Str.ofString "place", Str.ofString "three", Str.ofString "above", Str.ofString "told"]
theorem powG {prog : Program} {w : World} {A : Around} {E : Value → Shared → Prop} {s : Shared} {b e : Int} {t u : Tok} {Q : Value → Shared → Prop} (h0 : 0 ≤ e) (h1 : e ≤ 2) (hb : b = 8 ∨ b = 2)
    (h : ∀ p t' k', p = b ^ e.toNat → 1 ≤ p → p ≤ 64 → Q (.int p t') { s with toks := k' }) : wpAny (model prog w) A (binaryOp .Pow (.int b t) (.int e u)) Q E s := by
  have he : e = 0 ∨ e = 1 ∨ e = 2 := by omega
  have hp : 1 ≤ b ^ e.toNat ∧ b ^ e.toNat ≤ 64 := by
    rcases hb with rfl | rfl <;> rcases he with rfl | rfl | rfl <;> decide
  rcases hb with rfl | rfl <;> exact pow_int_small (by omega) (by omega) (by decide) (h _ _ _ rfl hp.1 hp.2)
local macro_rules | `(tactic| walk_at "binaryOp Pow int int") => `(tactic| (k_here; (refine powG (by omega) (by omega) (by first | exact .inl rfl | exact .inr rfl) ?_); intro p' t' k' hp' hp1' hp2'; (try dsimp only)))
/-- the text after some turns -/
def toldAt (c : Int) : Nat → Str
  | 0 => Txt.item (Str.ofString "?pc?d?b?-?l?s???") (c.fdiv 4096)
  | i + 1 => toldAt c i ++ (Txt.item (Str.ofString "-r") (((c.fdiv (8 ^ (2 - (0 + (i : Int) * 1)).toNat)).fmod 8).fdiv 4) ++ Txt.item (Str.ofString "-w") ((((c.fdiv (8 ^ (2 - (0 + (i : Int) * 1)).toNat)).fmod 8).fdiv 2).fmod 2)) ++
      Txt.item (pick ((c.fdiv 512).fdiv (2 ^ (2 - (0 + (i : Int) * 1)).toNat)) (0 + (i : Int) * 1)) (((c.fdiv (8 ^ (2 - (0 + (i : Int) * 1)).toNat)).fmod 8).fmod 2)
def ToldJ (c : Int) (i : Nat) (u : Str → Option Value) (nx : List (Addr × Obj)) : Prop := nx = [] ∧ ∃ z t, u (Str.ofString "told") = some (.str z t) ∧ z = toldAt c i ∧ z.length ≤ 1 + 3 * i
theorem told_fin {c : Int} {z S : Str} (h0 : 0 ≤ c) (h1 : c < 65536) (hz : z = toldAt c 3) (hS : S = sufF (c.fdiv 4096)) : z ++ S = toldF c := by
  subst hz hS
  exact told_end h0 h1 (a0 := 8 ^ (2 - (0 + ((0 : Nat) : Int) * 1)).toNat) (a1 := 8 ^ (2 - (0 + ((1 : Nat) : Int) * 1)).toNat) (a2 := 8 ^ (2 - (0 + ((2 : Nat) : Int) * 1)).toNat) (b0 := 2 ^ (2 - (0 + ((0 : Nat) : Int) * 1)).toNat) (b1 := 2 ^ (2 - (0 + ((1 : Nat) : Int) * 1)).toNat) (b2 := 2 ^ (2 - (0 + ((2 : Nat) : Int) * 1)).toNat)
    (P0 := 0 + ((0 : Nat) : Int) * 1) (P1 := 0 + ((1 : Nat) : Int) * 1) (P2 := 0 + ((2 : Nat) : Int) * 1) (by decide) (by decide) (by decide) (by decide) (by decide) (by decide) (by decide) (by decide) (by decide)
theorem told_says {w mean mg mb} (c : Int) (h0 : 0 ≤ c) (h1 : c < 65536) (t : Tok) : Says 2 w mean mg mb 202 [.int c t] (retS (toldF c)) := by
  unfold Says; k_fill
  intro dp un gd base envs h₀ gg dd tt oo R B X T hd hu hret
  walk_at "mine enter"
  k_steps
  unfold Halt
  refine wpAny_For ?_ (by intro _; rfl)
  k_steps
  unfold Halt
  (with_reducible rename IsRange _ _ _ _ _ _ _ _ => hr)
  (with_reducible rename Fr _ _ _ _ => F')
  (with_reducible rename News _ _ _ _ => N')
  refine for_rangeC (n := 3) (cst := []) (news := []) toldN rfl hr (by decide) (by decide) F' (fun p hp => nomatch hp) (ToldJ c) ⟨rfl, _, _, rfl, by assumption, by omega⟩ ?step ?fin
  case step =>
    intro i t u nx h₁ tk₁ I o hi hJ hcst hnx F₁ N₁
    obtain ⟨rfl, z, t0, e1, hz, hzl⟩ := hJ
    have F₂ := frame_named _ F₁ (nm_cons (by decide) e1 nm_nil)
    clear F₁
    dsimp only [names] at F₂
    have hgo : GoT := trivial
    k_steps
    (with_reducible rename Fr _ _ _ _ => Fx)
    (with_reducible rename News _ _ _ _ => Nx)
    refine turnEnd (nx := []) Fx Nx (fun p hp => nomatch hp) ⟨by walk_at "mine agrees", rfl, _, _, rfl, ?_, by omega⟩
    subst_vars
    rfl
  case fin =>
    intro h' tk u nx F₁ N₁ hJ
    obtain ⟨rfl, z, t0, e1, hz, hzl⟩ := hJ
    have F₂ := frame_named _ F₁ (nm_cons (by decide) e1 nm_nil)
    clear F₁
    dsimp only [names] at F₂
    have hgo : GoT := trivial
    k_steps
    · exact endS hret (by k_asm) (told_fin h0 h1 hz (by unfold sufF; (repeat' split) <;> first | rfl | omega))
    · exact endS hret (by k_asm) (told_fin h0 h1 hz (by unfold sufF; (repeat' split) <;> first | rfl | omega))
    · exact endS hret (by k_asm) (told_fin h0 h1 hz (by unfold sufF; (repeat' split) <;> first | rfl | omega))
    · exact endS hret (by k_asm) (told_fin h0 h1 hz (by unfold sufF; (repeat' split) <;> first | rfl | omega))
end Mine
end
theorem Mine.gapShown : (if True then True else True) := by
  w_top off
  (try walk1)
  w_top off
  all_goals first | trivial | simp
/- part Shown -/
section
open PySem PySem.W PyProof.Rows PySem.Calls
set_option maxRecDepth 100000
set_option maxHeartbeats 2000000
namespace Mine
local macro_rules | `(tactic| walk_at "mine enter") => `(tactic| (
  k_dflt (refine' enter ?kX ?kT ?k6 ?k7 ?k8 ?k9 ?kB ?_ ?c2 ?c3 ?c4 ?c5; (case kX => k_asm); (case kT => k_asm); (case k6 => k_is); (case k7 => k_is); (case k8 => (dsimp only [around]; omega)); (case k9 => first | exact BindsTo.of_eq rfl | walk_at "mine binds"); (case kB => exact locs rfl); (case c2 => exact rfl); (case c3 => exact rfl); (case c4 => exact rfl); (case c5 => decide); k_whole); intro L' h' tk' F' N'; (try dsimp only); (try k_fold)))
local macro_rules | `(tactic| walk_at "mine says") => `(tactic| (
   (case k1 => k_asm); (case k2 => k_asm); (case k3 => k_asm); (case k4 => k_asm); (case k5 => k_asm); (try (case kS => walk_at "mine whom")); (case k6 => exact rfl); (case k7 => exact rfl); (case k8 => exact rfl); (case k9 => first | (dsimp only [around]; omega) | decide); (case k10 => first | (dsimp only [around]; omega) | decide); k_whole))
local macro_rules | `(tactic| walk_at "mine use") => `(tactic| (refine' Says.use ?kS ?k1 ?k2 ?k3 ?k4 ?k5 ?k6 ?k7 ?k8 ?k9 ?k10 ?_; walk_at "mine says"))
local macro_rules | `(tactic| walk_at "mine came") => `(tactic| (intro v' tl' h' tk' hg' F' N' hn'; (first | (obtain ⟨ht', t', hv'⟩ := hg'; subst ht' hv') | (obtain ⟨ht', hv'⟩ := hg'; subst ht' hv')); (try dsimp only [List.nil_append] at N'); clear hn'; (try k_sweep)))
local macro_rules | `(tactic| walk_at "call ref") => `(tactic| (k_here; k_dflt (walk_at "mine use"); walk_at "mine came"))
local macro_rules | `(tactic| walk_at "mine whom") => `(tactic| first | exact file_says _ _ | exact S_ISLNK_says _ _ | exact S_ISFIFO_says _ _ | exact S_ISDIR_says _ _)
local macro_rules | `(tactic| walk_at "binaryOp Add str str") => `(tactic| (k_here; (refine addG (by first | omega | (rw [fileF_length]; decide)) ?_); intro z' t' k' hz' hl'; (try dsimp only)))
theorem fileF_length (c : Int) : (fileF c).length = 10 := by
  show ((List.range 10).map (charOf c)).toArray.size = 10
  simp
def shownF (c : Int) : Str := if c < 0 then Str.ofString "" else if Builtin.bitAnd c 61440 = 16384 then fileF c ++ Str.ofString "/" else if Builtin.bitAnd c 61440 = 40960 then fileF c ++ Str.ofString "@" else if Builtin.bitAnd c 61440 = 4096 then fileF c ++ Str.ofString "|" else fileF c
theorem told_neg_says {w mean mg mb} (c : Int) (hc : c < 0) (t : Tok) : Says 2 w mean mg mb 202 [.int c t] (retS (Str.ofString "")) := by
  unfold Says; k_fill
  intro dp un gd base envs h₀ gg dd tt oo R B X T hd hu hret
  walk_at "mine enter"
  k_steps
  all_goals (refine endS hret (by k_asm) rfl)
theorem shown_says {w mean mg mb} (c : Int) (t : Tok) : Says 5 w mean mg mb 195 [.int c t] (retS (shownF c)) := by
  unfold Says; k_fill
  intro dp un gd base envs h₀ gg dd tt oo R B X T hd hu hret
  walk_at "mine enter"
  k_steps
  all_goals (try dsimp only)
  all_goals (refine endS hret (by k_asm) ?_)
  all_goals clear hret
  all_goals (unfold shownF; (repeat' split) <;> first | rfl | (exfalso; simp_all; done) | (exfalso; omega))
end Mine
end
/- part SentF -/
section
open PySem PySem.W PyProof.Rows
set_option maxRecDepth 100000
namespace Mine
def toldS (m : Int) : Str := if m < 0 then Str.ofString "" else toldF m
/-- what holds of a row -/
structure Row.Ok (r : Row) : Prop where
  d0 : 0 ≤ r.dots
  d2 : r.dots ≤ 2
  m : r.mode = -1 ∨ (0 ≤ r.mode ∧ r.mode < 65536)
  s : r.stop = Str.ofString "\r" ∨ r.stop = Str.ofString "\n" ∨ r.stop = Str.ofString "\r\n"
def sentStep (often : Int) (acc : Str × Str) (r : Row) : Str × Str :=
  (if 0 < r.dots then acc.1 ++ (Txt.mul (Str.ofString ".") (r.dots + often) ++ toldS r.mode ++ Str.ofString "\r\n")
   else if 0 ≤ r.mode ∨ acc.2 ≠ Str.ofString "\r" ∨ r.stop ≠ Str.ofString "\n" then acc.1 ++ (toldS r.mode ++ Str.ofString "\r\n") else acc.1, r.stop)
def sentF (often : Int) (rs : List Row) : Str := (rs.foldl (sentStep often) (Str.ofString "", Str.ofString "")).1
theorem toldF_length {m : Int} : (toldF m).length ≤ 11 := by
  show (toldL m).toArray.size ≤ 11
  rw [List.size_toArray]
  unfold toldL grp sufL
  simp only [List.length_cons, List.length_append, List.length_nil]
  (repeat' split) <;> simp
theorem toldS_length {m : Int} : (toldS m).length ≤ 11 := by
  unfold toldS
  split
  · decide +kernel
  · exact toldF_length
theorem rowOf_ok (x : Int) : (rowOf x).Ok := by
  have e1 : (rowOf x).dots = x % 1000000000 / 5 % 3 := rfl
  have e2 : (rowOf x).mode = if x % 1000000000 % 5 = 0 then -1 else if x % 1000000000 % 5 = 4 then x % 1000000000 / 45 % 65536 / 512 * 512 + 511 else x % 1000000000 / 45 % 65536 := rfl
  have e3 : (rowOf x).stop = stopF (x % 1000000000 / 15 % 3) := rfl
  refine ⟨by omega, by omega, ?_, ?_⟩
  · rw [e2]
    by_cases h : x % 1000000000 % 5 = 0
    · rw [if_pos h]; exact .inl rfl
    · rw [if_neg h]
      by_cases h4 : x % 1000000000 % 5 = 4
      · rw [if_pos h4]; exact .inr (by omega)
      · rw [if_neg h4]; exact .inr (by omega)
  · rw [e3]
    unfold stopF
    split
    · exact .inl rfl
    · split
      · exact .inr (.inl rfl)
      · exact .inr (.inr rfl)
theorem rowsF_ok (ns : List Int) : ∀ r ∈ rowsF ns, r.Ok := fun r hr => by
  rcases List.mem_cons.mp hr with rfl | hr
  · exact ⟨by decide, by decide, .inr (by decide), .inr (.inl rfl)⟩
  · obtain ⟨x, _, rfl⟩ := List.mem_map.mp hr
    exact rowOf_ok x
theorem rowsF_length (ns : List Int) : (rowsF ns).length ≤ 10 := by
  unfold rowsF
  rw [List.length_cons, List.length_map, List.length_take]
  omega
end Mine
end
theorem Mine.gapSent : (if True then True else True) := by
  w_top off
  (try walk1)
  w_top off
  all_goals first | trivial | simp
/- part Sent -/
section
open PySem PySem.W PyProof.Rows PySem.Calls
set_option maxRecDepth 100000
set_option maxHeartbeats 2000000
namespace Mine
local macro_rules | `(tactic| walk_at "mine enter") => `(tactic| (
  k_dflt (refine' enter ?kX ?kT ?k6 ?k7 ?k8 ?k9 ?kB ?_ ?c2 ?c3 ?c4 ?c5; (case kX => k_asm); (case kT => k_asm); (case k6 => k_is); (case k7 => k_is); (case k8 => (dsimp only [around]; omega)); (case k9 => first | exact BindsTo.of_eq rfl | walk_at "mine binds"); (case kB => exact locs rfl); (case c2 => exact rfl); (case c3 => exact rfl); (case c4 => exact rfl); (case c5 => decide); k_whole); intro L' h' tk' F' N'; (try dsimp only); (try k_fold)))
local macro_rules | `(tactic| walk_at "mine says") => `(tactic| (
   (case k1 => k_asm); (case k2 => k_asm); (case k3 => k_asm); (case k4 => k_asm); (case k5 => k_asm); (try (case kS => walk_at "mine whom")); (case k6 => exact rfl); (case k7 => exact rfl); (case k8 => exact rfl); (case k9 => first | (dsimp only [around]; omega) | decide); (case k10 => first | (dsimp only [around]; omega) | decide); k_whole))
local macro_rules | `(tactic| walk_at "exec For Tuple Name cons nil") => `(tactic| (k_here; refine Halt.mk ?_))
local macro_rules | `(tactic| walk_at "pyIter ref") => `(tactic| (k_here; refine Halt.mk ?_))
local macro_rules | `(tactic| walk_at "TurnPost") => `(tactic| (dsimp only [TurnPost]))
local macro_rules | `(tactic| walk_at "mine agrees") => `(tactic| (repeat (first | (with_reducible refine Agrees.store (by decide) ?_) | (with_reducible refine Agrees.storeU (by decide) ?_) | (with_reducible exact Agrees.base) | refine Agrees.store (by decide) ?_ | exact Agrees.base | exact Agrees.refl | refine Agrees.over (by decide) ?_)))
theorem told_all_says {w mean mg mb} (c : Int) (hc : c = -1 ∨ (0 ≤ c ∧ c < 65536)) (t : Tok) : Says 2 w mean mg mb 202 [.int c t] (retS (toldS c)) := by
  rcases hc with h | ⟨h0, h1⟩
  · have e : toldS c = Str.ofString "" := by unfold toldS; rw [if_pos (by omega)]
    rw [e]; exact told_neg_says c (by omega) t
  · have e : toldS c = toldF c := by unfold toldS; rw [if_neg (by omega)]
    rw [e]; exact told_says c h0 h1 t
theorem mulG {prog : Program} {w : World} {A : Around} {E : Value → Shared → Prop} {s : Shared} {t u : Tok} {n : Int} {Q : Value → Shared → Prop} (h0 : 0 ≤ n) (h1 : n ≤ 10)
    (h : ∀ z t' k', z = Txt.mul (Str.ofString ".") n → (z.length : Int) = n → Q (.str z t') { s with toks := k' }) : wpAny (model prog w) A (binaryOp .Mult (.str (Str.ofString ".") t) (.int n u)) Q E s :=
  KXi.mul (n := 1) (by decide +kernel) (by decide) (by omega) (by omega) fun t' k' _ e => h _ t' k' rfl (by have := e h0; omega)
local macro_rules | `(tactic| walk_at "binaryOp Mult str int") => `(tactic| (k_here; (refine mulG (by omega) (by omega) ?_); intro z' t' k' hz' hl'; (try dsimp only)))
local macro_rules | `(tactic| walk_at "inplaceOp Add str str") => `(tactic| (k_here; (refine iaddG (by omega) ?_); intro z' t' k' hz' hl'; (try dsimp only)))
local macro_rules | `(tactic| walk_at "binaryOp Add str str") => `(tactic| (k_here; (refine addG (by omega) ?_); intro z' t' k' hz' hl'; (try dsimp only)))
local macro_rules | `(tactic| walk_at "mine use") => `(tactic| (refine' Says.use ?kS ?k1 ?k2 ?k3 ?k4 ?k5 ?k6 ?k7 ?k8 ?k9 ?k10 ?_; walk_at "mine says"))
local macro_rules | `(tactic| walk_at "mine came") => `(tactic| (intro v' tl' h' tk' hg' F' N' hn'; (first | (obtain ⟨ht', t', hv'⟩ := hg'; subst ht' hv') | (obtain ⟨ht', hv'⟩ := hg'; subst ht' hv')); (try dsimp only [List.nil_append] at N'); clear hn'; (try k_sweep)))
local macro_rules | `(tactic| walk_at "call ref") => `(tactic| (k_here; k_dflt (walk_at "mine use"); walk_at "mine came"))
local macro_rules | `(tactic| walk_at "mine whom") => `(tactic| exact told_all_says _ (by assumption) _)
def RowsHeap (h : Heap) (a : Addr) (rs : List Row) : Prop :=
  ∃ its, h.IsList a its ∧ its.size = rs.length ∧ ∀ (j : Nat) (r : Row), rs[j]? = some r → ∃ T td tm te, its[j]? = some (.ref T) ∧ IsTup h T #[.int r.dots td, .int r.mode tm, .str r.stop te]
def SentJ (often : Int) (rs : List Row) (i : Nat) (u : Str → Option Value) (nx : List (Addr × Obj)) : Prop :=
  nx = [] ∧ ∃ (s a : Str) (ts ta : Tok), u (Str.ofString "sent") = some (.str s ts) ∧ u (Str.ofString "ahead") = some (.str a ta) ∧ (rs.take i).foldl (sentStep often) (Str.ofString "", Str.ofString "") = (s, a) ∧ s.length ≤ 20 * i
local macro_rules | `(tactic| walk_at "mine get") => `(tactic| (k_dflt (exact ⟨_, rfl⟩)))
abbrev sentN : List Str := [Str.ofString "dots", Str.ofString "mode", Str.ofString "end", Str.ofString "sent", Str.ofString "ahead"]
theorem sent_turn {h₀ h' : Heap} {L I : Addr} {o : Obj} {m m' : Str → Option Value} {i : Nat} {rs : List Row} {r : Row} {often : Int} {s a s' : Str} {gg : Array GenState} {dd : Drawn} {tk : Nat} {oo : OsState}
    (F : Fr h₀ L h' m') (N : News h₀ L h' [(I, o)]) (ag : Agrees sentN m m') (hr : rs[i]? = some r) (hf : (rs.take i).foldl (sentStep often) (Str.ofString "", Str.ofString "") = (s, a)) (hs' : sentStep often (s, a) r = (s', r.stop)) (hl : s'.length ≤ 20 * (i + 1))
    (e1 : ∃ t, m' (Str.ofString "sent") = some (.str s' t)) (e2 : ∃ t, m' (Str.ofString "ahead") = some (.str r.stop t)) :
    TurnEnd h₀ L [(I, o)] [] (fun m' nx' => Agrees sentN m m' ∧ SentJ often rs (i + 1) m' nx') gg dd oo ⟨h', gg, dd, tk, oo⟩ := by
  refine turnEnd (nx := []) F N (fun p hp => nomatch hp) ⟨ag, rfl, s', r.stop, e1.choose, e2.choose, e1.choose_spec, e2.choose_spec, ?_, hl⟩
  rw [List.take_add_one, hr, List.foldl_append, hf]
  exact hs'
theorem sent_a {often : Int} {s a : Str} {r : Row} (h : 0 < r.dots) : sentStep often (s, a) r = (s ++ (Txt.mul (Str.ofString ".") (r.dots + often) ++ toldS r.mode ++ Str.ofString "\r\n"), r.stop) := by
  unfold sentStep; rw [if_pos h]
theorem sent_b {often : Int} {s a : Str} {r : Row} (h : ¬ 0 < r.dots) (hb : 0 ≤ r.mode ∨ a ≠ Str.ofString "\r" ∨ r.stop ≠ Str.ofString "\n") : sentStep often (s, a) r = (s ++ (toldS r.mode ++ Str.ofString "\r\n"), r.stop) := by
  unfold sentStep; rw [if_neg h, if_pos hb]
theorem sent_c {often : Int} {s a : Str} {r : Row} (h : ¬ 0 < r.dots) (h1 : ¬ 0 ≤ r.mode) (h2 : (a != Str.ofString "\r") = false) (h3 : (r.stop != Str.ofString "\n") = false) : sentStep often (s, a) r = (s, r.stop) := by
  unfold sentStep
  rw [if_neg h, if_neg]
  rintro (q | q | q)
  · exact h1 q
  · rw [bne_iff_ne.mpr q] at h2; cases h2
  · rw [bne_iff_ne.mpr q] at h3; cases h3
theorem sent_says {w mean mg mb} (a : Addr) (rs : List Row) (often : Int) (t : Tok) (ho : often = 1 ∨ often = 2) (hok : ∀ r ∈ rs, r.Ok) (hlen : rs.length ≤ 10) :
    SaysP 6 w mean mg mb 209 [.ref a, .int often t] (fun h => RowsHeap h a rs) (retS (sentF often rs)) := by
  unfold SaysP; k_fill
  intro dp un gd base envs h₀ gg dd tt oo R B X T hd hu hl hret
  obtain ⟨its, hli, hsz, hits⟩ := hl
  walk_at "mine enter"
  k_steps
  unfold Halt
  refine wpAny_For ?_ (by intro _; rfl)
  k_steps
  unfold Halt
  (with_reducible rename Fr _ _ _ _ => F'); (with_reducible rename News _ _ _ _ => N')
  refine for_listC (k := 0) (cst := []) (news := []) [Str.ofString "dots", Str.ofString "mode", Str.ofString "end", Str.ofString "sent", Str.ofString "ahead"] rfl ⟨_, F'.keep _ _ hli.choose_spec.1, hli.choose_spec.2⟩ (.inl ⟨_, hli.choose_spec.1⟩) F' N' (SentJ often rs) ⟨rfl, _, _, _, _, rfl, rfl, rfl, by decide +kernel⟩ ?step ?fin
  case step =>
    intro i v u nx h₁ tk₁ I o hi hv hJ hcst hnx F₁ N₁
    obtain ⟨rfl, s, a', ts, ta, e1, e2, hfold, hslen⟩ := hJ
    obtain ⟨r, hr⟩ : ∃ r, rs[i]? = some r := ⟨rs[i]'(by omega), List.getElem?_eq_getElem _⟩
    obtain ⟨Tr, td, tm, te, hT, hTup⟩ := hits i r hr
    obtain rfl : v = .ref Tr := Option.some.inj (hv.symm.trans hT)
    obtain ⟨d0, d2, hm, hs⟩ := hok r (List.mem_of_getElem? hr)
    have F₂ := frame_named _ F₁ (nm_cons (by decide) e1 (nm_cons (by decide) e2 nm_nil))
    clear F₁
    dsimp only [names] at F₂
    have hi' : i < 10 := by omega
    have htl := toldS_length (m := r.mode)
    have hcr : (Str.ofString "\r\n").length = 2 := by decide +kernel
    refine unpackN_ F₂ N₁ ⟨_, F₂.keep _ _ hTup.choose_spec.1, hTup.choose_spec.2⟩ rfl rfl rfl ?_
    intro h' F' N'
    k_steps
    all_goals ((with_reducible rename Fr _ _ _ _ => Fx); (with_reducible rename News _ _ _ _ => Nx))
    · subst_vars
      exact sent_turn Fx Nx (by walk_at "mine agrees") hr hfold (sent_a (by assumption)) (by omega) (by walk_at "mine get") (by walk_at "mine get")
    · subst_vars
      exact sent_turn Fx Nx (by walk_at "mine agrees") hr hfold (sent_b (by assumption) (.inl (by assumption))) (by omega) (by walk_at "mine get") (by walk_at "mine get")
    · subst_vars
      exact sent_turn Fx Nx (by walk_at "mine agrees") hr hfold (sent_b (by assumption) (.inr (.inl (bne_iff_ne.mp (by assumption))))) (by omega) (by walk_at "mine get") (by walk_at "mine get")
    · subst_vars
      exact sent_turn Fx Nx (by walk_at "mine agrees") hr hfold (sent_b (by assumption) (.inr (.inr (bne_iff_ne.mp (by assumption))))) (by omega) (by walk_at "mine get") (by walk_at "mine get")
    · exact sent_turn Fx Nx (by walk_at "mine agrees") hr hfold (sent_c (by assumption) (by assumption) (by assumption) (by assumption)) (by omega) (by walk_at "mine get") (by walk_at "mine get")
  case fin =>
    intro h' tk u nx F₁ N₁ hJ
    obtain ⟨rfl, s, a', ts, ta, e1, e2, hfold, hslen⟩ := hJ
    have F₂ := frame_named _ F₁ (nm_cons (by decide) e1 (nm_cons (by decide) e2 nm_nil))
    clear F₁
    dsimp only [names] at F₂
    k_steps
    dsimp only
    refine endS hret (by k_asm) ?_
    rw [hsz, List.take_of_length_le (Nat.le_refl _)] at hfold
    unfold sentF
    rw [hfold]
end Mine
end
theorem Mine.gapOcts : (if True then True else True) := by
  w_top off
  (try walk1)
  w_top off
  all_goals first | trivial | simp
/- part Octs -/
section
open PySem PySem.W PyProof.Rows PySem.Calls
set_option maxRecDepth 100000
set_option maxHeartbeats 2000000
namespace Mine
local macro_rules | `(tactic| walk_at "mine enter") => `(tactic| (
  k_dflt (refine' enter ?kX ?kT ?k6 ?k7 ?k8 ?k9 ?kB ?_ ?c2 ?c3 ?c4 ?c5; (case kX => k_asm); (case kT => k_asm); (case k6 => k_is); (case k7 => k_is); (case k8 => (dsimp only [around]; omega)); (case k9 => first | exact BindsTo.of_eq rfl | walk_at "mine binds"); (case kB => exact locs rfl); (case c2 => exact rfl); (case c3 => exact rfl); (case c4 => exact rfl); (case c5 => decide); k_whole); intro L' h' tk' F' N'; (try dsimp only); (try k_fold)))
/-- a mark: loops are walked, not stopped at -/
def Go : Prop := True
local macro_rules | `(tactic| walk_at "pyIter ref") => `(tactic| (k_here; (fail_if_success (with_reducible rename Go => hgo)); refine Halt.mk ?_))
local macro_rules | `(tactic| walk_at "exec For Name Name cons nil") => `(tactic| (k_here; (fail_if_success (with_reducible rename Go => hgo)); refine Halt.mk ?_))
local macro_rules | `(tactic| walk_at "exec For Name Call cons nil") => `(tactic| (k_here; refine Halt.mk ?_))
local macro_rules | `(tactic| walk_at "TurnPost") => `(tactic| (dsimp only [TurnPost]))
local macro_rules | `(tactic| walk_at "mine agrees") => `(tactic| (repeat (first | (with_reducible refine Agrees.store (by decide) ?_) | (with_reducible refine Agrees.storeU (by decide) ?_) | (with_reducible exact Agrees.base) | refine Agrees.store (by decide) ?_ | exact Agrees.base | exact Agrees.refl | refine Agrees.over (by decide) ?_)))
def octL : List Int → List Int
  | a :: b :: c :: d :: r => (((a * 64 + b) * 64 + c) * 64 + d) / 65536 % 256 :: (((a * 64 + b) * 64 + c) * 64 + d) / 256 % 256 :: (((a * 64 + b) * 64 + c) * 64 + d) % 256 :: octL r
  | [a, b, c] => [((a * 64 + b) * 64 + c) / 4 / 256 % 256, ((a * 64 + b) * 64 + c) / 4 % 256]
  | [a, b] => [(a * 64 + b) / 16 % 256]
  | _ => []
def OctJ (D : Addr) (ns : List Int) (i : Nat) (_ : Str → Option Value) (nx : List (Addr × Obj)) : Prop :=
  ∃ (vs' : List Value) (o : List Int) (n : Nat), nx = [(D, W.listOf vs'.toArray n)] ∧ IntsAre vs' o ∧ o ++ octL (ns.drop (4 * i)) = octL ns ∧ o.length ≤ 3 * i ∧ KBa.In o
theorem size4 (n : Nat) : Builtin.Range.rangeSize 0 (n : Int) 4 = (((n + 3) / 4 : Nat) : Int) := by
  unfold Builtin.Range.rangeSize
  rw [if_pos (by decide)]
  by_cases h : (0 : Int) < n
  · rw [if_pos h]; omega
  · rw [if_neg h]; omega
theorem small4 (n : Nat) (h : n ≤ 1000) : Builtin.Range.small 0 (n : Int) 4 = true := by
  unfold Builtin.Range.small
  rw [size4]
  have key : ∀ z : Int, 0 ≤ z → z ≤ 2000 → Builtin.Range.rangeFitsLong z = true := fun z z0 z1 => by
    unfold Builtin.Range.rangeFitsLong
    simp; omega
  simp only [key 0 (by decide) (by decide), key n (by omega) (by omega), key 4 (by decide) (by decide), key (((n + 3) / 4 : Nat) : Int) (by omega) (by omega), Bool.true_and]
  rw [if_pos (by decide), key _ (by omega) (by omega), Bool.or_true]
local macro_rules | `(tactic| walk_at "call builtin:list.append") => `(tactic| (k_here; k_dflt (refine' append_K ?k1 ?k2 ?k3 ?_ ?z; (case k1 => k_asm); (case k2 => k_asm); (case k3 => k_upd); (case z => ((try simp only [Array.size_push]); omega)); k_whole); intro h' F' N'; (try k_sweep)))
theorem oct_turn {h₀ h' : Heap} {L D I : Addr} {o : Obj} {m m' : Str → Option Value} {news : List (Addr × Obj)} {its : Array Value} {vs' : List Value} {os : List Int} {n i : Nat} {ns : List Int} {gg : Array GenState} {dd : Drawn} {tk : Nat} {oo : OsState} {st : List Str}
    (F : Fr h₀ L h' m') (N : News h₀ L h' news) (h1 : (I, o) ∈ news) (h2 : (D, W.listOf its n) ∈ news) (hne : D ≠ I) (ag : Agrees st m m') (hits : its = vs'.toArray) (hvs : IntsAre vs' os) (e : os ++ octL (ns.drop (4 * (i + 1))) = octL ns) (hl : os.length ≤ 3 * (i + 1)) (hin : KBa.In os) :
    TurnEnd h₀ L [(I, o)] [] (fun m' nx' => Agrees st m m' ∧ OctJ D ns (i + 1) m' nx') gg dd oo ⟨h', gg, dd, tk, oo⟩ :=
  turnEnd (nx := [(D, W.listOf its n)]) F (fun p hp => by
    rcases List.mem_cons.mp hp with rfl | hp
    · exact N _ h1
    · rw [List.mem_singleton.mp hp]; exact N _ h2) (fun p hp q hq => by rw [List.mem_singleton.mp hp, List.mem_singleton.mp hq]; exact hne)
    ⟨ag, vs', os, n, by rw [hits], hvs, e, hl, hin⟩
theorem ints_snoc' : ∀ {vs : List Value} {ns : List Int} {x : Int} {t : Tok}, IntsAre vs ns → IntsAre (vs ++ [.int x t]) (ns ++ [x])
  | _, _, _, _, .nil => .cons _ _ .nil
  | _, _, _, _, .cons _ _ r => .cons _ _ (ints_snoc' r)
def oc (fs : List Int) (k j : Int) : Int := ((((List.foldl (fun a' => HAdd.hAdd (a' * 64)) 0 fs).fdiv (4 ^ ((4 : Int) - k).toNat)).fdiv (256 ^ (k - 2 - (0 + j)).toNat)).fmod 256)
theorem oc_eq {fs : List Int} {k j V P Q : Int} (hV : List.foldl (fun a' => HAdd.hAdd (a' * 64)) 0 fs = V) (hP : (4 : Int) ^ ((4 : Int) - k).toNat = P) (hQ : (256 : Int) ^ (k - 2 - (0 + j)).toNat = Q) (p0 : 0 ≤ P) (q0 : 0 ≤ Q) : oc fs k j = V / P / Q % 256 := by
  unfold oc
  rw [hV, hP, hQ, Int.fdiv_eq_ediv_of_nonneg _ p0, Int.fdiv_eq_ediv_of_nonneg _ q0, Int.fmod_eq_emod_of_nonneg _ (by decide)]
theorem fold4 (a b c d : Int) : List.foldl (fun a' => HAdd.hAdd (a' * 64)) 0 [a, b, c, d] = ((a * 64 + b) * 64 + c) * 64 + d := by simp [List.foldl]
theorem fold3 (a b c : Int) : List.foldl (fun a' => HAdd.hAdd (a' * 64)) 0 [a, b, c] = (a * 64 + b) * 64 + c := by simp [List.foldl]
theorem fold2 (a b : Int) : List.foldl (fun a' => HAdd.hAdd (a' * 64)) 0 [a, b] = a * 64 + b := by simp [List.foldl]
theorem oct_eq4 (os : List Int) (a b c d : Int) (r : List Int) : os ++ [oc [a, b, c, d] 4 ((0 : Nat) : Int)] ++ [oc [a, b, c, d] 4 ((1 : Nat) : Int)] ++ [oc [a, b, c, d] 4 ((2 : Nat) : Int)] ++ octL r = os ++ octL (a :: b :: c :: d :: r) := by
  rw [oc_eq (P := 1) (Q := 65536) (fold4 a b c d) (by decide) (by decide) (by decide) (by decide), oc_eq (P := 1) (Q := 256) (fold4 a b c d) (by decide) (by decide) (by decide) (by decide), oc_eq (P := 1) (Q := 1) (fold4 a b c d) (by decide) (by decide) (by decide) (by decide)]
  simp [octL]
theorem oct_eq3 (os : List Int) (a b c : Int) : os ++ [oc [a, b, c] 3 ((0 : Nat) : Int)] ++ [oc [a, b, c] 3 ((1 : Nat) : Int)] ++ octL [] = os ++ octL [a, b, c] := by
  rw [oc_eq (P := 4) (Q := 256) (fold3 a b c) (by decide) (by decide) (by decide) (by decide), oc_eq (P := 4) (Q := 1) (fold3 a b c) (by decide) (by decide) (by decide) (by decide)]
  simp [octL]
theorem oct_eq2 (os : List Int) (a b : Int) : os ++ [oc [a, b] 2 ((0 : Nat) : Int)] ++ octL [] = os ++ octL [a, b] := by
  rw [oc_eq (P := 16) (Q := 1) (fold2 a b) (by decide) (by decide) (by decide) (by decide)]
  simp [octL]
theorem in_snoc {os : List Int} {x : Int} (h : KBa.In os) : KBa.In (os ++ [x.fmod 256]) := fun z hz => by
  rcases List.mem_append.mp hz with hz | hz
  · exact h z hz
  · rw [List.mem_singleton.mp hz]; exact ⟨Int.fmod_nonneg_of_pos _ (by decide), Int.fmod_lt_of_pos _ (by decide)⟩
theorem powG4 {prog : Program} {w : World} {A : Around} {E : Value → Shared → Prop} {s : Shared} {b e : Int} {t u : Tok} {Q : Value → Shared → Prop} (h0 : 0 ≤ e) (h1 : e ≤ 3) (hb : b = 4 ∨ b = 256)
    (h : ∀ p t' k', p = b ^ e.toNat → 1 ≤ p → p ≤ 16777216 → Q (.int p t') { s with toks := k' }) : wpAny (model prog w) A (binaryOp .Pow (.int b t) (.int e u)) Q E s := by
  have he : e = 0 ∨ e = 1 ∨ e = 2 ∨ e = 3 := by omega
  have hp : 1 ≤ b ^ e.toNat ∧ b ^ e.toNat ≤ 16777216 := by
    rcases hb with rfl | rfl <;> rcases he with rfl | rfl | rfl | rfl <;> decide
  rcases hb with rfl | rfl <;> exact pow_int_small (by omega) (by omega) (by decide) (h _ _ _ rfl hp.1 hp.2)
local macro_rules | `(tactic| walk_at "binaryOp Pow int int") => `(tactic| (k_here; (refine powG4 (by omega) (by omega) (by first | exact .inl rfl | exact .inr rfl) ?_); intro p' t' k' hp' hp1' hp2'; (try dsimp only)))
/-- the octets of a piece -/
def ocs (fs : List Int) (j : Nat) : List Int := (List.range j).map fun x : Nat => oc fs (fs.length : Int) (x : Int)
theorem ocs_succ (fs : List Int) (j : Nat) : ocs fs (j + 1) = ocs fs j ++ [oc fs (fs.length : Int) (j : Int)] := by
  unfold ocs; rw [List.range_succ, List.map_append]; rfl
theorem ocs_all {os fs r : List Int} (h1 : 1 ≤ fs.length) (h4 : fs.length ≤ 4) (hr : fs.length < 4 → r = []) : os ++ ocs fs (fs.length - 1) ++ octL r = os ++ octL (fs ++ r) := by
  match fs, h1, h4, hr with
  | [a], _, _, hr => rw [hr (by simp)]; simp [ocs, octL]
  | [a, b], _, _, hr => rw [hr (by simp), List.append_nil]; exact oct_eq2 os a b
  | [a, b, c], _, _, hr =>
    rw [hr (by simp), List.append_nil]
    have := oct_eq3 os a b c
    rw [List.append_assoc os] at this
    exact this
  | [a, b, c, d], _, _, _ =>
    have := oct_eq4 os a b c d r
    rw [List.append_assoc os, List.append_assoc os] at this
    exact this
  | a :: b :: c :: d :: e :: r, _, h4, _ => simp at h4
theorem piece_of {ns : List Int} {i : Nat} {ws : List Value} (hi : i < (ns.length + 3) / 4) (h : IntsAre ws (List.take (min (0 + (i : Int) * 4 + 4).toNat ns.length - (0 + (i : Int) * 4).toNat) (List.drop (0 + (i : Int) * 4).toNat ns))) :
    ∃ fs, IntsAre ws fs ∧ 1 ≤ fs.length ∧ fs.length ≤ 4 ∧ ns.drop (4 * i) = fs ++ ns.drop (4 * (i + 1)) ∧ (fs.length < 4 → ns.drop (4 * (i + 1)) = []) := by
  have e0 : (0 + (i : Int) * 4).toNat = 4 * i := by omega
  have e1 : (0 + (i : Int) * 4 + 4).toNat = 4 * i + 4 := by omega
  have hl : (ns.drop (4 * i)).length = ns.length - 4 * i := List.length_drop
  have e2 : min (4 * i + 4) ns.length - 4 * i = min 4 (ns.length - 4 * i) := by omega
  rw [e0, e1, e2, ← hl, ← List.take_eq_take_min] at h
  have hf : ((ns.drop (4 * i)).take 4).length = min 4 (ns.length - 4 * i) := by rw [List.length_take, hl]
  refine ⟨_, h, by omega, by omega, ?_, fun q => List.drop_of_length_le (by omega)⟩
  have ed : 4 * (i + 1) = 4 * i + 4 := by omega
  rw [ed, ← List.drop_drop, List.take_append_drop]
def PieceJ (D : Addr) (os fs : List Int) (j : Nat) (_ : Str → Option Value) (nx : List (Addr × Obj)) : Prop :=
  ∃ (vs' : List Value) (n : Nat), nx = [(D, W.listOf vs'.toArray n)] ∧ IntsAre vs' (os ++ ocs fs j)
theorem piece_turn {h₀ h' : Heap} {L D I : Addr} {o : Obj} {c1 c2 : Addr × Obj} {m m' : Str → Option Value} {its : Array Value} {vs' : List Value} {os fs : List Int} {n j : Nat} {gg : Array GenState} {dd : Drawn} {tk : Nat} {oo : OsState} {st : List Str}
    (F : Fr h₀ L h' m') (N : News h₀ L h' [(I, o), c1, c2, (D, W.listOf its n)]) (hne : D ≠ I) (ag : Agrees st m m') (hits : its = vs'.toArray) (hvs : IntsAre vs' (os ++ ocs fs (j + 1))) :
    TurnEnd h₀ L [(I, o)] [c1, c2] (fun m' nx' => Agrees st m m' ∧ PieceJ D os fs (j + 1) m' nx') gg dd oo ⟨h', gg, dd, tk, oo⟩ :=
  turnEnd (own := [(I, o)]) (cst := [c1, c2]) (nx := [(D, W.listOf its n)]) F N (fun p hp q hq => by rw [List.mem_singleton.mp hp, List.mem_singleton.mp hq]; exact hne)
    ⟨ag, vs', n, by rw [hits], hvs⟩
theorem ocs_length (fs : List Int) (j : Nat) : (ocs fs j).length = j := by unfold ocs; simp
theorem in_ocs {os fs : List Int} (h : KBa.In os) : ∀ j, KBa.In (os ++ ocs fs j)
  | 0 => by show KBa.In (os ++ []); rw [List.append_nil]; exact h
  | j + 1 => by rw [ocs_succ, ← List.append_assoc]; exact in_snoc (in_ocs h j)
theorem one_range {n : Nat} (h : n ≤ 10) : Builtin.Range.rangeSize 0 (n : Int) 1 = (n : Int) := by
  unfold Builtin.Range.rangeSize
  rw [if_pos (by decide)]
  by_cases h : (0 : Int) < n
  · rw [if_pos h]; omega
  · rw [if_neg h]; omega
theorem one_small {n : Nat} (h : n ≤ 10) : Builtin.Range.small 0 (n : Int) 1 = true := by
  unfold Builtin.Range.small
  rw [one_range h]
  have key : ∀ z : Int, 0 ≤ z → z ≤ 2000 → Builtin.Range.rangeFitsLong z = true := fun z z0 z1 => by
    unfold Builtin.Range.rangeFitsLong
    simp; omega
  simp only [key 0 (by decide) (by decide), key n (by omega) (by omega), key 1 (by decide) (by decide), Bool.true_and]
  rw [if_pos (by decide), key _ (by omega) (by omega), Bool.or_true]
theorem octets_says {w mean mg mb} (a : Addr) (vs : List Value) (ns : List Int) (hvs : IntsAre vs ns) (hns : ∀ n ∈ ns, 0 ≤ n ∧ n < 64) (hlen : ns.length ≤ 1000) :
    SaysP 3 w mean mg mb 223 [.ref a] (fun h => h.IsList a vs.toArray) (retY (byteArr (octL ns))) := by
  unfold SaysP; k_fill
  intro dp un gd base envs h₀ gg dd tt oo R B X T hd hu hl hret
  walk_at "mine enter"
  k_steps
  unfold Halt
  refine wpAny_For ?_ (by intro _; rfl)
  k_steps
  unfold Halt
  rename_i hr F' N' _
  have hvl : vs.toArray.size = ns.length := by rw [List.size_toArray, hvs.length]
  refine for_rangeC (cst := []) (news := [_]) [Str.ofString "start", Str.ofString "four", Str.ofString "value", Str.ofString "figure", Str.ofString "k"] rfl hr (small4 _ hlen) (size4 _) F' N'
    (OctJ _ ns) ⟨[], [], 0, rfl, .nil, rfl, Nat.le_refl _, fun x hx => nomatch hx⟩ ?step ?fin
  case step =>
    intro i t u nx h₁ tk₁ I o hi hJ hcst hnx F₁ N₁
    obtain ⟨vs', os, n, rfl, hvs', hos, hol, hin⟩ := hJ
    k_steps
    unfold Halt
    rename_i hI _ _ l1 _ _ F' N'
    simp only [List.nil_append, AllLt, and_true] at l1
    simp only [List.nil_append] at N'
    obtain ⟨fs, hI2, hf1, hf4, hfd, hfr⟩ := piece_of hi hI
    clear hI
    have hgo : Go := trivial
    have hne := neN (hnx _ (.head _)); dsimp only at hne
    have h9 : (5000 : Nat) ≤ sizeLine := by decide
    have hwl := hI2.length
    k_steps
    unfold Halt
    clear hgo
    refine wpAny_For ?_ (by intro _; rfl)
    k_steps
    unfold Halt
    (with_reducible rename IsRange _ _ _ _ _ _ _ _ => hr2)
    (with_reducible rename Fr _ _ _ _ => F₃)
    (with_reducible rename News _ _ _ _ => N₃)
    have eb : ((fs.length : Int) - 1) = ((fs.length - 1 : Nat) : Int) := by omega
    rw [eb] at hr2
    refine for_rangeC (cst := [(_, W.listOf _ 0), (I, o)]) (news := [_]) [Str.ofString "k"] rfl hr2 (one_small (by omega)) (one_range (by omega)) F₃ N₃ (PieceJ _ os fs)
      ⟨vs', n, rfl, by show IntsAre vs' (os ++ []); rw [List.append_nil]; exact hvs'⟩ ?step2 ?fin2
    case step2 =>
      intro j t2 u2 nx2 h₂ tk₂ I2 o2 hj hJ2 hcst2 hnx2 F₄ N₄
      obtain ⟨vs2, n2, rfl, hvs2⟩ := hJ2
      dsimp only [List.cons_append, List.nil_append] at N₄
      have hne2 := neN (hnx2 _ (.head _)); dsimp only at hne2
      have hsz : vs2.toArray.size + 10 ≤ sizeLine := by rw [List.size_toArray, hvs2.length, List.length_append, ocs_length]; omega
      k_steps
      (with_reducible rename Fr _ _ _ _ => Fx)
      (with_reducible rename News _ _ _ _ => Nx)
      refine piece_turn Fx Nx (hnx2 _ (.head _)) (by walk_at "mine agrees") (by rw [List.push_toArray]) ?_
      rw [ocs_succ, ← List.append_assoc]
      have ex : ∀ x : Int, 0 + x * 1 = 0 + x := fun x => by omega
      subst_vars
      rw [ex]
      exact ints_snoc' hvs2
    case fin2 =>
      intro h2 tk2 u2 nx2 F₄ N₄ hJ2
      obtain ⟨vs2, n2, rfl, hvs2⟩ := hJ2
      dsimp only [List.cons_append, List.nil_append] at N₄
      k_steps
      (with_reducible rename Fr _ _ _ _ => Fx)
      (with_reducible rename News _ _ _ _ => Nx)
      refine oct_turn Fx Nx (by k_mem) (by k_mem) (hnx _ (.head _)) (by walk_at "mine agrees") rfl hvs2 ?eP ?lP ?iP
      case eP => (rw [← hos, hfd]; exact ocs_all hf1 hf4 hfr)
      case lP => (rw [List.length_append, ocs_length]; omega)
      case iP => exact in_ocs hin _
  case fin =>
    intro h' tk u nx F₁ N₁ hJ
    obtain ⟨vs', os, n, rfl, hvs', hos, hol, hin⟩ := hJ
    have hlen' : os.length ≤ 16777216 := by omega
    k_steps
    have hdn : ns.drop (4 * ((ns.length + 3) / 4)) = [] := List.drop_of_length_le (by omega)
    rw [hdn] at hos
    have e : octL ns = os := by rw [← hos]; simp only [octL, List.append_nil]
    exact hret _ [] _ _ ⟨rfl, _, by rw [e]⟩ (left_of (by k_asm))
end Mine
end
/- part RaiseX -/
section
open PySem PySem.W PyProof.Rows PySem.Calls
set_option maxRecDepth 100000
set_option maxHeartbeats 2000000
namespace Mine
/-- a call that comes back by Good, or, if Bad, raises an Error of the text -/
def SaysX (n : Nat) (w : World) (mean : ExcName → Option Value) (mg mb : Str → Option Value) (f : Addr) (args : Args) (Good : Value → List (Addr × Obj) → Prop) (Bad : Prop) : Prop :=
  ∀ (dp un : Nat) (gd : Option (List Code)) (base : Heap) (envs : List Env) (h₀ : Heap) (gg : Array GenState) (dd : Drawn) (tt : Nat) (oo : OsState) (R : Result → Shared → Prop),
    Below (around dp un gd envs) base envs h₀ → (Mine.hd.heap_39 w.params).In h₀ → Top Mine.hd.view_39 LL mean mg mb h₀ → dp + n < recursionLimit → un + 50 * n < cLine →
    (∀ v tl h' tk', Good v tl → Left h₀ h' tl → R (.ok (.ret v)) ⟨h', gg, dd, tk', oo⟩) →
    (∀ e t vs nw h' tk', Bad → RaisedS base h₀ envs e (.ref 56) t vs nw h' → h₀.UpToSlots h' → R (.error (.ref e)) ⟨h', gg, dd, tk', oo⟩) →
    codeAny (model PySem.Challenge.rw_oy0093_01.row.prog w) (around dp un gd envs) (.call (.ref f) args) R ⟨h₀, gg, dd, tt, oo⟩
theorem SaysX.use {n : Nat} {w : World} {mean : ExcName → Option Value} {mg mb : Str → Option Value} {f : Addr} {pos : List Value} {kw : List (Str × Value)} {Good : Value → List (Addr × Obj) → Prop} {Bad : Prop} (S : SaysX n w mean mg mb f ⟨pos, kw⟩ Good Bad)
    {A : Around} {base h₀ h : Heap} {outer : List Env} {env : Env} {L : Addr} {m : Str → Option Value} {news : List (Addr × Obj)} {gg : Array GenState} {dd : Drawn} {tt : Nat} {oo : OsState} {Q E : Value → Shared → Prop}
    (B : Below A base outer h₀) (F : Fr h₀ L h m) (X : (Mine.hd.heap_39 w.params).In h₀) (N : News h₀ L h news) (T : Top Mine.hd.view_39 LL mean mg mb h₀)
    (hf : env.frame = some L) (hk : env.scope.kind = .function) (hh : A.handled = none) (hd : A.depth + 1 + n < recursionLimit) (hu : A.units + 3 + 50 * n < cLine)
    (ret : ∀ v tl h' tk', Good v tl → Fr h₀ L h' m → News h₀ L h' (tl ++ news) → (∀ p ∈ news, ∀ q ∈ tl, q.1 ≠ p.1) → Q v ⟨h', gg, dd, tk', oo⟩)
    (bad : ∀ e t vs nw h' tk', Bad → RaisedS base h (env :: outer) e (.ref 56) t vs nw h' → h.UpToSlots h' → E (.ref e) ⟨h', gg, dd, tk', oo⟩) :
    wpAny (model PySem.Challenge.rw_oy0093_01.row.prog w) (A.deeper env) (call (.ref f) pos kw) Q E ⟨h, gg, dd, tt, oo⟩ :=
  have e : A.deeper env = around (A.depth + 1) (A.units + 3) A.guards (env :: outer) := by
    have st := B.stack
    obtain ⟨a1, a2, a3, a4, a5⟩ := A
    simp only at hh st
    subst hh st
    rfl
  e ▸ wpAny_call (S (A.depth + 1) (A.units + 3) A.guards base (env :: outer) h gg dd tt oo _ (below_push B F rfl hf hk) (X.keeps F.keep) (T.keeps F.keep) hd hu (fun v tl h' tk' g K =>
    ret v tl h' tk' g (left_news F N K).1 (left_news F N K).2 fun p hp q hq e => by
      have a := (N p hp).1
      have b := (K.2 q hq).2
      rw [e, a] at b; cases b) bad)
end Mine
end
/- part Enc -/
section
open PySem PySem.Builtin PySem.Builtin.Str
set_option maxRecDepth 100000
namespace Mine

def ascii (x : Str) : Prop := ∀ c ∈ x.cps.toList, c < 128
def octs (x : Str) : Array UInt8 := x.cps.map (·.toUInt8)

theorem fold_octs (l : List Nat) (acc : Array UInt8) : l.foldl (fun acc y => acc ++ ((_codecs.asciiCodec.bytesOf y).toArray)) acc = acc ++ (l.map (·.toUInt8)).toArray := by
  induction l generalizing acc with
  | nil => simp
  | cons c l ih =>
    rw [List.foldl_cons, ih]
    show acc ++ #[c.toUInt8] ++ _ = _
    apply Array.ext'
    simp
theorem two_turns {β : Type} (F : Nat → β → Sem (ForInStep β)) (b0 b1 : β) (n : Nat) (h1 : n > 0 → ∀ i, F i b0 = pure (.yield b1)) (h2 : ∀ i, F i b1 = pure (.done b1)) (h0 : n = 0 → b0 = b1) : (forIn (List.range' 0 n) b0 F : Sem β) = pure b1 := by
  match n, h1, h0 with
  | 0, _, h0 => rw [h0 rfl]; rfl
  | 1, h1, _ =>
    show (forIn [0] b0 F : Sem β) = _
    rw [List.forIn_cons, h1 (by omega)]; rfl
  | n + 2, h1, _ =>
    show (forIn (0 :: 1 :: List.range' 2 n) b0 F : Sem β) = _
    rw [List.forIn_cons, h1 (by omega)]
    show (forIn (1 :: List.range' 2 n) b1 F : Sem β) = _
    rw [List.forIn_cons, h2]; rfl
theorem narrow_eq {id : String} {self : Value} {x : Str} (h : ascii x) (hx : x.cps.size ≤ sizeLine) : _codecs.encodeNarrow id _codecs.asciiCodec none self x = pure (octs x) := by
  unfold _codecs.encodeNarrow
  simp only [Std.Legacy.Range.forIn_eq_forIn_range', Std.Legacy.Range.size]
  have hbad : ∀ c ∈ x.cps.toList, _codecs.asciiCodec.bad c = false := fun c hc => by
    have := h c hc
    show decide (c ≥ 128) = false
    simp; omega
  have hfind : Array.findIdx? _codecs.asciiCodec.bad x.cps = none := by
    rw [Array.findIdx?_eq_none_iff]
    intro c hc
    exact hbad c (Array.mem_toList_iff.mpr hc)
  refine (congrArg (· >>= _) (two_turns _ _ (x.cps.size, octs x, ({} : _codecs.Faults)) _ ?a ?b ?c)).trans ?d
  case d => rfl
  case a =>
    intro hn i
    have hpos : 0 < x.cps.size := by
      have : x.length = x.cps.size := rfl
      simp only [Nat.div_one] at hn
      omega
    show (if (#[] : Array UInt8).size > sizeLine then _ else _) = _
    rw [if_neg (by simp)]
    dsimp only
    rw [Array.getElem?_eq_getElem hpos]
    dsimp only
    rw [hbad _ (Array.mem_toList_iff.mpr (Array.getElem_mem hpos))]
    simp only [Bool.not_false, if_true]
    have e1 : x.cps.extract 0 = x.cps := by simp
    show pure (ForInStep.yield (0 + (Array.findIdx? _codecs.asciiCodec.bad (x.cps.extract 0)).getD (x.cps.extract 0).size, Array.foldl (fun acc y => acc ++ (_codecs.asciiCodec.bytesOf y).toArray) #[] ((x.cps.extract 0).extract 0 ((Array.findIdx? _codecs.asciiCodec.bad (x.cps.extract 0)).getD (x.cps.extract 0).size)), _)) = _
    rw [e1, hfind]
    show pure (ForInStep.yield (0 + x.cps.size, Array.foldl (fun acc y => acc ++ (_codecs.asciiCodec.bytesOf y).toArray) #[] (x.cps.extract 0 x.cps.size), _)) = _
    rw [e1, Nat.zero_add, ← Array.foldl_toList, fold_octs]
    have e2 : #[] ++ (List.map (fun x : Nat => x.toUInt8) x.cps.toList).toArray = octs x := by
      apply Array.ext'
      simp [octs]
    rw [e2]
  case b =>
    intro i
    show (if (octs x).size > sizeLine then _ else _) = _
    rw [if_neg (by simp [octs]; omega)]
    dsimp only
    rw [Array.getElem?_eq_none (Nat.le_refl _)]
  case c =>
    intro hn
    have : x.cps.size = 0 := by
      have : x.length = x.cps.size := rfl
      simp only [Nat.div_one] at hn
      omega
    have e : x.cps = #[] := Array.eq_empty_of_size_eq_zero this
    simp [octs, e]

section
variable {prog : Program} {w : World} {M : Model} {A : Around} {E : Value → Shared → Prop} {s : Shared} {x : Str} {t u : Tok}
theorem encode_method {pl : Sem Bool} {Q : Value × List Value → Shared → Prop} (h : Q (.builtin "str.encode", [.str x t]) s) : wpAny M A (getMethod (.str x t) (Str.ofString "encode") pl) Q E s :=
  getMethod_builtin (typeIs_str _ _ _) F.plainAttrs_str F.slot_str_encode F.type_str_encode (fun _ e => nomatch e) h
theorem encode_call {Q : Value → Shared → Prop} (ha : ascii x) (hx : x.cps.size ≤ sizeLine) (h : ∀ t' k', Q (.bytes (octs x) t') { s with toks := k' }) :
    wpAny (model prog w) A (call (.builtin "str.encode") [.str x t, .str (Str.ofString "ascii") u]) Q E s := by
  refine wpAny_call_entry F.slot_str_encode (typeIs_str _ _ _) F.entry_str_encode ?_ (F.args_str_encode_2 _ _)
  show wpAny _ _ (bindOptional "str.encode" "encode" 0 ["encoding", "errors"] [.str (Str.ofString "ascii") u] [] >>= fun l => _) _ _ s
  refine wpAny_bind (wpAny_of_eq (a := [some (.str (Str.ofString "ascii") u), none]) (by kernel_rfl) ?_)
  show wpAny _ _ (codecArg "str.encode" "encode" "'encoding'" (some (.str (Str.ofString "ascii") u)) >>= fun l => _) _ _ s
  refine wpAny_bind (wpAny_of_eq (a := some (Str.ofString "ascii")) (by kernel_rfl) ?_)
  show wpAny _ _ (_codecs.encodeRoad "str.encode" (.str x t) x (Str.ofString "ascii") none >>= fun v => ret v) _ _ s
  have e : _codecs.encodeRoad "str.encode" (.str x t) x (Str.ofString "ascii") none = (_codecs.encodeNarrow "str.encode" _codecs.asciiCodec none (.str x t) x >>= fun b => mkBytes b) := by kernel_rfl
  rw [e, narrow_eq ha hx]
  refine wpAny_bind (wpAny_bind (wpAny_pure ?_))
  exact wpAny_mkBytes (wpAny_pure ⟨_, rfl, h _ _⟩) (by show (x.cps.map _).size ≤ sizeLine; rw [Array.size_map]; exact hx)
end
end Mine
end
theorem Mine.gapDec1 : (if True then True else True) := by
  w_top off
  (try walk1)
  w_top off
  all_goals first | trivial | simp
/- part Dec1 -/
section
open PySem PySem.W PyProof.Rows PySem.Calls
set_option maxRecDepth 100000
set_option maxHeartbeats 2000000
namespace Mine
local macro_rules | `(tactic| walk_at "mine enter") => `(tactic| (
  k_dflt (refine' enter ?kX ?kT ?k6 ?k7 ?k8 ?k9 ?kB ?_ ?c2 ?c3 ?c4 ?c5; (case kX => k_asm); (case kT => k_asm); (case k6 => k_is); (case k7 => k_is); (case k8 => (dsimp only [around]; omega)); (case k9 => first | exact BindsTo.of_eq rfl | walk_at "mine binds"); (case kB => exact locs rfl); (case c2 => exact rfl); (case c3 => exact rfl); (case c4 => exact rfl); (case c5 => decide); k_whole); intro L' h' tk' F' N'; (try dsimp only); (try k_fold)))
theorem call_type_bytes {prog : Program} {w : World} {A : Around} {E : Value → Shared → Prop} {s : Shared} {b : Array UInt8} {t : Tok} {Q : Value → Shared → Prop} (hq : Q (.type "bytes") s) :
    wpAny (model prog w) A (call (.type "type") [.bytes b t]) Q E s := by
  refine wpAny_call (codeAny_of_tree ?_)
  show wpAny _ _ (callAny (.type "type") ⟨[.bytes b t], []⟩) _ _ _
  simp only [callAny]
  refine wpAny_pure ⟨Code.quiet_builtin _ (by decide +kernel), codeAny_builtin entry_type_call ?_⟩
  exact wpAny_pure hq
local macro_rules | `(tactic| walk_at "call type:type") => `(tactic| (k_here; (with_reducible show wpAny _ _ (call (Value.type "type") [Value.bytes _ _]) _ _ _); (refine call_type_bytes ?_)))
local macro_rules | `(tactic| walk_at "getMethod str") => `(tactic| (k_here; (with_reducible show wpAny _ _ (getMethod (Value.str _ _) (Str.ofString "encode") _) _ _ _); (refine encode_method ?_)))
local macro_rules | `(tactic| walk_at "call builtin:str.encode") => `(tactic| (k_here; (refine encode_call (by assumption) (by assumption) ?_); intro t' k'))

theorem ascii_buffer_says {w mean mg mb} (c : Array UInt8) (t : Tok) : Says 1 w mean mg mb 66 [.bytes c t] (retY c) := by
  unfold Says; k_fill
  intro dp un gd base envs h₀ gg dd tt oo R B X T hd hu hret
  walk_at "mine enter"
  k_steps
  all_goals (refine endY hret (by k_asm) ?_)
  all_goals rfl
theorem bytes_from_bytes_says {w mean mg mb} (c : Array UInt8) (t : Tok) : Says 1 w mean mg mb 46 [.bytes c t] (retY c) := by
  unfold Says; k_fill
  intro dp un gd base envs h₀ gg dd tt oo R B X T hd hu hret
  walk_at "mine enter"
  k_steps
  all_goals (refine endY hret (by k_asm) ?_)
  all_goals rfl
theorem bytes_from_str_says {w mean mg mb} (c : Str) (t : Tok) (ha : ascii c) (hx : c.cps.size ≤ sizeLine) : Says 1 w mean mg mb 46 [.str c t] (retY (octs c)) := by
  unfold Says; k_fill
  intro dp un gd base envs h₀ gg dd tt oo R B X T hd hu hret
  walk_at "mine enter"
  k_steps
  all_goals (refine endY hret (by k_asm) ?_)
  all_goals rfl
end Mine
end
/- part Pct -/
section
open PySem PySem.W PyProof.Rows PySem.Calls
set_option maxRecDepth 100000
set_option maxHeartbeats 2000000
namespace Mine
/-- the words of one error: some text -/
theorem pct_text {prog : Program} {w : World} {A : Around} {E : Value → Shared → Prop} {s : Shared} {t u : Tok} {n : Int} {Q : Value → Shared → Prop} (h0 : 0 ≤ n) (h1 : n < 10 ^ 10) (h : ∀ T t' k', Q (.str T t') { s with toks := k' }) :
    wpAny (model prog w) A (binaryOp .Mod (.str (Str.ofString "Invalid base64-encoded string: number of data characters (%d) cannot be 1 more than a multiple of 4") t) (.int n u)) Q E s := by
  refine' KPc.mod_int ?kpcF ?kpcl ?kpch ?kpcm ?_
  case kpcF => kpc_eq
  case kpcl => exact h0
  case kpch => exact h1
  case kpcm => k_dflt kpc_run
  intro _ _
  exact h _ _ _
end Mine
end
/- part A2bF -/
section
open PySem PySem.W PyProof.Rows
set_option maxRecDepth 100000
namespace Mine.B
/-- the state of a2b_base64's loop -/
structure St where
  q : Int
  l : Int
  p : Int
  i : Int
  o : List Int
inductive Turn
  | next (s : St)
  | stop (s : St)
  | bad
def put (q l : Int) (v : Int) (o : List Int) (i : Int) : St :=
  if q = 0 then ⟨1, v, 0, i, o⟩ else if q = 1 then ⟨2, v % 16, 0, i, o ++ [l * 4 + v / 16]⟩ else if q = 2 then ⟨3, v % 4, 0, i, o ++ [l * 16 + v / 4]⟩ else ⟨0, 0, 0, i, o ++ [l * 64 + v]⟩
def turn (b : Bool) (s : St) (c : Int) : Turn :=
  if c = 61 then
    if 2 ≤ s.q ∧ s.q + (s.p + 1) ≤ 4 then .next ⟨s.q, s.l, s.p + 1, s.i + 1, s.o⟩
    else if b = false then .next ⟨s.q, s.l, s.p + 1, s.i + 1, s.o⟩
    else if s.q = 1 then .stop ⟨s.q, s.l, s.p + 1, s.i, s.o⟩
    else .bad
  else if 64 ≤ b64v c then (if b = true then .bad else .next ⟨s.q, s.l, s.p, s.i + 1, s.o⟩)
  else if s.p ≠ 0 ∧ b = true then .bad
  else .next (put s.q s.l (b64v c) s.o (s.i + 1))
def run (b : Bool) : List Int → St → Option St
  | [], s => some s
  | c :: r, s => match turn b s c with
    | .next s' => run b r s'
    | .stop s' => some s'
    | .bad => none
def fin (s : St) : Option (List Int) := if s.q = 1 then none else if s.q ≠ 0 ∧ s.q + s.p < 4 then none else some s.o
def start : St := ⟨0, 0, 0, 0, []⟩
def a2bF (b : Bool) (d : List Int) : Option (List Int) := (run b d start).bind fin
/-- what holds between the turns -/
structure Ok (k : Nat) (s : St) : Prop where
  q0 : 0 ≤ s.q
  q3 : s.q ≤ 3
  l0 : 0 ≤ s.l
  ll : s.l < 64
  l1 : s.q = 1 → s.l < 64
  l2 : s.q = 2 → s.l < 16
  l3 : s.q = 3 → s.l < 4
  p0 : 0 ≤ s.p
  pk : s.p ≤ k
  i0 : 0 ≤ s.i
  ik : s.i ≤ k
  ok : s.o.length ≤ k
  oo : ∀ x ∈ s.o, 0 ≤ x ∧ x < 256
theorem val_range (c : Int) : 0 ≤ b64v c ∧ b64v c ≤ 64 := by
  unfold b64v
  (repeat' split) <;> omega
theorem Ok.to {k : Nat} {s : St} (h : Ok k s) {n l : Int} {o : List Int} (hn : (n = 0 ∧ l < 64) ∨ (n = 1 ∧ l < 64) ∨ (n = 2 ∧ l < 16) ∨ (n = 3 ∧ l < 4)) (hl : 0 ≤ l) (ho : o.length ≤ k + 1) (oo : ∀ x ∈ o, 0 ≤ x ∧ x < 256) : Ok (k + 1) ⟨n, l, 0, s.i + 1, o⟩ :=
  have h64 : l < 64 := by omega
  ⟨by show 0 ≤ n; omega, by show n ≤ 3; omega, hl, h64, fun _ => h64, fun e => by have e : n = 2 := e; show l < 16; omega, fun e => by have e : n = 3 := e; show l < 4; omega, Int.le_refl _, Int.natCast_nonneg _,
    Int.add_nonneg h.i0 (by decide), Int.add_le_add_right h.ik 1, ho, oo⟩
theorem Ok.snoc {k : Nat} {s : St} (h : Ok k s) {z : Int} (z0 : 0 ≤ z) (z1 : z < 256) : (s.o ++ [z]).length ≤ k + 1 ∧ ∀ x ∈ s.o ++ [z], 0 ≤ x ∧ x < 256 := by
  refine ⟨by rw [List.length_append]; exact Nat.add_le_add_right h.ok 1, fun x hx => ?_⟩
  rcases List.mem_append.mp hx with hx | hx
  · exact h.oo x hx
  · rw [List.mem_singleton.mp hx]; exact ⟨z0, z1⟩
theorem Ok.puts {k : Nat} {s : St} {v : Int} (h : Ok k s) (v0 : 0 ≤ v) (v1 : v < 64) : Ok (k + 1) (put s.q s.l v s.o (s.i + 1)) := by
  unfold B.put
  by_cases e0 : s.q = 0
  · rw [if_pos e0]
    exact h.to (.inr (.inl ⟨rfl, v1⟩)) v0 (Nat.le_succ_of_le h.ok) h.oo
  · rw [if_neg e0]
    have l0 := h.l0
    by_cases e1 : s.q = 1
    · rw [if_pos e1]
      have l1 := h.l1 e1
      have a := h.snoc (z := s.l * 4 + v / 16) (by omega) (by omega)
      exact h.to (.inr (.inr (.inl ⟨rfl, by omega⟩))) (by omega) a.1 a.2
    · rw [if_neg e1]
      by_cases e2 : s.q = 2
      · rw [if_pos e2]
        have l1 := h.l2 e2
        have a := h.snoc (z := s.l * 16 + v / 4) (by omega) (by omega)
        exact h.to (.inr (.inr (.inr ⟨rfl, by omega⟩))) (by omega) a.1 a.2
      · rw [if_neg e2]
        have l1 := h.l3 (by have := h.q0; have := h.q3; omega)
        have a := h.snoc (z := s.l * 64 + v) (by omega) (by omega)
        exact h.to (.inl ⟨rfl, by decide⟩) (Int.le_refl _) a.1 a.2
theorem Ok.pad {k : Nat} {s : St} (h : Ok k s) : Ok (k + 1) ⟨s.q, s.l, s.p + 1, s.i + 1, s.o⟩ :=
  ⟨h.q0, h.q3, h.l0, h.ll, h.l1, h.l2, h.l3, Int.add_nonneg h.p0 (by decide), Int.add_le_add_right h.pk 1, Int.add_nonneg h.i0 (by decide), Int.add_le_add_right h.ik 1, Nat.le_succ_of_le h.ok, h.oo⟩
theorem Ok.pass {k : Nat} {s : St} (h : Ok k s) : Ok (k + 1) ⟨s.q, s.l, s.p, s.i + 1, s.o⟩ :=
  ⟨h.q0, h.q3, h.l0, h.ll, h.l1, h.l2, h.l3, h.p0, Int.le_trans h.pk (Int.ofNat_le.mpr (Nat.le_succ k)), Int.add_nonneg h.i0 (by decide), Int.add_le_add_right h.ik 1, Nat.le_succ_of_le h.ok, h.oo⟩
theorem ok_start : Ok 0 start := ⟨by decide, by decide, by decide, by decide, by decide, by decide, by decide, by decide, by decide, by decide, by decide, by decide, fun x hx => nomatch hx⟩
theorem or1 {l v : Int} (l0 : 0 ≤ l) (l1 : l < 64) (v0 : 0 ≤ v) (v1 : v < 64) : Builtin.bitOr (l * 2 ^ (2 : Int).toNat) (v.fdiv (2 ^ (4 : Int).toNat)) = l * 4 + v / 16 := by
  obtain ⟨l, rfl⟩ := Int.eq_ofNat_of_zero_le l0
  obtain ⟨v, rfl⟩ := Int.eq_ofNat_of_zero_le v0
  have key : ∀ l < 64, ∀ v < 64, Builtin.bitOr (((l : Nat) : Int) * 2 ^ (2 : Int).toNat) (((v : Nat) : Int).fdiv (2 ^ (4 : Int).toNat)) = ((l : Nat) : Int) * 4 + ((v : Nat) : Int) / 16 := by decide +kernel
  exact key l (by omega) v (by omega)
theorem or2 {l v : Int} (l0 : 0 ≤ l) (l1 : l < 16) (v0 : 0 ≤ v) (v1 : v < 64) : Builtin.bitOr (l * 2 ^ (4 : Int).toNat) (v.fdiv (2 ^ (2 : Int).toNat)) = l * 16 + v / 4 := by
  obtain ⟨l, rfl⟩ := Int.eq_ofNat_of_zero_le l0
  obtain ⟨v, rfl⟩ := Int.eq_ofNat_of_zero_le v0
  have key : ∀ l < 16, ∀ v < 64, Builtin.bitOr (((l : Nat) : Int) * 2 ^ (4 : Int).toNat) (((v : Nat) : Int).fdiv (2 ^ (2 : Int).toNat)) = ((l : Nat) : Int) * 16 + ((v : Nat) : Int) / 4 := by decide +kernel
  exact key l (by omega) v (by omega)
theorem or3 {l v : Int} (l0 : 0 ≤ l) (l1 : l < 4) (v0 : 0 ≤ v) (v1 : v < 64) : Builtin.bitOr (l * 2 ^ (6 : Int).toNat) v = l * 64 + v := by
  obtain ⟨l, rfl⟩ := Int.eq_ofNat_of_zero_le l0
  obtain ⟨v, rfl⟩ := Int.eq_ofNat_of_zero_le v0
  have key : ∀ l < 4, ∀ v < 64, Builtin.bitOr (((l : Nat) : Int) * 2 ^ (6 : Int).toNat) ((v : Nat) : Int) = ((l : Nat) : Int) * 64 + ((v : Nat) : Int) := by decide +kernel
  exact key l (by omega) v (by omega)
theorem and15 {v : Int} (v0 : 0 ≤ v) (v1 : v < 64) : Builtin.bitAnd v 15 = v % 16 := by
  obtain ⟨v, rfl⟩ := Int.eq_ofNat_of_zero_le v0
  have key : ∀ v < 64, Builtin.bitAnd ((v : Nat) : Int) 15 = ((v : Nat) : Int) % 16 := by decide +kernel
  exact key v (by omega)
theorem and3 {v : Int} (v0 : 0 ≤ v) (v1 : v < 64) : Builtin.bitAnd v 3 = v % 4 := by
  obtain ⟨v, rfl⟩ := Int.eq_ofNat_of_zero_le v0
  have key : ∀ v < 64, Builtin.bitAnd ((v : Nat) : Int) 3 = ((v : Nat) : Int) % 4 := by decide +kernel
  exact key v (by omega)
def bInts (d : Array UInt8) : List Int := d.toList.map fun c => (c.toNat : Int)
theorem bInts_length (d : Array UInt8) : (bInts d).length = d.size := by unfold bInts; rw [List.length_map, Array.length_toList]
theorem drop_eq {d : Array UInt8} {i : Nat} {c : UInt8} (hc : d[i]? = some c) : (bInts d).drop i = (c.toNat : Int) :: (bInts d).drop (i + 1) := by
  have h1 : (bInts d)[i]? = some (c.toNat : Int) := by
    unfold bInts
    rw [List.getElem?_map, Array.getElem?_toList, hc]; rfl
  obtain ⟨hi, e⟩ := List.getElem?_eq_some_iff.mp h1
  rw [List.drop_eq_getElem_cons hi, e]
section
variable {b : Bool} {d : Array UInt8} {s s' : St} {i : Nat} {c : UInt8} {D : List Int}
theorem run_next (hc : d[i]? = some c) (hr : run b ((bInts d).drop i) s = run b D start) (ht : turn b s c.toNat = .next s') : run b ((bInts d).drop (i + 1)) s' = run b D start := by
  rw [drop_eq hc, run, ht] at hr
  exact hr
theorem run_bad (hc : d[i]? = some c) (hr : run b ((bInts d).drop i) s = run b D start) (ht : turn b s c.toNat = .bad) : a2bF b D = none := by
  rw [drop_eq hc, run, ht] at hr
  unfold a2bF
  rw [← hr]; rfl
theorem run_stop (hc : d[i]? = some c) (hr : run b ((bInts d).drop i) s = run b D start) (ht : turn b s c.toNat = .stop s') (hf : fin s' = none) : a2bF b D = none := by
  rw [drop_eq hc, run, ht] at hr
  unfold a2bF
  rw [← hr]; exact hf
theorem run_end (hr : run b ((bInts d).drop d.size) s = run b D start) : a2bF b D = fin s := by
  rw [List.drop_of_length_le (by rw [bInts_length]; exact Nat.le_refl _), run] at hr
  unfold a2bF
  rw [← hr]; rfl
theorem bad_pad {x : Int} (hb : b = true) (h61 : x = 61) (h1 : ¬ (2 ≤ s.q ∧ s.q + (s.p + 1) ≤ 4)) (h2 : s.q ≠ 1) : turn b s x = .bad := by
  subst hb
  unfold turn
  rw [if_pos h61, if_neg h1, if_neg (by decide), if_neg h2]
theorem stop_pad {x : Int} (hb : b = true) (h61 : x = 61) (h1 : ¬ (2 ≤ s.q ∧ s.q + (s.p + 1) ≤ 4)) (h2 : s.q = 1) : turn b s x = .stop ⟨s.q, s.l, s.p + 1, s.i, s.o⟩ := by
  subst hb
  unfold turn
  rw [if_pos h61, if_neg h1, if_neg (by decide), if_pos h2]
theorem bad_data {x : Int} (hb : b = true) (h61 : x ≠ 61) (h1 : 64 ≤ b64v x) : turn b s x = .bad := by
  subst hb
  unfold turn
  rw [if_neg h61, if_pos h1, if_pos rfl]
theorem bad_late {x : Int} (hb : b = true) (h61 : x ≠ 61) (h1 : ¬ 64 ≤ b64v x) (h2 : s.p ≠ 0) : turn b s x = .bad := by
  subst hb
  unfold turn
  rw [if_neg h61, if_neg h1, if_pos ⟨h2, rfl⟩]
theorem fin_one (h : s.q = 1) : fin s = none := by unfold fin; rw [if_pos h]
theorem fin_short (h1 : s.q ≠ 1) (h2 : s.q ≠ 0) (h3 : s.q + s.p < 4) : fin s = none := by unfold fin; rw [if_neg h1, if_pos ⟨h2, h3⟩]
theorem fin_ok (h1 : s.q ≠ 1) (h2 : s.q = 0 ∨ 4 ≤ s.q + s.p) : fin s = some s.o := by unfold fin; rw [if_neg h1, if_neg (by omega)]
def NextTo (b : Bool) (d : Array UInt8) (i : Nat) (s' : St) : Prop := Ok (i + 1) s' ∧ run b ((bInts d).drop (i + 1)) s' = run b (bInts d) start
section
variable (hok : Ok i s) (hc : d[i]? = some c) (hr : run b ((bInts d).drop i) s = run b (bInts d) start)
include hok hc hr
theorem next_pad (h61 : (c.toNat : Int) = 61) (hb : (2 ≤ s.q ∧ s.q + (s.p + 1) ≤ 4) ∨ b = false) : NextTo b d i ⟨s.q, s.l, s.p + 1, s.i + 1, s.o⟩ := by
  refine ⟨hok.pad, run_next hc hr ?_⟩
  unfold turn
  rw [if_pos h61]
  by_cases h : 2 ≤ s.q ∧ s.q + (s.p + 1) ≤ 4
  · rw [if_pos h]
  · rw [if_neg h, if_pos (hb.resolve_left h)]
theorem next_pass (h61 : (c.toNat : Int) ≠ 61) (hv : 64 ≤ b64v c.toNat) (hb : b = false) : NextTo b d i ⟨s.q, s.l, s.p, s.i + 1, s.o⟩ := by
  refine ⟨hok.pass, run_next hc hr ?_⟩
  unfold turn
  rw [if_neg h61, if_pos hv, if_neg (by rw [hb]; decide)]
theorem next_put (h61 : (c.toNat : Int) ≠ 61) (hv : ¬ 64 ≤ b64v c.toNat) (hb : s.p = 0 ∨ b = false) : NextTo b d i (put s.q s.l (b64v c.toNat) s.o (s.i + 1)) := by
  refine ⟨hok.puts (val_range _).1 (by omega), run_next hc hr ?_⟩
  unfold turn
  rw [if_neg h61, if_neg hv, if_neg (fun h => by rcases hb with e | e; exact h.1 e; rw [e] at h; exact Bool.false_ne_true h.2)]
theorem next_put0 (h61 : (c.toNat : Int) ≠ 61) (hv : ¬ 64 ≤ b64v c.toNat) (hb : s.p = 0 ∨ b = false) (hq : s.q = 0) : NextTo b d i ⟨1, b64v c.toNat, 0, s.i + 1, s.o⟩ := by
  have := next_put hok hc hr h61 hv hb
  rw [put, if_pos hq] at this
  exact this
theorem next_put1 (h61 : (c.toNat : Int) ≠ 61) (hv : ¬ 64 ≤ b64v c.toNat) (hb : s.p = 0 ∨ b = false) (hq : s.q = 1) :
    NextTo b d i ⟨2, Builtin.bitAnd (b64v c.toNat) 15, 0, s.i + 1, s.o ++ [Builtin.bitOr (s.l * 2 ^ (2 : Int).toNat) ((b64v c.toNat).fdiv (2 ^ (4 : Int).toNat))]⟩ := by
  have := next_put hok hc hr h61 hv hb
  rw [put, if_neg (by omega), if_pos hq] at this
  rw [or1 hok.l0 (hok.l1 hq) (val_range _).1 (by omega), and15 (val_range _).1 (by omega)]
  exact this
theorem next_put2 (h61 : (c.toNat : Int) ≠ 61) (hv : ¬ 64 ≤ b64v c.toNat) (hb : s.p = 0 ∨ b = false) (hq : s.q = 2) :
    NextTo b d i ⟨3, Builtin.bitAnd (b64v c.toNat) 3, 0, s.i + 1, s.o ++ [Builtin.bitOr (s.l * 2 ^ (4 : Int).toNat) ((b64v c.toNat).fdiv (2 ^ (2 : Int).toNat))]⟩ := by
  have := next_put hok hc hr h61 hv hb
  rw [put, if_neg (by omega), if_neg (by omega), if_pos hq] at this
  rw [or2 hok.l0 (hok.l2 hq) (val_range _).1 (by omega), and3 (val_range _).1 (by omega)]
  exact this
theorem next_put3 (h61 : (c.toNat : Int) ≠ 61) (hv : ¬ 64 ≤ b64v c.toNat) (hb : s.p = 0 ∨ b = false) (hq : s.q ≠ 0 ∧ s.q ≠ 1 ∧ s.q ≠ 2) :
    NextTo b d i ⟨0, 0, 0, s.i + 1, s.o ++ [Builtin.bitOr (s.l * 2 ^ (6 : Int).toNat) (b64v c.toNat)]⟩ := by
  have := next_put hok hc hr h61 hv hb
  have q3 : s.q = 3 := by have := hok.q0; have := hok.q3; omega
  rw [put, if_neg (by omega), if_neg (by omega), if_neg (by omega)] at this
  rw [or3 hok.l0 (hok.l3 q3) (val_range _).1 (by omega)]
  exact this
end
end
end Mine.B
end
theorem Mine.gapA2b : (if True then True else True) := by
  w_top off
  (try walk1)
  w_top off
  all_goals first | trivial | simp
/- part A2b -/
section
open PySem PySem.W PyProof.Rows PySem.Calls
set_option maxRecDepth 100000
set_option maxHeartbeats 2000000
namespace Mine
local macro_rules | `(tactic| walk_at "eval Constant int") => `(tactic| refine const_int ?_)
local macro_rules | `(tactic| walk_at "binaryOp Add int int") => `(tactic| refine add_int' ?_)
local macro_rules | `(tactic| walk_at "mine enter") => `(tactic| (
  k_dflt (refine' enter ?kX ?kT ?k6 ?k7 ?k8 ?k9 ?kB ?_ ?c2 ?c3 ?c4 ?c5; (case kX => k_asm); (case kT => k_asm); (case k6 => k_is); (case k7 => k_is); (case k8 => (dsimp only [around]; omega)); (case k9 => first | exact BindsTo.of_eq rfl | walk_at "mine binds"); (case kB => exact locs rfl); (case c2 => exact rfl); (case c3 => exact rfl); (case c4 => exact rfl); (case c5 => decide); k_whole); intro L' h' tk' F' N'; (try dsimp only); (try k_fold)))
local macro_rules | `(tactic| walk_at "mine says") => `(tactic| (
   (case k1 => k_asm); (case k2 => k_asm); (case k3 => k_asm); (case k4 => k_asm); (case k5 => k_asm); (try (case kS => walk_at "mine whom")); (case k6 => exact rfl); (case k7 => exact rfl); (case k8 => exact rfl); (case k9 => first | (dsimp only [around]; omega) | decide); (case k10 => first | (dsimp only [around]; omega) | decide); k_whole))
local macro_rules | `(tactic| walk_at "mine use") => `(tactic| (refine' Says.use ?kS ?k1 ?k2 ?k3 ?k4 ?k5 ?k6 ?k7 ?k8 ?k9 ?k10 ?_; walk_at "mine says"))
local macro_rules | `(tactic| walk_at "mine came") => `(tactic| (intro v' tl' h' tk' hg' F' N' hn'; (first | (obtain ⟨ht', t', hv'⟩ := hg'; subst ht' hv') | (obtain ⟨ht', hv'⟩ := hg'; subst ht' hv')); (try dsimp only [List.nil_append] at N'); clear hn'; (try k_sweep)))
local macro_rules | `(tactic| walk_at "call ref") => `(tactic| (k_here; k_dflt (walk_at "mine use"); walk_at "mine came"))
local macro_rules | `(tactic| walk_at "mine whom") => `(tactic| first | exact b64_value_says _ _ | exact truth_says _ | exact ascii_buffer_says _ _)
local macro_rules | `(tactic| walk_at "exec For Name Name cons nil") => `(tactic| (k_here; refine Halt.mk ?_))
local macro_rules | `(tactic| walk_at "TurnPost") => `(tactic| (dsimp only [TurnPost]))
local macro_rules | `(tactic| walk_at "mine agrees") => `(tactic| (repeat (first | (with_reducible assumption) | (with_reducible refine Agrees.store (by decide) ?_) | (with_reducible refine Agrees.storeU (by decide) ?_) | (with_reducible exact Agrees.base) | refine Agrees.store (by decide) ?_ | exact Agrees.base | exact Agrees.refl | refine Agrees.over (by decide) ?_)))
local macro_rules | `(tactic| walk_at "leaving ref") => `(tactic| (k_here; (refine leave_raiseS (by k_asm) (by assumption) (by k_asm) (by k_asm) ?_); intro h' t' S' R' U'; (try dsimp only at S' R' U' ⊢)))
local macro_rules | `(tactic| walk_at "binaryOp LShift int int") => `(tactic| (k_here; (refine lshift_int_small (by decide) (by decide) (by omega) ?_); (try dsimp only)))
local macro_rules | `(tactic| walk_at "call builtin:list.append") => `(tactic| (k_here; (refine append_K (by k_asm) (by k_asm) (.tail (by assumption) (.head fun _ h => nomatch h)) ?_ (by assumption)); intro h' F' N'; (try dsimp only)))
local macro_rules | `(tactic| walk_at "call builtin:len") => `(tactic| (k_here; (refine len_list (News.isList (by k_asm) (by k_mem)) (by omega) ?_); (try dsimp only)))
local macro_rules | `(tactic| size_fits) => `(tactic| with_reducible assumption)
local macro_rules | `(tactic| walk_at "binaryOp Mod str int") => `(tactic| (k_here; (refine pct_text (by first | omega | kpc_fact) (by first | omega | kpc_fact) ?_); intro T' t' k'; (try dsimp only)))
local macro_rules | `(tactic| walk_at "mine get") => `(tactic| (k_dflt (exact ⟨_, rfl⟩)))
local macro_rules | `(tactic| walk_at "exec If") => `(tactic| (k_here; (with_reducible refine halt_if ?_)))
abbrev a2bN : List Str := [Str.ofString "this_ch", Str.ofString "pads", Str.ofString "i", Str.ofString "quad_pos", Str.ofString "leftchar"]
def A2bJ (D : Addr) (b : Bool) (d : Array UInt8) (i : Nat) (u : Str → Option Value) (nx : List (Addr × Obj)) : Prop :=
  ∃ (s : B.St) (tq tl tp ti : Tok) (vs : List Value) (n : Nat), nx = [(D, W.listOf vs.toArray n)] ∧ IntsAre vs s.o ∧ B.Ok i s ∧ B.run b ((B.bInts d).drop i) s = B.run b (B.bInts d) B.start ∧
    u (Str.ofString "quad_pos") = some (.int s.q tq) ∧ u (Str.ofString "leftchar") = some (.int s.l tl) ∧ u (Str.ofString "pads") = some (.int s.p tp) ∧ u (Str.ofString "i") = some (.int s.i ti)
theorem a2b_turn {h₀ h' : Heap} {L D I : Addr} {o : Obj} {m m' : Str → Option Value} {its : Array Value} {vs' : List Value} {n i : Nat} {b : Bool} {d : Array UInt8} {s' : B.St} {gg : Array GenState} {dd : Drawn} {tk : Nat} {oo : OsState}
    (F : Fr h₀ L h' m') (N : News h₀ L h' [(I, o), (D, W.listOf its n)]) (hne : I ≠ D) (ag : Agrees a2bN m m') (hits : its = vs'.toArray) (nt : B.NextTo b d i s') (hvs : IntsAre vs' s'.o)
    (e1 : ∃ t, m' (Str.ofString "quad_pos") = some (.int s'.q t)) (e2 : ∃ t, m' (Str.ofString "leftchar") = some (.int s'.l t)) (e3 : ∃ t, m' (Str.ofString "pads") = some (.int s'.p t)) (e4 : ∃ t, m' (Str.ofString "i") = some (.int s'.i t)) :
    TurnEnd h₀ L [(I, o)] [] (fun m' nx' => Agrees a2bN m m' ∧ A2bJ D b d (i + 1) m' nx') gg dd oo ⟨h', gg, dd, tk, oo⟩ :=
  turnEnd (nx := [(D, W.listOf its n)]) F N (fun p hp q hq => by rw [List.mem_singleton.mp hp, List.mem_singleton.mp hq]; exact Ne.symm hne)
    ⟨ag, s', e1.choose, e2.choose, e3.choose, e4.choose, vs', n, by rw [hits], hvs, nt.1, nt.2, e1.choose_spec, e2.choose_spec, e3.choose_spec, e4.choose_spec⟩
theorem ints_snoc : ∀ {vs : List Value} {ns : List Int} {x : Int} {t : Tok}, IntsAre vs ns → IntsAre (vs ++ [.int x t]) (ns ++ [x])
  | _, _, _, _, .nil => .cons _ _ .nil
  | _, _, _, _, .cons _ _ r => .cons _ _ (ints_snoc r)
theorem a2b_says {w mean mg mb} (d : Array UInt8) (t : Tok) (b : Bool) (hd : d.size ≤ 10000) :
    SaysX 2 w mean mg mb 88 ⟨[.bytes d t], [(Str.ofString "strict_mode", .bool b)]⟩ (fun v tl => ∃ o, B.a2bF b (B.bInts d) = some o ∧ retY (byteArr o) v tl) (B.a2bF b (B.bInts d) = none) := by
  unfold SaysX; k_fill
  intro dp un gd base envs h₀ gg dd tt oo R Bl X T hd hu hret hbad
  walk_at "mine enter"
  k_steps
  unfold Halt
  rename_i F' N'
  obtain ⟨m, F, eo, es, ea, eq, el, ep, ei, -⟩ := fr_open [(Str.ofString "out", _), (Str.ofString "strict_mode", _), (Str.ofString "ascii_data", _), (Str.ofString "quad_pos", _), (Str.ofString "leftchar", _), (Str.ofString "pads", _), (Str.ofString "i", _)] F' ⟨rfl, rfl, rfl, rfl, rfl, rfl, rfl, trivial⟩
  clear F'
  refine for_bytesA (b := d) (tb := ?tb) (cst := []) (news := [_]) a2bN rfl F N' (A2bJ _ b d) ⟨B.start, _, _, _, _, [], 0, rfl, .nil, B.ok_start, rfl, eq, el, ep, ei⟩ ?hev ?step ?fin
  case hev =>
    intro Q' hq
    replace F := fr_at F ea
    k_steps
    exact hq
  case step =>
    intro i c t' u nx h₁ tk₁ I o hi hc hJ hcst hnx F₁ N₁
    obtain ⟨s, tq, tl, tp, ti, vs, n, rfl, hvs, hok, hrun, e1, e2, e3, e4⟩ := hJ
    obtain ⟨m₂, ag, F₂⟩ := frame_open _ F₁ (hs_cons (st_of (by decide) e1) (hs_cons (st_of (by decide) e2) (hs_cons (st_of (by decide) e3) (hs_cons (st_of (by decide) e4) (hs_cons (cs_of (by decide) eo) (hs_cons (cs_of (by decide) es) hs_nil))))))
    clear F₁ F eo es ea eq el ep ei e1 e2 e3 e4
    dsimp only [names] at ag F₂
    have l0 := hok.l0
    have l1 := hok.ll
    have hsz : vs.toArray.size ≤ 10000 := by have := hok.ok; rw [List.size_toArray, hvs.length]; omega
    have hsz' : vs.toArray.size ≤ sizeLine := Nat.le_trans hsz (by decide)
    have hne := Ne.symm (hnx _ (.head _))
    dsimp only at hne
    k_steps
    · unfold Halt
      refine if_merge (2 ≤ s.q ∧ s.q + (s.p + 1) ≤ 4) ?_ ?_ ?_
      · intro Q' qT qF
        k_steps
        · exact qT ⟨by assumption, by assumption⟩ _
        · exact qF (fun h => absurd h.2 (by assumption)) _
        · exact qF (fun h => absurd h.1 (by assumption)) _
      · intro hP tk'
        k_steps
        (with_reducible rename Fr _ _ _ _ => Fx); (with_reducible rename News _ _ _ _ => Nx); refine a2b_turn (vs' := vs) Fx Nx hne (by walk_at "mine agrees") rfl (B.next_pad hok hc hrun (by assumption) (.inl hP)) hvs ?_ ?_ ?_ ?_ <;> walk_at "mine get"
      · intro hP tk'
        k_steps
        · exact hbad _ _ _ _ _ _ (B.run_stop hc (by assumption) (B.stop_pad (by assumption) (by assumption) hP (by assumption)) (B.fin_one (by assumption))) (by assumption) (by assumption)
        · exfalso; omega
        · unfold Halt
          refine if_merge (s.q = 0 ∧ s.i = 0) ?_ ?_ ?_
          · intro Q' qT qF
            k_steps
            · exact qT ⟨by assumption, by assumption⟩ _
            · exact qF (fun h => absurd h.2 (by assumption)) _
            · exact qF (fun h => absurd h.1 (by assumption)) _
          · intro hP' tk'
            k_steps
            exact hbad _ _ _ _ _ _ (B.run_bad hc hrun (B.bad_pad (by assumption) (by assumption) hP (by assumption))) (by assumption) (by assumption)
          · intro hP' tk'
            k_steps
            exact hbad _ _ _ _ _ _ (B.run_bad hc hrun (B.bad_pad (by assumption) (by assumption) hP (by assumption))) (by assumption) (by assumption)
        · (with_reducible rename Fr _ _ _ _ => Fx); (with_reducible rename News _ _ _ _ => Nx); refine a2b_turn (vs' := vs) Fx Nx hne (by walk_at "mine agrees") rfl (B.next_pad hok hc hrun (by assumption) (.inr (by assumption))) hvs ?_ ?_ ?_ ?_ <;> walk_at "mine get"
    · exact hbad _ _ _ _ _ _ (B.run_bad hc hrun (B.bad_data (by assumption) (by assumption) (by assumption))) (by assumption) (by assumption)
    · (with_reducible rename Fr _ _ _ _ => Fx); (with_reducible rename News _ _ _ _ => Nx); refine a2b_turn (vs' := vs) Fx Nx hne (by walk_at "mine agrees") rfl (B.next_pass hok hc hrun (by assumption) (by assumption) (by assumption)) hvs ?_ ?_ ?_ ?_ <;> walk_at "mine get"
    · unfold Halt
      refine if_merge (s.p ≠ 0 ∧ b = true) ?_ ?_ ?_
      · intro Q' qT qF
        k_steps
        · exact qT ⟨by assumption, by assumption⟩ _
        · exact qF (fun h => absurd (h.2.symm.trans (by assumption)) (by decide)) _
        · exact qF (fun h => h.1 (by assumption)) _
      · intro hP tk'
        k_steps
        · exact hbad _ _ _ _ _ _ (B.run_bad hc hrun (B.bad_late hP.2 (by assumption) (by assumption) hP.1)) (by assumption) (by assumption)
        · exact hbad _ _ _ _ _ _ (B.run_bad hc hrun (B.bad_late hP.2 (by assumption) (by assumption) hP.1)) (by assumption) (by assumption)
      · intro hP tk'
        have hpb : s.p = 0 ∨ b = false := by
          cases b
          · exact .inr rfl
          · exact .inl (Classical.not_not.mp fun h => hP ⟨h, rfl⟩)
        k_steps
        · (with_reducible rename Fr _ _ _ _ => Fx); (with_reducible rename News _ _ _ _ => Nx); refine a2b_turn (vs' := vs) Fx Nx hne (by walk_at "mine agrees") rfl (B.next_put0 hok hc hrun (by assumption) (by assumption) hpb (by assumption)) hvs ?_ ?_ ?_ ?_ <;> walk_at "mine get"
        · (with_reducible rename Fr _ _ _ _ => Fx); (with_reducible rename News _ _ _ _ => Nx); refine a2b_turn Fx Nx hne (by walk_at "mine agrees") (List.push_toArray _ _) (B.next_put1 hok hc hrun (by assumption) (by assumption) hpb (by assumption)) (ints_snoc hvs) ?_ ?_ ?_ ?_ <;> walk_at "mine get"
        · (with_reducible rename Fr _ _ _ _ => Fx); (with_reducible rename News _ _ _ _ => Nx); refine a2b_turn Fx Nx hne (by walk_at "mine agrees") (List.push_toArray _ _) (B.next_put2 hok hc hrun (by assumption) (by assumption) hpb (by assumption)) (ints_snoc hvs) ?_ ?_ ?_ ?_ <;> walk_at "mine get"
        · (with_reducible rename Fr _ _ _ _ => Fx); (with_reducible rename News _ _ _ _ => Nx); refine a2b_turn Fx Nx hne (by walk_at "mine agrees") (List.push_toArray _ _) (B.next_put3 hok hc hrun (by assumption) (by assumption) hpb ⟨by assumption, by assumption, by assumption⟩) (ints_snoc hvs) ?_ ?_ ?_ ?_ <;> walk_at "mine get"
  case fin =>
    intro h' tk u nx F₁ N' hJ
    obtain ⟨s, tq, tl, tp, ti, vs, n, rfl, hvs, hok, hrun, e1, e2, e3, e4⟩ := hJ
    obtain ⟨m₂, -, F₂⟩ := frame_open _ F₁ (hs_cons (st_of (by decide) e1) (hs_cons (st_of (by decide) e2) (hs_cons (st_of (by decide) e3) (hs_cons (st_of (by decide) e4) (hs_cons (cs_of (by decide) eo) (hs_cons (cs_of (by decide) es) hs_nil))))))
    clear F₁ F eo es ea eq el ep ei e1 e2 e3 e4
    dsimp only [names] at F₂
    have hsz : vs.toArray.size ≤ 10000 := by have := hok.ok; rw [List.size_toArray, hvs.length]; omega
    have hlen : s.o.length ≤ 16777216 := by have := hok.ok; omega
    have hin : KBa.In s.o := hok.oo
    have hend := B.run_end hrun
    k_steps
    · exact hbad _ _ _ _ _ _ (hend.trans (B.fin_one (by assumption))) (by assumption) (by assumption)
    · unfold Halt
      refine if_merge (s.q ≠ 0 ∧ s.q + s.p < 4) ?_ ?_ ?_
      · intro Q' qT qF
        k_steps
        · exact qT ⟨by assumption, by assumption⟩ _
        · exact qF (fun h => absurd h.2 (by assumption)) _
        · exact qF (fun h => h.1 (by assumption)) _
      · intro hP tk'
        k_steps
        exact hbad _ _ _ _ _ _ (hend.trans (B.fin_short (by assumption) hP.1 hP.2)) (by assumption) (by assumption)
      · intro hP tk'
        k_steps
        exact hret _ [] _ _ ⟨s.o, hend.trans (B.fin_ok (by assumption) (by omega)), rfl, _, rfl⟩ (left_of (by assumption))
end Mine
end
/- part TransB -/
section
open PySem PySem.W PyProof.Rows PySem.Calls
open Builtin
set_option maxRecDepth 100000
set_option maxHeartbeats 2000000
namespace Mine
namespace TB
theorem slot_translate : Slot "bytes" "translate" "bytes.translate" :=
  .of (owner := "bytes") (n := "translate") (by rw [typeLookup_type, builtinLookup_eq_fast]; kernel_rfl) (by decide +kernel) (by decide +kernel) (by decide +kernel)
    (by first | exact .inl (by decide +kernel) | exact .inr (by decide +kernel)) (by rw [isSubtype_type]; kernel_rfl)
theorem type_translate : typeOf (.builtin "bytes.translate") = pure (.type "method_descriptor") := by show builtinType _ = _; rw [builtinType_eq_fast]; kernel_rfl
theorem entry_translate : entryFor table "bytes.translate" = some Builtin.«bytes.translate» := entryFor_of_tree (by kernel_rfl)
theorem args_translate (a b : Value) : argsOk "bytes.translate" ⟨[a, b], []⟩ := by unfold argsOk; kernel_rfl
theorem entry_maketrans : entryFor table "bytes.maketrans" = some Builtin.«bytes.maketrans» := entryFor_of_tree (by kernel_rfl)
theorem check_maketrans (a b : Value) : checkBuiltinCall "bytes.maketrans" ⟨[a, b], []⟩ = pure () := by kernel_rfl
theorem plain_maketrans : plainId "bytes.maketrans" = true := by decide +kernel
theorem type_bytes : typeOf (.type "bytes") = pure (.type "type") := by first | rfl | kernel_rfl
end TB
def tabOf (p q : UInt8) : Array UInt8 := (((Array.range 256).map (·.toUInt8)).setIfInBounds p.toNat 43).setIfInBounds q.toNat 47
def trans (p q : UInt8) (d : Array UInt8) : Array UInt8 := d.map fun c => if c = q then 47 else if c = p then 43 else c
theorem tabOf_size (p q : UInt8) : (tabOf p q).size = 256 := by unfold tabOf; simp
theorem tabOf_get (p q c : UInt8) : (tabOf p q).getD c.toNat c = if c = q then 47 else if c = p then 43 else c := by
  have hc : c.toNat < 256 := UInt8.toNat_lt c
  have e1 : (q.toNat = c.toNat) ↔ (c = q) := ⟨fun h => UInt8.toNat_inj.mp h.symm, fun h => by rw [h]⟩
  have e2 : (p.toNat = c.toNat) ↔ (c = p) := ⟨fun h => UInt8.toNat_inj.mp h.symm, fun h => by rw [h]⟩
  have e0 : ((Array.range 256).map (·.toUInt8))[c.toNat]? = some c := by
    rw [Array.getElem?_map, Array.getElem?_range, if_pos hc]
    show some c.toNat.toUInt8 = some c
    rw [Nat.toUInt8_eq, UInt8.ofNat_toNat]
  rw [Array.getD_eq_getD_getElem?]
  unfold tabOf
  rw [Array.getElem?_setIfInBounds, Array.getElem?_setIfInBounds, e0]
  by_cases h1 : c = q
  · rw [if_pos (e1.mpr h1), if_pos h1, if_pos (by simpa using UInt8.toNat_lt q)]; rfl
  · rw [if_neg (fun h => h1 (e1.mp h)), if_neg h1]
    by_cases h2 : c = p
    · rw [if_pos (e2.mpr h2), if_pos h2, if_pos (by simpa using UInt8.toNat_lt p)]; rfl
    · rw [if_neg (fun h => h2 (e2.mp h)), if_neg h2]; rfl
section
variable {prog : Program} {w : World} {M : Model} {A : Around} {E : Value → Shared → Prop} {s : Shared} {t u : Tok}
theorem translate_method {d : Array UInt8} {pl : Sem Bool} {Q : Value × List Value → Shared → Prop} (h : Q (.builtin "bytes.translate", [.bytes d t]) s) : wpAny M A (getMethod (.bytes d t) (Str.ofString "translate") pl) Q E s := by
  have nr : ∀ a, Value.bytes d t = .ref a → ∃ o, s.heap.get? a = some o ∧ o.dict = none := fun _ e => nomatch e
  with_reducible exact getMethod_builtin (typeIs_bytes _ _ _) FB.plainAttrs_bytes TB.slot_translate TB.type_translate nr h
theorem maketrans_call {p q : UInt8} {Q : Value → Shared → Prop} (h : ∀ t' k', Q (.bytes (tabOf p q) t') { s with toks := k' }) :
    wpAny (model prog w) A (call (.builtin "bytes.maketrans") [.bytes #[p, q] t, .bytes #[43, 47] u]) Q E s := by
  refine wpAny_call (codeAny_call_builtin TB.plain_maketrans TB.entry_maketrans (wpAny_of_eq (TB.check_maketrans _ _) ?_))
  show wpAny _ _ (Bytes.bytesLike "bytes.maketrans" (.bytes #[p, q] t) >>= fun frm => Bytes.bytesLike "bytes.maketrans" (.bytes #[43, 47] u) >>= fun to => (if (frm.size != to.size) = true then _ else _)) _ _ s
  rw [KBd.like_eq]
  refine wpAny_bind (wpAny_pure ?_)
  rw [KBd.like_eq]
  refine wpAny_bind (wpAny_pure ?_)
  refine bm_if_false rfl ?_
  show wpAny _ _ (mkBytes (tabOf p q) >>= fun v => ret v) _ _ s
  exact wpAny_bind (wpAny_mkBytes (wpAny_pure (h _ _)) (by rw [tabOf_size]; decide))
theorem translate_call {d : Array UInt8} {p q : UInt8} {Q : Value → Shared → Prop} (hd : d.size ≤ sizeLine) (h : ∀ t' k', Q (.bytes (trans p q d) t') { s with toks := k' }) :
    wpAny (model prog w) A (call (.builtin "bytes.translate") [.bytes d t, .bytes (tabOf p q) u]) Q E s := by
  have hout : ((d.filter fun c => !(#[] : Array UInt8).contains c).map fun c => match some (tabOf p q) with | some t => t.getD c.toNat c | none => c) = trans p q d := by
    have e : (d.filter fun c => !(#[] : Array UInt8).contains c) = d := by
      rw [Array.filter_eq_self]; intro a _; simp
    rw [e]
    unfold trans
    congr 1
    funext c
    exact tabOf_get p q c
  refine wpAny_call_entry TB.slot_translate (typeIs_bytes _ _ _) TB.entry_translate ?_ (TB.args_translate _ _)
  show wpAny _ _ (Bytes.bytesLike "bytes.translate" (.bytes (tabOf p q) u) >>= fun t => if (t.size != 256) = true then _ else _) _ _ s
  rw [KBd.like_eq]
  refine wpAny_bind (wpAny_pure ?_)
  refine bm_if_false (by rw [tabOf_size]; rfl) ?_
  refine wpAny_bind (wpAny_pure ?_)
  refine wpAny_bind (wpAny_pure (a := (#[] : Array UInt8)) ?_)
  refine wpAny_bind (wpAny_of_eq (a := d) rfl ?_)
  show wpAny _ _ (if ((((d.filter fun c => !(#[] : Array UInt8).contains c).map fun c => match some (tabOf p q) with | some t => t.getD c.toNat c | none => c) == d) = true) then _ else _) _ _ s
  rw [hout]
  by_cases e : (trans p q d == d) = true
  · refine bm_if_true e ?_
    have e' : trans p q d = d := eq_of_beq e
    refine wpAny_bind (wpAny_rule ?_)
    refine wpAny_bind (wpAny_of_eq (a := .bytes d t) (by kernel_rfl) ?_)
    refine wpAny_pure ⟨_, rfl, ?_⟩
    rw [← e']
    have := h t s.toks
    rw [e'] at this ⊢
    exact this
  · refine bm_if_false (Bool.eq_false_iff.mpr e) ?_
    refine wpAny_bind (m := mkBytes (trans p q d)) (wpAny_mkBytes (wpAny_pure ⟨_, rfl, h _ _⟩) ?_)
    unfold trans
    rw [Array.size_map]; exact hd
end
end Mine
end
theorem Mine.gapB64 : (if True then True else True) := by
  w_top off
  (try walk1)
  w_top off
  all_goals first | trivial | simp
/- part B64 -/
section
open PySem PySem.W PyProof.Rows PySem.Calls
set_option maxRecDepth 100000
set_option maxHeartbeats 2000000
namespace Mine
local macro_rules | `(tactic| walk_at "mine binds") => `(tactic| exact binds_K (by k_in) rfl (by k_is) rfl rfl rfl)
local macro_rules | `(tactic| walk_at "mine enter") => `(tactic| (
  k_dflt (refine' enter ?kX ?kT ?k6 ?k7 ?k8 ?k9 ?kB ?_ ?c2 ?c3 ?c4 ?c5; (case kX => k_asm); (case kT => k_asm); (case k6 => k_is); (case k7 => k_is); (case k8 => (dsimp only [around]; omega)); (case k9 => first | exact BindsTo.of_eq rfl | walk_at "mine binds"); (case kB => exact locs rfl); (case c2 => exact rfl); (case c3 => exact rfl); (case c4 => exact rfl); (case c5 => decide); k_whole); intro L' h' tk' F' N'; (try dsimp only); (try k_fold)))
local macro_rules | `(tactic| walk_at "mine says") => `(tactic| (
   (case k1 => k_asm); (case k2 => k_asm); (case k3 => k_asm); (case k4 => k_asm); (case k5 => k_asm); (try (case kS => walk_at "mine whom")); (case k6 => exact rfl); (case k7 => exact rfl); (case k8 => exact rfl); (case k9 => first | (dsimp only [around]; omega) | decide); (case k10 => first | (dsimp only [around]; omega) | decide); k_whole))
local macro_rules | `(tactic| walk_at "mine use") => `(tactic| (refine' Says.use ?kS ?k1 ?k2 ?k3 ?k4 ?k5 ?k6 ?k7 ?k8 ?k9 ?k10 ?_; walk_at "mine says"))
local macro_rules | `(tactic| walk_at "mine came") => `(tactic| (intro v' tl' h' tk' hg' F' N' hn'; (first | (obtain ⟨ht', t', hv'⟩ := hg'; subst ht' hv') | (obtain ⟨ht', hv'⟩ := hg'; subst ht' hv')); (try dsimp only [List.nil_append] at N'); clear hn'; (try k_sweep)))
local macro_rules | `(tactic| walk_at "call ref") => `(tactic| (k_here; k_dflt (walk_at "mine use"); walk_at "mine came"))
theorem octs_two (p q : Nat) : octs ⟨#[p, q]⟩ = #[p.toUInt8, q.toUInt8] := by unfold octs; simp
theorem bytes_from_pair_says {w mean mg mb} (p q : Nat) (t : Tok) (ha : ascii ⟨#[p, q]⟩) : Says 1 w mean mg mb 46 [.str ⟨#[p, q]⟩ t] (retY #[p.toUInt8, q.toUInt8]) := by
  rw [← octs_two]
  exact bytes_from_str_says _ _ ha (by show 2 ≤ sizeLine; decide)
local macro_rules | `(tactic| walk_at "mine whom") => `(tactic| first | exact bytes_from_pair_says _ _ _ (by assumption) | exact bytes_from_str_says _ _ (by assumption) (by assumption) | exact bytes_from_bytes_says _ _)
local macro_rules | `(tactic| walk_at "getMethod bytes") => `(tactic| (k_here; (with_reducible show wpAny _ _ (getMethod (Value.bytes _ _) (Str.ofString "translate") _) _ _ _); (refine translate_method ?_)))
local macro_rules | `(tactic| walk_at "getMethod type:bytes") => `(tactic| (k_here; refine' method_type ?F ?X ?m (by decide +kernel) ?e ?h ?_; (case F => k_asm); (case X => k_asm); (case m => exact TB.type_bytes); (case e => k_dflt k_is); (case h => k_handed)))
local macro_rules | `(tactic| walk_at "call builtin:bytes.maketrans") => `(tactic| (k_here; (refine maketrans_call ?_); intro t' k'; (try dsimp only)))
local macro_rules | `(tactic| walk_at "call builtin:bytes.translate") => `(tactic| (k_here; (refine translate_call (by assumption) ?_); intro t' k'; (try dsimp only)))
local macro_rules | `(tactic| walk_at "leaving ref") => `(tactic| (k_here; (refine leave_onS (by k_asm) (by k_asm) (by assumption) (by assumption) ?_); intro h' S' R' U'; (try dsimp only at S' R' U' ⊢)))
local macro_rules | `(tactic| walk_at "call ref") => `(tactic| (k_here; (with_reducible show wpAny _ _ (call (Value.ref 88) [Value.bytes _ _] _) _ _ _); (show wpAny _ _ (call (Value.ref 88) [Value.bytes _ _] [(Str.ofString "strict_mode", Value.bool _)]) _ _ _); k_dflt (refine' SaysX.use (a2b_says _ _ _ (by assumption)) ?k1 ?k2 ?k3 ?k4 ?k5 ?k6 ?k7 ?k8 ?k9 ?k10 ?_ ?_; walk_at "mine says")))
theorem b64_bytes_says {w mean mg mb} (d : Array UInt8) (p q : UInt8) (t t' : Tok) (b : Bool) (hds : d.size ≤ 10000) :
    SaysX 5 w mean mg mb 96 ⟨[.bytes d t, .bytes #[p, q] t', .bool b], []⟩ (fun v tl => ∃ o, B.a2bF b (B.bInts (trans p q d)) = some o ∧ retY (byteArr o) v tl) (B.a2bF b (B.bInts (trans p q d)) = none) := by
  unfold SaysX; k_fill
  intro dp un gd base envs h₀ gg dd tt oo R Bl X T hd hu hret hbad
  walk_at "mine enter"
  have hd' : (trans p q d).size ≤ 10000 := by unfold trans; rw [Array.size_map]; exact hds
  have hd2 : d.size ≤ sizeLine := Nat.le_trans hds (by decide)
  k_steps
  · rename_i hg F' N' hn'
    obtain ⟨o, ho, rfl, t', rfl⟩ := hg
    exact hret _ [] _ _ ⟨o, ho, rfl, t', rfl⟩ (left_of F')
  · exact hbad _ _ _ _ _ _ (by assumption) (by assumption) (by assumption)
  · exfalso; rename_i hx; exact hx rfl
theorem b64_str_says {w mean mg mb} (d : Str) (p q : Nat) (t t' : Tok) (ha : ascii d) (hp : ascii ⟨#[p, q]⟩) (hds : d.cps.size ≤ 10000) :
    SaysX 5 w mean mg mb 96 ⟨[.str d t, .str ⟨#[p, q]⟩ t'], []⟩ (fun v tl => ∃ o, B.a2bF false (B.bInts (trans p.toUInt8 q.toUInt8 (octs d))) = some o ∧ retY (byteArr o) v tl) (B.a2bF false (B.bInts (trans p.toUInt8 q.toUInt8 (octs d))) = none) := by
  have hz1 : d.cps.size ≤ sizeLine := Nat.le_trans hds (by decide)
  unfold SaysX; k_fill
  intro dp un gd base envs h₀ gg dd tt oo R Bl X T hd hu hret hbad
  walk_at "mine enter"
  have hd' : (trans p.toUInt8 q.toUInt8 (octs d)).size ≤ 10000 := by unfold trans; rw [Array.size_map]; unfold octs; rw [Array.size_map]; exact hds
  have hd2 : (octs d).size ≤ sizeLine := by unfold octs; rw [Array.size_map]; exact hz1
  k_steps
  · rename_i hg F' N' hn'
    obtain ⟨o, ho, rfl, t', rfl⟩ := hg
    exact hret _ [] _ _ ⟨o, ho, rfl, t', rfl⟩ (left_of F')
  · exact hbad _ _ _ _ _ _ (by assumption) (by assumption) (by assumption)
  · exfalso; rename_i hx; exact hx rfl
end Mine
end
/- part Worth0 -/
section
open PySem PySem.Builtin PySem.Builtin.Str
set_option maxRecDepth 100000
namespace Mine
theorem occ_two (p q x : Nat) : occurrences ⟨#[p, q]⟩ ⟨#[x]⟩ 0 (⟨#[p, q]⟩ : Str).length 1 = if p = x then [0] else if q = x then [1] else [] := by
  have s0 : subAt ⟨#[p, q]⟩ ⟨#[x]⟩ 0 = decide (p = x) := by
    unfold subAt
    simp [Str.length]
    rw [Bool.eq_iff_iff]; simp
  have s1 : subAt ⟨#[p, q]⟩ ⟨#[x]⟩ 1 = decide (q = x) := by
    unfold subAt
    simp [Str.length]
    rw [Bool.eq_iff_iff]; simp
  have hl : (⟨#[p, q]⟩ : Str).length = 2 := rfl
  have hl1 : (⟨#[x]⟩ : Str).length = 1 := rfl
  rw [hl]
  unfold occurrences
  simp only [Std.Legacy.Range.forIn_eq_forIn_range', Std.Legacy.Range.size]
  have e : List.range' 0 ((2 + 1 - 0 + 1 - 1) / 1) = [0, 1, 2] := by decide
  rw [e]
  simp only [List.forIn_cons, List.forIn_nil, s0, s1, hl1]
  by_cases h0 : p = x <;> by_cases h1 : q = x <;> simp [h0, h1, Str.length]
theorem find_two (p q x : Nat) : Txt.find ⟨#[p, q]⟩ ⟨#[x]⟩ = if p = x then 0 else if q = x then 1 else -1 := by
  unfold Txt.find
  rw [occ_two]
  by_cases h0 : p = x <;> by_cases h1 : q = x <;> simp [h0, h1]
theorem one_lt (x y : Nat) : (#[x] : Array Nat).toList < (#[y] : Array Nat).toList ↔ x < y := by
  show List.Lex (· < ·) [x] [y] ↔ _
  constructor
  · intro h
    cases h with
    | rel h => exact h
    | cons h => cases h
  · exact fun h => .rel h
theorem one_lt_S (x : Nat) (y : Nat) (Y : Str) (h : Y = ⟨#[y]⟩) : ((⟨#[x]⟩ : Str).cps.toList < Y.cps.toList ↔ x < y) := by rw [h]; exact one_lt x y
theorem S_lt_one (x : Nat) (y : Nat) (Y : Str) (h : Y = ⟨#[y]⟩) : (Y.cps.toList < (⟨#[x]⟩ : Str).cps.toList ↔ y < x) := by rw [h]; exact one_lt y x
theorem lt_A (x : Nat) : ((⟨#[x]⟩ : Str).cps.toList < (Str.ofString "A").cps.toList) ↔ x < 65 := one_lt_S x 65 _ (by decide +kernel)
theorem lt_a (x : Nat) : ((⟨#[x]⟩ : Str).cps.toList < (Str.ofString "a").cps.toList) ↔ x < 97 := one_lt_S x 97 _ (by decide +kernel)
theorem Z_lt (x : Nat) : ((Str.ofString "Z").cps.toList < (⟨#[x]⟩ : Str).cps.toList) ↔ 90 < x := S_lt_one x 90 _ (by decide +kernel)
theorem z_lt (x : Nat) : ((Str.ofString "z").cps.toList < (⟨#[x]⟩ : Str).cps.toList) ↔ 122 < x := S_lt_one x 122 _ (by decide +kernel)
theorem eq_slash (x : Nat) : ((⟨#[x]⟩ : Str) == Str.ofString "/") = decide (x = 47) := by
  have e : Str.ofString "/" = ⟨#[47]⟩ := by decide +kernel
  rw [e]
  by_cases h : x = 47
  · subst h; decide +kernel
  · rw [decide_eq_false h]
    rw [beq_eq_false_iff_ne]
    intro q
    injection q with q
    injection q with q
    injection q with q
    exact h q

end Mine
end
theorem Mine.gapWorth : (if True then True else True) := by
  w_top off
  (try walk1)
  w_top off
  all_goals first | trivial | simp
/- part Worth -/
section
open PySem PySem.W PyProof.Rows PySem.Calls
set_option maxRecDepth 100000
set_option maxHeartbeats 2000000
namespace Mine
local macro_rules | `(tactic| walk_at "eval Constant int") => `(tactic| refine const_int ?_)
local macro_rules | `(tactic| walk_at "binaryOp Add int int") => `(tactic| refine add_int' ?_)
local macro_rules | `(tactic| walk_at "mine enter") => `(tactic| (
  k_dflt (refine' enter ?kX ?kT ?k6 ?k7 ?k8 ?k9 ?kB ?_ ?c2 ?c3 ?c4 ?c5; (case kX => k_asm); (case kT => k_asm); (case k6 => k_is); (case k7 => k_is); (case k8 => (dsimp only [around]; omega)); (case k9 => first | exact BindsTo.of_eq rfl | walk_at "mine binds"); (case kB => exact locs rfl); (case c2 => exact rfl); (case c3 => exact rfl); (case c4 => exact rfl); (case c5 => decide); k_whole); intro L' h' tk' F' N'; (try dsimp only); (try k_fold)))
def worthF (p q x : Nat) : Int := if p = x then 62 else if q = x then 63 else if 65 ≤ x ∧ x ≤ 90 then (x : Int) - 65 else if 97 ≤ x ∧ x ≤ 122 then (x : Int) - 71 else if x = 47 then 63 else -1
theorem worthF_pair (p q x : Nat) (h : (Builtin.Str.occurrences ⟨#[p, q]⟩ ⟨#[x]⟩ 0 (⟨#[p, q]⟩ : Str).length 1).isEmpty = false) : 62 + Txt.find ⟨#[p, q]⟩ ⟨#[x]⟩ = worthF p q x := by
  rw [occ_two] at h
  rw [find_two, worthF]
  by_cases h0 : p = x
  · rw [if_pos h0, if_pos h0]; rfl
  · rw [if_neg h0, if_neg h0]
    by_cases h1 : q = x
    · rw [if_pos h1, if_pos h1]; rfl
    · rw [if_neg h0, if_neg h1] at h; cases h
theorem worthF_out {p q x : Nat} {y : Int} (h : (Builtin.Str.occurrences ⟨#[p, q]⟩ ⟨#[x]⟩ 0 (⟨#[p, q]⟩ : Str).length 1).isEmpty = true) (hy : y = if 65 ≤ x ∧ x ≤ 90 then (x : Int) - 65 else if 97 ≤ x ∧ x ≤ 122 then (x : Int) - 71 else if x = 47 then 63 else -1) : y = worthF p q x := by
  rw [occ_two] at h
  rw [hy, worthF]
  by_cases h0 : p = x
  · rw [if_pos h0] at h; cases h
  · by_cases h1 : q = x
    · rw [if_neg h0, if_pos h1] at h; cases h
    · rw [if_neg h0, if_neg h1]
theorem worth_says {w mean mg mb} (x p q : Nat) (t t' : Tok) : Says 1 w mean mg mb 216 [.str ⟨#[x]⟩ t, .str ⟨#[p, q]⟩ t'] (retI (worthF p q x)) := by
  unfold Says; k_fill
  intro dp un gd base envs h₀ gg dd tt oo R B X T hd hu hret
  walk_at "mine enter"
  k_steps
  all_goals (refine endI hret (by k_asm) ?_)
  all_goals clear hret
  all_goals first
    | exact worthF_pair _ _ _ (by assumption)
    | (refine worthF_out (by assumption) ?_
       (first | (have q1 := (lt_A x).mp (by assumption)) | (have q1 := mt (lt_A x).mpr (by assumption)) | skip)
       (first | (have q2 := (lt_a x).mp (by assumption)) | (have q2 := mt (lt_a x).mpr (by assumption)) | skip)
       (first | (have q3 := (Z_lt x).mp (by assumption)) | (have q3 := mt (Z_lt x).mpr (by assumption)) | skip)
       (first | (have q4 := (z_lt x).mp (by assumption)) | (have q4 := mt (z_lt x).mpr (by assumption)) | skip)
       (first | (have q5 := of_decide_eq_true ((eq_slash x).symm.trans (by assumption))) | (have q5 := of_decide_eq_false ((eq_slash x).symm.trans (by assumption))) | skip)
       (repeat' split) <;> omega)
end Mine
end
/- part Sub5 -/
section
open PySem PySem.Builtin PySem.Builtin.Re PySem.Builtin.Str
set_option maxRecDepth 100000
namespace Mine.S

theorem slot_sub : Slot "re.Pattern" "sub" "re.Pattern.sub" :=
  .of (owner := "re.Pattern") (n := "sub") (by rw [typeLookup_type, builtinLookup_eq_fast]; kernel_rfl) (by decide +kernel) (by decide +kernel) (by decide +kernel)
    (by first | exact .inl (by decide +kernel) | exact .inr (by decide +kernel)) (by rw [isSubtype_type]; kernel_rfl)
theorem type_sub : typeOf (.builtin "re.Pattern.sub") = pure (.type "method_descriptor") := by show builtinType _ = _; rw [builtinType_eq_fast]; kernel_rfl
theorem entry_sub : entryFor table "re.Pattern.sub" = some Builtin.«re.Pattern.sub» := entryFor_of_tree (by kernel_rfl)
theorem args_sub (a b c : Value) : argsOk "re.Pattern.sub" ⟨[a, b, c], []⟩ := by unfold argsOk; kernel_rfl
theorem plainAttrs_pattern : PlainAttrs "re.Pattern" :=
  ⟨⟨"object.__getattribute__", by rw [typeLookup_type, builtinLookup_eq_fast]; kernel_rfl, by decide +kernel⟩, by rw [typeLookup_type, builtinLookup_eq_fast]; kernel_rfl⟩
theorem no_call : typeLookup (.type "str") "__call__" = pure none := by rw [typeLookup_type, builtinLookup_eq_fast]; kernel_rfl

section
variable {prog : Program} {w : World} {A : Around} {E : Value → Shared → Prop} {s : Shared} {a : Addr} {code : Array Nat} {x rep : Str} {t u : Tok} {hit : Nat → Bool} {wid : Nat → Nat}

theorem method_sub {M : Model} {pl : Sem Bool} {Q : Value × List Value → Shared → Prop} (P : PatAt s.heap a code) (h : Q (.builtin "re.Pattern.sub", [.ref a]) s) : wpAny M A (getMethod (.ref a) (Str.ofString "sub") pl) Q E s :=
  getMethod_builtin P.typeIs plainAttrs_pattern slot_sub type_sub (fun b e => by
    cases e
    obtain ⟨o, vs, c, oc, cs, n, h1, h2, h3, _⟩ := P.obj
    exact ⟨o, h1, h3⟩) h

theorem sub_call {Q : Value → Shared → Prop} (P : PatAt s.heap a code) (hsz : x.cps.size ≤ 10000) (hrep : rep.cps.size ≤ 2) (hlit : rep.cps.contains 92 = false) (hw : ∀ p, hit p = true → 1 ≤ wid p ∧ p < x.cps.size ∧ p + wid p ≤ x.cps.size)
    (find : ∀ p, p ≤ x.cps.size → Ends (Sre.forSearch code x.cps 0 p x.cps.size false) 100000 (Found hit wid p x.cps.size))
    (h : ∀ t' k' h', (∀ b o, s.heap.get? b = some o → h'.get? b = some o) → Q (.str ⟨(rest x.cps hit wid rep.cps.toList 0).toArray⟩ t') { s with heap := h', toks := k' }) :
    wpAny (model prog w) A (call (.builtin "re.Pattern.sub") [.ref a, .str rep u, .str x t]) Q E s := by
  refine wpAny_call (codeAny_call_builtin slot_sub.plain entry_sub (slot_sub.check _ _ _ _ _ _ _ _ P.typeIs (args_sub _ _ _) ?_))
  show wpAny _ _ (reNamed "re.Pattern.sub" "sub" ["repl", "string", "count"] 2 [.str rep u, .str x t] [] >>= fun l => _) _ _ s
  refine wpAny_bind (wpAny_of_eq (a := [some (.str rep u), some (.str x t), none]) (by kernel_rfl) ?_)
  show wpAny _ _ (specialOf (.str rep u) "__call__" >>= fun c => _) _ _ s
  refine wpAny_bind (wpAny_specialOf (typeIs_str _ _ _) no_call ?_)
  show wpAny _ _ (if (!rep.cps.contains 92) = true then _ else _) _ _ s
  rw [hlit]
  show wpAny _ _ (reWholeTarget (.ref a) (.str x t) >>= fun _ => newList [] >>= fun l => again (.builtin "re.Pattern.sub.loop" ⟨[.ref a, .str x t, .str rep u, rawInt 0, rawInt 0, rawInt 0, rawInt 0, rawInt 0, .bool false, l, .bool false], []⟩)) _ _ s
  refine wpAny_bind (whole_wp P (wpAny_bind (wpAny_newList (wpAny_pure ⟨plainId_quiet plain_loop _, ?_⟩))))
  have hD : s.heap.get? s.heap.objs.size = none := by
    cases q : s.heap.get? s.heap.objs.size with
    | none => rfl
    | some o => exact absurd (Heap.lt_size q) (Nat.lt_irrefl _)
  refine loop_wp P hD hsz hrep hw find (x.cps.size) 0 0 [] _ (by omega) (by omega) (fun b o e => Heap.get?_push_of_some _ e) ⟨_, Heap.get?_push_size _ rfl⟩ (by simp) (by simp [flat]) ?_
  intro t' k' h' hk'
  exact h t' k' h' hk'

theorem hit1_wid {text : Array Nat} : ∀ p, hit1 text p = true → 1 ≤ 1 ∧ p < text.size ∧ p + 1 ≤ text.size := fun p h => by
  simp only [hit1, Bool.and_eq_true, decide_eq_true_eq] at h
  omega
theorem hit2_wid {text : Array Nat} : ∀ p, hit2 text p = true → 1 ≤ wid2 text p ∧ p < text.size ∧ p + wid2 text p ≤ text.size := fun p h => by
  have := hit2_lt h
  unfold wid2
  by_cases hc : text.getD p 0 = 13 ∧ p + 1 < text.size ∧ text.getD (p + 1) 0 = 10
  · rw [if_pos hc]; omega
  · rw [if_neg hc]; omega
theorem two_dots : (⟨#[46, 46]⟩ : Str) = Str.ofString ".." := by decide +kernel
theorem ret_feed : (⟨#[13, 10]⟩ : Str) = Str.ofString "\r\n" := by decide +kernel
theorem sub1_call {Q : Value → Shared → Prop} (P : PatAt s.heap a code1) (hsz : x.cps.size ≤ 10000)
    (h : ∀ t' k' h', (∀ b o, s.heap.get? b = some o → h'.get? b = some o) → Q (.str ⟨(rest x.cps (hit1 x.cps) (fun _ => 1) [46, 46] 0).toArray⟩ t') { s with heap := h', toks := k' }) :
    wpAny (model prog w) A (call (.builtin "re.Pattern.sub") [.ref a, .str (Str.ofString "..") u, .str x t]) Q E s :=
  two_dots ▸ sub_call (rep := ⟨#[46, 46]⟩) (hit := hit1 x.cps) (wid := fun _ => 1) P hsz (by decide) (by decide +kernel) hit1_wid (fun p hp => let ⟨k, m', hk, r⟩ := search1 hp; ⟨k, m', by omega, r⟩) h
theorem sub2_call {Q : Value → Shared → Prop} (P : PatAt s.heap a code2) (hsz : x.cps.size ≤ 10000)
    (h : ∀ t' k' h', (∀ b o, s.heap.get? b = some o → h'.get? b = some o) → Q (.str ⟨(rest x.cps (hit2 x.cps) (wid2 x.cps) [13, 10] 0).toArray⟩ t') { s with heap := h', toks := k' }) :
    wpAny (model prog w) A (call (.builtin "re.Pattern.sub") [.ref a, .str (Str.ofString "\r\n") u, .str x t]) Q E s :=
  ret_feed ▸ sub_call (rep := ⟨#[13, 10]⟩) (hit := hit2 x.cps) (wid := wid2 x.cps) P hsz (by decide) (by decide +kernel) hit2_wid (fun p hp => let ⟨k, m', hk, r⟩ := search2 hp; ⟨k, m', by omega, r⟩) h
end
end Mine.S
end
theorem Mine.gapQuote : (if True then True else True) := by
  w_top off
  (try walk1)
  w_top off
  all_goals first | trivial | simp
/- part Quote -/
section
open PySem PySem.W PyProof.Rows PySem.Calls
set_option maxRecDepth 100000
set_option maxHeartbeats 2000000
namespace Mine
local macro_rules | `(tactic| walk_at "mine enter") => `(tactic| (
  k_dflt (refine' enter ?kX ?kT ?k6 ?k7 ?k8 ?k9 ?kB ?_ ?c2 ?c3 ?c4 ?c5; (case kX => k_asm); (case kT => k_asm); (case k6 => k_is); (case k7 => k_is); (case k8 => (dsimp only [around]; omega)); (case k9 => first | exact BindsTo.of_eq rfl | walk_at "mine binds"); (case kB => exact locs rfl); (case c2 => exact rfl); (case c3 => exact rfl); (case c4 => exact rfl); (case c5 => decide); k_whole); intro L' h' tk' F' N'; (try dsimp only); (try k_fold)))
def norm (x : Str) : Str := ⟨(S.rest x.cps (S.hit2 x.cps) (S.wid2 x.cps) [13, 10] 0).toArray⟩
def dotted (x : Str) : Str := ⟨(S.rest x.cps (S.hit1 x.cps) (fun _ => 1) [46, 46] 0).toArray⟩

theorem pat1 {P : Params} {h : Heap} (X : (Mine.hd.heap_39 P).In h) : S.PatAt h 101 S.code1 := by
  refine ⟨⟨_, _, _, _, _, _, X 101 _ rfl, rfl, rfl, rfl, rfl, rfl, rfl, X 100 _ rfl, rfl, ?_⟩⟩
  decide +kernel
theorem pat2 {P : Params} {h : Heap} (X : (Mine.hd.heap_39 P).In h) : S.PatAt h 106 S.code2 := by
  refine ⟨⟨_, _, _, _, _, _, X 106 _ rfl, rfl, rfl, rfl, rfl, rfl, rfl, X 105 _ rfl, rfl, ?_⟩⟩
  decide +kernel
section
variable {w : World} {A : Around} {E : Value → Shared → Prop} {s : Shared} {h₀ : Heap} {L : Addr} {m : Str → Option Value} {news : List (Addr × Obj)}
theorem kkeep {h : Heap} (F : Fr h₀ L s.heap m) (N : News h₀ L s.heap news) (hk : ∀ b o, s.heap.get? b = some o → h.get? b = some o) : Fr h₀ L h m ∧ News h₀ L h news :=
  ⟨⟨F.ns.keeps hk, fun b o e => hk b o (F.keep b o e), F.above⟩, fun p hp => ⟨hk _ _ (N p hp).1, (N p hp).2⟩⟩
theorem sub1_K {prog : Program} {x : Str} {t u : Tok} {Q : Value → Shared → Prop} (F : Fr h₀ L s.heap m) (X : (Mine.hd.heap_39 w.params).In h₀) (N : News h₀ L s.heap news) (hsz : x.length ≤ 10000)
    (h : ∀ t' h' k', Fr h₀ L h' m → News h₀ L h' news → Q (.str (dotted x) t') { s with heap := h', toks := k' }) :
    wpAny (model prog w) A (call (.builtin "re.Pattern.sub") [.ref 101, .str (Str.ofString "..") u, .str x t]) Q E s :=
  S.sub1_call (pat1 (X.keeps F.keep)) hsz fun t' k' h' hk => h t' h' k' (kkeep F N hk).1 (kkeep F N hk).2
theorem sub2_K {prog : Program} {x : Str} {t u : Tok} {Q : Value → Shared → Prop} (F : Fr h₀ L s.heap m) (X : (Mine.hd.heap_39 w.params).In h₀) (N : News h₀ L s.heap news) (hsz : x.length ≤ 10000)
    (h : ∀ t' h' k', Fr h₀ L h' m → News h₀ L h' news → Q (.str (norm x) t') { s with heap := h', toks := k' }) :
    wpAny (model prog w) A (call (.builtin "re.Pattern.sub") [.ref 106, .str (Str.ofString "\r\n") u, .str x t]) Q E s :=
  S.sub2_call (pat2 (X.keeps F.keep)) hsz fun t' k' h' hk => h t' h' k' (kkeep F N hk).1 (kkeep F N hk).2
theorem meth1_K {M : Model} {pl : Sem Bool} {Q : Value × List Value → Shared → Prop} (F : Fr h₀ L s.heap m) (X : (Mine.hd.heap_39 w.params).In h₀) (h : Q (.builtin "re.Pattern.sub", [.ref 101]) s) : wpAny M A (getMethod (.ref 101) (Str.ofString "sub") pl) Q E s :=
  S.method_sub (pat1 (X.keeps F.keep)) h
theorem meth2_K {M : Model} {pl : Sem Bool} {Q : Value × List Value → Shared → Prop} (F : Fr h₀ L s.heap m) (X : (Mine.hd.heap_39 w.params).In h₀) (h : Q (.builtin "re.Pattern.sub", [.ref 106]) s) : wpAny M A (getMethod (.ref 106) (Str.ofString "sub") pl) Q E s :=
  S.method_sub (pat2 (X.keeps F.keep)) h
end
theorem tailSub_length {text : Array Nat} {hit : Nat → Bool} {wid : Nat → Nat} {rep : List Nat} (hr : rep.length ≤ 2) : ∀ f p, (S.tailSub text hit wid rep f p).length ≤ 2 * f
  | 0, _ => Nat.le_refl _
  | f + 1, p => by
    have h1 := tailSub_length (text := text) (hit := hit) (wid := wid) hr f (p + wid p)
    have h2 := tailSub_length (text := text) (hit := hit) (wid := wid) hr f (p + 1)
    show (if p < text.size then _ else _ : List Nat).length ≤ _
    split
    · split
      · rw [List.length_append]; omega
      · rw [List.length_cons]; omega
    · exact Nat.zero_le _
theorem norm_length {x : Str} (h : x.length ≤ 3000) : (norm x).length ≤ 6000 := by
  show ((S.rest x.cps (S.hit2 x.cps) (S.wid2 x.cps) [13, 10] 0).toArray).size ≤ 6000
  rw [List.size_toArray]
  have := tailSub_length (text := x.cps) (hit := S.hit2 x.cps) (wid := S.wid2 x.cps) (rep := [13, 10]) (by decide) (x.cps.size - 0) 0
  have h' : x.cps.size ≤ 3000 := h
  unfold S.rest
  omega
local macro_rules | `(tactic| walk_at "getMethod ref") => `(tactic| (k_here; (with_reducible show wpAny _ _ (getMethod (Value.ref 101) _ _) _ _ _); (refine meth1_K (by k_asm) (by k_asm) ?_)))
local macro_rules | `(tactic| walk_at "getMethod ref") => `(tactic| (k_here; (with_reducible show wpAny _ _ (getMethod (Value.ref 106) _ _) _ _ _); (refine meth2_K (by k_asm) (by k_asm) ?_)))
local macro_rules | `(tactic| walk_at "call builtin:re.Pattern.sub") => `(tactic| (k_here; (with_reducible show wpAny _ _ (call (Value.builtin "re.Pattern.sub") [Value.ref 101, _, _]) _ _ _); (refine sub1_K (by k_asm) (by k_asm) (by k_asm) ?hs ?_; (case hs => (have := norm_length (by assumption)); omega)); intro t' h' k' F' N'; (try k_sweep)))
local macro_rules | `(tactic| walk_at "call builtin:re.Pattern.sub") => `(tactic| (k_here; (with_reducible show wpAny _ _ (call (Value.builtin "re.Pattern.sub") [Value.ref 106, _, _]) _ _ _); (refine sub2_K (by k_asm) (by k_asm) (by k_asm) (by omega) ?_); intro t' h' k' F' N'; (try k_sweep)))
theorem quotedata_says {w mean mg mb} (c : Str) (t : Tok) (hc : c.length ≤ 3000) : Says 1 w mean mg mb 113 [.str c t] (retS (dotted (norm c))) := by
  unfold Says; k_fill
  intro dp un gd base envs h₀ gg dd tt oo R B X T hd hu hret
  walk_at "mine enter"
  k_steps
  all_goals (refine endS hret (by k_asm) ?_)
  all_goals rfl
end Mine
end
/- part CompA -/
section
open PySem PySem.W PyProof.Rows PySem.Calls
set_option maxRecDepth 100000
set_option maxHeartbeats 1000000
namespace Mine
open LCg (NsObj lst)
section
variable {prog : Program} {w : World} {A : Around} {h₀ : Heap} {L : Addr} {env : Env} {m : Str → Option Value} {gg : Array GenState} {dd : Drawn} {oo : OsState}

/-- the tests of a clause, one after the other -/
abbrev tested (ifs : List PySem.Expr) (env : Env) : Sem Bool := forIn ifs true fun c r => if r = true then do let ok ← isTrue c env (eval c env); pure (ForInStep.yield ok) else pure (ForInStep.yield r)

theorem compLoop_own {elt target iter : PySem.Expr} {ifs : List PySem.Expr} {scope : Scope} {pos : Pos} {it acc : Value} {s : Shared} {R : Result → Shared → Prop} (I : Nat → Shared → Prop)
    (turn : ∀ n s, I n s → wpAny (model prog w) A (pyNext it) (fun r s₁ => match r with
      | none => R (.ok .next) s₁
      | some v => wpAny (model prog w) A (letOwnedTupleGo target it v) (fun _ s₁' => wpAny (model prog w) A (assign target env v) (fun _ s₂ =>
          wpAny (model prog w) A (tested ifs env) (fun ok s₃ =>
            if ok = true then wpAny (model prog w) A (eval elt env) (fun x s₄ =>
              wpAny (model prog w) A (call (.builtin "list.append") [acc, x]) (fun _ s₅ => ∃ m, m < n ∧ I m s₅) (notedBy (model prog w) A env fun e s' => R (.error e) s') s₄) (notedBy (model prog w) A env fun e s' => R (.error e) s') s₃
            else ∃ m, m < n ∧ I m s₃) (notedBy (model prog w) A env fun e s' => R (.error e) s') s₂) (notedBy (model prog w) A env fun e s' => R (.error e) s') s₁') (notedBy (model prog w) A env fun e s' => R (.error e) s') s₁) (notedBy (model prog w) A env fun e s' => R (.error e) s') s)
    (n : Nat) (h : I n s) : codeAny (model prog w) A (.compLoop (.ListComp elt [⟨target, iter, ifs, 0⟩] scope pos) 0 it acc env) R s := by
  refine codeAny_loop rfl I (fun n s hI => ?_) n h
  show wpAny _ A ((compTurn (.ListComp elt [⟨target, iter, ifs, 0⟩] scope pos) 0 it acc env).onRaise (fun x => do noteFrame x env; theTreesLotGoes x)) _ _ s
  refine wpAny_noted ?_
  rw [compTurn_list]
  refine wpAny_bind (wpAny_standAt (wpAny_bind (wpAny_mono (turn n s hI) (fun r s₁ h₁ => ?_) fun _ _ x => x)))
  cases r with
  | none => exact wpAny_pure h₁
  | some v =>
    refine wpAny_bind (wpAny_mono h₁ (fun _ s₁' h₁' => ?_) fun _ _ x => x)
    refine wpAny_bind (wpAny_mono h₁' (fun _ s₂ h₂ => ?_) fun _ _ x => x)
    refine wpAny_bind (wpAny_mono h₂ (fun ok s₃ h₃ => ?_) fun _ _ x => x)
    cases ok with
    | false => exact wpAny_pure ⟨rfl, h₃⟩
    | true => exact wpAny_bind (wpAny_bind (wpAny_mono h₃ (fun x s₄ h₄ => wpAny_bind (wpAny_mono h₄ (fun _ s₅ h₅ => wpAny_pure (wpAny_pure ⟨rfl, h₅⟩)) fun _ _ x => x)) fun _ _ x => x))

/-- what a turn of a comprehension hands on: its own objects as they stood, the block's names changed, nothing else -/
def CompTurn (h₀ : Heap) (L : Addr) (m : Str → Option Value) (own : List (Addr × Obj)) (C D : Addr) (ys : List Value) (news : List (Addr × Obj)) (gg : Array GenState) (dd : Drawn) (oo : OsState) (K : Prop) (s : Shared) : Prop :=
  ∃ h' tk oC' m', s = ⟨h', gg, dd, tk, oo⟩ ∧ Fr h₀ L h' m ∧ NsObj oC' m' ∧ News h₀ L h' (own ++ ((C, oC') :: (D, lst ys) :: news)) ∧ K
/-- C, D apart from all else -/
structure Apart (L C D : Addr) (wr : List Addr) (news : List (Addr × Obj)) : Prop where
  cd : C ≠ D
  cl : C ≠ L
  dl : D ≠ L
  cw : C ∉ wr
  dw : D ∉ wr
  nw : ∀ p ∈ news, p.1 ∉ wr
  nc : ∀ p ∈ news, p.1 ≠ C
  nd : ∀ p ∈ news, p.1 ≠ D

theorem nat1 {C D b : Nat} (e : C = D + 1) (hb : b < D) : b ≠ C := by omega
theorem nat2 {C D : Nat} (e : C = D + 1) : C ≠ D := by omega
theorem nat3 {C D : Nat} (e : C = D + 1) : D ≤ C := by omega
theorem comp_own {elt target iter : PySem.Expr} {ifs : List PySem.Expr} {scope : Scope} {cl : List (Str × Addr)} {pos : Pos} {h : Heap} {tt : Nat} {I : Addr} {fp wr : List Addr} {n : Nat} {P Md : Nat → Value → Heap → Prop} {St : Nat → Heap → Prop}
    {news : List (Addr × Obj)} {RR : Value → Addr → Result → Shared → Prop} {E : Value → Shared → Prop}
    (W : KTurns prog w A target I fp wr n P Md St) (hself : ∀ (s : Shared) (Q E : Value → Shared → Prop), St 0 s.heap → Q (.ref I) s → wpAny (model prog w) A (pyIter (.ref I)) Q E s) (hsz : n ≤ sizeLine)
    (hLw : L ∉ wr) (hwr : ∀ b ∈ wr, h₀.get? b = none) (hfp : ∀ b ∈ fp, b ∈ wr ∨ (∃ o, h₀.get? b = some o) ∨ ∃ o, (b, o) ∈ news) (hlt : ∀ b ∈ fp, b < h.objs.size)
    (hIo : ∀ i h, St i h → ∃ own : List (Addr × Obj), own.map (·.1) = wr ∧ ∀ p ∈ own, h.get? p.1 = some p.2)
    (hcell : ∀ y ∈ scope.names, y.2 ≠ .cell) (hkind : scope.kind = .function)
    (hst : St 0 h) (F : Fr h₀ L h m) (N : News h₀ L h news) (hoff : ∀ p ∈ news, p.1 ∉ wr)
    (J : Nat → List Value → Prop) (h0 : J 0 [])
    (step : ∀ i v ys h₁ tk₁ (own : List (Addr × Obj)) C oC D m₁ (E' : Value → Shared → Prop), own.map (·.1) = wr → i < n → P i v h₁ → J i ys → Apart L C D wr news → Fr h₀ L h₁ m → NsObj oC m₁ → News h₀ L h₁ (own ++ ((C, oC) :: (D, lst ys) :: news)) →
      wpAny (model prog w) A (assign target (compEnvC scope cl C env) v) (fun _ s₂ => wpAny (model prog w) A (tested ifs (compEnvC scope cl C env)) (fun ok s₃ =>
        if ok = true then wpAny (model prog w) A (eval elt (compEnvC scope cl C env)) (fun y s₄ => CompTurn h₀ L m own C D ys news gg dd oo (J (i + 1) (ys ++ [y])) s₄) E' s₃
        else CompTurn h₀ L m own C D ys news gg dd oo (J (i + 1) ys) s₃) E' s₂) E' ⟨h₁, gg, dd, tk₁, oo⟩)
    (hRR : ∀ D C h' tk m' ys, Fr h₀ L h' m → News h₀ L h' ((D, lst ys) :: news) → h'.Ns C m' → h₀.get? C = none → h₀.get? D = none → Apart L C D wr news → J n ys → RR (.ref D) C (.ok .next) ⟨h', gg, dd, tk, oo⟩) :
    wpAny (model prog w) A (newList []) (fun acc s₃ => wpAny (model prog w) A (newFunctionEnv scope env.globals cl [] env.qual none .none (some env)) (fun cenv s₄ =>
      codeAny (model prog w) A (.compStart (.ListComp elt [⟨target, iter, ifs, 0⟩] scope pos) 0 (.ref I) acc { cenv with scope := relabel scope env }) (RR acc cenv.locals) s₄) E s₃) E ⟨h, gg, dd, tt, oo⟩ := by
  refine wpAny_newObj_type (wpAny_newFunctionEnv hcell (by intro y hy; simp at hy) (fun h₁ hns₁ hsb₁ => ?_) hkind)
  dsimp only at hns₁ hsb₁ ⊢
  generalize hH2 : h.push { cls := .type "list", dict := none, data := .seq ([] : List Value).toArray } = H2 at hns₁ hsb₁ ⊢
  have hC : H2.objs.size = h.objs.size + 1 := by rw [← hH2, Heap.size_push]
  generalize hD : h.objs.size = D at hC
  have gC : ∃ C, H2.objs.size = C := ⟨_, rfl⟩
  obtain ⟨C, eC⟩ := gC
  rw [eC] at hC
  have below : ∀ b, b < D → b ≠ C ∧ b ≠ D := fun b hb => ⟨nat1 hC hb, Nat.ne_of_lt hb⟩
  have old : ∀ b o, h.get? b = some o → h₁.get? b = some o := fun b o e => hsb₁.extBut b o (by rw [eC]; exact (below b (hD ▸ Heap.lt_size e)).1) (Heap.get?_push_of_some _ (hH2 ▸ Heap.get?_push_of_some _ e))
  have hacc : h₁.get? D = some (lst []) := hsb₁.extBut _ _ (by rw [eC]; exact Ne.symm (nat2 hC)) (Heap.get?_push_of_some _ (by rw [← hH2, ← hD]; exact Heap.get?_push_size _ rfl))
  have fresh₀ : ∀ a, D ≤ a → h₀.get? a = none := fun a ha => by
    cases e : h₀.get? a with
    | none => rfl
    | some o' => exact absurd (hD ▸ Heap.lt_size (F.keep a o' e)) (Nat.not_lt.mpr ha)
  have hD₀ := fresh₀ D (Nat.le_refl _)
  have hC₀ := fresh₀ C (nat3 hC)
  have hLlt : L < D := hD ▸ F.ns.lt
  have hnlt : ∀ p ∈ news, p.1 < D := fun p hp => hD ▸ Heap.lt_size (N p hp).1
  have hflt : ∀ b ∈ fp, b < D := fun b hb => hD ▸ hlt b hb
  have ap : Apart L C D wr news := ⟨nat2 hC, Ne.symm (below _ hLlt).1, Ne.symm (below _ hLlt).2, fun q => (below _ (hflt _ (W.sub _ q))).1 rfl, fun q => (below _ (hflt _ (W.sub _ q))).2 rfl, hoff, fun p hp => (below _ (hnlt p hp)).1, fun p hp => (below _ (hnlt p hp)).2⟩
  rw [eC] at hns₁ hsb₁ ⊢
  have hst₁ : St 0 h₁ := W.frame _ _ _ hst fun b _ o e => old b o e
  have loop : ∀ s₃ : Shared, s₃ = ⟨h₁, gg, dd, tt + ([] : List (Str × Value)).length, oo⟩ →
      codeAny (model prog w) A (.compLoop (.ListComp elt [⟨target, iter, ifs, 0⟩] scope pos) 0 (.ref I) (.ref D) (compEnvC scope cl C env)) (RR (.ref D) C) s₃ := by
    rintro s₃ rfl
    refine compLoop_own
      (fun k s' => ∃ h' tk i ys m', s' = ⟨h', gg, dd, tk, oo⟩ ∧ i ≤ n ∧ k = n + 1 - i ∧ ys.length ≤ i ∧ St i h' ∧ Fr h₀ L h' m ∧ h'.Ns C m' ∧ News h₀ L h' ((D, lst ys) :: news) ∧ J i ys) ?_ (n + 1)
      ⟨h₁, _, 0, [], _, rfl, Nat.zero_le _, rfl, Nat.le_refl _, hst₁, F.keeps old, hns₁, fun p hp => ?_, h0⟩
    · rintro k s' ⟨h', tk, i, ys, m', rfl, hi, rfl, hyl, hst', F', hn', N', hJ⟩
      have next : ∀ h₂ : Heap, (∀ b o, b ∉ wr → h'.get? b = some o → h₂.get? b = some o) → Fr h₀ L h₂ m ∧ h₂.Ns C m' ∧ News h₀ L h₂ ((D, lst ys) :: news) := fun h₂ hk => by
        refine ⟨⟨F'.ns.at' fun o e => hk _ o hLw e, fun b o e => hk b o (fun q => by rw [hwr b q] at e; cases e) (F'.keep b o e), F'.above⟩, hn'.at' fun o e => hk _ o ap.cw e, fun p hp => ⟨hk _ _ ?_ (N' p hp).1, (N' p hp).2⟩⟩
        rcases List.mem_cons.mp hp with rfl | hp
        · exact ap.dw
        · exact hoff p hp
      by_cases hlt' : i < n
      · refine W.item i _ _ _ hlt' hst' fun v h₂ tk₂ hMd hk₁ => ?_
        refine W.go i v _ _ _ hMd fun h₃ hP hst₃ hk₂ => ?_
        obtain ⟨F₃, hn₃, N₃⟩ := next h₃ fun b o hb x => hk₂ b o hb (hk₁ b o hb x)
        obtain ⟨own, hown, hoI⟩ := hIo _ _ hst₃
        obtain ⟨oC, heC, hoC⟩ := LCg.ns_obj hn₃
        have hmem : ∀ p ∈ own, p.1 ∈ wr := fun p hp => hown ▸ List.mem_map_of_mem hp
        have N₄ : News h₀ L h₃ (own ++ ((C, oC) :: (D, lst ys) :: news)) := fun p hp => by
          rcases List.mem_append.mp hp with hp | hp
          · exact ⟨hoI p hp, fun e => hLw (e ▸ hmem p hp), hwr _ (hmem p hp)⟩
          · rcases List.mem_cons.mp hp with rfl | hp
            · exact ⟨heC, ap.cl, hC₀⟩
            · exact N₃ p hp
        have go : ∀ (ys' : List Value) (s₄ : Shared), ys'.length ≤ i + 1 → (∃ h₅ tk₅ oC' m₅, s₄ = ⟨h₅, gg, dd, tk₅, oo⟩ ∧ Fr h₀ L h₅ m ∧ NsObj oC' m₅ ∧ News h₀ L h₅ (own ++ ((C, oC') :: (D, lst ys') :: news)) ∧ J (i + 1) ys') →
            ∃ k, k < n + 1 - i ∧ ∃ h' tk i ys m', s₄ = ⟨h', gg, dd, tk, oo⟩ ∧ i ≤ n ∧ k = n + 1 - i ∧ ys.length ≤ i ∧ St i h' ∧ Fr h₀ L h' m ∧ h'.Ns C m' ∧ News h₀ L h' ((D, lst ys) :: news) ∧ J i ys := by
          rintro ys' s₄ hl ⟨h₅, tk₅, oC', m₅, rfl, F₅, hC₅, N₅, hJ₅⟩
          refine ⟨n + 1 - (i + 1), by omega, h₅, tk₅, i + 1, ys', m₅, rfl, hlt', rfl, hl, ?_, F₅, hC₅.ns (N₅ _ (List.mem_append_right _ (.head _))).1, fun p hp => N₅ p (List.mem_append_right _ (.tail _ hp)), hJ₅⟩
          refine W.frame _ _ _ hst₃ fun b hb o e => ?_
          rcases hfp b hb with hb | ⟨o', e'⟩ | ⟨o', e'⟩
          · rw [← hown] at hb
            obtain ⟨p, hp, rfl⟩ := List.mem_map.mp hb
            have : o = p.2 := Option.some.inj (e.symm.trans (hoI p hp))
            rw [this]; exact (N₅ p (List.mem_append_left _ hp)).1
          · have : o' = o := Option.some.inj ((F₃.keep _ _ e').symm.trans e)
            rw [← this]; exact F₅.keep _ _ e'
          · have : o' = o := Option.some.inj ((N₃ _ (.tail _ e')).1.symm.trans e)
            rw [← this]; exact (N₅ _ (List.mem_append_right _ (.tail _ (.tail _ e')))).1
        refine wpAny_mono (step i v ys h₃ tk₂ own C oC D m' _ hown hlt' hP hJ ap F₃ (by
          obtain ⟨es, ep, q1, q2, q3⟩ := hoC
          exact ⟨es, ep, q1, q2, q3⟩) N₄) (fun _ s₂ h₂' => wpAny_mono h₂' (fun ok s₃ h₃' => ?_) fun _ _ e => e) fun _ _ e => e
        cases ok with
        | false => exact go ys s₃ (by omega) h₃'
        | true =>
          refine wpAny_mono h₃' (fun y s₄ h₄ => ?_) fun _ _ e => e
          obtain ⟨h₅, tk₅, oC', m₅, rfl, F₅, hC₅, N₅, hJ₅⟩ := h₄
          have zD := (N₅ (D, lst ys) (List.mem_append_right _ (.tail _ (.head _)))).1
          refine append_at (hsz := by show ys.toArray.size ≤ sizeLine; rw [List.size_toArray]; omega) zD fun h₆ hs₆ hD₆ => ?_
          refine go (ys ++ [y]) _ (by rw [List.length_append, List.length_singleton]; omega) ⟨h₆, tk₅, oC', m₅, rfl, F₅.change hs₆ ap.dl hD₀, hC₅, fun p hp => ?_, hJ₅⟩
          rcases List.mem_append.mp hp with hp | hp
          · have z := N₅ p (List.mem_append_left _ hp)
            exact ⟨hs₆.extBut _ _ (fun e => ap.dw (by rw [← e]; exact hmem p hp)) z.1, z.2⟩
          · rcases List.mem_cons.mp hp with rfl | hp
            · have z := N₅ (C, oC') (List.mem_append_right _ (.head _))
              exact ⟨hs₆.extBut _ _ ap.cd z.1, z.2⟩
            · rcases List.mem_cons.mp hp with rfl | hp
              · exact ⟨hD₆.trans (congrArg some (LCg.lst_snoc ys y)), ap.dl, hD₀⟩
              · have z := N₅ p (List.mem_append_right _ (.tail _ (.tail _ hp)))
                exact ⟨hs₆.extBut _ _ (ap.nd p hp) z.1, z.2⟩
      · obtain rfl : i = n := Nat.le_antisymm hi (Nat.not_lt.mp hlt')
        refine W.done _ _ _ hst' fun h₂ tk₂ hk₂ => ?_
        obtain ⟨F₂, hn₂, N₂⟩ := next h₂ hk₂
        exact hRR _ _ h₂ tk₂ _ ys F₂ N₂ hn₂ hC₀ hD₀ ap hJ
    · rcases List.mem_cons.mp hp with rfl | hp
      · exact ⟨hacc, ap.dl, hD₀⟩
      · exact ⟨old _ _ (N p hp).1, (N p hp).2⟩
  exact codeAny_compStart_list (loop _ rfl) (hself _ _ _ hst₁ (loop _ rfl))
end
end Mine
end
/- part CompB -/
section
open PySem PySem.W PyProof.Rows PySem.Calls
set_option maxRecDepth 100000
set_option maxHeartbeats 1000000
namespace Mine
open LCg (NsObj lst)
section
variable {prog : Program} {w : World} {A : Around} {h₀ : Heap} {L : Addr} {env : Env} {m : Str → Option Value} {gg : Array GenState} {dd : Drawn} {oo : OsState}

/-- a name of the block is stored -/
theorem comp_store {x : Str} {px : Pos} {scope : Scope} {cl : List (Str × Addr)} {C D : Addr} {oC : Obj} {m₁ : Str → Option Value} {own news : List (Addr × Obj)} {ys : List Value} {wr : List Addr} {v : Value} {h : Heap} {tt : Nat} {Q : Unit → Shared → Prop} {E : Value → Shared → Prop}
    (hx : scope.names.lookup x = some .local) (hkind : scope.kind = .function) (ap : Apart L C D wr news) (hown : own.map (·.1) = wr)
    (F : Fr h₀ L h m) (hC : NsObj oC m₁) (N : News h₀ L h (own ++ ((C, oC) :: (D, lst ys) :: news)))
    (q : ∀ h' tk' oC', Fr h₀ L h' m → NsObj oC' (fun y => if y = x then some v else m₁ y) → News h₀ L h' (own ++ ((C, oC') :: (D, lst ys) :: news)) → Q () ⟨h', gg, dd, tk', oo⟩) :
    wpAny (model prog w) A (assign (.Name x px) (compEnvC scope cl C env) v) Q E ⟨h, gg, dd, tt, oo⟩ := by
  have zC := N (C, oC) (List.mem_append_right _ (.head _))
  refine wpAny_assign_Name (wpAny_storeName_local (lookup_relabel_local hx) (hC.ns zC.1) (fun h₂ hn₂ hs₂ => ?_) (by simp [compEnvC, relabel, hkind]))
  obtain ⟨oC', heC, hoC⟩ := LCg.ns_obj hn₂
  have hs : Heap.SameBut C h h₂ := hs₂
  refine q h₂ _ oC' (F.change hs ap.cl zC.2.2) hoC fun p hp => ?_
  rcases List.mem_append.mp hp with hp | hp
  · have z := N p (List.mem_append_left _ hp)
    exact ⟨hs.extBut _ _ (fun e => ap.cw (by rw [← e, ← hown]; exact List.mem_map_of_mem hp)) z.1, z.2⟩
  · rcases List.mem_cons.mp hp with rfl | hp
    · exact ⟨heC, ap.cl, zC.2.2⟩
    · have z := N p (List.mem_append_right _ (.tail _ hp))
      refine ⟨hs.extBut _ _ ?_ z.1, z.2⟩
      rcases List.mem_cons.mp hp with rfl | hp
      · exact Ne.symm ap.cd
      · exact ap.nc p hp

/-- three names of the block are stored from a tuple -/
theorem comp_three {x1 x2 x3 : Str} {p1 p2 p3 tp : Pos} {k : Nat} {scope : Scope} {cl : List (Str × Addr)} {C D T : Addr} {oC : Obj} {m₁ : Str → Option Value} {own news : List (Addr × Obj)} {ys : List Value} {wr : List Addr} {v1 v2 v3 : Value} {h : Heap} {tt : Nat} {Q : Unit → Shared → Prop} {E : Value → Shared → Prop}
    (hh : A.handled = none) (hT : IsTup h T #[v1, v2, v3])
    (hx1 : scope.names.lookup x1 = some .local) (hx2 : scope.names.lookup x2 = some .local) (hx3 : scope.names.lookup x3 = some .local) (h12 : x1 ≠ x2) (h13 : x1 ≠ x3) (h23 : x2 ≠ x3) (hkind : scope.kind = .function) (ap : Apart L C D wr news) (hown : own.map (·.1) = wr)
    (F : Fr h₀ L h m) (hC : NsObj oC m₁) (N : News h₀ L h (own ++ ((C, oC) :: (D, lst ys) :: news)))
    (q : ∀ h' tk' oC' m₂, Fr h₀ L h' m → NsObj oC' m₂ → m₂ x1 = some v1 → m₂ x2 = some v2 → m₂ x3 = some v3 → News h₀ L h' (own ++ ((C, oC') :: (D, lst ys) :: news)) → Q () ⟨h', gg, dd, tk', oo⟩) :
    wpAny (model prog w) A (assign (.Tuple [.Name x1 p1, .Name x2 p2, .Name x3 p3] k tp) (compEnvC scope cl C env) (.ref T)) Q E ⟨h, gg, dd, tt, oo⟩ := by
  refine assign_Tuple_tuple hh hT rfl rfl fun h₂ he => ?_
  have F₂ := F.extBut he (Nat.le_refl _)
  have N₂ := N.extBut he (Nat.le_refl _)
  refine assignInOrder_cons (comp_store hx1 hkind ap hown F₂ hC N₂ fun h₃ tk₃ oC₃ F₃ hC₃ N₃ => ?_)
  refine assignInOrder_cons (comp_store hx2 hkind ap hown F₃ hC₃ N₃ fun h₄ tk₄ oC₄ F₄ hC₄ N₄ => ?_)
  refine assignInOrder_cons (comp_store hx3 hkind ap hown F₄ hC₄ N₄ fun h₅ tk₅ oC₅ F₅ hC₅ N₅ => ?_)
  refine assignInOrder_nil (q h₅ tk₅ oC₅ _ F₅ hC₅ ?_ ?_ ?_ N₅)
  · rw [if_neg h13, if_neg h12, if_pos rfl]
  · rw [if_neg h23, if_pos rfl]
  · rw [if_pos rfl]

/-- a made list as the source -/
theorem comp_list {elt target iter : PySem.Expr} {ifs : List PySem.Expr} {scope : Scope} {cl : List (Str × Addr)} {pos : Pos} {h : Heap} {tt : Nat} {ax : Addr} {its : Array Value} {k : Nat}
    {news : List (Addr × Obj)} {RR : Value → Addr → Result → Shared → Prop} {E : Value → Shared → Prop} (hh : A.handled = none) (hm : (ax, W.listOf its k) ∈ news) (hsz : its.size ≤ sizeLine)
    (hcell : ∀ y ∈ scope.names, y.2 ≠ .cell) (hkind : scope.kind = .function) (F : Fr h₀ L h m) (N : News h₀ L h news)
    (J : Nat → List Value → Prop) (h0 : J 0 [])
    (step : ∀ i v ys h₁ tk₁ I oI C oC D m₁ (E' : Value → Shared → Prop), i < its.size → its[i]? = some v → J i ys → Apart L C D [I] news → Fr h₀ L h₁ m → NsObj oC m₁ → News h₀ L h₁ ((I, oI) :: (C, oC) :: (D, lst ys) :: news) →
      wpAny (model prog w) A (assign target (compEnvC scope cl C env) v) (fun _ s₂ => wpAny (model prog w) A (tested ifs (compEnvC scope cl C env)) (fun ok s₃ =>
        if ok = true then wpAny (model prog w) A (eval elt (compEnvC scope cl C env)) (fun y s₄ => CompTurn h₀ L m [(I, oI)] C D ys news gg dd oo (J (i + 1) (ys ++ [y])) s₄) E' s₃
        else CompTurn h₀ L m [(I, oI)] C D ys news gg dd oo (J (i + 1) ys) s₃) E' s₂) E' ⟨h₁, gg, dd, tk₁, oo⟩)
    (hRR : ∀ D C h' tk m' ys, Fr h₀ L h' m → News h₀ L h' ((D, lst ys) :: news) → h'.Ns C m' → h₀.get? C = none → h₀.get? D = none → (∃ wr, Apart L C D wr news) → J its.size ys → RR (.ref D) C (.ok .next) ⟨h', gg, dd, tk, oo⟩) :
    wpAny (model prog w) A (pyIter (.ref ax)) (fun it s₂ => wpAny (model prog w) A (newList []) (fun acc s₃ => wpAny (model prog w) A (newFunctionEnv scope env.globals cl [] env.qual none .none (some env)) (fun cenv s₄ =>
      codeAny (model prog w) A (.compStart (.ListComp elt [⟨target, iter, ifs, 0⟩] scope pos) 0 it acc { cenv with scope := relabel scope env }) (RR acc cenv.locals) s₄) E s₃) E s₂) E ⟨h, gg, dd, tt, oo⟩ := by
  have hl : h.IsList ax its := ⟨_, (N _ hm).1, rfl, k, rfl⟩
  have hlt : ax < h.objs.size := Heap.lt_size (N _ hm).1
  refine wpAny_pyIter_list hl ?_
  have W₀ := Walks.list (prog := prog) (w := w) hh h.objs.size ax (Nat.ne_of_lt hlt) its
  have W := KTurns.ofWalks (target := target) W₀ fun i v s Q E st q => letGo_listiter st.1 q
  refine comp_own W (fun s Q E st q => W₀.self 0 s Q E st q) hsz ?_ ?_ ?_ ?_ ?_ hcell hkind ⟨⟨_, Heap.get?_push_size _ rfl, rfl, rfl⟩, hl.push _⟩ (F.push _) (fun p hp => ⟨Heap.get?_push_of_some _ (N p hp).1, (N p hp).2⟩) ?_ J h0 ?_ ?_
  · intro q; exact absurd F.ns.lt ((List.mem_singleton.mp q) ▸ Nat.lt_irrefl _)
  · intro b hb; rw [List.mem_singleton.mp hb]; exact next_is_new F
  · intro b hb
    rcases List.mem_cons.mp hb with e | hb
    · exact .inl (by rw [e]; exact .head _)
    · exact .inr (.inr ⟨_, by rw [List.mem_singleton.mp hb]; exact hm⟩)
  · intro b hb
    show b < (h.push _).objs.size
    rw [Heap.size_push]
    rcases List.mem_cons.mp hb with e | hb
    · rw [e]; exact Nat.lt_succ_self _
    · rw [List.mem_singleton.mp hb]; exact Nat.lt_succ_of_lt hlt
  · intro i h' st
    obtain ⟨o, ho, _⟩ := st.1
    exact ⟨[(h.objs.size, o)], rfl, fun p hp => by rw [List.mem_singleton.mp hp]; exact ho⟩
  · intro p hp q
    exact absurd (Heap.lt_size (N p hp).1) ((List.mem_singleton.mp q) ▸ Nat.lt_irrefl _)
  · intro i v ys h₁ tk₁ own C oC D m₁ E' hown hi hP hJ ap F₁ hC N₁
    obtain ⟨o, rfl⟩ := own_one hown
    exact step i v ys h₁ tk₁ _ o C oC D m₁ E' hi hP hJ ap F₁ hC N₁
  · exact fun D C h' tk m' ys F' N' n1 c d ap hJ => hRR D C h' tk m' ys F' N' n1 c d ⟨_, ap⟩ hJ
/-- a text as the source -/
theorem comp_str {elt iter : PySem.Expr} {x : Str} {px : Pos} {ifs : List PySem.Expr} {scope : Scope} {cl : List (Str × Addr)} {pos : Pos} {h : Heap} {tt : Nat} {z : Str} {tz : Tok}
    {news : List (Addr × Obj)} {RR : Value → Addr → Result → Shared → Prop} {E : Value → Shared → Prop} (hh : A.handled = none) (hsz : z.cps.size ≤ sizeLine)
    (hcell : ∀ y ∈ scope.names, y.2 ≠ .cell) (hkind : scope.kind = .function) (F : Fr h₀ L h m) (N : News h₀ L h news)
    (J : Nat → List Value → Prop) (h0 : J 0 [])
    (step : ∀ i v ys h₁ tk₁ I oI C oC D m₁ (E' : Value → Shared → Prop), i < z.cps.size → SignAt z i v → J i ys → Apart L C D [I] news → Fr h₀ L h₁ m → NsObj oC m₁ → News h₀ L h₁ ((I, oI) :: (C, oC) :: (D, lst ys) :: news) →
      wpAny (model prog w) A (assign (.Name x px) (compEnvC scope cl C env) v) (fun _ s₂ => wpAny (model prog w) A (tested ifs (compEnvC scope cl C env)) (fun ok s₃ =>
        if ok = true then wpAny (model prog w) A (eval elt (compEnvC scope cl C env)) (fun y s₄ => CompTurn h₀ L m [(I, oI)] C D ys news gg dd oo (J (i + 1) (ys ++ [y])) s₄) E' s₃
        else CompTurn h₀ L m [(I, oI)] C D ys news gg dd oo (J (i + 1) ys) s₃) E' s₂) E' ⟨h₁, gg, dd, tk₁, oo⟩)
    (hRR : ∀ D C h' tk m' ys, Fr h₀ L h' m → News h₀ L h' ((D, lst ys) :: news) → h'.Ns C m' → h₀.get? C = none → h₀.get? D = none → (∃ wr, Apart L C D wr news) → J z.cps.size ys → RR (.ref D) C (.ok .next) ⟨h', gg, dd, tk, oo⟩) :
    wpAny (model prog w) A (pyIter (.str z tz)) (fun it s₂ => wpAny (model prog w) A (newList []) (fun acc s₃ => wpAny (model prog w) A (newFunctionEnv scope env.globals cl [] env.qual none .none (some env)) (fun cenv s₄ =>
      codeAny (model prog w) A (.compStart (.ListComp elt [⟨.Name x px, iter, ifs, 0⟩] scope pos) 0 it acc { cenv with scope := relabel scope env }) (RR acc cenv.locals) s₄) E s₃) E s₂) E ⟨h, gg, dd, tt, oo⟩ := by
  have go : ∀ (ob : Obj) (St : Nat → Heap → Prop), Walks prog w A h.objs.size [h.objs.size] [h.objs.size] z.cps.size (SignAt z) St → St 0 (h.push ob) → (∀ i h', St i h' → ∃ o, h'.get? h.objs.size = some o) →
      wpAny (model prog w) A (newList []) (fun acc s₃ => wpAny (model prog w) A (newFunctionEnv scope env.globals cl [] env.qual none .none (some env)) (fun cenv s₄ =>
        codeAny (model prog w) A (.compStart (.ListComp elt [⟨.Name x px, iter, ifs, 0⟩] scope pos) 0 (.ref h.objs.size) acc { cenv with scope := relabel scope env }) (RR acc cenv.locals) s₄) E s₃) E ⟨h.push ob, gg, dd, tt, oo⟩ := by
    intro ob St W₀ st0 hSt
    have W := KTurns.ofWalks (target := .Name x px) W₀ fun i v s Q E st q => wpAny_of_eq (a := ()) rfl q
    refine comp_own W (fun s Q E st q => W₀.self 0 s Q E st q) hsz ?_ ?_ ?_ ?_ ?_ hcell hkind st0 (F.push _) (fun p hp => ⟨Heap.get?_push_of_some _ (N p hp).1, (N p hp).2⟩) ?_ J h0 ?_ ?_
    · intro q; exact absurd F.ns.lt ((List.mem_singleton.mp q) ▸ Nat.lt_irrefl _)
    · intro b hb; rw [List.mem_singleton.mp hb]; exact next_is_new F
    · intro b hb; exact .inl hb
    · intro b hb
      show b < (h.push _).objs.size
      rw [Heap.size_push, List.mem_singleton.mp hb]; exact Nat.lt_succ_self _
    · intro i h' st
      obtain ⟨o, ho⟩ := hSt i h' st
      exact ⟨[(h.objs.size, o)], rfl, fun p hp => by rw [List.mem_singleton.mp hp]; exact ho⟩
    · intro p hp q
      exact absurd (Heap.lt_size (N p hp).1) ((List.mem_singleton.mp q) ▸ Nat.lt_irrefl _)
    · intro i v ys h₁ tk₁ own C oC D m₁ E' hown hi hP hJ ap F₁ hC N₁
      obtain ⟨o, rfl⟩ := own_one hown
      exact step i v ys h₁ tk₁ _ o C oC D m₁ E' hi hP hJ ap F₁ hC N₁
    · exact fun D C h' tk m' ys F' N' n1 c d ap hJ => hRR D C h' tk m' ys F' N' n1 c d ⟨_, ap⟩ hJ
  cases ha : z.cps.all (· < 128)
  · exact wpAny_pyIter_wide ha (go _ _ (Walks.strWide hh _ z tz) ⟨_, Heap.get?_push_size _ rfl, rfl, rfl⟩ fun i h' st => let ⟨o, ho, _⟩ := st; ⟨o, ho⟩)
  · exact wpAny_pyIter_ascii ha (go _ _ (Walks.strAscii hh _ z tz) ⟨_, Heap.get?_push_size _ rfl, rfl, rfl⟩ fun i h' st => let ⟨o, ho, _⟩ := st; ⟨o, ho⟩)

/-- the value of a comprehension -/
theorem comp_eval {elt target iter : PySem.Expr} {ifs : List PySem.Expr} {scope : Scope} {cl : List (Str × Addr)} {pos : Pos} {s : Shared} {v : Value} {Q : Value → Shared → Prop} {E : Value → Shared → Prop}
    (hclos : closureFor scope env = pure cl) (hkind : scope.kind = .function) (hnames : ∀ y ∈ scope.names, y.2 = .local → scope.names.lookup y.1 = some .local)
    (hev : ∀ Q' : Value → Shared → Prop, Q' v s → wpAny (model prog w) A (eval iter env) Q' E s)
    (h : wpAny (model prog w) A (pyIter v) (fun it s₂ => wpAny (model prog w) A (newList []) (fun acc s₃ => wpAny (model prog w) A (newFunctionEnv scope env.globals cl [] env.qual none .none (some env)) (fun cenv s₄ =>
      codeAny (model prog w) A (.compStart (.ListComp elt [⟨target, iter, ifs, 0⟩] scope pos) 0 it acc { cenv with scope := relabel scope env }) (compPost (model prog w) A E none Q acc cenv.locals) s₄) E s₃) E s₂) E s)
    (hs : ∀ x, foldedSetIterable iter env x = pure x := by intro _; rfl) :
    wpAny (model prog w) A (eval (.ListComp elt [⟨target, iter, ifs, 0⟩] scope pos) env) Q E s := by
  rw [eval_ListComp]
  exact wpAny_comprehension_free (use := none) rfl hs hclos hkind hnames (hev _ h)
theorem comp_evalR {D C : Addr} {h' : Heap} {tk : Nat} {m' : Str → Option Value} {ys : List Value} {news : List (Addr × Obj)} {Q : Value → Shared → Prop} {E : Value → Shared → Prop}
    (F : Fr h₀ L h' m) (N : News h₀ L h' ((D, lst ys) :: news)) (hn : h'.Ns C m') (hC₀ : h₀.get? C = none) (ap : ∃ wr, Apart L C D wr news)
    (q : ∀ h'', Fr h₀ L h'' m → News h₀ L h'' ((D, lst ys) :: news) → (∀ p ∈ news, p.1 ≠ D) → Q (.ref D) ⟨h'', gg, dd, tk, oo⟩) :
    compPost (model prog w) A E none Q (.ref D) C (.ok .next) ⟨h', gg, dd, tk, oo⟩ := by
  obtain ⟨wr, ap⟩ := ap
  refine ⟨m', hn, fun h'' hs => q h'' (F.change hs ap.cl hC₀) (fun p hp => ?_) ap.nd⟩
  refine ⟨hs.extBut _ _ ?_ (N p hp).1, (N p hp).2⟩
  rcases List.mem_cons.mp hp with rfl | hp
  · exact Ne.symm ap.cd
  · exact ap.nc p hp
theorem comp_assign {elt target iter : PySem.Expr} {ifs : List PySem.Expr} {scope : Scope} {cl : List (Str × Addr)} {pos spos py : Pos} {y : Str} {s : Shared} {v : Value} {Q : Flow → Shared → Prop} {E : Value → Shared → Prop}
    (hsw : swapsWith (.ListComp elt [⟨target, iter, ifs, 0⟩] scope pos) (some (.Name y py)) spos.line env = pure true)
    (hclos : closureFor scope env = pure cl) (hkind : scope.kind = .function) (hnames : ∀ y ∈ scope.names, y.2 = .local → scope.names.lookup y.1 = some .local)
    (hev : ∀ Q' : Value → Shared → Prop, Q' v s → wpAny (model prog w) A (eval iter env) Q' E s)
    (h : wpAny (model prog w) A (pyIter v) (fun it s₂ => wpAny (model prog w) A (newList []) (fun acc s₃ => wpAny (model prog w) A (newFunctionEnv scope env.globals cl [] env.qual none .none (some env)) (fun cenv s₄ =>
      codeAny (model prog w) A (.compStart (.ListComp elt [⟨target, iter, ifs, 0⟩] scope pos) 0 it acc { cenv with scope := relabel scope env }) (compPost (model prog w) A E (some (assign (.Name y py) env)) (fun _ s' => Q .next s') acc cenv.locals) s₄) E s₃) E s₂) E s)
    (hs : ∀ x, foldedSetIterable iter env x = pure x := by intro _; rfl) :
    wpAny (model prog w) A (exec (.Assign [.Name y py] (.ListComp elt [⟨target, iter, ifs, 0⟩] scope pos) spos) env) Q E s := by
  rw [exec_Assign_Name_used _ _ _ _ hsw]
  refine wpAny_bind (wpAny_standAt (wpAny_bind ?_))
  show wpAny _ A (do let _ ← comprehension (.ListComp elt [⟨target, iter, ifs, 0⟩] scope pos) scope env _ (newList []) false (eval iter env) (some (assign (.Name y py) env))) _ _ s
  exact wpAny_bind (wpAny_mono (wpAny_comprehension_free (use := some (assign (.Name y py) env)) (Q := fun _ s' => Q .next s') rfl hs hclos hkind hnames (hev _ h)) (fun _ s' hq => wpAny_pure (wpAny_pure hq)) fun _ _ e => e)
theorem comp_assignR {D C : Addr} {h' : Heap} {tk : Nat} {m' : Str → Option Value} {ys : List Value} {news : List (Addr × Obj)} {Q : Value → Shared → Prop} {E : Value → Shared → Prop} {y : Str} {py : Pos}
    (hLe : env.locals = L) (hy : env.kindOf y = some .local) (hp : (env.scope.kind == .class || (env.scope.kind == .module && env.locals != env.globals)) = false)
    (F : Fr h₀ L h' m) (N : News h₀ L h' ((D, lst ys) :: news)) (hn : h'.Ns C m') (hC₀ : h₀.get? C = none) (ap : ∃ wr, Apart L C D wr news)
    (q : ∀ h'' tk', Fr h₀ L h'' (fun z => if z = y then some (.ref D) else m z) → News h₀ L h'' ((D, lst ys) :: news) → (∀ p ∈ news, p.1 ≠ D) → Q .none ⟨h'', gg, dd, tk', oo⟩) :
    compPost (model prog w) A E (some (assign (.Name y py) env)) Q (.ref D) C (.ok .next) ⟨h', gg, dd, tk, oo⟩ := by
  obtain ⟨wr, ap⟩ := ap
  subst hLe
  show wpAny _ A (assign (.Name y py) env (.ref D)) _ _ _
  refine wpAny_assign_Name (wpAny_storeName_local hy F.ns (fun h₂ hn₂ hs₂ => ?_) hp)
  have hL₀ : h₀.get? env.locals = none := Heap.get?_none_of_le F.above
  have F₂ : Fr h₀ env.locals h₂ (fun z => if z = y then some (.ref D) else m z) := ⟨hn₂, fun b o e => hs₂.extBut b o (fun q => by rw [q, hL₀] at e; cases e) (F.keep b o e), F.above⟩
  refine ⟨m', hn.sameBut hs₂ ap.cl, fun h'' hs'' => q h'' _ (F₂.change hs'' ap.cl hC₀) (fun p hp => ?_) ap.nd⟩
  have z : h₂.get? p.1 = some p.2 := hs₂.extBut _ _ (N p hp).2.1 (N p hp).1
  refine ⟨hs''.extBut _ _ ?_ z, (N p hp).2⟩
  rcases List.mem_cons.mp hp with rfl | hp
  · exact Ne.symm ap.cd
  · exact ap.nc p hp
end
end Mine
end
/- part PairF -/
section
open PySem PySem.W PyProof.Rows
set_option maxRecDepth 100000
namespace Mine
def sgs : List Nat := [46, 45, 63, 13, 10, 114, 119, 120, 115, 83, 116, 84, 100, 108]
theorem sign_item {k : Int} (h0 : 0 ≤ k) (h1 : k < 14) : Txt.item (Str.ofString ".-?\r\nrwxsStTdl") k = ⟨#[sgs.getD k.toNat 0]⟩ := by
  obtain ⟨n, rfl⟩ := Int.eq_ofNat_of_zero_le h0
  have key : ∀ n < 14, Txt.item (Str.ofString ".-?\r\nrwxsStTdl") ((n : Nat) : Int) = ⟨#[sgs.getD ((n : Nat) : Int).toNat 0]⟩ := by decide +kernel
  exact key n (Int.ofNat_lt.mp h1)
theorem sg_mem {k : Nat} (h : k < 14) : sgs.getD k 0 ∈ sgs := by
  have key : ∀ k < 14, sgs.getD k 0 ∈ sgs := by decide
  exact key k h
theorem sg_ne {i j : Nat} (hi : i < 14) (hj : j < 14) (h : i ≠ j) : sgs.getD i 0 ≠ sgs.getD j 0 := by
  have key : ∀ i < 14, ∀ j < 14, i ≠ j → sgs.getD i 0 ≠ sgs.getD j 0 := by decide
  exact key i hi j hj h
theorem pair_of {i j : Int} (h0 : 0 ≤ i) (h1 : i < 14) (g0 : 0 ≤ j) (g1 : j < 14) (hij : i ≠ j) :
    ∃ p q, Txt.item (Str.ofString ".-?\r\nrwxsStTdl") i ++ Txt.item (Str.ofString ".-?\r\nrwxsStTdl") j = (⟨#[p, q]⟩ : Str) ∧ p ∈ sgs ∧ q ∈ sgs ∧ p ≠ q := by
  refine ⟨sgs.getD i.toNat 0, sgs.getD j.toNat 0, ?_, sg_mem (by omega), sg_mem (by omega), sg_ne (by omega) (by omega) (by omega)⟩
  rw [sign_item h0 h1, sign_item g0 g1]
  rfl
theorem places {S : Int} : (0 ≤ (S.fdiv 2).fmod 14 ∧ (S.fdiv 2).fmod 14 < 14) ∧ (0 ≤ (S.fdiv 2 + 1 + (S.fdiv 28).fmod 13).fmod 14 ∧ (S.fdiv 2 + 1 + (S.fdiv 28).fmod 13).fmod 14 < 14) ∧ (S.fdiv 2).fmod 14 ≠ (S.fdiv 2 + 1 + (S.fdiv 28).fmod 13).fmod 14 := by
  rw [Int.fmod_eq_emod_of_nonneg _ (by decide), Int.fmod_eq_emod_of_nonneg _ (b := 13) (by decide), Int.fmod_eq_emod_of_nonneg _ (b := 14) (by decide)]
  omega
end Mine
end
/- part LawF -/
section
open PySem PySem.W PyProof.Rows
set_option maxRecDepth 100000
namespace Mine
def lineF (r : Row) : Str := Txt.mul (Str.ofString ".") r.dots ++ shownF r.mode ++ r.stop
def textL (rs : List Row) : List Nat := (rs.map fun r => (lineF r).cps.toList).flatten
def textF (rs : List Row) : Str := ⟨(textL rs).toArray⟩
def qd (x : Str) : Str := dotted (norm x)
def qdn : Nat → Str → Str
  | 0, x => x
  | n + 1, x => qd (qdn n x)
def wsF (p q : Nat) (z : Str) : List Int := z.cps.toList.map (worthF p q)
def figF (p q : Nat) (z : Str) : List Int := (wsF p q z).filter fun x => decide (0 ≤ x)
def padF (p q : Nat) (z : Str) : Str := z ++ Txt.mul (Str.ofString "=") ((-((figF p q z).length : Int)).fmod 4)
theorem shownF_length (c : Int) : (shownF c).length ≤ 11 := by
  unfold shownF
  have h1 : (Str.ofString "/").length = 1 := by decide +kernel
  have h2 : (Str.ofString "@").length = 1 := by decide +kernel
  have h3 : (Str.ofString "|").length = 1 := by decide +kernel
  have h0 : (Str.ofString "").length = 0 := by decide +kernel
  (repeat' split)
  · omega
  · rw [Str.length_append, fileF_length]; omega
  · rw [Str.length_append, fileF_length]; omega
  · rw [Str.length_append, fileF_length]; omega
  · rw [fileF_length]; omega
theorem stop_length {r : Row} (h : r.Ok) : r.stop.length ≤ 2 := by
  have h1 : (Str.ofString "\r").length = 1 := by decide +kernel
  have h2 : (Str.ofString "\n").length = 1 := by decide +kernel
  have h3 : (Str.ofString "\r\n").length = 2 := by decide +kernel
  rcases h.s with e | e | e <;> rw [e] <;> omega
theorem line_length {r : Row} (h : r.Ok) : (lineF r).length ≤ 15 := by
  unfold lineF
  rw [Str.length_append, Str.length_append]
  have h1 := shownF_length r.mode
  have h2 := stop_length h
  have h3 : (Txt.mul (Str.ofString ".") r.dots).length = r.dots.toNat := by
    have e : Str.ofString "." = ⟨#[46]⟩ := by decide +kernel
    rw [e]
    have := congrArg List.length (mul_one_list 46 r.dots)
    rw [List.length_replicate, Array.length_toList] at this
    exact this
  have := h.d2
  omega
theorem text_length : ∀ {rs : List Row}, (∀ r ∈ rs, r.Ok) → (textL rs).length ≤ 15 * rs.length
  | [], _ => Nat.le_refl _
  | r :: rs, h => by
    have h1 := text_length (rs := rs) fun x hx => h x (.tail _ hx)
    have h2 : (lineF r).cps.toList.length ≤ 15 := line_length (h r (.head _))
    show ((lineF r).cps.toList ++ textL rs).length ≤ _
    rw [List.length_append, List.length_cons]
    omega
theorem dotted_length (x : Str) : (dotted x).length ≤ 2 * x.length := by
  show ((S.rest x.cps (S.hit1 x.cps) (fun _ => 1) [46, 46] 0).toArray).size ≤ _
  rw [List.size_toArray]
  exact tailSub_length (text := x.cps) (hit := S.hit1 x.cps) (wid := fun _ => 1) (rep := [46, 46]) (by decide) (x.cps.size - 0) 0
theorem norm_length2 (x : Str) : (norm x).length ≤ 2 * x.length := by
  show ((S.rest x.cps (S.hit2 x.cps) (S.wid2 x.cps) [13, 10] 0).toArray).size ≤ _
  rw [List.size_toArray]
  exact tailSub_length (text := x.cps) (hit := S.hit2 x.cps) (wid := S.wid2 x.cps) (rep := [13, 10]) (by decide) (x.cps.size - 0) 0
theorem qd_length (x : Str) : (qd x).length ≤ 4 * x.length := by
  have := dotted_length (norm x)
  have := norm_length2 x
  unfold qd
  omega
theorem qdn_length (x : Str) : ∀ i, (qdn i x).length ≤ 4 ^ i * x.length
  | 0 => by show x.length ≤ 1 * x.length; omega
  | i + 1 => by
    have h1 := qdn_length x i
    have h2 := qd_length (qdn i x)
    show (qd (qdn i x)).length ≤ _
    rw [Nat.pow_succ, Nat.mul_comm (4 ^ i) 4, Nat.mul_assoc]
    omega
theorem qdn_small {x : Str} {i : Nat} (hi : i ≤ 2) (hx : x.length ≤ 150) : (qdn i x).length ≤ 2400 := by
  have := qdn_length x i
  have : i = 0 ∨ i = 1 ∨ i = 2 := by omega
  rcases this with rfl | rfl | rfl <;> omega
theorem mul_dots_length {n : Int} : (Txt.mul (Str.ofString ".") n).length = n.toNat := by
  have e : Str.ofString "." = ⟨#[46]⟩ := by decide +kernel
  rw [e]
  have := congrArg List.length (mul_one_list 46 n)
  rw [List.length_replicate, Array.length_toList] at this
  exact this
theorem fold_length {oft : Int} (h : oft ≤ 2) : ∀ {rs : List Row} {s a : Str}, (∀ r ∈ rs, r.Ok) → (rs.foldl (sentStep oft) (s, a)).1.length ≤ s.length + 20 * rs.length
  | [], _, _, _ => Nat.le_refl _
  | r :: rs, s, a, hr => by
    have ok := hr r (.head _)
    have d2 := ok.d2
    have h1 := toldS_length (m := r.mode)
    have h2 : (Str.ofString "\r\n").length = 2 := by decide +kernel
    have h3 := mul_dots_length (n := r.dots + oft)
    rw [List.foldl_cons, List.length_cons]
    have ih := fold_length h (rs := rs) (s := (sentStep oft (s, a) r).1) (a := (sentStep oft (s, a) r).2) fun x hx => hr x (.tail _ hx)
    have : (sentStep oft (s, a) r).1.length ≤ s.length + 20 := by
      unfold sentStep
      dsimp only
      split
      · rw [Str.length_append, Str.length_append, Str.length_append]; omega
      · split
        · rw [Str.length_append, Str.length_append]; omega
        · omega
    exact Nat.le_trans ih (by omega)
theorem sentF_length (ns : List Int) {oft : Int} (h : oft = 1 ∨ oft = 2) : (sentF oft (rowsF ns)).length ≤ 200 := by
  have h1 := fold_length (oft := oft) (by omega) (rs := rowsF ns) (s := Str.ofString "") (a := Str.ofString "") (rowsF_ok ns)
  have h2 := rowsF_length ns
  have h3 : (Str.ofString "").length = 0 := by decide +kernel
  exact Nat.le_trans h1 (by omega)
theorem worthF_lt (p q x : Nat) : worthF p q x < 64 := by
  unfold worthF
  (repeat' split) <;> omega
theorem figF_range {p q : Nat} {z : Str} : ∀ n ∈ figF p q z, 0 ≤ n ∧ n < 64 := fun n hn => by
  obtain ⟨h1, h2⟩ := List.mem_filter.mp hn
  obtain ⟨x, _, rfl⟩ := List.mem_map.mp h1
  exact ⟨of_decide_eq_true h2, worthF_lt _ _ _⟩
theorem wsF_length {p q : Nat} {z : Str} : (wsF p q z).length = z.length := by unfold wsF; rw [List.length_map, Array.length_toList]; rfl
theorem figF_length {p q : Nat} {z : Str} : (figF p q z).length ≤ z.length := by
  rw [← wsF_length (p := p) (q := q)]
  exact List.length_filter_le _ _
theorem flat_text {ts : List (Str × Tok)} {rs : List Row} (h : ts.map (·.1) = rs.map lineF) : S.flat ts = textL rs := by
  have := congrArg (fun l => (l.map fun x : Str => x.cps.toList).flatten) h
  simp only [List.map_map] at this
  exact this
end Mine
end
/- part DecF -/
section
open PySem PySem.W PyProof.Rows
set_option maxRecDepth 100000
namespace Mine
/-- the state of the decoder after figures -/
def feedB : List Int → B.St → B.St
  | [], s => s
  | v :: r, s => feedB r (B.put s.q s.l v s.o (s.i + 1))
theorem put_p (q l v : Int) (o : List Int) (i : Int) : (B.put q l v o i).p = 0 := by
  unfold B.put; (repeat' split) <;> rfl
theorem feed_i : ∀ (vs : List Int) (q l i j : Int) (o : List Int), ∃ i', feedB vs ⟨q, l, 0, i, o⟩ = ⟨(feedB vs ⟨q, l, 0, j, o⟩).q, (feedB vs ⟨q, l, 0, j, o⟩).l, 0, i', (feedB vs ⟨q, l, 0, j, o⟩).o⟩
  | [], q, l, i, j, o => ⟨i, rfl⟩
  | v :: r, q, l, i, j, o => by
    unfold feedB B.put
    dsimp only
    split
    · exact feed_i r _ _ _ _ _
    · split
      · exact feed_i r _ _ _ _ _
      · split
        · exact feed_i r _ _ _ _ _
        · exact feed_i r _ _ _ _ _
theorem digits {x y z : Int} (x0 : 0 ≤ x) (x1 : x < 256) (y0 : 0 ≤ y) (y1 : y < 256) (z0 : 0 ≤ z) (z1 : z < 256) : (x * 65536 + y * 256 + z) / 65536 % 256 = x ∧ (x * 65536 + y * 256 + z) / 256 % 256 = y ∧ (x * 65536 + y * 256 + z) % 256 = z := by
  have e1 : (x * 65536 + y * 256 + z) / 256 = x * 256 + y := by omega
  have e2 : (x * 65536 + y * 256 + z) / 65536 = x := by omega
  rw [e1, e2]
  omega
theorem four_octs {a b c d : Int} (hb : 0 ≤ b ∧ b < 64) (hc : 0 ≤ c ∧ c < 64) (hd : 0 ≤ d ∧ d < 64) (ha : 0 ≤ a ∧ a < 64) :
    (((a * 64 + b) * 64 + c) * 64 + d) / 65536 % 256 = a * 4 + b / 16 ∧ (((a * 64 + b) * 64 + c) * 64 + d) / 256 % 256 = b % 16 * 16 + c / 4 ∧ (((a * 64 + b) * 64 + c) * 64 + d) % 256 = c % 4 * 64 + d := by
  have hb' := Int.mul_ediv_add_emod b 16
  have hc' := Int.mul_ediv_add_emod c 4
  have b0 := Int.emod_nonneg b (b := 16) (by decide)
  have b1 := Int.emod_lt_of_pos b (b := 16) (by decide)
  have c0 := Int.emod_nonneg c (b := 4) (by decide)
  have c1 := Int.emod_lt_of_pos c (b := 4) (by decide)
  have b2 : 0 ≤ b / 16 := Int.ediv_nonneg hb.1 (by decide)
  have c2 : 0 ≤ c / 4 := Int.ediv_nonneg hc.1 (by decide)
  generalize b / 16 = bq at *
  generalize b % 16 = br at *
  generalize c / 4 = cq at *
  generalize c % 4 = cr at *
  have e : ((a * 64 + b) * 64 + c) * 64 + d = (a * 4 + bq) * 65536 + (br * 16 + cq) * 256 + (cr * 64 + d) := by omega
  rw [e]
  exact digits (by omega) (by omega) (by omega) (by omega) (by omega) (by omega)
/-- by fours -/
theorem feed_fours : ∀ (n : Nat) (vs : List Int), vs.length ≤ n → (∀ v ∈ vs, 0 ≤ v ∧ v < 64) → ∀ (i : Int) (o : List Int), ∃ l i', feedB vs ⟨0, 0, 0, i, o⟩ = ⟨((vs.length % 4 : Nat) : Int), l, 0, i', o ++ octL vs⟩ := by
  intro n
  induction n with
  | zero =>
    intro vs hl _ i o
    have : vs = [] := List.length_eq_zero_iff.mp (by omega)
    subst this
    exact ⟨0, i, by simp [feedB, octL]⟩
  | succ n ih =>
    intro vs hl hr i o
    match vs, hl, hr with
    | [], _, _ => exact ⟨0, i, by simp [feedB, octL]⟩
    | [a], _, _ => exact ⟨a, i + 1, by simp [feedB, octL, B.put]⟩
    | [a, b], _, hr =>
      have ha := hr a (by simp)
      have hb := hr b (by simp)
      refine ⟨b % 16, i + 1 + 1, ?_⟩
      simp [feedB, octL, B.put]
      omega
    | [a, b, c], _, hr =>
      have ha := hr a (by simp)
      have hb := hr b (by simp)
      have hc := hr c (by simp)
      refine ⟨c % 4, i + 1 + 1 + 1, ?_⟩
      simp [feedB, octL, B.put]
      omega
    | a :: b :: c :: d :: r, hl, hr =>
      have ha := hr a (by simp)
      have hb := hr b (by simp)
      have hc := hr c (by simp)
      have hd := hr d (by simp)
      obtain ⟨l, i', e⟩ := ih r (by simp at hl; omega) (fun v hv => hr v (by simp [hv])) (i + 1 + 1 + 1 + 1) (o ++ [a * 4 + b / 16] ++ [b % 16 * 16 + c / 4] ++ [c % 4 * 64 + d])
      refine ⟨l, i', ?_⟩
      have e1 : feedB (a :: b :: c :: d :: r) ⟨0, 0, 0, i, o⟩ = feedB r ⟨0, 0, 0, i + 1 + 1 + 1 + 1, o ++ [a * 4 + b / 16] ++ [b % 16 * 16 + c / 4] ++ [c % 4 * 64 + d]⟩ := by
        simp [feedB, B.put]
      have e2 : (a :: b :: c :: d :: r).length % 4 = r.length % 4 := by simp only [List.length_cons]; omega
      have e3 : o ++ octL (a :: b :: c :: d :: r) = o ++ [a * 4 + b / 16] ++ [b % 16 * 16 + c / 4] ++ [c % 4 * 64 + d] ++ octL r := by
        rw [octL]
        obtain ⟨f1, f2, f3⟩ := four_octs hb hc hd (a := a) ha
        rw [f1, f2, f3]
        simp
      rw [e1, e, e2, e3]
/-- what the signs stand for, as the decoder reads them -/
structure Reads (f : Nat → Int) (w : Nat → Int) (z : List Nat) : Prop where
  pad : ∀ c ∈ z, f c ≠ 61
  fig : ∀ c ∈ z, 0 ≤ w c → b64v (f c) = w c ∧ w c < 64
  pass : ∀ c ∈ z, ¬ 0 ≤ w c → 64 ≤ b64v (f c)
theorem Reads.tail {f w : Nat → Int} {c : Nat} {z : List Nat} (h : Reads f w (c :: z)) : Reads f w z :=
  ⟨fun x hx => h.pad x (.tail _ hx), fun x hx => h.fig x (.tail _ hx), fun x hx => h.pass x (.tail _ hx)⟩
theorem run_loose {f w : Nat → Int} (R : List Int) : ∀ {z : List Nat}, Reads f w z → ∀ (q l i : Int) (o : List Int), ∃ i', B.run false (z.map f ++ R) ⟨q, l, 0, i, o⟩ = B.run false R ⟨(feedB ((z.map w).filter fun x => decide (0 ≤ x)) ⟨q, l, 0, 0, o⟩).q, (feedB ((z.map w).filter fun x => decide (0 ≤ x)) ⟨q, l, 0, 0, o⟩).l, 0, i', (feedB ((z.map w).filter fun x => decide (0 ≤ x)) ⟨q, l, 0, 0, o⟩).o⟩
  | [], _, q, l, i, o => ⟨i, rfl⟩
  | c :: z, h, q, l, i, o => by
    have hp := h.pad c (.head _)
    rw [List.map_cons, List.map_cons, List.cons_append, B.run, B.turn, if_neg hp]
    by_cases hw : 0 ≤ w c
    · obtain ⟨e, hlt⟩ := h.fig c (.head _) hw
      rw [if_neg (by omega), if_neg (fun q => absurd q.2 (by decide)), List.filter_cons_of_pos (by simp [hw]), e]
      dsimp only
      rw [feedB]
      obtain ⟨q', l', o', e'⟩ : ∃ q' l' o', ∀ i, B.put q l (w c) o i = ⟨q', l', 0, i, o'⟩ := by
        unfold B.put
        by_cases e0 : q = 0
        · exact ⟨_, _, _, fun i => by rw [if_pos e0]⟩
        · by_cases e1 : q = 1
          · exact ⟨_, _, _, fun i => by rw [if_neg e0, if_pos e1]⟩
          · by_cases e2 : q = 2
            · exact ⟨_, _, _, fun i => by rw [if_neg e0, if_neg e1, if_pos e2]⟩
            · exact ⟨_, _, _, fun i => by rw [if_neg e0, if_neg e1, if_neg e2]⟩
      rw [e', e']
      obtain ⟨i1, h1⟩ := run_loose R h.tail q' l' (i + 1) o'
      obtain ⟨i2, h2⟩ := feed_i ((z.map w).filter fun x => decide (0 ≤ x)) q' l' (0 + 1) 0 o'
      refine ⟨i1, ?_⟩
      rw [h1, h2]
    · rw [if_pos (h.pass c (.head _) hw), if_neg (by decide), List.filter_cons_of_neg (by simp [hw])]
      exact run_loose R h.tail q l (i + 1) o
theorem run_strict {f w : Nat → Int} (R : List Int) : ∀ {z : List Nat}, Reads f w z → (∀ c ∈ z, 0 ≤ w c) → ∀ (q l i : Int) (o : List Int), ∃ i', B.run true (z.map f ++ R) ⟨q, l, 0, i, o⟩ = B.run true R ⟨(feedB (z.map w) ⟨q, l, 0, 0, o⟩).q, (feedB (z.map w) ⟨q, l, 0, 0, o⟩).l, 0, i', (feedB (z.map w) ⟨q, l, 0, 0, o⟩).o⟩
  | [], _, _, q, l, i, o => ⟨i, rfl⟩
  | c :: z, h, hall, q, l, i, o => by
    have hp := h.pad c (.head _)
    have hw := hall c (.head _)
    rw [List.map_cons, List.map_cons, List.cons_append, B.run, B.turn, if_neg hp]
    obtain ⟨e, hlt⟩ := h.fig c (.head _) hw
    rw [if_neg (by omega), if_neg (fun q => absurd rfl q.1), e]
    dsimp only
    rw [feedB]
    obtain ⟨q', l', o', e'⟩ : ∃ q' l' o', ∀ i, B.put q l (w c) o i = ⟨q', l', 0, i, o'⟩ := by
      unfold B.put
      by_cases e0 : q = 0
      · exact ⟨_, _, _, fun i => by rw [if_pos e0]⟩
      · by_cases e1 : q = 1
        · exact ⟨_, _, _, fun i => by rw [if_neg e0, if_pos e1]⟩
        · by_cases e2 : q = 2
          · exact ⟨_, _, _, fun i => by rw [if_neg e0, if_neg e1, if_pos e2]⟩
          · exact ⟨_, _, _, fun i => by rw [if_neg e0, if_neg e1, if_neg e2]⟩
    rw [e', e']
    obtain ⟨i1, h1⟩ := run_strict R h.tail (fun x hx => hall x (.tail _ hx)) q' l' (i + 1) o'
    obtain ⟨i2, h2⟩ := feed_i (z.map w) q' l' (0 + 1) 0 o'
    refine ⟨i1, ?_⟩
    rw [h1, h2]
/-- a sign to be passed over is not borne strictly -/
theorem run_strict_bad {f w : Nat → Int} (R : List Int) : ∀ {z : List Nat}, Reads f w z → (∃ c ∈ z, ¬ 0 ≤ w c) → ∀ (q l i : Int) (o : List Int), B.run true (z.map f ++ R) ⟨q, l, 0, i, o⟩ = none
  | [], _, hex, _, _, _, _ => by obtain ⟨c, hc, _⟩ := hex; exact nomatch hc
  | c :: z, h, hex, q, l, i, o => by
    have hp := h.pad c (.head _)
    rw [List.map_cons, List.cons_append, B.run, B.turn, if_neg hp]
    by_cases hw : 0 ≤ w c
    · obtain ⟨e, hlt⟩ := h.fig c (.head _) hw
      rw [if_neg (by omega), if_neg (fun q => absurd rfl q.1), e]
      dsimp only
      obtain ⟨q', l', o', e'⟩ : ∃ q' l' o', ∀ i, B.put q l (w c) o i = ⟨q', l', 0, i, o'⟩ := by
        unfold B.put
        by_cases e0 : q = 0
        · exact ⟨_, _, _, fun i => by rw [if_pos e0]⟩
        · by_cases e1 : q = 1
          · exact ⟨_, _, _, fun i => by rw [if_neg e0, if_pos e1]⟩
          · by_cases e2 : q = 2
            · exact ⟨_, _, _, fun i => by rw [if_neg e0, if_neg e1, if_pos e2]⟩
            · exact ⟨_, _, _, fun i => by rw [if_neg e0, if_neg e1, if_neg e2]⟩
      rw [e']
      refine run_strict_bad R h.tail ?_ q' l' (i + 1) o'
      obtain ⟨x, hx, hn⟩ := hex
      rcases List.mem_cons.mp hx with rfl | hx
      · exact absurd hw hn
      · exact ⟨x, hx, hn⟩
    · rw [if_pos (h.pass c (.head _) hw), if_pos rfl]
/-- the end: the pads up to whole fours -/
theorem run_pads {b : Bool} {n : Nat} {l i : Int} {o : List Int} (k : Nat) (hk : (k : Int) = (-(n : Int)).fmod 4) :
    (B.run b (List.replicate k 61) ⟨((n % 4 : Nat) : Int), l, 0, i, o⟩).bind B.fin = if n % 4 = 1 then none else some o := by
  have hf : (-(n : Int)).fmod 4 = (-(n : Int)) % 4 := Int.fmod_eq_emod_of_nonneg _ (by decide)
  rw [hf] at hk
  have h4 : n % 4 = 0 ∨ n % 4 = 1 ∨ n % 4 = 2 ∨ n % 4 = 3 := by omega
  rcases h4 with h | h | h | h
  · have : k = 0 := by omega
    subst this
    rw [h]
    rfl
  · have : k = 3 := by omega
    subst this
    rw [h]
    cases b <;> rfl
  · have : k = 2 := by omega
    subst this
    rw [h]
    cases b <;> rfl
  · have : k = 1 := by omega
    subst this
    rw [h]
    cases b <;> rfl
end Mine
end
/- part NormF -/
section
open PySem PySem.W PyProof.Rows
set_option maxRecDepth 100000
namespace Mine
/-- every end of a row made a return and a feed -/
def normL : List Nat → List Nat
  | [] => []
  | [c] => if c = 10 ∨ c = 13 then [13, 10] else [c]
  | c :: d :: r => if c = 13 ∧ d = 10 then 13 :: 10 :: normL r else if c = 10 ∨ c = 13 then 13 :: 10 :: normL (d :: r) else c :: normL (d :: r)
/-- a dot more ahead of each row that begins with one; b: at a row's start -/
def dotL : Bool → List Nat → List Nat
  | _, [] => []
  | b, c :: r => if b = true ∧ c = 46 then 46 :: 46 :: dotL false r else c :: dotL (c == 10) r
theorem getD_drop {text : Array Nat} {p : Nat} (hp : p < text.size) : text.toList.drop p = text.getD p 0 :: text.toList.drop (p + 1) := by
  have hl : p < text.toList.length := by rw [Array.length_toList]; exact hp
  rw [List.drop_eq_getElem_cons hl]
  congr 1
  rw [Array.getD, dif_pos hp]
  rfl
theorem norm_at {text : Array Nat} : ∀ (n p : Nat), text.size - p = n → S.rest text (S.hit2 text) (S.wid2 text) [13, 10] p = normL (text.toList.drop p) := by
  have hw : ∀ p, S.hit2 text p = true → 1 ≤ S.wid2 text p := fun p _ => by unfold S.wid2; split <;> omega
  intro n
  induction n using Nat.strongRecOn with
  | ind n ih =>
    intro p hn
    by_cases hp : p < text.size
    · rw [getD_drop hp]
      by_cases hq : p + 1 < text.size
      · rw [getD_drop hq, normL]
        have ih1 := ih (text.size - (p + 1)) (by omega) (p + 1) rfl
        rw [getD_drop hq] at ih1
        by_cases h2 : text.getD p 0 = 13 ∧ text.getD (p + 1) 0 = 10
        · rw [if_pos h2]
          have hh : S.hit2 text p = true := by unfold S.hit2; simp [hp, h2.1]
          have hwid : S.wid2 text p = 2 := by unfold S.wid2; rw [if_pos ⟨h2.1, hq, h2.2⟩]
          rw [S.rest_hit hw hp hh, hwid, ih (text.size - (p + 2)) (by omega) (p + 2) rfl]
          rfl
        · rw [if_neg h2]
          have hwid : S.wid2 text p = 1 := by unfold S.wid2; rw [if_neg fun h => h2 ⟨h.1, h.2.2⟩]
          by_cases h1 : text.getD p 0 = 10 ∨ text.getD p 0 = 13
          · have hh : S.hit2 text p = true := by unfold S.hit2; rcases h1 with e | e <;> simp [hp, e]
            rw [if_pos h1, S.rest_hit hw hp hh, hwid, ih1]
            rfl
          · have hh : S.hit2 text p = false := by
              unfold S.hit2
              have e1 : ¬ text.getD p 0 = 10 := fun e => h1 (.inl e)
              have e2 : ¬ text.getD p 0 = 13 := fun e => h1 (.inr e)
              rw [Bool.and_eq_false_iff]
              right
              rw [Bool.or_eq_false_iff]
              exact ⟨beq_eq_false_iff_ne.mpr e1, beq_eq_false_iff_ne.mpr e2⟩
            rw [if_neg h1, S.rest_miss hw hp hh, ih1]
      · have e : text.toList.drop (p + 1) = [] := List.drop_of_length_le (by rw [Array.length_toList]; omega)
        rw [e, normL]
        have ih1 := ih (text.size - (p + 1)) (by omega) (p + 1) rfl
        rw [e] at ih1
        have hwid : S.wid2 text p = 1 := by unfold S.wid2; rw [if_neg fun h => hq h.2.1]
        by_cases h1 : text.getD p 0 = 10 ∨ text.getD p 0 = 13
        · have hh : S.hit2 text p = true := by unfold S.hit2; rcases h1 with e | e <;> simp [hp, e]
          rw [if_pos h1, S.rest_hit hw hp hh, hwid, ih1]
          rfl
        · have hh : S.hit2 text p = false := by
            unfold S.hit2
            have e1 : ¬ text.getD p 0 = 10 := fun e => h1 (.inl e)
            have e2 : ¬ text.getD p 0 = 13 := fun e => h1 (.inr e)
            rw [Bool.and_eq_false_iff]
            right
            rw [Bool.or_eq_false_iff]
            exact ⟨beq_eq_false_iff_ne.mpr e1, beq_eq_false_iff_ne.mpr e2⟩
          rw [if_neg h1, S.rest_miss hw hp hh, ih1]
          rfl
    · rw [S.rest_end hp, List.drop_of_length_le (by rw [Array.length_toList]; omega)]
      rfl
theorem norm_eq (x : Str) : norm x = ⟨(normL x.cps.toList).toArray⟩ := by
  unfold norm
  rw [norm_at _ 0 rfl]
  rfl
theorem bol_next {text : Array Nat} {p : Nat} : S.bol text (p + 1) = (text.getD p 0 == 10) := by
  unfold S.bol
  simp
theorem dot_at {text : Array Nat} : ∀ (n p : Nat), text.size - p = n → S.rest text (S.hit1 text) (fun _ => 1) [46, 46] p = dotL (S.bol text p) (text.toList.drop p) := by
  have hw : ∀ p, S.hit1 text p = true → 1 ≤ (fun _ : Nat => 1) p := fun p _ => Nat.le_refl _
  intro n
  induction n with
  | zero =>
    intro p hn
    rw [S.rest_end (by omega), List.drop_of_length_le (by rw [Array.length_toList]; omega)]
    rfl
  | succ n ih =>
    intro p hn
    have hp : p < text.size := by omega
    rw [getD_drop hp, dotL]
    have ih1 := ih (p + 1) (by omega)
    rw [bol_next] at ih1
    by_cases h : S.bol text p = true ∧ text.getD p 0 = 46
    · have hh : S.hit1 text p = true := by unfold S.hit1; simp [hp, h.1, h.2]
      rw [if_pos h, S.rest_hit hw hp hh]
      show [46, 46] ++ S.rest text (S.hit1 text) (fun _ => 1) [46, 46] (p + 1) = _
      rw [ih1, h.2]
      rfl
    · have hh : S.hit1 text p = false := by
        cases hc : S.hit1 text p with
        | false => rfl
        | true =>
          exfalso
          unfold S.hit1 at hc
          simp only [Bool.and_eq_true, decide_eq_true_eq, beq_iff_eq] at hc
          exact h ⟨hc.1.1, hc.2⟩
      rw [if_neg h, S.rest_miss hw hp hh, ih1]
theorem dotted_eq (x : Str) : dotted x = ⟨(dotL true x.cps.toList).toArray⟩ := by
  unfold dotted
  rw [dot_at _ 0 rfl]
  rfl
end Mine
end
/- part EmitF -/
section
open PySem PySem.W PyProof.Rows
set_option maxRecDepth 100000
namespace Mine
/-- the rows sent, a number of dots more at each that begins with one -/
def outL (k : Nat) : List (Nat × List Nat) → List Nat
  | [] => []
  | (d, t) :: r => List.replicate (if d = 0 then 0 else d + k) 46 ++ (t ++ 13 :: 10 :: outL k r)
/-- what a row's told part holds -/
structure Plain (t : List Nat) : Prop where
  no : ∀ c ∈ t, c ≠ 10 ∧ c ≠ 13
  hd : ∀ c, t.head? = some c → c ≠ 46
def drop10 : List Nat → List Nat
  | [] => []
  | c :: r => if c = 10 then r else c :: r
theorem normL_13 (x : List Nat) : normL (13 :: x) = 13 :: 10 :: normL (drop10 x) := by
  cases x with
  | nil => rfl
  | cons d r =>
    rw [normL, drop10]
    by_cases h : d = 10
    · rw [if_pos ⟨rfl, h⟩, if_pos h]
    · rw [if_neg (fun q => h q.2), if_pos (.inr rfl), if_neg h]
theorem normL_10 (x : List Nat) : normL (10 :: x) = 13 :: 10 :: normL x := by
  cases x with
  | nil => rfl
  | cons d r => rw [normL, if_neg (fun q => absurd q.1 (by decide)), if_pos (.inl rfl)]
theorem normL_pass {c : Nat} (h1 : c ≠ 10) (h2 : c ≠ 13) (x : List Nat) : normL (c :: x) = c :: normL x := by
  cases x with
  | nil =>
    have e : normL [c] = if c = 10 ∨ c = 13 then [13, 10] else [c] := by rw [normL]
    rw [e, if_neg (fun q => by rcases q with q | q; exact h1 q; exact h2 q)]; rfl
  | cons d r => rw [normL, if_neg (fun q => h2 q.1), if_neg (fun q => by rcases q with q | q; exact h1 q; exact h2 q)]
theorem normL_row : ∀ {a : List Nat}, (∀ c ∈ a, c ≠ 10 ∧ c ≠ 13) → ∀ x, normL (a ++ x) = a ++ normL x
  | [], _, _ => rfl
  | c :: a, h, x => by
    have hc := h c (.head _)
    rw [List.cons_append, normL_pass hc.1 hc.2, normL_row (fun c hc => h c (.tail _ hc)), List.cons_append]
theorem drop10_row {a : List Nat} (h : ∀ c ∈ a, c ≠ 10 ∧ c ≠ 13) (hne : a ≠ []) (x : List Nat) : drop10 (a ++ x) = a ++ x := by
  cases a with
  | nil => exact absurd rfl hne
  | cons c a => rw [List.cons_append, drop10, if_neg (h c (.head _)).1]
theorem dots_no (n : Nat) : ∀ c ∈ List.replicate n 46, c ≠ 10 ∧ c ≠ 13 := fun c hc => by
  rw [(List.mem_replicate.mp hc).2]; decide
/-- the rows sent stay as they are -/
theorem normL_out (k : Nat) : ∀ {es : List (Nat × List Nat)}, (∀ e ∈ es, Plain e.2) → normL (outL k es) = outL k es
  | [], _ => rfl
  | (d, t) :: r, h => by
    rw [outL, normL_row (dots_no _), normL_row (h _ (.head _)).no, normL_13, drop10, if_pos rfl, normL_out k fun e he => h e (.tail _ he)]
theorem dotL_pass : ∀ {a : List Nat}, (∀ c ∈ a, c ≠ 10 ∧ c ≠ 13) → ∀ x, dotL false (a ++ x) = a ++ dotL false x
  | [], _, _ => rfl
  | c :: a, h, x => by
    have hc := (h c (.head _)).1
    rw [List.cons_append, dotL, if_neg (fun q => Bool.false_ne_true q.1), beq_eq_false_iff_ne.mpr hc, dotL_pass (fun c hc => h c (.tail _ hc)), List.cons_append]
theorem dotL_end (b : Bool) (x : List Nat) : dotL b (13 :: 10 :: x) = 13 :: 10 :: dotL true x := by
  rw [dotL, if_neg (fun q => absurd q.2 (by decide)), dotL, if_neg (fun q => absurd q.2 (by decide))]
  rfl
theorem dotL_row {a : List Nat} (h : Plain a) (x : List Nat) : dotL true (a ++ 13 :: 10 :: x) = a ++ 13 :: 10 :: dotL true x := by
  cases a with
  | nil => exact dotL_end _ _
  | cons c a =>
    have hc := (h.no c (.head _)).1
    rw [List.cons_append, dotL, if_neg (fun q => h.hd c rfl q.2), beq_eq_false_iff_ne.mpr hc, dotL_pass (fun c hc => h.no c (.tail _ hc)), dotL_end, List.cons_append]
/-- a dot more -/
theorem dotL_out (k : Nat) : ∀ {es : List (Nat × List Nat)}, (∀ e ∈ es, Plain e.2) → dotL true (outL k es) = outL (k + 1) es
  | [], _ => rfl
  | (d, t) :: r, h => by
    have ih := dotL_out k (es := r) fun e he => h e (.tail _ he)
    have ht : Plain t := h _ (.head _)
    rw [outL, outL]
    by_cases hd : d = 0
    · rw [if_pos hd, if_pos hd]
      show dotL true (t ++ _) = t ++ _
      rw [dotL_row ht, ih]
    · rw [if_neg hd, if_neg hd]
      obtain ⟨n, hn⟩ : ∃ n, d + k = n + 1 := ⟨d + k - 1, by omega⟩
      rw [show d + (k + 1) = n + 1 + 1 by omega, hn, List.replicate_succ, List.replicate_succ, List.cons_append, dotL, if_pos ⟨rfl, rfl⟩, dotL_pass (dots_no _), dotL_pass ht.no, dotL_end, ih, List.replicate_succ]
      rfl
/-- a row before it is sent: its dots, its told part, its end -/
abbrev Pre := Nat × List Nat × List Nat
def preL : List Pre → List Nat
  | [] => []
  | (d, t, s) :: r => List.replicate d 46 ++ (t ++ (s ++ preL r))
def emitL : Bool → List Pre → List (Nat × List Nat)
  | _, [] => []
  | b, (d, t, s) :: r => if d ≠ 0 ∨ t ≠ [] ∨ b = false ∨ s ≠ [10] then (d, t) :: emitL (s == [13]) r else emitL (s == [13]) r
theorem normL_pre : ∀ {ps : List Pre} (b : Bool), (∀ e ∈ ps, Plain e.2.1 ∧ (e.2.2 = [13] ∨ e.2.2 = [10] ∨ e.2.2 = [13, 10])) → normL (if b = true then drop10 (preL ps) else preL ps) = outL 0 (emitL b ps)
  | [], b, _ => by cases b <;> rfl
  | (d, t, s) :: r, b, h => by
    have ht : Plain t := (h _ (.head _)).1
    have hs : s = [13] ∨ s = [10] ∨ s = [13, 10] := (h _ (.head _)).2
    have hr : ∀ e ∈ r, _ := fun e he => h e (.tail _ he)
    have iht := normL_pre (ps := r) true hr
    have ihf := normL_pre (ps := r) false hr
    rw [if_pos rfl] at iht
    rw [if_neg (by decide)] at ihf
    have hz : (if d = 0 then 0 else d + 0) = d := by split <;> omega
    have hend : normL (s ++ preL r) = 13 :: 10 :: outL 0 (emitL (s == [13]) r) := by
      rcases hs with e | e | e <;> subst e
      · rw [List.singleton_append, normL_13, iht]; rfl
      · rw [List.singleton_append, normL_10, ihf]; rfl
      · show normL (13 :: 10 :: preL r) = _
        rw [normL_13, drop10, if_pos rfl, ihf]; rfl
    rw [preL, emitL]
    by_cases hne : d = 0 ∧ t = []
    · obtain ⟨rfl, rfl⟩ := hne
      cases b with
      | false =>
        rw [if_neg (by decide), if_pos (.inr (.inr (.inl rfl)))]
        exact hend
      | true =>
        rw [if_pos rfl]
        by_cases h10 : s = [10]
        · rw [if_neg (fun q => by rcases q with q | q | q | q; exact q rfl; exact q rfl; exact Bool.false_ne_true q.symm; exact q h10)]
          subst h10
          exact ihf
        · rw [if_pos (.inr (.inr (.inr h10)))]
          have : drop10 (List.replicate 0 46 ++ ([] ++ (s ++ preL r))) = s ++ preL r := by
            show drop10 (s ++ preL r) = _
            rcases hs with e | e | e
            · subst e; rfl
            · exact absurd e h10
            · subst e; rfl
          rw [this, hend]
          rfl
    · have hno : ∀ c ∈ List.replicate d 46 ++ t, c ≠ 10 ∧ c ≠ 13 := fun c hc => by
        rcases List.mem_append.mp hc with hc | hc
        · exact dots_no _ c hc
        · exact ht.no c hc
      have hnil : List.replicate d 46 ++ t ≠ [] := fun e => by
        have := List.append_eq_nil_iff.mp e
        exact hne ⟨by have := congrArg List.length this.1; simpa using this, this.2⟩
      have e : (if b = true then drop10 (List.replicate d 46 ++ (t ++ (s ++ preL r))) else List.replicate d 46 ++ (t ++ (s ++ preL r))) = (List.replicate d 46 ++ t) ++ (s ++ preL r) := by
        rw [← List.append_assoc]
        cases b with
        | false => rfl
        | true => rw [if_pos rfl, drop10_row hno hnil]
      rw [e, normL_row hno, hend, if_pos (by
        by_cases h0 : d = 0
        · exact .inr (.inl fun q => hne ⟨h0, q⟩)
        · exact .inl h0), outL, hz, List.append_assoc]
theorem emitL_plain : ∀ {ps : List Pre} (b : Bool), (∀ e ∈ ps, Plain e.2.1) → ∀ e ∈ emitL b ps, Plain e.2
  | [], _, _, e, he => nomatch he
  | (d, t, s) :: r, b, h, e, he => by
    rw [emitL] at he
    have hr : ∀ e ∈ r, Plain e.2.1 := fun e he => h e (.tail _ he)
    split at he
    · rcases List.mem_cons.mp he with rfl | he
      · exact h _ (.head _)
      · exact emitL_plain _ hr e he
    · exact emitL_plain _ hr e he
end Mine
end
/- part BitF -/
section
open PySem PySem.W PyProof.Rows
set_option maxRecDepth 100000
namespace Mine
theorem and_nat (a b : Nat) : Builtin.bitAnd (a : Int) (b : Int) = ((a &&& b : Nat) : Int) := by
  first | rfl | (unfold Builtin.bitAnd; simp)
theorem and_pow {a k : Nat} : a &&& 2 ^ k = 2 ^ k ↔ a.testBit k = true := by
  constructor
  · intro h
    have := congrArg (fun z => Nat.testBit z k) h
    simp only [Nat.testBit_and, Nat.testBit_two_pow_self, Bool.and_true] at this
    exact this
  · intro h
    apply Nat.eq_of_testBit_eq
    intro i
    rw [Nat.testBit_and, Nat.testBit_two_pow]
    by_cases e : k = i
    · subst e; simp [h]
    · simp [e]
/-- one bit -/
theorem bit_one {a k : Nat} : (Builtin.bitAnd (a : Int) ((2 ^ k : Nat) : Int) = ((2 ^ k : Nat) : Int)) ↔ a / 2 ^ k % 2 = 1 := by
  rw [and_nat, Int.ofNat_inj, and_pow, Nat.testBit_eq_decide_div_mod_eq]
  simp
theorem and_two {a j k : Nat} (h : j ≠ k) : a &&& (2 ^ j ||| 2 ^ k) = (2 ^ j ||| 2 ^ k) ↔ a.testBit j = true ∧ a.testBit k = true := by
  constructor
  · intro e
    have h1 := congrArg (fun z => Nat.testBit z j) e
    have h2 := congrArg (fun z => Nat.testBit z k) e
    simp only [Nat.testBit_and, Nat.testBit_or, Nat.testBit_two_pow_self, Bool.true_or, Bool.or_true, Bool.and_true] at h1 h2
    exact ⟨h1, h2⟩
  · rintro ⟨h1, h2⟩
    apply Nat.eq_of_testBit_eq
    intro i
    rw [Nat.testBit_and, Nat.testBit_or, Nat.testBit_two_pow, Nat.testBit_two_pow]
    by_cases e : j = i
    · subst e; simp [h1]
    · by_cases e' : k = i
      · subst e'; simp [h2]
      · simp [e, e']
/-- two bits -/
theorem bit_two {a j k m : Nat} (h : j ≠ k) (hm : m = 2 ^ j ||| 2 ^ k) : (Builtin.bitAnd (a : Int) (m : Int) = (m : Int)) ↔ a / 2 ^ j % 2 = 1 ∧ a / 2 ^ k % 2 = 1 := by
  subst hm
  rw [and_nat, Int.ofNat_inj, and_two h, Nat.testBit_eq_decide_div_mod_eq, Nat.testBit_eq_decide_div_mod_eq]
  simp
/-- the upper four of sixteen bits -/
theorem bit_top {a : Nat} (h : a < 65536) : Builtin.bitAnd (a : Int) 61440 = ((a / 4096 * 4096 : Nat) : Int) := by
  have e : (61440 : Int) = ((61440 : Nat) : Int) := rfl
  rw [e, and_nat, Int.ofNat_inj]
  apply Nat.eq_of_testBit_eq
  intro i
  have e1 : (61440 : Nat) = (2 ^ 4 - 1) * 2 ^ 12 := by decide
  have e2 : a / 4096 * 4096 = a / 2 ^ 12 * 2 ^ 12 := by rfl
  rw [e1, e2, Nat.testBit_and, Nat.testBit_mul_two_pow, Nat.testBit_mul_two_pow, Nat.testBit_two_pow_sub_one, Nat.testBit_div_two_pow]
  by_cases h12 : 12 ≤ i
  · have e3 : i - 12 + 12 = i := by omega
    simp only [h12, decide_true, Bool.true_and, e3]
    by_cases h4 : i - 12 < 4
    · simp [h4]
    · have : a.testBit i = false := Nat.testBit_lt_two_pow (Nat.lt_of_lt_of_le h (by
        have : (65536 : Nat) = 2 ^ 16 := by decide
        rw [this]; exact Nat.pow_le_pow_right (by decide) (by omega)))
      simp [this]
  · simp [h12]
end Mine
end
/- part ShownF -/
section
open PySem PySem.W PyProof.Rows
set_option maxRecDepth 100000
namespace Mine
def charIn0 (t : Nat) : Nat := match (tabs.getD 0 []).find? (fun p => decide (((t * 4096 : Nat) : Int) = p.1)) with | some p => p.2 | none => 63
theorem char_type {a : Nat} (h : a < 65536) : charOf (a : Int) 0 = typeF ((a : Int) / 4096) := by
  have ht : ∀ t < 16, charIn0 t = typeF ((t : Nat) : Int) := by decide
  have e : charOf (a : Int) 0 = charIn0 (a / 4096) := by
    unfold charOf charIn charIn0 tst
    simp only [if_true, bit_top h]
    all_goals rfl
  exact e.trans ((ht _ (by omega)).trans (congrArg typeF (by omega)))
theorem char_one {a k i ch : Nat} {b : Int} (hi : i ≠ 0) (hb : b = ((2 ^ k : Nat) : Int)) : charIn i (a : Int) [(b, ch)] = if a / 2 ^ k % 2 = 1 then ch else 45 := by
  subst hb
  unfold charIn tst
  simp only [if_neg hi, List.find?_cons, List.find?_nil]
  by_cases h : a / 2 ^ k % 2 = 1
  · rw [decide_eq_true (bit_one.mpr h), if_pos h]
  · rw [decide_eq_false (fun q => h (bit_one.mp q)), if_neg h]
theorem char_three {a j k i m s S x : Nat} {b0 b1 b2 : Int} (hi : i ≠ 0) (h0 : b0 = (m : Int)) (h1 : b1 = ((2 ^ j : Nat) : Int)) (h2 : b2 = ((2 ^ k : Nat) : Int)) (hjk : j ≠ k) (hm : m = 2 ^ j ||| 2 ^ k) :
    charIn i (a : Int) [(b0, s), (b1, S), (b2, x)] = if a / 2 ^ j % 2 = 1 then (if a / 2 ^ k % 2 = 1 then s else S) else (if a / 2 ^ k % 2 = 1 then x else 45) := by
  subst h0 h1 h2
  unfold charIn tst
  simp only [if_neg hi, List.find?_cons, List.find?_nil]
  by_cases hj : a / 2 ^ j % 2 = 1
  · by_cases hk : a / 2 ^ k % 2 = 1
    · rw [decide_eq_true ((bit_two hjk hm).mpr ⟨hj, hk⟩), if_pos hj, if_pos hk]
    · rw [decide_eq_false (fun q => hk ((bit_two hjk hm).mp q).2), decide_eq_true (bit_one.mpr hj), if_pos hj, if_neg hk]
  · by_cases hk : a / 2 ^ k % 2 = 1
    · rw [decide_eq_false (fun q => hj ((bit_two hjk hm).mp q).1), decide_eq_false (fun q => hj (bit_one.mp q)), decide_eq_true (bit_one.mpr hk), if_neg hj, if_pos hk]
    · rw [decide_eq_false (fun q => hj ((bit_two hjk hm).mp q).1), decide_eq_false (fun q => hj (bit_one.mp q)), decide_eq_false (fun q => hk (bit_one.mp q)), if_neg hj, if_neg hk]
end Mine
end
/- part ShownG -/
section
open PySem PySem.W PyProof.Rows
set_option maxRecDepth 100000
namespace Mine
theorem grp_nat (b d : Nat) (S s : Nat) : [if b / 4 % 2 = 1 then 114 else 45, if b / 2 % 2 = 1 then 119 else 45, if d % 2 = 1 then (if b % 2 = 1 then s else S) else (if b % 2 = 1 then 120 else 45)] = grp ((b : Int) % 8) ((d : Int) % 2) S s := by
  have two : ∀ (b : Nat) (x : Int) (s t : Nat), (b = 1 ↔ ¬ x = 0) → (if b = 1 then s else t) = if x = 0 then t else s := fun b x s t hb => by
    by_cases hx : x = 0
    · rw [if_pos hx, if_neg (fun q => hb.mp q hx)]
    · rw [if_neg hx, if_pos (hb.mpr hx)]
  have q0 : b / 4 % 2 = 1 ↔ ¬ (b : Int) % 8 / 4 = 0 := by omega
  have q1 : b / 2 % 2 = 1 ↔ ¬ (b : Int) % 8 / 2 % 2 = 0 := by omega
  have q2 : b % 2 = 1 ↔ ¬ (b : Int) % 8 % 2 = 0 := by omega
  have q3 : d % 2 = 1 ↔ ¬ (d : Int) % 2 = 0 := by omega
  unfold grp
  rw [two _ _ _ _ q0, two _ _ _ _ q1, two _ _ _ _ q3, two _ _ _ _ q2, two _ _ _ _ q2]
theorem file_list {a : Nat} (h : a < 65536) : fileF (a : Int) = strOf (typeF ((a : Int) / 4096) :: (grp ((a : Int) / 64 % 8) ((a : Int) / 2048 % 2) 83 115 ++ grp ((a : Int) / 8 % 8) ((a : Int) / 1024 % 2) 83 115 ++ grp ((a : Int) % 8) ((a : Int) / 512 % 2) 84 116)) := by
  have dv : ∀ m n : Nat, a / m / n = a / (m * n) := fun m n => Nat.div_div_eq_div_mul a m n
  have e : (List.range 10).map (charOf (a : Int)) = [charOf a 0, charOf a 1, charOf a 2, charOf a 3, charOf a 4, charOf a 5, charOf a 6, charOf a 7, charOf a 8, charOf a 9] := rfl
  have c1 : charOf (a : Int) 1 = if a / 64 / 4 % 2 = 1 then 114 else 45 := by rw [dv]; exact char_one (i := 1) (k := 8) (by decide) (by decide)
  have c2 : charOf (a : Int) 2 = if a / 64 / 2 % 2 = 1 then 119 else 45 := by rw [dv]; exact char_one (i := 2) (k := 7) (by decide) (by decide)
  have c3 : charOf (a : Int) 3 = if a / 2048 % 2 = 1 then (if a / 64 % 2 = 1 then 115 else 83) else (if a / 64 % 2 = 1 then 120 else 45) := char_three (i := 3) (m := 2112) (j := 11) (k := 6) (by decide) (by decide) (by decide) (by decide) (by decide) (by decide)
  have c4 : charOf (a : Int) 4 = if a / 8 / 4 % 2 = 1 then 114 else 45 := by rw [dv]; exact char_one (i := 4) (k := 5) (by decide) (by decide)
  have c5 : charOf (a : Int) 5 = if a / 8 / 2 % 2 = 1 then 119 else 45 := by rw [dv]; exact char_one (i := 5) (k := 4) (by decide) (by decide)
  have c6 : charOf (a : Int) 6 = if a / 1024 % 2 = 1 then (if a / 8 % 2 = 1 then 115 else 83) else (if a / 8 % 2 = 1 then 120 else 45) := char_three (i := 6) (m := 1032) (j := 10) (k := 3) (by decide) (by decide) (by decide) (by decide) (by decide) (by decide)
  have c7 : charOf (a : Int) 7 = if a / 4 % 2 = 1 then 114 else 45 := char_one (i := 7) (k := 2) (by decide) (by decide)
  have c8 : charOf (a : Int) 8 = if a / 2 % 2 = 1 then 119 else 45 := char_one (i := 8) (k := 1) (by decide) (by decide)
  have c9 : charOf (a : Int) 9 = if a / 512 % 2 = 1 then (if a % 2 = 1 then 116 else 84) else (if a % 2 = 1 then 120 else 45) := by
    have := char_three (a := a) (i := 9) (m := 513) (j := 9) (k := 0) (s := 116) (S := 84) (x := 120) (b0 := 513) (b1 := 512) (b2 := 1) (by decide) (by decide) (by decide) (by decide) (by decide) (by decide)
    rw [Nat.pow_zero, Nat.div_one] at this
    exact this
  unfold fileF strOf
  rw [e, char_type h, c1, c2, c3, c4, c5, c6, c7, c8, c9]
  have g0 : [if a / 64 / 4 % 2 = 1 then 114 else 45, if a / 64 / 2 % 2 = 1 then 119 else 45, if a / 2048 % 2 = 1 then (if a / 64 % 2 = 1 then 115 else 83) else (if a / 64 % 2 = 1 then 120 else 45)] = grp ((a : Int) / 64 % 8) ((a : Int) / 2048 % 2) 83 115 := grp_nat (a / 64) (a / 2048) 83 115
  have g1 : [if a / 8 / 4 % 2 = 1 then 114 else 45, if a / 8 / 2 % 2 = 1 then 119 else 45, if a / 1024 % 2 = 1 then (if a / 8 % 2 = 1 then 115 else 83) else (if a / 8 % 2 = 1 then 120 else 45)] = grp ((a : Int) / 8 % 8) ((a : Int) / 1024 % 2) 83 115 := grp_nat (a / 8) (a / 1024) 83 115
  have g2 : [if a / 4 % 2 = 1 then 114 else 45, if a / 2 % 2 = 1 then 119 else 45, if a / 512 % 2 = 1 then (if a % 2 = 1 then 116 else 84) else (if a % 2 = 1 then 120 else 45)] = grp ((a : Int) % 8) ((a : Int) / 512 % 2) 84 116 := grp_nat a (a / 512) 84 116
  rw [← g0, ← g1, ← g2]
  rfl
theorem shown_told {m : Int} (h0 : 0 ≤ m) (h1 : m < 65536) : shownF m = toldF m := by
  obtain ⟨a, rfl⟩ := Int.eq_ofNat_of_zero_le h0
  have ha : a < 65536 := by omega
  have e1 : Str.ofString "/" = strOf [47] := by decide +kernel
  have e2 : Str.ofString "@" = strOf [64] := by decide +kernel
  have e3 : Str.ofString "|" = strOf [124] := by decide +kernel
  unfold shownF toldF toldL sufL
  rw [if_neg (by omega), bit_top ha, file_list ha, e1, e2, e3, strOf_append, strOf_append, strOf_append]
  by_cases h4 : (a : Int) / 4096 = 4
  · rw [if_pos (by omega), if_pos h4]; simp
  · rw [if_neg (by omega), if_neg h4]
    by_cases h5 : (a : Int) / 4096 = 10
    · rw [if_pos (by omega), if_pos h5]; simp
    · rw [if_neg (by omega), if_neg h5]
      by_cases h6 : (a : Int) / 4096 = 1
      · rw [if_pos (by omega), if_pos h6]; simp
      · rw [if_neg (by omega), if_neg h6]; simp
end Mine
end
/- part SentLaw -/
section
open PySem PySem.W PyProof.Rows
set_option maxRecDepth 100000
namespace Mine
/-- all signs of a told row -/
def sgT : List Nat := [63, 112, 99, 100, 98, 45, 108, 115, 114, 119, 120, 83, 84, 116, 47, 64, 124]
/-- all signs that are sent -/
def sgA : List Nat := 46 :: 13 :: 10 :: sgT
theorem type_sg (k : Int) : typeF k ∈ sgT ∧ typeF k ≠ 46 := by
  unfold typeF
  generalize k.toNat = n
  by_cases h : n < 16
  · have key : ∀ n < 16, ([63, 112, 99, 63, 100, 63, 98, 63, 45, 63, 108, 63, 115, 63, 63, 63] : List Nat).getD n 63 ∈ sgT ∧ ([63, 112, 99, 63, 100, 63, 98, 63, 45, 63, 108, 63, 115, 63, 63, 63] : List Nat).getD n 63 ≠ 46 := by decide
    exact key n h
  · rw [List.getD_eq_getElem?_getD, List.getElem?_eq_none (by simp; omega)]
    decide
theorem grp_sg {x a : Int} {S s : Nat} (hS : S ∈ sgT) (hs : s ∈ sgT) : ∀ c ∈ grp x a S s, c ∈ sgT := fun c hc => by
  unfold grp at hc
  have h45 : 45 ∈ sgT := by decide
  have h114 : 114 ∈ sgT := by decide
  have h119 : 119 ∈ sgT := by decide
  have h120 : 120 ∈ sgT := by decide
  rcases List.mem_cons.mp hc with e | hc
  · rw [e]; split <;> assumption
  · rcases List.mem_cons.mp hc with e | hc
    · rw [e]; split <;> assumption
    · rw [List.mem_singleton.mp hc]; (repeat' split) <;> assumption
theorem suf_sg (k : Int) : ∀ c ∈ sufL k, c ∈ sgT := fun c hc => by
  unfold sufL at hc
  split at hc
  · rw [List.mem_singleton.mp hc]; decide
  · split at hc
    · rw [List.mem_singleton.mp hc]; decide
    · split at hc
      · rw [List.mem_singleton.mp hc]; decide
      · exact nomatch hc
theorem told_sg (m : Int) : ∀ c ∈ toldL m, c ∈ sgT := fun c hc => by
  unfold toldL at hc
  rcases List.mem_cons.mp hc with e | hc
  · rw [e]; exact (type_sg _).1
  · rcases List.mem_append.mp hc with hc | hc
    · rcases List.mem_append.mp hc with hc | hc
      · rcases List.mem_append.mp hc with hc | hc
        · exact grp_sg (by decide) (by decide) c hc
        · exact grp_sg (by decide) (by decide) c hc
      · exact grp_sg (by decide) (by decide) c hc
    · exact suf_sg _ c hc
theorem sgT_no : ∀ c ∈ sgT, c ≠ 10 ∧ c ≠ 13 := by decide
/-- a row's told part, as a list -/
def toldP (m : Int) : List Nat := if m < 0 then [] else toldL m
theorem toldS_list (m : Int) : toldS m = strOf (toldP m) := by
  unfold toldS toldP toldF
  split
  · decide +kernel
  · rfl
theorem toldP_nil (m : Int) : toldP m ≠ [] ↔ 0 ≤ m := by
  unfold toldP
  by_cases h : m < 0
  · rw [if_pos h]; constructor
    · intro q; exact absurd rfl q
    · intro q; omega
  · rw [if_neg h]
    exact ⟨fun _ => by omega, fun _ q => by unfold toldL at q; exact nomatch q⟩
theorem toldP_plain (m : Int) : Plain (toldP m) := by
  unfold toldP
  by_cases h : m < 0
  · rw [if_pos h]; exact ⟨(fun c hc => nomatch hc), (fun c hc => nomatch hc)⟩
  · rw [if_neg h]
    refine ⟨fun c hc => sgT_no c (told_sg m c hc), fun c hc => ?_⟩
    unfold toldL at hc
    rw [List.head?_cons] at hc
    rw [← Option.some.inj hc]
    exact (type_sg _).2
theorem toldP_sg (m : Int) : ∀ c ∈ toldP m, c ∈ sgT := fun c hc => by
  unfold toldP at hc
  split at hc
  · exact nomatch hc
  · exact told_sg m c hc
def stopP (s : Str) : List Nat := s.cps.toList
def preOf (r : Row) : Pre := (r.dots.toNat, toldP r.mode, stopP r.stop)
theorem stop_cases {r : Row} (h : r.Ok) : (r.stop = strOf [13] ∧ stopP r.stop = [13]) ∨ (r.stop = strOf [10] ∧ stopP r.stop = [10]) ∨ (r.stop = strOf [13, 10] ∧ stopP r.stop = [13, 10]) := by
  have e1 : Str.ofString "\r" = strOf [13] := by decide +kernel
  have e2 : Str.ofString "\n" = strOf [10] := by decide +kernel
  have e3 : Str.ofString "\r\n" = strOf [13, 10] := by decide +kernel
  rcases h.s with e | e | e
  · rw [e1] at e; exact .inl ⟨e, by rw [e]; rfl⟩
  · rw [e2] at e; exact .inr (.inl ⟨e, by rw [e]; rfl⟩)
  · rw [e3] at e; exact .inr (.inr ⟨e, by rw [e]; rfl⟩)
theorem shown_toldS {r : Row} (h : r.Ok) : shownF r.mode = toldS r.mode := by
  rcases h.m with e | ⟨h0, h1⟩
  · rw [e]; rfl
  · rw [shown_told h0 h1, toldS, if_neg (by omega)]
theorem dots_list (n : Int) : Txt.mul (Str.ofString ".") n = strOf (List.replicate n.toNat 46) := by
  have e : Str.ofString "." = ⟨#[46]⟩ := by decide +kernel
  rw [e]
  have h := mul_one_list 46 n
  have : ∀ (x : Str) (l : List Nat), x.cps.toList = l → x = strOf l := fun x l hx => by
    cases x with
    | mk c =>
      subst hx
      unfold strOf
      rfl
  exact this _ _ h
theorem line_list {r : Row} (h : r.Ok) : (lineF r).cps.toList = List.replicate r.dots.toNat 46 ++ (toldP r.mode ++ stopP r.stop) := by
  unfold lineF
  rw [shown_toldS h, toldS_list, dots_list]
  have e : r.stop = strOf (stopP r.stop) := rfl
  rw [e, strOf_append, strOf_append]
  unfold strOf stopP
  simp
theorem text_list : ∀ {rs : List Row}, (∀ r ∈ rs, r.Ok) → textL rs = preL (rs.map preOf)
  | [], _ => rfl
  | r :: rs, h => by
    have ih := text_list (rs := rs) fun x hx => h x (.tail _ hx)
    show (lineF r).cps.toList ++ textL rs = List.replicate r.dots.toNat 46 ++ (toldP r.mode ++ (stopP r.stop ++ preL (rs.map preOf)))
    rw [ih, line_list (h r (.head _))]
    simp
theorem strOf_inj {a b : List Nat} (h : strOf a = strOf b) : a = b := by
  have := congrArg (fun x : Str => x.cps.toList) h
  simpa [strOf] using this
theorem sent_fold {oft : Int} (ho : 0 ≤ oft) : ∀ {rs : List Row} {s a : Str} {b : Bool}, (∀ r ∈ rs, r.Ok) → (b = true ↔ a = strOf [13]) → (rs.foldl (sentStep oft) (s, a)).1 = s ++ strOf (outL oft.toNat (emitL b (rs.map preOf)))
  | [], s, a, b, _, _ => by
    show s = s ++ strOf []
    cases s with
    | mk c => show (⟨c⟩ : Str) = ⟨c ++ #[]⟩; simp
  | r :: rs, s, a, b, h, hb => by
    have hok := h r (.head _)
    have e1 : Str.ofString "\r" = strOf [13] := by decide +kernel
    have e2 : Str.ofString "\n" = strOf [10] := by decide +kernel
    have e3 : Str.ofString "\r\n" = strOf [13, 10] := by decide +kernel
    have hb' : ((stopP r.stop == [13]) = true) ↔ r.stop = strOf [13] := by
      rw [beq_iff_eq]
      constructor
      · intro q; rw [← q]; rfl
      · intro q; rw [q]; rfl
    have hs' : stopP r.stop ≠ [10] ↔ r.stop ≠ strOf [10] := by
      constructor
      · intro q q'; rw [q'] at q; exact q rfl
      · intro q q'; exact q (by rw [← q']; rfl)
    have as : ∀ a b c : Str, a ++ b ++ c = a ++ (b ++ c) := fun a b c => by
      show (⟨a.cps ++ b.cps ++ c.cps⟩ : Str) = ⟨a.cps ++ (b.cps ++ c.cps)⟩
      rw [Array.append_assoc]
    have d0 := hok.d0
    have est : sentStep oft (s, a) r = (if 0 < r.dots then s ++ (Txt.mul (Str.ofString ".") (r.dots + oft) ++ toldS r.mode ++ Str.ofString "\r\n") else if 0 ≤ r.mode ∨ a ≠ Str.ofString "\r" ∨ r.stop ≠ Str.ofString "\n" then s ++ (toldS r.mode ++ Str.ofString "\r\n") else s, r.stop) := rfl
    have epr : preOf r = (r.dots.toNat, toldP r.mode, stopP r.stop) := rfl
    rw [List.foldl_cons, List.map_cons, est, epr, sent_fold ho (b := stopP r.stop == [13]) (fun x hx => h x (.tail _ hx)) hb']
    rw [emitL, e1, e2, e3, toldS_list]
    by_cases hd : 0 < r.dots
    · rw [if_pos hd, if_pos (.inl (by omega)), outL, if_neg (by omega), dots_list, strOf_append, strOf_append, as, strOf_append]
      have : (r.dots + oft).toNat = r.dots.toNat + oft.toNat := by omega
      rw [this]
      simp
    · rw [if_neg hd]
      have hz : r.dots.toNat = 0 := by omega
      by_cases hc : 0 ≤ r.mode ∨ a ≠ strOf [13] ∨ r.stop ≠ strOf [10]
      · rw [if_pos hc, if_pos (by
          rcases hc with q | q | q
          · exact .inr (.inl ((toldP_nil _).mpr q))
          · refine .inr (.inr (.inl ?_))
            cases b with
            | false => rfl
            | true => exact absurd (hb.mp rfl) q
          · exact .inr (.inr (.inr (hs'.mpr q)))), outL, if_pos hz, as, strOf_append, strOf_append]
        simp
      · rw [if_neg hc, if_neg (by
          rintro (q | q | q | q)
          · exact q hz
          · exact hc (.inl ((toldP_nil _).mp q))
          · refine hc (.inr (.inl fun q' => ?_))
            rw [hb.mpr q'] at q; exact Bool.noConfusion q
          · exact hc (.inr (.inr (hs'.mp q))))]
theorem pre_ok {rs : List Row} (h : ∀ r ∈ rs, r.Ok) : ∀ e ∈ rs.map preOf, Plain e.2.1 ∧ (e.2.2 = [13] ∨ e.2.2 = [10] ∨ e.2.2 = [13, 10]) := fun e he => by
  obtain ⟨r, hr, rfl⟩ := List.mem_map.mp he
  refine ⟨toldP_plain _, ?_⟩
  rcases stop_cases (h r hr) with q | q | q
  · exact .inl q.2
  · exact .inr (.inl q.2)
  · exact .inr (.inr q.2)
def sentL (k : Nat) (rs : List Row) : List Nat := outL k (emitL false (rs.map preOf))
theorem sent_list {oft : Int} (ho : 0 ≤ oft) {rs : List Row} (h : ∀ r ∈ rs, r.Ok) : sentF oft rs = strOf (sentL oft.toNat rs) := by
  have e0 : Str.ofString "" = strOf [] := by decide +kernel
  unfold sentF sentL
  rw [sent_fold ho (b := false) h (by
    constructor
    · intro q; exact Bool.noConfusion q
    · intro q; rw [e0] at q; exact nomatch (strOf_inj q)), e0, strOf_append]
  rfl
theorem qd_list (l : List Nat) : qd (strOf l) = strOf (dotL true (normL l)) := by
  unfold qd strOf
  rw [dotted_eq, norm_eq]
theorem qdn_list {rs : List Row} (h : ∀ r ∈ rs, r.Ok) : qdn 1 (textF rs) = strOf (sentL 1 rs) ∧ qdn 2 (textF rs) = strOf (sentL 2 rs) := by
  have hp := pre_ok h
  have hpl := emitL_plain false fun e he => (hp e he).1
  have h1 : qdn 1 (textF rs) = strOf (sentL 1 rs) := by
    show qd (strOf (textL rs)) = _
    have := normL_pre false hp
    rw [if_neg (by decide)] at this
    rw [qd_list, text_list h, this, dotL_out 0 hpl]
    rfl
  refine ⟨h1, ?_⟩
  show qd (qdn 1 (textF rs)) = _
  rw [h1, qd_list]
  unfold sentL
  rw [normL_out 1 hpl, dotL_out 1 hpl]
/-- what is sent is what the law says -/
theorem sent_law (ns : List Int) {oft : Int} (h : oft = 1 ∨ oft = 2) : qdn oft.toNat (textF (rowsF ns)) = sentF oft (rowsF ns) := by
  have hq := qdn_list (rowsF_ok ns)
  rw [sent_list (by omega) (rowsF_ok ns)]
  rcases h with e | e <;> subst e
  · exact hq.1
  · exact hq.2
theorem out_sg (k : Nat) : ∀ {es : List (Nat × List Nat)}, (∀ e ∈ es, ∀ c ∈ e.2, c ∈ sgA) → ∀ c ∈ outL k es, c ∈ sgA
  | [], _, c, hc => nomatch hc
  | (d, t) :: r, h, c, hc => by
    rw [outL] at hc
    rcases List.mem_append.mp hc with hc | hc
    · rw [(List.mem_replicate.mp hc).2]; decide
    · rcases List.mem_append.mp hc with hc | hc
      · exact h _ (.head _) c hc
      · rcases List.mem_cons.mp hc with e | hc
        · rw [e]; decide
        · rcases List.mem_cons.mp hc with e | hc
          · rw [e]; decide
          · exact out_sg k (fun e he => h e (.tail _ he)) c hc
theorem emit_sg : ∀ {ps : List Pre} (b : Bool), (∀ e ∈ ps, ∀ c ∈ e.2.1, c ∈ sgA) → ∀ e ∈ emitL b ps, ∀ c ∈ e.2, c ∈ sgA
  | [], _, _, e, he => nomatch he
  | (d, t, s) :: r, b, h, e, he => by
    rw [emitL] at he
    have hr : ∀ e ∈ r, ∀ c ∈ e.2.1, c ∈ sgA := fun e he => h e (.tail _ he)
    split at he
    · rcases List.mem_cons.mp he with rfl | he
      · exact h _ (.head _)
      · exact emit_sg _ hr e he
    · exact emit_sg _ hr e he
theorem sent_sg {oft : Int} (ho : 0 ≤ oft) {rs : List Row} (h : ∀ r ∈ rs, r.Ok) : ∀ c ∈ (sentF oft rs).cps.toList, c ∈ sgA := fun c hc => by
  rw [sent_list ho h] at hc
  have hc : c ∈ sentL oft.toNat rs := by simpa [strOf] using hc
  refine out_sg _ (emit_sg false fun e he => ?_) c hc
  obtain ⟨r, _, rfl⟩ := List.mem_map.mp he
  exact fun c hc => .tail _ (.tail _ (.tail _ (toldP_sg _ c hc)))
end Mine
end
/- part DecLaw -/
section
open PySem PySem.W PyProof.Rows
set_option maxRecDepth 100000
namespace Mine
/-- what translate makes of a sign -/
def trF (p q c : Nat) : Int := (((if c.toUInt8 = q.toUInt8 then 47 else if c.toUInt8 = p.toUInt8 then 43 else c.toUInt8 : UInt8).toNat : Nat) : Int)
def readsOk (p q c : Nat) : Bool := trF p q c != 61 && (if 0 ≤ worthF p q c then decide (b64v (trF p q c) = worthF p q c) else decide (64 ≤ b64v (trF p q c)))
theorem reads_all : ∀ c ∈ sgA, ∀ p ∈ sgs, ∀ q ∈ sgs, p ≠ q → readsOk p q c = true := by decide +kernel
theorem reads {p q : Nat} (hp : p ∈ sgs) (hq : q ∈ sgs) (hne : p ≠ q) {z : List Nat} (hz : ∀ c ∈ z, c ∈ sgA) : Reads (trF p q) (worthF p q) z := by
  have key : ∀ c ∈ z, readsOk p q c = true := fun c hc => reads_all c (hz c hc) p hp q hq hne
  unfold readsOk at key
  refine ⟨fun c hc => ?_, fun c hc h0 => ?_, fun c hc h0 => ?_⟩
  · have := key c hc
    rw [Bool.and_eq_true] at this
    exact bne_iff_ne.mp this.1
  · have := key c hc
    rw [Bool.and_eq_true, if_pos h0] at this
    exact ⟨of_decide_eq_true this.2, worthF_lt _ _ _⟩
  · have := key c hc
    rw [Bool.and_eq_true, if_neg h0] at this
    exact of_decide_eq_true this.2
theorem pads_list (n : Int) : Txt.mul (Str.ofString "=") n = strOf (List.replicate n.toNat 61) := by
  have e : Str.ofString "=" = ⟨#[61]⟩ := by decide +kernel
  rw [e]
  have h := mul_one_list 61 n
  have : ∀ (x : Str) (l : List Nat), x.cps.toList = l → x = strOf l := fun x l hx => by
    cases x with
    | mk c =>
      subst hx
      unfold strOf
      rfl
  exact this _ _ h
theorem pad_ints {p q : Nat} (hp : p ∈ sgs) (hq : q ∈ sgs) (z : Str) : B.bInts (trans p.toUInt8 q.toUInt8 (octs (padF p q z))) = z.cps.toList.map (trF p q) ++ List.replicate ((-((figF p q z).length : Int)).fmod 4).toNat 61 := by
  have h61 : ∀ p ∈ sgs, ∀ q ∈ sgs, trF p q 61 = 61 := by decide +kernel
  have e : (padF p q z).cps.toList = z.cps.toList ++ List.replicate ((-((figF p q z).length : Int)).fmod 4).toNat 61 := by
    unfold padF
    rw [pads_list]
    show (z.cps ++ (List.replicate _ 61).toArray).toList = _
    simp
  have e2 : B.bInts (trans p.toUInt8 q.toUInt8 (octs (padF p q z))) = (padF p q z).cps.toList.map (trF p q) := by
    unfold B.bInts trans octs
    rw [Array.toList_map, Array.toList_map, List.map_map, List.map_map]
    rfl
  rw [e2, e, List.map_append, List.map_replicate, h61 p hp q hq]
theorem filter_all {l : List Int} (h : ∀ x ∈ l, 0 ≤ x) : l.filter (fun x => decide (0 ≤ x)) = l := by
  rw [List.filter_eq_self]
  exact fun x hx => decide_eq_true (h x hx)
theorem fig_all {p q : Nat} {z : Str} : (figF p q z).length = (wsF p q z).length ↔ ∀ c ∈ z.cps.toList, 0 ≤ worthF p q c := by
  unfold figF
  rw [List.length_filter_eq_length_iff]
  unfold wsF
  constructor
  · intro h c hc
    exact of_decide_eq_true (h _ (List.mem_map.mpr ⟨c, hc, rfl⟩))
  · intro h x hx
    obtain ⟨c, hc, rfl⟩ := List.mem_map.mp hx
    exact decide_eq_true (h c hc)
theorem fmod_cast (n : Nat) : ((((-(n : Int)).fmod 4).toNat : Nat) : Int) = (-(n : Int)).fmod 4 := by
  have := Int.fmod_nonneg_of_pos (-(n : Int)) (b := 4) (by decide)
  omega
/-- b64decode of it, loosely -/
theorem loose_law (ns : List Int) {oft : Int} (h : oft = 1 ∨ oft = 2) {p q : Nat} (hp : p ∈ sgs) (hq : q ∈ sgs) (hne : p ≠ q) :
    B.a2bF false (B.bInts (trans p.toUInt8 q.toUInt8 (octs (padF p q (sentF oft (rowsF ns)))))) = if (figF p q (sentF oft (rowsF ns))).length % 4 = 1 then none else some (octL (figF p q (sentF oft (rowsF ns)))) := by
  have hz := sent_sg (oft := oft) (by omega) (rowsF_ok ns)
  generalize sentF oft (rowsF ns) = z at *
  rw [pad_ints hp hq]
  unfold B.a2bF B.start
  obtain ⟨i', e⟩ := run_loose (List.replicate ((-((figF p q z).length : Int)).fmod 4).toNat 61) (reads hp hq hne hz) 0 0 0 []
  rw [e]
  have ef : ((z.cps.toList.map (worthF p q)).filter fun x => decide (0 ≤ x)) = figF p q z := rfl
  rw [ef]
  obtain ⟨l, j, e2⟩ := feed_fours _ (figF p q z) (Nat.le_refl _) figF_range 0 []
  rw [e2]
  dsimp only
  rw [run_pads _ (fmod_cast _), List.nil_append]
/-- b64decode of it, strictly -/
theorem strict_law (ns : List Int) {oft : Int} (h : oft = 1 ∨ oft = 2) {p q : Nat} (hp : p ∈ sgs) (hq : q ∈ sgs) (hne : p ≠ q) :
    B.a2bF true (B.bInts (trans p.toUInt8 q.toUInt8 (octs (padF p q (sentF oft (rowsF ns)))))) = if (figF p q (sentF oft (rowsF ns))).length % 4 = 1 then none else if (figF p q (sentF oft (rowsF ns))).length = (wsF p q (sentF oft (rowsF ns))).length then some (octL (figF p q (sentF oft (rowsF ns)))) else none := by
  have hz := sent_sg (oft := oft) (by omega) (rowsF_ok ns)
  generalize sentF oft (rowsF ns) = z at *
  rw [pad_ints hp hq]
  unfold B.a2bF B.start
  by_cases hall : (figF p q z).length = (wsF p q z).length
  · rw [if_pos hall]
    have hall' := fig_all.mp hall
    obtain ⟨i', e⟩ := run_strict (List.replicate ((-((figF p q z).length : Int)).fmod 4).toNat 61) (reads hp hq hne hz) hall' 0 0 0 []
    rw [e]
    have ef : z.cps.toList.map (worthF p q) = figF p q z := by
      show wsF p q z = _
      unfold figF
      rw [filter_all]
      intro x hx
      obtain ⟨c, hc, rfl⟩ := List.mem_map.mp hx
      exact hall' c hc
    rw [ef]
    obtain ⟨l, j, e2⟩ := feed_fours _ (figF p q z) (Nat.le_refl _) figF_range 0 []
    rw [e2]
    dsimp only
    rw [run_pads _ (fmod_cast _), List.nil_append]
  · rw [if_neg hall, run_strict_bad _ (reads hp hq hne hz) (by
      refine Classical.byContradiction fun q' => hall (fig_all.mpr fun c hc => ?_)
      refine Classical.byContradiction fun q'' => q' ⟨c, hc, q''⟩)]
    split <;> rfl
end Mine
end
/- part PadF -/
section
open PySem PySem.W PyProof.Rows
set_option maxRecDepth 100000
namespace Mine
theorem pad_list (p q : Nat) (z : Str) : (padF p q z).cps.toList = z.cps.toList ++ List.replicate ((-((figF p q z).length : Int)).fmod 4).toNat 61 := by
  unfold padF
  rw [pads_list]
  show (z.cps ++ (List.replicate _ 61).toArray).toList = _
  simp
theorem pad_ascii (ns : List Int) {oft : Int} (h : oft = 1 ∨ oft = 2) {p q : Nat} : ascii (padF p q (sentF oft (rowsF ns))) := fun c hc => by
  rw [pad_list] at hc
  have key : ∀ c ∈ sgA, c < 128 := by decide
  rcases List.mem_append.mp hc with hc | hc
  · exact key c (sent_sg (by omega) (rowsF_ok ns) c hc)
  · rw [(List.mem_replicate.mp hc).2]; decide
theorem pad_size {p q : Nat} {z : Str} (h : z.length ≤ 200) : (padF p q z).cps.size ≤ 10000 := by
  have h2 := Int.fmod_lt_of_pos (-((figF p q z).length : Int)) (b := 4) (by decide)
  have e : z.cps.size ≤ 200 := h
  rw [← Array.length_toList, pad_list, List.length_append, List.length_replicate, Array.length_toList]
  omega
theorem pair_ascii {p q : Nat} (hp : p ∈ sgs) (hq : q ∈ sgs) : ascii ⟨#[p, q]⟩ := fun c hc => by
  have key : ∀ c ∈ sgs, c < 128 := by decide
  rcases List.mem_cons.mp hc with e | hc
  · rw [e]; exact key p hp
  · rw [List.mem_singleton.mp hc]; exact key q hq
theorem one_over {n : Nat} (h : (n : Int).fmod 4 = 1) : n % 4 = 1 := by
  rw [Int.fmod_eq_emod_of_nonneg _ (by decide)] at h; omega
theorem not_one_over {n : Nat} (h : ¬ (n : Int).fmod 4 = 1) : ¬ n % 4 = 1 := by
  rw [Int.fmod_eq_emod_of_nonneg _ (by decide)] at h; omega
end Mine
end
/- part Caught -/
section
open PySem PySem.W PyProof.Rows PySem.Calls PyProof.V PySem.Spec
set_option maxRecDepth 100000
set_option maxHeartbeats 1000000
namespace Mine
/-- an exception of a class of the text, raised by a call of the outermost frame, caught there under a built-in name above it; the frame and its ledger stand as at the call -/
theorem caught_own {prog : Program} {w : World} {A₀ : Around} {E : Value → Shared → Prop} {s' : Shared} {h₀ h : Heap} {env : Env} {L e t C : Addr} {m : Str → Option Value}
    {vs : List Value} {b₀ : Stmt} {suite : List Stmt} {pos np : Pos} {rest : List ExceptHandler} {Q : Flow → Shared → Prop} {news nw : List (Addr × Obj)} {KF : Frag}
    {p : Program} {loose : List Str} {mean : ExcName → Option Value} {mg mb : Str → Option Value} {x : Str} {T' : String}
    (hA : (A₀.deeper env).frames = some [env]) (hf : env.frame = some L) (hgl : env.globals = mainGlobals) (hbl : env.builtins = builtinsNs)
    (R : RaisedS h₀ h [env] e (.ref C) t vs nw s'.heap) (F : Fr h₀ L h m) (N : News h₀ L h news) (hsm : h.UpToSlots s'.heap) (X : KF.In h₀) (T : Top p loose mean mg mb h₀)
    (q : ktsIn KF C T' = true) (ex : nsIn KF mainGlobals x = some none) (hv : bootBuiltins x = some (.type T')) (hn' : x ≠ "__name__")
    (hexc : isSubtype (.type T') (.type "BaseException") = pure true) (hnt : isSubtype (.type ((Manifest.find? T').elim "type" fun y => y.metatype)) (.type "tuple") = pure false)
    (k : ∀ h', Fr h₀ L h' m → News h₀ L h' news → wpAny (model prog w) ((A₀.deeper env).mark (some (.ref e))) (execs (b₀ :: suite) env) Q E { s' with heap := h' })
    (hk : env.scope.kind = .function) (hx : env.kindOf x = some .globalImplicit) (hd : (x == ("__debug__" : Str)) = false)
    (hE : PassesOwnAt (model prog w) ((A₀.deeper env).mark (some (.ref e))) (A₀.deeper env) env E) :
    wpAny (model prog w) (A₀.deeper env) (noteFrame (.ref e) env)
      (fun _ s₂ => wpAny (model prog w) (A₀.deeper env) (setFlight (.ref e) none) (fun _ s₃ =>
        wpAny (model prog w) (A₀.deeper env) (handleBy (.ref e) env (.ExceptHandler (some (.Name x np)) none (b₀ :: suite) pos :: rest)) Q E s₃) E s₂) E s' := by
  obtain ⟨⟨B, hB, hBG, _, hfl, _⟩, _⟩ := R
  have hfr : [env].filterMap (·.frame) = [L] := by simp [hf]
  have keepN : ∀ g : Heap, B.StaysIn g → News h₀ L g news := fun g hg q hq => by
    have z := N q hq
    refine ⟨hg _ _ (hBG _ _ z.1 ?_), z.2⟩
    rw [hfr]
    intro hm
    exact z.2.1 (List.mem_singleton.mp hm)
  refine wpAny_looks_onW hA hf hfl fun h₄ hheld₄ hsm₄ => ?_
  refine wpAny_landsW hheld₄ fun h₅ hheld hsm₅' => ?_
  have hsm₅ := hsm₄.trans hsm₅'
  have F₅ := F.of_stays (flyingW_base hB hheld).1 (hsm.trans hsm₅)
  have X₅ := X.keeps F₅.keep
  have T₅ := T.keeps F₅.keep
  obtain ⟨ob, hob, hobc⟩ := hheld.there
  obtain ⟨nm, q', N', bs, bm, hdct, sn, sub, ab, col, dd, k0, k1, k2, k3, k5, newId, hC, hbase, hbT⟩ := kts_cls X q
  have hC₅ := F₅.keep _ _ hC
  refine wpAny_handleBy_cons (codeAny_handlers_test (Name_function_global hk hx (loadGlobal_builtin (mg := mg) (mb := mb) (by rw [hgl]; exact T₅.g) (mg_none_of X T.g ex) (by rw [hbl]; exact T₅.b) ((T.builtins x hn').trans hv) ?_) hd)) (by intro q; cases q)
  refine wpAny_excMatches_sub_type hC₅ hob hobc hexc hnt ?_
  rw [hbT]
  refine codeAny_handlers_suite ?_
  refine lands_againW hheld fun h₆ hfl₆ hsm₆ => ?_
  exact wpAny_passesOwnAt hE (k h₆ (F.of_stays (flyingW_base hB hfl₆).1 ((hsm.trans hsm₅).trans hsm₆)) (keepN _ hfl₆.1))
end Mine
end
theorem Mine.gapLawT : (if True then True else True) := by
  w_top off
  (try walk1)
  w_top off
  all_goals first | trivial | simp
/- part LawT -/
section
open PySem PySem.W PyProof.Rows PySem.Calls
set_option maxRecDepth 100000
set_option maxHeartbeats 40000000
namespace Mine
/-- a mark: how far the walk may go -/
def Stage (_ : Nat) : Prop := True
section
variable {M : Model} {A : Around} {E : Value → Shared → Prop} {env : Env} {Q : Flow → Shared → Prop} {s : Shared}
theorem halt_assign (y : Str) {c p : Pos} {v : PySem.Expr} (h : Halt (wpAny M A (exec (Stmt.Assign [Expr.Name y c] v p) env) Q E s)) : wpAny M A (exec (Stmt.Assign [Expr.Name y c] v p) env) Q E s := h
end
local macro_rules | `(tactic| walk_at "eval Constant int") => `(tactic| refine const_int ?_)
local macro_rules | `(tactic| walk_at "binaryOp Add int int") => `(tactic| refine add_int' ?_)
local macro_rules | `(tactic| walk_at "mine says") => `(tactic| (
   (case k1 => k_asm); (case k2 => k_asm); (case k3 => k_asm); (case k4 => k_asm); (case k5 => k_asm); (try (case kS => walk_at "mine whom")); (case k6 => exact rfl); (case k7 => exact rfl); (case k8 => exact rfl); (case k9 => first | (dsimp only [around]; omega) | decide); (case k10 => first | (dsimp only [around]; omega) | decide); k_whole))
local macro_rules | `(tactic| walk_at "call ref") => `(tactic| (k_here; refine Halt.mk ?_))
theorem news_sub {h₀ h : Heap} {L : Addr} {news sm : List (Addr × Obj)} (N : News h₀ L h news) (hs : ∀ p ∈ sm, p ∈ news) : News h₀ L h sm := fun p hp => N p (hs p hp)
local macro_rules | `(tactic| walk_at "exec Assign") => `(tactic| (k_here; (fail_if_success (with_reducible rename Stage 2 => hst)); (with_reducible refine halt_assign (Str.ofString "signs") ?_)))
local macro_rules | `(tactic| walk_at "binaryOp Add str str") => `(tactic| (k_here; (refine addG (by omega) ?_); intro z' t' k' hz' hl'; (try dsimp only)))
local macro_rules | `(tactic| walk_at "subscriptTail") => `(tactic| (k_here; (refine itemG (n := 14) (by decide +kernel) (by omega) (by omega) (by decide) ?_); intro z' t' k' hz' hl'; (try dsimp only)))
local macro_rules | `(tactic| walk_at "exec Assign") => `(tactic| (k_here; (fail_if_success (with_reducible rename Stage 1 => hst)); (with_reducible refine halt_assign (Str.ofString "often") ?_)))
local macro_rules | `(tactic| walk_at "exec Assign") => `(tactic| (k_here; (fail_if_success (with_reducible rename Stage 3 => hst)); (with_reducible refine halt_assign (Str.ofString "text") ?_)))
local macro_rules | `(tactic| walk_at "eval ListComp") => `(tactic| (k_here; (with_reducible rename Stage 3 => hst); refine Halt.mk ?_))
local macro_rules | `(tactic| walk_at "exec Assign cons ListComp") => `(tactic| (k_here; (with_reducible rename Stage 3 => hst); refine Halt.mk ?_))
def LineJ (rs : List Row) (i : Nat) (ys : List Value) : Prop := ∃ ts : List (Str × Tok), ys = strValues ts ∧ ts.map (·.1) = (rs.take i).map lineF
theorem line_turn {rs : List Row} {i : Nat} {ts : List (Str × Tok)} {r : Row} {z : Str} {t : Tok} (hr : rs[i]? = some r) (h : ts.map (·.1) = (rs.take i).map lineF) (hz : z = lineF r) : LineJ rs (i + 1) (strValues ts ++ [.str z t]) := by
  refine ⟨ts ++ [(z, t)], ?_, ?_⟩
  · unfold strValues; rw [List.map_append]; rfl
  · rw [List.map_append, h, List.take_add_one, hr, hz]; simp
local macro_rules | `(tactic| walk_at "binaryOp Mult str int") => `(tactic| (k_here; (refine mulG (by omega) (by omega) ?_); intro z' t' k' hz' hl'; (try dsimp only)))
local macro_rules | `(tactic| walk_at "call builtin:str.join") => `(tactic| (k_here; refine Halt.mk ?_))
local macro_rules | `(tactic| walk_at "pyIter ref") => `(tactic| (k_here; (with_reducible rename Stage 3 => hst); refine Halt.mk ?_))
local macro_rules | `(tactic| walk_at "exec For Name Call cons nil") => `(tactic| (k_here; (with_reducible rename Stage 3 => hst); refine Halt.mk ?_))
local macro_rules | `(tactic| walk_at "call type:range") => `(tactic| (k_here; (with_reducible rename Stage 3 => hst); refine Halt.mk ?_))
local macro_rules | `(tactic| walk_at "TurnPost") => `(tactic| (dsimp only [TurnPost]))
local macro_rules | `(tactic| walk_at "mine agrees") => `(tactic| (repeat (first | (with_reducible refine Agrees.store (by decide) ?_) | (with_reducible refine Agrees.storeU (by decide) ?_) | (with_reducible exact Agrees.base) | refine Agrees.store (by decide) ?_ | exact Agrees.base | exact Agrees.refl | refine Agrees.over (by decide) ?_)))
local macro_rules | `(tactic| walk_at "mine get") => `(tactic| (k_dflt (exact ⟨_, rfl⟩)))
abbrev lawN : List Str := [Str.ofString "turn", Str.ofString "text"]
def TextJ (x : Str) (i : Nat) (u : Str → Option Value) (nx : List (Addr × Obj)) : Prop := nx = [] ∧ ∃ t, u (Str.ofString "text") = some (.str (qdn i x) t)
theorem range_one {n : Nat} (h : n ≤ 10) : Builtin.Range.rangeSize 0 (n : Int) 1 = (n : Int) := by
  unfold Builtin.Range.rangeSize
  rw [if_pos (by decide)]
  by_cases h : (0 : Int) < n
  · rw [if_pos h]; omega
  · rw [if_neg h]; omega
theorem small_one {n : Nat} (h : n ≤ 10) : Builtin.Range.small 0 (n : Int) 1 = true := by
  unfold Builtin.Range.small
  rw [range_one h]
  have key : ∀ z : Int, 0 ≤ z → z ≤ 2000 → Builtin.Range.rangeFitsLong z = true := fun z z0 z1 => by
    unfold Builtin.Range.rangeFitsLong
    simp; omega
  simp only [key 0 (by decide) (by decide), key n (by omega) (by omega), key 1 (by decide) (by decide), Bool.true_and]
  rw [if_pos (by decide), key _ (by omega) (by omega), Bool.or_true]
def WorthJ (p q : Nat) (z : Str) (i : Nat) (ys : List Value) : Prop := IntsAre ys ((wsF p q z).take i)
theorem worth_turn {p q i c : Nat} {z : Str} {ys : List Value} {t : Tok} (hc : z.cps[i]? = some c) (h : WorthJ p q z i ys) : WorthJ p q z (i + 1) (ys ++ [.int (worthF p q c) t]) := by
  unfold WorthJ
  have e : (wsF p q z)[i]? = some (worthF p q c) := by
    unfold wsF; rw [List.getElem?_map, Array.getElem?_toList, hc]; rfl
  rw [List.take_add_one, e]
  exact ints_snoc' h
def FigJ (ws : List Int) (i : Nat) (ys : List Value) : Prop := IntsAre ys ((ws.take i).filter fun x => decide (0 ≤ x))
theorem fig_keep {ws : List Int} {i : Nat} {x : Int} {ys : List Value} {t : Tok} (hx : ws[i]? = some x) (h0 : 0 ≤ x) (h : FigJ ws i ys) : FigJ ws (i + 1) (ys ++ [.int x t]) := by
  unfold FigJ
  rw [List.take_add_one, hx, List.filter_append]
  have : (Option.toList (some x)).filter (fun x => decide (0 ≤ x)) = [x] := by simp [h0]
  rw [this]
  exact ints_snoc' h
theorem fig_drop {ws : List Int} {i : Nat} {x : Int} {ys : List Value} (hx : ws[i]? = some x) (h0 : ¬ 0 ≤ x) (h : FigJ ws i ys) : FigJ ws (i + 1) ys := by
  unfold FigJ
  rw [List.take_add_one, hx, List.filter_append]
  have : (Option.toList (some x)).filter (fun x => decide (0 ≤ x)) = [] := by simp [h0]
  rw [this, List.append_nil]
  exact h
def codes (z : Str) : List Int := z.cps.toList.map fun c : Nat => (c : Int)
def OrdJ (z : Str) (i : Nat) (ys : List Value) : Prop := IntsAre ys ((codes z).take i)
theorem codes_length {z : Str} : (codes z).length = z.cps.size := by unfold codes; rw [List.length_map, Array.length_toList]
theorem ord_turn {i c : Nat} {z : Str} {ys : List Value} {t : Tok} (hc : z.cps[i]? = some c) (h : OrdJ z i ys) : OrdJ z (i + 1) (ys ++ [.int (c : Int) t]) := by
  unfold OrdJ
  have e : (codes z)[i]? = some (c : Int) := by
    unfold codes; rw [List.getElem?_map, Array.getElem?_toList, hc]; rfl
  rw [List.take_add_one, e]
  exact ints_snoc' h
theorem codes_in {z : Str} (h : ascii z) : KBa.In (codes z) := fun n hn => by
  obtain ⟨c, hc, rfl⟩ := List.mem_map.mp hn
  have := h c hc
  omega
theorem codes_octs {z : Str} : byteArr (codes z) = octs z := by
  unfold byteArr codes octs
  apply Array.ext'
  simp
theorem rowsHeap {h₀ h : Heap} {L D : Addr} {news tups : List (Addr × Obj)} {its : Array Value} {n : Nat} {rs : List Row} (N : News h₀ L h news) (hD : (D, W.listOf its n) ∈ news) (ht : ∀ p ∈ tups, p ∈ news) (hr : RowsAre its tups rs) : RowsHeap h D rs :=
  ⟨its, N.isList hD, hr.1, fun j r hj => by
    obtain ⟨T, o, td, tm, te, h1, h2, hc, nn, hd⟩ := hr.2 j r hj
    exact ⟨T, td, tm, te, h1, ⟨o, (N _ (ht _ h2)).1, hc, nn, hd⟩⟩⟩
local macro_rules | `(tactic| walk_at "eval IfExp") => `(tactic| (k_here; (with_reducible rename Stage 3 => hst); refine Halt.mk ?_))
theorem len_of {prog : Program} {w : World} {A : Around} {E : Value → Shared → Prop} {s : Shared} {h₀ : Heap} {L l : Addr} {news : List (Addr × Obj)} {ys : List Value} {n m : Nat} {Q : Value → Shared → Prop} (N : News h₀ L s.heap news) (hm : (l, W.listOf ys.toArray n) ∈ news) (he : ys.length = m) (hfit : m ≤ 1000)
    (h : Q (.int (m : Int) (s.toks + 1)) { s with toks := s.toks + 1 + 1 }) : wpAny (model prog w) A (call (.builtin "len") [.ref l]) Q E s := by
  subst he
  exact len_list (N.isList hm) (by rw [List.size_toArray]; omega) (by rw [List.size_toArray]; exact h)
local macro_rules | `(tactic| walk_at "call builtin:len") => `(tactic| (k_here; (with_reducible rename Stage 3 => hst); (refine len_of (by k_asm) (by k_mem) (by with_reducible assumption) (by omega) ?_); (try dsimp only)))
local macro_rules | `(tactic| walk_at "call builtin:len") => `(tactic| (k_here; (with_reducible rename Stage 5 => hst); refine Halt.mk ?_))
local macro_rules | `(tactic| walk_at "inplaceOp Add str str") => `(tactic| (k_here; (refine iaddG (by omega) ?_); intro z' t' k' hz' hl'; (try dsimp only)))
local macro_rules | `(tactic| walk_at "exec Try") => `(tactic| (k_here; refine Halt.mk ?_))
theorem loose_of (ns : List Int) {oft : Int} (h : oft = 1 ∨ oft = 2) {p q : Nat} (hp : p ∈ sgs) (hq : q ∈ sgs) (hne : p ≠ q) {Z : Str} (hZ : Z = sentF oft (rowsF ns)) :
    B.a2bF false (B.bInts (trans p.toUInt8 q.toUInt8 (octs (padF p q Z)))) = if (figF p q Z).length % 4 = 1 then none else some (octL (figF p q Z)) := by rw [hZ]; exact loose_law ns h hp hq hne
theorem strict_of (ns : List Int) {oft : Int} (h : oft = 1 ∨ oft = 2) {p q : Nat} (hp : p ∈ sgs) (hq : q ∈ sgs) (hne : p ≠ q) {Z : Str} (hZ : Z = sentF oft (rowsF ns)) :
    B.a2bF true (B.bInts (trans p.toUInt8 q.toUInt8 (octs (padF p q Z)))) = if (figF p q Z).length % 4 = 1 then none else if (figF p q Z).length = (wsF p q Z).length then some (octL (figF p q Z)) else none := by rw [hZ]; exact strict_law ns h hp hq hne
/-- what due may be -/
def DueOk (fs : List Int) (v : Value) : Prop := (fs.length % 4 = 1 ∧ v = .none) ∨ (¬ fs.length % 4 = 1 ∧ ∃ t, v = .bytes (byteArr (octL fs)) t)
def LooseOk (fs : List Int) (_ v : Value) : Prop := DueOk fs v
def StrictOk (fs ws : List Int) (v : Value) : Prop := (¬ (¬ fs.length % 4 = 1 ∧ fs.length = ws.length) ∧ v = .none) ∨ (¬ fs.length % 4 = 1 ∧ fs.length = ws.length ∧ ∃ t, v = .bytes (byteArr (octL fs)) t)
theorem loose_none {fs : List Int} {v : Value} (h : (if fs.length % 4 = 1 then none else some (octL fs)) = none) (_ : DueOk fs v) : LooseOk fs v .none := .inl ⟨by
  refine Classical.byContradiction fun q => ?_
  rw [if_neg q] at h; exact Option.some_ne_none _ h, rfl⟩
theorem loose_some {fs o : List Int} {v : Value} {t : Tok} (h : (if fs.length % 4 = 1 then none else some (octL fs)) = some o) (_ : DueOk fs v) : LooseOk fs v (.bytes (byteArr o) t) := by
  by_cases q : fs.length % 4 = 1
  · rw [if_pos q] at h; exact absurd h.symm (Option.some_ne_none _)
  · rw [if_neg q] at h; exact .inr ⟨q, t, by rw [Option.some.inj h]⟩
theorem strict_none {fs ws : List Int} (h : (if fs.length % 4 = 1 then none else if fs.length = ws.length then some (octL fs) else none) = none) : StrictOk fs ws .none := .inl ⟨fun q => by
  rw [if_neg q.1, if_pos q.2] at h; exact Option.some_ne_none _ h, rfl⟩
theorem strict_some {fs ws o : List Int} {t : Tok} (h : (if fs.length % 4 = 1 then none else if fs.length = ws.length then some (octL fs) else none) = some o) : StrictOk fs ws (.bytes (byteArr o) t) := by
  by_cases q : fs.length % 4 = 1
  · rw [if_pos q] at h; exact absurd h.symm (Option.some_ne_none _)
  · rw [if_neg q] at h
    by_cases r : fs.length = ws.length
    · rw [if_pos r] at h; exact .inr ⟨q, r, t, by rw [Option.some.inj h]⟩
    · rw [if_neg r] at h; exact absurd h.symm (Option.some_ne_none _)
theorem ends {fs ws : List Int} {vD vL vS : Value} (hD : DueOk fs vD) (hL : LooseOk fs vD vL) (hS : StrictOk fs ws vS) :
    (fs.length % 4 = 1 ∧ vD = .none ∧ vL = .none ∧ vS = .none) ∨ (¬ fs.length % 4 = 1 ∧ ¬ fs.length = ws.length ∧ ∃ tD tL, vD = .bytes (byteArr (octL fs)) tD ∧ vL = .bytes (byteArr (octL fs)) tL ∧ vS = .none) ∨
      (¬ fs.length % 4 = 1 ∧ fs.length = ws.length ∧ ∃ tD tL tS, vD = .bytes (byteArr (octL fs)) tD ∧ vL = .bytes (byteArr (octL fs)) tL ∧ vS = .bytes (byteArr (octL fs)) tS) := by
  rcases hD with ⟨a, rfl⟩ | ⟨a, t, rfl⟩
  · rcases hL with ⟨_, rfl⟩ | ⟨b, _⟩
    · rcases hS with ⟨_, rfl⟩ | ⟨b, _⟩
      · exact .inl ⟨a, rfl, rfl, rfl⟩
      · exact absurd a b
    · exact absurd a b
  · rcases hL with ⟨b, _⟩ | ⟨_, u, rfl⟩
    · exact absurd b a
    · rcases hS with ⟨b, rfl⟩ | ⟨_, b, w, rfl⟩
      · exact .inr (.inl ⟨a, fun q => b ⟨a, q⟩, t, u, rfl, rfl, rfl⟩)
      · exact .inr (.inr ⟨a, b, t, u, w, rfl, rfl, rfl⟩)
section
variable {M : Model} {A : Around} {E : Value → Shared → Prop} {h₀ h : Heap} {L : Addr} {m : Str → Option Value} {news : List (Addr × Obj)} {gg : Array GenState} {dd : Drawn} {tk : Nat} {oo : OsState}
/-- a value: brought together -/
theorem merge_val {P : Value → Prop} {prog : Sem Value} {Q : Value → Shared → Prop} (_ : Fr h₀ L h m) (_ : News h₀ L h news)
    (hev : ∀ Q' : Value → Shared → Prop, (∀ v h' tk', Fr h₀ L h' m → News h₀ L h' news → P v → Q' v ⟨h', gg, dd, tk', oo⟩) → wpAny M A prog Q' E ⟨h, gg, dd, tk, oo⟩)
    (k : ∀ v h' tk', Fr h₀ L h' m → News h₀ L h' news → P v → Q v ⟨h', gg, dd, tk', oo⟩) : wpAny M A prog Q E ⟨h, gg, dd, tk, oo⟩ := hev Q k
/-- a statement that stores under one name: brought together -/
theorem merge_try {y : Str} {P : Value → Prop} {prog : Sem Flow} {Q : Flow → Shared → Prop} (_ : Fr h₀ L h m) (_ : News h₀ L h news)
    (hev : ∀ Q' : Flow → Shared → Prop, (∀ v h' tk', Fr h₀ L h' (fun z => if z = y then some v else m z) → News h₀ L h' news → P v → Q' .next ⟨h', gg, dd, tk', oo⟩) → wpAny M A prog Q' E ⟨h, gg, dd, tk, oo⟩)
    (k : ∀ v h' tk', Fr h₀ L h' (fun z => if z = y then some v else m z) → News h₀ L h' news → P v → Q .next ⟨h', gg, dd, tk', oo⟩) : wpAny M A prog Q E ⟨h, gg, dd, tk, oo⟩ := hev Q k
end
local macro_rules | `(tactic| k_all) => `(tactic| (with_reducible assumption))
theorem law_holds : PySem.Challenge.rw_oy0093_01.Holds := Mine.hd (by
  k_fill
  intro w9 s9 t9 mg9 mb9 G9 Y9 fa9 o9 pm9 cd9 doc9 dV9 kV9 ho9 hd9 hcd9 hD9 hmg9 hg9 args9 vals9 as9 hpre9 hlay9 hrd9 hwl9 hlo9
  have KX9 := kIn_of Y9
  have X9 := (Ground.X G9).1
  have V9 := (Ground.X G9).2
  try w_nolog (have GL9 := glob_more (Ground.glob G9 (by decide +kernel) (by decide +kernel)) V9)
  refine Ground.open G9 ?_
  intro T9 B9 D9 TE9 TW9
  try (refine guard_noD D9 (by decide +kernel) ?_; clear D9)
  obtain ⟨_, _, M9⟩ := bmod_of_top T9
  have TA9 := at_of_top T9
  try (obtain ⟨_, _, he9, B09⟩ := based_of_top T9 rfl hmg9 ho9 hd9; have he9' : cd9 = _ := he9; subst he9'; clear he9)
  clear hmg9
  wrow_args hpre9 hlay9 hrd9 hwl9 hlo9
  all_goals (
    first | refine callC_kw (enter_call ?_) | refine enter_call ?_ | refine callC_kw (enter_callW ?_) | refine enter_callW ?_ | w_how
    w_top on
    try refine codeAny_mono ?_ (fun _ _ g => GoodW.toG g)
    have K09 := below_caller (Top.heap T9)
    w_call any ho9 hd9 hcd9 hD9 T9 F9
    clear hd9 TA9
    k_drop
    skip)
  all_goals try k_fold
  (with_reducible rename IntsAre _ _ => hI)
  (with_reducible rename List Int => ns)
  (with_reducible rename List Value => vs)
  have hlen : ns.length ≤ 63 := by omega
  k_steps
  unfold Halt
  refine' SaysP.use (rows_says _ vs ns hI hlen) ?k1 ?k2 ?k3 ?k4 ?k5 ?k6 ?k7 ?k8 ?k9 ?k10 ?hp ?_
  walk_at "mine says"
  case hp => is_list
  intro v' tl' h' tk' hg' F' N' hn'
  obtain ⟨D, its, n, tups, rfl, rfl, hrows, hoff⟩ := hg'
  have hoffc : ∀ p ∈ tups, p.1 ≠ _ := fun p hp => hn' _ (.head _) p (.tail _ hp)
  have N₂ := news_sub N' (fun p (hp : p ∈ (_, _) :: (D, W.listOf its n) :: tups) => by
    rcases List.mem_cons.mp hp with rfl | hp
    · exact List.mem_append_right _ (.head _)
    · exact List.mem_append_left _ hp)
  dsimp only at hoffc
  have hD := hn' _ (.head _) _ (.head _)
  dsimp only at hD
  clear N' hn'
  k_steps
  unfold Halt
  generalize (List.map (fun k' : Int => k'.fmod (10 ^ Int.toNat 9)) (List.take 9 ns)).sum = S at *
  have hpl := @places S
  have st1 : Stage 1 := trivial
  k_steps
  unfold Halt
  have ho : 1 + S.fmod 2 = 1 ∨ 1 + S.fmod 2 = 2 := by
    have h1 := Int.fmod_nonneg_of_pos S (b := 2) (by decide)
    have h2 := Int.fmod_lt_of_pos S (b := 2) (by decide)
    omega
  generalize 1 + S.fmod 2 = oft at *
  have st2 : Stage 2 := trivial
  k_steps
  unfold Halt
  obtain ⟨pA, qA, hpq, hp, hq, hne⟩ := pair_of hpl.1.1 hpl.1.2 hpl.2.1.1 hpl.2.1.2 hpl.2.2
  (with_reducible rename _ = _ ++ _ => hz)
  rw [hpq] at hz
  subst hz
  (with_reducible rename Fr _ _ _ _ => F₁)
  (with_reducible rename News _ _ _ _ => N₁)
  have N₂ := news_sub N₁ (sm := (_, _) :: (D, W.listOf its n) :: tups) (fun p hp => .tail _ (.tail _ hp))
  clear N₁
  have st3 : Stage 3 := trivial
  k_steps
  unfold Halt
  refine comp_eval (v := .ref D) (by with_unfolding_all rfl) (by rfl) (by decide) ?hev ?comp
  case hev =>
    intro Q' hq'
    k_steps
    exact hq'
  case comp =>
    (with_reducible rename Fr _ _ _ _ => F₁)
    (with_reducible rename News _ _ _ _ => N₁)
    refine comp_list rfl (.tail _ (.head _)) ?sz (by decide) (by rfl) F₁ N₁ (LineJ (rowsF ns)) ⟨[], rfl, rfl⟩ ?step ?fin
    case sz =>
      have h9 : (100 : Nat) ≤ sizeLine := by decide
      have := rowsF_length ns
      rw [hrows.1]; omega
    case step =>
      intro i v ys h₁ tk₁ I oI C oC Dn m₁ E' hi hv hJ ap F₁ hC N₁
      obtain ⟨ts, rfl, hts⟩ := hJ
      have hi' : i < (rowsF ns).length := by rw [← hrows.1]; exact hi
      obtain ⟨r, hr⟩ : ∃ r, (rowsF ns)[i]? = some r := ⟨(rowsF ns)[i], List.getElem?_eq_getElem hi'⟩
      obtain ⟨Tr, o, td, tm, te, hT, hmem, hcls, nt, hdat⟩ := hrows.2 i r hr
      obtain rfl : v = .ref Tr := Option.some.inj (hv.symm.trans hT)
      have hok := rowsF_ok ns r (List.mem_of_getElem? hr)
      have d0 := hok.d0
      have d2 := hok.d2
      have hsl := stop_length hok
      have hfl := shownF_length r.mode
      refine comp_three (own := [(I, oI)]) rfl ⟨o, (N₁ _ (.tail _ (.tail _ (.tail _ (.tail _ (.tail _ hmem)))))).1, hcls, nt, hdat⟩ (by rfl) (by rfl) (by rfl) (by decide) (by decide) (by decide) (by rfl) ap rfl F₁ hC N₁ ?_
      clear F₁ N₁ hC
      intro h' tk' oC' m₂ F' hC' e1 e2 e3 N'
      refine wpAny_tests_nil ?_
      simp only [if_true]
      k_steps
      unfold Halt
      (with_reducible show wpAny _ _ (call (Value.ref 195) [Value.int _ _]) _ _ _)
      k_dflt (refine' Says.use (shown_says _ _) ?k1 ?k2 ?k3 ?k4 ?k5 ?k6 ?k7 ?k8 ?k9 ?k10 ?_; walk_at "mine says")
      intro v' tl' h' tk' hg' F' N' hn'
      obtain ⟨ht', t', hv'⟩ := hg'
      subst ht' hv'
      (try dsimp only [List.nil_append] at N'); clear hn'
      k_steps
      (with_reducible rename Fr _ _ _ _ => Fx)
      (with_reducible rename News _ _ _ _ => Nx)
      refine ⟨_, _, _, _, rfl, Fx, hC', Nx, line_turn hr hts ?_⟩
      subst_vars
      rfl
    case fin =>
      intro Dt C h' tk m' ys F' N' hn hC hD ap hJ
      refine comp_evalR F' N' hn hC ap ?_
      clear F' N' hn
      intro h'' F' N' hoff'
      obtain ⟨ts, rfl, hts⟩ := hJ
      rw [hrows.1, List.take_of_length_le (Nat.le_refl _)] at hts
      have hflat := flat_text hts
      have htl := text_length (rowsF_ok ns)
      have hrl := rowsF_length ns
      k_steps
      unfold Halt
      refine join_K (by k_asm) (.head _) (by rw [hflat]; omega) ?_
      rw [hflat]
      have htx : (textF (rowsF ns)).length ≤ 150 := by
        show (textL (rowsF ns)).toArray.size ≤ 150
        rw [List.size_toArray]; omega
      show ∀ t' k', wpAny _ _ _ _ _ _
      intro t' k'
      k_steps
      unfold Halt
      refine wpAny_For ?_ (by intro _; rfl)
      k_steps
      unfold Halt
      (with_reducible rename Fr _ _ _ _ => F')
      (with_reducible rename News _ _ _ _ => N')
      refine range1_rows F' N' ?_
      clear F' N'
      intro h' tk t₁ u₁ v₁ hr F' N' hk
      obtain ⟨k, rfl⟩ : ∃ k : Nat, oft = (k : Int) := ⟨oft.toNat, by omega⟩
      have hk2 : k ≤ 2 := by omega
      dsimp only
      have N₄ := news_sub N' (sm := (_, _) :: (D, W.listOf its n) :: tups ++ []) (fun p hp => .tail _ (by rw [List.append_nil] at hp; exact hp))
      clear N'
      refine for_rangeC (news := []) lawN rfl hr (small_one (by omega)) (range_one (by omega)) F' N₄ (TextJ (textF (rowsF ns))) ⟨rfl, _, rfl⟩ ?step ?fin
      case step =>
        intro i t u nx h₁ tk₁ I o hi hJ hcst hnx F₁ N₁
        obtain ⟨rfl, t0, e1⟩ := hJ
        have F₂ := frame_named _ F₁ (nm_cons (by decide) e1 nm_nil)
        clear F₁
        dsimp only [names] at F₂
        have hql := qdn_small (x := textF (rowsF ns)) (i := i) (by omega) htx
        k_steps
        unfold Halt
        refine' Says.use (quotedata_says _ _ (by omega)) ?k1 ?k2 ?k3 ?k4 ?k5 ?k6 ?k7 ?k8 ?k9 ?k10 ?_
        walk_at "mine says"
        intro v' tl' h' tk' hg' F' N' hn'
        obtain ⟨ht', t', hv'⟩ := hg'
        subst ht' hv'
        k_steps
        (with_reducible rename Fr _ _ _ _ => Fx)
        exact turnEnd (nx := []) Fx (by assumption) (fun p hp => nomatch hp) ⟨by walk_at "mine agrees", rfl, (by walk_at "mine get" : ∃ t, _)⟩
      case fin =>
        intro h' tk u nx F₁ N₁ hJ
        obtain ⟨rfl, t0, e1⟩ := hJ
        have F₂ := frame_named _ F₁ (nm_cons (by decide) e1 nm_nil)
        clear F₁
        dsimp only [names] at F₂
        have hlaw := sent_law ns ho
        rw [Int.toNat_natCast] at hlaw
        obtain ⟨Z, hZ⟩ : ∃ Z, Z = sentF (k : Int) (rowsF ns) := ⟨_, rfl⟩
        have hzl := sentF_length ns ho
        rw [hlaw, ← hZ] at F₂
        rw [← hZ] at hzl
        clear hlaw e1
        k_steps
        unfold Halt
        refine' SaysP.use (hZ ▸ sent_says _ (rowsF ns) _ _ ho (rowsF_ok ns) (rowsF_length ns)) ?k1 ?k2 ?k3 ?k4 ?k5 ?k6 ?k7 ?k8 ?k9 ?k10 ?hp ?_
        walk_at "mine says"
        case hp => exact rowsHeap N₁ (.tail _ (.head _)) (fun p hp => List.mem_append_left [] (.tail _ (.tail _ hp))) hrows
        intro v' tl' h' tk' hg' F' N' hn'
        obtain ⟨ht', t', hv'⟩ := hg'
        subst ht' hv'
        k_steps
        unfold Halt
        have h9 : (5000 : Nat) ≤ sizeLine := by decide
        (with_reducible rename Fr _ _ _ _ => F₃)
        (with_reducible rename News _ _ _ _ => N₃)
        have N₄ := news_sub N₃ (sm := [(_, _), (D, W.listOf its n)]) (fun p hp => by
          rcases List.mem_cons.mp hp with rfl | hp
          · exact .head _
          · rw [List.mem_singleton.mp hp]; exact .tail _ (.head _))
        clear N₃
        refine comp_assign (v := .str Z ?tkz) (by rfl) (by with_unfolding_all rfl) (by rfl) (by decide) ?hev2 ?comp2
        case hev2 =>
          intro Q' hq'
          k_steps
          exact hq'
        case comp2 =>
          refine comp_str rfl (Nat.le_trans hzl (by omega)) (by decide) (by rfl) F₃ N₄ (WorthJ pA qA Z) .nil ?step2 ?fin2
          case step2 =>
            intro i v ys h₁ tk₁ I oI C oC Dn m₁ E' hi hv hJ ap F₁ hC N₁
            obtain ⟨c, uc, hc, rfl⟩ := hv
            refine comp_store (own := [(I, oI)]) (by rfl) (by rfl) ap rfl F₁ hC N₁ ?_
            clear F₁ N₁ hC
            intro h' tk' oC' F' hC' N'
            refine wpAny_tests_nil ?_
            simp only [if_true]
            obtain ⟨m₂, hC', e1⟩ : ∃ m₂, LCg.NsObj oC' m₂ ∧ m₂ (Str.ofString "sign") = some (.str ⟨#[c]⟩ uc) := ⟨_, hC', if_pos rfl⟩
            k_steps
            unfold Halt
            refine' Says.use (worth_says _ _ _ _ _) ?k1 ?k2 ?k3 ?k4 ?k5 ?k6 ?k7 ?k8 ?k9 ?k10 ?_
            walk_at "mine says"
            intro v' tl' h' tk' hg' F' N' hn'
            obtain ⟨ht', t', hv'⟩ := hg'
            subst ht' hv'
            exact ⟨_, _, _, _, rfl, F', hC', N', worth_turn hc hJ⟩
          case fin2 =>
            intro Dt C h' tk m' ys F' N' hn hC hD ap hJ
            refine comp_assignR (y := Str.ofString "worths") (by rfl) (by with_unfolding_all rfl) (by with_unfolding_all rfl) F' N' hn hC ap ?_
            clear F' N' hn
            intro h'' tk'' F' N' hoff'
            k_steps
            unfold Halt
            (with_reducible rename Fr _ _ _ _ => F₅)
            (with_reducible rename News _ _ _ _ => N₅)
            unfold WorthJ at hJ
            have hzs : Z.cps.size = (wsF pA qA Z).length := (wsF_length (p := pA) (q := qA)).symm
            rw [hzs, List.take_of_length_le (Nat.le_refl _)] at hJ
            have hws : (wsF pA qA Z).length ≤ 200 := by rw [wsF_length]; exact hzl
            have hysl := hJ.length
            refine comp_assign (v := .ref Dt) (by rfl) (by with_unfolding_all rfl) (by rfl) (by decide) ?hev3 ?comp3
            case hev3 =>
              intro Q' hq'
              k_steps
              exact hq'
            case comp3 =>
              refine comp_list rfl (.head _) (by rw [List.size_toArray, hysl]; omega) (by decide) (by rfl) F₅ N₅ (FigJ (wsF pA qA Z)) .nil ?step3 ?fin3
              case step3 =>
                intro i v ys' h₁ tk₁ I oI C oC Dn m₁ E' hi hv hK ap F₁ hC N₁
                obtain ⟨x, tx, rfl, hx⟩ := hJ.at i v (by simpa using hv)
                refine comp_store (own := [(I, oI)]) (by rfl) (by rfl) ap rfl F₁ hC N₁ ?_
                clear F₁ N₁ hC
                intro h' tk' oC' F' hC' N'
                obtain ⟨m₂, hC', e1⟩ : ∃ m₂, LCg.NsObj oC' m₂ ∧ m₂ (Str.ofString "worth") = some (.int x tx) := ⟨_, hC', if_pos rfl⟩
                refine wpAny_tests_one ?_
                k_steps
                · (with_reducible rename Fr _ _ _ _ => Fx)
                  (with_reducible rename News _ _ _ _ => Nx)
                  exact ⟨_, _, _, _, rfl, Fx, hC', Nx, fig_keep hx (by assumption) hK⟩
                · (with_reducible rename Fr _ _ _ _ => Fx)
                  (with_reducible rename News _ _ _ _ => Nx)
                  exact ⟨_, _, _, _, rfl, Fx, hC', Nx, fig_drop hx (by assumption) hK⟩
              case fin3 =>
                intro Df C h' tk m' ys' F' N' hn hC hD ap hK
                refine comp_assignR (y := Str.ofString "figures") (by rfl) (by with_unfolding_all rfl) (by with_unfolding_all rfl) F' N' hn hC ap ?_
                clear F' N' hn
                intro h'' tk'' F' N' hoff''
                unfold FigJ at hK
                rw [List.size_toArray, hysl, List.take_of_length_le (Nat.le_refl _)] at hK
                have hfl : ys'.length = (figF pA qA Z).length := hK.length
                have hfz := figF_length (p := pA) (q := qA) (z := Z)
                have hm0 := Int.fmod_nonneg_of_pos (-((figF pA qA Z).length : Int)) (b := 4) (by decide)
                have hm1 := Int.fmod_lt_of_pos (-((figF pA qA Z).length : Int)) (b := 4) (by decide)
                k_steps
                unfold Halt
                (with_reducible rename Frag.In _ _ => X₈)
                (with_reducible rename Top _ _ _ _ _ _ => T₈)
                (with_reducible rename Fr _ _ _ _ => F₇)
                (with_reducible rename News _ _ _ _ => N₇)
                refine merge_val (P := DueOk (figF pA qA Z)) F₇ N₇ ?hevD ?kD
                case hevD =>
                  intro Q' hq'
                  refine IfExp_ ?_
                  k_steps
                  · have hA : (figF pA qA Z).length % 4 = 1 := one_over (by assumption)
                    (with_reducible rename Fr _ _ _ _ => Fx)
                    (with_reducible rename News _ _ _ _ => Nx)
                    exact hq' _ _ _ Fx Nx (.inl ⟨hA, rfl⟩)
                  · have hB : ¬ (figF pA qA Z).length % 4 = 1 := not_one_over (by assumption)
                    unfold Halt
                    refine' SaysP.use (octets_says _ ys' (figF pA qA Z) hK figF_range (by omega)) ?k1 ?k2 ?k3 ?k4 ?k5 ?k6 ?k7 ?k8 ?k9 ?k10 ?hp ?_
                    walk_at "mine says"
                    case hp => is_list
                    intro v' tl' h' tk' hg' F' N' hn'
                    obtain ⟨ht', t', hv'⟩ := hg'
                    subst ht' hv'
                    exact hq' _ _ _ F' N' (.inr ⟨hB, t', rfl⟩)

                case kD =>
                  clear F₇ N₇
                  intro vD h' tk' F' N' hDue
                  k_steps
                  unfold Halt
                  have hpa : ascii (padF pA qA Z) := by rw [hZ]; exact pad_ascii ns ho
                  have hpz : (padF pA qA Z).cps.size ≤ 10000 := pad_size hzl
                  have hpp : ascii ⟨#[pA, qA]⟩ := pair_ascii hp hq
                  have hoz : (octs (padF pA qA Z)).size ≤ 10000 := by unfold octs; rw [Array.size_map]; exact hpz
                  have h8 : (20000 : Nat) ≤ sizeLine := by decide
                  (with_reducible rename _ = _ ++ _ => hz)
                  subst hz
                  (with_reducible rename Fr _ _ _ _ => F₈)
                  (with_reducible rename News _ _ _ _ => N₈)

                  refine merge_try (y := Str.ofString "loose") (P := LooseOk (figF pA qA Z) vD) F₈ N₈ ?hevL ?kL
                  case hevL =>
                    intro Q' hq'
                    refine wpAny_Try_except ?_
                    k_steps
                    unfold Halt
                    refine' SaysX.use (b64_str_says (padF pA qA Z) pA qA _ _ hpa hpp hpz) ?k1 ?k2 ?k3 ?k4 ?k5 ?k6 ?k7 ?k8 ?k9 ?k10 ?ok ?bad
                    walk_at "mine says"
                    case bad =>
                      intro e t vs' nw h' tk' hbad R hsm
                      have hP := loose_none ((loose_of ns ho hp hq hne hZ).symm.trans hbad) hDue
                      clear hbad
                      refine caught_own rfl rfl rfl rfl R F₈ N₈ hsm X₈ T₈ (T' := "ValueError") (by kts_isx) (by k_is) PyProof.Rows.Boot.«ValueError» (by decide) PySem.F.isExc_ValueError PySem.F.notTuple_ValueError ?_ rfl (by with_unfolding_all rfl) (by decide) (by passes_own)
                      intro h'' F' N'
                      k_steps

                      (with_reducible rename Fr _ _ _ _ => Fx)
                      (with_reducible rename News _ _ _ _ => Nx)
                      exact hq' _ _ _ Fx Nx hP
                    case ok =>
                      intro v' tl' h' tk' hg' F' N' hn'
                      obtain ⟨o, ho', rfl, t', rfl⟩ := hg'
                      have hP := loose_some (t := t') ((loose_of ns ho hp hq hne hZ).symm.trans ho') hDue
                      clear ho'
                      k_steps
                      (with_reducible rename Fr _ _ _ _ => Fx)
                      (with_reducible rename News _ _ _ _ => Nx)
                      exact hq' _ _ _ Fx Nx hP
                  case kL =>
                    clear F₈ N₈
                    intro vL h' tk' F' N' hLo
                    k_steps
                    unfold Halt
                    (with_reducible rename Fr _ _ _ _ => F₉)
                    (with_reducible rename News _ _ _ _ => N₉)

                    refine merge_try (y := Str.ofString "strict") (P := StrictOk (figF pA qA Z) (wsF pA qA Z)) F₉ N₉ ?hevS ?kS
                    case hevS =>
                      intro Q' hq'
                      refine wpAny_Try_except ?_
                      k_steps
                      unfold Halt
                      clear F' N'
                      (with_reducible rename Fr _ _ _ _ => FcT)
                      (with_reducible rename News _ _ _ _ => NcT)
                      refine comp_eval (v := .str (padF pA qA Z) ?tkT) (by with_unfolding_all rfl) (by rfl) (by decide) ?hevT ?compT
                      case hevT =>
                        intro Q' hq'
                        k_steps
                        exact hq'
                      case compT =>
                        refine comp_str rfl (Nat.le_trans hpz (by omega)) (by decide) (by rfl) FcT NcT (OrdJ (padF pA qA Z)) .nil ?stepT ?finT
                        case stepT =>
                          intro i v ys h₁ tk₁ I oI C oC Dn m₁ E' hi hv hJ ap F₁ hC N₁
                          obtain ⟨c, uc, hc, rfl⟩ := hv
                          refine comp_store (own := [(I, oI)]) (by rfl) (by rfl) ap rfl F₁ hC N₁ ?_
                          clear F₁ N₁ hC
                          intro h' tk' oC' F' hC' N'
                          refine wpAny_tests_nil ?_
                          simp only [if_true]
                          obtain ⟨m₂, hC', e1⟩ : ∃ m₂, LCg.NsObj oC' m₂ ∧ m₂ (Str.ofString "sign") = some (.str ⟨#[c]⟩ uc) := ⟨_, hC', if_pos rfl⟩
                          k_steps
                          (with_reducible rename Fr _ _ _ _ => Fx)
                          (with_reducible rename News _ _ _ _ => Nx)
                          exact ⟨_, _, _, _, rfl, Fx, hC', Nx, ord_turn hc hJ⟩
                        case finT =>
                          intro DbT C h' tk m' ysb F' N' hn hC hD ap hO
                          refine comp_evalR F' N' hn hC ap ?_
                          clear F' N' hn
                          intro h'' F' N' hoff'
                          unfold OrdJ at hO
                          rw [← codes_length, List.take_of_length_le (Nat.le_refl _)] at hO
                          have hinT := codes_in hpa
                          have hcl : (codes (padF pA qA Z)).length ≤ 16777216 := by rw [codes_length]; first | omega | (show 2 ≤ _; omega)
                          k_steps
                          unfold Halt
                          clear F' N'
                          (with_reducible rename Fr _ _ _ _ => FcP)
                          (with_reducible rename News _ _ _ _ => NcP)
                          refine comp_eval (v := .str ⟨#[pA, qA]⟩ ?tkP) (by with_unfolding_all rfl) (by rfl) (by decide) ?hevP ?compP
                          case hevP =>
                            intro Q' hq'
                            k_steps
                            exact hq'
                          case compP =>
                            refine comp_str rfl (by show 2 ≤ _; omega) (by decide) (by rfl) FcP NcP (OrdJ ⟨#[pA, qA]⟩) .nil ?stepP ?finP
                            case stepP =>
                              intro i v ys h₁ tk₁ I oI C oC Dn m₁ E' hi hv hJ ap F₁ hC N₁
                              obtain ⟨c, uc, hc, rfl⟩ := hv
                              refine comp_store (own := [(I, oI)]) (by rfl) (by rfl) ap rfl F₁ hC N₁ ?_
                              clear F₁ N₁ hC
                              intro h' tk' oC' F' hC' N'
                              refine wpAny_tests_nil ?_
                              simp only [if_true]
                              obtain ⟨m₂, hC', e1⟩ : ∃ m₂, LCg.NsObj oC' m₂ ∧ m₂ (Str.ofString "sign") = some (.str ⟨#[c]⟩ uc) := ⟨_, hC', if_pos rfl⟩
                              k_steps
                              (with_reducible rename Fr _ _ _ _ => Fx)
                              (with_reducible rename News _ _ _ _ => Nx)
                              exact ⟨_, _, _, _, rfl, Fx, hC', Nx, ord_turn hc hJ⟩
                            case finP =>
                              intro DbP C h' tk m' ysb F' N' hn hC hD ap hO
                              refine comp_evalR F' N' hn hC ap ?_
                              clear F' N' hn
                              intro h'' F' N' hoff'
                              unfold OrdJ at hO
                              rw [← codes_length, List.take_of_length_le (Nat.le_refl _)] at hO
                              have hinP := codes_in hpp
                              have hcl : (codes ⟨#[pA, qA]⟩).length ≤ 16777216 := by rw [codes_length]; first | omega | (show 2 ≤ _; omega)
                              k_steps
                              unfold Halt
                              rw [codes_octs (z := padF pA qA Z), codes_octs (z := ⟨#[pA, qA]⟩), octs_two]
                              clear F' N'
                              (with_reducible rename Fr _ _ _ _ => Fs)
                              (with_reducible rename News _ _ _ _ => Ns)
                              refine' SaysX.use (b64_bytes_says (octs (padF pA qA Z)) pA.toUInt8 qA.toUInt8 _ _ true hoz) ?k1 ?k2 ?k3 ?k4 ?k5 ?k6 ?k7 ?k8 ?k9 ?k10 ?ok2 ?bad2
                              walk_at "mine says"
                              case bad2 =>
                                intro e t vs' nw h' tk' hbad2 R hsm
                                have hP := strict_none ((strict_of ns ho hp hq hne hZ).symm.trans hbad2)
                                clear hbad2
                                refine caught_own rfl rfl rfl rfl R Fs Ns hsm X₈ T₈ (T' := "ValueError") (by kts_isx) (by k_is) PyProof.Rows.Boot.«ValueError» (by decide) PySem.F.isExc_ValueError PySem.F.notTuple_ValueError ?_ rfl (by with_unfolding_all rfl) (by decide) (by passes_own)
                                intro h'' F' N'
                                k_steps

                                (with_reducible rename Fr _ _ _ _ => Fx)
                                (with_reducible rename News _ _ _ _ => Nx)
                                exact hq' _ _ _ Fx (news_sub Nx (fun p hp => .tail _ (.tail _ hp))) hP
                              case ok2 =>
                                intro v' tl' h' tk' hg' F' N' hn'
                                obtain ⟨o2, ho2, rfl, t', rfl⟩ := hg'
                                have hP := strict_some (t := t') ((strict_of ns ho hp hq hne hZ).symm.trans ho2)
                                clear ho2
                                k_steps
                                (with_reducible rename Fr _ _ _ _ => Fx)
                                (with_reducible rename News _ _ _ _ => Nx)
                                exact hq' _ _ _ Fx (news_sub Nx (fun p hp => .tail _ (.tail _ hp))) hP

                    case kS =>
                      clear F₉ N₉
                      intro vS h' tk' F' N' hSt
                      rcases ends hDue hLo hSt with ⟨hA, rfl, rfl, rfl⟩ | ⟨hB, hlen, tD, tL, rfl, rfl, rfl⟩ | ⟨hB, hlen, tD, tL, tS, rfl, rfl, rfl⟩
                      · have st5 : Stage 5 := trivial
                        k_steps
                        unfold Halt
                        refine IfExp_ ?_
                        k_steps
                        unfold Halt
                        (with_reducible rename News _ _ _ _ => Nr)
                        refine len_of Nr (by k_mem) hfl (by omega) ?_
                        dsimp only
                        k_steps
                        unfold Halt
                        refine len_of Nr (by k_mem) hysl (by omega) ?_
                        dsimp only
                        k_steps
                        all_goals (exfalso; omega)
                      · have st5 : Stage 5 := trivial
                        k_steps
                        unfold Halt
                        refine IfExp_ ?_
                        k_steps
                        unfold Halt
                        (with_reducible rename News _ _ _ _ => Nr)
                        refine len_of Nr (by k_mem) hfl (by omega) ?_
                        dsimp only
                        k_steps
                        unfold Halt
                        refine len_of Nr (by k_mem) hysl (by omega) ?_
                        dsimp only
                        k_steps
                        all_goals (exfalso; omega)
                      · have st5 : Stage 5 := trivial
                        k_steps
                        unfold Halt
                        refine IfExp_ ?_
                        k_steps
                        unfold Halt
                        (with_reducible rename News _ _ _ _ => Nr)
                        refine len_of Nr (by k_mem) hfl (by omega) ?_
                        dsimp only
                        k_steps
                        unfold Halt
                        refine len_of Nr (by k_mem) hysl (by omega) ?_
                        dsimp only
                        k_steps
                        all_goals (exfalso; omega))
end Mine
end
theorem PySem.Challenge.cw_oy0093_01_holds : PySem.Challenge.rw_oy0093_01.Holds :=
  Mine.law_holds
