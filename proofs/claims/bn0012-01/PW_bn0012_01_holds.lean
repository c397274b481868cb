import PyProof.Rows.All
import Wide.All
import OpenK.AllK
import Wide.FinOn
import Lean
import PySem.Challenge.RW_bn0012_01
open PySem PySem.W PyProof.Rows PySem.Spec PySem.Calls
set_option Elab.async false
namespace Cal
set_option maxRecDepth 100000
set_option maxHeartbeats 8000000
open_top hd for PySem.Challenge.rw_bn0012_01
-- what a contract says of what comes back: h₀ L m news s Q as in the library's own claims
abbrev RetTy := Heap → Addr → (Str → Option Value) → List (Addr × Obj) → Shared → (Value → Shared → Prop) → Prop

def RetI (x : Int) : RetTy := fun h₀ L m news s Q =>
  ∀ (t : Tok) (h' : Heap) (tk' : Nat), Fr h₀ L h' m → News h₀ L h' news → Q (.int x t) { s with heap := h', toks := tk' }
def RetB (x : Bool) : RetTy := fun h₀ L m news s Q =>
  ∀ (h' : Heap) (tk' : Nat), Fr h₀ L h' m → News h₀ L h' news → Q (.bool x) { s with heap := h', toks := tk' }
def RetNone : RetTy := fun h₀ L m news s Q =>
  ∀ (h' : Heap) (tk' : Nat), Fr h₀ L h' m → News h₀ L h' news → Q .none { s with heap := h', toks := tk' }
abbrev tup3 (y m d : Int) (t1 t2 t3 : Tok) (c : Nat) : Obj := { cls := .type "tuple", data := .seq #[.int y t1, .int m t2, .int d t3] c }
abbrev tup2 (y m : Int) (t1 t2 : Tok) (c : Nat) : Obj := { cls := .type "tuple", data := .seq #[.int y t1, .int m t2] c }
def RetT3 (r : Int × Int × Int) : RetTy := fun h₀ L m news s Q =>
  ∀ (D : Addr) (t1 t2 t3 : Tok) (c : Nat) (h' : Heap) (tk' : Nat), Fr h₀ L h' m → News h₀ L h' ((D, tup3 r.1 r.2.1 r.2.2 t1 t2 t3 c) :: news) → AllLt D news → Q (.ref D) { s with heap := h', toks := tk' }
def RetT2 (y m : Int) : RetTy := fun h₀ L m' news s Q =>
  ∀ (D : Addr) (t1 t2 : Tok) (c : Nat) (h' : Heap) (tk' : Nat), Fr h₀ L h' m' → News h₀ L h' ((D, tup2 y m t1 t2 c) :: news) → AllLt D news → Q (.ref D) { s with heap := h', toks := tk' }

/-- a contract: called with vs, the def at f hands back what R says; k frames at most -/
def Con (w : World) (loose : List Str) (mean : ExcName → Option Value) (mg mb : Str → Option Value) (k : Nat) (f : Addr) (vs : List Value) (pre : Prop) (news : List (Addr × Obj)) (R : RetTy) : Prop :=
  ∀ (dp un : Nat) (gd : Option (List Code)) (cn : Str) (cs : Scope) (a : Addr) (ccd : Value) (cl : List (Str × Addr)) (outer : List Env) (A₀ : Around) (base h₀ : Heap) (L : Addr) (m : Str → Option Value) (s : Shared) (Q E : Value → Shared → Prop),
    Below A₀ base outer h₀ → Fr h₀ L s.heap m → (hd.heap_39 w.params).In h₀ → News h₀ L s.heap news → Top hd.view_39 loose mean mg mb h₀ → cs.kind = .function →
    pre → dp + k < recursionLimit → un + 8 * k < cLine → R h₀ L m news s Q →
    wpAny (model Challenge.rw_bn0012_01.row.prog w) (ktrTop dp un gd cn cs L a ccd cl outer) (call (.ref f) vs) Q E s

section
variable {w : World} {loose : List Str} {mean : ExcName → Option Value} {mg mb : Str → Option Value} {k : Nat} {f : Addr} {vs : List Value} {pre : Prop} {news news' : List (Addr × Obj)} {R : RetTy}
  {dp un : Nat} {gd : Option (List Code)} {cn : Str} {cs : Scope} {a : Addr} {ccd : Value} {cl : List (Str × Addr)} {outer : List Env} {A₀ : Around} {base h₀ h' : Heap} {L D : Addr} {m : Str → Option Value} {s s' : Shared} {Q E : Value → Shared → Prop} {t t1 t2 t3 : Tok} {tk' c : Nat}
theorem con_use (C : Con w loose mean mg mb k f vs pre news R) (B : Below A₀ base outer h₀) (F : Fr h₀ L s.heap m) (X : (hd.heap_39 w.params).In h₀) (N : News h₀ L s.heap news) (T : Top hd.view_39 loose mean mg mb h₀) (hk : cs.kind = .function)
    (hp : pre) (hd : dp + k < recursionLimit) (hu : un + 8 * k < cLine) (hr : pre → R h₀ L m news s Q) :
    wpAny (model Challenge.rw_bn0012_01.row.prog w) (ktrTop dp un gd cn cs L a ccd cl outer) (call (.ref f) vs) Q E s :=
  C _ _ _ _ _ _ _ _ _ _ _ _ _ _ _ _ _ B F X N T hk hp hd hu (hr hp)

theorem end_I {x y : Int} (hret : RetI x h₀ L m news s Q) (e : y = x) (F : Fr h₀ L h' m) (N : News h₀ L h' news') (hn : ∀ p ∈ news, p ∈ news') : Q (.int y t) { s with heap := h', toks := tk' } := by
  subst e
  exact hret t h' tk' F (cb_drop N hn)
theorem end_B {x y : Bool} (hret : RetB x h₀ L m news s Q) (e : y = x) (F : Fr h₀ L h' m) (N : News h₀ L h' news') (hn : ∀ p ∈ news, p ∈ news') : Q (.bool y) { s with heap := h', toks := tk' } := by
  subst e
  exact hret h' tk' F (cb_drop N hn)
theorem end_N (hret : RetNone h₀ L m news s Q) (F : Fr h₀ L h' m) (N : News h₀ L h' news') (hn : ∀ p ∈ news, p ∈ news') : Q .none { s with heap := h', toks := tk' } :=
  hret h' tk' F (cb_drop N hn)
theorem end_T3 {r : Int × Int × Int} {y m' d : Int} (hret : RetT3 r h₀ L m news s Q) (e : (y, m', d) = r) (F : Fr h₀ L h' m)
    (N : News h₀ L h' news') (hD : (D, tup3 y m' d t1 t2 t3 c) ∈ news') (hn : ∀ p ∈ news, p ∈ news') (hl : AllLt D news) : Q (.ref D) { s with heap := h', toks := tk' } := by
  subst e
  refine hret D t1 t2 t3 c h' tk' F (fun p hp => ?_) hl
  rcases List.mem_cons.mp hp with rfl | hp
  · exact N _ hD
  · exact N p (hn p hp)
theorem end_T2 {y m' y' d' : Int} (hret : RetT2 y m' h₀ L m news s Q) (e1 : y' = y) (e2 : d' = m') (F : Fr h₀ L h' m)
    (N : News h₀ L h' news') (hD : (D, tup2 y' d' t1 t2 c) ∈ news') (hn : ∀ p ∈ news, p ∈ news') (hl : AllLt D news) : Q (.ref D) { s with heap := h', toks := tk' } := by
  subst e1 e2
  refine hret D t1 t2 c h' tk' F (fun p hp => ?_) hl
  rcases List.mem_cons.mp hp with rfl | hp
  · exact N _ hD
  · exact N p (hn p hp)
end

-- what a frame says of some names
def Has (m : Str → Option Value) : List (Str × Value) → Prop
  | [] => True
  | p :: r => m p.1 = some p.2 ∧ Has m r
def ov (m : Str → Option Value) : List (Str × Value) → Str → Option Value
  | [], y => m y
  | p :: r, y => if y = p.1 then some p.2 else ov m r y
theorem ov_eq {m : Str → Option Value} : ∀ {l : List (Str × Value)}, Has m l → ov m l = m
  | [], _ => rfl
  | p :: r, h => by
    funext y
    show (if y = p.1 then some p.2 else ov m r y) = m y
    split
    · rename_i e
      rw [e, h.1]
    · rw [ov_eq h.2]
theorem ov_fr {h₀ h : Heap} {L : Addr} {m : Str → Option Value} {l : List (Str × Value)} (hm : Has m l) (F : Fr h₀ L h m) : Fr h₀ L h (ov m l) := by
  rw [ov_eq hm]
  exact F


-- a frame just entered: its names written out, its tokens a letter
def lkL : List (Str × Value) → Str → Option Value
  | [], _ => none
  | p :: r, y => if y = p.1 then some p.2 else lkL r y
theorem lookup_lkL : ∀ (l : List (Str × Value)) (y : Str), l.lookup y = lkL l y
  | [], _ => rfl
  | (x, v) :: r, y => by
    show (match y == x with | true => some v | false => r.lookup y) = if y = x then some v else lkL r y
    by_cases h : y = x
    · subst h
      simp
    · rw [if_neg h, beq_eq_false_iff_ne.mpr h]
      exact lookup_lkL r y
theorem go_norm {α : Type} {M : Model} {A : Around} {t : Sem α} {Q : α → Shared → Prop} {E : Value → Shared → Prop} {g h₁ : Heap} {gs : Array GenState} {d : Drawn} {X : Nat} {os : OsState} {L' : Addr} {binds : List (Str × Value)} (F : Fr g L' h₁ (fun y => binds.reverse.lookup y)) (l : List (Str × Value)) (e : binds.reverse = l)
    (h : ∀ tk, Fr g L' h₁ (fun y => lkL l y) → wpAny M A t Q E ⟨h₁, gs, d, tk, os⟩) : wpAny M A t Q E ⟨h₁, gs, d, X, os⟩ := by
  refine h X ?_
  have e' : (fun y => binds.reverse.lookup y) = fun y => lkL l y := by
    funext y
    rw [e]
    exact lookup_lkL l y
  rw [← e']
  exact F

-- the lines of the parts behind hang here: the number of the walk's lines stays what it is
local macro_rules | `(tactic| walk_at "call builtin:len") => `(tactic| (k_here; tm_at "cal:call builtin:len"))

local macro_rules | `(tactic| walk_at "call builtin:sum") => `(tactic| (k_here; tm_at "cal:call builtin:sum"))

local macro_rules | `(tactic| walk_at "call ref") => `(tactic| (k_here; tm_at "cal:call ref"))

local macro_rules | `(tactic| walk_at "compareOp Eq ref ref") => `(tactic| (k_here; tm_at "cal:compareOp Eq ref ref"))

local macro_rules | `(tactic| walk_at "compareOp NotEq ref ref") => `(tactic| (k_here; tm_at "cal:compareOp NotEq ref ref"))

local macro_rules | `(tactic| walk_at "eval IfExp") => `(tactic| (k_here; tm_at "cal:eval IfExp"))

local macro_rules | `(tactic| walk_at "eval ListComp") => `(tactic| (k_here; tm_at "cal:eval ListComp"))

local macro_rules | `(tactic| walk_at "exec If") => `(tactic| (k_here; k_dflt (refine wpAny_If ?_)))

local macro_rules | `(tactic| walk_at "exec While") => `(tactic| (k_here; tm_at "cal:exec While"))

local macro_rules | `(tactic| walk_at "leaving ref") => `(tactic| (k_here; tm_at "cal:leaving ref"))

local macro_rules | `(tactic| walk_at "noteFrame ref") => `(tactic| (k_here; tm_at "cal:noteFrame ref"))

local macro_rules | `(tactic| walk_at "pyIter ref") => `(tactic| (k_here; tm_at "cal:pyIter ref"))

local macro_rules | `(tactic| walk_at "subscriptTail Name BinOp ref int") => `(tactic| (k_here; tm_at "cal:subscriptTail Name BinOp ref int"))

local macro_rules | `(tactic| walk_at "subscriptTail Name Constant ref int") => `(tactic| (k_here; tm_at "cal:subscriptTail Name Constant ref int"))

local macro_rules | `(tactic| walk_at "subscriptTail Name Name ref int") => `(tactic| (k_here; tm_at "cal:subscriptTail Name Name ref int"))

local macro_rules | `(tactic| walk_at "subscriptTail Name Slice ref ref") => `(tactic| (k_here; tm_at "cal:subscriptTail Name Slice ref ref"))

local macro_rules | `(tactic| wtm_at "cal open") => `(tactic| (w_top off; unfold Con; k_fill; intros))

local macro_rules | `(tactic| wtm_at "cal norm") => `(tactic| (intro tk9 F9; dsimp only [lkL] at F9))

-- what a def's parameters are bound to, last one first
def Binds (_l : List (Str × Value)) : Prop := True
section
variable {prog : Program} {w : World} {A A₀ : Around} {s : Shared} {K : Frag} {L : Addr} {h₀ base : Heap} {m mg mb : Str → Option Value} {news : List (Addr × Obj)} {p : Program} {loose : List Str} {mean : ExcName → Option Value}
theorem cal_enter {env : Env} {outer : List Env} {R : Result → Shared → Prop} {name qual : Str} {params : Arguments} {body : List Stmt} {scope : Scope} {dV kV doc pm cdv ct oc : Value} {an od : Option Addr} {osl : Array (Option Value)} {f : Addr} {args : Args} {l : List (Str × Value)}
    (_hb : Binds l) (B : Below A₀ base outer h₀) (F : Fr h₀ L s.heap m) (X : K.In h₀) (N : News h₀ L s.heap news) (T : Top p loose mean mg mb h₀) (hA : A.frames = some (env :: outer)) (hf : env.frame = some L) (hke : env.scope.kind = .function)
    (ho : K.lookup f = some ⟨oc, od, .func (fnOf name qual params body scope dV kV doc pm an cdv ct), osl⟩) (hcd : codeIn K cdv qual = true) (hroom : A.depth < recursionLimit)
    (hbind : BindsTo s (fnOf name qual params body scope dV kV doc pm an cdv ct) args l.reverse) (hloc : (l.reverse.all fun x => decide (scope.names.lookup x.1 = some .local)) = true)
    (h : ∀ g L' h₁ tk, Fr h₀ L g m → Fr g L' h₁ (fun y => lkL l y) → News g L' h₁ news → Below A base (env :: outer) g → K.In g → Top p loose mean mg mb g →
      wpAny (model prog w) (A.deeper (envOf qual scope L' f cdv)) (execs body (envOf qual scope L' f cdv))
        (fun fl s' => LeaveK h₀ L m g R (match fl with | .ret v => v | _ => .none) s')
        (fun e s' => wpAny (model prog w) (A.deeper (envOf qual scope L' f cdv)) (leaving (envOf qual scope L' f cdv) e) (fun _ s'' => R (.error e) s'') (fun e' s'' => R (.error e') s'') s')
        { s with heap := h₁, toks := tk })
    (hco : scope.isCoroutine = false) (hgen : scope.isGenerator = false) (hk : scope.kind = .function) (hcell : ∀ x ∈ scope.names, x.2 ≠ .cell) : codeAny (model prog w) A (.call (.ref f) args) R s :=
  code_def B F X N T hA hf hke ho hcd hroom hbind (locs hloc) (fun g L' h₁ FG F' N' B' X' T' => h g L' h₁ _ FG (by
    have e : (fun y => lkL l y) = fun y => l.reverse.reverse.lookup y := by
      funext y
      rw [List.reverse_reverse]
      exact (lookup_lkL l y).symm
    rw [e]
    exact F') N' B' X' T') hco hgen hk hcell
end

local macro_rules | `(tactic| wtm_at "cal in") => `(tactic| (k_whole; intro g' L' h' tk' FG' F' N' B' X' T'; (dsimp only [lkL] at F'); (try dsimp only); (try k_lift B'); (try k_fold)))

local macro_rules | `(tactic| wtm_at "cal go") => `(tactic| (refine wpAny_call ?_; k_dflt (refine' cal_enter ?kb ?k1 ?k2 ?k3 ?k4 ?k5 ?kA ?kF ?kK ?k6 ?k7 ?k8 ?k9 ?kB ?_ ?c2 ?c3 ?c4 ?c5; (case kb => with_reducible assumption); (case kA => exact rfl); (case kF => exact rfl); (case kK => assumption); (case k1 => k_asm); (case k2 => k_asm); (case k3 => k_asm); (case k4 => k_asm); (case k5 => k_asm); (case k6 => k_is); (case k7 => k_is); (case k8 => ktr_room); (case k9 => exact BindsTo.of_eq (by kernel_rfl)); (case kB => kernel_rfl); (case c2 => exact rfl); (case c3 => exact rfl); (case c4 => exact rfl); (case c5 => decide); wtm_at "cal in")))

local macro_rules | `(tactic| wtm_at "cal enter") => `(tactic| (wtm_at "cal open"; wtm_at "cal go"))

theorem sub_self (l : List (Addr × Obj)) : ∀ p ∈ l, p ∈ l := fun _ h => h
theorem sub_tail {a : Addr × Obj} {l l' : List (Addr × Obj)} (h : ∀ p ∈ l, p ∈ l') : ∀ p ∈ l, p ∈ a :: l' := fun p hp => .tail _ (h p hp)

local macro_rules | `(tactic| wtm_at "cal sub") => `(tactic| with_reducible first
  | exact sub_self _
  | (refine sub_tail ?_; wtm_at "cal sub")
  | assumption)

local macro_rules | `(tactic| wtm_at "cal lt") => `(tactic| first | assumption | exact True.intro | exact allLt_of (by assumption) | exact And.right (by assumption) | exact And.right (And.right (by assumption)) | exact And.right (And.right (And.right (by assumption))) | exact And.right (And.right (And.right (And.right (by assumption)))) | exact And.right (And.right (And.right (And.right (And.right (by assumption))))) | exact And.right (And.right (And.right (And.right (And.right (And.right (by assumption)))))) | kcu_lt)

-- the end of a way: all but what comes back
local macro_rules | `(tactic| wtm_at "cal end") => `(tactic| first
  | (refine' end_N ?h ?F ?N ?n; (case h => assumption); (case F => k_asm); (case N => k_asm); (case n => wtm_at "cal sub"))
  | (refine' end_I ?h ?e ?F ?N ?n; (case h => assumption); (case F => k_asm); (case N => k_asm); (case n => wtm_at "cal sub"))
  | (refine' end_B ?h ?e ?F ?N ?n; (case h => assumption); (case F => k_asm); (case N => k_asm); (case n => wtm_at "cal sub"))
  | (refine' end_T3 ?h ?e ?F ?N ?D ?n ?l; (case h => assumption); (case F => k_asm); (case N => k_asm); (case D => k_mem); (case n => wtm_at "cal sub"); (case l => wtm_at "cal lt"))
  | (refine' end_T2 ?h ?e1 ?e2 ?F ?N ?D ?n ?l; (case h => assumption); (case F => k_asm); (case N => k_asm); (case D => k_mem); (case n => wtm_at "cal sub"); (case l => wtm_at "cal lt")))

-- a contract is used: what is behind it
local macro_rules | `(tactic| wtm_at "cal ret") => `(tactic| (first
  | (unfold RetI; intro t9 h9 tk9 F9 N9)
  | (unfold RetB; intro h9 tk9 F9 N9)
  | (unfold RetNone; intro h9 tk9 F9 N9)
  | (unfold RetT3; intro D9 t91 t92 t93 c9 h9 tk9 F9 N9 l9)
  | (unfold RetT2; intro D9 t91 t92 c9 h9 tk9 F9 N9 l9)); (try simp only [AllLt, and_true] at l9); (try k_sweep); (try dsimp only); (try k_fold))

local macro_rules | `(tactic| wtm_at "cal pre") => `(tactic| first | trivial | assumption | omega)

theorem room_d {A : Around} {dp a b : Nat} (h : dp + b < recursionLimit) (e : A.depth = dp) (q : 1 + a ≤ b) : A.depth + 1 + a < recursionLimit := by omega
theorem room_u {A : Around} {un a b c : Nat} (h : un + 8 * b < cLine) (e : A.units = un) (q : c + 8 * a ≤ 8 * b) : A.units + c + 8 * a < cLine := by omega

local macro_rules | `(tactic| wtm_at "cal use") => `(tactic| (
  (case cB => k_dflt k_asm); (case cF => k_asm); (case cX => k_asm); (try (case cN => k_asm)); (case cT => k_asm); (case cK => first | exact rfl | assumption);
  (case cd => first | (refine room_d (by with_reducible assumption) ?_ ?_; (· exact rfl); (· decide)) | ktr_room); (case cu => first | (refine room_u (by with_reducible assumption) ?_ ?_; (· exact rfl); (· decide)) | ktr_units); (case cp => first | with_reducible assumption | with_reducible exact True.intro | (wtm_at "cal pre") | trivial | assumption | fail "cal use: pre"); intro pre9; (try (have pre9 : True := pre9; clear pre9)); wtm_at "cal ret"))

-- the tokens drawn so far are forgotten at a statement (the library's own way costs half a minute where the state is long)
theorem gen_tk {α : Type} {M : Model} {A : Around} {t : Sem α} {Q : α → Shared → Prop} {E : Value → Shared → Prop} {hp : Heap} {g : Array GenState} {d : Drawn} {X Y : Nat} {os : OsState} (h : ∀ tk, wpAny M A t Q E ⟨hp, g, d, tk, os⟩) : wpAny M A t Q E ⟨hp, g, d, X + Y, os⟩ := h (X + Y)

local macro_rules | `(tactic| wtm_at "cal execs") => `(tactic| with_reducible first
  | (refine gen_tk ?_; intro tk9)
  | refine wpAny_execs_cons ?_)

local macro_rules | `(tactic| walk_at "execs nil") => `(tactic| (k_here; with_reducible refine gen_tk ?_; intro tk9))

local macro_rules | `(tactic| walk_at "execs cons Assign cons") => `(tactic| (k_here; wtm_at "cal execs"))

local macro_rules | `(tactic| walk_at "execs cons If cons") => `(tactic| (k_here; wtm_at "cal execs"))

local macro_rules | `(tactic| walk_at "execs cons Return nil") => `(tactic| (k_here; wtm_at "cal execs"))

local macro_rules | `(tactic| walk_at "execs cons If nil") => `(tactic| (k_here; wtm_at "cal execs"))

local macro_rules | `(tactic| walk_at "execs cons AugAssign cons") => `(tactic| (k_here; wtm_at "cal execs"))

local macro_rules | `(tactic| walk_at "execs cons AugAssign nil") => `(tactic| (k_here; wtm_at "cal execs"))

local macro_rules | `(tactic| walk_at "execs cons Expr cons") => `(tactic| (k_here; wtm_at "cal execs"))

local macro_rules | `(tactic| walk_at "execs cons Assign nil") => `(tactic| (k_here; wtm_at "cal execs"))

-- a name of the frame is set
local macro_rules | `(tactic| wtm_at "cal store") => `(tactic| k_dflt (refine' storeX_L ?F ?N ?_ ?a ?b; (case F => k_asm); (case N => k_asm); (case a => exact rfl); (case b => kernel_rfl); k_whole; intro h' F' N'; (try k_sweep)))

local macro_rules | `(tactic| walk_at "storeName int") => `(tactic| (k_here; (with_reducible show wpAny _ _ (storeName (envOf _ _ _ _ _) _ _) _ _ _); first | tm_at "cal:storeName int" | wtm_at "cal store"))

local macro_rules | `(tactic| walk_at "storeName ref") => `(tactic| (k_here; (with_reducible show wpAny _ _ (storeName (envOf _ _ _ _ _) _ _) _ _ _); wtm_at "cal store"))

local macro_rules | `(tactic| walk_at "storeName bool") => `(tactic| (k_here; (with_reducible show wpAny _ _ (storeName (envOf _ _ _ _ _) _ _) _ _ _); wtm_at "cal store"))

-- an argument more, or none
local macro_rules | `(tactic| walk_at "spliced") => `(tactic| (k_here; k_dflt (first
  | refine args_cons ?_
  | (refine args_nil ?_; try simp only [List.cons_append, List.nil_append]))))

-- a name is told a value
local macro_rules | `(tactic| walk_at "exec Assign") => `(tactic| (k_here; (with_reducible show wpAny _ _ (exec (Stmt.Assign [Expr.Name _ _] _ _) _) _ _ _); k_dflt (refine wpAny_Assign_Name ?_)))

-- a tuple is told apart
local macro_rules | `(tactic| walk_at "assign Tuple") => `(tactic| (k_here; (with_reducible show wpAny _ _ (assign (Expr.Tuple _ _ _) _ (Value.ref _)) _ _ _); k_dflt (refine' unpackN_ ?k1 ?k2 ?k3 ?k4 ?k5 ?k6 ?_; (case k1 => k_asm); (case k2 => k_asm); (case k3 => kun_tup); (case k4 => exact rfl); (case k5 => exact rfl); (case k6 => exact rfl); k_whole); intro h' F' N'; (try k_sweep)))

-- what a frame bears under a name
theorem lk_y {z : Str} {i : Decidable (z = z)} {t e : Option Value} : @ite _ (z = z) i t e = t := if_pos rfl
theorem lk_n {z x : Str} {i : Decidable (z = x)} {t e r : Option Value} (hc : decide (z = x) = false) (h : e = r) : @ite _ (z = x) i t e = r := by
  rw [if_neg (of_decide_eq_false hc)]
  exact h
theorem ov_y {m : Str → Option Value} {z : Str} {v : Value} {l : List (Str × Value)} : ov m ((z, v) :: l) z = some v := if_pos rfl
theorem ov_n {m : Str → Option Value} {z x : Str} {v : Value} {l : List (Str × Value)} {r : Option Value} (hc : decide (z = x) = false) (h : ov m l z = r) : ov m ((x, v) :: l) z = r := by
  unfold ov
  rw [if_neg (of_decide_eq_false hc)]
  exact h

local macro_rules | `(tactic| wtm_at "cal lk") => `(tactic| first
  | with_reducible exact lk_y
  | (with_reducible refine lk_n ?_ ?_; (· kernel_rfl); wtm_at "cal lk")
  | with_reducible exact ov_y
  | (with_reducible refine ov_n ?_ ?_; (· kernel_rfl); wtm_at "cal lk")
  | (fail_if_success (with_reducible refine lk_n ?_ ?_); fail_if_success (with_reducible refine ov_n ?_ ?_); exact rfl))

-- a name, without the long way round
local macro_rules | `(tactic| walk_at "eval Name") => `(tactic| (k_here; (with_reducible show wpAny _ _ (eval (Expr.Name _ _) (envOf _ _ _ _ _)) _ _ _); k_dflt (first
  | (refine' ld ?k1 ?k2 ?_ ?h1 ?h2 ?h3; (case h2 => kernel_rfl); (case h1 => exact rfl); (case h3 => kernel_rfl); (case k1 => k_asm); (case k2 => wtm_at "cal lk"); k_whole)
  | (refine' name_K ?k0 ?k1 ?k2 ?k3 ?_ ?h1 ?h2 ?h3; (case h2 => kernel_rfl); (case h1 => exact rfl); (case h3 => kernel_rfl); (case k0 => k_asm); (case k1 => k_asm); (case k2 => k_asm); (case k3 => k_is); k_whole)
  | (refine' name_B ?k0 ?k1 ?k2 ?k3 ?k4 ?k5 ?_ ?h1 ?h2 ?h3; (case h2 => kernel_rfl); (case h1 => exact rfl); (case h3 => kernel_rfl); (case k0 => k_asm); (case k1 => k_asm); (case k2 => k_asm); (case k3 => k_is); (case k4 => boot_by_name); (case k5 => decide); k_whole))))

-- a product with a written number
local macro_rules | `(tactic| walk_at "binaryOp Mult int int") => `(tactic| first
  | with_reducible refine PyProof.Rows.mul_int ?_ (IntMulOk.of_right (PySem.intBits_le_64 (by decide) (by decide)))
  | with_reducible refine PyProof.Rows.mul_int ?_ (IntMulOk.of_left (PySem.intBits_le_64 (by decide) (by decide)))
  | tm_at "cal:Mult")

-- no joining of a call's ways, no reading ahead: my contracts do that
local macro_rules | `(tactic| walk_at "eval Call") => `(tactic| (k_here; (with_reducible show wpAny _ _ (eval (PySem.Expr.Call (PySem.Expr.Name _ _) _ [] _) _) _ _ _); k_dflt (refine Call_ ?_)))

local macro_rules | `(tactic| wtm_at "cal dec") => `(tactic| (law_purse 20000 => (law_clear; (try simp (disch := omega) only [Int.fmod_eq_emod_of_nonneg, Int.fdiv_eq_ediv_of_nonneg, beq_iff_eq, beq_eq_false_iff_ne, bne_iff_ne, bne_eq_false_iff_eq, ne_eq, decide_eq_true_eq, decide_eq_false_iff_not, Bool.and_eq_true, Bool.or_eq_true, Bool.and_eq_false_iff, Bool.or_eq_false_iff, Bool.not_eq_true', Bool.not_eq_false', Bool.not_eq_true, Bool.not_eq_false, Bool.not_eq_eq_eq_not, Bool.not_not, Bool.not_true, Bool.not_false] at *); omega)))

theorem if_t {b : Bool} {P R : Prop} (e : b = true) (h : P) : if b = true then P else R := by rw [e]; exact h
theorem if_f {b : Bool} {P R : Prop} (e : b = false) (h : R) : if b = true then P else R := by rw [e]; exact h

-- a branch that the facts decide is not walked
local macro_rules | `(tactic| walk_at "ite") => `(tactic| first
  | (k_closed; first | refine if_t (by decide) ?_ | refine if_f (by decide) ?_)
  | (refine if_t (by with_reducible assumption) ?_)
  | (refine if_f (by with_reducible assumption) ?_)
  | tm_at "cal:ite"
  | (k_openite; first
    | (k_spoken; first | (refine if_t (by wtm_at "cal dec") ?_) | (refine if_f (by wtm_at "cal dec") ?_))
    | (with_reducible refine split_ine ?_ ?_ <;> intro _)
    | (with_reducible refine split_ieq ?_ ?_ <;> intro _)
    | with_reducible refine split_not ?_
    | (refine split_dec ?_ ?_ <;> intro _)
    | (refine split_bool ?_ ?_ <;> intro _)))

-- floor divisions as omega knows them
theorem fdiv_lit (a : Int) {b : Int} (h : 0 < b) : a.fdiv b = a / b := Int.fdiv_eq_ediv_of_nonneg a (Int.le_of_lt h)
theorem fmod_lit (a : Int) {b : Int} (h : 0 < b) : a.fmod b = a % b := Int.fmod_eq_emod_of_nonneg a (Int.le_of_lt h)

-- behind an end: the facts of numbers alone, floor divisions as omega knows them
local macro_rules | `(tactic| wtm_at "cal div") => `(tactic| (law_clear; (try simp (disch := omega) only [Int.fmod_eq_emod_of_nonneg, Int.fdiv_eq_ediv_of_nonneg] at *)))

section
variable {prog : Program} {w : World} {A : Around} {E : Value → Shared → Prop} {s : Shared} {K : Frag} {h₀ h : Heap} {L a : Addr} {m : Str → Option Value}
theorem tupK {od : Option Addr} {items : Array Value} {n : Nat} {sl : Array (Option Value)} (X : K.In h₀) (F : Fr h₀ L h m) (ho : K.lookup a = some ⟨.type "tuple", od, .seq items n, sl⟩) : IsTup h a items :=
  ⟨_, F.keep _ _ (X _ _ ho), rfl, n, rfl⟩
theorem in_tupK {od : Option Addr} {vs : List Value} {n : Nat} {sl : Array (Option Value)} {ns : List Int} {x : Int} {u : Tok} {b : Bool} {Q : Value → Shared → Prop} (X : K.In h₀) (F : Fr h₀ L s.heap m) (ho : K.lookup a = some ⟨.type "tuple", od, .seq vs.toArray n, sl⟩)
    (hi : IntsAre vs ns) (e : ns.any (· == x) = b) (h : Q (.bool b) s) : wpAny (model prog w) A (compareOp .In (.int x u) (.ref a)) Q E s := by
  subst e
  exact in_tuple_ints (tupK X F ho) hi h
end

local macro_rules | `(tactic| wtm_at "cal isIn") => `(tactic| ((simp only [List.any_cons, List.any_nil, Bool.or_false, Bool.or_eq_true, Bool.or_eq_false_iff, beq_iff_eq, beq_eq_false_iff_ne, ne_eq]); omega))

-- x in a written tuple of ints: decided by the facts
local macro_rules | `(tactic| walk_at "compareOp In int ref") => `(tactic| (k_here; first
  | (k_dflt (refine' in_tupK (b := true) ?X ?F ?o ?i ?e ?_; (case X => k_asm); (case F => k_asm); (case o => k_is); (case i => repeat constructor); (case e => wtm_at "cal isIn"); k_whole))
  | (k_dflt (refine' in_tupK (b := false) ?X ?F ?o ?i ?e ?_; (case X => k_asm); (case F => k_asm); (case o => k_is); (case i => repeat constructor); (case e => wtm_at "cal isIn"); k_whole))))

section
variable {w : World} {loose : List Str} {mean : ExcName → Option Value} {mg mb : Str → Option Value} {news : List (Addr × Obj)} {y m d : Int} {ty tm td : Tok}

def isleap (y : Int) : Bool := decide (y % 4 = 0) && (!decide (y % 100 = 0) || decide (y % 400 = 0))

theorem c_isleap : Con w loose mean mg mb 1 21 [.int y ty] True news (RetB (isleap y)) := by
  wtm_at "cal open"
  have hb : Binds [(Str.ofString "year", .int y ty)] := trivial
  wtm_at "cal go"
  k_steps
  all_goals wtm_at "cal end"
  all_goals wtm_at "cal div"
  all_goals simp_all [isleap]
  all_goals rfl

end

local macro_rules | `(tactic| tm_at "cal:call ref") => `(tactic| (k_here; (with_reducible show wpAny _ _ (call (Value.ref (21 : Nat)) _) _ _ _); k_dflt (refine' con_use c_isleap ?cB ?cF ?cX ?cN ?cT ?cK ?cp ?cd ?cu ?_); wtm_at "cal use"))

section
variable {w : World} {loose : List Str} {mean : ExcName → Option Value} {mg mb : Str → Option Value} {news : List (Addr × Obj)} {y m d : Int} {ty tm td : Tok}

def dimG (y m : Int) : Int := if m = 2 then (if isleap y = true then 29 else 28) else if m = 4 ∨ m = 6 ∨ m = 9 ∨ m = 11 then 30 else 31

theorem legal_cases {y m d : Int} (h : 0 < d ∧ d ≤ dimG y m) : (m = 2 ∧ isleap y = true ∧ 0 < d ∧ d ≤ 29) ∨ (m = 2 ∧ isleap y = false ∧ 0 < d ∧ d ≤ 28) ∨
    ((m = 4 ∨ m = 6 ∨ m = 9 ∨ m = 11) ∧ m ≠ 2 ∧ 0 < d ∧ d ≤ 30) ∨ (m ≠ 2 ∧ m ≠ 4 ∧ m ≠ 6 ∧ m ≠ 9 ∧ m ≠ 11 ∧ 0 < d ∧ d ≤ 31) := by
  unfold dimG at h
  split at h
  · split at h
    · simp_all
    · simp_all
  · split at h
    · simp_all
    · simp_all

theorem c_legalG : Con w loose mean mg mb 2 36 [.int y ty, .int m tm, .int d td] (0 < d ∧ d ≤ dimG y m) news (RetB true) := by
  wtm_at "cal open"
  rename_i hp _ _ _
  rcases legal_cases hp with ⟨h1, h2, h3, h4⟩ | ⟨h1, h2, h3, h4⟩ | ⟨h1, h2, h3, h4⟩ | ⟨h1, h2, h3, h4, h5, h6, h7⟩
  all_goals clear hp
  all_goals have hb : Binds [(Str.ofString "day", .int d td), (Str.ofString "month", .int m tm), (Str.ofString "year", .int y ty)] := trivial
  all_goals wtm_at "cal go"
  all_goals k_steps
  all_goals wtm_at "cal end"
  all_goals rfl

end

local macro_rules | `(tactic| tm_at "cal:call ref") => `(tactic| (k_here; (with_reducible show wpAny _ _ (call (Value.ref (36 : Nat)) _) _ _ _); k_dflt (refine' con_use c_legalG ?cB ?cF ?cX ?cN ?cT ?cK ?cp ?cd ?cu ?_); wtm_at "cal use"))

section
variable {w : World} {loose : List Str} {mean : ExcName → Option Value} {mg mb : Str → Option Value} {news : List (Addr × Obj)} {y m d : Int} {ty tm td : Tok}

def gJd (y m d : Int) : Int := 1721426 - 1 + 365 * (y - 1) + (y - 1) / 4 + -((y - 1) / 100) + (y - 1) / 400 + ((367 * m - 362) / 12 + (if m ≤ 2 then 0 else if isleap y = true then -1 else -2) + d)

theorem c_gJd : Con w loose mean mg mb 3 43 [.int y ty, .int m tm, .int d td] (0 < d ∧ d ≤ dimG y m) news (RetI (gJd y m d)) := by
  wtm_at "cal open"
  have hb : Binds [(Str.ofString "day", .int d td), (Str.ofString "month", .int m tm), (Str.ofString "year", .int y ty)] := trivial
  wtm_at "cal go"
  k_steps
  all_goals wtm_at "cal end"
  all_goals wtm_at "cal div"
  all_goals (unfold gJd; (repeat' split) <;> first | rfl | omega | simp_all)

end

local macro_rules | `(tactic| tm_at "cal:call ref") => `(tactic| (k_here; (with_reducible show wpAny _ _ (call (Value.ref (43 : Nat)) _) _ _ _); k_dflt (refine' con_use c_gJd ?cB ?cF ?cX ?cN ?cT ?cK ?cp ?cd ?cu ?_); wtm_at "cal use"))

section
variable {w : World} {loose : List Str} {mean : ExcName → Option Value} {mg mb : Str → Option Value} {news : List (Addr × Obj)} {y m d : Int} {ty tm td : Tok}

theorem dimG_one (y m : Int) : (0 : Int) < 1 ∧ 1 ≤ dimG y m := by
  unfold dimG
  (repeat' split) <;> omega

end

local macro_rules | `(tactic| wtm_at "cal pre") => `(tactic| exact dimG_one _ _)

section
variable {w : World} {loose : List Str} {mean : ExcName → Option Value} {mg mb : Str → Option Value} {news : List (Addr × Obj)} {y m d : Int} {ty tm td : Tok}

end

section
variable {w : World} {loose : List Str} {mean : ExcName → Option Value} {mg mb : Str → Option Value} {news : List (Addr × Obj)} {y m d : Int} {ty tm td : Tok}

def gYear (jd : Int) : Int := (jd - 1721426) / 146097 * 400 + (jd - 1721426) % 146097 / 36524 * 100 + (jd - 1721426) % 146097 % 36524 / 1461 * 4 + (jd - 1721426) % 146097 % 36524 % 1461 / 365 +
  (if (jd - 1721426) % 146097 / 36524 = 4 ∨ (jd - 1721426) % 146097 % 36524 % 1461 / 365 = 4 then 0 else 1)
def gMonth (jd y : Int) : Int := ((jd - gJd y 1 1 + (if jd - gJd y 1 1 < 58 + (if isleap y = true then 1 else 0) then 0 else if isleap y = true then 1 else 2)) * 12 + 373) / 367
def gFrom (jd : Int) : Int × Int × Int := (gYear jd, gMonth jd (gYear jd), jd - gJd (gYear jd) (gMonth jd (gYear jd)) 1 + 1)

theorem gYear_a {jd : Int} (h : (jd - 1721426) % 146097 / 36524 = 4) : (jd - 1721426) / 146097 * 400 + (jd - 1721426) % 146097 / 36524 * 100 + (jd - 1721426) % 146097 % 36524 / 1461 * 4 + (jd - 1721426) % 146097 % 36524 % 1461 / 365 = gYear jd := by
  unfold gYear
  rw [if_pos (.inl h), Int.add_zero]
theorem gYear_b {jd : Int} (h : (jd - 1721426) % 146097 % 36524 % 1461 / 365 = 4) : (jd - 1721426) / 146097 * 400 + (jd - 1721426) % 146097 / 36524 * 100 + (jd - 1721426) % 146097 % 36524 / 1461 * 4 + (jd - 1721426) % 146097 % 36524 % 1461 / 365 = gYear jd := by
  unfold gYear
  rw [if_pos (.inr h), Int.add_zero]
theorem gYear_c {jd : Int} (h : (jd - 1721426) % 146097 / 36524 ≠ 4) (h' : (jd - 1721426) % 146097 % 36524 % 1461 / 365 ≠ 4) : (jd - 1721426) / 146097 * 400 + (jd - 1721426) % 146097 / 36524 * 100 + (jd - 1721426) % 146097 % 36524 / 1461 * 4 + (jd - 1721426) % 146097 % 36524 % 1461 / 365 + 1 = gYear jd := by
  unfold gYear
  rw [if_neg (fun x => x.elim h h')]

theorem gFrom_0 {jd : Int} (h : jd - gJd (gYear jd) 1 1 < 58 + (if isleap (gYear jd) = true then 1 else 0)) :
    (gYear jd, ((jd - gJd (gYear jd) 1 1 + 0) * 12 + 373) / 367, jd - gJd (gYear jd) (((jd - gJd (gYear jd) 1 1 + 0) * 12 + 373) / 367) 1 + 1) = gFrom jd := by
  unfold gFrom gMonth
  rw [if_pos h]
theorem gFrom_1 {jd : Int} (h : ¬ jd - gJd (gYear jd) 1 1 < 58 + (if isleap (gYear jd) = true then 1 else 0)) (h' : isleap (gYear jd) = true) :
    (gYear jd, ((jd - gJd (gYear jd) 1 1 + 1) * 12 + 373) / 367, jd - gJd (gYear jd) (((jd - gJd (gYear jd) 1 1 + 1) * 12 + 373) / 367) 1 + 1) = gFrom jd := by
  unfold gFrom gMonth
  rw [if_neg h, if_pos h']
theorem gFrom_2 {jd : Int} (h : ¬ jd - gJd (gYear jd) 1 1 < 58 + (if isleap (gYear jd) = true then 1 else 0)) (h' : isleap (gYear jd) = false) :
    (gYear jd, ((jd - gJd (gYear jd) 1 1 + 2) * 12 + 373) / 367, jd - gJd (gYear jd) (((jd - gJd (gYear jd) 1 1 + 2) * 12 + 373) / 367) 1 + 1) = gFrom jd := by
  unfold gFrom gMonth
  rw [if_neg h, if_neg (by rw [h']; exact Bool.false_ne_true)]

theorem c_gFrom : Con w loose mean mg mb 5 50 [.int y ty] True news (RetT3 (gFrom y)) := by
  wtm_at "cal open"
  have hb : Binds [(Str.ofString "jd", .int y ty)] := trivial
  wtm_at "cal go"
  k_steps
  all_goals wtm_at "cal end"
  all_goals wtm_at "cal div"
  all_goals first
    | rw [gYear_a (by assumption)] at *
    | rw [gYear_b (by assumption)] at *
    | rw [gYear_c (by assumption) (by assumption)] at *
  all_goals first | exact gFrom_0 (by assumption) | exact gFrom_1 (by assumption) (by assumption) | exact gFrom_2 (by assumption) (by assumption)
end

local macro_rules | `(tactic| tm_at "cal:call ref") => `(tactic| (k_here; (with_reducible show wpAny _ _ (call (Value.ref (50 : Nat)) _) _ _ _); k_dflt (refine' con_use c_gFrom ?cB ?cF ?cX ?cN ?cT ?cK ?cp ?cd ?cu ?_); wtm_at "cal use"))


section
variable {w : World} {loose : List Str} {mean : ExcName → Option Value} {mg mb : Str → Option Value} {news : List (Addr × Obj)} {y m d : Int} {ty tm td : Tok}

def islLeap (y : Int) : Bool := decide ((y * 11 + 14) % 30 < 11)
def islJd (y m d : Int) : Int := d + -((-59 * (m - 1)) / 2) + (y - 1) * 354 + (3 + 11 * y) / 30 + 1948440 - 1
def islYear (jd : Int) : Int := (30 * (jd - 1948440) + 10646) / 10631
def islMonth (jd y : Int) : Int := if -(-2 * (jd - (29 + islJd y 1 1)) / 59) + 1 < 12 then -(-2 * (jd - (29 + islJd y 1 1)) / 59) + 1 else 12
def islFrom (jd : Int) : Int × Int × Int := (islYear jd, islMonth jd (islYear jd), jd - islJd (islYear jd) (islMonth jd (islYear jd)) 1 + 1)
def islLen (y m : Int) : Int := if m = 1 ∨ m = 3 ∨ m = 5 ∨ m = 7 ∨ m = 9 ∨ m = 11 ∨ (m = 12 ∧ islLeap y = true) then 30 else 29

theorem c_islLeap : Con w loose mean mg mb 1 58 [.int y ty] True news (RetB (islLeap y)) := by
  wtm_at "cal open"
  have hb : Binds [(Str.ofString "year", .int y ty)] := trivial
  wtm_at "cal go"
  k_steps
  all_goals wtm_at "cal end"
  all_goals wtm_at "cal div"
  all_goals rfl

end

local macro_rules | `(tactic| tm_at "cal:call ref") => `(tactic| (k_here; (with_reducible show wpAny _ _ (call (Value.ref (58 : Nat)) _) _ _ _); k_dflt (refine' con_use c_islLeap ?cB ?cF ?cX ?cN ?cT ?cK ?cp ?cd ?cu ?_); wtm_at "cal use"))

section
variable {w : World} {loose : List Str} {mean : ExcName → Option Value} {mg mb : Str → Option Value} {news : List (Addr × Obj)} {y m d : Int} {ty tm td : Tok}

theorem c_islJd : Con w loose mean mg mb 1 65 [.int y ty, .int m tm, .int d td] True news (RetI (islJd y m d)) := by
  wtm_at "cal open"
  have hb : Binds [(Str.ofString "day", .int d td), (Str.ofString "month", .int m tm), (Str.ofString "year", .int y ty)] := trivial
  wtm_at "cal go"
  k_steps
  wtm_at "cal end"
  all_goals wtm_at "cal div"
  all_goals rfl

end

local macro_rules | `(tactic| tm_at "cal:call ref") => `(tactic| (k_here; (with_reducible show wpAny _ _ (call (Value.ref (65 : Nat)) _) _ _ _); k_dflt (refine' con_use c_islJd ?cB ?cF ?cX ?cN ?cT ?cK ?cp ?cd ?cu ?_); wtm_at "cal use"))

section
variable {w : World} {loose : List Str} {mean : ExcName → Option Value} {mg mb : Str → Option Value} {news : List (Addr × Obj)} {y m d : Int} {ty tm td : Tok}

theorem c_islFrom : Con w loose mean mg mb 3 72 [.int y ty] True news (RetT3 (islFrom y)) := by
  wtm_at "cal open"
  have hb : Binds [(Str.ofString "jd", .int y ty)] := trivial
  wtm_at "cal go"
  k_steps
  all_goals wtm_at "cal end"
  all_goals wtm_at "cal div"
  all_goals rfl

theorem isl_cases (y m : Int) : (m = 1 ∨ m = 3 ∨ m = 5 ∨ m = 7 ∨ m = 9 ∨ m = 11) ∨ (m = 12 ∧ islLeap y = true) ∨ (m = 12 ∧ islLeap y = false) ∨ (m ≠ 1 ∧ m ≠ 3 ∧ m ≠ 5 ∧ m ≠ 7 ∧ m ≠ 9 ∧ m ≠ 11 ∧ m ≠ 12) := by
  cases islLeap y <;> simp <;> omega

theorem c_islLen : Con w loose mean mg mb 3 93 [.int y ty, .int m tm] True news (RetI (islLen y m)) := by
  wtm_at "cal open"
  rcases isl_cases y m with h1 | ⟨h1, h2⟩ | ⟨h1, h2⟩ | ⟨h1, h2, h3, h4, h5, h6, h7⟩
  all_goals have hb : Binds [(Str.ofString "month", .int m tm), (Str.ofString "year", .int y ty)] := trivial
  all_goals wtm_at "cal go"
  all_goals k_steps
  all_goals wtm_at "cal end"
  all_goals wtm_at "cal div"
  all_goals (unfold islLen; (repeat' split) <;> first | rfl | contradiction | omega | simp_all)
end

local macro_rules | `(tactic| tm_at "cal:call ref") => `(tactic| (k_here; (with_reducible show wpAny _ _ (call (Value.ref (72 : Nat)) _) _ _ _); k_dflt (refine' con_use c_islFrom ?cB ?cF ?cX ?cN ?cT ?cK ?cp ?cd ?cu ?_); wtm_at "cal use"))

local macro_rules | `(tactic| tm_at "cal:call ref") => `(tactic| (k_here; (with_reducible show wpAny _ _ (call (Value.ref (93 : Nat)) _) _ _ _); k_dflt (refine' con_use c_islLen ?cB ?cF ?cX ?cN ?cT ?cK ?cp ?cd ?cu ?_); wtm_at "cal use"))


section
variable {w : World} {loose : List Str} {mean : ExcName → Option Value} {mg mb : Str → Option Value} {news : List (Addr × Obj)} {y m d : Int} {ty tm td : Tok}

def copLeap (y : Int) : Bool := decide (y % 4 = 3)
def copJd (y m d : Int) : Int := d + (m - 1) * 30 + (y - 1) * 365 + y / 4 + 1825030 - 1
def copYear (jd : Int) : Int := (4 * (jd - 1825030) + 1463) / 1461
def copFrom (jd : Int) : Int × Int × Int := (copYear jd, (jd - copJd (copYear jd) 1 1) / 30 + 1, jd - copJd (copYear jd) 1 1 - ((jd - copJd (copYear jd) 1 1) / 30 + 1 - 1) * 30 + 1)
def copLen (y m : Int) : Int := if m ≤ 12 then 30 else if copLeap y = true then 6 else 5

theorem c_copLeap : Con w loose mean mg mb 1 100 [.int y ty] True news (RetB (copLeap y)) := by
  wtm_at "cal open"
  have hb : Binds [(Str.ofString "year", .int y ty)] := trivial
  wtm_at "cal go"
  k_steps
  all_goals wtm_at "cal end"
  all_goals wtm_at "cal div"
  all_goals (simp only [copLeap]; simp_all <;> omega)

end

local macro_rules | `(tactic| tm_at "cal:call ref") => `(tactic| (k_here; (with_reducible show wpAny _ _ (call (Value.ref (100 : Nat)) _) _ _ _); k_dflt (refine' con_use c_copLeap ?cB ?cF ?cX ?cN ?cT ?cK ?cp ?cd ?cu ?_); wtm_at "cal use"))

section
variable {w : World} {loose : List Str} {mean : ExcName → Option Value} {mg mb : Str → Option Value} {news : List (Addr × Obj)} {y m d : Int} {ty tm td : Tok}

theorem c_copJd : Con w loose mean mg mb 1 107 [.int y ty, .int m tm, .int d td] True news (RetI (copJd y m d)) := by
  wtm_at "cal open"
  have hb : Binds [(Str.ofString "day", .int d td), (Str.ofString "month", .int m tm), (Str.ofString "year", .int y ty)] := trivial
  wtm_at "cal go"
  k_steps
  wtm_at "cal end"
  all_goals wtm_at "cal div"
  all_goals rfl

end

local macro_rules | `(tactic| tm_at "cal:call ref") => `(tactic| (k_here; (with_reducible show wpAny _ _ (call (Value.ref (107 : Nat)) _) _ _ _); k_dflt (refine' con_use c_copJd ?cB ?cF ?cX ?cN ?cT ?cK ?cp ?cd ?cu ?_); wtm_at "cal use"))

section
variable {w : World} {loose : List Str} {mean : ExcName → Option Value} {mg mb : Str → Option Value} {news : List (Addr × Obj)} {y m d : Int} {ty tm td : Tok}

theorem c_copFrom : Con w loose mean mg mb 3 114 [.int y ty] True news (RetT3 (copFrom y)) := by
  wtm_at "cal open"
  have hb : Binds [(Str.ofString "jdc", .int y ty)] := trivial
  wtm_at "cal go"
  k_steps
  all_goals wtm_at "cal end"
  all_goals wtm_at "cal div"
  all_goals rfl

theorem c_copLen : Con w loose mean mg mb 3 135 [.int y ty, .int m tm] (m ≤ 13) news (RetI (copLen y m)) := by
  wtm_at "cal open"
  have hb : Binds [(Str.ofString "month", .int m tm), (Str.ofString "year", .int y ty)] := trivial
  wtm_at "cal go"
  k_steps
  all_goals wtm_at "cal end"
  all_goals wtm_at "cal div"
  all_goals (unfold copLen; (repeat' split) <;> first | rfl | contradiction | omega | simp_all)
end

local macro_rules | `(tactic| tm_at "cal:call ref") => `(tactic| (k_here; (with_reducible show wpAny _ _ (call (Value.ref (114 : Nat)) _) _ _ _); k_dflt (refine' con_use c_copFrom ?cB ?cF ?cX ?cN ?cT ?cK ?cp ?cd ?cu ?_); wtm_at "cal use"))

local macro_rules | `(tactic| tm_at "cal:call ref") => `(tactic| (k_here; (with_reducible show wpAny _ _ (call (Value.ref (135 : Nat)) _) _ _ _); k_dflt (refine' con_use c_copLen ?cB ?cF ?cX ?cN ?cT ?cK ?cp ?cd ?cu ?_); wtm_at "cal use"))


section
variable {w : World} {loose : List Str} {mean : ExcName → Option Value} {mg mb : Str → Option Value} {news : List (Addr × Obj)} {y m d : Int} {ty tm td : Tok}

def julLeap (y : Int) : Bool := decide (y % 4 = 0)
def julLen (y m : Int) : Int := if m = 2 then (if julLeap y = true then 29 else 28) else if m = 4 ∨ m = 6 ∨ m = 9 ∨ m = 11 then 30 else 31
def julJd (y m d : Int) : Int := if m ≤ 2 then 1461 * (y - 1 + 4716) / 4 + 306001 * (m + 12 + 1) / 10000 + d - 1524 else 1461 * (y + 4716) / 4 + 306001 * (m + 1) / 10000 + d - 1524
def julC (jd : Int) : Int := (20 * (jd + 1524) - 2442) / 7305
def julE (jd : Int) : Int := (jd + 1524 - 1461 * julC jd / 4) * 10000 / 306001
def julMonth (jd : Int) : Int := if julE jd < 14 then julE jd - 1 else julE jd - 13
def julFrom (jd : Int) : Int × Int × Int := (if julMonth jd > 2 then julC jd - 4716 else julC jd - 4715, julMonth jd, jd + 1524 - 1461 * julC jd / 4 - 306001 * julE jd / 10000)

theorem c_julLeap : Con w loose mean mg mb 1 143 [.int y ty] True news (RetB (julLeap y)) := by
  wtm_at "cal open"
  have hb : Binds [(Str.ofString "year", .int y ty)] := trivial
  wtm_at "cal go"
  k_steps
  all_goals wtm_at "cal end"
  all_goals wtm_at "cal div"
  all_goals rfl

end

local macro_rules | `(tactic| tm_at "cal:call ref") => `(tactic| (k_here; (with_reducible show wpAny _ _ (call (Value.ref (143 : Nat)) _) _ _ _); k_dflt (refine' con_use c_julLeap ?cB ?cF ?cX ?cN ?cT ?cK ?cp ?cd ?cu ?_); wtm_at "cal use"))

section
variable {w : World} {loose : List Str} {mean : ExcName → Option Value} {mg mb : Str → Option Value} {news : List (Addr × Obj)} {y m d : Int} {ty tm td : Tok}

theorem jul_cases (y m : Int) : (m = 2 ∧ julLeap y = true) ∨ (m = 2 ∧ julLeap y = false) ∨ ((m = 4 ∨ m = 6 ∨ m = 9 ∨ m = 11) ∧ m ≠ 2) ∨ (m ≠ 2 ∧ m ≠ 4 ∧ m ≠ 6 ∧ m ≠ 9 ∧ m ≠ 11) := by
  cases julLeap y <;> simp <;> omega

theorem c_julLen : Con w loose mean mg mb 2 150 [.int y ty, .int m tm] True news (RetI (julLen y m)) := by
  wtm_at "cal open"
  rcases jul_cases y m with ⟨h1, h2⟩ | ⟨h1, h2⟩ | ⟨h1, h2⟩ | ⟨h1, h2, h3, h4, h5⟩
  all_goals have hb : Binds [(Str.ofString "month", .int m tm), (Str.ofString "year", .int y ty)] := trivial
  all_goals wtm_at "cal go"
  all_goals k_steps
  all_goals wtm_at "cal end"
  all_goals wtm_at "cal div"
  all_goals (unfold julLen; (repeat' split) <;> first | rfl | contradiction | omega | simp_all)

end

local macro_rules | `(tactic| tm_at "cal:call ref") => `(tactic| (k_here; (with_reducible show wpAny _ _ (call (Value.ref (150 : Nat)) _) _ _ _); k_dflt (refine' con_use c_julLen ?cB ?cF ?cX ?cN ?cT ?cK ?cp ?cd ?cu ?_); wtm_at "cal use"))

section
variable {w : World} {loose : List Str} {mean : ExcName → Option Value} {mg mb : Str → Option Value} {news : List (Addr × Obj)} {y m d : Int} {ty tm td : Tok}

theorem c_julLegal : Con w loose mean mg mb 3 157 [.int y ty, .int m tm, .int d td] (0 < d ∧ d ≤ julLen y m) news (RetB true) := by
  wtm_at "cal open"
  have hb : Binds [(Str.ofString "day", .int d td), (Str.ofString "month", .int m tm), (Str.ofString "year", .int y ty)] := trivial
  wtm_at "cal go"
  k_steps
  all_goals wtm_at "cal end"
  all_goals wtm_at "cal div"

end

local macro_rules | `(tactic| tm_at "cal:call ref") => `(tactic| (k_here; (with_reducible show wpAny _ _ (call (Value.ref (157 : Nat)) _) _ _ _); k_dflt (refine' con_use c_julLegal ?cB ?cF ?cX ?cN ?cT ?cK ?cp ?cd ?cu ?_); wtm_at "cal use"))

section
variable {w : World} {loose : List Str} {mean : ExcName → Option Value} {mg mb : Str → Option Value} {news : List (Addr × Obj)} {y m d : Int} {ty tm td : Tok}

theorem c_julFrom : Con w loose mean mg mb 1 164 [.int y ty] True news (RetT3 (julFrom y)) := by
  wtm_at "cal open"
  have hb : Binds [(Str.ofString "jd", .int y ty)] := trivial
  wtm_at "cal go"
  k_steps
  all_goals wtm_at "cal end"
  all_goals wtm_at "cal div"
  all_goals (unfold julFrom julMonth julE julC; (repeat' split) <;> first | rfl | contradiction | omega | simp_all)

theorem c_julJd : Con w loose mean mg mb 4 171 [.int y ty, .int m tm, .int d td] (0 < d ∧ d ≤ julLen y m) news (RetI (julJd y m d)) := by
  wtm_at "cal open"
  have hb : Binds [(Str.ofString "day", .int d td), (Str.ofString "month", .int m tm), (Str.ofString "year", .int y ty)] := trivial
  wtm_at "cal go"
  k_steps
  all_goals wtm_at "cal end"
  all_goals wtm_at "cal div"
  all_goals (unfold julJd; (repeat' split) <;> first | rfl | contradiction | omega | simp_all)
end

local macro_rules | `(tactic| tm_at "cal:call ref") => `(tactic| (k_here; (with_reducible show wpAny _ _ (call (Value.ref (164 : Nat)) _) _ _ _); k_dflt (refine' con_use c_julFrom ?cB ?cF ?cX ?cN ?cT ?cK ?cp ?cd ?cu ?_); wtm_at "cal use"))

local macro_rules | `(tactic| tm_at "cal:call ref") => `(tactic| (k_here; (with_reducible show wpAny _ _ (call (Value.ref (171 : Nat)) _) _ _ _); k_dflt (refine' con_use c_julJd ?cB ?cF ?cX ?cN ?cT ?cK ?cp ?cd ?cu ?_); wtm_at "cal use"))


-- into a def with defaults
local macro_rules | `(tactic| wtm_at "cal goD") => `(tactic| (refine wpAny_call ?_; k_dflt (refine' cal_enter ?kb ?k1 ?k2 ?k3 ?k4 ?k5 ?kA ?kF ?kK ?k6 ?k7 ?k8 ?k9 ?kB ?_ ?c2 ?c3 ?c4 ?c5; (case kb => with_reducible assumption); (case kA => exact rfl); (case kF => exact rfl); (case kK => assumption); (case k1 => k_asm); (case k2 => k_asm); (case k3 => k_asm); (case k4 => k_asm); (case k5 => k_asm); (case k6 => k_is); (case k7 => k_is); (case k8 => ktr_room); (case k9 => exact binds_K (by k_in) rfl (by k_is) rfl rfl (by kernel_rfl)); (case kB => kernel_rfl); (case c2 => exact rfl); (case c3 => exact rfl); (case c4 => exact rfl); (case c5 => decide); wtm_at "cal in")))

section
variable {w : World} {loose : List Str} {mean : ExcName → Option Value} {mg mb : Str → Option Value} {news : List (Addr × Obj)} {y m d : Int} {ty tm td tk : Tok} {a b : Int} {ta tb : Tok}

theorem c_trunc4 : Con w loose mean mg mb 1 28 [.int a ta, .int 4 tb] (0 ≤ a) news (RetI (a / 4)) := by
  wtm_at "cal open"
  rename_i hp _ _ _
  have hb : Binds [(Str.ofString "b", .int 4 tb), (Str.ofString "a", .int a ta)] := trivial
  wtm_at "cal go"
  k_steps
  · wtm_at "cal end"
    rw [if_neg (by omega), if_neg (by decide), fdiv_lit _ (by decide)]
  · exfalso
    have h := ‹(decide (a < 0) == decide (((4:Int)) < 0)) = false›
    rw [decide_eq_false (by omega)] at h
    simp at h

theorem c_trunc1461 : Con w loose mean mg mb 1 28 [.int a ta, .int 1461 tb] (0 ≤ a) news (RetI (a / 1461)) := by
  wtm_at "cal open"
  rename_i hp _ _ _
  have hb : Binds [(Str.ofString "b", .int 1461 tb), (Str.ofString "a", .int a ta)] := trivial
  wtm_at "cal go"
  k_steps
  · wtm_at "cal end"
    rw [if_neg (by omega), if_neg (by decide), fdiv_lit _ (by decide)]
  · exfalso
    have h := ‹(decide (a < 0) == decide (((1461:Int)) < 0)) = false›
    rw [decide_eq_false (by omega)] at h
    simp at h

theorem c_trunc30 : Con w loose mean mg mb 1 28 [.int a ta, .int 30 tb] (0 ≤ a) news (RetI (a / 30)) := by
  wtm_at "cal open"
  rename_i hp _ _ _
  have hb : Binds [(Str.ofString "b", .int 30 tb), (Str.ofString "a", .int a ta)] := trivial
  wtm_at "cal go"
  k_steps
  · wtm_at "cal end"
    rw [if_neg (by omega), if_neg (by decide), fdiv_lit _ (by decide)]
  · exfalso
    have h := ‹(decide (a < 0) == decide (((30:Int)) < 0)) = false›
    rw [decide_eq_false (by omega)] at h
    simp at h

theorem c_trunc365 : Con w loose mean mg mb 1 28 [.int a ta, .int 365 tb] (0 ≤ a) news (RetI (a / 365)) := by
  wtm_at "cal open"
  rename_i hp _ _ _
  have hb : Binds [(Str.ofString "b", .int 365 tb), (Str.ofString "a", .int a ta)] := trivial
  wtm_at "cal go"
  k_steps
  · wtm_at "cal end"
    rw [if_neg (by omega), if_neg (by decide), fdiv_lit _ (by decide)]
  · exfalso
    have h := ‹(decide (a < 0) == decide (((365:Int)) < 0)) = false›
    rw [decide_eq_false (by omega)] at h
    simp at h

end

local macro_rules | `(tactic| tm_at "cal:call ref") => `(tactic| (k_here; (with_reducible show wpAny _ _ (call (Value.ref (28 : Nat)) _) _ _ _); k_dflt (first
  | refine' con_use c_trunc4 ?cB ?cF ?cX ?cN ?cT ?cK ?cp ?cd ?cu ?_
  | refine' con_use c_trunc1461 ?cB ?cF ?cX ?cN ?cT ?cK ?cp ?cd ?cu ?_
  | refine' con_use c_trunc30 ?cB ?cF ?cX ?cN ?cT ?cK ?cp ?cd ?cu ?_
  | refine' con_use c_trunc365 ?cB ?cF ?cX ?cN ?cT ?cK ?cp ?cd ?cu ?_); wtm_at "cal use"))

section
variable {w : World} {loose : List Str} {mean : ExcName → Option Value} {mg mb : Str → Option Value} {news : List (Addr × Obj)} {y m d : Int} {ty tm td tk : Tok} {a b : Int} {ta tb : Tok}

def armLeap (y : Int) : Bool := if y < 533 then false else decide (y % 4 = 0)

theorem c_armLeap : Con w loose mean mg mb 1 200 [.int y ty] True news (RetB (armLeap y)) := by
  wtm_at "cal open"
  have hb : Binds [(Str.ofString "year", .int y ty)] := trivial
  wtm_at "cal go"
  k_steps
  all_goals wtm_at "cal end"
  all_goals wtm_at "cal div"
  all_goals (unfold armLeap; split <;> first | rfl | omega)

end

local macro_rules | `(tactic| tm_at "cal:call ref") => `(tactic| (k_here; (with_reducible show wpAny _ _ (call (Value.ref (200 : Nat)) _) _ _ _); k_dflt (refine' con_use c_armLeap ?cB ?cF ?cX ?cN ?cT ?cK ?cp ?cd ?cu ?_); wtm_at "cal use"))

section
variable {w : World} {loose : List Str} {mean : ExcName → Option Value} {mg mb : Str → Option Value} {news : List (Addr × Obj)} {y m d : Int} {ty tm td tk : Tok} {a b : Int} {ta tb : Tok}

theorem c_armLenN : Con w loose mean mg mb 1 256 [.int y ty, .int m tm, .none] (m ≤ 13) news (RetI (if m = 13 then 5 else 30)) := by
  wtm_at "cal open"
  have hb : Binds [(Str.ofString "method", .none), (Str.ofString "month", .int m tm), (Str.ofString "year", .int y ty)] := trivial
  wtm_at "cal goD"
  k_steps
  all_goals wtm_at "cal end"
  · rw [if_pos (by assumption)]
  · rw [if_neg (by assumption)]

def dayMaxS (y m : Int) : Int := if m = 13 then (if armLeap y = true then 6 else 5) else 30
def dayMaxN (m : Int) : Int := if m = 13 then 5 else 30

theorem c_armLenS : Con w loose mean mg mb 2 256 [.int y ty, .int m tm, .str (Str.ofString "sarkawag") tk] (m ≤ 13) news (RetI (dayMaxS y m)) := by
  wtm_at "cal open"
  have hb : Binds [(Str.ofString "method", .str (Str.ofString "sarkawag") tk), (Str.ofString "month", .int m tm), (Str.ofString "year", .int y ty)] := trivial
  wtm_at "cal goD"
  k_steps
  all_goals wtm_at "cal end"
  · rw [dayMaxS, if_pos (by assumption), if_pos (by assumption)]
  · rw [dayMaxS, if_pos (by assumption), if_neg (by rw [‹armLeap y = false›]; exact Bool.false_ne_true)]
  · rw [dayMaxS, if_neg (by assumption)]

end

local macro_rules | `(tactic| tm_at "cal:call ref") => `(tactic| (k_here; (with_reducible show wpAny _ _ (call (Value.ref (256 : Nat)) _) _ _ _); k_dflt (first
  | refine' con_use c_armLenN ?cB ?cF ?cX ?cN ?cT ?cK ?cp ?cd ?cu ?_
  | refine' con_use c_armLenS ?cB ?cF ?cX ?cN ?cT ?cK ?cp ?cd ?cu ?_); wtm_at "cal use"))

section
variable {w : World} {loose : List Str} {mean : ExcName → Option Value} {mg mb : Str → Option Value} {news : List (Addr × Obj)} {y m d : Int} {ty tm td tk : Tok} {a b : Int} {ta tb : Tok}

/-- a date of the moving reckoning, of the fixed one -/
def validN (y m d : Int) : Prop := 1 ≤ m ∧ m ≤ 13 ∧ 1 ≤ y ∧ 1 ≤ d ∧ d ≤ dayMaxN m
def validS (y m d : Int) : Prop := 1 ≤ m ∧ m ≤ 13 ∧ 533 ≤ y ∧ 1 ≤ d ∧ d ≤ dayMaxS y m

theorem validN_cases {y m d : Int} (h : validN y m d) : (m = 13 ∧ 1 ≤ m ∧ 1 ≤ y ∧ 1 ≤ d ∧ d ≤ 5) ∨ (m ≠ 13 ∧ 1 ≤ m ∧ m ≤ 13 ∧ 1 ≤ y ∧ 1 ≤ d ∧ d ≤ 30) := by
  obtain ⟨h1, h2, h3, h4, h5⟩ := h
  unfold dayMaxN at h5
  split at h5
  · exact .inl ⟨by assumption, h1, h3, h4, h5⟩
  · exact .inr ⟨by assumption, h1, h2, h3, h4, h5⟩
theorem validS_cases {y m d : Int} (h : validS y m d) : (m = 13 ∧ armLeap y = true ∧ 1 ≤ m ∧ 533 ≤ y ∧ 1 ≤ d ∧ d ≤ 6) ∨ (m = 13 ∧ armLeap y = false ∧ 1 ≤ m ∧ 533 ≤ y ∧ 1 ≤ d ∧ d ≤ 5) ∨ (m ≠ 13 ∧ 1 ≤ m ∧ m ≤ 13 ∧ 533 ≤ y ∧ 1 ≤ d ∧ d ≤ 30) := by
  obtain ⟨h1, h2, h3, h4, h5⟩ := h
  unfold dayMaxS at h5
  split at h5
  · split at h5
    · exact .inl ⟨by assumption, by assumption, h1, h3, h4, h5⟩
    · exact .inr (.inl ⟨by assumption, Bool.eq_false_iff.mpr (by assumption), h1, h3, h4, h5⟩)
  · exact .inr (.inr ⟨by assumption, h1, h2, h3, h4, h5⟩)

theorem c_armValidN : Con w loose mean mg mb 2 193 [.int y ty, .int m tm, .int d td, .none] (validN y m d) news (RetB true) := by
  wtm_at "cal open"
  rename_i hp _ _ _
  rcases validN_cases hp with ⟨h1, h2, h3, h4, h5⟩ | ⟨h1, h2, h3, h4, h5, h6⟩
  all_goals clear hp
  all_goals have hb : Binds [(Str.ofString "method", .none), (Str.ofString "day", .int d td), (Str.ofString "month", .int m tm), (Str.ofString "year", .int y ty)] := trivial
  all_goals wtm_at "cal goD"
  all_goals k_steps
  all_goals wtm_at "cal end"
  all_goals rfl

theorem c_armValidS : Con w loose mean mg mb 2 193 [.int y ty, .int m tm, .int d td, .str (Str.ofString "sarkawag") tk] (validS y m d) news (RetB true) := by
  wtm_at "cal open"
  rename_i hp _ _ _
  rcases validS_cases hp with ⟨h1, h2, h3, h4, h5, h6⟩ | ⟨h1, h2, h3, h4, h5, h6⟩ | ⟨h1, h2, h3, h4, h5, h6⟩
  all_goals clear hp
  all_goals have hb : Binds [(Str.ofString "method", .str (Str.ofString "sarkawag") tk), (Str.ofString "day", .int d td), (Str.ofString "month", .int m tm), (Str.ofString "year", .int y ty)] := trivial
  all_goals wtm_at "cal goD"
  all_goals k_steps
  all_goals wtm_at "cal end"
  all_goals rfl

end

local macro_rules | `(tactic| tm_at "cal:call ref") => `(tactic| (k_here; (with_reducible show wpAny _ _ (call (Value.ref (193 : Nat)) _) _ _ _); k_dflt (first
  | refine' con_use c_armValidN ?cB ?cF ?cX ?cN ?cT ?cK ?cp ?cd ?cu ?_
  | refine' con_use c_armValidS ?cB ?cF ?cX ?cN ?cT ?cK ?cp ?cd ?cu ?_); wtm_at "cal use"))

section
variable {w : World} {loose : List Str} {mean : ExcName → Option Value} {mg mb : Str → Option Value} {news : List (Addr × Obj)} {y m d : Int} {ty tm td tk : Tok} {a b : Int} {ta tb : Tok}

def armJdN (y m d : Int) : Int := 1922502 + 365 * y + ((m - 1) * 30 + d)
def armJdS (y m d : Int) : Int := 2117211 + 365 * (y - 533) + (y - 533) / 4 + ((m - 1) * 30 + d)

theorem c_armJdN : Con w loose mean mg mb 3 208 [.int y ty, .int m tm, .int d td, .none] (validN y m d) news (RetI (armJdN y m d)) := by
  wtm_at "cal open"
  have hb : Binds [(Str.ofString "method", .none), (Str.ofString "day", .int d td), (Str.ofString "month", .int m tm), (Str.ofString "year", .int y ty)] := trivial
  wtm_at "cal goD"
  k_steps
  all_goals wtm_at "cal end"
  all_goals rfl

theorem c_armJdS : Con w loose mean mg mb 3 208 [.int y ty, .int m tm, .int d td, .str (Str.ofString "sarkawag") tk] (validS y m d) news (RetI (armJdS y m d)) := by
  wtm_at "cal open"
  rename_i hp _ _ _
  have hy : 0 ≤ y - 533 := by have := hp.2.2.1; omega
  have hb : Binds [(Str.ofString "method", .str (Str.ofString "sarkawag") tk), (Str.ofString "day", .int d td), (Str.ofString "month", .int m tm), (Str.ofString "year", .int y ty)] := trivial
  wtm_at "cal goD"
  k_steps
  all_goals wtm_at "cal end"
  all_goals rfl

end

local macro_rules | `(tactic| tm_at "cal:call ref") => `(tactic| (k_here; (with_reducible show wpAny _ _ (call (Value.ref (208 : Nat)) _) _ _ _); k_dflt (first
  | refine' con_use c_armJdN ?cB ?cF ?cX ?cN ?cT ?cK ?cp ?cd ?cu ?_
  | refine' con_use c_armJdS ?cB ?cF ?cX ?cN ?cT ?cK ?cp ?cd ?cu ?_); wtm_at "cal use"))

section
variable {w : World} {loose : List Str} {mean : ExcName → Option Value} {mg mb : Str → Option Value} {news : List (Addr × Obj)} {y m d : Int} {ty tm td tk : Tok} {a b : Int} {ta tb : Tok}

def armFromN (jd : Int) : Int × Int × Int := ((jd - 1922502 - 1) / 365, (jd - 1922502 - 1) % 365 / 30 + 1, jd - 1922502 - 365 * ((jd - 1922502 - 1) / 365) - 30 * ((jd - 1922502 - 1) % 365 / 30))

theorem c_armFromN : Con w loose mean mg mb 2 216 [.int y ty, .none] (1 ≤ y - 1922502) news (RetT3 (armFromN y)) := by
  wtm_at "cal open"
  rename_i hp _ _ _
  have hf : 0 ≤ (y - 1922502 - 1).fmod 365 := Int.fmod_nonneg_of_pos _ (by decide)
  have hb : Binds [(Str.ofString "method", .none), (Str.ofString "jd", .int y ty)] := trivial
  wtm_at "cal goD"
  k_steps
  all_goals wtm_at "cal end"
  all_goals wtm_at "cal div"
  all_goals rfl

def armYS (jd : Int) : Int := 4 * (jd - 2117211) / 1461
def armDS (jd : Int) : Int := jd - 2117211 - (365 * armYS jd + armYS jd / 4)
def armFromS (jd : Int) : Int × Int × Int :=
  if armDS jd = 0 then (armYS jd - 1 + 533, (366 - 1) / 30 + 1, 366 - 30 * ((366 - 1) / 30))
  else (armYS jd + 533, (armDS jd - 1) / 30 + 1, armDS jd - 30 * ((armDS jd - 1) / 30))

theorem c_armFromS : Con w loose mean mg mb 2 216 [.int y ty, .str (Str.ofString "sarkawag") tk] (0 ≤ y - 2117211) news (RetT3 (armFromS y)) := by
  wtm_at "cal open"
  rename_i hp _ _ _
  have hb : Binds [(Str.ofString "method", .str (Str.ofString "sarkawag") tk), (Str.ofString "jd", .int y ty)] := trivial
  wtm_at "cal goD"
  k_steps
  all_goals wtm_at "cal end"
  · rw [armFromS, if_pos (by assumption)]
    rfl
  · rw [armFromS, if_neg (by assumption)]
    rfl
end

local macro_rules | `(tactic| tm_at "cal:call ref") => `(tactic| (k_here; (with_reducible show wpAny _ _ (call (Value.ref (216 : Nat)) _) _ _ _); k_dflt (first
  | refine' con_use c_armFromN ?cB ?cF ?cX ?cN ?cT ?cK ?cp ?cd ?cu ?_
  | refine' con_use c_armFromS ?cB ?cF ?cX ?cN ?cT ?cK ?cp ?cd ?cu ?_); wtm_at "cal use"))

section
variable {w : World} {loose : List Str} {mean : ExcName → Option Value} {mg mb : Str → Option Value} {news : List (Addr × Obj)} {y m d : Int} {ty tm td tk : Tok}

theorem c_islToG : Con w loose mean mg mb 7 86 [.int y ty, .int m tm, .int d td] True news (RetT3 (gFrom (islJd y m d))) := by
  wtm_at "cal open"
  have hb : Binds [(Str.ofString "day", .int d td), (Str.ofString "month", .int m tm), (Str.ofString "year", .int y ty)] := trivial
  wtm_at "cal go"
  k_steps
  wtm_at "cal end"
  all_goals rfl

theorem c_islFromG : Con w loose mean mg mb 7 79 [.int y ty, .int m tm, .int d td] (0 < d ∧ d ≤ dimG y m) news (RetT3 (islFrom (gJd y m d))) := by
  wtm_at "cal open"
  have hb : Binds [(Str.ofString "day", .int d td), (Str.ofString "month", .int m tm), (Str.ofString "year", .int y ty)] := trivial
  wtm_at "cal go"
  k_steps
  wtm_at "cal end"
  all_goals rfl

theorem c_copToG : Con w loose mean mg mb 7 121 [.int y ty, .int m tm, .int d td] True news (RetT3 (gFrom (copJd y m d))) := by
  wtm_at "cal open"
  have hb : Binds [(Str.ofString "day", .int d td), (Str.ofString "month", .int m tm), (Str.ofString "year", .int y ty)] := trivial
  wtm_at "cal go"
  k_steps
  wtm_at "cal end"
  all_goals rfl

theorem c_copFromG : Con w loose mean mg mb 7 128 [.int y ty, .int m tm, .int d td] (0 < d ∧ d ≤ dimG y m) news (RetT3 (copFrom (gJd y m d))) := by
  wtm_at "cal open"
  have hb : Binds [(Str.ofString "day", .int d td), (Str.ofString "month", .int m tm), (Str.ofString "year", .int y ty)] := trivial
  wtm_at "cal go"
  k_steps
  wtm_at "cal end"
  all_goals rfl

theorem c_julToG : Con w loose mean mg mb 7 185 [.int y ty, .int m tm, .int d td] (0 < d ∧ d ≤ julLen y m) news (RetT3 (gFrom (julJd y m d))) := by
  wtm_at "cal open"
  have hb : Binds [(Str.ofString "day", .int d td), (Str.ofString "month", .int m tm), (Str.ofString "year", .int y ty)] := trivial
  wtm_at "cal go"
  k_steps
  wtm_at "cal end"
  all_goals rfl

theorem c_julFromG : Con w loose mean mg mb 7 178 [.int y ty, .int m tm, .int d td] (0 < d ∧ d ≤ dimG y m) news (RetT3 (julFrom (gJd y m d))) := by
  wtm_at "cal open"
  have hb : Binds [(Str.ofString "day", .int d td), (Str.ofString "month", .int m tm), (Str.ofString "year", .int y ty)] := trivial
  wtm_at "cal go"
  k_steps
  wtm_at "cal end"
  all_goals rfl

theorem c_armToGN : Con w loose mean mg mb 7 240 [.int y ty, .int m tm, .int d td, .none] (validN y m d) news (RetT3 (gFrom (armJdN y m d))) := by
  wtm_at "cal open"
  have hb : Binds [(Str.ofString "method", .none), (Str.ofString "day", .int d td), (Str.ofString "month", .int m tm), (Str.ofString "year", .int y ty)] := trivial
  wtm_at "cal goD"
  k_steps
  wtm_at "cal end"
  all_goals rfl

theorem c_armToGS : Con w loose mean mg mb 7 240 [.int y ty, .int m tm, .int d td, .str (Str.ofString "sarkawag") tk] (validS y m d) news (RetT3 (gFrom (armJdS y m d))) := by
  wtm_at "cal open"
  have hb : Binds [(Str.ofString "method", .str (Str.ofString "sarkawag") tk), (Str.ofString "day", .int d td), (Str.ofString "month", .int m tm), (Str.ofString "year", .int y ty)] := trivial
  wtm_at "cal goD"
  k_steps
  wtm_at "cal end"
  all_goals rfl

theorem c_armToJN : Con w loose mean mg mb 7 224 [.int y ty, .int m tm, .int d td, .none] (validN y m d) news (RetT3 (julFrom (armJdN y m d))) := by
  wtm_at "cal open"
  have hb : Binds [(Str.ofString "method", .none), (Str.ofString "day", .int d td), (Str.ofString "month", .int m tm), (Str.ofString "year", .int y ty)] := trivial
  wtm_at "cal goD"
  k_steps
  wtm_at "cal end"
  all_goals rfl

theorem c_armToJS : Con w loose mean mg mb 7 224 [.int y ty, .int m tm, .int d td, .str (Str.ofString "sarkawag") tk] (validS y m d) news (RetT3 (julFrom (armJdS y m d))) := by
  wtm_at "cal open"
  have hb : Binds [(Str.ofString "method", .str (Str.ofString "sarkawag") tk), (Str.ofString "day", .int d td), (Str.ofString "month", .int m tm), (Str.ofString "year", .int y ty)] := trivial
  wtm_at "cal goD"
  k_steps
  wtm_at "cal end"
  all_goals rfl

theorem c_armFromGN : Con w loose mean mg mb 7 248 [.int y ty, .int m tm, .int d td, .none] ((0 < d ∧ d ≤ dimG y m) ∧ 1 ≤ gJd y m d - 1922502) news (RetT3 (armFromN (gJd y m d))) := by
  wtm_at "cal open"
  have hb : Binds [(Str.ofString "method", .none), (Str.ofString "day", .int d td), (Str.ofString "month", .int m tm), (Str.ofString "year", .int y ty)] := trivial
  wtm_at "cal goD"
  k_steps
  wtm_at "cal end"
  all_goals rfl

theorem c_armFromGS : Con w loose mean mg mb 7 248 [.int y ty, .int m tm, .int d td, .str (Str.ofString "sarkawag") tk] ((0 < d ∧ d ≤ dimG y m) ∧ 0 ≤ gJd y m d - 2117211) news (RetT3 (armFromS (gJd y m d))) := by
  wtm_at "cal open"
  have hb : Binds [(Str.ofString "method", .str (Str.ofString "sarkawag") tk), (Str.ofString "day", .int d td), (Str.ofString "month", .int m tm), (Str.ofString "year", .int y ty)] := trivial
  wtm_at "cal goD"
  k_steps
  wtm_at "cal end"
  all_goals rfl

theorem c_armFromJN : Con w loose mean mg mb 7 232 [.int y ty, .int m tm, .int d td, .none] ((0 < d ∧ d ≤ julLen y m) ∧ 1 ≤ julJd y m d - 1922502) news (RetT3 (armFromN (julJd y m d))) := by
  wtm_at "cal open"
  have hb : Binds [(Str.ofString "method", .none), (Str.ofString "day", .int d td), (Str.ofString "month", .int m tm), (Str.ofString "year", .int y ty)] := trivial
  wtm_at "cal goD"
  k_steps
  wtm_at "cal end"
  all_goals rfl

theorem c_armFromJS : Con w loose mean mg mb 7 232 [.int y ty, .int m tm, .int d td, .str (Str.ofString "sarkawag") tk] ((0 < d ∧ d ≤ julLen y m) ∧ 0 ≤ julJd y m d - 2117211) news (RetT3 (armFromS (julJd y m d))) := by
  wtm_at "cal open"
  have hb : Binds [(Str.ofString "method", .str (Str.ofString "sarkawag") tk), (Str.ofString "day", .int d td), (Str.ofString "month", .int m tm), (Str.ofString "year", .int y ty)] := trivial
  wtm_at "cal goD"
  k_steps
  wtm_at "cal end"
  all_goals rfl

end

-- ints in a sequence: a list of the call's own or a written tuple
abbrev listObj (vs : List Value) (c : Nat) : Obj := { cls := .type "list", data := .seq vs.toArray c }
def SeqIn (K : Frag) (news : List (Addr × Obj)) (a : Addr) (vs : List Value) : Prop :=
  (∃ c, (a, listObj vs c) ∈ news) ∨ (∃ od c sl, K.lookup a = some ⟨.type "tuple", od, .seq vs.toArray c, sl⟩)

/-- the ints ns stand at a -/
def SeqInts (K : Frag) (news : List (Addr × Obj)) (a : Addr) (ns : List Int) : Prop := ∃ vs, IntsAre vs ns ∧ SeqIn K news a vs
theorem seq_made {K : Frag} {news : List (Addr × Obj)} {a : Addr} {vs : List Value} {ns : List Int} {c : Nat} (hm : (a, listObj vs c) ∈ news) (hi : IntsAre vs ns) : SeqInts K news a ns := ⟨vs, hi, .inl ⟨c, hm⟩⟩
theorem seq_tup {K : Frag} {news : List (Addr × Obj)} {a : Addr} {vs : List Value} {ns : List Int} {od : Option Addr} {c : Nat} {sl : Array (Option Value)} (hk : K.lookup a = some ⟨.type "tuple", od, .seq vs.toArray c, sl⟩) (hi : IntsAre vs ns) : SeqInts K news a ns := ⟨vs, hi, .inr ⟨od, c, sl, hk⟩⟩

def thirty : List Int := [354, 355, 354, 354, 355, 354, 355, 354, 354, 355, 354, 354, 355, 354, 354, 355, 354, 355, 354, 354, 355, 354, 354, 355, 354, 355, 354, 354, 355, 354]
def third : List Int := [365, 365, 366, 365]
def fourth : List Int := [365, 365, 365, 366]
def plainC : List Int := [365]

theorem seq_thirty {w : World} {news : List (Addr × Obj)} : SeqInts (hd.heap_39 w.params) news 259 thirty ∧ Challenge.rw_bn0012_01.row.prog = Challenge.rw_bn0012_01.row.prog := by
  k_fill
  exact ⟨seq_tup (by k_is) (by repeat constructor), rfl⟩
theorem seq_third {w : World} {news : List (Addr × Obj)} : SeqInts (hd.heap_39 w.params) news 260 third ∧ Challenge.rw_bn0012_01.row.prog = Challenge.rw_bn0012_01.row.prog := by
  k_fill
  exact ⟨seq_tup (by k_is) (by repeat constructor), rfl⟩
theorem seq_fourth {w : World} {news : List (Addr × Obj)} : SeqInts (hd.heap_39 w.params) news 261 fourth ∧ Challenge.rw_bn0012_01.row.prog = Challenge.rw_bn0012_01.row.prog := by
  k_fill
  exact ⟨seq_tup (by k_is) (by repeat constructor), rfl⟩
theorem seq_plain {w : World} {news : List (Addr × Obj)} : SeqInts (hd.heap_39 w.params) news 262 plainC ∧ Challenge.rw_bn0012_01.row.prog = Challenge.rw_bn0012_01.row.prog := by
  k_fill
  exact ⟨seq_tup (by k_is) (by repeat constructor), rfl⟩

local macro_rules | `(tactic| wtm_at "cal seq") => `(tactic| first
  | assumption
  | exact seq_thirty.1
  | exact seq_third.1
  | exact seq_fourth.1
  | exact seq_plain.1
  | (refine' seq_made ?zm ?zi; (case zm => k_mem); (case zi => assumption)))

theorem ints_at {vs : List Value} {ns : List Int} (h : IntsAre vs ns) {i : Nat} (hi : i < ns.length) : ∃ t, vs[i]? = some (.int (ns.getD i 0) t) := by
  refine h.get i _ ?_
  rw [List.getElem?_eq_getElem hi, List.getD_eq_getElem?_getD, List.getElem?_eq_getElem hi]
  rfl

section
variable {prog : Program} {w : World} {A : Around} {E : Value → Shared → Prop} {s : Shared} {K : Frag} {h₀ : Heap} {L a : Addr} {m : Str → Option Value} {news : List (Addr × Obj)} {vs : List Value} {ns : List Int}
theorem item_seq {value slice : PySem.Expr} {k : Int} {u : Tok} {Q : Value → Shared → Prop} (hq : SeqInts K news a ns) (X : K.In h₀) (F : Fr h₀ L s.heap m) (N : News h₀ L s.heap news)
    (h0 : 0 ≤ k) (h1 : k.toNat < ns.length) (hf : k < 2 ^ 63) (h : ∀ t, Q (.int (ns.getD k.toNat 0) t) s)
    (hs : subscripted slice false (.ref a) (.int k u) = operate [.ref a, .int k u] (getItem (.ref a) (.int k u)) := by with_unfolding_all rfl) :
    wpAny (model prog w) A (subscriptTail value slice (.ref a) (.int k u)) Q E s := by
  obtain ⟨vs, hi, hq⟩ := hq
  obtain ⟨t, ht⟩ := ints_at hi h1
  rcases hq with ⟨c, hm⟩ | ⟨od, c, sl, hk⟩
  · have hl : s.heap.IsList a vs.toArray := N.isList hm
    exact tail_any hl.typeIs slot_list_getitem.lookup (wpAny_getItem_list hl h0 hf (by simpa using ht) (h t)) hs
  · have hl : IsTup s.heap a vs.toArray := tupK X F hk
    refine item_tupleT hl (by omega) hf ?_ ht (h t) hs
    have hlen := hi.length
    unfold seqIndex?
    simp only [if_neg (Int.not_lt.mpr h0)]
    rw [if_pos (by simp only [Bool.and_eq_true, decide_eq_true_eq]; omega)]

theorem sum_seq {Q : Value → Shared → Prop} (hq : SeqInts K news a ns) (hh : A.handled = none) (X : K.In h₀) (F : Fr h₀ L s.heap m) (N : News h₀ L s.heap news)
    (h : ∀ h' tk t', Fr h₀ L h' m → News h₀ L h' news → Q (.int ns.sum t') { s with heap := h', toks := tk }) :
    wpAny (model prog w) A (call (.builtin "sum") [.ref a]) Q E s := by
  obtain ⟨vs, hi, hq⟩ := hq
  rcases hq with ⟨c, hm⟩ | ⟨od, c, sl, hk⟩
  · exact LSm.sum_ints F N hh (N.isList hm) hi h
  · have hl : s.heap.IsTuple a vs.toArray := ⟨_, F.keep _ _ (X _ _ hk), rfl, c, rfl⟩
    obtain ⟨xs, hx⟩ := hi.allInts.items
    have hn : numsOf vs.toArray.toList = ns := by rw [show vs.toArray.toList = vs from rfl, hi.numsOf]
    rw [hx] at hl hn
    rw [nums_intItems] at hn
    refine ktm_sumG hh hl fun h' tk t' hk => ?_
    have := h h' tk t' (F.keeps hk) (N.grown hk)
    rw [preSum_eq, List.take_of_length_le (by simp), hn]
    exact this

/-- one turn's end of a while over the words σ; R says which frames bear a word -/
def CalStep {σ : Type} (h₀ : Heap) (L : Addr) (s : Shared) (news : List (Addr × Obj)) (R : σ → (Str → Option Value) → Prop) (μ : σ → Nat) (P : σ → Prop) (c : σ) (f : Flow) (s₃ : Shared) : Prop :=
  f = .next ∧ ∃ c' m' h' tk, s₃ = { s with heap := h', toks := tk } ∧ Fr h₀ L h' m' ∧ R c' m' ∧ News h₀ L h' news ∧ μ c' < μ c ∧ P c'
theorem CalStep.intro {σ : Type} {news news' : List (Addr × Obj)} {R : σ → (Str → Option Value) → Prop} {μ : σ → Nat} {P : σ → Prop} {c : σ} {h' : Heap} {tk : Nat} (c' : σ) {m' : Str → Option Value} (F : Fr h₀ L h' m') (N : News h₀ L h' news') (hn : ∀ p ∈ news, p ∈ news') (hm : R c' m') (hμ : μ c' < μ c) (hP : P c') :
    CalStep h₀ L s news R μ P c .next { s with heap := h', toks := tk } := ⟨rfl, c', m', h', tk, rfl, F, hm, cb_drop N hn, hμ, hP⟩
theorem while_cal {σ : Type} {env : Env} {test : PySem.Expr} {body : List Stmt} {pos : Pos} {Q : Flow → Shared → Prop} (R : σ → (Str → Option Value) → Prop) (μ : σ → Nat) (P : σ → Prop) (c₀ : σ) (F : Fr h₀ L s.heap m) (N : News h₀ L s.heap news) (hm : R c₀ m) (hp : P c₀)
    (turn : ∀ c m' h tk, P c → R c m' → Fr h₀ L h m' → News h₀ L h news →
      wpAny (model prog w) A (isTrue test env (eval test env)) (fun b s₂ =>
        if b = true then wpAny (model prog w) A (execs body env) (CalStep h₀ L s news R μ P c) E s₂ else Q .next s₂) E { s with heap := h, toks := tk })
    (hE : PassesOwn (model prog w) A env E := by passes_own) :
    wpAny (model prog w) A (exec (.While test body [] pos) env) Q E s := by
  refine While_inv (fun n m' news' => ∃ c, news' = news ∧ R c m' ∧ n = μ c ∧ P c) F N ⟨c₀, rfl, hm, rfl, hp⟩ ?_ hE
  rintro n m₁ news₁ h tk F₁ N₁ ⟨c, rfl, hr, rfl, hc⟩
  refine wpAny_mono (turn c m₁ h tk hc hr F₁ N₁) (fun b s₂ q => ?_) fun _ _ x => x
  cases b with
  | false => simpa using q
  | true =>
    simp only [if_true] at q ⊢
    refine wpAny_mono q (fun f s₃ r => ?_) fun _ _ x => x
    obtain ⟨rfl, c', m', h', tk', rfl, F', hr', N', hμ, hP⟩ := r
    exact WhileStep.intro F' N' hμ ⟨c', rfl, hr', rfl, hP⟩
end

-- a while is met: the walk stops, I go on by hand
def CalHere (P : Prop) : Prop := P
theorem calHere {P : Prop} (h : CalHere P) : P := h

local macro_rules | `(tactic| tm_at "cal:exec While") => `(tactic| (k_here; refine calHere ?_))

theorem fm_0 {x k : Int} (h : 0 < k) : 0 ≤ x.fmod k := Int.fmod_nonneg_of_pos x h
theorem fm_n {x k : Int} {n : Nat} (h : 0 < k) (e : k = (n : Int)) : (x.fmod k).toNat < n := by
  have := Int.fmod_lt_of_pos x h
  have := Int.fmod_nonneg_of_pos x h
  omega
theorem fm_63 {x k : Int} (h : 0 < k) (e : k ≤ 2 ^ 63) : x.fmod k < 2 ^ 63 := Int.lt_of_lt_of_le (Int.fmod_lt_of_pos x h) e

local macro_rules | `(tactic| wtm_at "cal idx") => `(tactic| first | with_reducible assumption | with_reducible exact fm_0 (by decide) | with_reducible exact fm_n (by decide) (by decide) | with_reducible exact fm_63 (by decide) (by decide) | omega | (show _ < (12 : Nat); omega) | (show _ < (13 : Nat); omega) | assumption)

local macro_rules | `(tactic| tm_at "cal:subscriptTail Name Name ref int") => `(tactic| (k_here; (with_reducible show wpAny _ _ (subscriptTail _ _ (Value.ref _) (Value.int _ _)) _ _ _); k_dflt (refine' item_seq ?q ?X ?F ?N ?a ?b ?c ?_; (case F => k_asm); (case X => k_asm); (case N => k_asm); (case q => wtm_at "cal seq"); (case a => wtm_at "cal idx"); (case b => wtm_at "cal idx"); (case c => wtm_at "cal idx"); k_whole); intro t9))

local macro_rules | `(tactic| tm_at "cal:call builtin:sum") => `(tactic| (k_here; (with_reducible show wpAny _ _ (call (Value.builtin "sum") [Value.ref _]) _ _ _); k_dflt (refine' sum_seq ?q ?A ?X ?F ?N ?_; (case F => k_asm); (case X => k_asm); (case N => k_asm); (case q => wtm_at "cal seq"); (case A => with_unfolding_all rfl); k_whole); intro h9 tk9 t9 F9 N9; (try k_sweep); (try dsimp only)))

def off : Int → List Int → Nat × Int
  | r, [] => (0, r)
  | r, z :: zs => if z ≤ r then ((off (r - z) zs).1 + 1, (off (r - z) zs).2) else (0, r)

theorem off_le : ∀ (zs : List Int) (r : Int), (off r zs).1 ≤ zs.length
  | [], _ => Nat.le_refl _
  | z :: zs, r => by
    unfold off
    split
    · exact Nat.succ_le_succ (off_le zs _)
    · exact Nat.zero_le _
theorem off_step {zs : List Int} {k : Nat} (hk : k < zs.length) (r : Int) : off r (zs.drop k) =
    if zs.getD k 0 ≤ r then ((off (r - zs.getD k 0) (zs.drop (k + 1))).1 + 1, (off (r - zs.getD k 0) (zs.drop (k + 1))).2) else (0, r) := by
  have e : zs.getD k 0 = zs[k] := by rw [List.getD_eq_getElem?_getD, List.getElem?_eq_getElem hk]; rfl
  rw [e, List.drop_eq_getElem_cons hk, off]

def offR (a : Addr) (c : Nat × Int) (m : Str → Option Value) : Prop :=
  ∃ (k : Int) (tp tr : Tok), k = (c.1 : Nat) ∧ Has m [(Str.ofString "place", .int k tp), (Str.ofString "rest", .int c.2 tr), (Str.ofString "sizes", .ref a)]

section
variable {w : World} {loose : List Str} {mean : ExcName → Option Value} {mg mb : Str → Option Value} {news : List (Addr × Obj)} {y m d : Int} {ty tm td : Tok} {a : Addr} {vs : List Value} {ns : List Int}

theorem c_off (hl : ns.length < 2 ^ 40) (hq : SeqInts (hd.heap_39 w.params) news a ns) :
    Con w loose mean mg mb 1 269 [.int y ty, .ref a] ((off y ns).1 < ns.length) news (RetT2 ((off y ns).1 : Nat) (off y ns).2) := by
  wtm_at "cal open"
  rename_i hp _ _ _
  have hb : Binds [(Str.ofString "sizes", .ref a), (Str.ofString "rest", .int y ty)] := trivial
  wtm_at "cal go"
  k_steps
  unfold CalHere
  (rename Fr _ _ _ _ => F₀); (rename News _ _ _ _ => N₀)
  refine' while_cal (offR a) (fun c => ns.length - c.1) (fun c => c.1 < ns.length ∧ c.1 + (off c.2 (ns.drop c.1)).1 = (off y ns).1 ∧ (off c.2 (ns.drop c.1)).2 = (off y ns).2) (0, y) F₀ N₀ ?wm ?wp ?wt
  case wm => exact ⟨_, _, _, rfl, rfl, rfl, rfl, trivial⟩
  case wp => exact ⟨Nat.lt_of_le_of_lt (Nat.zero_le _) hp, by simp, by simp⟩
  case wt =>
    rintro ⟨k, r⟩ m9 h9 tk9 ⟨hk, hk1, hk2⟩ ⟨kv, tp, tr, hkv, hm⟩ F9 N9
    clear F₀ N₀
    replace F9 := ov_fr hm F9
    dsimp only at hk hk1 hk2 hkv F9
    subst hkv
    rw [off_step hk] at hk1 hk2
    have hlast := off_le (ns.drop (k + 1)) (r - ns.getD k 0)
    rw [List.length_drop] at hlast
    k_steps
    · have hle : ns.getD k 0 ≤ r := by
        have h := ‹ns.getD (Int.toNat (k : Int)) 0 ≤ r›
        rwa [Int.toNat_natCast] at h
      rw [if_pos hle] at hk1 hk2
      dsimp only at hk1 hk2
      (rename Fr _ _ _ _ => F₁)
      refine CalStep.intro (k + 1, r - ns.getD k 0) F₁ (by k_asm) (by wtm_at "cal sub") ⟨_, _, _, ?_, rfl, rfl, rfl, trivial⟩ ?_ ⟨?_, ?_, ?_⟩
      all_goals (dsimp only; first | omega | exact hk2)
    · have hle : ¬ ns.getD k 0 ≤ r := by
        have h := ‹¬ ns.getD (Int.toNat (k : Int)) 0 ≤ r›
        rwa [Int.toNat_natCast] at h
      rw [if_neg hle] at hk1 hk2
      dsimp only at hk1 hk2
      wtm_at "cal end"
      · omega
      · exact hk2
end

theorem off_lt : ∀ {zs : List Int} {r : Int}, r < zs.sum → 0 < zs.length → (off r zs).1 < zs.length
  | [], _, _, h0 => absurd h0 (Nat.lt_irrefl 0)
  | [z], r, h, _ => by
    simp only [List.sum_cons, List.sum_nil, Int.add_zero] at h
    unfold off
    rw [if_neg (by omega)]
    exact Nat.one_pos
  | z :: z' :: zs, r, h, _ => by
    unfold off
    split
    · exact Nat.succ_lt_succ (off_lt (by rw [List.sum_cons] at h; omega) (Nat.succ_pos _))
    · exact Nat.succ_pos _
theorem off_rest_lt : ∀ {zs : List Int} {r : Int}, (off r zs).1 < zs.length → (off r zs).2 < zs.getD (off r zs).1 0
  | [], _, h => absurd h (Nat.not_lt_zero _)
  | z :: zs, r, h => by
    unfold off at h ⊢
    split
    · rename_i hz
      rw [if_pos hz] at h
      exact off_rest_lt (Nat.lt_of_succ_lt_succ h)
    · simp only [List.getD_cons_zero]
      omega

theorem off_mod {cy : List Int} (h : 0 < cy.sum) (h' : 0 < cy.length) (x : Int) : (off (x.fmod cy.sum) cy).1 < cy.length := off_lt (Int.fmod_lt_of_pos x h) h'

section
variable {w : World} {loose : List Str} {mean : ExcName → Option Value} {mg mb : Str → Option Value} {news : List (Addr × Obj)} {y : Int} {ty : Tok} {a : Addr}
theorem c_offThirty : Con w loose mean mg mb 1 269 [.int y ty, .ref 259] ((off y thirty).1 < 30) news (RetT2 ((off y thirty).1 : Nat) (off y thirty).2) := c_off (ns := thirty) (by decide) seq_thirty.1
theorem c_offThird : Con w loose mean mg mb 1 269 [.int y ty, .ref 260] ((off y third).1 < 4) news (RetT2 ((off y third).1 : Nat) (off y third).2) := c_off (ns := third) (by decide) seq_third.1
theorem c_offFourth : Con w loose mean mg mb 1 269 [.int y ty, .ref 261] ((off y fourth).1 < 4) news (RetT2 ((off y fourth).1 : Nat) (off y fourth).2) := c_off (ns := fourth) (by decide) seq_fourth.1
theorem c_offPlain : Con w loose mean mg mb 1 269 [.int y ty, .ref 262] ((off y plainC).1 < 1) news (RetT2 ((off y plainC).1 : Nat) (off y plainC).2) := c_off (ns := plainC) (by decide) seq_plain.1
end

theorem off_thirty (x : Int) : (off (x.fmod thirty.sum) thirty).1 < 30 := off_mod (cy := thirty) (by decide) (by decide) x
theorem off_third (x : Int) : (off (x.fmod third.sum) third).1 < 4 := off_mod (cy := third) (by decide) (by decide) x
theorem off_fourth (x : Int) : (off (x.fmod fourth.sum) fourth).1 < 4 := off_mod (cy := fourth) (by decide) (by decide) x
theorem off_plain (x : Int) : (off (x.fmod plainC.sum) plainC).1 < 1 := off_mod (cy := plainC) (by decide) (by decide) x

local macro_rules | `(tactic| wtm_at "cal pre") => `(tactic| first | exact off_thirty _ | exact off_third _ | exact off_fourth _ | exact off_plain _)

local macro_rules | `(tactic| tm_at "cal:call ref") => `(tactic| (k_here; (with_reducible show wpAny _ _ (call (Value.ref (269 : Nat)) _) _ _ _); k_dflt (first
  | refine' con_use c_offThirty ?cB ?cF ?cX ?cN ?cT ?cK ?cp ?cd ?cu ?_
  | refine' con_use c_offThird ?cB ?cF ?cX ?cN ?cT ?cK ?cp ?cd ?cu ?_
  | refine' con_use c_offFourth ?cB ?cF ?cX ?cN ?cT ?cK ?cp ?cd ?cu ?_
  | refine' con_use c_offPlain ?cB ?cF ?cX ?cN ?cT ?cK ?cp ?cd ?cu ?_); wtm_at "cal use"))

def RetL (ns : List Int) : RetTy := fun h₀ L m news s Q =>
  ∀ (S : Addr) (vs : List Value) (c : Nat) (h' : Heap) (tk' : Nat), Fr h₀ L h' m → News h₀ L h' ((S, listObj vs c) :: news) → AllLt S news → IntsAre vs ns → Q (.ref S) { s with heap := h', toks := tk' }

theorem end_L {h₀ h' : Heap} {L S : Addr} {m : Str → Option Value} {news news' : List (Addr × Obj)} {s : Shared} {Q : Value → Shared → Prop} {tk' c : Nat} {ns : List Int} {vs : List Value} (hret : RetL ns h₀ L m news s Q) (F : Fr h₀ L h' m)
    (N : News h₀ L h' news') (hS : (S, listObj vs c) ∈ news') (hn : ∀ p ∈ news, p ∈ news') (hl : AllLt S news) (hi : IntsAre vs ns) : Q (.ref S) { s with heap := h', toks := tk' } := by
  refine hret S vs c h' tk' F (fun p hp => ?_) hl hi
  rcases List.mem_cons.mp hp with rfl | hp
  · exact N _ hS
  · exact N p (hn p hp)

def sizes0 (z : Int) : List Int := [30, 29, 30, 29, 30, 29, 30, 29, 30, 29, 30, z - 325]
def sizes1 (z : Int) : List Int := [30, 30, 30, 30, 30, 30, 30, 30, 30, 30, 30, 30, z - 360]
def sizes2 (z : Int) : List Int := [31, z - 337, 31, 30, 31, 30, 31, 31, 30, 31, 30, 31]

section
variable {w : World} {loose : List Str} {mean : ExcName → Option Value} {mg mb : Str → Option Value} {news : List (Addr × Obj)} {y m d z : Int} {ty tm td tz : Tok} {a : Addr} {vs : List Value} {ns : List Int}

theorem c_sizes0 : Con w loose mean mg mb 1 276 [.int 0 ty, .int z tz] True news (RetL (sizes0 z)) := by
  wtm_at "cal open"
  have hb : Binds [(Str.ofString "size", .int z tz), (Str.ofString "kind", .int 0 ty)] := trivial
  wtm_at "cal go"
  k_steps
  refine' end_L ?h ?F ?N ?S ?n ?l ?i
  case h => assumption
  case F => k_asm
  case N => k_asm
  case S => k_mem
  case n => wtm_at "cal sub"
  case l => wtm_at "cal lt"
  case i => repeat constructor

theorem c_sizes1 : Con w loose mean mg mb 1 276 [.int 1 ty, .int z tz] True news (RetL (sizes1 z)) := by
  wtm_at "cal open"
  have hb : Binds [(Str.ofString "size", .int z tz), (Str.ofString "kind", .int 1 ty)] := trivial
  wtm_at "cal go"
  k_steps
  refine' end_L ?h ?F ?N ?S ?n ?l ?i
  case h => assumption
  case F => k_asm
  case N => k_asm
  case S => k_mem
  case n => wtm_at "cal sub"
  case l => wtm_at "cal lt"
  case i => repeat constructor

theorem c_sizes2 : Con w loose mean mg mb 1 276 [.int 2 ty, .int z tz] True news (RetL (sizes2 z)) := by
  wtm_at "cal open"
  have hb : Binds [(Str.ofString "size", .int z tz), (Str.ofString "kind", .int 2 ty)] := trivial
  wtm_at "cal go"
  k_steps
  refine' end_L ?h ?F ?N ?S ?n ?l ?i
  case h => assumption
  case F => k_asm
  case N => k_asm
  case S => k_mem
  case n => wtm_at "cal sub"
  case l => wtm_at "cal lt"
  case i => repeat constructor
end

theorem sum_sizes0 (z : Int) : (sizes0 z).sum = z := by
  simp only [sizes0, List.sum_cons, List.sum_nil]
  omega
theorem sum_sizes1 (z : Int) : (sizes1 z).sum = z := by
  simp only [sizes1, List.sum_cons, List.sum_nil]
  omega
theorem sum_sizes2 (z : Int) : (sizes2 z).sum = z := by
  simp only [sizes2, List.sum_cons, List.sum_nil]
  omega

-- behind a call that hands back a list
local macro_rules | `(tactic| wtm_at "cal ret") => `(tactic| (unfold RetL; intro S9 vs9 c9 h9 tk9 F9 N9 l9 i9; (try simp only [AllLt, and_true] at l9); (try k_sweep); (try dsimp only); (try k_fold)))

local macro_rules | `(tactic| tm_at "cal:call ref") => `(tactic| (k_here; (with_reducible show wpAny _ _ (call (Value.ref (276 : Nat)) _) _ _ _); k_dflt (first
  | refine' con_use c_sizes0 ?cB ?cF ?cX ?cN ?cT ?cK ?cp ?cd ?cu ?_
  | refine' con_use c_sizes1 ?cB ?cF ?cX ?cN ?cT ?cK ?cp ?cd ?cu ?_
  | refine' con_use c_sizes2 ?cB ?cF ?cX ?cN ?cT ?cK ?cp ?cd ?cu ?_); wtm_at "cal use"))

section
variable {w : World} {loose : List Str} {mean : ExcName → Option Value} {mg mb : Str → Option Value} {news : List (Addr × Obj)} {y z : Int} {ty : Tok} {a : Addr}
theorem c_offS0 (h : SeqInts (hd.heap_39 w.params) news a (sizes0 z)) : Con w loose mean mg mb 1 269 [.int y ty, .ref a] ((off y (sizes0 z)).1 < 12) news (RetT2 ((off y (sizes0 z)).1 : Nat) (off y (sizes0 z)).2) := c_off (ns := sizes0 z) (show 12 < 2 ^ 40 by decide) h
theorem c_offS1 (h : SeqInts (hd.heap_39 w.params) news a (sizes1 z)) : Con w loose mean mg mb 1 269 [.int y ty, .ref a] ((off y (sizes1 z)).1 < 13) news (RetT2 ((off y (sizes1 z)).1 : Nat) (off y (sizes1 z)).2) := c_off (ns := sizes1 z) (show 13 < 2 ^ 40 by decide) h
theorem c_offS2 (h : SeqInts (hd.heap_39 w.params) news a (sizes2 z)) : Con w loose mean mg mb 1 269 [.int y ty, .ref a] ((off y (sizes2 z)).1 < 12) news (RetT2 ((off y (sizes2 z)).1 : Nat) (off y (sizes2 z)).2) := c_off (ns := sizes2 z) (show 12 < 2 ^ 40 by decide) h
end

-- a rest that lies within a part of a cycle lies within that part's months
theorem off_s0 {r : Int} {cy : List Int} (h : (off r cy).1 < cy.length) : (off (off r cy).2 (sizes0 (cy.getD (off r cy).1 0))).1 < 12 := off_lt (zs := sizes0 _) (by rw [sum_sizes0]; exact off_rest_lt h) (show 0 < 12 by decide)
theorem off_s1 {r : Int} {cy : List Int} (h : (off r cy).1 < cy.length) : (off (off r cy).2 (sizes1 (cy.getD (off r cy).1 0))).1 < 13 := off_lt (zs := sizes1 _) (by rw [sum_sizes1]; exact off_rest_lt h) (show 0 < 13 by decide)
theorem off_s2 {r : Int} {cy : List Int} (h : (off r cy).1 < cy.length) : (off (off r cy).2 (sizes2 (cy.getD (off r cy).1 0))).1 < 12 := off_lt (zs := sizes2 _) (by rw [sum_sizes2]; exact off_rest_lt h) (show 0 < 12 by decide)

local macro_rules | `(tactic| wtm_at "cal pre") => `(tactic| first | exact off_s0 (by assumption) | exact off_s1 (by assumption) | exact off_s2 (by assumption))

local macro_rules | `(tactic| tm_at "cal:call ref") => `(tactic| (k_here; (with_reducible show wpAny _ _ (call (Value.ref (269 : Nat)) _) _ _ _); k_dflt (first
  | (refine' con_use (c_offS0 ?oq) ?cB ?cF ?cX ?cN ?cT ?cK ?cp ?cd ?cu ?_; (case cN => k_asm); (case oq => (refine' seq_made ?zm ?zi; (case zm => k_mem); (case zi => assumption))))
  | (refine' con_use (c_offS1 ?oq) ?cB ?cF ?cX ?cN ?cT ?cK ?cp ?cd ?cu ?_; (case cN => k_asm); (case oq => (refine' seq_made ?zm ?zi; (case zm => k_mem); (case zi => assumption))))
  | (refine' con_use (c_offS2 ?oq) ?cB ?cF ?cX ?cN ?cT ?cK ?cp ?cd ?cu ?_; (case cN => k_asm); (case oq => (refine' seq_made ?zm ?zi; (case zm => k_mem); (case zi => assumption))))); wtm_at "cal use"))

def lawPlace (day first : Int) (cy : List Int) : Nat := (off ((day - first).fmod cy.sum) cy).1
def lawSize (day first : Int) (cy : List Int) : Int := cy.getD (lawPlace day first cy) 0
def lawDoy (day first : Int) (cy : List Int) : Int := (off ((day - first).fmod cy.sum) cy).2
def lawDate (day first year : Int) (cy : List Int) (sz : Int → List Int) : Int × Int × Int :=
  (year + (day - first).fdiv cy.sum * cy.length + lawPlace day first cy, (off (lawDoy day first cy) (sz (lawSize day first cy))).1 + 1, (off (lawDoy day first cy) (sz (lawSize day first cy))).2 + 1)

abbrev pairObj (a b : Addr) (c : Nat) : Obj := { cls := .type "tuple", data := .seq #[.ref a, .ref b] c }
/-- a pair: a date, a list of ints -/
def RetDate (r : Int × Int × Int) (ns : List Int) : RetTy := fun h₀ L m news s Q =>
  ∀ (O D S : Addr) (vs : List Value) (t1 t2 t3 : Tok) (c1 c2 c3 : Nat) (h' : Heap) (tk' : Nat), Fr h₀ L h' m →
    News h₀ L h' ((O, pairObj D S c1) :: (D, tup3 r.1 r.2.1 r.2.2 t1 t2 t3 c2) :: (S, listObj vs c3) :: news) → AllLt S news → AllLt D ((S, listObj vs c3) :: news) → AllLt O ((D, tup3 r.1 r.2.1 r.2.2 t1 t2 t3 c2) :: (S, listObj vs c3) :: news) → IntsAre vs ns →
    Q (.ref O) { s with heap := h', toks := tk' }

theorem end_Date {h₀ h' : Heap} {L O D S : Addr} {m : Str → Option Value} {news news' : List (Addr × Obj)} {s : Shared} {Q : Value → Shared → Prop} {tk' c1 c2 c3 : Nat} {ns : List Int} {vs : List Value} {r : Int × Int × Int} {y m' d : Int} {t1 t2 t3 : Tok}
    (hret : RetDate r ns h₀ L m news s Q) (F : Fr h₀ L h' m) (N : News h₀ L h' news') (hO : (O, pairObj D S c1) ∈ news') (hD : (D, tup3 y m' d t1 t2 t3 c2) ∈ news') (hS : (S, listObj vs c3) ∈ news') (e : (y, m', d) = r) (hi : IntsAre vs ns) (hn : ∀ p ∈ news, p ∈ news')
    (l1 : AllLt S news) (l2 : AllLt D news) (l3 : AllLt O news) (q1 : @LT.lt Nat _ S D) (q2 : @LT.lt Nat _ D O) : Q (.ref O) { s with heap := h', toks := tk' } := by
  subst e
  refine hret O D S vs t1 t2 t3 c1 c2 c3 h' tk' F (fun p hp => ?_) l1 ⟨q1, l2⟩ ⟨q2, Nat.lt_trans q1 q2, l3⟩ hi
  rcases List.mem_cons.mp hp with rfl | hp
  · exact N _ hO
  rcases List.mem_cons.mp hp with rfl | hp
  · exact N _ hD
  rcases List.mem_cons.mp hp with rfl | hp
  · exact N _ hS
  · exact N p (hn p hp)

local macro_rules | `(tactic| wtm_at "cal endDate") => `(tactic| (refine' end_Date ?eh ?eF ?eN ?eO ?eD ?eS ?ee ?ei ?en ?e1 ?e2 ?e3 ?e4 ?e5; (case eh => assumption); (case eF => k_asm); (case eN => k_asm); (case eO => k_mem); (case eD => k_mem); (case eS => k_mem); (case en => wtm_at "cal sub"); (case e1 => wtm_at "cal lt"); (case e2 => wtm_at "cal lt"); (case e3 => wtm_at "cal lt"); (case e4 => omega); (case e5 => omega); (case ei => assumption)))

section
variable {w : World} {loose : List Str} {mean : ExcName → Option Value} {mg mb : Str → Option Value} {news : List (Addr × Obj)} {y m d z : Int} {ty tm td tz : Tok}

theorem c_dateIsl : Con w loose mean mg mb 3 283 [.int d td, .int 1948440 ty, .int 1 tm, .ref 259, .int 0 tz] True news (RetDate (lawDate d 1948440 1 thirty sizes0) (sizes0 (lawSize d 1948440 thirty))) := by
  wtm_at "cal open"
  have hb : Binds [(Str.ofString "kind", .int 0 tz), (Str.ofString "cycle", .ref 259), (Str.ofString "year", .int 1 tm), (Str.ofString "first", .int 1948440 ty), (Str.ofString "day", .int d td)] := trivial
  wtm_at "cal go"
  k_steps
  wtm_at "cal endDate"
  rfl
theorem c_dateCop : Con w loose mean mg mb 3 283 [.int d td, .int 1825030 ty, .int 1 tm, .ref 260, .int 1 tz] True news (RetDate (lawDate d 1825030 1 third sizes1) (sizes1 (lawSize d 1825030 third))) := by
  wtm_at "cal open"
  have hb : Binds [(Str.ofString "kind", .int 1 tz), (Str.ofString "cycle", .ref 260), (Str.ofString "year", .int 1 tm), (Str.ofString "first", .int 1825030 ty), (Str.ofString "day", .int d td)] := trivial
  wtm_at "cal go"
  k_steps
  wtm_at "cal endDate"
  rfl
theorem c_dateArm : Con w loose mean mg mb 3 283 [.int d td, .int 1922868 ty, .int 1 tm, .ref 262, .int 1 tz] True news (RetDate (lawDate d 1922868 1 plainC sizes1) (sizes1 (lawSize d 1922868 plainC))) := by
  wtm_at "cal open"
  have hb : Binds [(Str.ofString "kind", .int 1 tz), (Str.ofString "cycle", .ref 262), (Str.ofString "year", .int 1 tm), (Str.ofString "first", .int 1922868 ty), (Str.ofString "day", .int d td)] := trivial
  wtm_at "cal go"
  k_steps
  wtm_at "cal endDate"
  rfl
theorem c_dateSar : Con w loose mean mg mb 3 283 [.int d td, .int 2117212 ty, .int 533 tm, .ref 261, .int 1 tz] True news (RetDate (lawDate d 2117212 533 fourth sizes1) (sizes1 (lawSize d 2117212 fourth))) := by
  wtm_at "cal open"
  have hb : Binds [(Str.ofString "kind", .int 1 tz), (Str.ofString "cycle", .ref 261), (Str.ofString "year", .int 533 tm), (Str.ofString "first", .int 2117212 ty), (Str.ofString "day", .int d td)] := trivial
  wtm_at "cal go"
  k_steps
  wtm_at "cal endDate"
  rfl
theorem c_dateLat : Con w loose mean mg mb 3 283 [.int d td, .int 1721424 ty, .int 1 tm, .ref 261, .int 2 tz] True news (RetDate (lawDate d 1721424 1 fourth sizes2) (sizes2 (lawSize d 1721424 fourth))) := by
  wtm_at "cal open"
  have hb : Binds [(Str.ofString "kind", .int 2 tz), (Str.ofString "cycle", .ref 261), (Str.ofString "year", .int 1 tm), (Str.ofString "first", .int 1721424 ty), (Str.ofString "day", .int d td)] := trivial
  wtm_at "cal go"
  k_steps
  wtm_at "cal endDate"
  rfl
end

-- behind a call that hands back a date and its months
local macro_rules | `(tactic| wtm_at "cal ret") => `(tactic| (unfold RetDate; intro O9 D9 S9 vs9 t91 t92 t93 c91 c92 c93 h9 tk9 F9 N9 l9 l9b l9c i9; (try simp only [AllLt, and_true] at l9 l9b l9c); (try k_sweep); (try dsimp only); (try k_fold)))

local macro_rules | `(tactic| tm_at "cal:call ref") => `(tactic| (k_here; (with_reducible show wpAny _ _ (call (Value.ref (283 : Nat)) _) _ _ _); k_dflt (first
  | refine' con_use c_dateIsl ?cB ?cF ?cX ?cN ?cT ?cK ?cp ?cd ?cu ?_
  | refine' con_use c_dateCop ?cB ?cF ?cX ?cN ?cT ?cK ?cp ?cd ?cu ?_
  | refine' con_use c_dateArm ?cB ?cF ?cX ?cN ?cT ?cK ?cp ?cd ?cu ?_
  | refine' con_use c_dateSar ?cB ?cF ?cX ?cN ?cT ?cK ?cp ?cd ?cu ?_
  | refine' con_use c_dateLat ?cB ?cF ?cX ?cN ?cT ?cK ?cp ?cd ?cu ?_); wtm_at "cal use"))

theorem mem_hd {p : Addr × Obj} {l : List (Addr × Obj)} : p ∈ p :: l := List.Mem.head _
theorem mem_tl {p q : Addr × Obj} {l : List (Addr × Obj)} (h : p ∈ l) : p ∈ q :: l := List.Mem.tail _ h

-- membership in the ledger
local macro_rules | `(tactic| wtm_at "cal mem") => `(tactic| first
  | with_reducible assumption
  | with_reducible exact mem_hd
  | (with_reducible refine mem_tl ?_; wtm_at "cal mem"))

section
variable {prog : Program} {w : World} {A : Around} {E : Value → Shared → Prop} {s : Shared} {h₀ : Heap} {L a : Addr} {news : List (Addr × Obj)} {vs : List Value} {ns : List Int}
theorem len_made {c : Nat} {k : Int} {Q : Value → Shared → Prop} (N : News h₀ L s.heap news) (hm : (a, listObj vs c) ∈ news) (hi : IntsAre vs ns) (hk : (ns.length : Int) = k) (hf : k < 2 ^ 63)
    (h : Q (.int k (s.toks + 1)) { s with toks := s.toks + 1 + 1 }) : wpAny (model prog w) A (call (.builtin "len") [.ref a]) Q E s := by
  have e : ((vs.toArray.size : Nat) : Int) = k := by rw [List.size_toArray, hi.length, hk]
  refine Calls.call_len_list (N.isList hm) (by rw [e]; exact hf) ?_
  rw [e]
  exact h
end

local macro_rules | `(tactic| tm_at "cal:call builtin:len") => `(tactic| (k_here; (with_reducible show wpAny _ _ (call (Value.builtin "len") [Value.ref _]) _ _ _); k_dflt (refine' len_made ?N ?m ?i ?e ?f ?_; (case N => k_asm); (case m => k_mem); (case i => assumption); (case e => exact rfl); (case f => first | decide | omega | assumption); k_whole)))

-- a place of a tuple of the ledger, by a written index
local macro_rules | `(tactic| tm_at "cal:subscriptTail Name Constant ref int") => `(tactic| (k_here; (with_reducible show wpAny _ _ (subscriptTail _ _ (Value.ref _) (Value.int _ _)) _ _ _); k_dflt (refine' item_tupleT (News.isTup ?N ?m) ?lo ?hi ?j ?x ?_; (case N => k_asm); (case m => first | wtm_at "cal mem" | k_mem); (case lo => decide); (case hi => decide); (case j => exact rfl); (case x => exact rfl); k_whole)))

local macro_rules | `(tactic| tm_at "cal:subscriptTail Name BinOp ref int") => `(tactic| (k_here; (with_reducible show wpAny _ _ (subscriptTail _ _ (Value.ref _) (Value.int _ _)) _ _ _); k_dflt (refine' item_seq ?q ?X ?F ?N ?a ?b ?c ?_; (case F => k_asm); (case X => k_asm); (case N => k_asm); (case q => wtm_at "cal seq"); (case a => wtm_at "cal idx"); (case b => wtm_at "cal idx"); (case c => wtm_at "cal idx"); k_whole); intro t9))

def lawNext (r : Int × Int × Int) (ns : List Int) : Int × Int × Int :=
  if r.2.2 < ns.getD (r.2.1 - 1).toNat 0 then (r.1, r.2.1, r.2.2 + 1) else if r.2.1 < ns.length then (r.1, r.2.1 + 1, 1) else (r.1 + 1, 1, 1)

section
variable {w : World} {loose : List Str} {mean : ExcName → Option Value} {mg mb : Str → Option Value} {news : List (Addr × Obj)} {t1 t2 t3 : Tok} {r : Int × Int × Int} {D S : Addr} {c c' : Nat} {vs : List Value} {ns : List Int}

theorem c_next (hD : (D, tup3 r.1 r.2.1 r.2.2 t1 t2 t3 c) ∈ news) (hS : (S, listObj vs c') ∈ news) (hi : IntsAre vs ns) (hl : ns.length < 100) :
    Con w loose mean mg mb 1 309 [.ref D, .ref S] (1 ≤ r.2.1 ∧ r.2.1 ≤ ns.length) news (RetT3 (lawNext r ns)) := by
  wtm_at "cal open"
  rename_i hp _ _ _
  obtain ⟨hp1, hp2⟩ := hp
  have hq : SeqInts (hd.heap_39 w.params) news S ns := seq_made hS hi
  have hb : Binds [(Str.ofString "sizes", .ref S), (Str.ofString "date", .ref D)] := trivial
  wtm_at "cal go"
  k_steps
  all_goals wtm_at "cal end"
  · unfold lawNext
    rw [if_pos (by assumption)]
  · unfold lawNext
    rw [if_neg (by assumption), if_pos (by assumption)]
  · unfold lawNext
    rw [if_neg (by assumption), if_neg (by assumption)]
end

-- a comprehension over a tuple of ints of the ledger, with one test: [x for x in (4, 100, 400) if ..]
def CalSame (h₀ : Heap) (L : Addr) (m : Str → Option Value) (s₁ : Shared) (its : List (Addr × Obj)) (s' : Shared) : Prop := ∃ h' tk', s' = { s₁ with heap := h', toks := tk' } ∧ Fr h₀ L h' m ∧ News h₀ L h' its
def CalElt (h₀ : Heap) (L : Addr) (m : Str → Option Value) (s₁ : Shared) (its : List (Addr × Obj)) (k : Int) (y : Value) (s' : Shared) : Prop := (∃ t, y = .int k t) ∧ CalSame h₀ L m s₁ its s'
def CalTest (prog : Program) (w : World) (A : Around) (E : Value → Shared → Prop) (cenv : Env) (elt : PySem.Expr) (h₀ : Heap) (L : Addr) (m : Str → Option Value) (s₁ : Shared) (its : List (Addr × Obj)) (k : Int) (b : Bool) (ok : Bool) (s' : Shared) : Prop :=
  ok = b ∧ CalSame h₀ L m s₁ its s' ∧ (ok = true → wpAny (model prog w) A (eval elt cenv) (CalElt h₀ L m s₁ its k) E s')
/-- what is wanted behind the source -/
def CalSrc (prog : Program) (w : World) (A : Around) (ct elt : PySem.Expr) (scope : Scope) (cl : List (Str × Addr)) (env : Env) (x : Str) (h₀ : Heap) (L : Addr) (m : Str → Option Value) (p : Int → Bool) (Q : Value → Shared → Prop) (xv : Value) (s₁ : Shared) : Prop :=
  ∃ (ax : Addr) (vs : List Value) (c : Nat) (ns : List Int) (news : List (Addr × Obj)), xv = .ref ax ∧ A.handled = none ∧ Fr h₀ L s₁.heap m ∧ News h₀ L s₁.heap news ∧ (ax, ({ cls := .type "tuple", data := .seq vs.toArray c } : Obj)) ∈ news ∧ IntsAre vs ns ∧ vs.length ≤ sizeLine ∧
    (∀ k t I oI C oC D oD m₂ h tk (E' : Value → Shared → Prop), k ∈ ns → LCg.NsObj oC m₂ → m₂ x = some (.int k t) → Fr h₀ L h m → News h₀ L h ((I, oI) :: (C, oC) :: (D, oD) :: news) →
      wpAny (model prog w) A (isTrue ct (compEnvC scope cl C env) (eval ct (compEnvC scope cl C env))) (CalTest prog w A E' (compEnvC scope cl C env) elt h₀ L m s₁ ((I, oI) :: (C, oC) :: (D, oD) :: news) k (p k)) E' { s₁ with heap := h, toks := tk }) ∧
    (∀ D us h' tk, Fr h₀ L h' m → News h₀ L h' ((D, LCg.lst us) :: news) → IntsAre us (ns.filter p) → Q (.ref D) { s₁ with heap := h', toks := tk })

section
variable {prog : Program} {w : World} {A : Around} {E : Value → Shared → Prop} {s : Shared} {h₀ : Heap} {L : Addr} {m : Str → Option Value} {env : Env}
theorem comp_cal {ct elt iter : PySem.Expr} {x : Str} {px : Pos} {scope : Scope} {cl : List (Str × Addr)} {pos : Pos} {Q : Value → Shared → Prop} (p : Int → Bool) (_F₀ : Fr h₀ L s.heap m)
    (hclos : closureFor scope env = pure cl) (hcell : ∀ y ∈ scope.names, y.2 ≠ .cell) (hkind : scope.kind = .function)
    (hnames : ∀ y ∈ scope.names, y.2 = .local → scope.names.lookup y.1 = some .local) (hx : scope.names.lookup x = some .local)
    (h : wpAny (model prog w) A (eval iter env) (CalSrc prog w A ct elt scope cl env x h₀ L m p Q) E s)
    (hs : ∀ x, foldedSetIterable iter env x = pure x := by intro _; rfl) :
    wpAny (model prog w) A (eval (.ListComp elt [⟨.Name x px, iter, [ct], 0⟩] scope pos) env) Q E s := by
  rw [eval_ListComp]
  refine wpAny_comprehension_free (use := none) rfl hs hclos hkind hnames (wpAny_mono h (fun xv s₁ h₁ => ?_) fun _ _ e => e)
  obtain ⟨ax, vs, c, ns, news, rfl, hh, F, N, hm, hi, hsz, turn, fin⟩ := h₁
  have hl : s₁.heap.IsTuple ax vs.toArray := ⟨_, (N _ hm).1, rfl, c, rfl⟩
  have hlt : ax < s₁.heap.objs.size := Heap.lt_size (N _ hm).1
  refine wpAny_pyIter_tuple hl ?_
  have up : ∀ b o, s₁.heap.get? b = some o → (s₁.heap.push { cls := .type "tuple_iterator", data := .fields #[.ref ax, .int 0 0] }).get? b = some o := fun b o e => Heap.get?_push_of_some _ e
  have rest : ∀ (s₂ : Shared), (∃ g, s₂ = { s₁ with heap := g }) → ∀ (n i : Nat) (ys : List Value), i + n = ns.length → IntsAre ys ((ns.take i).filter p) →
      LCt.CompRestT prog w A h₀ L m env ct elt x scope cl s₂ (fun nw => nw = news) (fun i v => vs.toArray[i]? = some v) (fun us nw => nw = news ∧ IntsAre us (ns.filter p)) n i ys news := by
    rintro s₂ ⟨g, rfl⟩ n
    induction n with
    | zero =>
      intro i ys hn hy
      refine LCt.CompRestT.zero ⟨rfl, ?_⟩
      have hi' : ns.take i = ns := List.take_of_length_le (by omega)
      rw [hi'] at hy
      exact hy
    | succ n ih =>
      intro i ys hn hy
      refine LCt.CompRestT.succ ?_
      intro v I oI C oC D m₂ h' tk E' hv hC hx' F' N' off ne
      have hlt' : i < ns.length := by omega
      obtain ⟨t, ht⟩ := hi.get i ns[i] (List.getElem?_eq_getElem hlt')
      have hv' : v = .int ns[i] t := by
        have : vs[i]? = some v := by simpa using hv
        rw [ht] at this
        exact (Option.some.inj this).symm
      subst hv'
      have hstep : (ns.take (i + 1)).filter p = (ns.take i).filter p ++ [ns[i]].filter p := by
        rw [List.take_add_one, List.getElem?_eq_getElem hlt', List.filter_append]
        rfl
      refine wpAny_mono (turn ns[i] t I oI C oC D (LCg.lst ys) m₂ h' tk E' (List.getElem_mem hlt') hC hx' F' N') (fun ok s' q => ?_) fun _ _ e => e
      obtain ⟨hok, same, helt⟩ := q
      cases ok with
      | true =>
        simp only [if_true]
        refine wpAny_mono (helt rfl) (fun y s₃ q => ?_) fun _ _ e => e
        obtain ⟨⟨ty, rfl⟩, h₃, tk₃, rfl, F₃, N₃⟩ := q
        refine ⟨h₃, tk₃, news, rfl, F₃, N₃, off, rfl, ih (i + 1) _ (by omega) ?_⟩
        rw [hstep]
        refine hy.append ?_
        rw [List.filter_cons, if_pos hok.symm]
        exact .cons _ _ .nil
      | false =>
        simp only [Bool.false_eq_true, if_false]
        obtain ⟨h₃, tk₃, rfl, F₃, N₃⟩ := same
        refine ⟨h₃, tk₃, news, rfl, F₃, N₃, off, rfl, ih (i + 1) _ (by omega) ?_⟩
        rw [hstep, List.filter_cons, if_neg (by rw [← hok]; exact Bool.false_ne_true), List.filter_nil, List.append_nil]
        exact hy
  have hsize : vs.toArray.size = ns.length := by rw [List.size_toArray, hi.length]
  refine LCt.block_T (S := fun nw => nw = news) (Walks.tuple hh s₁.heap.objs.size ax (Nat.ne_of_lt hlt) vs.toArray) (by rw [List.size_toArray]; exact hsz) (fun i h st => by obtain ⟨o, e, _⟩ := st.1; exact ⟨o, e⟩)
    (fun i h h' o nw st e e' _ N' hS => ⟨by obtain ⟨o', q, r⟩ := st.1; rw [e] at q; cases q; exact ⟨o, e', r⟩, by subst hS; exact ⟨_, (N' _ hm).1, rfl, c, rfl⟩⟩)
    hcell hkind hx ⟨⟨_, Heap.get?_push_size _ rfl, rfl, rfl⟩, ⟨_, up _ _ (N _ hm).1, rfl, c, rfl⟩⟩ (fun b hb => ?_)
    (F.keeps up) (N.grown up) (Nat.ne_of_lt F.ns.lt) (next_is_new F) (fun p hp => Nat.ne_of_lt (Heap.lt_size (N p hp).1)) rfl
    (rest _ ⟨_, rfl⟩ _ 0 [] (by rw [hsize, Nat.zero_add]) .nil) ?_
  · show b < (s₁.heap.push _).objs.size
    rw [Heap.size_push]
    rcases List.mem_cons.mp hb with rfl | hb
    · exact Nat.lt_succ_self _
    · rw [List.mem_singleton.mp hb]; exact Nat.lt_succ_of_lt hlt
  · intro D C h' tk m' ys news' F' N' o1 hn hC₀ hD₀ hCL hDL hCD offC fin'
    obtain ⟨rfl, hys⟩ := fin'
    refine ⟨m', hn, fun h'' hs'' => fin D ys h'' tk (F'.change hs'' hCL hC₀) (fun q hq => ?_) hys⟩
    refine ⟨hs''.extBut _ _ ?_ (N' q hq).1, (N' q hq).2⟩
    rcases List.mem_cons.mp hq with rfl | hq
    · exact Ne.symm hCD
    · exact offC q hq
end

-- into a def that has a name its comprehension reads
local macro_rules | `(tactic| wtm_at "cal goC") => `(tactic| (refine wpAny_call ?_; k_dflt (refine' code_defC ?k1 ?k2 ?k3 ?k4 ?k5 ?kA ?kF ?kK ?k6 ?k7 ?k8 ?k9 ?kB ?kD ?_ ?c2 ?c3 ?c4; (case kA => exact rfl); (case kF => exact rfl); (case kK => assumption); (case k1 => k_asm); (case k2 => k_asm); (case k3 => k_asm); (case k4 => k_asm); (case k5 => k_asm); (case k6 => k_is); (case k7 => k_is); (case k8 => ktr_room); (case k9 => exact BindsTo.of_eq rfl); (case kB => exact rfl); (case kD => decide +kernel); (case c2 => exact rfl); (case c3 => exact rfl); (case c4 => exact rfl); k_whole; intro g' L' h' tk' cells' FG' F' N' Y' B' X' T' l1; (try k_lt l1); k_cells Y'; (try simp only [List.cons_append, List.nil_append] at N'); (try dsimp only); (try k_lift B'); (try k_fold))))

local macro_rules | `(tactic| tm_at "cal:eval ListComp") => `(tactic| (k_here; refine calHere ?_))

def gLen (y : Int) : Int := if isleap y = true then 366 else 365

theorem year_len (y : Int) : 365 + (([4, 100, 400].filter fun k => decide (y.fmod k = 0)).length : Int).fmod 2 = gLen y := by
  have e4 : y.fmod 4 = y % 4 := fmod_lit y (by decide)
  have e100 : y.fmod 100 = y % 100 := fmod_lit y (by decide)
  have e400 : y.fmod 400 = y % 400 := fmod_lit y (by decide)
  simp only [List.filter_cons, List.filter_nil, e4, e100, e400, gLen, isleap]
  by_cases h4 : y % 4 = 0 <;> by_cases h100 : y % 100 = 0 <;> by_cases h400 : y % 400 = 0 <;> simp [h4, h100, h400] <;> omega

section
variable {w : World} {loose : List Str} {mean : ExcName → Option Value} {mg mb : Str → Option Value} {news : List (Addr × Obj)} {y m d : Int} {ty tm td : Tok}

theorem c_year : Con w loose mean mg mb 1 295 [.int y ty] True news (RetI (gLen y)) := by
  wtm_at "cal open"
  wtm_at "cal goC"
  k_steps
  unfold CalHere
  refine comp_cal (fun k => decide (y.fmod k = 0)) (by k_asm) (by with_unfolding_all rfl) (by decide) (by rfl) (by decide) (by rfl) ?_
  k_steps
  refine ⟨_, _, _, [4, 100, 400], _, rfl, rfl, by k_asm, by k_asm, by k_mem, by repeat constructor, Nat.le_of_ble_eq_true rfl, ?_, ?_⟩
  · intro k t I oI C oC D oD m₂ h9 tk9 E9 hk hC hx F9 N9
    have hk0 : 0 < k := by
      simp only [List.mem_cons, List.not_mem_nil, or_false] at hk
      omega
    clear hk
    k_steps
    refine ⟨rfl, ⟨_, _, rfl, by k_asm, by k_asm⟩, fun _ => ?_⟩
    k_steps
    exact ⟨⟨_, rfl⟩, _, _, rfl, by k_asm, by k_asm⟩
  · intro D us h9 tk9 F9 N9 hi
    have hL : ([4, 100, 400].filter fun k => decide (y.fmod k = 0)).length ≤ 3 := List.length_filter_le _ _
    k_steps
    wtm_at "cal end"
    law_clear
    exact year_len y
end

local macro_rules | `(tactic| tm_at "cal:call ref") => `(tactic| (k_here; (with_reducible show wpAny _ _ (call (Value.ref (295 : Nat)) _) _ _ _); k_dflt (refine' con_use c_year ?cB ?cF ?cX ?cN ?cT ?cK ?cp ?cd ?cu ?_); wtm_at "cal use"))

/-- one turn's end of a for whose ledger stays -/
def CalTurn (h₀ : Heap) (L : Addr) (J : (Str → Option Value) → Prop) (need : List (Addr × Obj)) (s₁ : Shared) (Q : Flow → Shared → Prop) (f : Flow) (s₂ : Shared) : Prop :=
  match f with
  | .ret v => Q (.ret v) s₂
  | .brk => Q .next s₂
  | _ => ∃ h' tk m', s₂ = { s₁ with heap := h', toks := tk } ∧ Fr h₀ L h' m' ∧ News h₀ L h' need ∧ J m'
theorem CalTurn.next {h₀ h' : Heap} {L : Addr} {J : (Str → Option Value) → Prop} {need news' : List (Addr × Obj)} {s₁ : Shared} {Q : Flow → Shared → Prop} {tk : Nat} {m' : Str → Option Value} (F : Fr h₀ L h' m') (N : News h₀ L h' news') (hn : ∀ p ∈ need, p ∈ news') (hj : J m') :
    CalTurn h₀ L J need s₁ Q .next { s₁ with heap := h', toks := tk } := ⟨h', tk, m', rfl, F, cb_drop N hn, hj⟩

section
variable {prog : Program} {w : World} {A : Around} {E : Value → Shared → Prop} {s : Shared} {env : Env} {h₀ : Heap} {x : Str} {body : List Stmt} {target : PySem.Expr} {Q : Flow → Shared → Prop}
theorem range_cal {r : Addr} {a₀ b₀ c : Int} {t₀ u₀ v₀ : Tok} {n : Nat} {m₀ : Str → Option Value} {news : List (Addr × Obj)} (J : Nat → (Str → Option Value) → Prop)
    (hh : A.handled = none) (hr : IsRange s.heap r a₀ b₀ c t₀ u₀ v₀) (hsmall : Builtin.Range.small a₀ b₀ c = true) (hn : Builtin.Range.rangeSize a₀ b₀ c = (n : Int)) (F : Fr h₀ env.locals s.heap m₀) (N : News h₀ env.locals s.heap news) (hj : J 0 m₀)
    (turn : ∀ (i : Nat) t m₁ h tk own, i < n → J i m₁ → Fr h₀ env.locals h (fun y => if y = x then some (.int (a₀ + i * c) t) else m₁ y) → News h₀ env.locals h (own ++ news) →
      wpAny (model prog w) A (execs body env) (CalTurn h₀ env.locals (J (i + 1)) (own ++ news) { s with heap := h, toks := tk } Q) E { s with heap := h, toks := tk })
    (done : ∀ m₁ h tk, J n m₁ → Fr h₀ env.locals h m₁ → News h₀ env.locals h news → Q .next { s with heap := h, toks := tk }) :
    wpAny (model prog w) A (pyIter (.ref r)) (fun it s₂ => LoopAtV prog w A h₀ env x body Q E it s₂) E s := by
  refine wpAny_pyIter_range hr hsmall ?_
  have W := (Walks.range (prog := prog) (w := w) hh s.heap.objs.size a₀ c n).bound
  have out : ∀ p ∈ news, p.1 ∉ [s.heap.objs.size] := fun p hp hI => absurd (Heap.lt_size (N p hp).1) ((List.mem_singleton.mp hI) ▸ Nat.lt_irrefl _)
  refine loop_invN (fun i m nx => nx = news ∧ J i m) W (fun hm => absurd F.ns.lt ((List.mem_singleton.mp hm) ▸ Nat.lt_irrefl _)) (fun b hb => by rw [List.mem_singleton.mp hb]; exact next_is_new F) out out (by show IsRangeIter _ _ _ _ _; rw [hn]; simpa using Heap.get?_push_size _ rfl)
    (F.push _) (fun p hp => ⟨Heap.get?_push_of_some _ (N p hp).1, (N p hp).2⟩) ⟨rfl, hj⟩ ?_ ?_
  · rintro i v m₁ news₁ h tk own hin ⟨_, t, rfl⟩ _ _ ⟨rfl, hJ⟩ F₁ N₁
    refine wpAny_mono (turn i t m₁ h tk own hin hJ F₁ (fun p hp => N₁ p ((List.mem_append.mp hp).elim (fun q => List.mem_append_right _ q) (fun q => List.mem_append_left _ q)))) (fun f s₂ p => ?_) fun _ _ e => e
    have fin : (∃ h' tk' m', s₂ = { ({ s with heap := h, toks := tk } : Shared) with heap := h', toks := tk' } ∧ Fr h₀ env.locals h' m' ∧ News h₀ env.locals h' (own ++ news₁) ∧ J (i + 1) m') → InvEndN h₀ env.locals (fun m nx => nx = news₁ ∧ J (i + 1) m) own (news₁.map (·.1)) { s with heap := h, toks := tk } s₂ := by
      rintro ⟨h', tk', m', e, F', N', hj'⟩
      exact ⟨h', tk', m', own ++ news₁, news₁, e, F', N', fun p hp => List.mem_append_right _ hp, fun p hp => List.mem_append_left _ hp, rfl, rfl, hj'⟩
    cases f with
    | ret v => exact p
    | brk => exact p
    | next => exact fin p
    | cont => exact fin p
  · rintro m₁ nx h tk ⟨rfl, hJ⟩ F₁ N₁
    exact done m₁ h tk hJ F₁ N₁

theorem tup_cal1 {ax : Addr} {lo : Obj} {vs : List Value} {n : Nat} {m₀ : Str → Option Value} {news : List (Addr × Obj)} (J : Nat → (Str → Option Value) → Prop)
    (hh : A.handled = none) (F : Fr h₀ env.locals s.heap m₀) (N : News h₀ env.locals s.heap news) (hm : (ax, lo) ∈ news) (hc : lo.cls = .type "tuple") (hd : lo.data = .seq vs.toArray n) (hj : J 0 m₀)
    (turn : ∀ (i : Nat) v m₁ h tk I o, vs[i]? = some v → J i m₁ → Fr h₀ env.locals h m₁ → News h₀ env.locals h ((I, o) :: news) →
      wpAny (model prog w) A (assign target env v) (fun _ s₂ => wpAny (model prog w) A (execs body env) (CalTurn h₀ env.locals (J (i + 1)) ((I, o) :: news) { s with heap := h, toks := tk } Q) E s₂) E { s with heap := h, toks := tk })
    (done : ∀ m₁ h tk, J vs.length m₁ → Fr h₀ env.locals h m₁ → News h₀ env.locals h news → Q .next { s with heap := h, toks := tk }) :
    wpAny (model prog w) A (pyIter (.ref ax)) (fun it s₂ => TurnsAt prog w A h₀ env target body Q E it s₂) E s := by
  refine iter_tupTurns hh F N hm hc hd fun I hI => ?_
  have main : ∀ (us : List Value) (i : Nat) (m₁ : Str → Option Value), i + us.length = vs.length → vs.drop i = us → J i m₁ → ItemsRest prog w A E h₀ env target body Q s [(I, "tuple_iterator")] [(ax, lo)] (us.map .val) m₁ news := by
    intro us
    induction us with
    | nil =>
      intro i m₁ hlen _ hJ
      have hi : i = vs.length := hlen
      exact ItemsRest.zero fun h tk F₁ N₁ => done m₁ h tk (hi ▸ hJ) F₁ N₁
    | cons v us ih =>
      intro i m₁ hlen hdrop hJ
      have hv : vs[i]? = some v := by
        have := congrArg List.head? hdrop
        simpa using this
      have hd' : vs.drop (i + 1) = us := by
        have := congrArg List.tail hdrop
        simpa using this
      refine ItemsRest.val fun h tk F₁ => ?_
      intro o ho N₁
      refine wpAny_mono (turn i v m₁ h tk I o hv hJ F₁ N₁) (fun _ s₂ p => wpAny_mono p (fun f s₃ q => ?_) fun _ _ e => e) fun _ _ e => e
      have fin : (∃ h' tk' m', s₃ = { ({ s with heap := h, toks := tk } : Shared) with heap := h', toks := tk' } ∧ Fr h₀ env.locals h' m' ∧ News h₀ env.locals h' ([(I, o)] ++ news) ∧ J (i + 1) m') →
          UnrEndW h₀ env.locals { s with heap := h, toks := tk } [(I, o)] (fun m' n' => SubL [(ax, lo)] n' ∧ ItemsRest prog w A E h₀ env target body Q s [(I, "tuple_iterator")] [(ax, lo)] (us.map .val) m' n') s₃ := by
        rintro ⟨h', tk', m', e, F', N', hj'⟩
        refine ⟨h', tk', m', news, e, F', N', fun p hp q hq => ?_, ⟨hm, trivial⟩, ih (i + 1) m' (by rw [List.length_cons] at hlen; omega) hd' hj'⟩
        rw [List.mem_singleton.mp hq]
        exact Nat.ne_of_lt (hI p hp)
      cases f with
      | ret v => exact q
      | brk => exact q
      | next => exact fin q
      | cont => exact fin q
  exact main vs 0 m₀ (Nat.zero_add _) rfl hj

theorem tup_cal {ax : Addr} {lo : Obj} {vs : List Value} {n : Nat} {m₀ : Str → Option Value} {news : List (Addr × Obj)} (J : Nat → (Str → Option Value) → Prop)
    (hh : A.handled = none) (F : Fr h₀ env.locals s.heap m₀) (N : News h₀ env.locals s.heap news) (hm : (ax, lo) ∈ news) (hc : lo.cls = .type "tuple") (hd : lo.data = .seq vs.toArray n) (hj : J 0 m₀)
    (turn : ∀ (i : Nat) v m₁ h tk own, vs[i]? = some v → J i m₁ → Fr h₀ env.locals h m₁ → News h₀ env.locals h (own ++ news) →
      wpAny (model prog w) A (assign target env v) (fun _ s₂ => wpAny (model prog w) A (execs body env) (CalTurn h₀ env.locals (J (i + 1)) (own ++ news) { s with heap := h, toks := tk } Q) E s₂) E { s with heap := h, toks := tk })
    (done : ∀ m₁ h tk, J vs.length m₁ → Fr h₀ env.locals h m₁ → News h₀ env.locals h news → Q .next { s with heap := h, toks := tk }) :
    wpAny (model prog w) A (pyIter (.ref ax)) (fun it s₂ => TurnsAt prog w A h₀ env target body Q E it s₂) E s :=
  tup_cal1 J hh F N hm hc hd hj (fun i v m₁ h tk I o hv hJ F₁ N₁ => turn i v m₁ h tk [(I, o)] hv hJ F₁ N₁) done
end

-- a for over a range or over tuples is met: the walk stops, I go on by hand
local macro_rules | `(tactic| tm_at "cal:pyIter ref") => `(tactic| (k_here; first
  | (with_reducible show wpAny _ _ (pyIter (Value.ref _)) (fun it s₂ => LoopAtV _ _ _ _ _ _ _ _ _ it s₂) _ _)
  | (with_reducible show wpAny _ _ (pyIter (Value.ref _)) (fun it s₂ => TurnsAt _ _ _ _ _ _ _ _ _ it s₂) _ _)); refine calHere ?_)

def rR0 (d : Int) : Int := (d - 1721426) % 146097
def rC (d : Int) : Int := min 3 (rR0 d / 36524)
def rR1 (d : Int) : Int := rR0 d - 36524 * rC d
def rK (d : Int) : Int := min 24 (rR1 d / 1461)
def rR2 (d : Int) : Int := rR1 d - 1461 * rK d
def rI (d : Int) : Int := min 3 (rR2 d / 365)
def rY0 (d : Int) : Int := 400 * ((d - 1721426) / 146097) + 1
def rYear (d : Int) : Int := rY0 d + 100 * rC d + 4 * rK d + rI d
def rDoy (d : Int) : Int := rR2 d - 365 * rI d
def rom (d : Int) : Int × Int × Int := (rYear d, (off (rDoy d) (sizes2 (gLen (rYear d)))).1 + 1, (off (rDoy d) (sizes2 (gLen (rYear d)))).2 + 1)

def romR (d : Int) : Nat → Int
  | 0 => rR0 d
  | 1 => rR1 d
  | _ => rR2 d
def romY (d : Int) : Nat → Int
  | 0 => rY0 d
  | 1 => rY0 d + 100 * rC d
  | _ => rY0 d + 100 * rC d + 4 * rK d
/-- the frame bears the rest and the year -/
def RomJ (r y : Int) (m : Str → Option Value) : Prop := ∃ t1 t2, Has m [(Str.ofString "rest", .int r t1), (Str.ofString "year", .int y t2)]
def RomI (span years r y : Int) (m : Str → Option Value) : Prop := ∃ t1 t2 t3 t4, Has m [(Str.ofString "rest", .int r t1), (Str.ofString "year", .int y t2), (Str.ofString "span", .int span t3), (Str.ofString "years", .int years t4)]

theorem rR0_pos (d : Int) : 0 ≤ rR0 d := by
  unfold rR0
  omega
theorem rR1_pos (d : Int) : 0 ≤ rR1 d := by
  have := rR0_pos d
  unfold rR1 rC
  omega

theorem rR2_pos (d : Int) : 0 ≤ rR2 d := by
  have := rR1_pos d
  unfold rR2 rK
  omega
theorem gLen_ne {y : Int} (h : y % 4 ≠ 0) : gLen y = 365 := by
  unfold gLen isleap
  simp [h]
theorem rom_len (d : Int) (i : Nat) (h : i < 3) : gLen (rY0 d + 100 * rC d + 4 * rK d + i) = 365 := by
  refine gLen_ne ?_
  unfold rY0
  omega
theorem rom_last (d : Int) : rR2 d - 365 * 3 < gLen (rY0 d + 100 * rC d + 4 * rK d + 3) := by
  have h0 := rR0_pos d
  have h0' : rR0 d < 146097 := by unfold rR0; omega
  have hc : rC d = min 3 (rR0 d / 36524) := rfl
  have h1 : rR1 d = rR0 d - 36524 * rC d := rfl
  have hk : rK d = min 24 (rR1 d / 1461) := rfl
  have h2 : rR2 d = rR1 d - 1461 * rK d := rfl
  have hY : rY0 d = 400 * ((d - 1721426) / 146097) + 1 := rfl
  generalize rY0 d = Y at *
  generalize (d - 1721426) / 146097 = q at *
  unfold gLen isleap
  split
  · omega
  · rename_i hl
    simp only [Bool.and_eq_true, Bool.or_eq_true, decide_eq_true_eq, Bool.not_eq_true', decide_eq_false_iff_not, not_and, not_or] at hl
    have h4 : (Y + 100 * rC d + 4 * rK d + 3) % 4 = 0 := by omega
    have := hl h4
    omega

local macro_rules | `(tactic| wtm_at "cal pre") => `(tactic| exact off_lt (zs := sizes2 _) (by rw [sum_sizes2]; omega) (show 0 < 12 by decide))

section
variable {w : World} {loose : List Str} {mean : ExcName → Option Value} {mg mb : Str → Option Value} {news : List (Addr × Obj)} {y m d : Int} {ty tm td : Tok}

theorem c_roman : Con w loose mean mg mb 3 302 [.int d td] True news (RetT3 (rom d)) := by
  wtm_at "cal open"
  have hb : Binds [(Str.ofString "day", .int d td)] := trivial
  wtm_at "cal go"
  k_steps
  unfold CalHere
  (rename Fr _ _ _ _ => F₀); (rename News _ _ _ _ => N₀)
  refine tup_cal (fun i m' => ∃ r y, r = romR d i ∧ y = romY d i ∧ RomJ r y m')
    (by with_unfolding_all rfl) F₀ N₀ (by k_mem) rfl rfl ?_ ?_ ?_
  · exact ⟨_, _, fmod_lit _ (by decide), by show _ = rY0 d; unfold rY0; rw [fdiv_lit _ (by decide)], _, _, rfl, rfl, trivial⟩
  · intro i v m9 h9 tk9 own hv hJ F9 N9
    obtain ⟨r, y, hr, hy, t1, t2, hm⟩ := hJ
    clear F₀ N₀
    replace F9 := ov_fr hm F9
    rcases i with _ | _ | i
    · cases hv
      have h0 := rR0_pos d
      k_steps
      unfold CalHere
      (rename Fr _ _ _ _ => F₁); (rename News _ _ _ _ => N₁)
      refine range_cal (n := 3) (fun j m' => ∃ r y, r = rR0 d - 36524 * min (j : Int) (rR0 d / 36524) ∧ y = rY0 d + 100 * min (j : Int) (rR0 d / 36524) ∧ RomI 36524 100 r y m')
        (by with_unfolding_all rfl) (by assumption) (by decide) (by decide) F₁ N₁ ⟨r, y, ?_, ?_, _, _, _, _, rfl, rfl, rfl, rfl, trivial⟩ ?_ ?_
      · rw [hr]; show rR0 d = _; omega
      · rw [hy]; show rY0 d = _; omega
      · intro j t m8 h8 tk8 own8 hj hJ8 F8 N8
        obtain ⟨r8, y8, hr8, hy8, t3, t4, t5, t6, hm8⟩ := hJ8
        clear F₁ N₁
        rw [← ov_eq hm8] at F8
        k_steps
        · refine CalTurn.next (by k_asm) (by k_asm) (by wtm_at "cal sub") ⟨_, _, ?_, ?_, _, _, _, _, rfl, rfl, rfl, rfl, trivial⟩
          all_goals (law_clear; omega)
        · refine CalTurn.next (by k_asm) (by k_asm) (by wtm_at "cal sub") ⟨_, _, ?_, ?_, _, _, _, _, rfl, rfl, rfl, rfl, trivial⟩
          all_goals (law_clear; omega)
      · intro m8 h8 tk8 hJ8 F8 N8
        obtain ⟨r8, y8, hr8, hy8, t3, t4, t5, t6, hm8⟩ := hJ8
        clear F₁ N₁
        replace F8 := ov_fr hm8 F8
        k_steps
        refine CalTurn.next (by k_asm) (by k_asm) (by wtm_at "cal sub") ⟨_, _, ?_, ?_, _, _, rfl, rfl, trivial⟩
        · rw [hr8]; rfl
        · rw [hy8]; rfl
    · cases hv
      have h0 := rR1_pos d
      k_steps
      unfold CalHere
      (rename Fr _ _ _ _ => F₁); (rename News _ _ _ _ => N₁)
      refine range_cal (n := 24) (fun j m' => ∃ r y, r = rR1 d - 1461 * min (j : Int) (rR1 d / 1461) ∧ y = (rY0 d + 100 * rC d) + 4 * min (j : Int) (rR1 d / 1461) ∧ RomI 1461 4 r y m')
        (by with_unfolding_all rfl) (by assumption) (by decide) (by decide) F₁ N₁ ⟨r, y, ?_, ?_, _, _, _, _, rfl, rfl, rfl, rfl, trivial⟩ ?_ ?_
      · rw [hr]; show rR1 d = _; omega
      · rw [hy]; show (rY0 d + 100 * rC d) = _; omega
      · intro j t m8 h8 tk8 own8 hj hJ8 F8 N8
        obtain ⟨r8, y8, hr8, hy8, t3, t4, t5, t6, hm8⟩ := hJ8
        clear F₁ N₁
        rw [← ov_eq hm8] at F8
        k_steps
        · refine CalTurn.next (by k_asm) (by k_asm) (by wtm_at "cal sub") ⟨_, _, ?_, ?_, _, _, _, _, rfl, rfl, rfl, rfl, trivial⟩
          all_goals (law_clear; omega)
        · refine CalTurn.next (by k_asm) (by k_asm) (by wtm_at "cal sub") ⟨_, _, ?_, ?_, _, _, _, _, rfl, rfl, rfl, rfl, trivial⟩
          all_goals (law_clear; omega)
      · intro m8 h8 tk8 hJ8 F8 N8
        obtain ⟨r8, y8, hr8, hy8, t3, t4, t5, t6, hm8⟩ := hJ8
        clear F₁ N₁
        replace F8 := ov_fr hm8 F8
        k_steps
        refine CalTurn.next (by k_asm) (by k_asm) (by wtm_at "cal sub") ⟨_, _, ?_, ?_, _, _, rfl, rfl, trivial⟩
        · rw [hr8]; rfl
        · rw [hy8]; rfl
    · exact absurd hv (by simp)
  · intro m9 h9 tk9 hJ F9 N9
    obtain ⟨r, y, hr, hy, t1, t2, hm⟩ := hJ
    clear F₀ N₀
    replace F9 := ov_fr hm F9
    change r = rR2 d at hr
    change y = rY0 d + 100 * rC d + 4 * rK d at hy
    subst hr hy
    k_steps
    unfold CalHere
    (rename Fr _ _ _ _ => F₂); (rename News _ _ _ _ => N₂)
    refine' while_cal (fun (i : Nat) m' => ∃ r y, r = rR2 d - 365 * i ∧ y = rY0 d + 100 * rC d + 4 * rK d + i ∧ RomJ r y m') (fun i => 3 - i) (fun i => i ≤ 3 ∧ 365 * (i : Int) ≤ rR2 d) 0 F₂ N₂ ?wm ?wp ?wt
    case wm => exact ⟨_, _, by simp, by simp, _, _, rfl, rfl, trivial⟩
    case wp => exact ⟨by decide, by have := rR2_pos d; simpa using this⟩
    case wt =>
      rintro i m8 h8 tk8 ⟨hi, hir⟩ ⟨r, y, hr, hy, t3, t4, hm8⟩ F8 N8
      clear F₂ N₂
      replace F8 := ov_fr hm8 F8
      have hlen := rom_len d i
      have hlast := rom_last d
      rw [← hy] at hlen
      k_steps
      · have hi3 : i < 3 := by
          have hge := ‹gLen y ≤ r›
          rcases Nat.lt_or_ge i 3 with h | h
          · exact h
          · have : i = 3 := by omega
            subst this
            rw [hy] at hge
            rw [hr] at hge
            have hge' : gLen (rY0 d + 100 * rC d + 4 * rK d + 3) ≤ rR2 d - 365 * 3 := hge
            exact absurd hge' (by omega)
        have hl := hlen hi3
        refine CalStep.intro (i + 1) (by k_asm) (by k_asm) (by wtm_at "cal sub") ⟨_, _, ?_, ?_, _, _, rfl, rfl, trivial⟩ ?_ ⟨?_, ?_⟩
        all_goals (have hge := ‹gLen y ≤ r›; law_clear; omega)
      · wtm_at "cal end"
        have hlt := ‹¬ gLen y ≤ r›
        have hI : (i : Int) = rI d := by
          unfold rI
          rcases Nat.lt_or_ge i 3 with h | h
          · have := hlen h
            law_clear
            omega
          · law_clear
            omega
        have hy' : y = rYear d := by unfold rYear; omega
        have hr' : r = rDoy d := by unfold rDoy; omega
        rw [hy', hr']
        rfl
end

-- ---------- the law's counting: off ----------
theorem off_eq : ∀ (zs : List Int) (r : Int), (off r zs).1 < zs.length → r = (zs.take (off r zs).1).sum + (off r zs).2
  | [], _, h => absurd h (Nat.not_lt_zero _)
  | z :: zs, r, h => by
    unfold off at h ⊢
    split
    · rename_i hz
      rw [if_pos hz] at h
      have := off_eq zs (r - z) (Nat.lt_of_succ_lt_succ h)
      simp only [List.take_succ_cons, List.sum_cons]
      omega
    · simp
theorem off_nonneg : ∀ (zs : List Int) (r : Int), 0 ≤ r → 0 ≤ (off r zs).2
  | [], _, h => h
  | z :: zs, r, h => by
    unfold off
    split
    · exact off_nonneg zs (r - z) (by omega)
    · exact h

theorem pre0 (z : Int) : ∀ q : Nat, q < 12 → ((sizes0 z).take q).sum = 29 * (q : Int) + ((q : Int) + 1) / 2
  | 0, _ => rfl | 1, _ => rfl | 2, _ => rfl | 3, _ => rfl | 4, _ => rfl | 5, _ => rfl | 6, _ => rfl | 7, _ => rfl | 8, _ => rfl | 9, _ => rfl | 10, _ => rfl | 11, _ => rfl
  | n + 12, h => absurd h (by omega)
theorem at0 (z : Int) : ∀ q : Nat, q < 12 → (sizes0 z).getD q 0 = if q = 11 then z - 325 else 30 - (q : Int) % 2
  | 0, _ => rfl | 1, _ => rfl | 2, _ => rfl | 3, _ => rfl | 4, _ => rfl | 5, _ => rfl | 6, _ => rfl | 7, _ => rfl | 8, _ => rfl | 9, _ => rfl | 10, _ => rfl | 11, _ => rfl
  | n + 12, h => absurd h (by omega)
theorem pre1 (z : Int) : ∀ q : Nat, q < 13 → ((sizes1 z).take q).sum = 30 * (q : Int)
  | 0, _ => rfl | 1, _ => rfl | 2, _ => rfl | 3, _ => rfl | 4, _ => rfl | 5, _ => rfl | 6, _ => rfl | 7, _ => rfl | 8, _ => rfl | 9, _ => rfl | 10, _ => rfl | 11, _ => rfl | 12, _ => rfl
  | n + 13, h => absurd h (by omega)
theorem at1 (z : Int) : ∀ q : Nat, q < 13 → (sizes1 z).getD q 0 = if q = 12 then z - 360 else 30
  | 0, _ => rfl | 1, _ => rfl | 2, _ => rfl | 3, _ => rfl | 4, _ => rfl | 5, _ => rfl | 6, _ => rfl | 7, _ => rfl | 8, _ => rfl | 9, _ => rfl | 10, _ => rfl | 11, _ => rfl | 12, _ => rfl
  | n + 13, h => absurd h (by omega)

-- a date's place in a cycle
structure Place (day first : Int) (cy : List Int) (p : Nat) (r : Int) : Prop where
  lt : p < cy.length
  eq : day = first + (day - first) / cy.sum * cy.sum + (cy.take p).sum + r
  nonneg : 0 ≤ r
  below : r < cy.getD p 0
theorem place_of (day first : Int) (cy : List Int) (h : 0 < cy.sum) (h' : 0 < cy.length) : Place day first cy (lawPlace day first cy) (lawDoy day first cy) := by
  have e : (day - first).fmod cy.sum = (day - first) % cy.sum := fmod_lit _ h
  have hlt := off_mod h h' (day - first)
  refine ⟨hlt, ?_, ?_, off_rest_lt hlt⟩
  · have h1 := off_eq cy _ hlt
    have h2 := Int.mul_ediv_add_emod (day - first) cy.sum
    have h3 : (day - first) / cy.sum * cy.sum = cy.sum * ((day - first) / cy.sum) := Int.mul_comm _ _
    rw [h3]
    show day = first + cy.sum * ((day - first) / cy.sum) + (cy.take (off ((day - first).fmod cy.sum) cy).1).sum + (off ((day - first).fmod cy.sum) cy).2
    rw [e] at h1 ⊢
    omega
  · exact off_nonneg cy _ (by rw [e]; exact Int.emod_nonneg _ (by omega))

-- ---------- Islamic ----------
theorem isl_leap (y : Int) : ((y * 11 + 14) % 30 < 11) ↔ 19 ≤ (3 + 11 * y) % 30 := by
  have e : y * 11 + 14 = (3 + 11 * y) + 11 := by omega
  rw [e]
  generalize 3 + 11 * y = k
  omega
theorem isl_year {y x d : Int} (h3 : 0 ≤ x) (h4 : x < 354 + (if (y * 11 + 14) % 30 < 11 then 1 else 0)) (hd : d = 354 * (y - 1) + (3 + 11 * y) / 30 + 1948440 + x) : islYear d = y := by
  have hl := isl_leap y
  have hs := Int.mul_ediv_add_emod (3 + 11 * y) 30
  have hs0 := Int.emod_nonneg (3 + 11 * y) (by decide : (30 : Int) ≠ 0)
  have hs1 := Int.emod_lt_of_pos (3 + 11 * y) (by decide : (0 : Int) < 30)
  generalize (3 + 11 * y) / 30 = b at *
  generalize (3 + 11 * y) % 30 = s at *
  have e : 30 * (d - 1948440) + 10646 = 10631 * y + (29 - s + 30 * x) := by omega
  unfold islYear
  rw [e]
  by_cases hc : (y * 11 + 14) % 30 < 11
  · rw [if_pos hc] at h4
    have := hl.mp hc
    omega
  · rw [if_neg hc] at h4
    omega
theorem isl_month {q r : Int} (h1 : 0 ≤ q) (h2 : q < 12) (h3 : 0 ≤ r) (h4 : r < if q = 11 then 30 else 30 - q % 2) :
    (if -(-2 * (29 * q + (q + 1) / 2 + r - 29) / 59) + 1 < 12 then -(-2 * (29 * q + (q + 1) / 2 + r - 29) / 59) + 1 else 12) = q + 1 := by
  obtain ⟨g, hg⟩ : ∃ g, q = 2 * g ∨ q = 2 * g + 1 := ⟨q / 2, by omega⟩
  rcases hg with rfl | rfl
  · rw [if_neg (by omega)] at h4
    have e : -2 * (29 * (2 * g) + (2 * g + 1) / 2 + r - 29) / 59 = -2 * g := by omega
    rw [e]
    split <;> omega
  · by_cases h11 : 2 * g + 1 = 11
    · have hg5 : g = 5 := by omega
      subst hg5
      split <;> omega
    · rw [if_neg h11] at h4
      have e : -2 * (29 * (2 * g + 1) + (2 * g + 1 + 1) / 2 + r - 29) / 59 = -2 * g - 1 := by omega
      rw [e]
      split <;> omega
/-- the day d lies r days within the month q (from nought) of the Islamic year y; the month has n days, the year 354 + lp -/
structure IslAt (d y : Int) (q : Nat) (r n lp : Int) : Prop where
  q12 : q < 12
  r0 : 0 ≤ r
  rn : r < n
  n11 : q = 11 → n = 29 + lp
  n0 : q ≠ 11 → n = 30 - (q : Int) % 2
  leap : (lp = 1 ∧ (y * 11 + 14) % 30 < 11) ∨ (lp = 0 ∧ ¬ (y * 11 + 14) % 30 < 11)
  eq : d = 354 * (y - 1) + (3 + 11 * y) / 30 + 1948440 + 29 * (q : Int) + ((q : Int) + 1) / 2 + r

theorem isl_rep {d y r n lp : Int} {q : Nat} (h : IslAt d y q r n lp) : islFrom d = (y, (q : Int) + 1, r + 1) ∧ islJd y ((q : Int) + 1) (r + 1) = d := by
  obtain ⟨h1, h2, h3, h4, h5, h6, hd⟩ := h
  have hJ : islJd y ((q : Int) + 1) (r + 1) = d := by
    unfold islJd
    omega
  have hl : lp = 0 ∨ lp = 1 := by omega
  have hb : r < if (q : Int) = 11 then 30 else 30 - (q : Int) % 2 := by
    split <;> omega
  have hY : islYear d = y := by
    refine isl_year (x := 29 * (q : Int) + ((q : Int) + 1) / 2 + r) (by omega) ?_ (by omega)
    have : (if (y * 11 + 14) % 30 < 11 then (1 : Int) else 0) = lp := by split <;> omega
    rw [this]
    omega
  have h0 : islJd y 1 1 = d - (29 * (q : Int) + ((q : Int) + 1) / 2 + r) := by
    unfold islJd
    omega
  have hM : islMonth d y = (q : Int) + 1 := by
    unfold islMonth
    rw [h0, show d - (29 + (d - (29 * (q : Int) + ((q : Int) + 1) / 2 + r))) = 29 * (q : Int) + ((q : Int) + 1) / 2 + r - 29 by omega]
    exact isl_month (by omega) (by omega) h2 hb
  refine ⟨?_, hJ⟩
  have hD : islJd y ((q : Int) + 1) 1 = d - r := by
    unfold islJd
    omega
  unfold islFrom
  rw [hY, hM, hD]
  simp only [Prod.mk.injEq, true_and]
  omega

def isl (d : Int) : Int × Int × Int := lawDate d 1948440 1 thirty sizes0
theorem thirty_pre : ∀ p : Fin 30, (thirty.take p).sum = 354 * ((p : Nat) : Int) + (11 * ((p : Nat) : Int) + 14) / 30 := by decide
theorem thirty_at : ∀ p : Fin 30, thirty.getD p 0 = 354 + (11 * ((p : Nat) : Int) + 25) / 30 - (11 * ((p : Nat) : Int) + 14) / 30 := by decide

theorem isl_is (d : Int) : ∃ (y : Int) (q : Nat) (r n lp : Int), IslAt d y q r n lp ∧ isl d = (y, (q : Int) + 1, r + 1) ∧ lawSize d 1948440 thirty = 354 + lp := by
  have P := place_of d 1948440 thirty (by decide) (by decide)
  have hp : lawPlace d 1948440 thirty < 30 := P.lt
  have e1 := thirty_pre ⟨_, hp⟩
  have e2 := thirty_at ⟨_, hp⟩
  have e3 := P.eq
  have e4 := P.below
  have e5 := P.nonneg
  have hz : lawSize d 1948440 thirty = thirty.getD (lawPlace d 1948440 thirty) 0 := rfl
  have hsum : thirty.sum = 10631 := by decide
  have hq : (off (lawDoy d 1948440 thirty) (sizes0 (lawSize d 1948440 thirty))).1 < 12 := off_lt (zs := sizes0 _) (by rw [sum_sizes0, hz]; exact e4) (show 0 < 12 by decide)
  have f1 := off_eq (sizes0 (lawSize d 1948440 thirty)) (lawDoy d 1948440 thirty) hq
  have f2 := off_nonneg (sizes0 (lawSize d 1948440 thirty)) _ e5
  have f3 := off_rest_lt (zs := sizes0 (lawSize d 1948440 thirty)) (r := lawDoy d 1948440 thirty) hq
  rw [pre0 _ _ hq] at f1
  rw [at0 _ _ hq] at f3
  have hi : isl d = (1 + (d - 1948440).fdiv thirty.sum * 30 + lawPlace d 1948440 thirty, ((off (lawDoy d 1948440 thirty) (sizes0 (lawSize d 1948440 thirty))).1 : Int) + 1, (off (lawDoy d 1948440 thirty) (sizes0 (lawSize d 1948440 thirty))).2 + 1) := rfl
  rw [fdiv_lit _ (by decide)] at hi
  rw [hsum] at hi e3
  rw [hi]
  generalize (off (lawDoy d 1948440 thirty) (sizes0 (lawSize d 1948440 thirty))).1 = q at *
  generalize (off (lawDoy d 1948440 thirty) (sizes0 (lawSize d 1948440 thirty))).2 = r at *
  generalize (d - 1948440) / 10631 = L at *
  generalize lawDoy d 1948440 thirty = x at *
  rw [hz] at f3 ⊢
  generalize lawPlace d 1948440 thirty = p at *
  simp only at e1 e2
  rw [e1] at e3
  rw [e2] at e4 f3 ⊢
  clear hi hz hsum P e1 e2
  have k1 : (1 + L * 30 + p) * 11 + 14 = 30 * (11 * L) + (11 * (p : Int) + 25) := by omega
  have k2 : 3 + 11 * (1 + L * 30 + (p : Int)) = 30 * (11 * L) + (11 * (p : Int) + 14) := by omega
  have k3 : ((1 + L * 30 + p) * 11 + 14) % 30 = (11 * (p : Int) + 25) % 30 := by rw [k1]; omega
  have k4 : (3 + 11 * (1 + L * 30 + (p : Int))) / 30 = 11 * L + (11 * (p : Int) + 14) / 30 := by rw [k2]; omega
  refine ⟨1 + L * 30 + p, q, r, _, (11 * (p : Int) + 25) / 30 - (11 * (p : Int) + 14) / 30, ⟨hq, f2, f3, fun h => ?_, fun h => ?_, ?_, ?_⟩, rfl, by omega⟩
  · rw [if_pos h]
    omega
  · rw [if_neg h]
  · rw [k3]
    omega
  · rw [k4]
    omega
theorem isl_at {d y r n lp : Int} {q : Nat} (h : IslAt d y q r n lp) : (sizes0 (354 + lp)).getD q 0 = n := by
  rw [at0 _ _ h.q12]
  split
  · have := h.n11 (by assumption)
    omega
  · exact (h.n0 (by assumption)).symm

theorem islFrom_eq (d : Int) : islFrom d = isl d := by
  obtain ⟨y, q, r, n, lp, h, h5, h6⟩ := isl_is d
  rw [h5]
  exact (isl_rep h).1
theorem islJd_eq (d : Int) : islJd (isl d).1 (isl d).2.1 (isl d).2.2 = d := by
  obtain ⟨y, q, r, n, lp, h, h5, h6⟩ := isl_is d
  rw [h5]
  exact (isl_rep h).2
theorem isl_month_in (d : Int) : 1 ≤ (isl d).2.1 ∧ (isl d).2.1 ≤ 12 := by
  obtain ⟨y, q, r, n, lp, h, h5, h6⟩ := isl_is d
  rw [h5]
  have := h.q12
  simp only
  omega
theorem isl_next (d : Int) : lawNext (isl d) (sizes0 (lawSize d 1948440 thirty)) = isl (d + 1) := by
  rw [← islFrom_eq (d + 1)]
  obtain ⟨y, q, r, n, lp, h, h5, h6⟩ := isl_is d
  rw [h5, h6]
  have e : ((q : Int) + 1 - 1).toNat = q := by omega
  unfold lawNext
  simp only [e]
  rw [isl_at h]
  obtain ⟨g1, g2, g3, g4, g5, g6, g7⟩ := h
  by_cases c1 : r + 1 < n
  · rw [if_pos c1]
    exact ((isl_rep (d := d + 1) ⟨g1, by omega, c1, g4, g5, g6, by omega⟩).1).symm
  · rw [if_neg c1]
    have hlen : ((sizes0 (354 + lp)).length : Int) = 12 := rfl
    rw [hlen]
    by_cases c2 : (q : Int) + 1 < 12
    · rw [if_pos c2]
      have hn := g5 (by omega)
      have hm : (q : Int) % 2 = 0 ∨ (q : Int) % 2 = 1 := by omega
      by_cases c3 : q + 1 = 11
      · have hr := (isl_rep (d := d + 1) (y := y) (q := q + 1) (r := 0) (n := 29 + lp) (lp := lp) ⟨by omega, by omega, by omega, fun _ => rfl, fun h => absurd c3 h, g6, by omega⟩).1
        rw [hr]
        simp
      · have hr := (isl_rep (d := d + 1) (y := y) (q := q + 1) (r := 0) (n := 30 - ((q + 1 : Nat) : Int) % 2) (lp := lp) ⟨by omega, by omega, by omega, fun h => absurd h c3, fun _ => rfl, g6, by omega⟩).1
        rw [hr]
        simp
    · rw [if_neg c2]
      have hq : q = 11 := by omega
      have hn := g4 hq
      have e2 : y * 11 + 14 = (3 + 11 * y) + 11 := by omega
      have e3 : 3 + 11 * (y + 1) = (3 + 11 * y) + 11 := by omega
      subst hq
      have hr := (isl_rep (d := d + 1) (y := y + 1) (q := 0) (r := 0) (n := 30) (lp := if ((y + 1) * 11 + 14) % 30 < 11 then 1 else 0) ⟨by decide, by decide, by decide, fun h => absurd h (by decide), fun _ => rfl, by split <;> omega, ?_⟩).1
      · rw [hr]
        rfl
      · rw [e3]
        rw [e2] at g6
        generalize 3 + 11 * y = k at *
        omega
theorem isl_leap_eq (d : Int) : islLeap (isl d).1 = ((sizes0 (lawSize d 1948440 thirty)).getD 11 0 == 30) := by
  obtain ⟨y, q, r, n, lp, h, h5, h6⟩ := isl_is d
  rw [h5, h6, at0 _ 11 (by decide)]
  unfold islLeap
  rcases h.leap with ⟨h1, h2⟩ | ⟨h1, h2⟩
  · rw [decide_eq_true h2, h1]; rfl
  · rw [decide_eq_false h2, h1]; rfl
theorem isl_len_eq (d : Int) : islLen (isl d).1 (isl d).2.1 = (sizes0 (lawSize d 1948440 thirty)).getD ((isl d).2.1 - 1).toNat 0 := by
  obtain ⟨y, q, r, n, lp, h, h5, h6⟩ := isl_is d
  rw [h5, h6]
  have e : ((q : Int) + 1 - 1).toNat = q := by omega
  simp only [e]
  rw [isl_at h]
  obtain ⟨g1, g2, g3, g4, g5, g6, g7⟩ := h
  unfold islLen islLeap
  simp only [decide_eq_true_eq]
  have hm : (q : Int) % 2 = 0 ∨ (q : Int) % 2 = 1 := by omega
  by_cases c : q = 11
  · have := g4 c
    split <;> omega
  · have := g5 c
    split <;> omega


-- ---------- Coptic ----------
structure CopAt (d y : Int) (q : Nat) (r n lp : Int) : Prop where
  q13 : q < 13
  r0 : 0 ≤ r
  rn : r < n
  n12 : q = 12 → n = 5 + lp
  n0 : q ≠ 12 → n = 30
  leap : (lp = 1 ∧ y % 4 = 3) ∨ (lp = 0 ∧ ¬ y % 4 = 3)
  eq : d = 365 * (y - 1) + y / 4 + 1825030 + 30 * (q : Int) + r

theorem cop_rep {d y r n lp : Int} {q : Nat} (h : CopAt d y q r n lp) : copFrom d = (y, (q : Int) + 1, r + 1) ∧ copJd y ((q : Int) + 1) (r + 1) = d := by
  obtain ⟨h1, h2, h3, h4, h5, h6, hd⟩ := h
  have hl : lp = 0 ∨ lp = 1 := by omega
  have hn : n ≤ 30 := by
    by_cases c : q = 12
    · have := h4 c
      omega
    · have := h5 c
      omega
  have hw : 30 * (q : Int) + r < 365 + lp := by
    by_cases c : q = 12
    · have := h4 c
      omega
    · omega
  have hJ : copJd y ((q : Int) + 1) (r + 1) = d := by
    unfold copJd
    omega
  have hY : copYear d = y := by
    have e : 4 * (d - 1825030) + 1463 = 1461 * y + (3 - y % 4 + 4 * (30 * (q : Int) + r)) := by omega
    unfold copYear
    rw [e]
    omega
  have hD : copJd y 1 1 = d - (30 * (q : Int) + r) := by
    unfold copJd
    omega
  refine ⟨?_, hJ⟩
  unfold copFrom
  rw [hY, hD]
  simp only [Prod.mk.injEq, true_and]
  omega

def cop (d : Int) : Int × Int × Int := lawDate d 1825030 1 third sizes1
theorem third_pre_cop : ∀ p : Fin 4, (third.take p).sum = 365 * ((p : Nat) : Int) + (((p : Nat) : Int) + 1) / 4 := by decide
theorem third_at_cop : ∀ p : Fin 4, third.getD p 0 = 365 + (((p : Nat) : Int) + 2) / 4 - (((p : Nat) : Int) + 1) / 4 := by decide
theorem cop_is (d : Int) : ∃ (y : Int) (q : Nat) (r n lp : Int), CopAt d y q r n lp ∧ cop d = (y, (q : Int) + 1, r + 1) ∧ lawSize d 1825030 third = 365 + lp ∧ y = 1 + (d - 1825030) / 1461 * 4 + lawPlace d 1825030 third := by
  have P := place_of d 1825030 third (by decide) (by decide)
  have hp : lawPlace d 1825030 third < 4 := P.lt
  have e1 := third_pre_cop ⟨_, hp⟩
  have e2 := third_at_cop ⟨_, hp⟩
  have e3 := P.eq
  have e4 := P.below
  have e5 := P.nonneg
  have hz : lawSize d 1825030 third = third.getD (lawPlace d 1825030 third) 0 := rfl
  have hsum : third.sum = 1461 := by decide
  have hq : (off (lawDoy d 1825030 third) (sizes1 (lawSize d 1825030 third))).1 < 13 := off_lt (zs := sizes1 _) (by rw [sum_sizes1, hz]; exact e4) (show 0 < 13 by decide)
  have f1 := off_eq (sizes1 (lawSize d 1825030 third)) (lawDoy d 1825030 third) hq
  have f2 := off_nonneg (sizes1 (lawSize d 1825030 third)) _ e5
  have f3 := off_rest_lt (zs := sizes1 (lawSize d 1825030 third)) (r := lawDoy d 1825030 third) hq
  rw [pre1 _ _ hq] at f1
  rw [at1 _ _ hq] at f3
  have hi : cop d = (1 + (d - 1825030).fdiv third.sum * 4 + lawPlace d 1825030 third, ((off (lawDoy d 1825030 third) (sizes1 (lawSize d 1825030 third))).1 : Int) + 1, (off (lawDoy d 1825030 third) (sizes1 (lawSize d 1825030 third))).2 + 1) := rfl
  rw [fdiv_lit _ (by decide)] at hi
  rw [hsum] at hi e3
  rw [hi]
  generalize (off (lawDoy d 1825030 third) (sizes1 (lawSize d 1825030 third))).1 = q at *
  generalize (off (lawDoy d 1825030 third) (sizes1 (lawSize d 1825030 third))).2 = r at *
  generalize (d - 1825030) / 1461 = L at *
  generalize lawDoy d 1825030 third = x at *
  rw [hz] at f3 ⊢
  generalize lawPlace d 1825030 third = p at *
  simp only at e1 e2
  rw [e1] at e3
  rw [e2] at e4 f3 ⊢
  clear hi hz hsum P e1 e2
  refine ⟨1 + L * 4 + p, q, r, _, ((p : Int) + 2) / 4 - ((p : Int) + 1) / 4, ⟨hq, f2, f3, fun h => ?_, fun h => ?_, ?_, ?_⟩, rfl, by omega, rfl⟩
  · rw [if_pos h]
    omega
  · rw [if_neg h]
  · omega
  · omega
theorem cop_at {d y r n lp : Int} {q : Nat} (h : CopAt d y q r n lp) : (sizes1 (365 + lp)).getD q 0 = n := by
  rw [at1 _ _ h.q13]
  split
  · have := h.n12 (by assumption)
    omega
  · exact (h.n0 (by assumption)).symm

theorem copFrom_eq (d : Int) : copFrom d = cop d := by
  obtain ⟨y, q, r, n, lp, h, h5, h6, h7⟩ := cop_is d
  rw [h5]
  exact (cop_rep h).1
theorem copJd_eq (d : Int) : copJd (cop d).1 (cop d).2.1 (cop d).2.2 = d := by
  obtain ⟨y, q, r, n, lp, h, h5, h6, h7⟩ := cop_is d
  rw [h5]
  exact (cop_rep h).2
theorem cop_month_in (d : Int) : 1 ≤ (cop d).2.1 ∧ (cop d).2.1 ≤ 13 := by
  obtain ⟨y, q, r, n, lp, h, h5, h6, h7⟩ := cop_is d
  rw [h5]
  have := h.q13
  simp only
  omega
theorem cop_next (d : Int) : lawNext (cop d) (sizes1 (lawSize d 1825030 third)) = cop (d + 1) := by
  rw [← copFrom_eq (d + 1)]
  obtain ⟨y, q, r, n, lp, h, h5, h6, h7⟩ := cop_is d
  rw [h5, h6]
  have e : ((q : Int) + 1 - 1).toNat = q := by omega
  unfold lawNext
  simp only [e]
  rw [cop_at h]
  obtain ⟨g1, g2, g3, g4, g5, g6, g7⟩ := h
  by_cases c1 : r + 1 < n
  · rw [if_pos c1]
    exact ((cop_rep (d := d + 1) ⟨g1, by omega, c1, g4, g5, g6, by omega⟩).1).symm
  · rw [if_neg c1]
    have hlen : ((sizes1 (365 + lp)).length : Int) = 13 := rfl
    rw [hlen]
    by_cases c2 : (q : Int) + 1 < 13
    · rw [if_pos c2]
      have hn := g5 (by omega)
      by_cases c3 : q + 1 = 12
      · have hr := (cop_rep (d := d + 1) (y := y) (q := q + 1) (r := 0) (n := 5 + lp) (lp := lp) ⟨by omega, by omega, by omega, fun _ => rfl, fun h => absurd c3 h, g6, by omega⟩).1
        rw [hr]
        simp
      · have hr := (cop_rep (d := d + 1) (y := y) (q := q + 1) (r := 0) (n := 30) (lp := lp) ⟨by omega, by omega, by omega, fun h => absurd h c3, fun _ => rfl, g6, by omega⟩).1
        rw [hr]
        simp
    · rw [if_neg c2]
      have hq : q = 12 := by omega
      have hn := g4 hq
      subst hq
      have hr := (cop_rep (d := d + 1) (y := y + 1) (q := 0) (r := 0) (n := 30) (lp := if (y + 1) % 4 = 3 then 1 else 0) ⟨by decide, by decide, by decide, fun h => absurd h (by decide), fun _ => rfl, by first | rfl | (split <;> omega), by first | omega | (clear h7; have hs : (y + 1 - 533) / 4 = (y - 533) / 4 + lp := (by rcases g6 with ⟨a, b⟩ | ⟨a, b⟩ <;> omega); omega)⟩).1
      rw [hr]
      rfl

theorem cop_leap_eq (d : Int) : copLeap (cop d).1 = ((sizes1 (lawSize d 1825030 third)).getD 12 0 == 6) := by
  obtain ⟨y, q, r, n, lp, h, h5, h6, h7⟩ := cop_is d
  rw [h5, h6, at1 _ 12 (by decide)]
  unfold copLeap
  rcases h.leap with ⟨h1, h2⟩ | ⟨h1, h2⟩
  · rw [decide_eq_true h2, h1]; rfl
  · rw [decide_eq_false h2, h1]; rfl
theorem cop_len_eq (d : Int) : copLen (cop d).1 (cop d).2.1 = (sizes1 (lawSize d 1825030 third)).getD ((cop d).2.1 - 1).toNat 0 := by
  obtain ⟨y, q, r, n, lp, h, h5, h6, h7⟩ := cop_is d
  rw [h5, h6]
  have e : ((q : Int) + 1 - 1).toNat = q := by omega
  simp only [e]
  rw [cop_at h]
  obtain ⟨g1, g2, g3, g4, g5, g6, g7⟩ := h
  unfold copLen copLeap
  simp only [decide_eq_true_eq]
  by_cases c : q = 12
  · have := g4 c
    rw [if_neg (by omega)]
    split <;> omega
  · have := g5 c
    rw [if_pos (by omega)]
    omega

-- ---------- Armenian, moving ----------
structure ArmAt (d y : Int) (q : Nat) (r n lp : Int) : Prop where
  q13 : q < 13
  r0 : 0 ≤ r
  rn : r < n
  n12 : q = 12 → n = 5 + lp
  n0 : q ≠ 12 → n = 30
  leap : lp = 0
  eq : d = 1922503 + 365 * y + 30 * (q : Int) + r

theorem arm_rep {d y r n lp : Int} {q : Nat} (h : ArmAt d y q r n lp) : armFromN d = (y, (q : Int) + 1, r + 1) ∧ armJdN y ((q : Int) + 1) (r + 1) = d := by
  obtain ⟨h1, h2, h3, h4, h5, h6, hd⟩ := h
  have hn : n ≤ 30 := by
    by_cases c : q = 12
    · have := h4 c
      omega
    · have := h5 c
      omega
  have hw : 30 * (q : Int) + r < 365 := by
    by_cases c : q = 12
    · have := h4 c
      omega
    · omega
  have hJ : armJdN y ((q : Int) + 1) (r + 1) = d := by
    unfold armJdN
    omega
  refine ⟨?_, hJ⟩
  have e1 : (d - 1922502 - 1) / 365 = y := by omega
  have e2 : (d - 1922502 - 1) % 365 = 30 * (q : Int) + r := by omega
  unfold armFromN
  rw [e1, e2]
  simp only [Prod.mk.injEq, true_and]
  omega

def arm (d : Int) : Int × Int × Int := lawDate d 1922868 1 plainC sizes1
theorem plainC_pre_arm : ∀ p : Fin 1, (plainC.take p).sum = 365 * ((p : Nat) : Int) := by decide
theorem plainC_at_arm : ∀ p : Fin 1, plainC.getD p 0 = 365 := by decide
theorem arm_is (d : Int) : ∃ (y : Int) (q : Nat) (r n lp : Int), ArmAt d y q r n lp ∧ arm d = (y, (q : Int) + 1, r + 1) ∧ lawSize d 1922868 plainC = 365 + lp ∧ y = 1 + (d - 1922868) / 365 * 1 + lawPlace d 1922868 plainC := by
  have P := place_of d 1922868 plainC (by decide) (by decide)
  have hp : lawPlace d 1922868 plainC < 1 := P.lt
  have e1 := plainC_pre_arm ⟨_, hp⟩
  have e2 := plainC_at_arm ⟨_, hp⟩
  have e3 := P.eq
  have e4 := P.below
  have e5 := P.nonneg
  have hz : lawSize d 1922868 plainC = plainC.getD (lawPlace d 1922868 plainC) 0 := rfl
  have hsum : plainC.sum = 365 := by decide
  have hq : (off (lawDoy d 1922868 plainC) (sizes1 (lawSize d 1922868 plainC))).1 < 13 := off_lt (zs := sizes1 _) (by rw [sum_sizes1, hz]; exact e4) (show 0 < 13 by decide)
  have f1 := off_eq (sizes1 (lawSize d 1922868 plainC)) (lawDoy d 1922868 plainC) hq
  have f2 := off_nonneg (sizes1 (lawSize d 1922868 plainC)) _ e5
  have f3 := off_rest_lt (zs := sizes1 (lawSize d 1922868 plainC)) (r := lawDoy d 1922868 plainC) hq
  rw [pre1 _ _ hq] at f1
  rw [at1 _ _ hq] at f3
  have hi : arm d = (1 + (d - 1922868).fdiv plainC.sum * 1 + lawPlace d 1922868 plainC, ((off (lawDoy d 1922868 plainC) (sizes1 (lawSize d 1922868 plainC))).1 : Int) + 1, (off (lawDoy d 1922868 plainC) (sizes1 (lawSize d 1922868 plainC))).2 + 1) := rfl
  rw [fdiv_lit _ (by decide)] at hi
  rw [hsum] at hi e3
  rw [hi]
  generalize (off (lawDoy d 1922868 plainC) (sizes1 (lawSize d 1922868 plainC))).1 = q at *
  generalize (off (lawDoy d 1922868 plainC) (sizes1 (lawSize d 1922868 plainC))).2 = r at *
  generalize (d - 1922868) / 365 = L at *
  generalize lawDoy d 1922868 plainC = x at *
  rw [hz] at f3 ⊢
  generalize lawPlace d 1922868 plainC = p at *
  simp only at e1 e2
  rw [e1] at e3
  rw [e2] at e4 f3 ⊢
  clear hi hz hsum P e1 e2
  refine ⟨1 + L * 1 + p, q, r, _, 0, ⟨hq, f2, f3, fun h => ?_, fun h => ?_, ?_, ?_⟩, rfl, by omega, rfl⟩
  · rw [if_pos h]
    omega
  · rw [if_neg h]
  · omega
  · omega
theorem arm_at {d y r n lp : Int} {q : Nat} (h : ArmAt d y q r n lp) : (sizes1 (365 + lp)).getD q 0 = n := by
  rw [at1 _ _ h.q13]
  split
  · have := h.n12 (by assumption)
    omega
  · exact (h.n0 (by assumption)).symm

theorem armFrom_eq (d : Int) : armFromN d = arm d := by
  obtain ⟨y, q, r, n, lp, h, h5, h6, h7⟩ := arm_is d
  rw [h5]
  exact (arm_rep h).1
theorem armJd_eq (d : Int) : armJdN (arm d).1 (arm d).2.1 (arm d).2.2 = d := by
  obtain ⟨y, q, r, n, lp, h, h5, h6, h7⟩ := arm_is d
  rw [h5]
  exact (arm_rep h).2
theorem arm_month_in (d : Int) : 1 ≤ (arm d).2.1 ∧ (arm d).2.1 ≤ 13 := by
  obtain ⟨y, q, r, n, lp, h, h5, h6, h7⟩ := arm_is d
  rw [h5]
  have := h.q13
  simp only
  omega
theorem arm_next (d : Int) : lawNext (arm d) (sizes1 (lawSize d 1922868 plainC)) = arm (d + 1) := by
  rw [← armFrom_eq (d + 1)]
  obtain ⟨y, q, r, n, lp, h, h5, h6, h7⟩ := arm_is d
  rw [h5, h6]
  have e : ((q : Int) + 1 - 1).toNat = q := by omega
  unfold lawNext
  simp only [e]
  rw [arm_at h]
  obtain ⟨g1, g2, g3, g4, g5, g6, g7⟩ := h
  by_cases c1 : r + 1 < n
  · rw [if_pos c1]
    exact ((arm_rep (d := d + 1) ⟨g1, by omega, c1, g4, g5, g6, by omega⟩).1).symm
  · rw [if_neg c1]
    have hlen : ((sizes1 (365 + lp)).length : Int) = 13 := rfl
    rw [hlen]
    by_cases c2 : (q : Int) + 1 < 13
    · rw [if_pos c2]
      have hn := g5 (by omega)
      by_cases c3 : q + 1 = 12
      · have hr := (arm_rep (d := d + 1) (y := y) (q := q + 1) (r := 0) (n := 5 + lp) (lp := lp) ⟨by omega, by omega, by omega, fun _ => rfl, fun h => absurd c3 h, g6, by omega⟩).1
        rw [hr]
        simp
      · have hr := (arm_rep (d := d + 1) (y := y) (q := q + 1) (r := 0) (n := 30) (lp := lp) ⟨by omega, by omega, by omega, fun h => absurd h c3, fun _ => rfl, g6, by omega⟩).1
        rw [hr]
        simp
    · rw [if_neg c2]
      have hq : q = 12 := by omega
      have hn := g4 hq
      subst hq
      have hr := (arm_rep (d := d + 1) (y := y + 1) (q := 0) (r := 0) (n := 30) (lp := 0) ⟨by decide, by decide, by decide, fun h => absurd h (by decide), fun _ => rfl, by first | rfl | (split <;> omega), by first | omega | (clear h7; have hs : (y + 1 - 533) / 4 = (y - 533) / 4 + lp := (by rcases g6 with ⟨a, b⟩ | ⟨a, b⟩ <;> omega); omega)⟩).1
      rw [hr]
      rfl

theorem arm_year (d : Int) (hd : 1922868 ≤ d) : 1 ≤ (arm d).1 := by
  obtain ⟨y, q, r, n, lp, h, h5, h6, h7⟩ := arm_is d
  rw [h5]
  simp only
  omega
theorem arm_len_eq (d : Int) : (if (arm d).2.1 = 13 then (5 : Int) else 30) = (sizes1 (lawSize d 1922868 plainC)).getD ((arm d).2.1 - 1).toNat 0 := by
  obtain ⟨y, q, r, n, lp, h, h5, h6, h7⟩ := arm_is d
  rw [h5, h6]
  have e : ((q : Int) + 1 - 1).toNat = q := by omega
  simp only [e]
  rw [arm_at h]
  obtain ⟨g1, g2, g3, g4, g5, g6, g7⟩ := h
  by_cases c : q = 12
  · have := g4 c
    rw [if_pos (by omega)]
    omega
  · have := g5 c
    rw [if_neg (by omega)]
    omega
theorem arm_valid (d : Int) (hd : 1922868 ≤ d) : validN (arm d).1 (arm d).2.1 (arm d).2.2 := by
  have hy := arm_year d hd
  obtain ⟨y, q, r, n, lp, h, h5, h6, h7⟩ := arm_is d
  rw [h5] at hy ⊢
  obtain ⟨g1, g2, g3, g4, g5, g6, g7⟩ := h
  simp only at hy
  unfold validN dayMaxN
  simp only
  by_cases c : q = 12
  · have := g4 c
    rw [if_pos (by omega)]
    omega
  · have := g5 c
    rw [if_neg (by omega)]
    omega

-- ---------- Armenian, fixed ----------
structure SarAt (d y : Int) (q : Nat) (r n lp : Int) : Prop where
  q13 : q < 13
  r0 : 0 ≤ r
  rn : r < n
  n12 : q = 12 → n = 5 + lp
  n0 : q ≠ 12 → n = 30
  leap : (lp = 1 ∧ y % 4 = 0) ∨ (lp = 0 ∧ ¬ y % 4 = 0)
  eq : d = 2117212 + 365 * (y - 533) + (y - 533) / 4 + 30 * (q : Int) + r

theorem sar_rep {d y r n lp : Int} {q : Nat} (h : SarAt d y q r n lp) : armFromS d = (y, (q : Int) + 1, r + 1) ∧ armJdS y ((q : Int) + 1) (r + 1) = d := by
  obtain ⟨h1, h2, h3, h4, h5, h6, hd⟩ := h
  have hl : lp = 0 ∨ lp = 1 := by omega
  have hn : n ≤ 30 := by
    by_cases c : q = 12
    · have := h4 c
      omega
    · have := h5 c
      omega
  have hw : 30 * (q : Int) + r < 365 + lp := by
    by_cases c : q = 12
    · have := h4 c
      omega
    · omega
  have hJ : armJdS y ((q : Int) + 1) (r + 1) = d := by
    unfold armJdS
    omega
  refine ⟨?_, hJ⟩
  have e : 4 * (d - 2117211) = 1461 * (y - 533) + (4 + 4 * (30 * (q : Int) + r) - (y - 533) % 4) := by omega
  by_cases c : 30 * (q : Int) + r = 365
  · have hq : q = 12 := by
      by_cases c : q = 12
      · exact c
      · have := h5 c
        omega
    have hn' := h4 hq
    have hYS : armYS d = y - 532 := by
      unfold armYS
      rw [e]
      omega
    have hDS : armDS d = 0 := by
      unfold armDS
      rw [hYS]
      omega
    unfold armFromS
    rw [if_pos hDS, hYS]
    simp only [Prod.mk.injEq]
    omega
  · have hYS : armYS d = y - 533 := by
      unfold armYS
      rw [e]
      omega
    have hDS : armDS d = 30 * (q : Int) + r + 1 := by
      unfold armDS
      rw [hYS]
      omega
    unfold armFromS
    rw [if_neg (by omega), hYS, hDS]
    simp only [Prod.mk.injEq]
    omega

def sar (d : Int) : Int × Int × Int := lawDate d 2117212 533 fourth sizes1
theorem fourth_pre_sar : ∀ p : Fin 4, (fourth.take p).sum = 365 * ((p : Nat) : Int) := by decide
theorem fourth_at_sar : ∀ p : Fin 4, fourth.getD p 0 = 365 + (((p : Nat) : Int) + 1) / 4 := by decide
theorem sar_is (d : Int) : ∃ (y : Int) (q : Nat) (r n lp : Int), SarAt d y q r n lp ∧ sar d = (y, (q : Int) + 1, r + 1) ∧ lawSize d 2117212 fourth = 365 + lp ∧ y = 533 + (d - 2117212) / 1461 * 4 + lawPlace d 2117212 fourth := by
  have P := place_of d 2117212 fourth (by decide) (by decide)
  have hp : lawPlace d 2117212 fourth < 4 := P.lt
  have e1 := fourth_pre_sar ⟨_, hp⟩
  have e2 := fourth_at_sar ⟨_, hp⟩
  have e3 := P.eq
  have e4 := P.below
  have e5 := P.nonneg
  have hz : lawSize d 2117212 fourth = fourth.getD (lawPlace d 2117212 fourth) 0 := rfl
  have hsum : fourth.sum = 1461 := by decide
  have hq : (off (lawDoy d 2117212 fourth) (sizes1 (lawSize d 2117212 fourth))).1 < 13 := off_lt (zs := sizes1 _) (by rw [sum_sizes1, hz]; exact e4) (show 0 < 13 by decide)
  have f1 := off_eq (sizes1 (lawSize d 2117212 fourth)) (lawDoy d 2117212 fourth) hq
  have f2 := off_nonneg (sizes1 (lawSize d 2117212 fourth)) _ e5
  have f3 := off_rest_lt (zs := sizes1 (lawSize d 2117212 fourth)) (r := lawDoy d 2117212 fourth) hq
  rw [pre1 _ _ hq] at f1
  rw [at1 _ _ hq] at f3
  have hi : sar d = (533 + (d - 2117212).fdiv fourth.sum * 4 + lawPlace d 2117212 fourth, ((off (lawDoy d 2117212 fourth) (sizes1 (lawSize d 2117212 fourth))).1 : Int) + 1, (off (lawDoy d 2117212 fourth) (sizes1 (lawSize d 2117212 fourth))).2 + 1) := rfl
  rw [fdiv_lit _ (by decide)] at hi
  rw [hsum] at hi e3
  rw [hi]
  generalize (off (lawDoy d 2117212 fourth) (sizes1 (lawSize d 2117212 fourth))).1 = q at *
  generalize (off (lawDoy d 2117212 fourth) (sizes1 (lawSize d 2117212 fourth))).2 = r at *
  generalize (d - 2117212) / 1461 = L at *
  generalize lawDoy d 2117212 fourth = x at *
  rw [hz] at f3 ⊢
  generalize lawPlace d 2117212 fourth = p at *
  simp only at e1 e2
  rw [e1] at e3
  rw [e2] at e4 f3 ⊢
  clear hi hz hsum P e1 e2
  refine ⟨533 + L * 4 + p, q, r, _, ((p : Int) + 1) / 4, ⟨hq, f2, f3, fun h => ?_, fun h => ?_, ?_, ?_⟩, rfl, by omega, rfl⟩
  · rw [if_pos h]
    omega
  · rw [if_neg h]
  · omega
  · omega
theorem sar_at {d y r n lp : Int} {q : Nat} (h : SarAt d y q r n lp) : (sizes1 (365 + lp)).getD q 0 = n := by
  rw [at1 _ _ h.q13]
  split
  · have := h.n12 (by assumption)
    omega
  · exact (h.n0 (by assumption)).symm

theorem sarFrom_eq (d : Int) : armFromS d = sar d := by
  obtain ⟨y, q, r, n, lp, h, h5, h6, h7⟩ := sar_is d
  rw [h5]
  exact (sar_rep h).1
theorem sarJd_eq (d : Int) : armJdS (sar d).1 (sar d).2.1 (sar d).2.2 = d := by
  obtain ⟨y, q, r, n, lp, h, h5, h6, h7⟩ := sar_is d
  rw [h5]
  exact (sar_rep h).2
theorem sar_month_in (d : Int) : 1 ≤ (sar d).2.1 ∧ (sar d).2.1 ≤ 13 := by
  obtain ⟨y, q, r, n, lp, h, h5, h6, h7⟩ := sar_is d
  rw [h5]
  have := h.q13
  simp only
  omega
theorem sar_next (d : Int) : lawNext (sar d) (sizes1 (lawSize d 2117212 fourth)) = sar (d + 1) := by
  rw [← sarFrom_eq (d + 1)]
  obtain ⟨y, q, r, n, lp, h, h5, h6, h7⟩ := sar_is d
  rw [h5, h6]
  have e : ((q : Int) + 1 - 1).toNat = q := by omega
  unfold lawNext
  simp only [e]
  rw [sar_at h]
  obtain ⟨g1, g2, g3, g4, g5, g6, g7⟩ := h
  by_cases c1 : r + 1 < n
  · rw [if_pos c1]
    exact ((sar_rep (d := d + 1) ⟨g1, by omega, c1, g4, g5, g6, by omega⟩).1).symm
  · rw [if_neg c1]
    have hlen : ((sizes1 (365 + lp)).length : Int) = 13 := rfl
    rw [hlen]
    by_cases c2 : (q : Int) + 1 < 13
    · rw [if_pos c2]
      have hn := g5 (by omega)
      by_cases c3 : q + 1 = 12
      · have hr := (sar_rep (d := d + 1) (y := y) (q := q + 1) (r := 0) (n := 5 + lp) (lp := lp) ⟨by omega, by omega, by omega, fun _ => rfl, fun h => absurd c3 h, g6, by omega⟩).1
        rw [hr]
        simp
      · have hr := (sar_rep (d := d + 1) (y := y) (q := q + 1) (r := 0) (n := 30) (lp := lp) ⟨by omega, by omega, by omega, fun h => absurd h c3, fun _ => rfl, g6, by omega⟩).1
        rw [hr]
        simp
    · rw [if_neg c2]
      have hq : q = 12 := by omega
      have hn := g4 hq
      subst hq
      have hr := (sar_rep (d := d + 1) (y := y + 1) (q := 0) (r := 0) (n := 30) (lp := if (y + 1) % 4 = 0 then 1 else 0) ⟨by decide, by decide, by decide, fun h => absurd h (by decide), fun _ => rfl, by first | rfl | (split <;> omega), by first | omega | (clear h7; have hs : (y + 1 - 533) / 4 = (y - 533) / 4 + lp := (by rcases g6 with ⟨a, b⟩ | ⟨a, b⟩ <;> omega); omega)⟩).1
      rw [hr]
      rfl

theorem sar_year (d : Int) (hd : 2117212 ≤ d) : 533 ≤ (sar d).1 := by
  obtain ⟨y, q, r, n, lp, h, h5, h6, h7⟩ := sar_is d
  rw [h5]
  simp only
  omega
theorem sar_leap_at {d y r n lp : Int} {q : Nat} (h : SarAt d y q r n lp) (hy : 533 ≤ y) : armLeap y = decide (lp = 1) := by
  unfold armLeap
  rw [if_neg (by omega)]
  rcases h.leap with ⟨h1, h2⟩ | ⟨h1, h2⟩
  · rw [decide_eq_true h2, h1]; rfl
  · rw [decide_eq_false h2, h1]; rfl
theorem sar_leap_eq (d : Int) (hd : 2117212 ≤ d) : armLeap (sar d).1 = ((sizes1 (lawSize d 2117212 fourth)).getD 12 0 == 6) := by
  have hy := sar_year d hd
  obtain ⟨y, q, r, n, lp, h, h5, h6, h7⟩ := sar_is d
  rw [h5] at hy ⊢
  rw [h6, at1 _ 12 (by decide), sar_leap_at h hy]
  rcases h.leap with ⟨h1, h2⟩ | ⟨h1, h2⟩ <;> rw [h1] <;> rfl
theorem sar_len_eq (d : Int) (hd : 2117212 ≤ d) : dayMaxS (sar d).1 (sar d).2.1 = (sizes1 (lawSize d 2117212 fourth)).getD ((sar d).2.1 - 1).toNat 0 := by
  have hy := sar_year d hd
  obtain ⟨y, q, r, n, lp, h, h5, h6, h7⟩ := sar_is d
  rw [h5] at hy ⊢
  rw [h6]
  have e : ((q : Int) + 1 - 1).toNat = q := by omega
  simp only [e]
  rw [sar_at h]
  unfold dayMaxS
  rw [sar_leap_at h hy]
  obtain ⟨g1, g2, g3, g4, g5, g6, g7⟩ := h
  simp only [decide_eq_true_eq]
  by_cases c : q = 12
  · have := g4 c
    rw [if_pos (by omega)]
    split <;> omega
  · have := g5 c
    rw [if_neg (by omega)]
    omega
theorem sar_valid (d : Int) (hd : 2117212 ≤ d) : validS (sar d).1 (sar d).2.1 (sar d).2.2 := by
  have hy := sar_year d hd
  have hl := sar_len_eq d hd
  obtain ⟨y, q, r, n, lp, h, h5, h6, h7⟩ := sar_is d
  rw [h5, h6] at hl
  rw [h5] at hy ⊢
  have e : ((q : Int) + 1 - 1).toNat = q := by omega
  simp only [e] at hl
  rw [sar_at h] at hl
  obtain ⟨g1, g2, g3, g4, g5, g6, g7⟩ := h
  unfold validS
  simp only at hy hl ⊢
  rw [hl]
  omega

-- ---------- months of the Roman year ----------
/-- the month q (from nought) of a year of 365 + l days begins behind p days and has n -/
def RMonth (q : Nat) (l p n : Int) : Prop :=
  (q = 0 ∧ p = 0 ∧ n = 31) ∨ (q = 1 ∧ p = 31 ∧ n = 28 + l) ∨ (q = 2 ∧ p = 59 + l ∧ n = 31) ∨ (q = 3 ∧ p = 90 + l ∧ n = 30) ∨ (q = 4 ∧ p = 120 + l ∧ n = 31) ∨ (q = 5 ∧ p = 151 + l ∧ n = 30) ∨
  (q = 6 ∧ p = 181 + l ∧ n = 31) ∨ (q = 7 ∧ p = 212 + l ∧ n = 31) ∨ (q = 8 ∧ p = 243 + l ∧ n = 30) ∨ (q = 9 ∧ p = 273 + l ∧ n = 31) ∨ (q = 10 ∧ p = 304 + l ∧ n = 30) ∨ (q = 11 ∧ p = 334 + l ∧ n = 31)
theorem rmonth (l : Int) : ∀ q : Nat, q < 12 → RMonth q l ((sizes2 (365 + l)).take q).sum ((sizes2 (365 + l)).getD q 0)
  | 0, _ => .inl ⟨rfl, rfl, rfl⟩
  | 1, _ => .inr (.inl ⟨rfl, rfl, by show 365 + l - 337 = 28 + l; omega⟩)
  | 2, _ => .inr (.inr (.inl ⟨rfl, by show 31 + (365 + l - 337 + 0) = 59 + l; omega, rfl⟩))
  | 3, _ => .inr (.inr (.inr (.inl ⟨rfl, by show 31 + (365 + l - 337 + (31 + 0)) = 90 + l; omega, rfl⟩)))
  | 4, _ => .inr (.inr (.inr (.inr (.inl ⟨rfl, by show 31 + (365 + l - 337 + (31 + (30 + 0))) = 120 + l; omega, rfl⟩))))
  | 5, _ => .inr (.inr (.inr (.inr (.inr (.inl ⟨rfl, by show 31 + (365 + l - 337 + (31 + (30 + (31 + 0)))) = 151 + l; omega, rfl⟩)))))
  | 6, _ => .inr (.inr (.inr (.inr (.inr (.inr (.inl ⟨rfl, by show 31 + (365 + l - 337 + (31 + (30 + (31 + (30 + 0))))) = 181 + l; omega, rfl⟩))))))
  | 7, _ => .inr (.inr (.inr (.inr (.inr (.inr (.inr (.inl ⟨rfl, by show 31 + (365 + l - 337 + (31 + (30 + (31 + (30 + (31 + 0)))))) = 212 + l; omega, rfl⟩)))))))
  | 8, _ => .inr (.inr (.inr (.inr (.inr (.inr (.inr (.inr (.inl ⟨rfl, by show 31 + (365 + l - 337 + (31 + (30 + (31 + (30 + (31 + (31 + 0))))))) = 243 + l; omega, rfl⟩))))))))
  | 9, _ => .inr (.inr (.inr (.inr (.inr (.inr (.inr (.inr (.inr (.inl ⟨rfl, by show 31 + (365 + l - 337 + (31 + (30 + (31 + (30 + (31 + (31 + (30 + 0)))))))) = 273 + l; omega, rfl⟩)))))))))
  | 10, _ => .inr (.inr (.inr (.inr (.inr (.inr (.inr (.inr (.inr (.inr (.inl ⟨rfl, by show 31 + (365 + l - 337 + (31 + (30 + (31 + (30 + (31 + (31 + (30 + (31 + 0))))))))) = 304 + l; omega, rfl⟩))))))))))
  | 11, _ => .inr (.inr (.inr (.inr (.inr (.inr (.inr (.inr (.inr (.inr (.inr ⟨rfl, by show 31 + (365 + l - 337 + (31 + (30 + (31 + (30 + (31 + (31 + (30 + (31 + (30 + 0)))))))))) = 334 + l; omega, rfl⟩))))))))))
  | n + 12, h => absurd h (by omega)

-- ---------- Julian ----------
structure LatAt (d y : Int) (q : Nat) (r n lp p : Int) : Prop where
  month : RMonth q lp p n
  r0 : 0 ≤ r
  rn : r < n
  leap : (lp = 1 ∧ y % 4 = 0) ∨ (lp = 0 ∧ ¬ y % 4 = 0)
  eq : d = 1461 * (y + 4715) / 4 - 1095 + p + r

theorem lat_len {d y r n lp p : Int} {q : Nat} (h : LatAt d y q r n lp p) : julLen y ((q : Int) + 1) = n := by
  obtain ⟨h1, h2, h3, h4, h5⟩ := h
  unfold julLen julLeap
  simp only [decide_eq_true_eq]
  rcases h1 with h | h | h | h | h | h | h | h | h | h | h | h <;> obtain ⟨rfl, rfl, rfl⟩ := h <;> simp <;> omega
theorem jul_hi {d C e : Int} (hC : julC d = C) (hE : (d + 1524 - 1461 * C / 4) * 10000 / 306001 = e) (h1 : e < 14) (h2 : 4 ≤ e) : julFrom d = (C - 4716, e - 1, d + 1524 - 1461 * C / 4 - 306001 * e / 10000) := by
  have hM : julMonth d = e - 1 := by
    unfold julMonth julE
    rw [hC, hE, if_pos h1]
  unfold julFrom
  rw [hM, if_pos (by omega)]
  unfold julE
  rw [hC, hE]
theorem jul_lo {d C e : Int} (hC : julC d = C) (hE : (d + 1524 - 1461 * C / 4) * 10000 / 306001 = e) (h1 : 14 ≤ e) (h2 : e ≤ 15) : julFrom d = (C - 4715, e - 13, d + 1524 - 1461 * C / 4 - 306001 * e / 10000) := by
  have hM : julMonth d = e - 13 := by
    unfold julMonth julE
    rw [hC, hE, if_neg (by omega)]
  unfold julFrom
  rw [hM, if_neg (by omega)]
  unfold julE
  rw [hC, hE]
theorem lat_rep {d y r n lp p : Int} {q : Nat} (h : LatAt d y q r n lp p) : julFrom d = (y, (q : Int) + 1, r + 1) ∧ julJd y ((q : Int) + 1) (r + 1) = d := by
  obtain ⟨h1, h2, h3, h4, h5⟩ := h
  obtain ⟨t, s, hy, hs⟩ : ∃ t s, y = 4 * t + s - 4715 ∧ (s = 0 ∨ s = 1 ∨ s = 2 ∨ s = 3) := ⟨(y + 4715) / 4, (y + 4715) % 4, by omega, by omega⟩
  subst hy
  have hd : d = 1461 * t + 365 * s - 1095 + p + r := by
    rcases hs with rfl | rfl | rfl | rfl <;> omega
  have hl : (lp = 1 ∧ s = 3) ∨ (lp = 0 ∧ s ≠ 3) := by
    rcases hs with rfl | rfl | rfl | rfl <;> omega
  clear h5 h4
  have hlp : 1461 * (4 * t + s) / 4 = 1461 * t + 365 * s ∧ 1461 * (4 * t + s + 1) / 4 = 1461 * t + 365 * s + 365 + lp := by
    rcases hs with rfl | rfl | rfl | rfl <;> omega
  obtain ⟨k1, k2⟩ := hlp
  have hs' : 0 ≤ s ∧ s ≤ 3 := by omega
  have hl' : lp = 0 ∨ lp = 1 := by omega
  clear hs
  rcases h1 with h | h | h | h | h | h | h | h | h | h | h | h <;> obtain ⟨rfl, rfl, rfl⟩ := h
  · refine ⟨(jul_lo (C := 4 * t + s) (e := 14) (by unfold julC; omega) (by rw [k1]; omega) (by decide) (by decide)).trans ?_, ?_⟩
    · rw [k1]
      refine Prod.ext ?_ (Prod.ext ?_ ?_)
      · show 4 * t + s - 4715 = 4 * t + s - 4715
        rfl
      · rfl
      · show d + 1524 - (1461 * t + 365 * s) - _ = r + 1
        omega
    · unfold julJd
      rw [if_pos (by decide), show 4 * t + s - 4715 - 1 + 4716 = 4 * t + s by omega, k1]
      omega
  · refine ⟨(jul_lo (C := 4 * t + s) (e := 15) (by unfold julC; omega) (by rw [k1]; omega) (by decide) (by decide)).trans ?_, ?_⟩
    · rw [k1]
      refine Prod.ext ?_ (Prod.ext ?_ ?_)
      · show 4 * t + s - 4715 = 4 * t + s - 4715
        rfl
      · rfl
      · show d + 1524 - (1461 * t + 365 * s) - _ = r + 1
        omega
    · unfold julJd
      rw [if_pos (by decide), show 4 * t + s - 4715 - 1 + 4716 = 4 * t + s by omega, k1]
      omega
  · refine ⟨(jul_hi (C := 4 * t + s + 1) (e := 4) (by unfold julC; omega) (by rw [k2]; omega) (by decide) (by decide)).trans ?_, ?_⟩
    · rw [k2]
      simp only [Prod.mk.injEq]
      omega
    · unfold julJd
      rw [if_neg (by decide), show 4 * t + s - 4715 + 4716 = 4 * t + s + 1 by omega, k2]
      omega
  · refine ⟨(jul_hi (C := 4 * t + s + 1) (e := 5) (by unfold julC; omega) (by rw [k2]; omega) (by decide) (by decide)).trans ?_, ?_⟩
    · rw [k2]
      simp only [Prod.mk.injEq]
      omega
    · unfold julJd
      rw [if_neg (by decide), show 4 * t + s - 4715 + 4716 = 4 * t + s + 1 by omega, k2]
      omega
  · refine ⟨(jul_hi (C := 4 * t + s + 1) (e := 6) (by unfold julC; omega) (by rw [k2]; omega) (by decide) (by decide)).trans ?_, ?_⟩
    · rw [k2]
      simp only [Prod.mk.injEq]
      omega
    · unfold julJd
      rw [if_neg (by decide), show 4 * t + s - 4715 + 4716 = 4 * t + s + 1 by omega, k2]
      omega
  · refine ⟨(jul_hi (C := 4 * t + s + 1) (e := 7) (by unfold julC; omega) (by rw [k2]; omega) (by decide) (by decide)).trans ?_, ?_⟩
    · rw [k2]
      simp only [Prod.mk.injEq]
      omega
    · unfold julJd
      rw [if_neg (by decide), show 4 * t + s - 4715 + 4716 = 4 * t + s + 1 by omega, k2]
      omega
  · refine ⟨(jul_hi (C := 4 * t + s + 1) (e := 8) (by unfold julC; omega) (by rw [k2]; omega) (by decide) (by decide)).trans ?_, ?_⟩
    · rw [k2]
      simp only [Prod.mk.injEq]
      omega
    · unfold julJd
      rw [if_neg (by decide), show 4 * t + s - 4715 + 4716 = 4 * t + s + 1 by omega, k2]
      omega
  · refine ⟨(jul_hi (C := 4 * t + s + 1) (e := 9) (by unfold julC; omega) (by rw [k2]; omega) (by decide) (by decide)).trans ?_, ?_⟩
    · rw [k2]
      simp only [Prod.mk.injEq]
      omega
    · unfold julJd
      rw [if_neg (by decide), show 4 * t + s - 4715 + 4716 = 4 * t + s + 1 by omega, k2]
      omega
  · refine ⟨(jul_hi (C := 4 * t + s + 1) (e := 10) (by unfold julC; omega) (by rw [k2]; omega) (by decide) (by decide)).trans ?_, ?_⟩
    · rw [k2]
      simp only [Prod.mk.injEq]
      omega
    · unfold julJd
      rw [if_neg (by decide), show 4 * t + s - 4715 + 4716 = 4 * t + s + 1 by omega, k2]
      omega
  · refine ⟨(jul_hi (C := 4 * t + s + 1) (e := 11) (by unfold julC; omega) (by rw [k2]; omega) (by decide) (by decide)).trans ?_, ?_⟩
    · rw [k2]
      simp only [Prod.mk.injEq]
      omega
    · unfold julJd
      rw [if_neg (by decide), show 4 * t + s - 4715 + 4716 = 4 * t + s + 1 by omega, k2]
      omega
  · refine ⟨(jul_hi (C := 4 * t + s + 1) (e := 12) (by unfold julC; omega) (by rw [k2]; omega) (by decide) (by decide)).trans ?_, ?_⟩
    · rw [k2]
      simp only [Prod.mk.injEq]
      omega
    · unfold julJd
      rw [if_neg (by decide), show 4 * t + s - 4715 + 4716 = 4 * t + s + 1 by omega, k2]
      omega
  · refine ⟨(jul_hi (C := 4 * t + s + 1) (e := 13) (by unfold julC; omega) (by rw [k2]; omega) (by decide) (by decide)).trans ?_, ?_⟩
    · rw [k2]
      simp only [Prod.mk.injEq]
      omega
    · unfold julJd
      rw [if_neg (by decide), show 4 * t + s - 4715 + 4716 = 4 * t + s + 1 by omega, k2]
      omega

def lat (d : Int) : Int × Int × Int := lawDate d 1721424 1 fourth sizes2
theorem lat_is (d : Int) : ∃ (y : Int) (q : Nat) (r n lp p : Int), LatAt d y q r n lp p ∧ lat d = (y, (q : Int) + 1, r + 1) := by
  have P := place_of d 1721424 fourth (by decide) (by decide)
  have hp : lawPlace d 1721424 fourth < 4 := P.lt
  have e1 := fourth_pre_sar ⟨_, hp⟩
  have e2 := fourth_at_sar ⟨_, hp⟩
  have e3 := P.eq
  have e4 := P.below
  have e5 := P.nonneg
  have hz : lawSize d 1721424 fourth = fourth.getD (lawPlace d 1721424 fourth) 0 := rfl
  have hsum : fourth.sum = 1461 := by decide
  have hq : (off (lawDoy d 1721424 fourth) (sizes2 (lawSize d 1721424 fourth))).1 < 12 := off_lt (zs := sizes2 _) (by rw [sum_sizes2, hz]; exact e4) (show 0 < 12 by decide)
  have f1 := off_eq (sizes2 (lawSize d 1721424 fourth)) (lawDoy d 1721424 fourth) hq
  have f2 := off_nonneg (sizes2 (lawSize d 1721424 fourth)) _ e5
  have f3 := off_rest_lt (zs := sizes2 (lawSize d 1721424 fourth)) (r := lawDoy d 1721424 fourth) hq
  have hi : lat d = (1 + (d - 1721424).fdiv fourth.sum * 4 + lawPlace d 1721424 fourth, ((off (lawDoy d 1721424 fourth) (sizes2 (lawSize d 1721424 fourth))).1 : Int) + 1, (off (lawDoy d 1721424 fourth) (sizes2 (lawSize d 1721424 fourth))).2 + 1) := rfl
  rw [fdiv_lit _ (by decide)] at hi
  rw [hsum] at hi e3
  rw [hi]
  generalize (off (lawDoy d 1721424 fourth) (sizes2 (lawSize d 1721424 fourth))).1 = q at *
  generalize (off (lawDoy d 1721424 fourth) (sizes2 (lawSize d 1721424 fourth))).2 = r at *
  generalize (d - 1721424) / 1461 = L at *
  generalize lawDoy d 1721424 fourth = x at *
  rw [hz] at f1 f3
  generalize lawPlace d 1721424 fourth = p at *
  simp only at e1 e2
  rw [e1] at e3
  rw [e2] at e4 f1 f3
  have hm := rmonth (((p : Int) + 1) / 4) q hq
  generalize ((sizes2 (365 + ((p : Int) + 1) / 4)).take q).sum = pp at *
  generalize (sizes2 (365 + ((p : Int) + 1) / 4)).getD q 0 = n at *
  clear hi hz hsum P e1 e2
  refine ⟨1 + L * 4 + p, q, r, n, ((p : Int) + 1) / 4, pp, ⟨hm, f2, f3, by omega, ?_⟩, rfl⟩
  have hp4 : p = 0 ∨ p = 1 ∨ p = 2 ∨ p = 3 := by omega
  rcases hp4 with rfl | rfl | rfl | rfl <;> omega
theorem latFrom_eq (d : Int) : julFrom d = lat d := by
  obtain ⟨y, q, r, n, lp, p, h, h5⟩ := lat_is d
  rw [h5]
  exact (lat_rep h).1
theorem latJd_eq (d : Int) : julJd (lat d).1 (lat d).2.1 (lat d).2.2 = d := by
  obtain ⟨y, q, r, n, lp, p, h, h5⟩ := lat_is d
  rw [h5]
  exact (lat_rep h).2
theorem lat_legal (d : Int) : 0 < (lat d).2.2 ∧ (lat d).2.2 ≤ julLen (lat d).1 (lat d).2.1 := by
  obtain ⟨y, q, r, n, lp, p, h, h5⟩ := lat_is d
  rw [h5]
  simp only
  rw [lat_len h]
  have := h.r0
  have := h.rn
  omega

-- ---------- Gregorian ----------
structure RomAt (d y : Int) (q : Nat) (r n lp p : Int) : Prop where
  month : RMonth q lp p n
  r0 : 0 ≤ r
  rn : r < n
  leap : (lp = 1 ∧ isleap y = true) ∨ (lp = 0 ∧ isleap y = false)
  eq : d = 1721426 + 365 * (y - 1) + (y - 1) / 4 - (y - 1) / 100 + (y - 1) / 400 + p + r

theorem rom_dim {d y r n lp p : Int} {q : Nat} (h : RomAt d y q r n lp p) : dimG y ((q : Int) + 1) = n := by
  obtain ⟨h1, h2, h3, h4, h5⟩ := h
  unfold dimG
  rcases h1 with h | h | h | h | h | h | h | h | h | h | h | h <;> obtain ⟨rfl, rfl, rfl⟩ := h
  · rfl
  · rw [if_pos (by rfl)]
    rcases h4 with ⟨rfl, h⟩ | ⟨rfl, h⟩ <;> rw [h] <;> rfl
  all_goals rfl
theorem rom_jd {d y r n lp p : Int} {q : Nat} (h : RomAt d y q r n lp p) : gJd y ((q : Int) + 1) (r + 1) = d := by
  obtain ⟨h1, h2, h3, h4, h5⟩ := h
  unfold gJd
  rcases h4 with ⟨rfl, h⟩ | ⟨rfl, h⟩ <;> rw [h] <;> rcases h1 with h | h | h | h | h | h | h | h | h | h | h | h <;> obtain ⟨rfl, rfl, rfl⟩ := h <;> simp <;> omega
theorem rom_year {d y x lp : Int} (h0 : 0 ≤ x) (h1 : x < 365 + lp) (hl : (lp = 1 ∧ isleap y = true) ∨ (lp = 0 ∧ isleap y = false)) (hd : d = 1721426 + 365 * (y - 1) + (y - 1) / 4 - (y - 1) / 100 + (y - 1) / 400 + x) : gYear d = y := by
  obtain ⟨a, b, c, e, hy, hb, hc, he⟩ : ∃ a b c e, y = 400 * a + 100 * b + 4 * c + e + 1 ∧ (0 ≤ b ∧ b ≤ 3) ∧ (0 ≤ c ∧ c ≤ 24) ∧ (0 ≤ e ∧ e ≤ 3) :=
    ⟨(y - 1) / 400, (y - 1) % 400 / 100, (y - 1) % 100 / 4, (y - 1) % 4, by omega, by omega, by omega, by omega⟩
  have hx : d - 1721426 = 146097 * a + (36524 * b + 1461 * c + 365 * e + x) := by omega
  have hleap : lp = 1 → e = 3 ∧ (c = 24 → b = 3) := by
    rcases hl with ⟨_, hl⟩ | ⟨hl, _⟩
    · intro _
      unfold isleap at hl
      simp only [Bool.and_eq_true, Bool.or_eq_true, decide_eq_true_eq, Bool.not_eq_true', decide_eq_false_iff_not] at hl
      obtain ⟨k1, k2⟩ := hl
      omega
    · omega
  have hlp : lp = 0 ∨ lp = 1 := by omega
  have hnot : e = 3 → lp = 0 → c = 24 ∧ b ≠ 3 := by
    rcases hl with ⟨hl, _⟩ | ⟨_, hl⟩
    · omega
    · intro he3 _
      unfold isleap at hl
      simp only [Bool.and_eq_false_iff, Bool.or_eq_false_iff, decide_eq_false_iff_not, Bool.not_eq_false', decide_eq_true_eq] at hl
      omega
  clear hd hl
  subst hy
  have q1 : (d - 1721426) / 146097 = a := by omega
  have q2 : (d - 1721426) % 146097 = 36524 * b + 1461 * c + 365 * e + x := by omega
  unfold gYear
  rw [q1, q2]
  clear q1 q2 hx
  by_cases hall : 36524 * b + 1461 * c + 365 * e + x = 146096
  · rw [hall]
    have : b = 3 ∧ c = 24 ∧ e = 3 := by omega
    obtain ⟨rfl, rfl, rfl⟩ := this
    rw [if_pos (.inl (by decide))]
    omega
  · have r1 : (36524 * b + 1461 * c + 365 * e + x) / 36524 = b := by omega
    have r2 : (36524 * b + 1461 * c + 365 * e + x) % 36524 = 1461 * c + 365 * e + x := by omega
    have r3 : (1461 * c + 365 * e + x) / 1461 = c := by omega
    have r4 : (1461 * c + 365 * e + x) % 1461 = 365 * e + x := by omega
    rw [r1, r2, r3, r4]
    by_cases hx : x = 365
    · have he : e = 3 := by omega
      rw [if_pos (.inr (by omega))]
      omega
    · have r5 : (365 * e + x) / 365 = e := by omega
      rw [r5, if_neg (by omega)]
      omega
theorem rom_first (y : Int) : gJd y 1 1 = 1721426 + 365 * (y - 1) + (y - 1) / 4 - (y - 1) / 100 + (y - 1) / 400 := by
  unfold gJd
  rw [if_pos (by decide)]
  omega
theorem rmonth_bounds {q : Nat} {l p n : Int} (h : RMonth q l p n) (hl : l = 0 ∨ l = 1) : 0 ≤ p ∧ p + n ≤ 365 + l := by
  rcases h with h | h | h | h | h | h | h | h | h | h | h | h <;> obtain ⟨rfl, rfl, rfl⟩ := h <;> omega
theorem rom_rep {d y r n lp p : Int} {q : Nat} (h : RomAt d y q r n lp p) : gFrom d = (y, (q : Int) + 1, r + 1) := by
  have hl : lp = 0 ∨ lp = 1 := by have := h.leap; omega
  have hb := rmonth_bounds h.month hl
  have hr0 := h.r0
  have hrn := h.rn
  have hY : gYear d = y := rom_year (x := p + r) (by omega) (by omega) h.leap (by have := h.eq; omega)
  have hw : d - gJd y 1 1 = p + r := by rw [rom_first]; have := h.eq; omega
  have hM : gMonth d y = (q : Int) + 1 := by
    unfold gMonth
    rw [hw]
    obtain ⟨h1, h2, h3, h4, h5⟩ := h
    clear hY hw h5
    rcases h4 with ⟨rfl, h⟩ | ⟨rfl, h⟩ <;> rw [h] <;> rcases h1 with h | h | h | h | h | h | h | h | h | h | h | h <;> obtain ⟨rfl, rfl, rfl⟩ := h <;> simp <;> (try split) <;> omega
  have hD : gJd y ((q : Int) + 1) 1 = d - r := by
    have := rom_jd (d := d - r) (y := y) (q := q) (r := 0) (n := n) (lp := lp) (p := p) ⟨h.month, Int.le_refl _, by omega, h.leap, by have := h.eq; omega⟩
    simpa using this
  unfold gFrom
  rw [hY, hM, hD]
  simp only [Prod.mk.injEq, true_and]
  omega

theorem rom_is (d : Int) : ∃ (y : Int) (q : Nat) (r n lp p : Int), RomAt d y q r n lp p ∧ rom d = (y, (q : Int) + 1, r + 1) := by
  have hlen : gLen (rYear d) = 365 + (if isleap (rYear d) = true then 1 else 0) := by
    unfold gLen
    split <;> rfl
  have h0 : 0 ≤ rDoy d := by
    have := rR2_pos d
    unfold rDoy rI
    omega
  have h1 : rDoy d < gLen (rYear d) := by
    have h3 := rom_last d
    have hR := rR2_pos d
    have hI : rI d = min 3 (rR2 d / 365) := rfl
    by_cases c : rI d = 3
    · have hy : rYear d = rY0 d + 100 * rC d + 4 * rK d + 3 := by
        unfold rYear
        rw [c]
      rw [hy]
      have : rDoy d = rR2 d - 365 * 3 := by
        unfold rDoy
        rw [c]
      omega
    · have : 365 ≤ gLen (rYear d) := by
        unfold gLen
        split <;> decide
      unfold rDoy
      omega
  have hq : (off (rDoy d) (sizes2 (gLen (rYear d)))).1 < 12 := off_lt (zs := sizes2 _) (by rw [sum_sizes2]; exact h1) (show 0 < 12 by decide)
  have f1 := off_eq (sizes2 (gLen (rYear d))) (rDoy d) hq
  have f2 := off_nonneg (sizes2 (gLen (rYear d))) _ h0
  have f3 := off_rest_lt (zs := sizes2 (gLen (rYear d))) (r := rDoy d) hq
  have hi : rom d = (rYear d, ((off (rDoy d) (sizes2 (gLen (rYear d)))).1 : Int) + 1, (off (rDoy d) (sizes2 (gLen (rYear d)))).2 + 1) := rfl
  rw [hi]
  generalize (off (rDoy d) (sizes2 (gLen (rYear d)))).1 = q at *
  generalize (off (rDoy d) (sizes2 (gLen (rYear d)))).2 = r at *
  rw [hlen] at f1 f3
  have hm := rmonth (if isleap (rYear d) = true then 1 else 0) q hq
  refine ⟨rYear d, q, r, _, _, _, ⟨hm, f2, f3, ?_, ?_⟩, rfl⟩
  · cases isleap (rYear d)
    · exact .inr ⟨rfl, rfl⟩
    · exact .inl ⟨rfl, rfl⟩
  · generalize ((sizes2 (365 + if isleap (rYear d) = true then 1 else 0)).take q).sum = pp at *
    have k0 : rR0 d = (d - 1721426) % 146097 := rfl
    have k1 : rC d = min 3 (rR0 d / 36524) := rfl
    have k2 : rR1 d = rR0 d - 36524 * rC d := rfl
    have k3 : rK d = min 24 (rR1 d / 1461) := rfl
    have k4 : rR2 d = rR1 d - 1461 * rK d := rfl
    have k5 : rI d = min 3 (rR2 d / 365) := rfl
    have k6 : rDoy d = rR2 d - 365 * rI d := rfl
    have k7 : rYear d = 400 * ((d - 1721426) / 146097) + 1 + 100 * rC d + 4 * rK d + rI d := rfl
    have p0 := rR0_pos d
    have p1 := rR1_pos d
    have p2 := rR2_pos d
    clear h1 hlen f2 f3 hm hi hq
    have b1 : 0 ≤ rC d ∧ rC d ≤ 3 := by omega
    have b2 : 0 ≤ rK d ∧ rK d ≤ 24 := by omega
    have b3 : 0 ≤ rI d ∧ rI d ≤ 3 := by omega
    have e0 : d = 1721426 + 146097 * ((d - 1721426) / 146097) + rR0 d := by omega
    clear k0 k1 k3 k5
    generalize (d - 1721426) / 146097 = Q at *
    have y4 : (rYear d - 1) / 4 = 100 * Q + 25 * rC d + rK d := by omega
    have y100 : (rYear d - 1) / 100 = 4 * Q + rC d := by omega
    have y400 : (rYear d - 1) / 400 = Q := by omega
    rw [y4, y100, y400]
    omega
theorem gFrom_eq (d : Int) : gFrom d = rom d := by
  obtain ⟨y, q, r, n, lp, p, h, h5⟩ := rom_is d
  rw [h5]
  exact rom_rep h
theorem gJd_eq (d : Int) : gJd (rom d).1 (rom d).2.1 (rom d).2.2 = d := by
  obtain ⟨y, q, r, n, lp, p, h, h5⟩ := rom_is d
  rw [h5]
  exact rom_jd h
theorem rom_legal (d : Int) : 0 < (rom d).2.2 ∧ (rom d).2.2 ≤ dimG (rom d).1 (rom d).2.1 := by
  obtain ⟨y, q, r, n, lp, p, h, h5⟩ := rom_is d
  rw [h5]
  simp only
  rw [rom_dim h]
  have := h.r0
  have := h.rn
  omega

section
variable {prog : Program} {w : World} {A : Around} {E : Value → Shared → Prop} {s : Shared} {h₀ : Heap} {L a b : Addr} {m : Str → Option Value} {news : List (Addr × Obj)}
theorem eqvAll_self : ∀ ns : List Int, PyData.eqvAll (ns.map PyData.int) (ns.map PyData.int) = true := fun ns => by
  rw [ked_eqvAll]
  exact decide_eq_true rfl
theorem tup3_reads {h : Heap} {y m d : Int} {t1 t2 t3 : Tok} {c : Nat} (N : News h₀ L h news) (ha : (a, tup3 y m d t1 t2 t3 c) ∈ news) : ∃ as, Reads h (.ref a) (.tuple [.int y, .int m, .int d]) as :=
  ⟨_, reads_tuple_at (News.get N ha) rfl rfl (.cons (.int _ _) (.cons (.int _ _) (.cons (.int _ _) .nil)))⟩
theorem eq_tup3 {y m d : Int} {t1 t2 t3 u1 u2 u3 : Tok} {c c' : Nat} {Q : Value → Shared → Prop} (N : News h₀ L s.heap news) (ha : (a, tup3 y m d t1 t2 t3 c) ∈ news) (hb : (b, tup3 y m d u1 u2 u3 c') ∈ news) (hu : A.units + 64 < cLine) (h : Q (.bool true) s) :
    wpAny (model prog w) A (compareOp .Eq (.ref a) (.ref b)) Q E s := by
  obtain ⟨as, ra⟩ := tup3_reads N ha
  obtain ⟨bs, rb⟩ := tup3_reads N hb
  refine eq_dataH ra rb rfl rfl hu ?_
  have e : PyData.eqv (.tuple [.int y, .int m, .int d]) (.tuple [.int y, .int m, .int d]) = true := by
    simp [PyData.eqv, PyData.eqvAll]
  rw [e]
  exact h
theorem ne_tup3 {y m d : Int} {t1 t2 t3 u1 u2 u3 : Tok} {c c' : Nat} {Q : Value → Shared → Prop} (N : News h₀ L s.heap news) (ha : (a, tup3 y m d t1 t2 t3 c) ∈ news) (hb : (b, tup3 y m d u1 u2 u3 c') ∈ news) (hu : A.units + 64 < cLine) (h : Q (.bool false) s) :
    wpAny (model prog w) A (compareOp .NotEq (.ref a) (.ref b)) Q E s := by
  obtain ⟨as, ra⟩ := tup3_reads N ha
  obtain ⟨bs, rb⟩ := tup3_reads N hb
  refine ne_dataH ra rb rfl rfl hu ?_
  have e : PyData.eqv (.tuple [.int y, .int m, .int d]) (.tuple [.int y, .int m, .int d]) = true := by
    simp [PyData.eqv, PyData.eqvAll]
  rw [e]
  exact h
end

local macro_rules | `(tactic| wtm_at "cal units") => `(tactic| first | ktr_units | (simp only [units_deeper, units_in1, Around.mark_units, ktrTop] at *; omega))

-- two dates that are the same
local macro_rules | `(tactic| tm_at "cal:compareOp Eq ref ref") => `(tactic| (k_here; (with_reducible show wpAny _ _ (compareOp CmpOp.Eq (Value.ref _) (Value.ref _)) _ _ _); k_dflt (refine' eq_tup3 ?N ?a ?b ?u ?_; (case N => k_asm); (case a => wtm_at "cal mem"); (case b => wtm_at "cal mem"); (case u => wtm_at "cal units"); k_whole)))

local macro_rules | `(tactic| tm_at "cal:compareOp NotEq ref ref") => `(tactic| (k_here; (with_reducible show wpAny _ _ (compareOp CmpOp.NotEq (Value.ref _) (Value.ref _)) _ _ _); k_dflt (refine' ne_tup3 ?N ?a ?b ?u ?_; (case N => k_asm); (case a => wtm_at "cal mem"); (case b => wtm_at "cal mem"); (case u => wtm_at "cal units"); k_whole)))

-- the same number, the same bool
local macro_rules | `(tactic| tm_at "cal:ite") => `(tactic| first
  | (refine if_f (bne_self_eq_false _) ?_)
  | (refine if_t (beq_self_eq_true _) ?_))

section
variable {w : World} {loose : List Str} {mean : ExcName → Option Value} {mg mb : Str → Option Value} {news : List (Addr × Obj)} {e : Int} {ty tm td t1 t2 t3 tk : Tok} {D S : Addr} {c c' : Nat} {vs : List Value}

-- the law's own words for the dates of the day e
theorem s_gJd : Con w loose mean mg mb 3 43 [.int (rom e).1 ty, .int (rom e).2.1 tm, .int (rom e).2.2 td] True news (RetI e) := by
  have h := c_gJd (w := w) (loose := loose) (mean := mean) (mg := mg) (mb := mb) (news := news) (y := (rom e).1) (m := (rom e).2.1) (d := (rom e).2.2) (ty := ty) (tm := tm) (td := td)
  rw [gJd_eq] at h
  exact fun _ _ _ _ _ _ _ _ _ _ _ _ _ _ _ _ _ B F X N T hk _ => h _ _ _ _ _ _ _ _ _ _ _ _ _ _ _ _ _ B F X N T hk (rom_legal e)
theorem con_pre {k : Nat} {f : Addr} {us : List Value} {P : Prop} {R : RetTy} (hP : P) (h : Con w loose mean mg mb k f us P news R) : Con w loose mean mg mb k f us True news R :=
  fun _ _ _ _ _ _ _ _ _ _ _ _ _ _ _ _ _ B F X N T hk _ => h _ _ _ _ _ _ _ _ _ _ _ _ _ _ _ _ _ B F X N T hk hP

-- Islamic
theorem s_islFrom : Con w loose mean mg mb 3 72 [.int e ty] True news (RetT3 (isl e)) := islFrom_eq e ▸ c_islFrom
theorem s_islJd : Con w loose mean mg mb 1 65 [.int (isl e).1 ty, .int (isl e).2.1 tm, .int (isl e).2.2 td] True news (RetI e) := by
  have h := c_islJd (w := w) (loose := loose) (mean := mean) (mg := mg) (mb := mb) (news := news) (y := (isl e).1) (m := (isl e).2.1) (d := (isl e).2.2) (ty := ty) (tm := tm) (td := td)
  rwa [islJd_eq] at h
theorem s_islLeap : Con w loose mean mg mb 1 58 [.int (isl e).1 ty] True news (RetB ((sizes0 (lawSize e 1948440 thirty)).getD 11 0 == 30)) := isl_leap_eq e ▸ c_islLeap
theorem s_islLen : Con w loose mean mg mb 3 93 [.int (isl e).1 ty, .int (isl e).2.1 tm] True news (RetI ((sizes0 (lawSize e 1948440 thirty)).getD ((isl e).2.1 - 1).toNat 0)) := isl_len_eq e ▸ c_islLen
theorem s_islToG : Con w loose mean mg mb 7 86 [.int (isl e).1 ty, .int (isl e).2.1 tm, .int (isl e).2.2 td] True news (RetT3 (rom e)) := by
  have h := c_islToG (w := w) (loose := loose) (mean := mean) (mg := mg) (mb := mb) (news := news) (y := (isl e).1) (m := (isl e).2.1) (d := (isl e).2.2) (ty := ty) (tm := tm) (td := td)
  rwa [islJd_eq, gFrom_eq] at h
theorem s_islFromG : Con w loose mean mg mb 7 79 [.int (rom e).1 ty, .int (rom e).2.1 tm, .int (rom e).2.2 td] True news (RetT3 (isl e)) := by
  have h := c_islFromG (w := w) (loose := loose) (mean := mean) (mg := mg) (mb := mb) (news := news) (y := (rom e).1) (m := (rom e).2.1) (d := (rom e).2.2) (ty := ty) (tm := tm) (td := td)
  rw [gJd_eq, islFrom_eq] at h
  exact con_pre (rom_legal e) h
theorem s_islNext (hD : (D, tup3 (isl e).1 (isl e).2.1 (isl e).2.2 t1 t2 t3 c) ∈ news) (hS : (S, listObj vs c') ∈ news) (hi : IntsAre vs (sizes0 (lawSize e 1948440 thirty))) :
    Con w loose mean mg mb 1 309 [.ref D, .ref S] True news (RetT3 (isl (e + 1))) := by
  have h := c_next (w := w) (loose := loose) (mean := mean) (mg := mg) (mb := mb) (r := isl e) hD hS hi (show 12 < 100 by decide)
  rw [isl_next] at h
  exact con_pre (isl_month_in e) h
theorem s_islDate : Con w loose mean mg mb 3 283 [.int e td, .int 1948440 ty, .int 1 tm, .ref 259, .int 0 tk] True news (RetDate (isl e) (sizes0 (lawSize e 1948440 thirty))) := c_dateIsl
end

local macro_rules | `(tactic| tm_at "cal:call ref") => `(tactic| (k_here; (with_reducible show wpAny _ _ (call (Value.ref (72 : Nat)) _) _ _ _); k_dflt (first
  | refine' con_use s_islFrom ?cB ?cF ?cX ?cN ?cT ?cK ?cp ?cd ?cu ?_); wtm_at "cal use"))

local macro_rules | `(tactic| tm_at "cal:call ref") => `(tactic| (k_here; (with_reducible show wpAny _ _ (call (Value.ref (65 : Nat)) _) _ _ _); k_dflt (first
  | refine' con_use s_islJd ?cB ?cF ?cX ?cN ?cT ?cK ?cp ?cd ?cu ?_); wtm_at "cal use"))

local macro_rules | `(tactic| tm_at "cal:call ref") => `(tactic| (k_here; (with_reducible show wpAny _ _ (call (Value.ref (58 : Nat)) _) _ _ _); k_dflt (first
  | refine' con_use s_islLeap ?cB ?cF ?cX ?cN ?cT ?cK ?cp ?cd ?cu ?_); wtm_at "cal use"))

local macro_rules | `(tactic| tm_at "cal:call ref") => `(tactic| (k_here; (with_reducible show wpAny _ _ (call (Value.ref (93 : Nat)) _) _ _ _); k_dflt (first
  | refine' con_use s_islLen ?cB ?cF ?cX ?cN ?cT ?cK ?cp ?cd ?cu ?_); wtm_at "cal use"))

local macro_rules | `(tactic| tm_at "cal:call ref") => `(tactic| (k_here; (with_reducible show wpAny _ _ (call (Value.ref (86 : Nat)) _) _ _ _); k_dflt (first
  | refine' con_use s_islToG ?cB ?cF ?cX ?cN ?cT ?cK ?cp ?cd ?cu ?_); wtm_at "cal use"))

local macro_rules | `(tactic| tm_at "cal:call ref") => `(tactic| (k_here; (with_reducible show wpAny _ _ (call (Value.ref (79 : Nat)) _) _ _ _); k_dflt (first
  | refine' con_use s_islFromG ?cB ?cF ?cX ?cN ?cT ?cK ?cp ?cd ?cu ?_); wtm_at "cal use"))

local macro_rules | `(tactic| tm_at "cal:call ref") => `(tactic| (k_here; (with_reducible show wpAny _ _ (call (Value.ref (283 : Nat)) _) _ _ _); k_dflt (first
  | refine' con_use s_islDate ?cB ?cF ?cX ?cN ?cT ?cK ?cp ?cd ?cu ?_); wtm_at "cal use"))

local macro_rules | `(tactic| tm_at "cal:call ref") => `(tactic| (k_here; (with_reducible show wpAny _ _ (call (Value.ref (309 : Nat)) _) _ _ _); k_dflt (refine' con_use (s_islNext ?zD ?zS ?zi) ?cB ?cF ?cX ?cN ?cT ?cK ?cp ?cd ?cu ?_; (case cN => k_asm); (case zD => k_mem); (case zS => k_mem); (case zi => assumption)); wtm_at "cal use"))

-- a place of a list of the ledger, by a written index
local macro_rules | `(tactic| tm_at "cal:subscriptTail Name Constant ref int") => `(tactic| (k_here; (with_reducible show wpAny _ _ (subscriptTail _ _ (Value.ref _) (Value.int 11 _)) _ _ _); k_dflt (refine' item_seq ?q ?X ?F ?N ?a ?b ?c ?_; (case F => k_asm); (case X => k_asm); (case N => k_asm); (case q => (refine' seq_made ?zm ?zi; (case zm => k_mem); (case zi => assumption))); (case a => decide); (case b => exact (by decide : (11 : Nat) < 12)); (case c => decide); k_whole); intro t9))

section
variable {w : World} {loose : List Str} {mean : ExcName → Option Value} {mg mb : Str → Option Value} {news : List (Addr × Obj)} {d : Int} {td t1 t2 t3 : Tok} {R : Addr} {c : Nat}

theorem c_lawIsl (hR : (R, tup3 (rom d).1 (rom d).2.1 (rom d).2.2 t1 t2 t3 c) ∈ news) : Con w loose mean mg mb 30 316 [.int d td, .ref R] True news (RetB true) := by
  wtm_at "cal open"
  have hm := isl_month_in d
  have hb : Binds [(Str.ofString "roman", .ref R), (Str.ofString "day", .int d td)] := trivial
  wtm_at "cal go"
  k_steps
  wtm_at "cal end"
  rfl
end

local macro_rules | `(tactic| tm_at "cal:call ref") => `(tactic| (k_here; (with_reducible show wpAny _ _ (call (Value.ref (316 : Nat)) _) _ _ _); k_dflt (refine' con_use (c_lawIsl ?zR) ?cB ?cF ?cX ?cN ?cT ?cK ?cp ?cd ?cu ?_; (case cN => k_asm); (case zR => wtm_at "cal mem")); wtm_at "cal use"))

section
variable {w : World} {loose : List Str} {mean : ExcName → Option Value} {mg mb : Str → Option Value} {news : List (Addr × Obj)} {e : Int} {ty tm td t1 t2 t3 tk : Tok} {D S : Addr} {c c' : Nat} {vs : List Value}
theorem s_copFrom : Con w loose mean mg mb 3 114 [.int e ty] True news (RetT3 (cop e)) := copFrom_eq e ▸ c_copFrom
theorem s_copJd : Con w loose mean mg mb 1 107 [.int (cop e).1 ty, .int (cop e).2.1 tm, .int (cop e).2.2 td] True news (RetI e) := by
  have h := c_copJd (w := w) (loose := loose) (mean := mean) (mg := mg) (mb := mb) (news := news) (y := (cop e).1) (m := (cop e).2.1) (d := (cop e).2.2) (ty := ty) (tm := tm) (td := td)
  rwa [copJd_eq] at h
theorem s_copLeap : Con w loose mean mg mb 1 100 [.int (cop e).1 ty] True news (RetB ((sizes1 (lawSize e 1825030 third)).getD 12 0 == 6)) := cop_leap_eq e ▸ c_copLeap
theorem s_copLen : Con w loose mean mg mb 3 135 [.int (cop e).1 ty, .int (cop e).2.1 tm] True news (RetI ((sizes1 (lawSize e 1825030 third)).getD ((cop e).2.1 - 1).toNat 0)) :=
  con_pre (cop_month_in e).2 (cop_len_eq e ▸ c_copLen)
theorem s_copToG : Con w loose mean mg mb 7 121 [.int (cop e).1 ty, .int (cop e).2.1 tm, .int (cop e).2.2 td] True news (RetT3 (rom e)) := by
  have h := c_copToG (w := w) (loose := loose) (mean := mean) (mg := mg) (mb := mb) (news := news) (y := (cop e).1) (m := (cop e).2.1) (d := (cop e).2.2) (ty := ty) (tm := tm) (td := td)
  rwa [copJd_eq, gFrom_eq] at h
theorem s_copFromG : Con w loose mean mg mb 7 128 [.int (rom e).1 ty, .int (rom e).2.1 tm, .int (rom e).2.2 td] True news (RetT3 (cop e)) := by
  have h := c_copFromG (w := w) (loose := loose) (mean := mean) (mg := mg) (mb := mb) (news := news) (y := (rom e).1) (m := (rom e).2.1) (d := (rom e).2.2) (ty := ty) (tm := tm) (td := td)
  rw [gJd_eq, copFrom_eq] at h
  exact con_pre (rom_legal e) h
theorem s_copNext (hD : (D, tup3 (cop e).1 (cop e).2.1 (cop e).2.2 t1 t2 t3 c) ∈ news) (hS : (S, listObj vs c') ∈ news) (hi : IntsAre vs (sizes1 (lawSize e 1825030 third))) :
    Con w loose mean mg mb 1 309 [.ref D, .ref S] True news (RetT3 (cop (e + 1))) := by
  have h := c_next (w := w) (loose := loose) (mean := mean) (mg := mg) (mb := mb) (r := cop e) hD hS hi (show 13 < 100 by decide)
  rw [cop_next] at h
  exact con_pre (cop_month_in e) h
theorem s_copDate : Con w loose mean mg mb 3 283 [.int e td, .int 1825030 ty, .int 1 tm, .ref 260, .int 1 tk] True news (RetDate (cop e) (sizes1 (lawSize e 1825030 third))) := c_dateCop
end

local macro_rules | `(tactic| tm_at "cal:call ref") => `(tactic| (k_here; (with_reducible show wpAny _ _ (call (Value.ref (114 : Nat)) _) _ _ _); k_dflt (first
  | refine' con_use s_copFrom ?cB ?cF ?cX ?cN ?cT ?cK ?cp ?cd ?cu ?_); wtm_at "cal use"))

local macro_rules | `(tactic| tm_at "cal:call ref") => `(tactic| (k_here; (with_reducible show wpAny _ _ (call (Value.ref (107 : Nat)) _) _ _ _); k_dflt (first
  | refine' con_use s_copJd ?cB ?cF ?cX ?cN ?cT ?cK ?cp ?cd ?cu ?_); wtm_at "cal use"))

local macro_rules | `(tactic| tm_at "cal:call ref") => `(tactic| (k_here; (with_reducible show wpAny _ _ (call (Value.ref (100 : Nat)) _) _ _ _); k_dflt (first
  | refine' con_use s_copLeap ?cB ?cF ?cX ?cN ?cT ?cK ?cp ?cd ?cu ?_); wtm_at "cal use"))

local macro_rules | `(tactic| tm_at "cal:call ref") => `(tactic| (k_here; (with_reducible show wpAny _ _ (call (Value.ref (135 : Nat)) _) _ _ _); k_dflt (first
  | refine' con_use s_copLen ?cB ?cF ?cX ?cN ?cT ?cK ?cp ?cd ?cu ?_); wtm_at "cal use"))

local macro_rules | `(tactic| tm_at "cal:call ref") => `(tactic| (k_here; (with_reducible show wpAny _ _ (call (Value.ref (121 : Nat)) _) _ _ _); k_dflt (first
  | refine' con_use s_copToG ?cB ?cF ?cX ?cN ?cT ?cK ?cp ?cd ?cu ?_); wtm_at "cal use"))

local macro_rules | `(tactic| tm_at "cal:call ref") => `(tactic| (k_here; (with_reducible show wpAny _ _ (call (Value.ref (128 : Nat)) _) _ _ _); k_dflt (first
  | refine' con_use s_copFromG ?cB ?cF ?cX ?cN ?cT ?cK ?cp ?cd ?cu ?_); wtm_at "cal use"))

local macro_rules | `(tactic| tm_at "cal:call ref") => `(tactic| (k_here; (with_reducible show wpAny _ _ (call (Value.ref (283 : Nat)) _) _ _ _); k_dflt (first
  | refine' con_use s_copDate ?cB ?cF ?cX ?cN ?cT ?cK ?cp ?cd ?cu ?_); wtm_at "cal use"))

local macro_rules | `(tactic| tm_at "cal:call ref") => `(tactic| (k_here; (with_reducible show wpAny _ _ (call (Value.ref (309 : Nat)) _) _ _ _); k_dflt (refine' con_use (s_copNext ?zD ?zS ?zi) ?cB ?cF ?cX ?cN ?cT ?cK ?cp ?cd ?cu ?_; (case cN => k_asm); (case zD => k_mem); (case zS => k_mem); (case zi => assumption)); wtm_at "cal use"))

-- a place of a list of the ledger, by a written index
local macro_rules | `(tactic| tm_at "cal:subscriptTail Name Constant ref int") => `(tactic| (k_here; (with_reducible show wpAny _ _ (subscriptTail _ _ (Value.ref _) (Value.int 12 _)) _ _ _); k_dflt (refine' item_seq ?q ?X ?F ?N ?a ?b ?c ?_; (case F => k_asm); (case X => k_asm); (case N => k_asm); (case q => (refine' seq_made ?zm ?zi; (case zm => k_mem); (case zi => assumption))); (case a => decide); (case b => exact (by decide : (12 : Nat) < 13)); (case c => decide); k_whole); intro t9))

section
variable {w : World} {loose : List Str} {mean : ExcName → Option Value} {mg mb : Str → Option Value} {news : List (Addr × Obj)} {d : Int} {td t1 t2 t3 : Tok} {R : Addr} {c : Nat}

theorem c_lawCop (hR : (R, tup3 (rom d).1 (rom d).2.1 (rom d).2.2 t1 t2 t3 c) ∈ news) : Con w loose mean mg mb 30 323 [.int d td, .ref R] True news (RetB true) := by
  wtm_at "cal open"
  have hm := cop_month_in d
  have hb : Binds [(Str.ofString "roman", .ref R), (Str.ofString "day", .int d td)] := trivial
  wtm_at "cal go"
  k_steps
  wtm_at "cal end"
  rfl
end

local macro_rules | `(tactic| tm_at "cal:call ref") => `(tactic| (k_here; (with_reducible show wpAny _ _ (call (Value.ref (323 : Nat)) _) _ _ _); k_dflt (refine' con_use (c_lawCop ?zR) ?cB ?cF ?cX ?cN ?cT ?cK ?cp ?cd ?cu ?_; (case cN => k_asm); (case zR => wtm_at "cal mem")); wtm_at "cal use"))

-- items[:stop] of a written tuple of ints, its stop within it
theorem adjust_to (a n : Nat) (ha : a ≤ n) : Builtin.Slice.sliceAdjust none (some (a : Int)) 1 (n : Int) = ((0 : Int), (a : Int)) := by
  unfold Builtin.Slice.sliceAdjust
  have h1 : ¬ ((1 : Int) < 0) := by omega
  have h2 : ¬ ((a : Int) < 0) := by omega
  simp only [h1, h2, if_false]
  congr 1
  omega
theorem places_to (a : Nat) : Builtin.Slice.slicePlaces (0 : Int) (a : Int) 1 = a := by
  unfold Builtin.Slice.slicePlaces
  have h1 : (1 : Int) > 0 := by omega
  simp only [h1, if_true, Int.ediv_one]
  split <;> omega
theorem pick_to (xs : Array Value) (a : Nat) : ((List.range a).filterMap fun (k : Nat) => xs[((0 : Int) + (k : Int) * 1).toNat]?).toArray = (xs.toList.take a).toArray := by
  have e : (fun (k : Nat) => xs[((0 : Int) + (k : Int) * 1).toNat]?) = fun k => xs[0 + k]? := by
    funext k
    have : ((0 : Int) + (k : Int) * 1).toNat = 0 + k := by omega
    rw [this]
  rw [e]
  have := pick_run xs 0 a
  rw [List.filterMap_map] at this
  have e2 : ((fun x => xs[x]?) ∘ fun x => 0 + x) = fun k => xs[0 + k]? := rfl
  rw [e2] at this
  rw [this, List.drop_zero]

section
variable {prog : Program} {w : World} {A : Around} {E : Value → Shared → Prop} {s : Shared}
theorem sliceApplied_to {sl : Addr} {a n : Nat} {u : Tok} {Q : Int × Int × Nat → Shared → Prop} (hs : s.heap.IsSliceOf sl .none (.int a u) .none) (ha : a ≤ n) (h : Q (0, 1, a) s) :
    wpAny (model prog w) A (Builtin.Slice.sliceApplied (.ref sl) (pure (n : Int))) Q E s := by
  obtain ⟨os, hos, hcs, hds⟩ := id hs
  unfold Builtin.Slice.sliceApplied Builtin.Slice.sliceFields
  refine wpAny_bind (wpAny_bind (wpAny_field hos hds (x := .none) rfl (wpAny_bind (wpAny_field hos hds (x := .int a u) rfl (wpAny_bind (wpAny_field hos hds (x := .none) rfl (wpAny_pure ?_)))))))
  refine wpAny_bind (slicePart_none ?_)
  show wpAny _ _ (if ((1 : Int) == 0) = true then _ else _) _ _ s
  rw [if_neg (by decide)]
  refine wpAny_bind (slicePart_none (wpAny_bind (slicePart_int (wpAny_bind (wpAny_pure ?_)))))
  show wpAny _ _ (match Builtin.Slice.sliceAdjust none (some (a : Int)) 1 (n : Int) with | (lo, hi) => pure (lo, (1 : Int), Builtin.Slice.slicePlaces lo hi 1)) _ _ s
  rw [adjust_to a n ha]
  show wpAny _ _ (pure ((0 : Int), (1 : Int), Builtin.Slice.slicePlaces (0 : Int) (a : Int) 1)) _ _ s
  rw [places_to a]
  exact wpAny_pure h

theorem getItem_tuple_to {t sl : Addr} {items : Array Value} {a : Nat} {u : Tok} {Q : Value → Shared → Prop} (ht : IsTup s.heap t items) (hs : s.heap.IsSliceOf sl .none (.int a u) .none) (ha : a < items.size)
    (h : Q (.ref s.heap.objs.size) { s with heap := s.heap.push { cls := .type "tuple", data := .seq (items.toList.take a).toArray } })
    (hsz : items.size ≤ sizeLine) : wpAny (model prog w) A (getItem (.ref t) (.ref sl)) Q E s := by
  have htake : sizeOk (.seq (items.toList.take a).toArray) := by
    show (items.toList.take a).toArray.size ≤ sizeLine
    rw [List.size_toArray, List.length_take, Array.length_toList]
    omega
  obtain ⟨os, hos, hcs, hds⟩ := id hs
  have hTs : s.TypeIs (.ref sl) "slice" := ⟨os, hos, hcs⟩
  unfold getItem
  try with_reducible refine wpAny_holding ?_
  first | refine wpAny_bind (wpAny_pure ?_) | skip
  refine wpAny_bind (wpAny_sequenceKey ht.typeIs (by decide) ?_)
  refine wpAny_bind (wpAny_callSpecial?_slot (name := Str.ofString "__getitem__") ht.typeIs slot_tuple_getitem
    (wpAny_call_entry slot_tuple_getitem ht.typeIs entry_tuple_getitem ?_ (args_tuple_getitem _ _)))
  show wpAny _ _ (Builtin.Tuple.tupleItemsOf (.ref t) >>= _) _ _ s
  refine wpAny_bind (tupleItemsOf_ ht ?_)
  refine wpAny_bind (wpAny_typeOf hTs ?_)
  rw [if_pos (by decide)]
  refine wpAny_bind (sliceApplied_to hs (Nat.le_of_lt ha) ?_)
  have hno : ¬ (((0 : Int) == 0 && (1 : Int) == 1 && a == items.size) = true) := by
    have : (a == items.size) = false := by rw [beq_eq_false_iff_ne]; omega
    rw [this]; simp
  show wpAny _ _ (if ((0 : Int) == 0 && (1 : Int) == 1 && a == items.size) = true then _ else _) _ _ s
  rw [if_neg hno, pick_to items a]
  first
    | exact wpAny_bind (m := Builtin.Tuple.tupleExact _) (wpAny_newObj_type (wpAny_pure ⟨_, rfl, wpAny_pure h⟩) htake)
    | exact wpAny_bind (m := Builtin.Tuple.tupleExact _) (wpAny_newObj_type (wpAny_bind (wpAny_pure (wpAny_pure ⟨_, rfl, wpAny_pure h⟩))) htake)
    | exact wpAny_bind (wpAny_bind (m := Builtin.Tuple.tupleExact _) (wpAny_newObj_type (wpAny_pure (wpAny_pure ⟨_, rfl, wpAny_pure h⟩)) htake))
    | exact wpAny_bind (wpAny_bind (m := Builtin.Tuple.tupleExact _) (wpAny_newObj_type (wpAny_pure ⟨_, rfl, wpAny_pure h⟩) htake))

variable {K : Frag} {h₀ : Heap} {L t : Addr} {m : Str → Option Value} {news : List (Addr × Obj)}
theorem slice_tup_to {value slice : PySem.Expr} {vs : List Value} {ns : List Int} {od : Option Addr} {c : Nat} {sl : Array (Option Value)} {x : Int} {u : Tok} {Q : Value → Shared → Prop}
    (X : K.In h₀) (F : Fr h₀ L s.heap m) (N : News h₀ L s.heap news) (ho : K.lookup t = some ⟨.type "tuple", od, .seq vs.toArray c, sl⟩) (hi : IntsAre vs ns) (h0 : 0 ≤ x) (ha : x.toNat < ns.length) (hz : ns.length ≤ 1000)
    (h : ∀ D ws h', Fr h₀ L h' m → News h₀ L h' ((D, { cls := .type "tuple", data := .seq (List.toArray ws) }) :: news) → IntsAre ws (ns.take x.toNat) → Q (.ref D) { s with heap := h' })
    (hs : subscripted slice false (.ref t) (.ref s.heap.objs.size) = operate [.ref s.heap.objs.size, .ref t] (getItem (.ref t) (.ref s.heap.objs.size)))
    (hg : ∀ r, letTemporaryGo value (.ref t) r = pure ()) :
    wpAny (model prog w) A (subscriptTail value slice (.ref t) (.ref s.heap.objs.size)) Q E { s with heap := s.heap.push { cls := .type "slice", data := .fields #[.none, .int x u, .none] } } := by
  obtain ⟨a, rfl⟩ : ∃ a : Nat, x = (a : Int) := ⟨x.toNat, by omega⟩
  rw [Int.toNat_natCast] at ha h
  have ht : IsTup s.heap t vs.toArray := tupK X F ho
  have hlen : vs.toArray.size = ns.length := by rw [List.size_toArray, hi.length]
  have ht' : IsTup (s.heap.push { cls := .type "slice", data := .fields #[.none, .int a u, .none] }) t vs.toArray := ht.keeps fun _ _ e => Heap.get?_push_of_some _ e
  refine subscriptTail_ops (s := { s with heap := s.heap.push { cls := .type "slice", data := .fields #[.none, .int a u, .none] } }) ht'.typeIs slot_tuple_getitem.lookup
    (getItem_tuple_to ht' (Heap.IsSliceOf.new ..) (by rw [hlen]; exact ha) ?_ (by rw [hlen, sizeLine_eq]; omega)) hs hg
  have N1 := News.push (F.push { cls := .type "slice", data := .fields #[.none, .int a u, .none] }) (N.grown fun _ _ e => Heap.get?_push_of_some _ e) { cls := .type "tuple", data := .seq (vs.toArray.toList.take a).toArray }
  exact h _ _ _ ((F.push _).push _) N1 (hi.take a)
end

section
variable {prog : Program} {w : World} {A : Around} {E : Value → Shared → Prop} {s : Shared} {h₀ : Heap} {L l : Addr} {m : Str → Option Value} {news : List (Addr × Obj)}
theorem slice_list_to {value slice : PySem.Expr} {vs : List Value} {ns : List Int} {c : Nat} {x : Int} {u : Tok} {Q : Value → Shared → Prop}
    (F : Fr h₀ L s.heap m) (N : News h₀ L s.heap news) (hm : (l, listObj vs c) ∈ news) (hi : IntsAre vs ns) (h0 : 0 ≤ x) (hz : ns.length ≤ 1000)
    (h : ∀ D ws h', Fr h₀ L h' m → News h₀ L h' ((D, listOf (List.toArray ws) 0) :: news) → (∀ p ∈ news, p.1 < D) → IntsAre ws (ns.take x.toNat) → Q (.ref D) { s with heap := h' })
    (hs : subscripted slice false (.ref l) (.ref s.heap.objs.size) = operate [.ref s.heap.objs.size, .ref l] (getItem (.ref l) (.ref s.heap.objs.size)))
    (hg : ∀ r, letTemporaryGo value (.ref l) r = pure ()) :
    wpAny (model prog w) A (subscriptTail value slice (.ref l) (.ref s.heap.objs.size)) Q E { s with heap := s.heap.push { cls := .type "slice", data := .fields #[.none, .int x u, .none] } } :=
  kmk_slice_ints F N (News.isList N hm) .none (.int x u) hi (kmk_upto hi h0) rfl (fun D ws h' F' N' l1 hI _ _ => h D ws h' F' N' l1 hI) hs hg (kmk_sz hi (by rw [sizeLine_eq]; omega))
end

-- the stop of cycle[:place]
local macro_rules | `(tactic| wtm_at "cal stop") => `(tactic| first | with_reducible assumption | with_reducible exact fm_0 (by decide) | with_reducible exact fm_n (by decide) (by decide) | omega | (show _ < (1 : Nat); omega) | (show _ < (4 : Nat); omega))

local macro_rules | `(tactic| tm_at "cal:subscriptTail Name Slice ref ref") => `(tactic| (k_here; (with_reducible show wpAny _ _ (subscriptTail _ (PySem.Expr.Slice none _ none _) (Value.ref _) (Value.ref _)) _ _ _); k_dflt (refine' slice_tup_to ?X ?F ?N ?o ?i ?a ?b ?z ?_ ?s ?g; (case F => k_asm); (case X => k_asm); (case N => k_asm); (case o => k_is); (case i => repeat constructor); (case a => wtm_at "cal stop"); (case b => wtm_at "cal stop"); (case z => decide); (case s => with_unfolding_all rfl); (case g => kmk_pure)); intro D9 ws9 h9 F9 N9 i9; (try k_sweep); (try dsimp only)))

local macro_rules | `(tactic| tm_at "cal:subscriptTail Name Slice ref ref") => `(tactic| (k_here; (with_reducible show wpAny _ _ (subscriptTail _ (PySem.Expr.Slice none _ none _) (Value.ref _) (Value.ref _)) _ _ _); k_dflt (refine' slice_list_to ?F ?N ?m ?i ?a ?z ?_ ?s ?g; (case F => k_asm); (case N => k_asm); (case m => k_mem); (case i => with_reducible assumption); (case a => wtm_at "cal stop"); (case z => wtm_at "cal short"); (case s => with_unfolding_all rfl); (case g => kmk_pure)); intro D9 ws9 h9 F9 N9 l9 i9; (try k_sweep); (try dsimp only)))

local macro_rules | `(tactic| wtm_at "cal short") => `(tactic| first | decide | (show (12 : Nat) ≤ 1000; decide) | (show (13 : Nat) ≤ 1000; decide))

local macro_rules | `(tactic| tm_at "cal:call builtin:sum") => `(tactic| (k_here; (with_reducible show wpAny _ _ (call (Value.builtin "sum") [Value.ref _]) _ _ _); k_dflt (refine' ktm_sumK ?A ?F ?N ?m ?i ?_; (case F => k_asm); (case N => k_asm); (case m => k_mem); (case i => with_reducible assumption); (case A => with_unfolding_all rfl)); intro h9 tk9 t9 F9 N9; (try k_sweep); (try dsimp only)))

theorem take_sizes1 (z : Int) : ∀ k : Nat, k < 13 → (List.take k (sizes1 z)).sum = 30 * (k : Int) := by
  intro k hk
  have : k = 0 ∨ k = 1 ∨ k = 2 ∨ k = 3 ∨ k = 4 ∨ k = 5 ∨ k = 6 ∨ k = 7 ∨ k = 8 ∨ k = 9 ∨ k = 10 ∨ k = 11 ∨ k = 12 := by omega
  rcases this with rfl | rfl | rfl | rfl | rfl | rfl | rfl | rfl | rfl | rfl | rfl | rfl | rfl <;> rfl

theorem countN_eq {y m d : Int} (g1 : 1 ≤ m) (g2 : m ≤ 13) : 1922868 + (y - 1).fdiv 1 * plainC.sum + (List.take ((y - 1).fmod 1).toNat [365]).sum + (List.take (m - 1).toNat (sizes1 (plainC.getD ((y - 1).fmod 1).toNat 0))).sum + d - 1 = armJdN y m d := by
  have hf : (y - 1).fmod 1 = 0 := by rw [fmod_lit _ (by decide)]; omega
  have hv : (y - 1).fdiv 1 = y - 1 := by rw [fdiv_lit _ (by decide)]; omega
  rw [take_sizes1 _ _ (by omega), hf, hv]
  show 1922868 + (y - 1) * 365 + 0 + _ + d - 1 = _
  unfold armJdN
  omega

theorem take_fourth (r : Int) (h0 : 0 ≤ r) (h1 : r < 4) : (List.take r.toNat [365, 365, 365, 366]).sum = 365 * r := by
  have : r = 0 ∨ r = 1 ∨ r = 2 ∨ r = 3 := by omega
  rcases this with rfl | rfl | rfl | rfl <;> rfl

theorem countS_eq {y m d : Int} (g1 : 1 ≤ m) (g2 : m ≤ 13) : 2117212 + (y - 533).fdiv 4 * fourth.sum + (List.take ((y - 533).fmod 4).toNat [365, 365, 365, 366]).sum + (List.take (m - 1).toNat (sizes1 (fourth.getD ((y - 533).fmod 4).toNat 0))).sum + d - 1 = armJdS y m d := by
  rw [take_sizes1 _ _ (by omega), fdiv_lit _ (by decide), fmod_lit _ (by decide), take_fourth _ (by omega) (by omega)]
  show 2117212 + (y - 533) / 4 * 1461 + _ + _ + d - 1 = _
  unfold armJdS
  omega

theorem maxN_eq {y m : Int} (g1 : 1 ≤ m) (g2 : m ≤ 13) : (sizes1 (plainC.getD ((y - 1).fmod 1).toNat 0)).getD (m - 1).toNat 0 = dayMaxN m := by
  have hf : (y - 1).fmod 1 = 0 := by rw [fmod_lit _ (by decide)]; omega
  rw [hf]
  show (sizes1 365).getD (m - 1).toNat 0 = dayMaxN m
  rw [at1 _ _ (by omega)]
  unfold dayMaxN
  split <;> split <;> omega

theorem maxS_eq {y m : Int} (g1 : 1 ≤ m) (g2 : m ≤ 13) (g3 : 533 ≤ y) : (sizes1 (fourth.getD ((y - 533).fmod 4).toNat 0)).getD (m - 1).toNat 0 = dayMaxS y m := by
  rw [fmod_lit _ (by decide), at1 _ (m - 1).toNat (by omega)]
  have hl : fourth.getD ((y - 533) % 4).toNat 0 = (if armLeap y = true then 366 else 365 : Int) := by
    have ha : armLeap y = decide (y % 4 = 0) := by
      unfold armLeap
      rw [if_neg (by omega)]
    rw [ha]
    have : (y - 533) % 4 = 0 ∧ y % 4 = 1 ∨ (y - 533) % 4 = 1 ∧ y % 4 = 2 ∨ (y - 533) % 4 = 2 ∧ y % 4 = 3 ∨ (y - 533) % 4 = 3 ∧ y % 4 = 0 := by omega
    rcases this with ⟨h, k⟩ | ⟨h, k⟩ | ⟨h, k⟩ | ⟨h, k⟩
    all_goals (rw [h, k]; rfl)
  rw [hl]
  unfold dayMaxS
  by_cases e : m = 13
  · rw [if_pos (by omega), if_pos e]
    split <;> omega
  · rw [if_neg (by omega), if_neg e]

section
variable {w : World} {loose : List Str} {mean : ExcName → Option Value} {mg mb : Str → Option Value} {news : List (Addr × Obj)} {y m d : Int} {t1 t2 t3 ty tf : Tok} {D : Addr} {c : Nat}

theorem c_countN_ok (hD : (D, tup3 y m d t1 t2 t3 c) ∈ news) : Con w loose mean mg mb 4 290 [.ref D, .int 1922868 tf, .int 1 ty, .ref 262] (validN y m d) news (RetI (armJdN y m d)) := by
  wtm_at "cal open"
  rename_i hp _ _ _
  obtain ⟨g1, g2, g3, g4, g5⟩ := hp
  have hv : ¬ (y - 1).fdiv 1 < 0 := by rw [fdiv_lit _ (by decide)]; omega
  have hM := maxN_eq (y := y) g1 g2
  have hb : Binds [(Str.ofString "cycle", .ref 262), (Str.ofString "year", .int 1 ty), (Str.ofString "first", .int 1922868 tf), (Str.ofString "date", .ref D)] := trivial
  wtm_at "cal go"
  k_steps
  all_goals wtm_at "cal end"
  exact countN_eq g1 g2

theorem c_countS_ok (hD : (D, tup3 y m d t1 t2 t3 c) ∈ news) : Con w loose mean mg mb 4 290 [.ref D, .int 2117212 tf, .int 533 ty, .ref 261] (validS y m d) news (RetI (armJdS y m d)) := by
  wtm_at "cal open"
  rename_i hp _ _ _
  obtain ⟨g1, g2, g3, g4, g5⟩ := hp
  have hv : ¬ (y - 533).fdiv 4 < 0 := by rw [fdiv_lit _ (by decide)]; omega
  have hM := maxS_eq (y := y) g1 g2 g3
  have hb : Binds [(Str.ofString "cycle", .ref 261), (Str.ofString "year", .int 533 ty), (Str.ofString "first", .int 2117212 tf), (Str.ofString "date", .ref D)] := trivial
  wtm_at "cal go"
  k_steps
  all_goals wtm_at "cal end"
  exact countS_eq g1 g2

theorem c_countN_no (hD : (D, tup3 y m d t1 t2 t3 c) ∈ news) : Con w loose mean mg mb 4 290 [.ref D, .int 1922868 tf, .int 1 ty, .ref 262] (¬ validN y m d) news RetNone := by
  wtm_at "cal open"
  rename_i hp _ _ _
  have hv : (y - 1).fdiv 1 = y - 1 := by rw [fdiv_lit _ (by decide)]; omega
  by_cases g1 : 1 ≤ m ∧ m ≤ 13 ∧ 1 ≤ y ∧ 1 ≤ d
  · obtain ⟨g1, g2, g3, g4⟩ := g1
    have hM := maxN_eq (y := y) g1 g2
    have g5 : ¬ d ≤ dayMaxN m := fun h => hp ⟨g1, g2, g3, g4, h⟩
    clear hp
    have hw : ¬ (y - 1).fdiv 1 < 0 := by omega
    have hb : Binds [(Str.ofString "cycle", .ref 262), (Str.ofString "year", .int 1 ty), (Str.ofString "first", .int 1922868 tf), (Str.ofString "date", .ref D)] := trivial
    wtm_at "cal go"
    k_steps
    all_goals wtm_at "cal end"
  · clear hp
    by_cases g3 : y < 1
    · have hw : (y - 1).fdiv 1 < 0 := by omega
      clear g1
      have hb : Binds [(Str.ofString "cycle", .ref 262), (Str.ofString "year", .int 1 ty), (Str.ofString "first", .int 1922868 tf), (Str.ofString "date", .ref D)] := trivial
      wtm_at "cal go"
      k_steps
      all_goals wtm_at "cal end"
    have hw : ¬ (y - 1).fdiv 1 < 0 := by omega
    by_cases g4 : m < 1
    · clear g1
      have hb : Binds [(Str.ofString "cycle", .ref 262), (Str.ofString "year", .int 1 ty), (Str.ofString "first", .int 1922868 tf), (Str.ofString "date", .ref D)] := trivial
      wtm_at "cal go"
      k_steps
      all_goals wtm_at "cal end"
    by_cases g5 : 13 < m
    · clear g1
      have hb : Binds [(Str.ofString "cycle", .ref 262), (Str.ofString "year", .int 1 ty), (Str.ofString "first", .int 1922868 tf), (Str.ofString "date", .ref D)] := trivial
      wtm_at "cal go"
      k_steps
      all_goals wtm_at "cal end"
    have g6 : d < 1 := by omega
    clear g1
    have hb : Binds [(Str.ofString "cycle", .ref 262), (Str.ofString "year", .int 1 ty), (Str.ofString "first", .int 1922868 tf), (Str.ofString "date", .ref D)] := trivial
    wtm_at "cal go"
    k_steps
    all_goals wtm_at "cal end"

theorem c_countS_no (hD : (D, tup3 y m d t1 t2 t3 c) ∈ news) : Con w loose mean mg mb 4 290 [.ref D, .int 2117212 tf, .int 533 ty, .ref 261] (¬ validS y m d) news RetNone := by
  wtm_at "cal open"
  rename_i hp _ _ _
  have hv : (y - 533).fdiv 4 = (y - 533) / 4 := by rw [fdiv_lit _ (by decide)]
  by_cases g1 : 1 ≤ m ∧ m ≤ 13 ∧ 533 ≤ y ∧ 1 ≤ d
  · obtain ⟨g1, g2, g3, g4⟩ := g1
    have hM := maxS_eq (y := y) g1 g2 g3
    have g5 : ¬ d ≤ dayMaxS y m := fun h => hp ⟨g1, g2, g3, g4, h⟩
    clear hp
    have hw : ¬ (y - 533).fdiv 4 < 0 := by omega
    have hb : Binds [(Str.ofString "cycle", .ref 261), (Str.ofString "year", .int 533 ty), (Str.ofString "first", .int 2117212 tf), (Str.ofString "date", .ref D)] := trivial
    wtm_at "cal go"
    k_steps
    all_goals wtm_at "cal end"
  · clear hp
    by_cases g3 : y < 533
    · have hw : (y - 533).fdiv 4 < 0 := by omega
      clear g1
      have hb : Binds [(Str.ofString "cycle", .ref 261), (Str.ofString "year", .int 533 ty), (Str.ofString "first", .int 2117212 tf), (Str.ofString "date", .ref D)] := trivial
      wtm_at "cal go"
      k_steps
      all_goals wtm_at "cal end"
    have hw : ¬ (y - 533).fdiv 4 < 0 := by omega
    by_cases g4 : m < 1
    · clear g1
      have hb : Binds [(Str.ofString "cycle", .ref 261), (Str.ofString "year", .int 533 ty), (Str.ofString "first", .int 2117212 tf), (Str.ofString "date", .ref D)] := trivial
      wtm_at "cal go"
      k_steps
      all_goals wtm_at "cal end"
    by_cases g5 : 13 < m
    · clear g1
      have hb : Binds [(Str.ofString "cycle", .ref 261), (Str.ofString "year", .int 533 ty), (Str.ofString "first", .int 2117212 tf), (Str.ofString "date", .ref D)] := trivial
      wtm_at "cal go"
      k_steps
      all_goals wtm_at "cal end"
    have g6 : d < 1 := by omega
    clear g1
    have hb : Binds [(Str.ofString "cycle", .ref 261), (Str.ofString "year", .int 533 ty), (Str.ofString "first", .int 2117212 tf), (Str.ofString "date", .ref D)] := trivial
    wtm_at "cal go"
    k_steps
    all_goals wtm_at "cal end"
end

-- an exception raised from another one that is being handled
structure MadeFrom (h h' : Heap) (e : Addr) (X : String) : Prop where
  keeps : ∀ b o, h.get? b = some o → h'.get? b = some o
  new : h.get? e = none
  there : ∃ ob vs t, h'.get? e = some ob ∧ ob.cls = .type X ∧ ob.data = .fields vs ∧ vs[1]? = some .none ∧ vs[0]? = some t

theorem entry_unchain : entryFor table "proto.unchain" = some Builtin.«proto.unchain» := entryFor_of_tree (by kernel_rfl)

section
variable {prog : Program} {w : World} {A : Around} {E : Value → Shared → Prop} {s : Shared} {env : Env}

theorem unchain_end {e1 : Addr} {e2 : Value} {o : Obj} {vs : Array Value} {Q : Value → Shared → Prop} (he : s.heap.get? e1 = some o) (hd : o.data = .fields vs) (h2 : vs[2]? = some .none) (h : Q .none s) :
    wpAny (model prog w) A (runValue (.builtin "proto.unchain" ⟨[e2, .ref e1, .ref e1, .bool false], []⟩)) Q E s := by
  refine wpAny_runValue (codeAny_builtin entry_unchain ?_)
  unfold Builtin.«proto.unchain»
  dsimp only
  refine wpAny_bind (wpAny_field he hd h2 ?_)
  rw [if_pos (by decide)]
  exact wpAny_pure h

theorem upd_other {h : Heap} {e b : Addr} {o : Obj} {f : Obj → Obj} (hb : h.get? b = some o) (hne : b ≠ e) : (h.update e f).get? b = some o := by
  rw [Heap.get?_update_other _ _ (Ne.symm hne)]
  exact hb

theorem fields_up {h : Heap} {e : Addr} {o : Obj} {vs : Array Value} (i : Nat) (x : Value) (he : h.get? e = some o) (hd : o.data = .fields vs) :
    ∃ o', (h.update e (Obj.mapFields (·.setIfInBounds i x))).get? e = some o' ∧ o'.cls = o.cls ∧ o'.data = .fields (vs.setIfInBounds i x) :=
  ⟨_, Heap.get?_update_self _ he (Obj.isFreed_of_fields (Obj.data_mapFields hd _)), Obj.cls_mapFields _ _, Obj.data_mapFields hd _⟩

theorem Raise_from {X N I X1 : String} {x n : Str} {p1 p2 pos : Pos} {e1 : Addr} {o1 : Obj} {vs1 : Array Value} {Q : Flow → Shared → Prop} (hc : ExcClass X N I) (hself : isSubtype (.type X) (.type X) = pure true)
    (hh : A.handled = some (.ref e1))
    (hx : wpAny (model prog w) A (eval (.Name x p1) env) (fun v s₁ => v = .type X ∧ s₁ = s) E s)
    (hn : wpAny (model prog w) A (eval (.Name n p2) env) (fun v s₁ => v = .ref e1 ∧ s₁ = s) E s)
    (he : s.heap.get? e1 = some o1) (hcls : o1.cls = .type X1) (hbase : isSubtype (.type X1) (.type "BaseException") = pure true) (hd1 : o1.data = .fields vs1) (h2 : vs1[2]? = some .none)
    (h : ∀ h' e, MadeFrom s.heap h' e X → E (.ref e) { s with heap := h' }) :
    wpAny (model prog w) A (exec (.Raise (some (.Name x p1)) (some (.Name n p2)) pos) env) Q E s := by
  show wpAny (model prog w) A (do standAt pos; raiseStmt env (some (do let v ← eval (.Name x p1) env; standAt pos; pure v)) (some (do let v ← eval (.Name n p2) env; standAt pos; pure v))) Q E s
  refine wpAny_bind (wpAny_standAt ?_)
  unfold raiseStmt
  dsimp only
  refine wpAny_bind (wpAny_bind (wpAny_mono hx (fun v s₁ h₁ => wpAny_bind (wpAny_standAt (wpAny_pure ?_))) fun _ _ e => e))
  obtain ⟨rfl, hs₁⟩ := h₁
  subst s₁
  refine wpAny_bind (wpAny_holding ?_)
  refine wpAny_bind (wpAny_mono hn (fun v s₁ h₁ => wpAny_bind (wpAny_standAt (wpAny_pure ?_))) fun _ _ e => e)
  obtain ⟨rfl, hs₁⟩ := h₁
  subst s₁
  refine wpAny_bind (wpAny_pure ?_)
  refine wpAny_bind (wpAny_holding ?_)
  unfold excFromValue isExcClass
  refine wpAny_bind (wpAny_bind (wpAny_pure ?_))
  simp only [if_true]
  rw [hc.base]
  refine wpAny_pure ?_
  simp only [if_true]
  refine wpAny_bind (call_exc hc fun h' e hnew => ?_)
  obtain ⟨ob, t, hbe, hbcls, hbd⟩ := hnew.there
  have hT : ({ s with heap := h' } : Shared).TypeIs (.ref e) X := ⟨ob, hbe, hbcls⟩
  have hne : e1 ≠ e := fun q => by
    have := hnew.new
    rw [← q, he] at this
    cases this
  have he' := hnew.keeps _ _ he
  have hT1 : ({ s with heap := h' } : Shared).TypeIs (.ref e1) X1 := ⟨o1, he', hcls⟩
  refine wpAny_bind (wpAny_isInstance hT hc.base ?_)
  simp only [Bool.not_true, Bool.false_eq_true, if_false]
  refine wpAny_pure ?_
  rw [if_neg (show ¬ ((Value.ref e1 == Value.none) = true) from by simp)]
  have hnt : ∀ {Q' : Bool → Shared → Prop}, Q' false { s with heap := h' } → wpAny (model prog w) A (isType (.ref e1)) Q' E { s with heap := h' } := by
    intro Q' hq
    simp only [isType, loadHead]
    refine wpAny_bind (wpAny_loadPart he' ?_)
    rw [hd1]; exact wpAny_pure hq
  refine wpAny_bind (wpAny_holding ?_)
  refine wpAny_bind (wpAny_bind (hnt ?_))
  simp only [Bool.false_eq_true, if_false]
  refine wpAny_pure ?_
  simp only [Bool.false_eq_true, if_false]
  refine wpAny_bind (wpAny_isInstance hT1 hbase ?_)
  simp only [if_true]
  refine wpAny_pure ?_
  obtain ⟨b3, g3, c3, d3⟩ := fields_up 3 (.ref e1) hbe hbd
  refine wpAny_bind (wpAny_setField hbe hbd (by simp) ?_)
  obtain ⟨b4, g4, c4, d4⟩ := fields_up 4 (.bool true) g3 d3
  refine wpAny_bind (wpAny_setField g3 d3 (by simp) ?_)
  obtain ⟨b2, g2, c2, d2⟩ := fields_up 2 (.ref e1) g4 d4
  have hT4 : ({ s with heap := (h'.update e (Obj.mapFields (·.setIfInBounds 3 (Value.ref e1)))).update e (Obj.mapFields (·.setIfInBounds 4 (Value.bool true))) } : Shared).TypeIs (.ref e) X := ⟨b4, g4, (c4.trans c3).trans hbcls⟩
  first | (refine wpAny_bind (m := isType (.type X)) (wpAny_pure ?_)) | (refine wpAny_bind (wpAny_pure ?_))
  simp only [if_true]
  refine wpAny_bind (wpAny_holding ?_)
  unfold raisedFor
  simp only [Bool.false_eq_true, if_false]
  first | (refine wpAny_bind (wpAny_typeOf hT4 ?_)) | (refine wpAny_bind ?_; refine wpAny_bind (wpAny_typeOf hT4 ?_))
  refine wpAny_bind (call_issubclass (issubclass_self hc hself) ?_)
  first | (refine wpAny_bind (wpAny_truthy_bool ?_)) | (refine wpAny_truthy_bool ?_) | (dsimp only [wants]; first | (refine wpAny_bind (wpAny_truthy_bool ?_)) | (refine wpAny_truthy_bool ?_))
  simp only [if_true]
  refine wpAny_pure ?_
  unfold setFlight raiseNew
  refine wpAny_bind (wpAny_bind (wpAny_field (i := 1) (x := Value.none) g4 d4 rfl ?_))
  rw [if_neg (by decide)]
  refine wpAny_pure (wpAny_bind (wpAny_handled ?_))
  rw [hh]
  dsimp only
  rw [if_pos (by simpa using hne)]
  have up4 : ∀ b o, h'.get? b = some o → b ≠ e → ((h'.update e (Obj.mapFields (·.setIfInBounds 3 (Value.ref e1)))).update e (Obj.mapFields (·.setIfInBounds 4 (Value.bool true)))).get? b = some o := fun b o q hb => upd_other (upd_other q hb) hb
  refine wpAny_bind (wpAny_holding (unchain_end (up4 _ _ he' hne) hd1 h2 ?_))
  show wpAny (model prog w) A (setField (.ref e) 2 (.ref e1) >>= fun _ => throw (.ref e)) Q E _
  refine wpAny_bind (wpAny_setField g4 d4 (by simp) (wpAny_throw ?_))
  refine h _ e ⟨fun b o q => ?_, hnew.new, b2, _, t, g2, ((c2.trans c4).trans c3).trans hbcls, d2, rfl, rfl⟩
  have hb : b ≠ e := fun z => by
    have := hnew.new
    rw [← z, q] at this
    cases this
  exact upd_other (up4 _ _ (hnew.keeps _ _ q) hb) hb
end

-- the exception e of the class X stands in the heap with its traceback begun; it has no context; fl is the mark of its flight
def ExcAt (B : Heap) (e : Addr) (X : String) (fl : Value) (h : Heap) : Prop :=
  ∃ oe vs T oT ts, h.get? e = some oe ∧ oe.cls = .type X ∧ oe.data = .fields vs ∧ vs[1]? = some (.ref T) ∧ vs[2]? = some .none ∧ B.get? T = none ∧ T ≠ e ∧ h.get? T = some oT ∧ oT.data = .fields ts ∧ ts[3]? = some fl

structure NotedAt (B : Heap) (l : List Env) (e : Addr) (X : String) (fl : Value) (h h' : Heap) : Prop where
  stays : B.StaysIn h'
  frames : h'.FunFrames B l
  exc : ExcAt B e X fl h'
  up : h.UpToSlots h'

section
variable {M : Model} {A : Around} {E : Value → Shared → Prop} {s : Shared} {env : Env} {outer : List Env} {B : Heap} {L e : Addr} {X : String}

theorem notRec {h : Heap} {e : Addr} {oe : Obj} {vs : Array Value} (he : h.get? e = some oe) (hd : oe.data = .fields vs) {b : Addr} {o : Obj} (hb : h.get? b = some o) (hn : ∀ vs, o.data ≠ .fields vs) : b ≠ e := by
  rintro rfl
  rw [he] at hb
  cases hb
  exact hn vs hd

theorem note_first {oe : Obj} {vs : Array Value} {Q : Unit → Shared → Prop} (hfr : A.frames = some (env :: outer)) (hl : s.heap.FunFrames B (env :: outer)) (hf : env.frame = some L)
    (he : s.heap.get? e = some oe) (hcls : oe.cls = .type X) (hst : B.StaysIn s.heap) (hen : B.get? e = none) (hd : oe.data = .fields vs) (h1 : vs[1]? = some .none) (h2 : vs[2]? = some .none)
    (k : ∀ h', NotedAt B (env :: outer) e X (rawInt L) s.heap h' → Q () { s with heap := h' }) : wpAny M A (noteFrame (.ref e) env) Q E s := by
  have hout : e ∉ (env :: outer).filterMap (·.frame) := fun hm => by
    obtain ⟨_, o, ho, hnf⟩ := hl.mem hm
    exact notRec he hd ho hnf rfl
  unfold noteFrame
  simp only [hf]
  refine wpAny_bind (wpAny_field he hd h1 ?_)
  rw [if_neg (by decide)]
  refine wpAny_bind (wpAny_frameOf_fun hfr hl hf fun h₁ hs => ?_)
  refine wpAny_bind (wpAny_entryPlaceOf fun pl hpl => ?_)
  unfold EntryCells.newEntry newFields
  refine wpAny_bind (wpAny_newObj_type ?_ (hpl.sizeOk5 _ _ _ _ _))
  have he₁ : h₁.get? e = some oe := (hs.2.1 e hout).trans he
  have st₁ : B.StaysIn h₁ := fun b o hb => (hs.2.1 b fun hm => by rw [(hl.mem hm).1] at hb; cases hb).trans (hst b o hb)
  have old : ∀ (t : Obj) b o, h₁.get? b = some o → b ≠ e → ((h₁.push t).update e (Obj.mapFields (·.setIfInBounds 1 (Value.ref h₁.objs.size)))).get? b = some o :=
    fun t b o hb hn => upd_other (Heap.get?_push_of_some _ hb) hn
  have hTe : h₁.objs.size ≠ e := Nat.ne_of_gt (Heap.lt_size he₁)
  refine wpAny_setField (Heap.get?_push_of_some _ he₁) hd (Array.getElem?_eq_some_iff.mp h1).1 (k _ ⟨fun b o hb => ?_, ?_, ?_, fun b o hb hn => ?_⟩)
  · exact old _ _ _ (st₁ b o hb) fun z => by rw [z, hen] at hb; cases hb
  · refine hl.of_keeps fun b o hb hn => ?_
    obtain ⟨sl, q⟩ := hs.2.2 b o hb
    exact ⟨_, old _ _ _ q (notRec he hd hb hn), rfl⟩
  · obtain ⟨o', q1, q2, q3⟩ := fields_up 1 (Value.ref h₁.objs.size) (Heap.get?_push_of_some (h := h₁) { cls := .type "traceback", dict := none, data := .fields ([Value.none, .ref L, .none, rawInt L, .none] ++ (if pl.isEmpty then List.replicate 6 Value.none else pl)).toArray } he₁) hd
    refine ⟨o', _, h₁.objs.size, _, _, q1, q2.trans hcls, q3, ?_, ?_, st₁.fresh, hTe, upd_other (Heap.get?_push_size h₁ rfl) hTe, rfl, ?_⟩
    · rw [Array.getElem?_setIfInBounds]
      simp [(Array.getElem?_eq_some_iff.mp h1).1]
    · rw [Array.getElem?_setIfInBounds_ne (by decide)]
      exact h2
    · first | (simp; done) | (rcases hpl with rfl | ⟨_, _, _, _, _, _, _, rfl⟩ <;> simp)
  · obtain ⟨sl, q⟩ := hs.2.2 b o hb
    exact ⟨sl, old _ _ _ q (notRec he hd hb hn)⟩

theorem flight_none {fl : Value} {Q : Unit → Shared → Prop} {l : List Env} (hst : B.StaysIn s.heap) (hl : s.heap.FunFrames B l) (hx : ExcAt B e X fl s.heap)
    (k : ∀ h', NotedAt B l e X .none s.heap h' → Q () { s with heap := h' }) : wpAny M A (setFlight (.ref e) none) Q E s := by
  obtain ⟨oe, vs, T, oT, ts, he, hc, hd, h1, h2, hT, hTe, ht, htd, h3⟩ := hx
  have h3' : 3 < ts.size := (Array.getElem?_eq_some_iff.mp h3).1
  obtain ⟨o', q1, q2, q3⟩ := fields_up 3 Value.none ht htd
  refine wpAny_setFlight_none he hd h1 ht htd h3' (k _ ⟨fun b o hb => upd_other (hst b o hb) (fun z => by rw [z, hT] at hb; cases hb), ?_, ?_, fun b o hb hn => ⟨o.slots, upd_other hb (notRec ht htd hb hn)⟩⟩)
  · exact hl.of_keeps fun b o hb hn => ⟨o, upd_other hb (notRec ht htd hb hn), rfl⟩
  · exact ⟨oe, vs, T, o', _, upd_other he (Ne.symm hTe), hc, hd, h1, h2, hT, hTe, q1, q3, by simp [h3']⟩
end

theorem frames_but {h h' B : Heap} {L : Addr} (k : ∀ b o, b ≠ L → h.get? b = some o → h'.get? b = some o) : ∀ {l : List Env}, h.FunFrames B l → (∀ env ∈ l, env.frame ≠ some L) → h'.FunFrames B l
  | [], _, _ => trivial
  | env :: _, ⟨hk, ⟨L', o, hf, hn, ho, hd⟩, hr⟩, hne =>
    ⟨hk, ⟨L', o, hf, hn, k L' o (fun z => hne env (.head _) (by rw [hf, z])) ho, hd⟩, frames_but k hr fun e he => hne e (.tail _ he)⟩

theorem frames_notL {g base : Heap} {l : List Env} {L : Addr} (hl : g.FunFrames base l) (hL : g.get? L = none) : ∀ env ∈ l, env.frame ≠ some L := fun env he hf => by
  obtain ⟨L', o, hf', ho⟩ := funFrames_in hl env he
  rw [hf'] at hf
  cases hf
  rw [hL] at ho
  cases ho

theorem excAt_but {B h h' : Heap} {e : Addr} {X : String} {fl : Value} {L : Addr} {ol : Obj} (hx : ExcAt B e X fl h) (hL : h.get? L = some ol) (hd : ∀ vs, ol.data ≠ .fields vs) (k : ∀ b o, b ≠ L → h.get? b = some o → h'.get? b = some o) : ExcAt B e X fl h' := by
  obtain ⟨oe, vs, T, oT, ts, he, hc, hde, h1, h2, hT, hTe, ht, htd, h3⟩ := hx
  have n1 : e ≠ L := fun z => notRec he hde hL hd z.symm
  have n2 : T ≠ L := fun z => notRec ht htd hL hd z.symm
  exact ⟨oe, vs, T, oT, ts, k _ _ n1 he, hc, hde, h1, h2, hT, hTe, k _ _ n2 ht, htd, h3⟩

theorem tracedW_but {B h h' : Heap} {e L : Addr} {cls a0 fl : Value} {ol : Obj} (hx : h.TracedAtW B e cls a0 fl) (hL : h.get? L = some ol) (hd : ∀ vs, ol.data ≠ .fields vs) (k : ∀ b o, b ≠ L → h.get? b = some o → h'.get? b = some o) : h'.TracedAtW B e cls a0 fl := by
  obtain ⟨oe, vs, T, oT, ts, he, hc, hde, h1, hT, hTe, ht, htd, h3⟩ := hx
  have n1 : e ≠ L := fun z => notRec he hde hL hd z.symm
  have n2 : T ≠ L := fun z => notRec ht htd hL hd z.symm
  exact ⟨oe, vs, T, oT, ts, k _ _ n1 he, hc, hde, h1, hT, hTe, k _ _ n2 ht, htd, h3⟩

section
variable {M : Model} {A : Around} {E : Value → Shared → Prop} {s : Shared} {env : Env} {outer : List Env} {B : Heap} {L e : Addr}
theorem note_W {oe : Obj} {vs : Array Value} {a0 : Value} {Q : Unit → Shared → Prop} (hfr : A.frames = some (env :: outer)) (hl : s.heap.FunFrames B (env :: outer)) (hf : env.frame = some L)
    (he : s.heap.get? e = some oe) (hst : B.StaysIn s.heap) (hen : B.get? e = none) (hd : oe.data = .fields vs) (h1 : vs[1]? = some .none) (h0 : vs[0]? = some a0)
    (k : ∀ h', Heap.NotedW B (env :: outer) e oe.cls a0 (rawInt L) s.heap h' → Q () { s with heap := h' }) : wpAny M A (noteFrame (.ref e) env) Q E s := by
  unfold noteFrame
  simp only [hf]
  refine wpAny_bind (wpAny_field he hd h1 ?_)
  rw [if_neg (by decide)]
  exact wpAny_entryW hfr hl hf he hst hen hd (Array.getElem?_eq_some_iff.mp h1).1 h0 k

theorem flight_same {cls a0 : Value} {Q : Unit → Shared → Prop} (hx : s.heap.TracedAtW B e cls a0 (rawInt L)) (k : Q () s) : wpAny M A (setFlight (.ref e) (some L)) Q E s := by
  obtain ⟨oe, vs, T, oT, ts, he, hc, hd, h1, hT, hTe, ht, htd, h3⟩ := hx
  unfold setFlight
  refine wpAny_bind (wpAny_field he hd h1 ?_)
  rw [if_pos (show (Value.ref T != Value.none) = true from by simp)]
  refine wpAny_setField ht htd (Array.getElem?_eq_some_iff.mp h3).1 ?_
  rw [show ((some L : Option Addr).elim Value.none fun f => rawInt f) = rawInt L from rfl, Heap.update_setField_same s.heap T oT ts 3 (rawInt L) ht htd h3]
  exact k

theorem passOn_held {what : String} {cls a0 : Value} {Q : Flow → Shared → Prop} (hf : env.frame = some L) (hx : s.heap.TracedAtW B e cls a0 (rawInt L)) (k : E (.ref e) s) : wpAny M A (PySem.passOn what (.ref e) env : Sem Flow) Q E s := by
  obtain ⟨oe, vs, T, oT, ts, he, hc, hd, h1, r⟩ := id hx
  unfold PySem.passOn
  refine wpAny_bind (wpAny_field he hd h1 ?_)
  rw [if_neg (show ¬ ((Value.ref T == Value.none) = true) from by simp)]
  rw [hf]
  first
    | exact wpAny_bind (wpAny_pure (wpAny_bind (flight_same hx (wpAny_throw k))))
    | exact wpAny_bind (flight_same hx (wpAny_throw k))
end

section
variable {prog : Program} {w : World} {A₀ : Around} {s' : Shared} {base g h : Heap} {outer : List Env} {L a e : Addr} {m : Str → Option Value} {name : Str} {scope : Scope} {cd : Value} {news : List (Addr × Obj)} {KF : Frag}
  {p : Program} {loose : List Str} {mean : ExcName → Option Value} {mg mb : Str → Option Value} {n : Str} {q1 q2 q3 q4 q5 : Pos} {Q : Flow → Shared → Prop} {R : Value → Shared → Prop} {E₁ : Value → Shared → Prop}

/-- an assertion has failed in a def's own frame; the handler raises ValueError from it: the frame is left with a ValueError -/
theorem raised_from (hx : Heap.NewExc h s'.heap e "AssertionError") (K : Below A₀ base outer g) (F : Fr g L h m) (N : News g L h news) (XB : KF.In base) (TB : Top p loose mean mg mb base)
    (ex1 : nsIn KF mainGlobals (Str.ofString "AssertionError") = some none) (ex2 : nsIn KF mainGlobals (Str.ofString "ValueError") = some none)
    (k : ∀ e2 h' tk, RaisedSN base g outer e2 (.type "ValueError") news h' → g.UpToSlots h' → R (.ref e2) { s' with heap := h', toks := tk })
    (hk : scope.kind = .function) (hlo : (envOf name scope L a cd).kindOf n = some .local) (hA : (envOf name scope L a cd).kindOf (Str.ofString "AssertionError") = some .globalImplicit) (hV : (envOf name scope L a cd).kindOf (Str.ofString "ValueError") = some .globalImplicit)
    (hdn : (n == ("__debug__" : Str)) = false) :
    wpAny (model prog w) (A₀.deeper (envOf name scope L a cd)) (noteFrame (.ref e) (envOf name scope L a cd))
      (fun _ s₂ => wpAny (model prog w) (A₀.deeper (envOf name scope L a cd)) (setFlight (.ref e) none) (fun _ s₃ =>
        wpAny (model prog w) (A₀.deeper (envOf name scope L a cd)) (handleBy (.ref e) (envOf name scope L a cd)
          [.ExceptHandler (some (.Name (Str.ofString "AssertionError") q1)) (some n) [.Raise (some (.Name (Str.ofString "ValueError") q2)) (some (.Name n q3)) q4] q5]) Q
          (fun e s' => wpAny (model prog w) (A₀.deeper (envOf name scope L a cd)) (leaving (envOf name scope L a cd) e) (fun _ s'' => R e s'') E₁ s') s₃)
          (fun e s' => wpAny (model prog w) (A₀.deeper (envOf name scope L a cd)) (leaving (envOf name scope L a cd) e) (fun _ s'' => R e s'') E₁ s') s₂)
      (fun e s' => wpAny (model prog w) (A₀.deeper (envOf name scope L a cd)) (leaving (envOf name scope L a cd) e) (fun _ s'' => R e s'') E₁ s') s' := by
  have K' := K.push (name := name) (a := a) (cd := cd) F hk
  have hin : ∀ env ∈ (envOf name scope L a cd :: outer), ∀ b, env.frame = some b → b ∈ (envOf name scope L a cd :: outer).filterMap (·.frame) := fun env he b hb => List.mem_filterMap.mpr ⟨env, he, hb⟩
  generalize hB : hideAll h ((envOf name scope L a cd :: outer).filterMap (·.frame)) = B
  have sB : ∀ b o, B.get? b = some o → h.get? b = some o := fun b o q => by
    rw [← hB] at q
    exact of_hideAll _ q
  have hBG : ∀ b o, h.get? b = some o → b ∉ (envOf name scope L a cd :: outer).filterMap (·.frame) → B.get? b = some o := fun b o q nm => by
    rw [← hB]
    exact hideAll_get _ q nm
  have hBL : B.get? L = none := by
    rw [← hB]
    exact hideAll_none _ (hin _ (.head _) L rfl)
  have hfB : h.FunFrames B (envOf name scope L a cd :: outer) := by
    rw [← hB]
    exact funFrames_hide K'.frames hin
  have hgL : g.get? L = none := kts_self F
  have stB : base.StaysIn B := fun b o q => hBG b o (K'.stays b o q) fun hm => by
    rw [(K'.frames.mem hm).1] at q
    cases q
  have sg : ∀ b o, g.get? b = some o → b ∉ outer.filterMap (·.frame) → B.get? b = some o := fun b o q nm => hBG b o (F.keep b o q) fun hm => by
    rcases kts_mem hm with z | z
    · rw [z, hgL] at q
      cases q
    · exact nm z
  have hl : ∀ q ∈ news, B.get? q.1 = some q.2 ∧ g.get? q.1 = none ∧ base.get? q.1 = none := fun q hq => by
    refine ⟨hBG _ _ (N q hq).1 fun hm => ?_, (N q hq).2.2, fresh_of_stays K.stays (N q hq).2.2⟩
    rcases kts_mem hm with z | z
    · exact (N q hq).2.1 z
    · obtain ⟨o, ho, _⟩ := (K.frames.mem z).2
      rw [(N q hq).2.2] at ho
      cases ho
  clear hB
  have hfr : (A₀.deeper (envOf name scope L a cd)).frames = some (envOf name scope L a cd :: outer) := K'.stack
  obtain ⟨ob, t, he, hcls, hd⟩ := hx.there
  have hen : B.get? e = none := by
    cases q : B.get? e with
    | none => rfl
    | some o =>
      have := sB _ _ q
      rw [hx.new] at this
      cases this
  refine note_first hfr (hfB.of_keeps fun b o hb _ => ⟨o, hx.keeps b o hb, rfl⟩) rfl he hcls (fun b o hb => hx.keeps b o (sB b o hb)) hen hd rfl rfl fun h₁ N₁ => ?_
  refine flight_none N₁.stays N₁.frames N₁.exc fun h₂ N₂ => ?_
  have up₂ : h.UpToSlots h₂ := (Heap.UpToSlots.of_keeps hx.keeps).trans (N₁.up.trans N₂.up)
  obtain ⟨g₂, T₂, F₂, K₂⟩ := kts_ground K F hBG N₂.stays up₂
  obtain ⟨o2, _, _, _, _, i1, i2, _⟩ := N₂.exc
  refine wpAny_handleBy_builtin_as (X := "AssertionError") (T := "AssertionError") (b := true) PySem.F.isExc_AssertionError PySem.F.notTuple_AssertionError excClass_AssertionError.self
    (name_B F₂ (XB.keeps K₂.stays) (topRead_of (TB.keeps K₂.stays)) ex1 PyProof.Rows.Boot.«AssertionError» (by decide) ⟨rfl, ⟨o2, i1, i2⟩, ?_⟩ hk hA (by decide))
  rw [if_pos rfl]
  refine flight_none N₂.stays N₂.frames N₂.exc fun h₃ N₃ => ?_
  have up₃ := up₂.trans N₃.up
  obtain ⟨g₃, T₃, F₃, K₃⟩ := kts_ground K F hBG N₃.stays up₃
  obtain ⟨oL, es, ep, hL₃, hLd, _⟩ := id F₃.ns
  have hLd' : ∀ vs, oL.data ≠ .fields vs := fun vs q => by rw [hLd] at q; cases q
  refine wpAny_storeName_local hlo F₃.ns (fun h₄ hn₄ hs₄ => ?_) (by show (scope.kind == .class || (scope.kind == .module && L != mainGlobals)) = false; rw [hk]; rfl)
  have F₄ := F₃.set hn₄ hs₄
  have keep₄ : ∀ b o, b ≠ L → h₃.get? b = some o → h₄.get? b = some o := fun b o nb q => (hs₄.2 b nb).trans q
  have st₄ : B.StaysIn h₄ := fun b o hb => keep₄ b o (fun z => by rw [z, hBL] at hb; cases hb) (N₃.stays b o hb)
  obtain ⟨_, _, fo₃⟩ := N₃.frames
  have hk' : (envOf name scope L a cd).scope.kind ≠ .module := by
    show scope.kind ≠ .module
    rw [hk]
    decide
  have fr₄ : h₄.FunFrames B (envOf name scope L a cd :: outer) := Heap.FunFrames.cons hk' rfl hn₄ hBL (frames_but keep₄ fo₃ (frames_notL K.frames hgL))
  have exc₄ := excAt_but N₃.exc hL₃ hLd' keep₄
  obtain ⟨oe, ws, T, oT, ts, j1, j2, j3, j4, j5, _⟩ := exc₄
  have up₄ : g.UpToSlots h₄ := fun b o hb hn => by
    obtain ⟨sl, q⟩ := up₃ b o (F.keep b o hb) hn
    exact ⟨sl, keep₄ _ _ (fun z => by rw [z, hgL] at hb; cases hb) q⟩
  refine wpAny_execs_cons (Raise_from excClass_ValueError excClass_ValueError.self rfl (name_B F₄ (XB.keeps K₃.stays) (topRead_of (TB.keeps K₃.stays)) ex2 PyProof.Rows.Boot.«ValueError» (by decide) ⟨rfl, rfl⟩ hk hV (by decide))
    (ld F₄ (by rw [if_pos rfl]) ⟨rfl, rfl⟩ hk hlo hdn) j1 j2 PySem.F.isExc_AssertionError j3 j5 fun h₅ e2 MF => ?_)
  obtain ⟨o5, vs5, t5, m1, m2, m3, m4, m5⟩ := MF.there
  have st₅ : B.StaysIn h₅ := fun b o hb => MF.keeps _ _ (st₄ b o hb)
  have fr₅ : h₅.FunFrames B (envOf name scope L a cd :: outer) := fr₄.of_keeps fun b o hb _ => ⟨o, MF.keeps b o hb, rfl⟩
  have en2 : B.get? e2 = none := by
    cases q : B.get? e2 with
    | none => rfl
    | some o =>
      have := st₄ _ _ q
      rw [MF.new] at this
      cases this
  have ns₅ : h₅.Ns L (fun x => if x = n then some (Value.ref e) else m x) := (Heap.UpToSlots.of_keeps MF.keeps).ns hn₄
  show wpAny (model prog w) ((A₀.deeper (envOf name scope L a cd)).mark (some (.ref e))) (noteFrame (.ref e2) (envOf name scope L a cd)) _ _ { s' with heap := h₅, toks := s'.toks + 1 }
  refine note_W hfr fr₅ rfl m1 st₅ en2 m3 m4 m5 fun h₆ N₆ => ?_
  obtain ⟨st₆, fr₆, tr₆, up₆⟩ := N₆
  rw [m2] at tr₆
  obtain ⟨_, _, fo₆⟩ := fr₆
  have ns₆ : h₆.Ns L (fun x => if x = n then some (Value.ref e) else m x) := Heap.UpToSlots.ns up₆ ns₅
  obtain ⟨oL6, es6, ep6, hL₆, hLd₆, _⟩ := id ns₆
  refine wpAny_nameGoes hlo ns₆ (by show (scope.kind == .class || (scope.kind == .module && L != mainGlobals)) = false; rw [hk]; rfl) fun h₇ m₇ hn₇ hs₇ => ?_
  have keep₇ : ∀ b o, b ≠ L → h₆.get? b = some o → h₇.get? b = some o := fun b o nb q => (hs₇.2 b nb).trans q
  have st₇ : B.StaysIn h₇ := fun b o hb => keep₇ b o (fun z => by rw [z, hBL] at hb; cases hb) (st₆ b o hb)
  have fo₇ := frames_but keep₇ fo₆ (frames_notL K.frames hgL)
  have tr₇ := tracedW_but tr₆ hL₆ (fun vs q => by rw [hLd₆] at q; cases q) keep₇
  have up₇ : g.UpToSlots h₇ := fun b o hb hn => by
    obtain ⟨sl, q⟩ := up₄ b o hb hn
    obtain ⟨sl', q'⟩ := up₆ b _ (MF.keeps _ _ q) hn
    exact ⟨sl', keep₇ _ _ (fun z => by rw [z, hgL] at hb; cases hb) q'⟩
  refine passOn_held rfl tr₇ ?_
  refine PassesOwnAt.leaving (M := model prog w) (A := A₀.deeper (envOf name scope L a cd)) (.ref e2) _ ?_
  unfold leaving
  refine wpAny_bind (wpAny_noteFrame_againW rfl tr₇ ?_)
  refine wpAny_landsW (l := outer) ⟨st₇, en2, fo₇, tr₇⟩ fun h₈ fl₈ up₈ => ?_
  exact k e2 h₈ _ ⟨B, t5, stB, sg, hl, fl₈⟩ (up₇.trans up₈)
end

-- a contract: called with vs, the def at f raises a ValueError
def OnBase (w : World) (loose : List Str) (mean : ExcName → Option Value) (mg mb : Str → Option Value) (base : Heap) : Prop := (hd.heap_39 w.params).In base ∧ Top hd.view_39 loose mean mg mb base
def RetX (h₀ base : Heap) (L : Addr) (m : Str → Option Value) (l : List Env) (news : List (Addr × Obj)) (s : Shared) (E : Value → Shared → Prop) : Prop :=
  ∀ (e : Addr) (h' : Heap) (tk : Nat) (g₂ : Heap), Fr h₀ L g₂ m → RaisedSN base g₂ l e (.type "ValueError") news h' → g₂.UpToSlots h' → E (.ref e) { s with heap := h', toks := tk }
def ConX (w : World) (loose : List Str) (mean : ExcName → Option Value) (mg mb : Str → Option Value) (k : Nat) (f : Addr) (vs : List Value) (pre : Prop) (news : List (Addr × Obj)) : Prop :=
  ∀ (dp un : Nat) (gd : Option (List Code)) (cn : Str) (cs : Scope) (a : Addr) (ccd : Value) (outer : List Env) (A₀ : Around) (base h₀ : Heap) (L : Addr) (m : Str → Option Value) (s : Shared) (Q E : Value → Shared → Prop),
    OnBase w loose mean mg mb base → Below A₀ base outer h₀ → Fr h₀ L s.heap m → (hd.heap_39 w.params).In h₀ → News h₀ L s.heap news → Top hd.view_39 loose mean mg mb h₀ → cs.kind = .function →
    pre → dp + k < recursionLimit → un + 8 * k < cLine → RetX h₀ base L m (envOf cn cs L a ccd :: outer) news s E →
    wpAny (model Challenge.rw_bn0012_01.row.prog w) (ktrTop dp un gd cn cs L a ccd [] outer) (call (.ref f) vs) Q E s

theorem endX {h₀ base g₂ h' : Heap} {L e : Addr} {m : Str → Option Value} {l : List Env} {news news' : List (Addr × Obj)} {s : Shared} {E : Value → Shared → Prop} {tk : Nat} (hret : RetX h₀ base L m l news s E) (F : Fr h₀ L g₂ m) (R : RaisedSN base g₂ l e (.type "ValueError") news' h') (hn : ∀ p ∈ news, p ∈ news') (U : g₂.UpToSlots h') :
    E (.ref e) { s with heap := h', toks := tk } := by
  obtain ⟨B, a0, r1, r2, r3, r4⟩ := R
  exact hret e h' tk g₂ F ⟨B, a0, r1, r2, fun q hq => r3 q (hn q hq), r4⟩ U

local macro_rules | `(tactic| wtm_at "cal openX") => `(tactic| (w_top off; unfold ConX; k_fill; intros))

local macro_rules | `(tactic| wtm_at "cal endX") => `(tactic| (refine' endX ?h ?F ?R ?n ?U; (case h => assumption); (case F => assumption); (case R => assumption); (case n => wtm_at "cal sub"); (case U => assumption)))

-- a failed assertion whose handler raises ValueError from it
local macro_rules | `(tactic| tm_at "cal:noteFrame ref") => `(tactic| (k_here; (with_reducible rename Heap.NewExc _ _ _ _ => hx9); k_dflt (refine' raised_from ?hx ?K ?F ?N ?XB ?TB ?x1 ?x2 ?_ ?k1 ?k2 ?k3 ?k4 ?k5; (case hx => exact hx9); (case K => assumption); (case F => k_asm); (case N => k_asm); (case XB => exact And.left (by assumption : OnBase _ _ _ _ _ _)); (case TB => exact And.right (by assumption : OnBase _ _ _ _ _ _)); (case x1 => k_is); (case x2 => k_is); (case k1 => exact rfl); (case k2 => exact rfl); (case k3 => exact rfl); (case k4 => exact rfl); (case k5 => decide); k_whole); intro e9 h9 tk9 R9 U9))

section
variable {w : World} {loose : List Str} {mean : ExcName → Option Value} {mg mb : Str → Option Value} {news : List (Addr × Obj)} {y m d : Int} {ty tm td tk : Tok} {D : Addr} {c : Nat}

theorem x_validN : ConX w loose mean mg mb 2 193 [.int y ty, .int m tm, .int d td, .none] (¬ validN y m d) news := by
  wtm_at "cal openX"
  rename_i hp _ _ _
  have hp' : m < 1 ∨ 13 < m ∨ (1 ≤ m ∧ m ≤ 13 ∧ y < 1) ∨ (1 ≤ m ∧ m ≤ 13 ∧ 1 ≤ y ∧ d < 1) ∨ (m = 13 ∧ 1 ≤ y ∧ 5 < d) ∨ (1 ≤ m ∧ m < 13 ∧ 1 ≤ y ∧ 30 < d) := by
    by_cases g1 : m < 1
    · exact .inl g1
    by_cases g2 : 13 < m
    · exact .inr (.inl g2)
    by_cases g3 : y < 1
    · exact .inr (.inr (.inl ⟨by omega, by omega, g3⟩))
    by_cases g4 : d < 1
    · exact .inr (.inr (.inr (.inl ⟨by omega, by omega, by omega, g4⟩)))
    have g5 : ¬ d ≤ dayMaxN m := fun h => hp ⟨by omega, by omega, by omega, by omega, h⟩
    unfold dayMaxN at g5
    split at g5
    · exact .inr (.inr (.inr (.inr (.inl ⟨by assumption, by omega, by omega⟩))))
    · exact .inr (.inr (.inr (.inr (.inr ⟨by omega, by omega, by omega, by omega⟩))))
  clear hp
  rcases hp' with h1 | h1 | ⟨h1, h2, h3⟩ | ⟨h1, h2, h3, h4⟩ | ⟨h1, h2, h3⟩ | ⟨h1, h2, h3, h4⟩
  all_goals have hb : Binds [(Str.ofString "method", .none), (Str.ofString "day", .int d td), (Str.ofString "month", .int m tm), (Str.ofString "year", .int y ty)] := trivial
  all_goals wtm_at "cal goD"
  all_goals k_steps
  all_goals wtm_at "cal endX"

theorem x_validS : ConX w loose mean mg mb 2 193 [.int y ty, .int m tm, .int d td, .str (Str.ofString "sarkawag") tk] (¬ validS y m d) news := by
  wtm_at "cal openX"
  rename_i hp _ _ _
  have hp' : m < 1 ∨ 13 < m ∨ (m = 13 ∧ armLeap y = true ∧ y < 533) ∨ (m = 13 ∧ armLeap y = false ∧ y < 533) ∨ (1 ≤ m ∧ m < 13 ∧ y < 533) ∨
      (m = 13 ∧ armLeap y = true ∧ 533 ≤ y ∧ d < 1) ∨ (m = 13 ∧ armLeap y = false ∧ 533 ≤ y ∧ d < 1) ∨ (1 ≤ m ∧ m < 13 ∧ 533 ≤ y ∧ d < 1) ∨
      (m = 13 ∧ armLeap y = true ∧ 533 ≤ y ∧ 6 < d) ∨ (m = 13 ∧ armLeap y = false ∧ 533 ≤ y ∧ 5 < d) ∨ (1 ≤ m ∧ m < 13 ∧ 533 ≤ y ∧ 30 < d) := by
    by_cases g1 : m < 1
    · exact .inl g1
    by_cases g2 : 13 < m
    · exact .inr (.inl g2)
    have g5 : 533 ≤ y → 1 ≤ d → ¬ d ≤ dayMaxS y m := fun h1 h2 h => hp ⟨by omega, by omega, h1, h2, h⟩
    unfold dayMaxS at g5
    cases ha : armLeap y <;> rw [ha] at g5 <;> by_cases g3 : y < 533 <;> by_cases g4 : d < 1 <;> by_cases g6 : m = 13 <;> simp [g6] at g5 ⊢ <;> omega
  clear hp
  rcases hp' with h1 | h1 | ⟨h1, h2, h3⟩ | ⟨h1, h2, h3⟩ | ⟨h1, h2, h3⟩ | ⟨h1, h2, h3, h4⟩ | ⟨h1, h2, h3, h4⟩ | ⟨h1, h2, h3, h4⟩ | ⟨h1, h2, h3, h4⟩ | ⟨h1, h2, h3, h4⟩ | ⟨h1, h2, h3, h4⟩
  all_goals have hb : Binds [(Str.ofString "method", .str (Str.ofString "sarkawag") tk), (Str.ofString "day", .int d td), (Str.ofString "month", .int m tm), (Str.ofString "year", .int y ty)] := trivial
  all_goals wtm_at "cal goD"
  all_goals k_steps
  all_goals wtm_at "cal endX"
end

section
variable {w : World} {loose : List Str} {mean : ExcName → Option Value} {mg mb : Str → Option Value} {k : Nat} {f : Addr} {vs : List Value} {pre : Prop} {news news' : List (Addr × Obj)}
  {dp un : Nat} {gd : Option (List Code)} {cn : Str} {cs : Scope} {a : Addr} {ccd : Value} {outer : List Env} {A₀ : Around} {base h₀ h' : Heap} {L D : Addr} {m : Str → Option Value} {s s' : Shared} {Q E : Value → Shared → Prop}
theorem conX_use (C : ConX w loose mean mg mb k f vs pre news) (O : OnBase w loose mean mg mb base) (B : Below A₀ base outer h₀) (F : Fr h₀ L s.heap m) (X : (hd.heap_39 w.params).In h₀) (N : News h₀ L s.heap news) (T : Top hd.view_39 loose mean mg mb h₀) (hk : cs.kind = .function)
    (hp : pre) (hd : dp + k < recursionLimit) (hu : un + 8 * k < cLine) (hr : RetX h₀ base L m (envOf cn cs L a ccd :: outer) news s E) :
    wpAny (model Challenge.rw_bn0012_01.row.prog w) (ktrTop dp un gd cn cs L a ccd [] outer) (call (.ref f) vs) Q E s :=
  C _ _ _ _ _ _ _ _ _ _ _ _ _ _ _ _ O B F X N T hk hp hd hu hr
end

local macro_rules | `(tactic| wtm_at "cal useX") => `(tactic| (
  (case cO => first | assumption | fail "cal useX: the base"); (case cB => first | k_asm | fail "cal use: the frames below"); (case cF => first | k_asm | fail "cal use: the frame"); (case cX => first | k_asm | fail "cal use: the part"); (try (case cN => k_asm)); (case cT => first | k_asm | fail "cal use: the top"); (case cK => first | exact rfl | assumption);
  (case cd => first | ktr_room | fail "cal use: room"); (case cu => first | ktr_units | fail "cal use: units"); (case cp => first | trivial | assumption | fail "cal use: pre"); unfold RetX; intro e9 h9 tk9 g9 F9 R9 U9; (try dsimp only); (try k_fold)))

local macro_rules | `(tactic| tm_at "cal:call ref") => `(tactic| (k_here; (with_reducible show wpAny _ _ (call (Value.ref (193 : Nat)) _) _ _ _); k_dflt (first
  | refine' conX_use x_validN ?cO ?cB ?cF ?cX ?cN ?cT ?cK ?cp ?cd ?cu ?_
  | refine' conX_use x_validS ?cO ?cB ?cF ?cX ?cN ?cT ?cK ?cp ?cd ?cu ?_); wtm_at "cal useX"))

-- an exception of a callee's leaves the frame
local macro_rules | `(tactic| tm_at "cal:leaving ref") => `(tactic| (k_here; k_dflt (refine' leave_onSN ?K ?F ?R ?U ?_; (case R => assumption); (case F => assumption); (case K => assumption); (case U => assumption); k_whole); intro h9 R9 Q9 U9; (try dsimp only at R9 U9 ⊢)))

section
variable {w : World} {loose : List Str} {mean : ExcName → Option Value} {mg mb : Str → Option Value} {news : List (Addr × Obj)} {y m d : Int} {ty tm td tk : Tok} {D : Addr} {c : Nat}
theorem x_armJdN : ConX w loose mean mg mb 3 208 [.int y ty, .int m tm, .int d td, .none] (¬ validN y m d) news := by
  wtm_at "cal openX"
  have hb : Binds [(Str.ofString "method", .none), (Str.ofString "day", .int d td), (Str.ofString "month", .int m tm), (Str.ofString "year", .int y ty)] := trivial
  wtm_at "cal goD"
  k_steps
  all_goals wtm_at "cal endX"

theorem x_armJdS : ConX w loose mean mg mb 3 208 [.int y ty, .int m tm, .int d td, .str (Str.ofString "sarkawag") tk] (¬ validS y m d) news := by
  wtm_at "cal openX"
  have hb : Binds [(Str.ofString "method", .str (Str.ofString "sarkawag") tk), (Str.ofString "day", .int d td), (Str.ofString "month", .int m tm), (Str.ofString "year", .int y ty)] := trivial
  wtm_at "cal goD"
  k_steps
  all_goals wtm_at "cal endX"
end

-- an exception made in a def's own frame leaves it
local macro_rules | `(tactic| tm_at "cal:leaving ref") => `(tactic| (k_here; k_dflt (refine' leave_newS ?K ?x ?F ?N ?_; (case x => first | assumption | exact Heap.MadeExc.newExc (by assumption)); (case F => k_asm); (case K => assumption); (case N => k_asm); k_whole); intro h9 R9 Q9 U9; (try dsimp only at R9 U9 ⊢)))

section
variable {w : World} {loose : List Str} {mean : ExcName → Option Value} {mg mb : Str → Option Value} {news : List (Addr × Obj)} {y m d : Int} {ty tm td tk : Tok} {D : Addr} {c : Nat}
theorem x_armFromN : ConX w loose mean mg mb 2 216 [.int y ty, .none] (y < 1922502) news := by
  wtm_at "cal openX"
  rename_i hp _ _ _
  have hb : Binds [(Str.ofString "method", .none), (Str.ofString "jd", .int y ty)] := trivial
  wtm_at "cal goD"
  k_steps
  all_goals wtm_at "cal endX"

theorem x_armFromS : ConX w loose mean mg mb 2 216 [.int y ty, .str (Str.ofString "sarkawag") tk] (y < 2117211) news := by
  wtm_at "cal openX"
  rename_i hp _ _ _
  have hb : Binds [(Str.ofString "method", .str (Str.ofString "sarkawag") tk), (Str.ofString "jd", .int y ty)] := trivial
  wtm_at "cal goD"
  k_steps
  all_goals wtm_at "cal endX"
end

local macro_rules | `(tactic| tm_at "cal:call ref") => `(tactic| (k_here; (with_reducible show wpAny _ _ (call (Value.ref (216 : Nat)) _) _ _ _); k_dflt (first
  | refine' conX_use x_armFromN ?cO ?cB ?cF ?cX ?cN ?cT ?cK ?cp ?cd ?cu ?_
  | refine' conX_use x_armFromS ?cO ?cB ?cF ?cX ?cN ?cT ?cK ?cp ?cd ?cu ?_); wtm_at "cal useX"))

local macro_rules | `(tactic| tm_at "cal:call ref") => `(tactic| (k_here; (with_reducible show wpAny _ _ (call (Value.ref (208 : Nat)) _) _ _ _); k_dflt (first
  | refine' conX_use x_armJdN ?cO ?cB ?cF ?cX ?cN ?cT ?cK ?cp ?cd ?cu ?_
  | refine' conX_use x_armJdS ?cO ?cB ?cF ?cX ?cN ?cT ?cK ?cp ?cd ?cu ?_); wtm_at "cal useX"))

-- a contract for a def that the law calls itself (no frame below the law's own); it may catch what its callees raise
def Con0 (w : World) (loose : List Str) (mean : ExcName → Option Value) (mg mb : Str → Option Value) (k : Nat) (f : Addr) (vs : List Value) (pre : Prop) (news : List (Addr × Obj)) (R : RetTy) : Prop :=
  ∀ (dp un : Nat) (gd : Option (List Code)) (cn : Str) (cs : Scope) (a : Addr) (ccd : Value) (A₀ : Around) (h₀ : Heap) (L : Addr) (m : Str → Option Value) (s : Shared) (Q E : Value → Shared → Prop),
    OnBase w loose mean mg mb h₀ → Below A₀ h₀ [] h₀ → Fr h₀ L s.heap m → (hd.heap_39 w.params).In h₀ → News h₀ L s.heap news → Top hd.view_39 loose mean mg mb h₀ → cs.kind = .function →
    pre → dp + k < recursionLimit → un + 8 * k < cLine → R h₀ L m news s Q →
    wpAny (model Challenge.rw_bn0012_01.row.prog w) (ktrTop dp un gd cn cs L a ccd [] []) (call (.ref f) vs) Q E s

section
variable {w : World} {loose : List Str} {mean : ExcName → Option Value} {mg mb : Str → Option Value} {k : Nat} {f : Addr} {vs : List Value} {pre : Prop} {news news' : List (Addr × Obj)} {R : RetTy}
  {dp un : Nat} {gd : Option (List Code)} {cn : Str} {cs : Scope} {a : Addr} {ccd : Value} {A₀ : Around} {base h₀ h' : Heap} {L D : Addr} {m : Str → Option Value} {s s' : Shared} {Q E : Value → Shared → Prop}
theorem con0_use (C : Con0 w loose mean mg mb k f vs pre news R) (B : Below A₀ base [] h₀) (F : Fr h₀ L s.heap m) (X : (hd.heap_39 w.params).In h₀) (N : News h₀ L s.heap news) (T : Top hd.view_39 loose mean mg mb h₀) (hk : cs.kind = .function)
    (hp : pre) (hd : dp + k < recursionLimit) (hu : un + 8 * k < cLine) (hr : pre → R h₀ L m news s Q) :
    wpAny (model Challenge.rw_bn0012_01.row.prog w) (ktrTop dp un gd cn cs L a ccd [] []) (call (.ref f) vs) Q E s :=
  C _ _ _ _ _ _ _ _ _ _ _ _ _ _ ⟨X, T⟩ ⟨B.stack, fun _ _ e => e, trivial⟩ F X N T hk hp hd hu (hr hp)
end

local macro_rules | `(tactic| wtm_at "cal open0") => `(tactic| (w_top off; unfold Con0; k_fill; intros))

-- into a def that catches
local macro_rules | `(tactic| wtm_at "cal goS") => `(tactic| (refine wpAny_call ?_; k_dflt (refine' code_defS0 ?k1 ?k2 ?k3 ?k4 ?k5 ?kA ?k6 ?k7 ?k8 ?k9 ?kB ?_ ?cK ?c2 ?c3 ?c4 ?c5; (case kA => exact rfl); (case k1 => k_asm); (case k2 => k_asm); (case k3 => k_asm); (case k4 => k_asm); (case k5 => k_asm); (case k6 => k_is); (case k7 => k_is); (case k8 => ktr_room); (case k9 => first | exact BindsTo.of_eq rfl | exact binds_K (by k_in) rfl (by k_is) rfl rfl rfl); (case kB => exact locs rfl); (case cK => assumption); (case c2 => exact rfl); (case c3 => exact rfl); (case c4 => exact rfl); (case c5 => decide); k_whole; intro g' L' h' FG' F' N' B' X' T' D'; (try dsimp only); (try k_lift B'); (try k_fold))))

local macro_rules | `(tactic| tm_at "cal:call ref") => `(tactic| (k_here; (with_reducible show wpAny _ _ (call (Value.ref (290 : Nat)) _) _ _ _); k_dflt (refine' con_use (c_countN_ok ?zD) ?cB ?cF ?cX ?cN ?cT ?cK ?cp ?cd ?cu ?_; (case cN => k_asm); (case zD => k_mem)); wtm_at "cal use"))

local macro_rules | `(tactic| tm_at "cal:call ref") => `(tactic| (k_here; (with_reducible show wpAny _ _ (call (Value.ref (290 : Nat)) _) _ _ _); k_dflt (refine' con_use (c_countN_no ?zD) ?cB ?cF ?cX ?cN ?cT ?cK ?cp ?cd ?cu ?_; (case cN => k_asm); (case zD => k_mem)); wtm_at "cal use"))

local macro_rules | `(tactic| tm_at "cal:call ref") => `(tactic| (k_here; (with_reducible show wpAny _ _ (call (Value.ref (290 : Nat)) _) _ _ _); k_dflt (refine' con_use (c_countS_ok ?zD) ?cB ?cF ?cX ?cN ?cT ?cK ?cp ?cd ?cu ?_; (case cN => k_asm); (case zD => k_mem)); wtm_at "cal use"))

local macro_rules | `(tactic| tm_at "cal:call ref") => `(tactic| (k_here; (with_reducible show wpAny _ _ (call (Value.ref (290 : Nat)) _) _ _ _); k_dflt (refine' con_use (c_countS_no ?zD) ?cB ?cF ?cX ?cN ?cT ?cK ?cp ?cd ?cu ?_; (case cN => k_asm); (case zD => k_mem)); wtm_at "cal use"))

section
variable {w : World} {loose : List Str} {mean : ExcName → Option Value} {mg mb : Str → Option Value} {news : List (Addr × Obj)} {y m d : Int} {ty tf t1 t2 t3 tk : Tok} {D : Addr} {c : Nat}
theorem c_tripleN (hD : (D, tup3 y m d t1 t2 t3 c) ∈ news) : Con0 w loose mean mg mb 9 337 [.ref D, .none, .int 1922868 tf, .int 1 ty, .ref 262] True news (RetB true) := by
  wtm_at "cal open0"
  by_cases hv : validN y m d
  all_goals wtm_at "cal goS"
  all_goals (rename Fr _ _ _ _ => Fq; with_reducible refine go_norm Fq [(Str.ofString "cycle", .ref 262), (Str.ofString "start", .int 1 ty), (Str.ofString "first", .int 1922868 tf), (Str.ofString "method", .none), (Str.ofString "date", .ref D)] (by kernel_rfl) ?_; clear Fq; wtm_at "cal norm")
  all_goals k_steps
  all_goals wtm_at "cal end"
  all_goals simp

theorem c_tripleS (hD : (D, tup3 y m d t1 t2 t3 c) ∈ news) : Con0 w loose mean mg mb 9 337 [.ref D, .str (Str.ofString "sarkawag") tk, .int 2117212 tf, .int 533 ty, .ref 261] True news (RetB true) := by
  wtm_at "cal open0"
  by_cases h1 : y < 533
  · have hv : ¬ validS y m d := fun h => absurd h.2.2.1 (by omega)
    have hz : (armLeap y != decide (533 ≤ y)) = false := by
      unfold armLeap
      rw [if_pos h1, decide_eq_false (by omega)]
      rfl
    wtm_at "cal goS"
    (rename Fr _ _ _ _ => Fq; with_reducible refine go_norm Fq [(Str.ofString "cycle", .ref 261), (Str.ofString "start", .int 533 ty), (Str.ofString "first", .int 2117212 tf), (Str.ofString "method", .str (Str.ofString "sarkawag") tk), (Str.ofString "date", .ref D)] (by kernel_rfl) ?_; clear Fq; wtm_at "cal norm")
    k_steps
    all_goals wtm_at "cal end"
    all_goals rfl
  · have hz : (armLeap y != (fourth.getD ((y - 533).fmod 4).toNat 0 == 366)) = false := by
      unfold armLeap
      rw [if_neg h1, fmod_lit _ (by decide)]
      have : (y - 533) % 4 = 0 ∧ y % 4 = 1 ∨ (y - 533) % 4 = 1 ∧ y % 4 = 2 ∨ (y - 533) % 4 = 2 ∧ y % 4 = 3 ∨ (y - 533) % 4 = 3 ∧ y % 4 = 0 := by omega
      rcases this with ⟨h, k⟩ | ⟨h, k⟩ | ⟨h, k⟩ | ⟨h, k⟩ <;> rw [h, k] <;> decide
    by_cases hv : validS y m d
    all_goals wtm_at "cal goS"
    all_goals (rename Fr _ _ _ _ => Fq; with_reducible refine go_norm Fq [(Str.ofString "cycle", .ref 261), (Str.ofString "start", .int 533 ty), (Str.ofString "first", .int 2117212 tf), (Str.ofString "method", .str (Str.ofString "sarkawag") tk), (Str.ofString "date", .ref D)] (by kernel_rfl) ?_; clear Fq; wtm_at "cal norm")
    all_goals k_steps
    all_goals wtm_at "cal end"
    all_goals simp
end

section
variable {w : World} {loose : List Str} {mean : ExcName → Option Value} {mg mb : Str → Option Value} {news : List (Addr × Obj)} {e : Int} {ty tm td t1 t2 t3 tk : Tok} {D S : Addr} {c c' : Nat} {vs : List Value}
theorem con_imp {k : Nat} {f : Addr} {us : List Value} {P P' : Prop} {R : RetTy} (hP : P' → P) (h : Con w loose mean mg mb k f us P news R) : Con w loose mean mg mb k f us P' news R :=
  fun _ _ _ _ _ _ _ _ _ _ _ _ _ _ _ _ _ B F X N T hk p => h _ _ _ _ _ _ _ _ _ _ _ _ _ _ _ _ _ B F X N T hk (hP p)

theorem s_armFrom : Con w loose mean mg mb 2 216 [.int e ty, .none] (1922868 ≤ e) news (RetT3 (arm e)) := armFrom_eq e ▸ con_imp (fun h => by omega) c_armFromN
theorem s_armJd : Con w loose mean mg mb 3 208 [.int (arm e).1 ty, .int (arm e).2.1 tm, .int (arm e).2.2 td, .none] (1922868 ≤ e) news (RetI e) := by
  have h := c_armJdN (w := w) (loose := loose) (mean := mean) (mg := mg) (mb := mb) (news := news) (y := (arm e).1) (m := (arm e).2.1) (d := (arm e).2.2) (ty := ty) (tm := tm) (td := td)
  rw [armJd_eq] at h
  exact con_imp (arm_valid e) h
theorem s_armToG : Con w loose mean mg mb 7 240 [.int (arm e).1 ty, .int (arm e).2.1 tm, .int (arm e).2.2 td, .none] (1922868 ≤ e) news (RetT3 (rom e)) := by
  have h := c_armToGN (w := w) (loose := loose) (mean := mean) (mg := mg) (mb := mb) (news := news) (y := (arm e).1) (m := (arm e).2.1) (d := (arm e).2.2) (ty := ty) (tm := tm) (td := td)
  rw [armJd_eq, gFrom_eq] at h
  exact con_imp (arm_valid e) h
theorem s_armToJ : Con w loose mean mg mb 7 224 [.int (arm e).1 ty, .int (arm e).2.1 tm, .int (arm e).2.2 td, .none] (1922868 ≤ e) news (RetT3 (lat e)) := by
  have h := c_armToJN (w := w) (loose := loose) (mean := mean) (mg := mg) (mb := mb) (news := news) (y := (arm e).1) (m := (arm e).2.1) (d := (arm e).2.2) (ty := ty) (tm := tm) (td := td)
  rw [armJd_eq, latFrom_eq] at h
  exact con_imp (arm_valid e) h
theorem s_armFromG : Con w loose mean mg mb 7 248 [.int (rom e).1 ty, .int (rom e).2.1 tm, .int (rom e).2.2 td, .none] (1922868 ≤ e) news (RetT3 (arm e)) := by
  have h := c_armFromGN (w := w) (loose := loose) (mean := mean) (mg := mg) (mb := mb) (news := news) (y := (rom e).1) (m := (rom e).2.1) (d := (rom e).2.2) (ty := ty) (tm := tm) (td := td)
  rw [gJd_eq, armFrom_eq] at h
  exact con_imp (fun p => ⟨rom_legal e, by omega⟩) h
theorem s_armFromJ : Con w loose mean mg mb 7 232 [.int (lat e).1 ty, .int (lat e).2.1 tm, .int (lat e).2.2 td, .none] (1922868 ≤ e) news (RetT3 (arm e)) := by
  have h := c_armFromJN (w := w) (loose := loose) (mean := mean) (mg := mg) (mb := mb) (news := news) (y := (lat e).1) (m := (lat e).2.1) (d := (lat e).2.2) (ty := ty) (tm := tm) (td := td)
  rw [latJd_eq, armFrom_eq] at h
  exact con_imp (fun p => ⟨lat_legal e, by omega⟩) h
theorem s_armNext (hD : (D, tup3 (arm e).1 (arm e).2.1 (arm e).2.2 t1 t2 t3 c) ∈ news) (hS : (S, listObj vs c') ∈ news) (hi : IntsAre vs (sizes1 (lawSize e 1922868 plainC))) :
    Con w loose mean mg mb 1 309 [.ref D, .ref S] True news (RetT3 (arm (e + 1))) := by
  have h := c_next (w := w) (loose := loose) (mean := mean) (mg := mg) (mb := mb) (r := arm e) hD hS hi (show 13 < 100 by decide)
  rw [arm_next] at h
  exact con_pre (arm_month_in e) h
theorem s_armDate : Con w loose mean mg mb 3 283 [.int e td, .int 1922868 ty, .int 1 tm, .ref 262, .int 1 tk] True news (RetDate (arm e) (sizes1 (lawSize e 1922868 plainC))) := c_dateArm
theorem s_sarFrom : Con w loose mean mg mb 2 216 [.int e ty, .str (Str.ofString "sarkawag") tk] (2117212 ≤ e) news (RetT3 (sar e)) := sarFrom_eq e ▸ con_imp (fun h => by omega) c_armFromS
theorem s_sarJd : Con w loose mean mg mb 3 208 [.int (sar e).1 ty, .int (sar e).2.1 tm, .int (sar e).2.2 td, .str (Str.ofString "sarkawag") tk] (2117212 ≤ e) news (RetI e) := by
  have h := c_armJdS (w := w) (loose := loose) (mean := mean) (mg := mg) (mb := mb) (news := news) (y := (sar e).1) (m := (sar e).2.1) (d := (sar e).2.2) (ty := ty) (tm := tm) (td := td) (tk := tk)
  rw [sarJd_eq] at h
  exact con_imp (sar_valid e) h
theorem s_sarToG : Con w loose mean mg mb 7 240 [.int (sar e).1 ty, .int (sar e).2.1 tm, .int (sar e).2.2 td, .str (Str.ofString "sarkawag") tk] (2117212 ≤ e) news (RetT3 (rom e)) := by
  have h := c_armToGS (w := w) (loose := loose) (mean := mean) (mg := mg) (mb := mb) (news := news) (y := (sar e).1) (m := (sar e).2.1) (d := (sar e).2.2) (ty := ty) (tm := tm) (td := td) (tk := tk)
  rw [sarJd_eq, gFrom_eq] at h
  exact con_imp (sar_valid e) h
theorem s_sarToJ : Con w loose mean mg mb 7 224 [.int (sar e).1 ty, .int (sar e).2.1 tm, .int (sar e).2.2 td, .str (Str.ofString "sarkawag") tk] (2117212 ≤ e) news (RetT3 (lat e)) := by
  have h := c_armToJS (w := w) (loose := loose) (mean := mean) (mg := mg) (mb := mb) (news := news) (y := (sar e).1) (m := (sar e).2.1) (d := (sar e).2.2) (ty := ty) (tm := tm) (td := td) (tk := tk)
  rw [sarJd_eq, latFrom_eq] at h
  exact con_imp (sar_valid e) h
theorem s_sarFromG : Con w loose mean mg mb 7 248 [.int (rom e).1 ty, .int (rom e).2.1 tm, .int (rom e).2.2 td, .str (Str.ofString "sarkawag") tk] (2117212 ≤ e) news (RetT3 (sar e)) := by
  have h := c_armFromGS (w := w) (loose := loose) (mean := mean) (mg := mg) (mb := mb) (news := news) (y := (rom e).1) (m := (rom e).2.1) (d := (rom e).2.2) (ty := ty) (tm := tm) (td := td) (tk := tk)
  rw [gJd_eq, sarFrom_eq] at h
  exact con_imp (fun p => ⟨rom_legal e, by omega⟩) h
theorem s_sarFromJ : Con w loose mean mg mb 7 232 [.int (lat e).1 ty, .int (lat e).2.1 tm, .int (lat e).2.2 td, .str (Str.ofString "sarkawag") tk] (2117212 ≤ e) news (RetT3 (sar e)) := by
  have h := c_armFromJS (w := w) (loose := loose) (mean := mean) (mg := mg) (mb := mb) (news := news) (y := (lat e).1) (m := (lat e).2.1) (d := (lat e).2.2) (ty := ty) (tm := tm) (td := td) (tk := tk)
  rw [latJd_eq, sarFrom_eq] at h
  exact con_imp (fun p => ⟨lat_legal e, by omega⟩) h
theorem s_sarNext (hD : (D, tup3 (sar e).1 (sar e).2.1 (sar e).2.2 t1 t2 t3 c) ∈ news) (hS : (S, listObj vs c') ∈ news) (hi : IntsAre vs (sizes1 (lawSize e 2117212 fourth))) :
    Con w loose mean mg mb 1 309 [.ref D, .ref S] True news (RetT3 (sar (e + 1))) := by
  have h := c_next (w := w) (loose := loose) (mean := mean) (mg := mg) (mb := mb) (r := sar e) hD hS hi (show 13 < 100 by decide)
  rw [sar_next] at h
  exact con_pre (sar_month_in e) h
theorem s_sarDate : Con w loose mean mg mb 3 283 [.int e td, .int 2117212 ty, .int 533 tm, .ref 261, .int 1 tk] True news (RetDate (sar e) (sizes1 (lawSize e 2117212 fourth))) := c_dateSar
theorem s_armLen : Con w loose mean mg mb 1 256 [.int (arm e).1 ty, .int (arm e).2.1 tm, .none] (1922868 ≤ e) news (RetI ((sizes1 (lawSize e 1922868 plainC)).getD ((arm e).2.1 - 1).toNat 0)) :=
  con_imp (fun _ => (arm_month_in e).2) (arm_len_eq e ▸ c_armLenN)
theorem s_sarLen : Con w loose mean mg mb 2 256 [.int (sar e).1 ty, .int (sar e).2.1 tm, .str (Str.ofString "sarkawag") tk] (2117212 ≤ e) news (RetI ((sizes1 (lawSize e 2117212 fourth)).getD ((sar e).2.1 - 1).toNat 0)) :=
  fun _ _ _ _ _ _ _ _ _ _ _ _ _ _ _ _ _ B F X N T hk p => (con_imp (fun _ => (sar_month_in e).2) (sar_len_eq e p ▸ c_armLenS)) _ _ _ _ _ _ _ _ _ _ _ _ _ _ _ _ _ B F X N T hk p
theorem s_sarLeap : Con w loose mean mg mb 1 200 [.int (sar e).1 ty] (2117212 ≤ e) news (RetB ((sizes1 (lawSize e 2117212 fourth)).getD 12 0 == 6)) :=
  fun _ _ _ _ _ _ _ _ _ _ _ _ _ _ _ _ _ B F X N T hk p => (con_imp (fun _ => trivial) (sar_leap_eq e p ▸ c_armLeap)) _ _ _ _ _ _ _ _ _ _ _ _ _ _ _ _ _ B F X N T hk p
end

local macro_rules | `(tactic| tm_at "cal:call ref") => `(tactic| (k_here; (with_reducible show wpAny _ _ (call (Value.ref (216 : Nat)) _) _ _ _); k_dflt (first
  | refine' con_use s_armFrom ?cB ?cF ?cX ?cN ?cT ?cK ?cp ?cd ?cu ?_
  | refine' con_use s_sarFrom ?cB ?cF ?cX ?cN ?cT ?cK ?cp ?cd ?cu ?_); wtm_at "cal use"))

local macro_rules | `(tactic| tm_at "cal:call ref") => `(tactic| (k_here; (with_reducible show wpAny _ _ (call (Value.ref (208 : Nat)) _) _ _ _); k_dflt (first
  | refine' con_use s_armJd ?cB ?cF ?cX ?cN ?cT ?cK ?cp ?cd ?cu ?_
  | refine' con_use s_sarJd ?cB ?cF ?cX ?cN ?cT ?cK ?cp ?cd ?cu ?_); wtm_at "cal use"))

local macro_rules | `(tactic| tm_at "cal:call ref") => `(tactic| (k_here; (with_reducible show wpAny _ _ (call (Value.ref (240 : Nat)) _) _ _ _); k_dflt (first
  | refine' con_use s_armToG ?cB ?cF ?cX ?cN ?cT ?cK ?cp ?cd ?cu ?_
  | refine' con_use s_sarToG ?cB ?cF ?cX ?cN ?cT ?cK ?cp ?cd ?cu ?_); wtm_at "cal use"))

local macro_rules | `(tactic| tm_at "cal:call ref") => `(tactic| (k_here; (with_reducible show wpAny _ _ (call (Value.ref (224 : Nat)) _) _ _ _); k_dflt (first
  | refine' con_use s_armToJ ?cB ?cF ?cX ?cN ?cT ?cK ?cp ?cd ?cu ?_
  | refine' con_use s_sarToJ ?cB ?cF ?cX ?cN ?cT ?cK ?cp ?cd ?cu ?_); wtm_at "cal use"))

local macro_rules | `(tactic| tm_at "cal:call ref") => `(tactic| (k_here; (with_reducible show wpAny _ _ (call (Value.ref (248 : Nat)) _) _ _ _); k_dflt (first
  | refine' con_use s_armFromG ?cB ?cF ?cX ?cN ?cT ?cK ?cp ?cd ?cu ?_
  | refine' con_use s_sarFromG ?cB ?cF ?cX ?cN ?cT ?cK ?cp ?cd ?cu ?_); wtm_at "cal use"))

local macro_rules | `(tactic| tm_at "cal:call ref") => `(tactic| (k_here; (with_reducible show wpAny _ _ (call (Value.ref (232 : Nat)) _) _ _ _); k_dflt (first
  | refine' con_use s_armFromJ ?cB ?cF ?cX ?cN ?cT ?cK ?cp ?cd ?cu ?_
  | refine' con_use s_sarFromJ ?cB ?cF ?cX ?cN ?cT ?cK ?cp ?cd ?cu ?_); wtm_at "cal use"))

local macro_rules | `(tactic| tm_at "cal:call ref") => `(tactic| (k_here; (with_reducible show wpAny _ _ (call (Value.ref (283 : Nat)) _) _ _ _); k_dflt (first
  | refine' con_use s_armDate ?cB ?cF ?cX ?cN ?cT ?cK ?cp ?cd ?cu ?_
  | refine' con_use s_sarDate ?cB ?cF ?cX ?cN ?cT ?cK ?cp ?cd ?cu ?_); wtm_at "cal use"))

local macro_rules | `(tactic| tm_at "cal:call ref") => `(tactic| (k_here; (with_reducible show wpAny _ _ (call (Value.ref (256 : Nat)) _) _ _ _); k_dflt (first
  | refine' con_use s_armLen ?cB ?cF ?cX ?cN ?cT ?cK ?cp ?cd ?cu ?_
  | refine' con_use s_sarLen ?cB ?cF ?cX ?cN ?cT ?cK ?cp ?cd ?cu ?_); wtm_at "cal use"))

local macro_rules | `(tactic| tm_at "cal:call ref") => `(tactic| (k_here; (with_reducible show wpAny _ _ (call (Value.ref (200 : Nat)) _) _ _ _); k_dflt (first
  | refine' con_use s_sarLeap ?cB ?cF ?cX ?cN ?cT ?cK ?cp ?cd ?cu ?_); wtm_at "cal use"))

local macro_rules | `(tactic| tm_at "cal:call ref") => `(tactic| (k_here; (with_reducible show wpAny _ _ (call (Value.ref (309 : Nat)) _) _ _ _); k_dflt (refine' con_use (s_armNext ?zD ?zS ?zi) ?cB ?cF ?cX ?cN ?cT ?cK ?cp ?cd ?cu ?_; (case cN => k_asm); (case zi => with_reducible assumption); (case zS => k_mem); (case zD => k_mem)); wtm_at "cal use"))

local macro_rules | `(tactic| tm_at "cal:call ref") => `(tactic| (k_here; (with_reducible show wpAny _ _ (call (Value.ref (309 : Nat)) _) _ _ _); k_dflt (refine' con_use (s_sarNext ?zD ?zS ?zi) ?cB ?cF ?cX ?cN ?cT ?cK ?cp ?cd ?cu ?_; (case cN => k_asm); (case zi => with_reducible assumption); (case zS => k_mem); (case zD => k_mem)); wtm_at "cal use"))

section
variable {w : World} {loose : List Str} {mean : ExcName → Option Value} {mg mb : Str → Option Value} {news : List (Addr × Obj)} {d : Int} {td te tf ty t1 t2 t3 u1 u2 u3 tk : Tok} {R J : Addr} {c c' : Nat}

theorem c_lawArmN (hR : (R, tup3 (rom d).1 (rom d).2.1 (rom d).2.2 t1 t2 t3 c) ∈ news) (hJ : (J, tup3 (lat d).1 (lat d).2.1 (lat d).2.2 u1 u2 u3 c') ∈ news) :
    Con0 w loose mean mg mb 30 330 [.int d td, .none, .int 1922502 te, .int 1922868 tf, .int 1 ty, .ref 262, .ref R, .ref J] True news (RetB true) := by
  wtm_at "cal open0"
  by_cases h1 : d < 1922502
  · wtm_at "cal goS"
    (rename Fr _ _ _ _ => Fq; with_reducible refine go_norm Fq [(Str.ofString "latin", .ref J), (Str.ofString "roman", .ref R), (Str.ofString "cycle", .ref 262), (Str.ofString "start", .int 1 ty), (Str.ofString "first", .int 1922868 tf), (Str.ofString "edge", .int 1922502 te), (Str.ofString "method", .none), (Str.ofString "day", .int d td)] (by kernel_rfl) ?_; clear Fq; wtm_at "cal norm")
    k_steps
    wtm_at "cal end"
    rfl
  by_cases h2 : d < 1922868
  · wtm_at "cal goS"
    (rename Fr _ _ _ _ => Fq; with_reducible refine go_norm Fq [(Str.ofString "latin", .ref J), (Str.ofString "roman", .ref R), (Str.ofString "cycle", .ref 262), (Str.ofString "start", .int 1 ty), (Str.ofString "first", .int 1922868 tf), (Str.ofString "edge", .int 1922502 te), (Str.ofString "method", .none), (Str.ofString "day", .int d td)] (by kernel_rfl) ?_; clear Fq; wtm_at "cal norm")
    k_steps
    wtm_at "cal end"
    rfl
  have h3 : 1922868 ≤ d := by omega
  have h4 : 1922868 ≤ d + 1 := by omega
  have hm := arm_month_in d
  wtm_at "cal goS"
  (rename Fr _ _ _ _ => Fq; with_reducible refine go_norm Fq [(Str.ofString "latin", .ref J), (Str.ofString "roman", .ref R), (Str.ofString "cycle", .ref 262), (Str.ofString "start", .int 1 ty), (Str.ofString "first", .int 1922868 tf), (Str.ofString "edge", .int 1922502 te), (Str.ofString "method", .none), (Str.ofString "day", .int d td)] (by kernel_rfl) ?_; clear Fq; wtm_at "cal norm")
  k_steps
  wtm_at "cal end"
  rfl

theorem c_lawArmS (hR : (R, tup3 (rom d).1 (rom d).2.1 (rom d).2.2 t1 t2 t3 c) ∈ news) (hJ : (J, tup3 (lat d).1 (lat d).2.1 (lat d).2.2 u1 u2 u3 c') ∈ news) :
    Con0 w loose mean mg mb 30 330 [.int d td, .str (Str.ofString "sarkawag") tk, .int 2117211 te, .int 2117212 tf, .int 533 ty, .ref 261, .ref R, .ref J] True news (RetB true) := by
  wtm_at "cal open0"
  by_cases h1 : d < 2117211
  · wtm_at "cal goS"
    (rename Fr _ _ _ _ => Fq; with_reducible refine go_norm Fq [(Str.ofString "latin", .ref J), (Str.ofString "roman", .ref R), (Str.ofString "cycle", .ref 261), (Str.ofString "start", .int 533 ty), (Str.ofString "first", .int 2117212 tf), (Str.ofString "edge", .int 2117211 te), (Str.ofString "method", .str (Str.ofString "sarkawag") tk), (Str.ofString "day", .int d td)] (by kernel_rfl) ?_; clear Fq; wtm_at "cal norm")
    k_steps
    wtm_at "cal end"
    rfl
  by_cases h2 : d < 2117212
  · wtm_at "cal goS"
    (rename Fr _ _ _ _ => Fq; with_reducible refine go_norm Fq [(Str.ofString "latin", .ref J), (Str.ofString "roman", .ref R), (Str.ofString "cycle", .ref 261), (Str.ofString "start", .int 533 ty), (Str.ofString "first", .int 2117212 tf), (Str.ofString "edge", .int 2117211 te), (Str.ofString "method", .str (Str.ofString "sarkawag") tk), (Str.ofString "day", .int d td)] (by kernel_rfl) ?_; clear Fq; wtm_at "cal norm")
    k_steps
    wtm_at "cal end"
    rfl
  have h3 : 2117212 ≤ d := by omega
  have h4 : 2117212 ≤ d + 1 := by omega
  have hm := sar_month_in d
  wtm_at "cal goS"
  (rename Fr _ _ _ _ => Fq; with_reducible refine go_norm Fq [(Str.ofString "latin", .ref J), (Str.ofString "roman", .ref R), (Str.ofString "cycle", .ref 261), (Str.ofString "start", .int 533 ty), (Str.ofString "first", .int 2117212 tf), (Str.ofString "edge", .int 2117211 te), (Str.ofString "method", .str (Str.ofString "sarkawag") tk), (Str.ofString "day", .int d td)] (by kernel_rfl) ?_; clear Fq; wtm_at "cal norm")
  k_steps
  wtm_at "cal end"
  rfl
end

def opens : List Int := [0, 1948440, 1825030, 1922868, 2117212, 2451545]
def strides : List Int := [1, 29, 354, 365, 1461, 10631, 146097]
theorem seq_opens {w : World} {news : List (Addr × Obj)} : SeqInts (hd.heap_39 w.params) news 257 opens ∧ Challenge.rw_bn0012_01.row.prog = Challenge.rw_bn0012_01.row.prog := by
  k_fill
  exact ⟨seq_tup (by k_is) (by repeat constructor), rfl⟩
theorem seq_strides {w : World} {news : List (Addr × Obj)} : SeqInts (hd.heap_39 w.params) news 258 strides ∧ Challenge.rw_bn0012_01.row.prog = Challenge.rw_bn0012_01.row.prog := by
  k_fill
  exact ⟨seq_tup (by k_is) (by repeat constructor), rfl⟩

local macro_rules | `(tactic| wtm_at "cal seq") => `(tactic| first
  | exact seq_opens.1
  | exact seq_strides.1)

local macro_rules | `(tactic| wtm_at "cal idx") => `(tactic| first | (show _ < (6 : Nat); omega) | (show _ < (7 : Nat); omega))

local macro_rules | `(tactic| tm_at "cal:call ref") => `(tactic| (k_here; (with_reducible show wpAny _ _ (call (Value.ref (302 : Nat)) _) _ _ _); refine calHere ?_))

local macro_rules | `(tactic| wtm_at "cal seq") => `(tactic| (refine' seq_made ?zm ?zi; (case zm => wtm_at "cal mem"); (case zi => assumption)))

local macro_rules | `(tactic| tm_at "cal:call builtin:len") => `(tactic| (k_here; (with_reducible show wpAny _ _ (call (Value.builtin "len") [Value.ref _]) _ _ _); k_dflt (refine' len_made ?N ?m ?i ?e ?f ?_; (case N => k_asm); (case m => wtm_at "cal mem"); (case i => assumption); (case e => exact rfl); (case f => first | omega | assumption); k_whole)))

local macro_rules | `(tactic| tm_at "cal:eval IfExp") => `(tactic| (k_here; refine calHere ?_))

theorem stride_at (i : Nat) : 0 ≤ strides.getD i 0 ∧ strides.getD i 0 ≤ 146097 := by
  rcases Nat.lt_or_ge i 7 with h | h
  · have : i = 0 ∨ i = 1 ∨ i = 2 ∨ i = 3 ∨ i = 4 ∨ i = 5 ∨ i = 6 := by omega
    rcases this with rfl | rfl | rfl | rfl | rfl | rfl | rfl <;> decide
  · rw [List.getD_eq_getElem?_getD, List.getElem?_eq_none (show strides.length ≤ i from h)]
    decide
theorem stride_ok (a : Int) (i : Nat) : IntMulOk a (strides.getD i 0) := IntMulOk.of_right (PySem.intBits_le_64 (by have := stride_at i; omega) (by have := stride_at i; omega))

-- the count times its stride
local macro_rules | `(tactic| tm_at "cal:Mult") => `(tactic| with_reducible refine PyProof.Rows.mul_int ?_ (stride_ok _ _))

section
variable {w : World} {loose : List Str} {mean : ExcName → Option Value} {mg mb : Str → Option Value} {news : List (Addr × Obj)} {e : Int} {ty tm td tk : Tok}
theorem s_latDate : Con w loose mean mg mb 3 283 [.int e td, .int 1721424 ty, .int 1 tm, .ref 261, .int 2 tk] True news (RetDate (lat e) (sizes2 (lawSize e 1721424 fourth))) := c_dateLat
theorem s_latFromG : Con w loose mean mg mb 7 178 [.int (rom e).1 ty, .int (rom e).2.1 tm, .int (rom e).2.2 td] True news (RetT3 (lat e)) := by
  have h := c_julFromG (w := w) (loose := loose) (mean := mean) (mg := mg) (mb := mb) (news := news) (y := (rom e).1) (m := (rom e).2.1) (d := (rom e).2.2) (ty := ty) (tm := tm) (td := td)
  rw [gJd_eq, latFrom_eq] at h
  exact con_pre (rom_legal e) h
theorem s_latToG : Con w loose mean mg mb 7 185 [.int (lat e).1 ty, .int (lat e).2.1 tm, .int (lat e).2.2 td] True news (RetT3 (rom e)) := by
  have h := c_julToG (w := w) (loose := loose) (mean := mean) (mg := mg) (mb := mb) (news := news) (y := (lat e).1) (m := (lat e).2.1) (d := (lat e).2.2) (ty := ty) (tm := tm) (td := td)
  rw [latJd_eq, gFrom_eq] at h
  exact con_pre (lat_legal e) h
end

local macro_rules | `(tactic| tm_at "cal:call ref") => `(tactic| (k_here; (with_reducible show wpAny _ _ (call (Value.ref (283 : Nat)) _) _ _ _); k_dflt (refine' con_use s_latDate ?cB ?cF ?cX ?cN ?cT ?cK ?cp ?cd ?cu ?_); wtm_at "cal use"))

local macro_rules | `(tactic| tm_at "cal:call ref") => `(tactic| (k_here; (with_reducible show wpAny _ _ (call (Value.ref (178 : Nat)) _) _ _ _); k_dflt (refine' con_use s_latFromG ?cB ?cF ?cX ?cN ?cT ?cK ?cp ?cd ?cu ?_); wtm_at "cal use"))

local macro_rules | `(tactic| tm_at "cal:call ref") => `(tactic| (k_here; (with_reducible show wpAny _ _ (call (Value.ref (185 : Nat)) _) _ _ _); k_dflt (refine' con_use s_latToG ?cB ?cF ?cX ?cN ?cT ?cK ?cp ?cd ?cu ?_); wtm_at "cal use"))

local macro_rules | `(tactic| tm_at "cal:call ref") => `(tactic| (k_here; (with_reducible show wpAny _ _ (call (Value.ref (323 : Nat)) _) _ _ _); k_dflt (refine' con_use (c_lawCop ?zR) ?cB ?cF ?cX ?cN ?cT ?cK ?cp ?cd ?cu ?_; (case cN => k_asm); (case zR => wtm_at "cal mem")); wtm_at "cal use"))

local macro_rules | `(tactic| tm_at "cal:call ref") => `(tactic| (k_here; (with_reducible show wpAny _ _ (call (Value.ref (330 : Nat)) _) _ _ _); k_dflt (first
  | refine' con0_use (c_lawArmN ?zR ?zJ) ?cB ?cF ?cX ?cN ?cT ?cK ?cp ?cd ?cu ?_
  | refine' con0_use (c_lawArmS ?zR ?zJ) ?cB ?cF ?cX ?cN ?cT ?cK ?cp ?cd ?cu ?_); (case cN => k_asm); (case zR => wtm_at "cal mem"); (case zJ => wtm_at "cal mem"); wtm_at "cal use"))

local macro_rules | `(tactic| tm_at "cal:call ref") => `(tactic| (k_here; (with_reducible show wpAny _ _ (call (Value.ref (337 : Nat)) _) _ _ _); k_dflt (first
  | refine' con0_use (c_tripleN ?zD) ?cB ?cF ?cX ?cN ?cT ?cK ?cp ?cd ?cu ?_
  | refine' con0_use (c_tripleS ?zD) ?cB ?cF ?cX ?cN ?cT ?cK ?cp ?cd ?cu ?_); (case cN => k_asm); (case zD => wtm_at "cal mem"); wtm_at "cal use"))

-- the day: how it was made is forgotten
theorem gen_store {M : Model} {A : Around} {Q : Unit → Shared → Prop} {E : Value → Shared → Prop} {s : Shared} {env : Env} {x : Str} {X : Int} {t : Tok} (h : ∀ day, wpAny M A (storeName env x (.int day t)) Q E s) : wpAny M A (storeName env x (.int X t)) Q E s := h X

local macro_rules | `(tactic| tm_at "cal:storeName int") => `(tactic| ((with_reducible show wpAny _ _ (storeName _ (Str.ofString "day") (Value.int (HAdd.hAdd _ _) _)) _ _ _); (with_reducible refine gen_store ?_); intro day))

-- a conditional expression's ways meet: a list of ints, an int
def JoinInt (h₀ : Heap) (L : Addr) (m : Str → Option Value) (news : List (Addr × Obj)) (s : Shared) (x : Int) (v : Value) (s₂ : Shared) : Prop :=
  ∃ y t h' tk, v = .int y t ∧ y = x ∧ s₂ = { s with heap := h', toks := tk } ∧ Fr h₀ L h' m ∧ News h₀ L h' news
def JoinList (h₀ : Heap) (L : Addr) (m : Str → Option Value) (news : List (Addr × Obj)) (s : Shared) (ns : List Int) (v : Value) (s₂ : Shared) : Prop :=
  ∃ D vs c h' tk, v = .ref D ∧ s₂ = { s with heap := h', toks := tk } ∧ Fr h₀ L h' m ∧ News h₀ L h' ((D, listObj vs c) :: news) ∧ AllLt D news ∧ IntsAre vs ns
section
variable {M : Model} {A : Around} {E : Value → Shared → Prop} {s : Shared} {h₀ : Heap} {L : Addr} {m : Str → Option Value} {news : List (Addr × Obj)} {e : PySem.Expr} {env : Env} {Q : Value → Shared → Prop}
theorem join_int (x : Int) (_F : Fr h₀ L s.heap m) (_N : News h₀ L s.heap news) (h : wpAny M A (eval e env) (JoinInt h₀ L m news s x) E s)
    (k : ∀ t h' tk, Fr h₀ L h' m → News h₀ L h' news → Q (.int x t) { s with heap := h', toks := tk }) : wpAny M A (eval e env) Q E s := by
  refine wpAny_mono h (fun v s₂ q => ?_) fun _ _ x => x
  obtain ⟨y, t, h', tk, rfl, rfl, rfl, F, N⟩ := q
  exact k t h' tk F N
theorem join_list (ns : List Int) (_F : Fr h₀ L s.heap m) (_N : News h₀ L s.heap news) (h : wpAny M A (eval e env) (JoinList h₀ L m news s ns) E s)
    (k : ∀ D vs c h' tk, Fr h₀ L h' m → News h₀ L h' ((D, listObj vs c) :: news) → AllLt D news → IntsAre vs ns → Q (.ref D) { s with heap := h', toks := tk }) : wpAny M A (eval e env) Q E s := by
  refine wpAny_mono h (fun v s₂ q => ?_) fun _ _ x => x
  obtain ⟨D, vs, c, h', tk, rfl, rfl, F, N, l, i⟩ := q
  exact k D vs c h' tk F N l i
end

def nums (script : List Int) : List Int := if 0 < script.length then script.take 9 else [0]

theorem nums_pos {script : List Int} {ws : List Value} (h : 0 < (List.map PyData.int script).length) (hI : IntsAre ws (script.take 9)) : IntsAre ws (nums script) := by
  unfold nums
  rw [List.length_map] at h
  rw [if_pos h]
  exact hI
theorem nums_neg {script : List Int} {ws : List Value} (h : ¬ 0 < (List.map PyData.int script).length) (hI : IntsAre ws [0]) : IntsAre ws (nums script) := by
  unfold nums
  rw [List.length_map] at h
  rw [if_neg h]
  exact hI
theorem nums_len (script : List Int) : 1 ≤ (nums script).length ∧ (nums script).length ≤ 9 := by
  unfold nums
  split
  · rw [List.length_take]
    omega
  · exact ⟨Nat.le_refl 1, by decide⟩

theorem range3 (k : Nat) (h1 : 1 ≤ k) (h2 : k ≤ 9) : ∃ n : Nat, Builtin.Range.rangeSize 0 (k : Int) 3 = (n : Int) ∧ Builtin.Range.small 0 (k : Int) 3 = true ∧ ∀ i : Nat, i < n → i * 3 < k := by
  have : k = 1 ∨ k = 2 ∨ k = 3 ∨ k = 4 ∨ k = 5 ∨ k = 6 ∨ k = 7 ∨ k = 8 ∨ k = 9 := by omega
  rcases this with rfl | rfl | rfl | rfl | rfl | rfl | rfl | rfl | rfl
  · exact ⟨1, by decide, by decide, by omega⟩
  · exact ⟨1, by decide, by decide, by omega⟩
  · exact ⟨1, by decide, by decide, by omega⟩
  · exact ⟨2, by decide, by decide, by omega⟩
  · exact ⟨2, by decide, by decide, by omega⟩
  · exact ⟨2, by decide, by decide, by omega⟩
  · exact ⟨3, by decide, by decide, by omega⟩
  · exact ⟨3, by decide, by decide, by omega⟩
  · exact ⟨3, by decide, by decide, by omega⟩

theorem getD_out (ns : List Int) (k : Int) (h : ¬ k < ns.length) (h0 : 0 ≤ k) : 0 = ns.getD k.toNat 0 := by
  rw [List.getD_eq_getElem?_getD, List.getElem?_eq_none (by omega)]
  rfl

theorem whole : PySem.Challenge.rw_bn0012_01.Holds := hd (by
  w_top off
  k_go0
  (all_goals try k_fold)
  k_steps
  unfold CalHere
  (rename Fr _ _ _ _ => F₀); (rename News _ _ _ _ => N₀)
  refine' join_list (nums ?sc) F₀ N₀ ?ih ?ik
  case ih =>
    k_dflt (refine IfExp_ ?_)
    k_steps
    · exact ⟨_, _, _, _, _, rfl, rfl, by k_asm, by k_asm, trivial, nums_pos (by assumption) (by assumption)⟩
    · exact ⟨_, _, _, _, _, rfl, rfl, by k_asm, by k_asm, trivial, nums_neg (by assumption) (by repeat constructor)⟩
  case ik =>
  intro D vs c h1 tk1 F1 N1 l1 i1
  clear F₀ N₀ l1
  have hlen := nums_len ‹_›
  generalize nums _ = ns at i1 hlen
  obtain ⟨n, hn, hsm, hlt⟩ := range3 ns.length hlen.1 hlen.2
  k_steps
  unfold CalHere
  (rename Fr _ _ _ _ => F₁); (rename News _ _ _ _ => N₁)
  refine range_cal (n := n) (fun i m' => Has m' [(Str.ofString "numbers", .ref D)]) (by with_unfolding_all rfl) (by assumption) hsm hn F₁ N₁ ⟨rfl, trivial⟩ ?_ ?_
  · intro i t m8 h8 tk8 own8 hi hm8 F8 N8
    clear F₁ N₁
    have hi3 := hlt i hi
    have hDm : (D, listObj vs c) ∈ own8 ++ [(D, listObj vs c)] := List.mem_append_right _ (List.mem_singleton_self _)
    rw [← ov_eq hm8] at F8
    have hp0 : 0 ≤ (0 + (i : Int) * 3) := by omega
    have hp1 : (0 + (i : Int) * 3) < (ns.length : Int) := by omega
    generalize (0 + (i : Int) * 3) = p at F8 hp0 hp1
    clear hn hsm hlt hi hi3
    k_steps
    unfold CalHere
    refine' join_int (ns.getD (p + 1).toNat 0) ?jF ?jN ?jh ?jk
    case jF => k_asm
    case jN => k_asm
    case jh =>
      k_dflt (refine IfExp_ ?_)
      k_steps
      · exact ⟨_, _, _, _, rfl, rfl, rfl, by k_asm, by k_asm⟩
      · exact ⟨_, _, _, _, rfl, getD_out _ _ (by assumption) (by omega), rfl, by k_asm, by k_asm⟩
    case jk =>
    intro t3 h3 tk3 F3 N3
    k_steps
    unfold CalHere
    refine' join_int (ns.getD (p + 2).toNat 0) ?jF2 ?jN2 ?jh2 ?jk2
    case jF2 => k_asm
    case jN2 => k_asm
    case jh2 =>
      k_dflt (refine IfExp_ ?_)
      k_steps
      · exact ⟨_, _, _, _, rfl, rfl, rfl, by k_asm, by k_asm⟩
      · exact ⟨_, _, _, _, rfl, getD_out _ _ (by assumption) (by omega), rfl, by k_asm, by k_asm⟩
    case jk2 =>
    intro t4 h4 tk4 F4 N4
    generalize ns.getD p.toNat 0 = x0 at F4 N4
    generalize ns.getD (p + 1).toNat 0 = x1 at F4 N4
    generalize ns.getD (p + 2).toNat 0 = x2
    k_steps
    unfold CalHere
    rename Int => day
    k_dflt (refine' con_use c_roman ?cB ?cF ?cX ?cN ?cT ?cK ?cp ?cd ?cu ?_)
    wtm_at "cal use"
    k_steps
    unfold CalHere
    refine' tup_cal1 (fun i m' => ∃ t1 t2 t3 t4, Has m' [(Str.ofString "day", .int day t1), (Str.ofString "count", .int (x0.fdiv 6) t2), (Str.ofString "month", .int ((x2 + 2).fmod 17) t3), (Str.ofString "far", .int ((x2 + 2).fdiv 17) t4), (Str.ofString "roman", .ref ?uR), (Str.ofString "latin", .ref ?uJ), (Str.ofString "numbers", .ref D)])
      (by with_unfolding_all rfl) ?uF ?uN ?um ?uc ?ud ?uj ?ut ?uo
    case uF => k_asm
    case uN => k_asm
    case um => k_mem
    case uc => rfl
    case ud => rfl
    case uj =>
      refine' ⟨_, _, _, _, ?p1, ?p2, ?p3, ?p4, ?p5, ?p6, ?p7, trivial⟩
      case p1 => exact rfl
      case p2 => exact rfl
      case p3 => exact rfl
      case p4 => exact rfl
      case p5 => exact rfl
      case p6 => exact rfl
      case p7 => exact rfl
    case ut =>
      repeat (rename Fr _ _ _ _ => Fz; clear Fz)
      repeat (rename News _ _ _ _ => Fz; clear Fz)
      repeat (rename _ < _ ∧ _ => Fz; clear Fz)
      intro i9 v m9 h9 tk9 I9 o9 hv hJ F9 N9
      obtain ⟨u1, u2, u3, u4, hm⟩ := hJ
      replace F9 := ov_fr hm F9
      rcases i9 with _ | _ | i9
      · cases hv
        k_steps
        refine CalTurn.next (by k_asm) (by k_asm) (by wtm_at "cal sub") ?_
        refine' ⟨_, _, _, _, ?v1, ?v2, ?v3, ?v4, ?v5, ?v6, ?v7, trivial⟩
        case v1 => exact rfl
        case v2 => exact rfl
        case v3 => exact rfl
        case v4 => exact rfl
        case v5 => exact rfl
        case v6 => exact rfl
        case v7 => exact rfl
      · cases hv
        k_steps
        refine CalTurn.next (by k_asm) (by k_asm) (by wtm_at "cal sub") ?_
        refine' ⟨_, _, _, _, ?v1, ?v2, ?v3, ?v4, ?v5, ?v6, ?v7, trivial⟩
        case v1 => exact rfl
        case v2 => exact rfl
        case v3 => exact rfl
        case v4 => exact rfl
        case v5 => exact rfl
        case v6 => exact rfl
        case v7 => exact rfl
      · exact absurd hv (by simp)
    case uo =>
      repeat (rename Fr _ _ _ _ => Fz; clear Fz)
      repeat (rename News _ _ _ _ => Fz; clear Fz)
      repeat (rename _ < _ ∧ _ => Fz; clear Fz)
      intro m9 h9 tk9 hJ F9 N9
      obtain ⟨u1, u2, u3, u4, hm⟩ := hJ
      replace F9 := ov_fr hm F9
      k_steps
      refine CalTurn.next (by k_asm) (by k_asm) (by wtm_at "cal sub") ⟨rfl, trivial⟩
  · intro m8 h8 tk8 hm8 F8 N8
    clear F₁ N₁
    replace F8 := ov_fr hm8 F8
    k_steps)

end Cal
set_option maxRecDepth 100000 in
set_option maxHeartbeats 8000000 in
theorem PySem.Challenge.cw_bn0012_01_holds : PySem.Challenge.rw_bn0012_01.Holds :=
  Cal.whole
