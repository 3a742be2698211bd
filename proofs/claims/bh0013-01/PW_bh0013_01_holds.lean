import PyProof.Rows.All
import Wide.All
import OpenK.AllK
import Wide.FinOn
import Lean
import PySem.Challenge.RW_bh0013_01
open PySem PySem.W PyProof.Rows
set_option Elab.async false
namespace Bh
set_option maxRecDepth 100000 in
set_option maxHeartbeats 8000000 in
open_top hd for PySem.Challenge.rw_bh0013_01

abbrev Led := List (Addr × Obj)
abbrev Back := Heap → Addr → (Str → Option Value) → Led → Shared → (Value → Shared → Prop) → Prop

/-- What a call of the def at address f, upon the values vs, hands back: R; whatever stands on the ledger. -/
def Ct (w : World) (f : Addr) (d : Nat) (vs : List Value) (R : Back) : Prop :=
  ∀ (p : Program) (loose : List Str) (mean : ExcName → Option Value) (mg mb : Str → Option Value) (dp un : Nat) (gd : Option (List Code)) (cn : Str) (cs : Scope) (a : Addr) (ccd : Value) (cl : List (Str × Addr)) (outer : List Env) (A₀ : Around) (base h₀ : Heap) (L : Addr) (m : Str → Option Value) (news : Led) (s : Shared) (Q E : Value → Shared → Prop),
    Below A₀ base outer h₀ → Fr h₀ L s.heap m → (hd.heap_39 w.params).In h₀ → News h₀ L s.heap news → Top p loose mean mg mb h₀ → cs.kind = .function → dp + d < recursionLimit → un + 8 * d < cLine →
    R h₀ L m news s Q →
    wpAny (model PySem.Challenge.rw_bh0013_01.row.prog w) (ktrTop dp un gd cn cs L a ccd cl outer) (call (.ref f) vs) Q E s

def RI (x : Int) : Back := fun h₀ L m news s Q => ∀ (t : Tok) (h' : Heap) (tk' : Nat), Fr h₀ L h' m → News h₀ L h' news → Q (.int x t) { s with heap := h', toks := tk' }
def RB (x : Bool) : Back := fun h₀ L m news s Q => ∀ (h' : Heap) (tk' : Nat), Fr h₀ L h' m → News h₀ L h' news → Q (.bool x) { s with heap := h', toks := tk' }
abbrev tup3 (x y z : Int) (t u v : Tok) (c : Nat) : Obj := { cls := .type "tuple", data := .seq #[.int x t, .int y u, .int z v] c }
def R3 (x y z : Int) : Back := fun h₀ L m news s Q => ∀ (D : Addr) (t u v : Tok) (c : Nat) (h' : Heap) (tk' : Nat), Fr h₀ L h' m → News h₀ L h' ((D, tup3 x y z t u v c) :: news) → (∀ p ∈ news, p.1 < D) → Q (.ref D) { s with heap := h', toks := tk' }

theorem ct_use {w : World} {f : Addr} {d : Nat} {vs : List Value} {R : Back} (C : Ct w f d vs R)
    {p : Program} {loose : List Str} {mean : ExcName → Option Value} {mg mb : Str → Option Value} {dp un : Nat} {gd : Option (List Code)} {cn : Str} {cs : Scope} {a : Addr} {ccd : Value} {cl : List (Str × Addr)} {outer : List Env} {A₀ : Around} {base h₀ : Heap} {L : Addr} {m : Str → Option Value} {news : Led} {s : Shared} {Q E : Value → Shared → Prop}
    (B : Below A₀ base outer h₀) (F : Fr h₀ L s.heap m) (X : (hd.heap_39 w.params).In h₀) (N : News h₀ L s.heap news) (T : Top p loose mean mg mb h₀) (hk : cs.kind = .function) (hdp : dp + d < recursionLimit) (hu : un + 8 * d < cLine)
    (hR : R h₀ L m news s Q) :
    wpAny (model PySem.Challenge.rw_bh0013_01.row.prog w) (ktrTop dp un gd cn cs L a ccd cl outer) (call (.ref f) vs) Q E s := C _ _ _ _ _ _ _ _ _ _ _ _ _ _ _ _ _ _ _ _ _ _ _ B F X N T hk hdp hu hR

theorem ct_more {w : World} {f : Addr} {d d' : Nat} {vs : List Value} {R : Back} (h : d ≤ d') (C : Ct w f d vs R) : Ct w f d' vs R :=
  fun _ _ _ _ _ _ _ _ _ _ _ _ _ _ _ _ _ _ _ _ _ _ _ B F X N T hk hdp hu hR => C _ _ _ _ _ _ _ _ _ _ _ _ _ _ _ _ _ _ _ _ _ _ _ B F X N T hk (by omega) (by omega) hR

section
variable {h₀ h' : Heap} {L : Addr} {m : Str → Option Value} {news : Led} {s : Shared} {Q : Value → Shared → Prop} {t : Tok} {tk' : Nat}
theorem ri_end {x y : Int} (hret : RI x h₀ L m news s Q) (e : y = x) (F : Fr h₀ L h' m) (N : News h₀ L h' news) : Q (.int y t) { s with heap := h', toks := tk' } := by
  subst e
  exact hret t h' tk' F N
theorem rb_end {x y : Bool} (hret : RB x h₀ L m news s Q) (e : y = x) (F : Fr h₀ L h' m) (N : News h₀ L h' news) : Q (.bool y) { s with heap := h', toks := tk' } := by
  subst e
  exact hret h' tk' F N
theorem news_of {news' : Led} (N : News h₀ L h' news') (hs : ∀ p ∈ news, p ∈ news') : News h₀ L h' news := fun p hp => N p (hs p hp)
theorem r3_end {x y z a b c : Int} {D : Addr} {u v : Tok} {n : Nat} {news' : Led} (hret : R3 x y z h₀ L m news s Q) (e1 : a = x) (e2 : b = y) (e3 : c = z) (F : Fr h₀ L h' m)
    (N : News h₀ L h' news') (hD : (D, tup3 a b c t u v n) ∈ news') (hs : ∀ p ∈ news, p ∈ news') (hl : ∀ p ∈ news, p.1 < D) : Q (.ref D) { s with heap := h', toks := tk' } := by
  subst e1; subst e2; subst e3
  refine hret D t u v n h' tk' F (fun p hp => ?_) hl
  rcases List.mem_cons.mp hp with rfl | hp
  · exact N _ hD
  · exact N p (hs p hp)
end

theorem ri_end0 {h₀ g h' : Heap} {L L' : Addr} {m m' : Str → Option Value} {news : Led} {s : Shared} {Q : Value → Shared → Prop} {t : Tok} {tk' : Nat} {x y : Int} (hret : RI x h₀ L m news s Q) (e : y = x) (F : Fr h₀ L h' m) (N : News h₀ L s.heap news) (hg : g = s.heap) (F' : Fr g L' h' m') : Q (.int y t) { s with heap := h', toks := tk' } := by
  subst e; subst hg
  exact hret t h' tk' F fun p hp => ⟨F'.keep _ _ (N p hp).1, (N p hp).2⟩

section
open PySem.Calls
variable {prog : Program} {w : World} {A A₀ : Around} {s : Shared} {K : Frag} {L : Addr} {h₀ base : Heap} {m mg mb : Str → Option Value} {p : Program} {loose : List Str} {mean : ExcName → Option Value}

/-- A call of a def that looks at none of the caller's new objects: its own ledger starts empty, and its ground is the heap as it stands. -/
theorem code_def0 {env : Env} {outer : List Env} {R : Result → Shared → Prop} {name qual : Str} {params : Arguments} {body : List Stmt} {scope : Scope} {dV kV doc pm cdv ct oc : Value} {an od : Option Addr} {osl : Array (Option Value)} {f : Addr} {args : Args} {binds : List (Str × Value)}
    (B : Below A₀ base outer h₀) (F : Fr h₀ L s.heap m) (X₀ : K.In h₀) (T : Top p loose mean mg mb h₀) (hA : A.frames = some (env :: outer)) (hf : env.frame = some L) (hke : env.scope.kind = .function)
    (ho : K.lookup f = some ⟨oc, od, .func (fnOf name qual params body scope dV kV doc pm an cdv ct), osl⟩) (hcd : codeIn K cdv qual = true) (hroom : A.depth < recursionLimit)
    (hbind : BindsTo s (fnOf name qual params body scope dV kV doc pm an cdv ct) args binds) (hloc : ∀ y ∈ binds, scope.names.lookup y.1 = some .local)
    (h : ∀ g L' h₁, g = s.heap → Fr h₀ L g m → Fr g L' h₁ (fun y => binds.reverse.lookup y) → News g L' h₁ [] → Below A base (env :: outer) g → K.In g → Top p loose mean mg mb g →
      wpAny (model prog w) (A.deeper (envOf qual scope L' f cdv)) (execs body (envOf qual scope L' f cdv))
        (fun fl s' => LeaveK h₀ L m g R (match fl with | .ret v => v | _ => .none) s')
        (fun e s' => wpAny (model prog w) (A.deeper (envOf qual scope L' f cdv)) (leaving (envOf qual scope L' f cdv) e) (fun _ s'' => R (.error e) s'') (fun e' s'' => R (.error e') s'') s')
        { s with heap := h₁, toks := s.toks + binds.length })
    (hco : scope.isCoroutine = false) (hgen : scope.isGenerator = false) (hk : scope.kind = .function)
    (hcell : ∀ x ∈ scope.names, x.2 ≠ .cell) : codeAny (model prog w) A (.call (.ref f) args) R s := by
  have X := X₀.keeps F.keep
  obtain ⟨FG, BG, st, lv⟩ := groundX (R := R) B F (News.nil) hA hf hke
  refine codeAny_call_def hroom (X _ _ ho) rfl (T.nolimit.keeps F.keep) (codeRec_of X hcd) rfl hbind hcell hloc (fun h₁ hns hk₁ => ?_) hco hgen hk
  exact wpAny_mono (h s.heap s.heap.objs.size h₁ rfl FG ⟨hns, hk₁, Nat.le_refl _⟩ News.nil BG (X₀.keeps st) (T.keeps st)) (fun fl s' hl => lv _ _ hl) fun _ _ y => y
end

theorem gen_toks {M : Model} {A : Around} {α : Type} {T : Sem α} {Q : α → Shared → Prop} {E : Value → Shared → Prop} {s : Shared} {h : Heap} {X : Nat} (H : ∀ tk : Nat, wpAny M A T Q E { heap := h, gens := s.gens, drawn := s.drawn, toks := tk, os := s.os }) :
    wpAny M A T Q E { heap := h, gens := s.gens, drawn := s.drawn, toks := X, os := s.os } := H X

local macro_rules | `(tactic| walk_at "execs cons") => `(tactic| (k_here; with_reducible refine gen_toks ?_; intro tk; (with_reducible refine wpAny_execs_cons ?_); try dsimp only))
local macro_rules | `(tactic| walk_at "execs nil") => `(tactic| (k_here; with_reducible refine gen_toks ?_; intro tk; (with_reducible refine wpAny_execs_nil ?_); try dsimp only))
local macro_rules | `(tactic| walk_at "bh open") => `(tactic| (
  unfold Ct
  k_fill
  intro p loose mean mg mb dp un gd cn cs a ccd cl outer A₀ base h₀ L m news s Q E B F X N T hk hdp hun hret
  refine wpAny_call ?_
  k_dflt cell_enter))
local macro_rules | `(tactic| walk_at "bh enter0") => `(tactic| (refine' code_def0 ?k1 ?k2 ?k3 ?k5 ?kA ?kF ?kK ?k6 ?k7 ?k8 ?k9 ?kB ?_ ?c2 ?c3 ?c4 ?c5; (case kA => exact rfl); (case kF => exact rfl); (case kK => assumption); (case k1 => k_asm); (case k2 => k_asm); (case k3 => k_asm); (case k5 => k_asm); (case k6 => k_is); (case k7 => k_is); (case k8 => ktr_room); (case k9 => exact BindsTo.of_eq rfl); (case c5 => decide); (case kB => exact locs rfl); (case c2 => exact rfl); (case c3 => exact rfl); (case c4 => exact rfl); k_whole; intro g' L' h' hg' FG' F' N' B' X' T'; (try dsimp only); (try k_fold)))
local macro_rules | `(tactic| walk_at "bh open0") => `(tactic| (
  unfold Ct
  k_fill
  intro p loose mean mg mb dp un gd cn cs a ccd cl outer A₀ base h₀ L m news s Q E B F X N T hk hdp hun hret
  refine wpAny_call ?_
  k_dflt walk_at "bh enter0"))
local macro_rules | `(tactic| walk_at "bh end0") => `(tactic| (refine' ri_end0 (by assumption) ?e ?F ?N ?g ?G; (case F => k_asm); (case N => k_asm); (case g => assumption); (case G => k_asm)))
local macro_rules | `(tactic| walk_at "bh use") => `(tactic| (
  (case k1 => k_asm); (case k2 => k_asm); (case k3 => k_asm); (case k4 => k_asm); (case k5 => k_asm)
  (case kK => first | exact rfl | assumption)
  (case kd => ktr_room)
  (case ku => ktr_units)))
local macro_rules | `(tactic| walk_at "bh fm") => `(tactic| simp (disch := decide) only [Int.fmod_eq_emod_of_nonneg, Int.fdiv_eq_ediv_of_nonneg] at *)
local macro_rules | `(tactic| walk_at "bh fmg") => `(tactic| simp (disch := decide) only [Int.fmod_eq_emod_of_nonneg, Int.fdiv_eq_ediv_of_nonneg])
local macro_rules | `(tactic| walk_at "bh dec") => `(tactic| (law_clear; (try simp only [beq_iff_eq, bne_iff_ne, ne_eq, Bool.not_eq_true, Bool.not_eq_false, decide_eq_true_eq, decide_eq_false_iff_not, Bool.and_eq_true, Bool.or_eq_true, Bool.not_eq_true', Bool.not_eq_false'] at *); (try law_fm); first | assumption | omega))
local macro_rules | `(tactic| walk_at "ite") => `(tactic| (k_here; first | (refine ite_pos (by law_purse 20000 => walk_at "bh dec") ?_; walk_say "BH POS") | (refine ite_neg (by law_purse 20000 => walk_at "bh dec") ?_; walk_say "BH NEG")))
local macro_rules | `(tactic| walk_at "eval Call") => `(tactic| k_dflt (refine Call_ ?_))
local macro_rules | `(tactic| walk_at "exec If") => `(tactic| refine wpAny_If ?_)
local macro_rules | `(tactic| walk_at "bh end") => `(tactic| first
  | (refine' ri_end (by assumption) ?e ?F ?N; (case F => k_asm); (case N => first | k_asm | (refine' news_of ?N1 ?N2; (case N1 => k_asm); (case N2 => kcj_all))))
  | (refine' rb_end (by assumption) ?e ?F ?N; (case F => k_asm); (case N => first | k_asm | (refine' news_of ?N1 ?N2; (case N1 => k_asm); (case N2 => kcj_all)))))

def isleapG (y : Int) : Bool := y % 4 == 0 && (y % 100 != 0 || y % 400 == 0)

set_option maxRecDepth 100000 in
set_option maxHeartbeats 400000 in
theorem c_isleap {w : World} (y : Int) (t : Tok) : Ct w 21 1 [.int y t] (RB (isleapG y)) := by
  walk_at "bh open"
  k_steps
  all_goals walk_at "bh end"
  all_goals (unfold isleapG; try walk_at "bh fm")
  all_goals simp_all

set_option maxRecDepth 100000 in
set_option maxHeartbeats 400000 in
theorem c_midnight {w : World} (y : Int) (t : Tok) (h : 0 < y) : Ct w 28 1 [.int y t] (RI y) := by
  walk_at "bh open"
  k_steps
  all_goals walk_at "bh end"
  all_goals rfl

set_option maxRecDepth 100000 in
set_option maxHeartbeats 400000 in
theorem c_jwday {w : World} (y : Int) (t : Tok) : Ct w 35 1 [.int y t] (RI (y % 7)) := by
  walk_at "bh open"
  k_steps
  all_goals walk_at "bh end"
  all_goals walk_at "bh fm"

def dimG (y m : Int) : Int := if m = 2 then (if isleapG y = true then 29 else 28) else if m = 4 ∨ m = 6 ∨ m = 9 ∨ m = 11 then 30 else 31

theorem in_30 {w : World} {A : Around} {E : Value → Shared → Prop} {s : Shared} {K : Frag} {h₀ : Heap} {L t : Addr} {m : Str → Option Value} {dd : Option Addr} {n : Nat} {sl : Array (Option Value)} {x : Int} {u : Tok} {Q : Value → Shared → Prop} {prog : Program} {t1 t2 t3 t4 : Tok}
    (F : Fr h₀ L s.heap m) (X : K.In h₀) (hl : K.lookup t = some ⟨.type "tuple", dd, .seq [Value.int 4 t1, .int 6 t2, .int 9 t3, .int 11 t4].toArray n, sl⟩)
    (h : Q (.bool (decide (x = 4 ∨ x = 6 ∨ x = 9 ∨ x = 11))) s) : wpAny (model prog w) A (compareOp .In (.int x u) (.ref t)) Q E s := by
  refine in_tuple_ints (ns := [4, 6, 9, 11]) (tupK (X.keeps F.keep) hl) (by repeat constructor) ?_
  have e : ([4, 6, 9, 11].any (· == x)) = decide (x = 4 ∨ x = 6 ∨ x = 9 ∨ x = 11) := by
    rw [Bool.eq_iff_iff]
    simp only [List.any_cons, List.any_nil, Bool.or_false, Bool.or_eq_true, beq_iff_eq, decide_eq_true_eq]
    omega
  rw [e]
  exact h
local macro_rules | `(tactic| walk_at "call ref") => `(tactic| (k_here; k_dflt (refine' ct_use (c_isleap _ _) ?k1 ?k2 ?k3 ?k4 ?k5 ?kK ?kd ?ku ?_; walk_at "bh use"; (intro h9 tk9 F9 N9; (try dsimp only); (try k_fold)))))
local macro_rules | `(tactic| walk_at "call ref") => `(tactic| (k_here; k_dflt (refine' ct_use (c_jwday _ _) ?k1 ?k2 ?k3 ?k4 ?k5 ?kK ?kd ?ku ?_; walk_at "bh use"; (intro t9 h9 tk9 F9 N9; (try dsimp only); (try k_fold)))))
local macro_rules | `(tactic| walk_at "compareOp In int ref") => `(tactic| (k_here; k_dflt (refine' in_30 ?F ?X ?l ?_; (case F => k_asm); (case X => k_asm); (case l => k_is))))

set_option maxRecDepth 100000 in
set_option maxHeartbeats 800000 in
theorem c_legal {w : World} (y m d : Int) (ty tm td : Tok) (h0 : 0 < d) (h1 : d ≤ dimG y m) : Ct w 43 2 [.int y ty, .int m tm, .int d td] (RB true) := by
  unfold dimG at h1
  by_cases hm : m = 2
  · rw [if_pos hm] at h1
    by_cases hl : isleapG y = true
    · rw [if_pos hl] at h1
      walk_at "bh open"
      k_steps
      all_goals walk_at "bh end"
      all_goals rfl
    · rw [if_neg hl] at h1
      walk_at "bh open"
      k_steps
      all_goals walk_at "bh end"
      all_goals rfl
  · rw [if_neg hm] at h1
    by_cases hk : m = 4 ∨ m = 6 ∨ m = 9 ∨ m = 11
    · rw [if_pos hk] at h1
      walk_at "bh open"
      k_steps
      all_goals walk_at "bh end"
      all_goals rfl
    · rw [if_neg hk] at h1
      walk_at "bh open"
      k_steps
      all_goals walk_at "bh end"
      all_goals rfl
local macro_rules | `(tactic| walk_at "call ref") => `(tactic| (k_here; k_dflt (refine' ct_use (c_legal _ _ _ _ _ _ ?kp ?kq) ?k1 ?k2 ?k3 ?k4 ?k5 ?kK ?kd ?ku ?_; (case kp => first | assumption | decide | omega); (case kq => first | assumption | (have hq := dim_ge; omega)); walk_at "bh use"; (intro h9 tk9 F9 N9; (try dsimp only); (try k_fold)))))

def adjG (y m : Int) : Int := if m ≤ 2 then 0 else if isleapG y = true then -1 else -2
def tg (y m d : Int) : Int := 1721426 - 1 + 365 * (y - 1) + (y - 1) / 4 + -((y - 1) / 100) + (y - 1) / 400 + ((367 * m - 362) / 12 + adjG y m + d)

set_option maxRecDepth 100000 in
set_option maxHeartbeats 800000 in
theorem c_tg {w : World} (y m d : Int) (ty tm td : Tok) (h0 : 0 < d) (h1 : d ≤ dimG y m) : Ct w 50 3 [.int y ty, .int m tm, .int d td] (RI (tg y m d)) := by
  walk_at "bh open"
  k_steps
  all_goals walk_at "bh end"
  all_goals (walk_at "bh fmg"; unfold tg adjG)
  · rw [if_pos (by assumption)]
  · rw [if_neg (by assumption), if_pos (by assumption)]
  · rw [if_neg (by assumption), if_neg (by simp_all)]

theorem dim_ge (y m : Int) : 28 ≤ dimG y m := by
  unfold dimG
  split
  · split <;> decide
  · split <;> decide

def fq (j : Int) : Int := (j - 1721426) / 146097
def fdqc (j : Int) : Int := (j - 1721426) % 146097
def fcent (j : Int) : Int := fdqc j / 36524
def fdcent (j : Int) : Int := fdqc j % 36524
def fquad (j : Int) : Int := fdcent j / 1461
def fdquad (j : Int) : Int := fdcent j % 1461
def fyi (j : Int) : Int := fdquad j / 365
def fyb (j : Int) : Int := fq j * 400 + fcent j * 100 + fquad j * 4 + fyi j
def fjY (j : Int) : Int := if fcent j = 4 ∨ fyi j = 4 then fyb j else fyb j + 1
def fyd (j : Int) : Int := j - tg (fjY j) 1 1
def b01 (b : Bool) : Int := if b = true then 1 else 0
def ladj (j : Int) : Int := if fyd j < 58 + b01 (isleapG (fjY j)) then 0 else if isleapG (fjY j) = true then 1 else 2
def fjM (j : Int) : Int := ((fyd j + ladj j) * 12 + 373) / 367
def fjD (j : Int) : Int := j - tg (fjY j) (fjM j) 1 + 1
local macro_rules | `(tactic| walk_at "call ref") => `(tactic| (k_here; k_dflt (refine' ct_use (c_tg _ _ _ _ _ _ ?kp ?kq) ?k1 ?k2 ?k3 ?k4 ?k5 ?kK ?kd ?ku ?_; (case kp => first | assumption | decide | omega); (case kq => first | assumption | exact Int.le_trans (by decide) (dim_ge _ _)); walk_at "bh use"; (intro t9 h9 tk9 F9 N9; (try dsimp only); (try k_fold)))))

theorem fyb_eq (j : Int) : (j - 1721426).fdiv 146097 * 400 + ((j - 1721426).fmod 146097).fdiv 36524 * 100 + (((j - 1721426).fmod 146097).fmod 36524).fdiv 1461 * 4 + ((((j - 1721426).fmod 146097).fmod 36524).fmod 1461).fdiv 365 = fyb j := by
  walk_at "bh fmg"
  rfl
theorem fcent_eq (j : Int) : ((j - 1721426).fmod 146097).fdiv 36524 = fcent j := by
  walk_at "bh fmg"
  rfl
theorem fyi_eq (j : Int) : ((((j - 1721426).fmod 146097).fmod 36524).fmod 1461).fdiv 365 = fyi j := by
  walk_at "bh fmg"
  rfl
theorem fjY1 {j : Int} (h : ((j - 1721426).fmod 146097).fdiv 36524 = 4) : (j - 1721426).fdiv 146097 * 400 + ((j - 1721426).fmod 146097).fdiv 36524 * 100 + (((j - 1721426).fmod 146097).fmod 36524).fdiv 1461 * 4 + ((((j - 1721426).fmod 146097).fmod 36524).fmod 1461).fdiv 365 = fjY j := by
  rw [fyb_eq]
  rw [fcent_eq] at h
  exact (if_pos (Or.inl h)).symm
theorem fjY2 {j : Int} (h : ((((j - 1721426).fmod 146097).fmod 36524).fmod 1461).fdiv 365 = 4) : (j - 1721426).fdiv 146097 * 400 + ((j - 1721426).fmod 146097).fdiv 36524 * 100 + (((j - 1721426).fmod 146097).fmod 36524).fdiv 1461 * 4 + ((((j - 1721426).fmod 146097).fmod 36524).fmod 1461).fdiv 365 = fjY j := by
  rw [fyb_eq]
  rw [fyi_eq] at h
  exact (if_pos (Or.inr h)).symm
theorem fjY3 {j : Int} (h1 : ((j - 1721426).fmod 146097).fdiv 36524 ≠ 4) (h2 : ((((j - 1721426).fmod 146097).fmod 36524).fmod 1461).fdiv 365 ≠ 4) : (j - 1721426).fdiv 146097 * 400 + ((j - 1721426).fmod 146097).fdiv 36524 * 100 + (((j - 1721426).fmod 146097).fmod 36524).fdiv 1461 * 4 + ((((j - 1721426).fmod 146097).fmod 36524).fmod 1461).fdiv 365 + 1 = fjY j := by
  rw [fyb_eq]
  rw [fcent_eq] at h1
  rw [fyi_eq] at h2
  exact (if_neg (fun o => o.elim h1 h2)).symm
theorem from_fin {j a k : Int} (ha : a = fjY j) (hk : (j - tg a 1 1 < 58 + (if isleapG a = true then 1 else 0) ∧ k = 0) ∨ (¬ (j - tg a 1 1 < 58 + (if isleapG a = true then 1 else 0)) ∧ isleapG a = true ∧ k = 1) ∨ (¬ (j - tg a 1 1 < 58 + (if isleapG a = true then 1 else 0)) ∧ isleapG a = false ∧ k = 2)) :
    a = fjY j ∧ ((j - tg a 1 1 + k) * 12 + 373).fdiv 367 = fjM j ∧ (j - tg a (((j - tg a 1 1 + k) * 12 + 373).fdiv 367) 1) + 1 = fjD j := by
  subst ha
  have e : ladj j = k := by
    unfold ladj fyd b01
    rcases hk with ⟨h, rfl⟩ | ⟨h, h', rfl⟩ | ⟨h, h', rfl⟩
    · rw [if_pos h]
    · rw [if_neg h, if_pos h']
    · rw [if_neg h, if_neg (by rw [h']; decide)]
  subst e
  have e2 : ((j - tg (fjY j) 1 1 + ladj j) * 12 + 373).fdiv 367 = fjM j := by
    walk_at "bh fmg"
    rfl
  rw [e2]
  exact ⟨rfl, rfl, rfl⟩
theorem r3_fin {h₀ h' : Heap} {L : Addr} {m : Str → Option Value} {news : Led} {s : Shared} {Q : Value → Shared → Prop} {tk' : Nat} {x y z a b c : Int} {D : Addr} {t u v : Tok} {n : Nat} {news' : Led} (hret : R3 x y z h₀ L m news s Q) (F : Fr h₀ L h' m)
    (N : News h₀ L h' ((D, tup3 a b c t u v n) :: news')) (hs : ∀ p ∈ news, p ∈ news') (hl : ∀ p ∈ news, p.1 < D) (e : a = x ∧ b = y ∧ c = z) : Q (.ref D) { s with heap := h', toks := tk' } :=
  r3_end hret e.1 e.2.1 e.2.2 F N (.head _) (fun p hp => .tail _ (hs p hp)) hl

set_option maxRecDepth 100000 in
set_option maxHeartbeats 2000000 in
theorem c_from {w : World} (j : Int) (t : Tok) : Ct w 57 4 [.int j t] (R3 (fjY j) (fjM j) (fjD j)) := by
  walk_at "bh open"
  k_steps
  all_goals (
    refine' r3_fin (by assumption) ?F ?N (fun _ hp => hp) (by assumption) (from_fin ?ha ?hk)
    (case F => k_asm)
    (case N => k_asm)
    (case ha => first | exact fjY1 (by assumption) | exact fjY2 (by assumption) | exact fjY3 (by assumption) (by assumption))
    (case hk => first | exact Or.inl ⟨by assumption, rfl⟩ | exact Or.inr (Or.inl ⟨by assumption, by assumption, rfl⟩) | exact Or.inr (Or.inr ⟨by assumption, by assumption, rfl⟩)))
local macro_rules | `(tactic| walk_at "call ref") => `(tactic| (k_here; k_dflt (refine' ct_use (c_from _ _) ?k1 ?k2 ?k3 ?k4 ?k5 ?kK ?kd ?ku ?_; walk_at "bh use"; (intro D9 t9 u9 v9 c9 h9 tk9 F9 N9 l9; (try k_lt l9); (try dsimp only); (try k_fold)))))

theorem isleap_iff (y : Int) : isleapG y = true ↔ (y % 4 = 0 ∧ (y % 100 ≠ 0 ∨ y % 400 = 0)) := by
  unfold isleapG
  simp only [Bool.and_eq_true, Bool.or_eq_true, beq_iff_eq, bne_iff_ne, ne_eq]
theorem b01_pos {b : Bool} (h : b = true) : b01 b = 1 := if_pos h
theorem b01_neg {b : Bool} (h : ¬ b = true) : b01 b = 0 := if_neg h
theorem b01_le (b : Bool) : 0 ≤ b01 b ∧ b01 b ≤ 1 := by cases b <;> decide

theorem tg_d (y m d : Int) : tg y m d = tg y m 1 + (d - 1) := by
  unfold tg
  omega
theorem tg11 (y : Int) : tg y 1 1 = 1721426 + 365 * (y - 1) + (y - 1) / 4 - (y - 1) / 100 + (y - 1) / 400 := by
  unfold tg adjG
  rw [if_pos (by decide)]
  omega
theorem J1_succ (y : Int) : tg (y + 1) 1 1 = tg y 1 1 + 365 + b01 (isleapG y) := by
  rw [tg11, tg11]
  by_cases h : isleapG y = true
  · rw [b01_pos h]
    have := (isleap_iff y).mp h
    omega
  · rw [b01_neg h]
    have e : y + 1 - 1 = y := by omega
    rw [e]
    by_cases k4 : y % 4 = 0
    · have k100 : y % 100 = 0 := by
        refine Decidable.byContradiction fun k => h ((isleap_iff y).mpr ⟨k4, .inl k⟩)
      have k400 : ¬ y % 400 = 0 := fun k => h ((isleap_iff y).mpr ⟨k4, .inr k⟩)
      omega
    · omega
theorem J1_add (y : Int) (n : Nat) : tg y 1 1 + 365 * n ≤ tg (y + n) 1 1 := by
  induction n with
  | zero => simp
  | succ n ih =>
    have e : y + ((n + 1 : Nat) : Int) = y + n + 1 := by omega
    have := J1_succ (y + n)
    have := (b01_le (isleapG (y + n))).1
    rw [e]
    omega
theorem J1_mono {a b : Int} (h : a ≤ b) : tg a 1 1 + 365 * (b - a) ≤ tg b 1 1 := by
  have := J1_add a (b - a).toNat
  have e : ((b - a).toNat : Int) = b - a := by omega
  have e' : a + (b - a) = b := by omega
  rw [e, e'] at this
  exact this

theorem fj_core (j : Int) : tg (fjY j) 1 1 ≤ j ∧ j - tg (fjY j) 1 1 ≤ 364 + b01 (isleapG (fjY j)) := by
  generalize hq : fq j = q
  generalize hc : fcent j = c
  generalize hu : fquad j = u
  generalize hi : fyi j = i
  have e1 : j - 1721426 = 146097 * q + fdqc j ∧ 0 ≤ fdqc j ∧ fdqc j < 146097 := by subst hq; unfold fq fdqc; omega
  have e2 : fdqc j = 36524 * c + fdcent j ∧ 0 ≤ fdcent j ∧ fdcent j < 36524 := by subst hc; unfold fcent fdcent; omega
  have e3 : fdcent j = 1461 * u + fdquad j ∧ 0 ≤ fdquad j ∧ fdquad j < 1461 := by subst hu; unfold fquad fdquad; omega
  have e4 : ∃ r, fdquad j = 365 * i + r ∧ 0 ≤ r ∧ r < 365 := ⟨fdquad j % 365, by subst hi; unfold fyi; omega⟩
  obtain ⟨r, e4, r0, r1⟩ := e4
  have hY : fjY j = if c = 4 ∨ i = 4 then q * 400 + c * 100 + u * 4 + i else q * 400 + c * 100 + u * 4 + i + 1 := by
    subst hq; subst hc; subst hu; subst hi; rfl
  have bc : 0 ≤ c ∧ c ≤ 4 := by omega
  have bu : 0 ≤ u ∧ u ≤ 24 := by omega
  have bi : 0 ≤ i ∧ i ≤ 4 := by omega
  by_cases h : c = 4 ∨ i = 4
  · rw [if_pos h] at hY
    by_cases h4 : c = 4
    · have : u = 0 := by omega
      have : i = 0 := by omega
      have hl : isleapG (fjY j) = true := (isleap_iff _).mpr (by omega)
      rw [b01_pos hl, tg11]
      omega
    · have hi4 : i = 4 := by omega
      have hu23 : u ≤ 23 := by omega
      have hl : isleapG (fjY j) = true := (isleap_iff _).mpr (by omega)
      rw [b01_pos hl, tg11]
      have f1 : (fjY j - 1) / 4 = 100 * q + 25 * c + u := by omega
      have f2 : (fjY j - 1) / 100 = 4 * q + c := by omega
      have f3 : (fjY j - 1) / 400 = q := by omega
      rw [f1, f2, f3]
      omega
  · rw [if_neg h] at hY
    have f1 : (fjY j - 1) / 4 = 100 * q + 25 * c + u := by omega
    have f2 : (fjY j - 1) / 100 = 4 * q + c := by omega
    have f3 : (fjY j - 1) / 400 = q := by omega
    have := (b01_le (isleapG (fjY j))).1
    rw [tg11, f1, f2, f3]
    omega

theorem fjY_of {j y : Int} (h1 : tg y 1 1 ≤ j) (h2 : j < tg (y + 1) 1 1) : fjY j = y := by
  obtain ⟨k1, k2⟩ := fj_core j
  have k3 := J1_succ (fjY j)
  rcases Int.lt_trichotomy (fjY j) y with h | h | h
  · have := J1_mono (a := fjY j + 1) (b := y) (by omega)
    omega
  · exact h
  · have := J1_mono (a := y + 1) (b := fjY j) (by omega)
    omega
theorem fjY_lt {j y : Int} (h : j < tg y 1 1) : fjY j < y := by
  obtain ⟨k1, k2⟩ := fj_core j
  refine Int.lt_of_not_ge fun k => ?_
  have := J1_mono (a := y) (b := fjY j) k
  omega

/-- the day's place in its month, as a function of the day of the year -/
def mOf (n l : Nat) : Nat := ((n + (if n < 58 + l then 0 else if l = 1 then 1 else 2)) * 12 + 373) / 367
def fOf (m l : Nat) : Nat := (367 * m - 362) / 12 - (if m ≤ 2 then 0 else if l = 1 then 1 else 2)
def dOf (m l : Nat) : Nat := if m = 2 then 28 + l else if m = 4 ∨ m = 6 ∨ m = 9 ∨ m = 11 then 30 else 31
theorem legal_tab : ∀ l : Fin 2, ∀ n : Fin 366, n.val < 365 + l.val → 1 ≤ mOf n.val l.val ∧ fOf (mOf n.val l.val) l.val ≤ n.val ∧ n.val < fOf (mOf n.val l.val) l.val + dOf (mOf n.val l.val) l.val := by decide +kernel
theorem legal_nat {n l : Nat} (hl : l < 2) (hn : n < 365 + l) : 1 ≤ mOf n l ∧ fOf (mOf n l) l ≤ n ∧ n < fOf (mOf n l) l + dOf (mOf n l) l :=
  legal_tab ⟨l, hl⟩ ⟨n, by omega⟩ hn

theorem fj_legal (j : Int) : 0 < fjD j ∧ fjD j ≤ dimG (fjY j) (fjM j) := by
  obtain ⟨k1, k2⟩ := fj_core j
  obtain ⟨n, hn⟩ : ∃ n : Nat, fyd j = n := ⟨(fyd j).toNat, by unfold fyd; omega⟩
  have hn' : j - tg (fjY j) 1 1 = n := hn
  by_cases h : isleapG (fjY j) = true
  · rw [b01_pos h] at k2
    obtain ⟨t1, t2, t3⟩ := legal_nat (n := n) (l := 1) (by decide) (by omega)
    have hM : fjM j = (mOf n 1 : Nat) := by
      unfold fjM ladj mOf
      rw [b01_pos h, hn, if_pos h]
      by_cases hc : n < 58 + 1
      · rw [if_pos (show (n : Int) < 58 + 1 by omega), if_pos hc]; omega
      · rw [if_neg (show ¬ (n : Int) < 58 + 1 by omega), if_neg hc, if_pos rfl]; omega
    have hD : fjD j = n - (fOf (mOf n 1) 1 : Nat) + 1 := by
      unfold fjD
      rw [hM]
      generalize mOf n 1 = M at t1
      have e : tg (fjY j) M 1 = tg (fjY j) 1 1 + (fOf M 1 : Nat) := by
        unfold tg adjG fOf
        rw [if_pos h, if_pos (show (1 : Int) ≤ 2 by decide), if_pos rfl]
        by_cases hm : M ≤ 2
        · rw [if_pos (show (M : Int) ≤ 2 by omega), if_pos hm]; omega
        · rw [if_neg (show ¬ (M : Int) ≤ 2 by omega), if_neg hm]; omega
      rw [e]
      omega
    have hdim : dimG (fjY j) (fjM j) = (dOf (mOf n 1) 1 : Nat) := by
      rw [hM]
      generalize mOf n 1 = M at t1
      unfold dimG dOf
      rw [if_pos h]
      by_cases hm : M = 2
      · rw [if_pos (show (M : Int) = 2 by omega), if_pos hm]; rfl
      · rw [if_neg (show ¬ (M : Int) = 2 by omega), if_neg hm]
        by_cases hk : M = 4 ∨ M = 6 ∨ M = 9 ∨ M = 11
        · rw [if_pos (show (M : Int) = 4 ∨ (M : Int) = 6 ∨ (M : Int) = 9 ∨ (M : Int) = 11 by omega), if_pos hk]; rfl
        · rw [if_neg (show ¬ ((M : Int) = 4 ∨ (M : Int) = 6 ∨ (M : Int) = 9 ∨ (M : Int) = 11) by omega), if_neg hk]; rfl
    rw [hD, hdim]
    omega
  · rw [b01_neg h] at k2
    obtain ⟨t1, t2, t3⟩ := legal_nat (n := n) (l := 0) (by decide) (by omega)
    have hM : fjM j = (mOf n 0 : Nat) := by
      unfold fjM ladj mOf
      rw [b01_neg h, hn, if_neg h]
      by_cases hc : n < 58 + 0
      · rw [if_pos (show (n : Int) < 58 + 0 by omega), if_pos hc]; omega
      · rw [if_neg (show ¬ (n : Int) < 58 + 0 by omega), if_neg hc, if_neg (by decide)]; omega
    have hD : fjD j = n - (fOf (mOf n 0) 0 : Nat) + 1 := by
      unfold fjD
      rw [hM]
      generalize mOf n 0 = M at t1
      have e : tg (fjY j) M 1 = tg (fjY j) 1 1 + (fOf M 0 : Nat) := by
        unfold tg adjG fOf
        rw [if_neg h, if_pos (show (1 : Int) ≤ 2 by decide), if_neg (show ¬ (0 : Nat) = 1 by decide)]
        by_cases hm : M ≤ 2
        · rw [if_pos (show (M : Int) ≤ 2 by omega), if_pos hm]; omega
        · rw [if_neg (show ¬ (M : Int) ≤ 2 by omega), if_neg hm]; omega
      rw [e]
      omega
    have hdim : dimG (fjY j) (fjM j) = (dOf (mOf n 0) 0 : Nat) := by
      rw [hM]
      generalize mOf n 0 = M at t1
      unfold dimG dOf
      rw [if_neg h]
      by_cases hm : M = 2
      · rw [if_pos (show (M : Int) = 2 by omega), if_pos hm]; rfl
      · rw [if_neg (show ¬ (M : Int) = 2 by omega), if_neg hm]
        by_cases hk : M = 4 ∨ M = 6 ∨ M = 9 ∨ M = 11
        · rw [if_pos (show (M : Int) = 4 ∨ (M : Int) = 6 ∨ (M : Int) = 9 ∨ (M : Int) = 11 by omega), if_pos hk]; rfl
        · rw [if_neg (show ¬ ((M : Int) = 4 ∨ (M : Int) = 6 ∨ (M : Int) = 9 ∨ (M : Int) = 11) by omega), if_neg hk]; rfl
    rw [hD, hdim]
    omega

theorem fj_round (j : Int) : tg (fjY j) (fjM j) (fjD j) = j := by
  rw [tg_d]
  unfold fjD
  omega

theorem c_tgfj {w : World} (j : Int) (ty tm td : Tok) : Ct w 50 3 [.int (fjY j) ty, .int (fjM j) tm, .int (fjD j) td] (RI j) := by
  have h := c_tg (w := w) (fjY j) (fjM j) (fjD j) ty tm td (fj_legal j).1 (fj_legal j).2
  rw [fj_round] at h
  exact h
local macro_rules | `(tactic| walk_at "call ref") => `(tactic| (k_here; k_dflt (refine' ct_use (c_tgfj _ _ _ _) ?k1 ?k2 ?k3 ?k4 ?k5 ?kK ?kd ?ku ?_; walk_at "bh use"; (intro t9 h9 tk9 F9 N9; (try dsimp only); (try k_fold)))))

def leapH (y : Int) : Bool := decide ((y * 7 + 1) % 19 < 7)
def dmon (y : Int) : Int := (235 * y - 234) / 19
def dday (y : Int) : Int := dmon y * 29 + (12084 + 13753 * dmon y) / 25920
def d1 (y : Int) : Int := if 3 * (dday y + 1) % 7 < 3 then dday y + 1 else dday y
def d2 (y : Int) : Int := if d1 (y + 1) - d1 y = 356 then 2 else if d1 y - d1 (y - 1) = 382 then 1 else 0

set_option maxRecDepth 100000 in
set_option maxHeartbeats 400000 in
theorem c_leapH {w : World} (y : Int) (t : Tok) : Ct w 64 1 [.int y t] (RB (leapH y)) := by
  walk_at "bh open"
  k_steps
  all_goals walk_at "bh end"
  all_goals (walk_at "bh fmg"; rfl)
local macro_rules | `(tactic| walk_at "call ref") => `(tactic| (k_here; k_dflt (refine' ct_use (c_leapH _ _) ?k1 ?k2 ?k3 ?k4 ?k5 ?kK ?kd ?ku ?_; walk_at "bh use"; (intro h9 tk9 F9 N9; (try dsimp only); (try k_fold)))))

set_option maxRecDepth 100000 in
set_option maxHeartbeats 400000 in
theorem c_ymon13 {w : World} (y : Int) (t : Tok) (h : leapH y = true) : Ct w 71 2 [.int y t] (RI 13) := by
  walk_at "bh open"
  k_steps
  all_goals walk_at "bh end"
  all_goals rfl
set_option maxRecDepth 100000 in
set_option maxHeartbeats 400000 in
theorem c_ymon12 {w : World} (y : Int) (t : Tok) (h : ¬ leapH y = true) : Ct w 71 2 [.int y t] (RI 12) := by
  walk_at "bh open"
  k_steps
  all_goals walk_at "bh end"
  all_goals rfl
def ymon (y : Int) : Int := if leapH y = true then 13 else 12
theorem c_ymon {w : World} (y : Int) (t : Tok) : Ct w 71 2 [.int y t] (RI (ymon y)) := by
  unfold ymon
  by_cases h : leapH y = true
  · rw [if_pos h]; exact c_ymon13 y t h
  · rw [if_neg h]; exact c_ymon12 y t h

theorem dday_eq (y : Int) : (235 * y - 234).fdiv 19 * 29 + (12084 + 13753 * (235 * y - 234).fdiv 19).fdiv 25920 = dday y := by
  walk_at "bh fmg"
  rfl

theorem d1_p {y : Int} (h : (3 * ((235 * y - 234).fdiv 19 * 29 + (12084 + 13753 * (235 * y - 234).fdiv 19).fdiv 25920 + 1)).fmod 7 < 3) : (235 * y - 234).fdiv 19 * 29 + (12084 + 13753 * (235 * y - 234).fdiv 19).fdiv 25920 + 1 = d1 y := by
  rw [dday_eq] at h ⊢
  rw [Int.fmod_eq_emod_of_nonneg _ (by decide)] at h
  exact (if_pos h).symm
theorem d1_n {y : Int} (h : ¬ (3 * ((235 * y - 234).fdiv 19 * 29 + (12084 + 13753 * (235 * y - 234).fdiv 19).fdiv 25920 + 1)).fmod 7 < 3) : (235 * y - 234).fdiv 19 * 29 + (12084 + 13753 * (235 * y - 234).fdiv 19).fdiv 25920 = d1 y := by
  rw [dday_eq] at h ⊢
  rw [Int.fmod_eq_emod_of_nonneg _ (by decide)] at h
  exact (if_neg h).symm

set_option maxRecDepth 100000 in
set_option maxHeartbeats 400000 in
theorem c_d1 {w : World} (y : Int) (t : Tok) : Ct w 78 1 [.int y t] (RI (d1 y)) := by
  walk_at "bh open"
  k_steps
  all_goals walk_at "bh end"
  · exact d1_p (by assumption)
  · exact d1_n (by assumption)
local macro_rules | `(tactic| walk_at "call ref") => `(tactic| (k_here; k_dflt (refine' ct_use (c_d1 _ _) ?k1 ?k2 ?k3 ?k4 ?k5 ?kK ?kd ?ku ?_; walk_at "bh use"; (intro t9 h9 tk9 F9 N9; (try dsimp only); (try k_fold)))))
set_option maxRecDepth 100000 in
set_option maxHeartbeats 400000 in
theorem c_d2 {w : World} (y : Int) (t : Tok) : Ct w 85 2 [.int y t] (RI (d2 y)) := by
  walk_at "bh open"
  k_steps
  all_goals walk_at "bh end"
  · exact (if_pos (by assumption)).symm
  · exact ((if_neg (by assumption)).trans (if_pos (by assumption))).symm
  · exact ((if_neg (by assumption)).trans (if_neg (by assumption))).symm
local macro_rules | `(tactic| walk_at "call ref") => `(tactic| (k_here; k_dflt (refine' ct_use (c_d2 _ _) ?k1 ?k2 ?k3 ?k4 ?k5 ?kK ?kd ?ku ?_; walk_at "bh use"; (intro t9 h9 tk9 F9 N9; (try dsimp only); (try k_fold)))))
local macro_rules | `(tactic| walk_at "call ref") => `(tactic| (k_here; k_dflt (refine' ct_use (c_ymon _ _) ?k1 ?k2 ?k3 ?k4 ?k5 ?kK ?kd ?ku ?_; walk_at "bh use"; (intro t9 h9 tk9 F9 N9; (try dsimp only); (try k_fold)))))
local macro_rules | `(tactic| walk_at "call ref") => `(tactic| (k_here; k_dflt (refine' ct_use (c_midnight _ _ ?kp) ?k1 ?k2 ?k3 ?k4 ?k5 ?kK ?kd ?ku ?_; (case kp => omega); walk_at "bh use"; (intro t9 h9 tk9 F9 N9; (try dsimp only); (try k_fold)))))

theorem dday_ge {y : Int} (h : 1 ≤ y) : 0 ≤ dday y := by
  unfold dday dmon
  omega
theorem d1_ge {y : Int} (h : 1 ≤ y) : 0 ≤ d1 y := by
  have := dday_ge h
  unfold d1
  split <;> omega
theorem d2_ge (y : Int) : 0 ≤ d2 y := by
  unfold d2
  split
  · decide
  · split <;> decide

def base7 (y d : Int) : Int := 347996 + d1 y + d2 y + d + 1

set_option maxRecDepth 100000 in
set_option maxHeartbeats 400000 in
theorem c_thj7 {w : World} (y d : Int) (t1 t2 t3 : Tok) (hy : 1 ≤ y) (hd : 0 ≤ d) : Ct w 113 3 [.int y t1, .int 7 t2, .int d t3] (RI (base7 y d)) := by
  have g1 := d1_ge hy
  have g2 := d2_ge y
  walk_at "bh open"
  k_steps
  all_goals walk_at "bh end"
  all_goals rfl
local macro_rules | `(tactic| walk_at "call ref") => `(tactic| (k_here; k_dflt (refine' ct_use (c_thj7 _ _ _ _ _ ?kp ?kq) ?k1 ?k2 ?k3 ?k4 ?k5 ?kK ?kd ?ku ?_; (case kp => omega); (case kq => omega); walk_at "bh use"; (intro t9 h9 tk9 F9 N9; (try dsimp only); (try k_fold)))))

def rh (y : Int) : Int := base7 y 1
def ydays (y : Int) : Int := rh (y + 1) - rh y
def mlen (y m : Int) : Int := if m = 2 ∨ m = 4 ∨ m = 6 ∨ m = 10 ∨ m = 13 then 29 else if m = 12 ∧ ¬ leapH y = true then 29 else if m = 8 ∧ ydays y % 10 ≠ 5 then 29 else if m = 9 ∧ ydays y % 10 = 3 then 29 else 30

set_option maxRecDepth 100000 in
set_option maxHeartbeats 400000 in
theorem c_ydays {w : World} (y : Int) (t1 : Tok) (hy : 1 ≤ y) : Ct w 92 4 [.int y t1] (RI (ydays y)) := by
  walk_at "bh open"
  k_steps
  all_goals walk_at "bh end"
  all_goals rfl
local macro_rules | `(tactic| walk_at "call ref") => `(tactic| (k_here; k_dflt (refine' ct_use (c_ydays _ _ ?kp) ?k1 ?k2 ?k3 ?k4 ?k5 ?kK ?kd ?ku ?_; (case kp => omega); walk_at "bh use"; (intro t9 h9 tk9 F9 N9; (try dsimp only); (try k_fold)))))

set_option maxRecDepth 100000 in
set_option maxHeartbeats 800000 in
theorem c_mlen {w : World} (y m : Int) (t1 t2 : Tok) (hy : 1 ≤ y) (hm : m ≤ 13) : Ct w 99 5 [.int y t1, .int m t2] (RI (mlen y m)) := by
  walk_at "bh open"
  k_steps
  all_goals walk_at "bh end"
  all_goals (law_clear; (try walk_at "bh fm"); (simp only [List.any_cons, List.any_nil, Bool.or_false, Bool.or_eq_true, Bool.or_eq_false_iff, beq_iff_eq, beq_eq_false_iff_ne, ne_eq] at *); unfold mlen; (repeat' split) <;> first | rfl | omega | simp_all)
local macro_rules | `(tactic| walk_at "call ref") => `(tactic| (k_here; k_dflt (refine' ct_use (c_mlen _ _ _ _ ?kp ?kq) ?k1 ?k2 ?k3 ?k4 ?k5 ?kK ?kd ?ku ?_; (case kp => omega); (case kq => omega); walk_at "bh use"; (intro t9 h9 tk9 F9 N9; (try dsimp only); (try k_fold)))))

set_option maxRecDepth 100000 in
set_option maxHeartbeats 400000 in
theorem c_mdays {w : World} (y m : Int) (t1 t2 : Tok) (hy : 1 ≤ y) (hm : m ≤ 13) : Ct w 106 6 [.int y t1, .int m t2] (RI (mlen y m)) := by
  walk_at "bh open"
  k_steps
  all_goals walk_at "bh end"
  all_goals rfl
local macro_rules | `(tactic| walk_at "call ref") => `(tactic| (k_here; k_dflt (refine' ct_use (c_mdays _ _ _ _ ?kp ?kq) ?k1 ?k2 ?k3 ?k4 ?k5 ?kK ?kd ?ku ?_; (case kp => omega); (case kq => omega); walk_at "bh use"; (intro t9 h9 tk9 F9 N9; (try dsimp only); (try k_fold)))))

def msum (y m : Int) : Nat → Int
  | 0 => 0
  | n + 1 => msum y m n + mlen y (m + n)
theorem mlen_ge (y m : Int) : 0 ≤ mlen y m := by
  unfold mlen
  repeat' split
  all_goals decide
def thj (y m d : Int) : Int := if m < 7 then base7 y d + msum y 7 (if leapH y = true then 7 else 6) + msum y 1 (m - 1).toNat else base7 y d + msum y 7 (m - 7).toNat

theorem ks13 : rangeKs 7 7 = [7, 8, 9, 10, 11, 12, 13] := rfl
theorem ks12 : rangeKs 7 6 = [7, 8, 9, 10, 11, 12] := rfl
section
local macro_rules | `(tactic| walk_at "bh sum") => `(tactic| (simp [msum, base7, ks13, ks12]; try omega))
local macro_rules | `(tactic| walk_at "call ref") => `(tactic| (k_here; k_dflt (refine' ct_use (c_midnight _ _ ?kp) ?k1 ?k2 ?k3 ?k4 ?k5 ?kK ?kd ?ku ?_; (case kp => ((repeat (refine Int.add_pos_of_pos_of_nonneg ?_ (mlen_ge _ _))); omega)); walk_at "bh use"; (intro t9 h9 tk9 F9 N9; (try dsimp only); (try k_fold)))))

set_option maxRecDepth 100000 in
set_option maxHeartbeats 1600000 in
theorem c_thj9 {w : World} (y d : Int) (t1 t2 t3 : Tok) (hy : 1 ≤ y) (hd : 0 ≤ d) : Ct w 113 7 [.int y t1, .int 9 t2, .int d t3] (RI (thj y 9 d)) := by
  have g1 := d1_ge hy
  have g2 := d2_ge y
  walk_at "bh open0"
  k_steps
  all_goals walk_at "bh end0"
  all_goals (show _ = base7 y d + msum y 7 2; walk_at "bh sum")

set_option maxRecDepth 100000 in
set_option maxHeartbeats 1600000 in
theorem c_thj11 {w : World} (y d : Int) (t1 t2 t3 : Tok) (hy : 1 ≤ y) (hd : 0 ≤ d) : Ct w 113 7 [.int y t1, .int 11 t2, .int d t3] (RI (thj y 11 d)) := by
  have g1 := d1_ge hy
  have g2 := d2_ge y
  walk_at "bh open0"
  k_steps
  all_goals walk_at "bh end0"
  all_goals (show _ = base7 y d + msum y 7 4; walk_at "bh sum")

set_option maxRecDepth 100000 in
set_option maxHeartbeats 1600000 in
theorem c_thj12 {w : World} (y d : Int) (t1 t2 t3 : Tok) (hy : 1 ≤ y) (hd : 0 ≤ d) : Ct w 113 7 [.int y t1, .int 12 t2, .int d t3] (RI (thj y 12 d)) := by
  have g1 := d1_ge hy
  have g2 := d2_ge y
  walk_at "bh open0"
  k_steps
  all_goals walk_at "bh end0"
  all_goals (show _ = base7 y d + msum y 7 5; walk_at "bh sum")

set_option maxRecDepth 100000 in
set_option maxHeartbeats 1600000 in
theorem c_thj13 {w : World} (y d : Int) (t1 t2 t3 : Tok) (hy : 1 ≤ y) (hd : 0 ≤ d) : Ct w 113 7 [.int y t1, .int 13 t2, .int d t3] (RI (thj y 13 d)) := by
  have g1 := d1_ge hy
  have g2 := d2_ge y
  walk_at "bh open0"
  k_steps
  all_goals walk_at "bh end0"
  all_goals (show _ = base7 y d + msum y 7 6; walk_at "bh sum")

local macro_rules | `(tactic| walk_at "call ref") => `(tactic| (k_here; k_dflt (refine' ct_use (c_ymon12 _ _ ?kp) ?k1 ?k2 ?k3 ?k4 ?k5 ?kK ?kd ?ku ?_; (case kp => assumption); walk_at "bh use"; (intro t9 h9 tk9 F9 N9; (try dsimp only); (try k_fold)))))
local macro_rules | `(tactic| walk_at "call ref") => `(tactic| (k_here; k_dflt (refine' ct_use (c_ymon13 _ _ ?kp) ?k1 ?k2 ?k3 ?k4 ?k5 ?kK ?kd ?ku ?_; (case kp => assumption); walk_at "bh use"; (intro t9 h9 tk9 F9 N9; (try dsimp only); (try k_fold)))))

set_option maxRecDepth 100000 in
set_option maxHeartbeats 1600000 in
theorem c_thj1 {w : World} (y d : Int) (t1 t2 t3 : Tok) (hy : 1 ≤ y) (hd : 0 ≤ d) : Ct w 113 7 [.int y t1, .int 1 t2, .int d t3] (RI (thj y 1 d)) := by
  have g1 := d1_ge hy
  have g2 := d2_ge y
  have e : thj y 1 d = base7 y d + msum y 7 (if leapH y = true then 7 else 6) + msum y 1 0 := rfl
  rw [e]
  by_cases hl : leapH y = true
  · rw [if_pos hl]
    walk_at "bh open0"
    k_steps
    all_goals walk_at "bh end0"
    all_goals (walk_at "bh sum")
  · rw [if_neg hl]
    walk_at "bh open0"
    k_steps
    all_goals walk_at "bh end0"
    all_goals (walk_at "bh sum")

set_option maxRecDepth 100000 in
set_option maxHeartbeats 1600000 in
theorem c_thj2 {w : World} (y d : Int) (t1 t2 t3 : Tok) (hy : 1 ≤ y) (hd : 0 ≤ d) : Ct w 113 7 [.int y t1, .int 2 t2, .int d t3] (RI (thj y 2 d)) := by
  have g1 := d1_ge hy
  have g2 := d2_ge y
  have e : thj y 2 d = base7 y d + msum y 7 (if leapH y = true then 7 else 6) + msum y 1 1 := rfl
  rw [e]
  by_cases hl : leapH y = true
  · rw [if_pos hl]
    walk_at "bh open0"
    k_steps
    all_goals walk_at "bh end0"
    all_goals (walk_at "bh sum")
  · rw [if_neg hl]
    walk_at "bh open0"
    k_steps
    all_goals walk_at "bh end0"
    all_goals (walk_at "bh sum")

set_option maxRecDepth 100000 in
set_option maxHeartbeats 1600000 in
theorem c_thj3 {w : World} (y d : Int) (t1 t2 t3 : Tok) (hy : 1 ≤ y) (hd : 0 ≤ d) : Ct w 113 7 [.int y t1, .int 3 t2, .int d t3] (RI (thj y 3 d)) := by
  have g1 := d1_ge hy
  have g2 := d2_ge y
  have e : thj y 3 d = base7 y d + msum y 7 (if leapH y = true then 7 else 6) + msum y 1 2 := rfl
  rw [e]
  by_cases hl : leapH y = true
  · rw [if_pos hl]
    walk_at "bh open0"
    k_steps
    all_goals walk_at "bh end0"
    all_goals (walk_at "bh sum")
  · rw [if_neg hl]
    walk_at "bh open0"
    k_steps
    all_goals walk_at "bh end0"
    all_goals (walk_at "bh sum")

set_option maxRecDepth 100000 in
set_option maxHeartbeats 1600000 in
theorem c_thj5 {w : World} (y d : Int) (t1 t2 t3 : Tok) (hy : 1 ≤ y) (hd : 0 ≤ d) : Ct w 113 7 [.int y t1, .int 5 t2, .int d t3] (RI (thj y 5 d)) := by
  have g1 := d1_ge hy
  have g2 := d2_ge y
  have e : thj y 5 d = base7 y d + msum y 7 (if leapH y = true then 7 else 6) + msum y 1 4 := rfl
  rw [e]
  by_cases hl : leapH y = true
  · rw [if_pos hl]
    walk_at "bh open0"
    k_steps
    all_goals walk_at "bh end0"
    all_goals (walk_at "bh sum")
  · rw [if_neg hl]
    walk_at "bh open0"
    k_steps
    all_goals walk_at "bh end0"
    all_goals (walk_at "bh sum")
end

def mN (h : Nat) : Nat := (235 * h - 234) / 19
def dN (h : Nat) : Nat := mN h * 29 + (12084 + 13753 * mN h) / 25920
def d1N (h : Nat) : Nat := if 3 * (dN h + 1) % 7 < 3 then dN h + 1 else dN h
def d2N (h : Nat) : Nat := if d1N (h + 1) = d1N h + 356 then 2 else if d1N h = d1N (h - 1) + 382 then 1 else 0
def rhN (h : Nat) : Nat := 347998 + d1N h + d2N h
def leapN (h : Nat) : Bool := decide ((h * 7 + 1) % 19 < 7)
def j1N (y : Nat) : Nat := 1721426 + 365 * (y - 1) + (y - 1) / 4 - (y - 1) / 100 + (y - 1) / 400
def chkN (h : Nat) : Bool := decide (j1N (h - 3761) + 246 ≤ rhN h) && decide (rhN h ≤ j1N (h - 3761) + 279) && decide (rhN h % 7 = 0 ∨ rhN h % 7 = 1 ∨ rhN h % 7 = 3 ∨ rhN h % 7 = 5)
  && (if leapN h then decide (rhN (h + 1) = rhN h + 383 ∨ rhN (h + 1) = rhN h + 384 ∨ rhN (h + 1) = rhN h + 385) else decide (rhN (h + 1) = rhN h + 353 ∨ rhN (h + 1) = rhN h + 354 ∨ rhN (h + 1) = rhN h + 355))
def allN (f : Nat → Bool) : Nat → Nat → Bool
  | 0, _ => true
  | n + 1, a => f a && allN f n (a + 1)
theorem allN_at {f : Nat → Bool} : ∀ {n a : Nat}, allN f n a = true → ∀ h, a ≤ h → h < a + n → f h = true
  | 0, _, _, h, h1, h2 => absurd h2 (by omega)
  | n + 1, a, e, h, h1, h2 => by
    rw [allN, Bool.and_eq_true] at e
    by_cases k : h = a
    · rw [k]; exact e.1
    · exact allN_at e.2 h (by omega) (by omega)
theorem chk0 : allN chkN 150 5343 = true := by decide +kernel
theorem chk1 : allN chkN 150 5493 = true := by decide +kernel
theorem chk2 : allN chkN 150 5643 = true := by decide +kernel
theorem chk3 : allN chkN 150 5793 = true := by decide +kernel
theorem chk4 : allN chkN 150 5943 = true := by decide +kernel
theorem chk5 : allN chkN 155 6093 = true := by decide +kernel
theorem chk_at (h : Nat) (h1 : 5343 ≤ h) (h2 : h < 6248) : chkN h = true := by
  by_cases k0 : h < 5493
  · exact allN_at chk0 h h1 k0
  by_cases k1 : h < 5643
  · exact allN_at chk1 h (by omega) k1
  by_cases k2 : h < 5793
  · exact allN_at chk2 h (by omega) k2
  by_cases k3 : h < 5943
  · exact allN_at chk3 h (by omega) k3
  by_cases k4 : h < 6093
  · exact allN_at chk4 h (by omega) k4
  exact allN_at chk5 h (by omega) h2

theorem dday_nat (h : Nat) (k : 1 ≤ h) : dday h = dN h := by
  have e : dmon h = (mN h : Nat) := by
    unfold dmon mN
    have e' : 235 * (h : Int) - 234 = ((235 * h - 234 : Nat) : Int) := by omega
    rw [e']
    rfl
  unfold dday dN
  rw [e]
  generalize mN h = m
  have e2 : 12084 + 13753 * (m : Int) = ((12084 + 13753 * m : Nat) : Int) := by omega
  rw [e2]
  generalize 12084 + 13753 * m = q
  omega
theorem d1_nat (h : Nat) (k : 1 ≤ h) : d1 h = d1N h := by
  unfold d1 d1N
  rw [dday_nat h k]
  have e : 3 * ((dN h : Int) + 1) % 7 = ((3 * (dN h + 1) % 7 : Nat) : Int) := by push_cast; rfl
  rw [e]
  by_cases c : 3 * (dN h + 1) % 7 < 3
  · rw [if_pos c, if_pos (by omega)]; omega
  · rw [if_neg c, if_neg (by omega)]
theorem d2_nat (h : Nat) (k : 2 ≤ h) : d2 h = d2N h := by
  unfold d2 d2N
  have e1 : (h : Int) + 1 = ((h + 1 : Nat) : Int) := by omega
  have e2 : (h : Int) - 1 = ((h - 1 : Nat) : Int) := by omega
  rw [e1, e2, d1_nat _ (by omega), d1_nat _ (by omega), d1_nat _ (by omega)]
  by_cases c : d1N (h + 1) = d1N h + 356
  · rw [if_pos c, if_pos (by omega)]; rfl
  · rw [if_neg c, if_neg (by omega)]
    by_cases c' : d1N h = d1N (h - 1) + 382
    · rw [if_pos c', if_pos (by omega)]; rfl
    · rw [if_neg c', if_neg (by omega)]; rfl
theorem rh_nat (h : Nat) (k : 2 ≤ h) : rh h = rhN h := by
  unfold rh base7 rhN
  rw [d1_nat h (by omega), d2_nat h k]
  omega
theorem leap_nat (h : Nat) : leapH h = leapN h := by
  unfold leapH leapN
  have e : ((h : Int) * 7 + 1) % 19 = (((h * 7 + 1) % 19 : Nat) : Int) := by push_cast; rfl
  rw [e]
  by_cases c : (h * 7 + 1) % 19 < 7
  · rw [decide_eq_true c, decide_eq_true (by omega)]
  · rw [decide_eq_false c, decide_eq_false (by omega)]
theorem j1_nat (y : Nat) (k : 1 ≤ y) : tg y 1 1 = j1N y := by
  rw [tg11]
  unfold j1N
  omega

theorem rh_facts (h : Int) (h1 : 5343 ≤ h) (h2 : h < 6248) : tg (h - 3761) 1 1 + 246 ≤ rh h ∧ rh h ≤ tg (h - 3761) 1 1 + 279 ∧ (rh h % 7 = 0 ∨ rh h % 7 = 1 ∨ rh h % 7 = 3 ∨ rh h % 7 = 5)
    ∧ ((leapH h = true ∧ (ydays h = 383 ∨ ydays h = 384 ∨ ydays h = 385)) ∨ (¬ leapH h = true ∧ (ydays h = 353 ∨ ydays h = 354 ∨ ydays h = 355))) := by
  obtain ⟨n, rfl⟩ : ∃ n : Nat, h = n := ⟨h.toNat, by omega⟩
  have c := chk_at n (by omega) (by omega)
  unfold chkN at c
  simp only [Bool.and_eq_true, decide_eq_true_eq] at c
  obtain ⟨⟨⟨c1, c2⟩, c3⟩, c4⟩ := c
  have e1 : (n : Int) - 3761 = ((n - 3761 : Nat) : Int) := by omega
  have e2 : (n : Int) + 1 = ((n + 1 : Nat) : Int) := by omega
  unfold ydays
  rw [e1, e2, j1_nat _ (by omega), rh_nat n (by omega), rh_nat (n + 1) (by omega), leap_nat]
  refine ⟨by omega, by omega, by omega, ?_⟩
  by_cases l : leapN n = true
  · rw [if_pos l, decide_eq_true_eq] at c4
    exact .inl ⟨l, by omega⟩
  · rw [if_neg l, decide_eq_true_eq] at c4
    exact .inr ⟨l, by omega⟩

theorem ml1 (y : Int) : mlen y 1 = 30 := by simp [mlen]
theorem ml2 (y : Int) : mlen y 2 = 29 := by simp [mlen]
theorem ml3 (y : Int) : mlen y 3 = 30 := by simp [mlen]
theorem ml4 (y : Int) : mlen y 4 = 29 := by simp [mlen]
theorem ml7 (y : Int) : mlen y 7 = 30 := by simp [mlen]
theorem ml8 (y : Int) : mlen y 8 = if ydays y % 10 = 5 then 30 else 29 := by simp [mlen]
theorem ml9 (y : Int) : mlen y 9 = if ydays y % 10 = 3 then 29 else 30 := by simp [mlen]
theorem ml10 (y : Int) : mlen y 10 = 29 := by simp [mlen]
theorem ml11 (y : Int) : mlen y 11 = 30 := by simp [mlen]
theorem ml12 (y : Int) : mlen y 12 = if leapH y = true then 30 else 29 := by
  by_cases h : leapH y = true <;> simp [mlen, h]
theorem ml13 (y : Int) : mlen y 13 = 29 := by simp [mlen]

/-- How the year that ends at Tishri 1 of h + 1 is laid: the months' sums, told from its end. -/
theorem thj_vals (h : Int) (H : (leapH h = true ∧ (ydays h = 383 ∨ ydays h = 384 ∨ ydays h = 385)) ∨ (¬ leapH h = true ∧ (ydays h = 353 ∨ ydays h = 354 ∨ ydays h = 355))) :
    thj h 1 15 = rh (h + 1) - 163 ∧ thj h 2 18 = rh (h + 1) - 130 ∧ thj h 3 6 = rh (h + 1) - 113 ∧ thj h 5 9 = rh (h + 1) - 51
    ∧ thj h 11 15 = rh (h + 1) - (if leapH h = true then 252 else 222) ∧ (leapH h = true → thj h 13 14 = rh (h + 1) - 193) ∧ (¬ leapH h = true → thj h 12 14 = rh (h + 1) - 193)
    ∧ thj h 9 25 = rh h + (if ydays h % 10 = 5 then 84 else 83) := by
  have hr : rh (h + 1) = rh h + ydays h := by unfold ydays; omega
  have hb : ∀ d, base7 h d = rh h + d - 1 := fun d => by unfold rh base7; omega
  rw [hr]
  rcases H with ⟨l, H⟩ | ⟨l, H⟩
  · rcases H with H | H | H <;> simp [thj, msum, hb, ml1, ml2, ml3, ml4, ml7, ml8, ml9, ml10, ml11, ml12, ml13, H, l] <;> omega
  · rcases H with H | H | H <;> simp [thj, msum, hb, ml1, ml2, ml3, ml4, ml7, ml8, ml9, ml10, ml11, ml12, ml13, H, l] <;> omega

def FJ (k y : Int) : Int :=
  if k = 0 then thj (y + 3760) 3 6 else if k = 1 then thj (y + 3760) 2 18
  else if k = 2 then (if thj (y + 3760) 5 9 % 7 = 5 then thj (y + 3760) 5 9 + 1 else thj (y + 3760) 5 9)
  else if k = 3 then base7 (y + 3760 + 1) 1 else if k = 4 then base7 (y + 3760 + 1) 10 else if k = 5 then base7 (y + 3760 + 1) 15 else if k = 6 then base7 (y + 3760 + 1) 22
  else if k = 7 then (if leapH (y + 3760) = true then thj (y + 3760) 13 14 else thj (y + 3760) 12 14)
  else if k = 8 then thj (y + 3760) 11 15 else if k = 9 then thj (y + 3760 + 1) 9 25 else thj (y + 3760) 1 15

section
variable {y : Int} (h1 : 1583 ≤ y) (h2 : y ≤ 2483)
include h1 h2
theorem yf : tg (y - 1) 1 1 + 246 ≤ rh (y + 3760) ∧ rh (y + 3760) ≤ tg (y - 1) 1 1 + 279 ∧ tg y 1 1 + 246 ≤ rh (y + 3760 + 1) ∧ rh (y + 3760 + 1) ≤ tg y 1 1 + 279
    ∧ tg (y - 1) 1 1 + 365 ≤ tg y 1 1 ∧ tg y 1 1 ≤ tg (y - 1) 1 1 + 366 ∧ tg y 1 1 + 365 ≤ tg (y + 1) 1 1 := by
  obtain ⟨a1, a2, _, _⟩ := rh_facts (y + 3760) (by omega) (by omega)
  obtain ⟨b1, b2, _, _⟩ := rh_facts (y + 3760 + 1) (by omega) (by omega)
  have e1 : y + 3760 - 3761 = y - 1 := by omega
  have e2 : y + 3760 + 1 - 3761 = y := by omega
  rw [e1] at a1 a2
  rw [e2] at b1 b2
  have c1 := J1_succ (y - 1)
  have c2 := J1_succ y
  have c3 := b01_le (isleapG (y - 1))
  have c4 := b01_le (isleapG y)
  have e3 : y - 1 + 1 = y := by omega
  rw [e3] at c1
  omega
theorem yty : (leapH (y + 3760) = true ∧ (ydays (y + 3760) = 383 ∨ ydays (y + 3760) = 384 ∨ ydays (y + 3760) = 385)) ∨ (¬ leapH (y + 3760) = true ∧ (ydays (y + 3760) = 353 ∨ ydays (y + 3760) = 354 ∨ ydays (y + 3760) = 355)) :=
  (rh_facts (y + 3760) (by omega) (by omega)).2.2.2
theorem yty' : (leapH (y + 3760 + 1) = true ∧ (ydays (y + 3760 + 1) = 383 ∨ ydays (y + 3760 + 1) = 384 ∨ ydays (y + 3760 + 1) = 385)) ∨ (¬ leapH (y + 3760 + 1) = true ∧ (ydays (y + 3760 + 1) = 353 ∨ ydays (y + 3760 + 1) = 354 ∨ ydays (y + 3760 + 1) = 355)) :=
  (rh_facts (y + 3760 + 1) (by omega) (by omega)).2.2.2
/-- the early feasts fall in the year, out of the Hebrew year that began in the one before -/
theorem early : fjY (thj (y + 3760) 1 15) = y ∧ fjY (thj (y + 3760) 2 18) = y ∧ fjY (thj (y + 3760) 3 6) = y ∧ fjY (thj (y + 3760) 5 9) = y ∧ fjY (thj (y + 3760) 11 15) = y
    ∧ (leapH (y + 3760) = true → fjY (thj (y + 3760) 13 14) = y) ∧ (¬ leapH (y + 3760) = true → fjY (thj (y + 3760) 12 14) = y) := by
  have f := yf h1 h2
  have t := yty h1 h2
  have hr : rh (y + 3760 + 1) = rh (y + 3760) + ydays (y + 3760) := by unfold ydays; omega
  obtain ⟨v1, v2, v3, v5, v11, v13, v12, v9⟩ := thj_vals (y + 3760) t
  refine ⟨fjY_of (by omega) (by omega), fjY_of (by omega) (by omega), fjY_of (by omega) (by omega), fjY_of (by omega) (by omega), ?_, fun l => ?_, fun l => ?_⟩
  · rw [v11]
    rcases t with ⟨l, H⟩ | ⟨l, H⟩
    · rw [if_pos l]
      exact fjY_of (by omega) (by omega)
    · rw [if_neg l]
      exact fjY_of (by omega) (by omega)
  · rw [v13 l]
    exact fjY_of (by omega) (by omega)
  · rw [v12 l]
    exact fjY_of (by omega) (by omega)
theorem late7 {d : Int} (d1 : 1 ≤ d) (d2 : d ≤ 22) : ¬ fjY (base7 (y + 3760) d) = y ∧ fjY (base7 (y + 3760 + 1) d) = y := by
  have f := yf h1 h2
  have hb : ∀ h d, base7 h d = rh h + d - 1 := fun h d => by unfold rh base7; omega
  rw [hb, hb]
  refine ⟨?_, fjY_of (by omega) (by omega)⟩
  have := fjY_lt (j := rh (y + 3760) + d - 1) (y := y) (by omega)
  omega
theorem late9 : ¬ fjY (thj (y + 3760) 9 25) = y ∧ fjY (thj (y + 3760 + 1) 9 25) = y := by
  have f := yf h1 h2
  obtain ⟨_, _, _, _, _, _, _, v9⟩ := thj_vals (y + 3760) (yty h1 h2)
  obtain ⟨_, _, _, _, _, _, _, w9⟩ := thj_vals (y + 3760 + 1) (yty' h1 h2)
  have b9 : (if ydays (y + 3760) % 10 = 5 then (84 : Int) else 83) ≤ 84 := by split <;> decide
  have c9 : 0 ≤ (if ydays (y + 3760 + 1) % 10 = 5 then (84 : Int) else 83) ∧ (if ydays (y + 3760 + 1) % 10 = 5 then (84 : Int) else 83) ≤ 84 := by split <;> decide
  refine ⟨?_, ?_⟩
  · have := fjY_lt (j := thj (y + 3760) 9 25) (y := y) (by omega)
    omega
  · exact fjY_of (by omega) (by omega)
end

theorem FJ_0 (y : Int) : FJ 0 y = thj (y + 3760) 3 6 := by unfold FJ; rw [if_pos (show (0 : Int) = 0 from rfl)]
theorem FJ_1 (y : Int) : FJ 1 y = thj (y + 3760) 2 18 := by unfold FJ; rw [if_neg (show ¬ (1 : Int) = 0 by decide), if_pos (show (1 : Int) = 1 from rfl)]
theorem FJ_2 (y : Int) : FJ 2 y = if thj (y + 3760) 5 9 % 7 = 5 then thj (y + 3760) 5 9 + 1 else thj (y + 3760) 5 9 := by unfold FJ; rw [if_neg (show ¬ (2 : Int) = 0 by decide), if_neg (show ¬ (2 : Int) = 1 by decide), if_pos (show (2 : Int) = 2 from rfl)]
theorem FJ_3 (y : Int) : FJ 3 y = base7 (y + 3760 + 1) 1 := by unfold FJ; rw [if_neg (show ¬ (3 : Int) = 0 by decide), if_neg (show ¬ (3 : Int) = 1 by decide), if_neg (show ¬ (3 : Int) = 2 by decide), if_pos (show (3 : Int) = 3 from rfl)]
theorem FJ_4 (y : Int) : FJ 4 y = base7 (y + 3760 + 1) 10 := by unfold FJ; rw [if_neg (show ¬ (4 : Int) = 0 by decide), if_neg (show ¬ (4 : Int) = 1 by decide), if_neg (show ¬ (4 : Int) = 2 by decide), if_neg (show ¬ (4 : Int) = 3 by decide), if_pos (show (4 : Int) = 4 from rfl)]
theorem FJ_5 (y : Int) : FJ 5 y = base7 (y + 3760 + 1) 15 := by unfold FJ; rw [if_neg (show ¬ (5 : Int) = 0 by decide), if_neg (show ¬ (5 : Int) = 1 by decide), if_neg (show ¬ (5 : Int) = 2 by decide), if_neg (show ¬ (5 : Int) = 3 by decide), if_neg (show ¬ (5 : Int) = 4 by decide), if_pos (show (5 : Int) = 5 from rfl)]
theorem FJ_6 (y : Int) : FJ 6 y = base7 (y + 3760 + 1) 22 := by unfold FJ; rw [if_neg (show ¬ (6 : Int) = 0 by decide), if_neg (show ¬ (6 : Int) = 1 by decide), if_neg (show ¬ (6 : Int) = 2 by decide), if_neg (show ¬ (6 : Int) = 3 by decide), if_neg (show ¬ (6 : Int) = 4 by decide), if_neg (show ¬ (6 : Int) = 5 by decide), if_pos (show (6 : Int) = 6 from rfl)]
theorem FJ_7 (y : Int) : FJ 7 y = if leapH (y + 3760) = true then thj (y + 3760) 13 14 else thj (y + 3760) 12 14 := by unfold FJ; rw [if_neg (show ¬ (7 : Int) = 0 by decide), if_neg (show ¬ (7 : Int) = 1 by decide), if_neg (show ¬ (7 : Int) = 2 by decide), if_neg (show ¬ (7 : Int) = 3 by decide), if_neg (show ¬ (7 : Int) = 4 by decide), if_neg (show ¬ (7 : Int) = 5 by decide), if_neg (show ¬ (7 : Int) = 6 by decide), if_pos (show (7 : Int) = 7 from rfl)]
theorem FJ_8 (y : Int) : FJ 8 y = thj (y + 3760) 11 15 := by unfold FJ; rw [if_neg (show ¬ (8 : Int) = 0 by decide), if_neg (show ¬ (8 : Int) = 1 by decide), if_neg (show ¬ (8 : Int) = 2 by decide), if_neg (show ¬ (8 : Int) = 3 by decide), if_neg (show ¬ (8 : Int) = 4 by decide), if_neg (show ¬ (8 : Int) = 5 by decide), if_neg (show ¬ (8 : Int) = 6 by decide), if_neg (show ¬ (8 : Int) = 7 by decide), if_pos (show (8 : Int) = 8 from rfl)]
theorem FJ_9 (y : Int) : FJ 9 y = thj (y + 3760 + 1) 9 25 := by unfold FJ; rw [if_neg (show ¬ (9 : Int) = 0 by decide), if_neg (show ¬ (9 : Int) = 1 by decide), if_neg (show ¬ (9 : Int) = 2 by decide), if_neg (show ¬ (9 : Int) = 3 by decide), if_neg (show ¬ (9 : Int) = 4 by decide), if_neg (show ¬ (9 : Int) = 5 by decide), if_neg (show ¬ (9 : Int) = 6 by decide), if_neg (show ¬ (9 : Int) = 7 by decide), if_neg (show ¬ (9 : Int) = 8 by decide), if_pos (show (9 : Int) = 9 from rfl)]
theorem FJ_10 (y : Int) : FJ 10 y = thj (y + 3760) 1 15 := by unfold FJ; rw [if_neg (show ¬ (10 : Int) = 0 by decide), if_neg (show ¬ (10 : Int) = 1 by decide), if_neg (show ¬ (10 : Int) = 2 by decide), if_neg (show ¬ (10 : Int) = 3 by decide), if_neg (show ¬ (10 : Int) = 4 by decide), if_neg (show ¬ (10 : Int) = 5 by decide), if_neg (show ¬ (10 : Int) = 6 by decide), if_neg (show ¬ (10 : Int) = 7 by decide), if_neg (show ¬ (10 : Int) = 8 by decide), if_neg (show ¬ (10 : Int) = 9 by decide)]
theorem aux1 {P R : Int} (p : P = R - 163) (w : R % 7 = 0 ∨ R % 7 = 1 ∨ R % 7 = 3 ∨ R % 7 = 5) : P % 7 = 1 ∨ P % 7 = 3 ∨ P % 7 = 5 ∨ P % 7 = 6 := by omega
theorem aux2 {P P' R R' d : Int} {c : Prop} (p : P = R - 163) (p' : P' = R' - 163) (r : R' = R + d) (t : (c ∧ (d = 383 ∨ d = 384 ∨ d = 385)) ∨ (¬ c ∧ (d = 353 ∨ d = 354 ∨ d = 355))) : P' - P = 353 ∨ P' - P = 354 ∨ P' - P = 355 ∨ P' - P = 383 ∨ P' - P = 384 ∨ P' - P = 385 := by
  rcases t with ⟨_, t⟩ | ⟨_, t⟩ <;> omega
theorem aux3 {P R : Int} (p : P = R - 163) : (if (R - 51) % 7 = 5 then R - 51 + 1 else R - 51) = P + (if P % 7 = 5 then 113 else 112) := by
  subst p
  by_cases c : (R - 51) % 7 = 5
  · rw [if_pos c, if_pos (by omega)]; omega
  · rw [if_neg c, if_neg (by omega)]; omega

theorem lin {P R a b : Int} (p : P = R - 163) (e : 163 - a = b) : R - a = P + b := by omega
theorem lin' {P R a b : Int} (p : P = R - 163) (e : a + 163 = b) : R + a = P + b := by omega
theorem aux7 {P R u v : Int} {c : Prop} [Decidable c] (p : P = R - 163) (h : c → u = R - 193) (h' : ¬ c → v = R - 193) : (if c then u else v) = P - 30 := by
  by_cases k : c
  · rw [if_pos k, h k]; omega
  · rw [if_neg k, h' k]; omega
theorem aux8 {P R : Int} {c : Prop} [Decidable c] (p : P = R - 163) : R - (if c then 252 else 222) = P + (if c then -89 else -59) := by
  by_cases k : c
  · rw [if_pos k, if_pos k]; omega
  · rw [if_neg k, if_neg k]; omega
theorem aux9 {P R D : Int} (p : P = R - 163) : R + (if D % 10 = 5 then 84 else 83) = P + (if (R + D - (R + (1 - 1))) % 10 = 5 then 247 else 246) := by
  have e : R + D - (R + (1 - 1)) = D := by omega
  rw [e]
  by_cases k : D % 10 = 5
  · rw [if_pos k, if_pos k]; omega
  · rw [if_neg k, if_neg k]; omega
theorem law_facts {y : Int} (h1 : 1583 ≤ y) (h2 : y ≤ 2482) :
    (FJ 10 y % 7 = 1 ∨ FJ 10 y % 7 = 3 ∨ FJ 10 y % 7 = 5 ∨ FJ 10 y % 7 = 6)
    ∧ (FJ 10 (y + 1) - FJ 10 y = 353 ∨ FJ 10 (y + 1) - FJ 10 y = 354 ∨ FJ 10 (y + 1) - FJ 10 y = 355 ∨ FJ 10 (y + 1) - FJ 10 y = 383 ∨ FJ 10 (y + 1) - FJ 10 y = 384 ∨ FJ 10 (y + 1) - FJ 10 y = 385)
    ∧ FJ 0 y = FJ 10 y + 50 ∧ FJ 1 y = FJ 10 y + 33 ∧ FJ 2 y = FJ 10 y + (if FJ 10 y % 7 = 5 then 113 else 112) ∧ FJ 3 y = FJ 10 y + 163 ∧ FJ 4 y = FJ 10 y + 172 ∧ FJ 5 y = FJ 10 y + 177 ∧ FJ 6 y = FJ 10 y + 184
    ∧ FJ 7 y = FJ 10 y - 30 ∧ FJ 8 y = FJ 10 y + (if leapH (y + 3760) = true then -89 else -59) ∧ FJ 9 y = FJ 10 y + (if (FJ 3 (y + 1) - FJ 3 y) % 10 = 5 then 247 else 246) := by
  have t := yty h1 (Int.le_trans h2 (by decide))
  have t' := yty' h1 (Int.le_trans h2 (by decide))
  have w := (rh_facts (y + 3760 + 1) (by omega) (by omega)).2.2.1
  have hr' : rh (y + 3760 + 1 + 1) = rh (y + 3760 + 1) + ydays (y + 3760 + 1) := by clear t t' w; unfold ydays; omega
  have es : y + 1 + 3760 = y + 3760 + 1 := by clear t t' w hr'; omega
  have hb : ∀ d, base7 (y + 3760 + 1) d = rh (y + 3760 + 1) + (d - 1) := fun d => by clear t t' w hr'; unfold rh base7; omega
  obtain ⟨v1, v2, v3, v5, v11, v13, v12, _⟩ := thj_vals (y + 3760) t
  obtain ⟨u1, _, _, _, _, _, _, u9⟩ := thj_vals (y + 3760 + 1) t'
  have r1' : base7 (y + 3760 + 1 + 1) 1 = rh (y + 3760 + 1 + 1) := rfl
  have p : FJ 10 y = rh (y + 3760 + 1) - 163 := by rw [FJ_10]; exact v1
  have p' : FJ 10 (y + 1) = rh (y + 3760 + 1 + 1) - 163 := by rw [FJ_10, es]; exact u1
  rw [FJ_0, FJ_1, FJ_2, FJ_3, FJ_4, FJ_5, FJ_6, FJ_7, FJ_8, FJ_9, FJ_3, es, hb, hb, hb, hb, v1, v2, v3, v5, u9, r1', hr', v11] at *
  generalize rh (y + 3760 + 1) = R at *
  generalize hd : ydays (y + 3760 + 1) = D at *
  exact ⟨aux1 p w, aux2 p p' rfl t', lin p (by decide), lin p (by decide), aux3 p, lin' p (by decide), lin' p (by decide), lin' p (by decide), lin' p (by decide), aux7 p v13 v12, aux8 p, aux9 p⟩

theorem law_years {y : Int} (h1 : 1583 ≤ y) (h2 : y ≤ 2482) : fjY (FJ 0 y) = y ∧ fjY (FJ 1 y) = y ∧ fjY (FJ 2 y) = y ∧ fjY (FJ 3 y) = y ∧ fjY (FJ 4 y) = y ∧ fjY (FJ 5 y) = y ∧ fjY (FJ 6 y) = y ∧ fjY (FJ 7 y) = y ∧ fjY (FJ 8 y) = y ∧ fjY (FJ 9 y) = y := by
  have f := yf h1 (show y ≤ 2483 by omega)
  have t := yty h1 (show y ≤ 2483 by omega)
  obtain ⟨e1, e2, e3, e5, e11, e13, e12⟩ := early h1 (show y ≤ 2483 by omega)
  have v5 := (thj_vals (y + 3760) t).2.2.2.1
  have l7 : ∀ d : Int, 1 ≤ d → d ≤ 22 → fjY (base7 (y + 3760 + 1) d) = y := fun d d1 d2 => (late7 h1 (by omega) d1 d2).2
  rw [FJ_0, FJ_1, FJ_2, FJ_3, FJ_4, FJ_5, FJ_6, FJ_7, FJ_8, FJ_9]
  refine ⟨e3, e2, ?_, l7 1 (by decide) (by decide), l7 10 (by decide) (by decide), l7 15 (by decide) (by decide), l7 22 (by decide) (by decide), ?_, e11, (late9 h1 (by omega)).2⟩
  · rw [v5]
    by_cases c : (rh (y + 3760 + 1) - 51) % 7 = 5
    · rw [if_pos c]; exact fjY_of (by omega) (by omega)
    · rw [if_neg c]; exact fjY_of (by omega) (by omega)
  · by_cases l : leapH (y + 3760) = true
    · rw [if_pos l]; exact e13 l
    · rw [if_neg l]; exact e12 l

theorem pass2024 : fjY (FJ 10 2024) = 2024 ∧ fjM (FJ 10 2024) = 4 ∧ fjD (FJ 10 2024) = 23 := by decide +kernel

section
local macro_rules | `(tactic| walk_at "call ref") => `(tactic| (k_here; k_dflt ((rename ∀ t1 t2 t3 : Tok, Ct _ 113 7 [Value.int (_ + 3760) t1, Value.int _ t2, Value.int _ t3] _ => hA9); refine' ct_use (hA9 _ _ _) ?k1 ?k2 ?k3 ?k4 ?k5 ?kK ?kd ?ku ?_; walk_at "bh use"; (intro t9 h9 tk9 F9 N9; (try dsimp only); (try k_fold)))))
local macro_rules | `(tactic| walk_at "call ref") => `(tactic| (k_here; k_dflt ((rename ∀ t1 t2 t3 : Tok, Ct _ 113 7 [Value.int (_ + 3760 + 1) t1, Value.int _ t2, Value.int _ t3] _ => hB9); refine' ct_use (hB9 _ _ _) ?k1 ?k2 ?k3 ?k4 ?k5 ?kK ?kd ?ku ?_; walk_at "bh use"; (intro t9 h9 tk9 F9 N9; (try dsimp only); (try k_fold)))))

set_option maxRecDepth 100000 in
set_option maxHeartbeats 1600000 in
theorem c_gy1 {w : World} (A y m d : Int) (t1 t2 t3 : Tok) (hA : ∀ t1 t2 t3 : Tok, Ct w 113 7 [.int (y + 3760) t1, .int m t2, .int d t3] (RI A)) (h : fjY A = y) : Ct w 120 8 [.int y t1, .int m t2, .int d t3] (RI A) := by
  walk_at "bh open0"
  k_steps
  all_goals walk_at "bh end0"
  all_goals rfl

set_option maxRecDepth 100000 in
set_option maxHeartbeats 1600000 in
theorem c_gy2 {w : World} (A B' y m d : Int) (t1 t2 t3 : Tok) (hA : ∀ t1 t2 t3 : Tok, Ct w 113 7 [.int (y + 3760) t1, .int m t2, .int d t3] (RI A)) (hB : ∀ t1 t2 t3 : Tok, Ct w 113 7 [.int (y + 3760 + 1) t1, .int m t2, .int d t3] (RI B')) (h : ¬ fjY A = y) (h' : fjY B' = y) : Ct w 120 8 [.int y t1, .int m t2, .int d t3] (RI B') := by
  walk_at "bh open0"
  k_steps
  all_goals walk_at "bh end0"
  all_goals rfl
end

section
variable {w : World} (y : Int) (h1 : 1583 ≤ y) (h2 : y ≤ 2483) (t1 t2 t3 : Tok)
include h1 h2
theorem g_1_15 : Ct w 120 8 [.int y t1, .int 1 t2, .int 15 t3] (RI (thj (y + 3760) 1 15)) := c_gy1 _ _ _ _ _ _ _ (fun _ _ _ => c_thj1 _ _ _ _ _ (by omega) (by decide)) (early h1 h2).1
theorem g_2_18 : Ct w 120 8 [.int y t1, .int 2 t2, .int 18 t3] (RI (thj (y + 3760) 2 18)) := c_gy1 _ _ _ _ _ _ _ (fun _ _ _ => c_thj2 _ _ _ _ _ (by omega) (by decide)) (early h1 h2).2.1
theorem g_3_6 : Ct w 120 8 [.int y t1, .int 3 t2, .int 6 t3] (RI (thj (y + 3760) 3 6)) := c_gy1 _ _ _ _ _ _ _ (fun _ _ _ => c_thj3 _ _ _ _ _ (by omega) (by decide)) (early h1 h2).2.2.1
theorem g_5_9 : Ct w 120 8 [.int y t1, .int 5 t2, .int 9 t3] (RI (thj (y + 3760) 5 9)) := c_gy1 _ _ _ _ _ _ _ (fun _ _ _ => c_thj5 _ _ _ _ _ (by omega) (by decide)) (early h1 h2).2.2.2.1
theorem g_11_15 : Ct w 120 8 [.int y t1, .int 11 t2, .int 15 t3] (RI (thj (y + 3760) 11 15)) := c_gy1 _ _ _ _ _ _ _ (fun _ _ _ => c_thj11 _ _ _ _ _ (by omega) (by decide)) (early h1 h2).2.2.2.2.1
theorem g_13_14 (l : leapH (y + 3760) = true) : Ct w 120 8 [.int y t1, .int 13 t2, .int 14 t3] (RI (thj (y + 3760) 13 14)) := c_gy1 _ _ _ _ _ _ _ (fun _ _ _ => c_thj13 _ _ _ _ _ (by omega) (by decide)) ((early h1 h2).2.2.2.2.2.1 l)
theorem g_12_14 (l : ¬ leapH (y + 3760) = true) : Ct w 120 8 [.int y t1, .int 12 t2, .int 14 t3] (RI (thj (y + 3760) 12 14)) := c_gy1 _ _ _ _ _ _ _ (fun _ _ _ => c_thj12 _ _ _ _ _ (by omega) (by decide)) ((early h1 h2).2.2.2.2.2.2 l)
theorem g_9_25 : Ct w 120 8 [.int y t1, .int 9 t2, .int 25 t3] (RI (thj (y + 3760 + 1) 9 25)) := c_gy2 _ _ _ _ _ _ _ _ (fun _ _ _ => c_thj9 _ _ _ _ _ (by omega) (by decide)) (fun _ _ _ => c_thj9 _ _ _ _ _ (by omega) (by decide)) (late9 h1 h2).1 (late9 h1 h2).2
theorem g_7 (d : Int) (d1 : 1 ≤ d) (d2 : d ≤ 22) : Ct w 120 8 [.int y t1, .int 7 t2, .int d t3] (RI (base7 (y + 3760 + 1) d)) := c_gy2 _ _ _ _ _ _ _ _ (fun _ _ _ => ct_more (by decide) (c_thj7 _ _ _ _ _ (by omega) (by omega))) (fun _ _ _ => ct_more (by decide) (c_thj7 _ _ _ _ _ (by omega) (by omega))) (late7 h1 h2 d1 d2).1 (late7 h1 h2 d1 d2).2
end
local macro_rules | `(tactic| walk_at "call ref") => `(tactic| (k_here; k_dflt (refine' ct_use (g_1_15 _ ?kp ?kq _ _ _) ?k1 ?k2 ?k3 ?k4 ?k5 ?kK ?kd ?ku ?_; (case kp => omega); (case kq => omega); walk_at "bh use"; (intro t9 h9 tk9 F9 N9; (try dsimp only); (try k_fold)))))
local macro_rules | `(tactic| walk_at "call ref") => `(tactic| (k_here; k_dflt (refine' ct_use (g_2_18 _ ?kp ?kq _ _ _) ?k1 ?k2 ?k3 ?k4 ?k5 ?kK ?kd ?ku ?_; (case kp => omega); (case kq => omega); walk_at "bh use"; (intro t9 h9 tk9 F9 N9; (try dsimp only); (try k_fold)))))
local macro_rules | `(tactic| walk_at "call ref") => `(tactic| (k_here; k_dflt (refine' ct_use (g_3_6 _ ?kp ?kq _ _ _) ?k1 ?k2 ?k3 ?k4 ?k5 ?kK ?kd ?ku ?_; (case kp => omega); (case kq => omega); walk_at "bh use"; (intro t9 h9 tk9 F9 N9; (try dsimp only); (try k_fold)))))
local macro_rules | `(tactic| walk_at "call ref") => `(tactic| (k_here; k_dflt (refine' ct_use (g_5_9 _ ?kp ?kq _ _ _) ?k1 ?k2 ?k3 ?k4 ?k5 ?kK ?kd ?ku ?_; (case kp => omega); (case kq => omega); walk_at "bh use"; (intro t9 h9 tk9 F9 N9; (try dsimp only); (try k_fold)))))
local macro_rules | `(tactic| walk_at "call ref") => `(tactic| (k_here; k_dflt (refine' ct_use (g_11_15 _ ?kp ?kq _ _ _) ?k1 ?k2 ?k3 ?k4 ?k5 ?kK ?kd ?ku ?_; (case kp => omega); (case kq => omega); walk_at "bh use"; (intro t9 h9 tk9 F9 N9; (try dsimp only); (try k_fold)))))
local macro_rules | `(tactic| walk_at "call ref") => `(tactic| (k_here; k_dflt (refine' ct_use (g_9_25 _ ?kp ?kq _ _ _) ?k1 ?k2 ?k3 ?k4 ?k5 ?kK ?kd ?ku ?_; (case kp => omega); (case kq => omega); walk_at "bh use"; (intro t9 h9 tk9 F9 N9; (try dsimp only); (try k_fold)))))
local macro_rules | `(tactic| walk_at "call ref") => `(tactic| (k_here; k_dflt (refine' ct_use (g_13_14 _ ?kp ?kq _ _ _ ?kl) ?k1 ?k2 ?k3 ?k4 ?k5 ?kK ?kd ?ku ?_; (case kp => omega); (case kq => omega); (case kl => assumption); walk_at "bh use"; (intro t9 h9 tk9 F9 N9; (try dsimp only); (try k_fold)))))
local macro_rules | `(tactic| walk_at "call ref") => `(tactic| (k_here; k_dflt (refine' ct_use (g_12_14 _ ?kp ?kq _ _ _ ?kl) ?k1 ?k2 ?k3 ?k4 ?k5 ?kK ?kd ?ku ?_; (case kp => omega); (case kq => omega); (case kl => assumption); walk_at "bh use"; (intro t9 h9 tk9 F9 N9; (try dsimp only); (try k_fold)))))
local macro_rules | `(tactic| walk_at "call ref") => `(tactic| (k_here; k_dflt (refine' ct_use (g_7 _ ?kp ?kq _ _ _ _ ?kr ?ks) ?k1 ?k2 ?k3 ?k4 ?k5 ?kK ?kd ?ku ?_; (case kp => omega); (case kq => omega); (case kr => decide); (case ks => decide); walk_at "bh use"; (intro t9 h9 tk9 F9 N9; (try dsimp only); (try k_fold)))))
local macro_rules | `(tactic| walk_at "bh enterD") => `(tactic| (refine' code_def ?k1 ?k2 ?k3 ?k4 ?k5 ?kA ?kF ?kK ?k6 ?k7 ?k8 ?k9 ?kB ?_ ?c2 ?c3 ?c4 ?c5; (case kA => exact rfl); (case kF => exact rfl); (case kK => assumption); (case k1 => k_asm); (case k2 => k_asm); (case k3 => k_asm); (case k4 => k_asm); (case k5 => k_asm); (case k6 => k_is); (case k7 => k_is); (case k8 => ktr_room); (case k9 => exact binds_K (by k_in) rfl (by k_is) rfl rfl rfl); (case c5 => decide); (case kB => exact locs rfl); (case c2 => exact rfl); (case c3 => exact rfl); (case c4 => exact rfl); k_whole; intro g' L' h' FG' F' N' B' X' T'; (try dsimp only); (try k_fold)))
local macro_rules | `(tactic| walk_at "bh openD") => `(tactic| (
  unfold Ct
  k_fill
  intro p loose mean mg mb dp un gd cn cs a ccd cl outer A₀ base h₀ L m news s Q E B F X N T hk hdp hun hret
  refine wpAny_call ?_
  k_dflt walk_at "bh enterD"))
local macro_rules | `(tactic| walk_at "bh end3") => `(tactic| (refine' r3_fin (by assumption) ?F ?N (fun _ hp => hp) (by assumption) ⟨?e1, ?e2, ?e3⟩; (case F => k_asm); (case N => k_asm)))

set_option maxRecDepth 100000 in
set_option maxHeartbeats 800000 in
theorem c_shavuotN {w : World} (y : Int) (t : Tok) (h1 : 1583 ≤ y) (h2 : y ≤ 2483) : Ct w 168 9 [.int y t, .none] (R3 (fjY (FJ 0 y)) (fjM (FJ 0 y)) (fjD (FJ 0 y))) := by
  rw [show FJ 0 y = thj (y + 3760) 3 6 from rfl]
  walk_at "bh openD"
  k_steps
  all_goals walk_at "bh end3"
  all_goals rfl

set_option maxRecDepth 100000 in
set_option maxHeartbeats 800000 in
theorem c_shavuotT {w : World} (y : Int) (t : Tok) (h1 : 1583 ≤ y) (h2 : y ≤ 2483) : Ct w 168 9 [.int y t, .bool true] (R3 (fjY (FJ 0 y - 1)) (fjM (FJ 0 y - 1)) (fjD (FJ 0 y - 1))) := by
  rw [show FJ 0 y = thj (y + 3760) 3 6 from rfl]
  walk_at "bh openD"
  k_steps
  all_goals walk_at "bh end3"
  all_goals rfl

set_option maxRecDepth 100000 in
set_option maxHeartbeats 800000 in
theorem c_lagN {w : World} (y : Int) (t : Tok) (h1 : 1583 ≤ y) (h2 : y ≤ 2483) : Ct w 192 9 [.int y t, .none] (R3 (fjY (FJ 1 y)) (fjM (FJ 1 y)) (fjD (FJ 1 y))) := by
  rw [show FJ 1 y = thj (y + 3760) 2 18 from rfl]
  walk_at "bh openD"
  k_steps
  all_goals walk_at "bh end3"
  all_goals rfl

set_option maxRecDepth 100000 in
set_option maxHeartbeats 800000 in
theorem c_lagT {w : World} (y : Int) (t : Tok) (h1 : 1583 ≤ y) (h2 : y ≤ 2483) : Ct w 192 9 [.int y t, .bool true] (R3 (fjY (FJ 1 y - 1)) (fjM (FJ 1 y - 1)) (fjD (FJ 1 y - 1))) := by
  rw [show FJ 1 y = thj (y + 3760) 2 18 from rfl]
  walk_at "bh openD"
  k_steps
  all_goals walk_at "bh end3"
  all_goals rfl

set_option maxRecDepth 100000 in
set_option maxHeartbeats 800000 in
theorem c_tishaN {w : World} (y : Int) (t : Tok) (h1 : 1583 ≤ y) (h2 : y ≤ 2483) : Ct w 208 9 [.int y t, .none] (R3 (fjY (FJ 2 y)) (fjM (FJ 2 y)) (fjD (FJ 2 y))) := by
  by_cases hs : thj (y + 3760) 5 9 % 7 = 5
  · rw [show FJ 2 y = thj (y + 3760) 5 9 + 1 from if_pos hs]
    walk_at "bh openD"
    k_steps
    all_goals walk_at "bh end3"
    all_goals rfl
  · rw [show FJ 2 y = thj (y + 3760) 5 9 from if_neg hs]
    walk_at "bh openD"
    k_steps
    all_goals walk_at "bh end3"
    all_goals rfl

set_option maxRecDepth 100000 in
set_option maxHeartbeats 800000 in
theorem c_tishaT {w : World} (y : Int) (t : Tok) (h1 : 1583 ≤ y) (h2 : y ≤ 2483) : Ct w 208 9 [.int y t, .bool true] (R3 (fjY (FJ 2 y - 1)) (fjM (FJ 2 y - 1)) (fjD (FJ 2 y - 1))) := by
  by_cases hs : thj (y + 3760) 5 9 % 7 = 5
  · rw [show FJ 2 y = thj (y + 3760) 5 9 + 1 from if_pos hs]
    walk_at "bh openD"
    k_steps
    all_goals walk_at "bh end3"
    all_goals rfl
  · rw [show FJ 2 y = thj (y + 3760) 5 9 from if_neg hs]
    walk_at "bh openD"
    k_steps
    all_goals walk_at "bh end3"
    all_goals rfl

set_option maxRecDepth 100000 in
set_option maxHeartbeats 800000 in
theorem c_roshN {w : World} (y : Int) (t : Tok) (h1 : 1583 ≤ y) (h2 : y ≤ 2483) : Ct w 144 9 [.int y t, .none] (R3 (fjY (FJ 3 y)) (fjM (FJ 3 y)) (fjD (FJ 3 y))) := by
  rw [show FJ 3 y = base7 (y + 3760 + 1) 1 from rfl]
  walk_at "bh openD"
  k_steps
  all_goals walk_at "bh end3"
  all_goals rfl

set_option maxRecDepth 100000 in
set_option maxHeartbeats 800000 in
theorem c_roshT {w : World} (y : Int) (t : Tok) (h1 : 1583 ≤ y) (h2 : y ≤ 2483) : Ct w 144 9 [.int y t, .bool true] (R3 (fjY (FJ 3 y - 1)) (fjM (FJ 3 y - 1)) (fjD (FJ 3 y - 1))) := by
  rw [show FJ 3 y = base7 (y + 3760 + 1) 1 from rfl]
  walk_at "bh openD"
  k_steps
  all_goals walk_at "bh end3"
  all_goals rfl

set_option maxRecDepth 100000 in
set_option maxHeartbeats 800000 in
theorem c_yomN {w : World} (y : Int) (t : Tok) (h1 : 1583 ≤ y) (h2 : y ≤ 2483) : Ct w 152 9 [.int y t, .none] (R3 (fjY (FJ 4 y)) (fjM (FJ 4 y)) (fjD (FJ 4 y))) := by
  rw [show FJ 4 y = base7 (y + 3760 + 1) 10 from rfl]
  walk_at "bh openD"
  k_steps
  all_goals walk_at "bh end3"
  all_goals rfl

set_option maxRecDepth 100000 in
set_option maxHeartbeats 800000 in
theorem c_yomT {w : World} (y : Int) (t : Tok) (h1 : 1583 ≤ y) (h2 : y ≤ 2483) : Ct w 152 9 [.int y t, .bool true] (R3 (fjY (FJ 4 y - 1)) (fjM (FJ 4 y - 1)) (fjD (FJ 4 y - 1))) := by
  rw [show FJ 4 y = base7 (y + 3760 + 1) 10 from rfl]
  walk_at "bh openD"
  k_steps
  all_goals walk_at "bh end3"
  all_goals rfl

set_option maxRecDepth 100000 in
set_option maxHeartbeats 800000 in
theorem c_sukkotN {w : World} (y : Int) (t : Tok) (h1 : 1583 ≤ y) (h2 : y ≤ 2483) : Ct w 176 9 [.int y t, .none] (R3 (fjY (FJ 5 y)) (fjM (FJ 5 y)) (fjD (FJ 5 y))) := by
  rw [show FJ 5 y = base7 (y + 3760 + 1) 15 from rfl]
  walk_at "bh openD"
  k_steps
  all_goals walk_at "bh end3"
  all_goals rfl

set_option maxRecDepth 100000 in
set_option maxHeartbeats 800000 in
theorem c_sukkotT {w : World} (y : Int) (t : Tok) (h1 : 1583 ≤ y) (h2 : y ≤ 2483) : Ct w 176 9 [.int y t, .bool true] (R3 (fjY (FJ 5 y - 1)) (fjM (FJ 5 y - 1)) (fjD (FJ 5 y - 1))) := by
  rw [show FJ 5 y = base7 (y + 3760 + 1) 15 from rfl]
  walk_at "bh openD"
  k_steps
  all_goals walk_at "bh end3"
  all_goals rfl

set_option maxRecDepth 100000 in
set_option maxHeartbeats 800000 in
theorem c_sheminiN {w : World} (y : Int) (t : Tok) (h1 : 1583 ≤ y) (h2 : y ≤ 2483) : Ct w 184 9 [.int y t, .none] (R3 (fjY (FJ 6 y)) (fjM (FJ 6 y)) (fjD (FJ 6 y))) := by
  rw [show FJ 6 y = base7 (y + 3760 + 1) 22 from rfl]
  walk_at "bh openD"
  k_steps
  all_goals walk_at "bh end3"
  all_goals rfl

set_option maxRecDepth 100000 in
set_option maxHeartbeats 800000 in
theorem c_sheminiT {w : World} (y : Int) (t : Tok) (h1 : 1583 ≤ y) (h2 : y ≤ 2483) : Ct w 184 9 [.int y t, .bool true] (R3 (fjY (FJ 6 y - 1)) (fjM (FJ 6 y - 1)) (fjD (FJ 6 y - 1))) := by
  rw [show FJ 6 y = base7 (y + 3760 + 1) 22 from rfl]
  walk_at "bh openD"
  k_steps
  all_goals walk_at "bh end3"
  all_goals rfl

set_option maxRecDepth 100000 in
set_option maxHeartbeats 800000 in
theorem c_purimN {w : World} (y : Int) (t : Tok) (h1 : 1583 ≤ y) (h2 : y ≤ 2483) : Ct w 136 9 [.int y t, .none] (R3 (fjY (FJ 7 y)) (fjM (FJ 7 y)) (fjD (FJ 7 y))) := by
  by_cases hl : leapH (y + 3760) = true
  · rw [show FJ 7 y = thj (y + 3760) 13 14 from if_pos hl]
    walk_at "bh openD"
    k_steps
    all_goals walk_at "bh end3"
    all_goals rfl
  · rw [show FJ 7 y = thj (y + 3760) 12 14 from if_neg hl]
    walk_at "bh openD"
    k_steps
    all_goals walk_at "bh end3"
    all_goals rfl

set_option maxRecDepth 100000 in
set_option maxHeartbeats 800000 in
theorem c_purimT {w : World} (y : Int) (t : Tok) (h1 : 1583 ≤ y) (h2 : y ≤ 2483) : Ct w 136 9 [.int y t, .bool true] (R3 (fjY (FJ 7 y - 1)) (fjM (FJ 7 y - 1)) (fjD (FJ 7 y - 1))) := by
  by_cases hl : leapH (y + 3760) = true
  · rw [show FJ 7 y = thj (y + 3760) 13 14 from if_pos hl]
    walk_at "bh openD"
    k_steps
    all_goals walk_at "bh end3"
    all_goals rfl
  · rw [show FJ 7 y = thj (y + 3760) 12 14 from if_neg hl]
    walk_at "bh openD"
    k_steps
    all_goals walk_at "bh end3"
    all_goals rfl

set_option maxRecDepth 100000 in
set_option maxHeartbeats 800000 in
theorem c_tuN {w : World} (y : Int) (t : Tok) (h1 : 1583 ≤ y) (h2 : y ≤ 2483) : Ct w 200 9 [.int y t, .none] (R3 (fjY (FJ 8 y)) (fjM (FJ 8 y)) (fjD (FJ 8 y))) := by
  rw [show FJ 8 y = thj (y + 3760) 11 15 from rfl]
  walk_at "bh openD"
  k_steps
  all_goals walk_at "bh end3"
  all_goals rfl

set_option maxRecDepth 100000 in
set_option maxHeartbeats 800000 in
theorem c_tuT {w : World} (y : Int) (t : Tok) (h1 : 1583 ≤ y) (h2 : y ≤ 2483) : Ct w 200 9 [.int y t, .bool true] (R3 (fjY (FJ 8 y - 1)) (fjM (FJ 8 y - 1)) (fjD (FJ 8 y - 1))) := by
  rw [show FJ 8 y = thj (y + 3760) 11 15 from rfl]
  walk_at "bh openD"
  k_steps
  all_goals walk_at "bh end3"
  all_goals rfl

set_option maxRecDepth 100000 in
set_option maxHeartbeats 800000 in
theorem c_hanukkahN {w : World} (y : Int) (t : Tok) (h1 : 1583 ≤ y) (h2 : y ≤ 2483) : Ct w 128 9 [.int y t, .none] (R3 (fjY (FJ 9 y)) (fjM (FJ 9 y)) (fjD (FJ 9 y))) := by
  rw [show FJ 9 y = thj (y + 3760 + 1) 9 25 from rfl]
  walk_at "bh openD"
  k_steps
  all_goals walk_at "bh end3"
  all_goals rfl

set_option maxRecDepth 100000 in
set_option maxHeartbeats 800000 in
theorem c_hanukkahT {w : World} (y : Int) (t : Tok) (h1 : 1583 ≤ y) (h2 : y ≤ 2483) : Ct w 128 9 [.int y t, .bool true] (R3 (fjY (FJ 9 y - 1)) (fjM (FJ 9 y - 1)) (fjD (FJ 9 y - 1))) := by
  rw [show FJ 9 y = thj (y + 3760 + 1) 9 25 from rfl]
  walk_at "bh openD"
  k_steps
  all_goals walk_at "bh end3"
  all_goals rfl

set_option maxRecDepth 100000 in
set_option maxHeartbeats 800000 in
theorem c_passoverN {w : World} (y : Int) (t : Tok) (h1 : 1583 ≤ y) (h2 : y ≤ 2483) : Ct w 160 9 [.int y t, .none] (R3 (fjY (FJ 10 y)) (fjM (FJ 10 y)) (fjD (FJ 10 y))) := by
  rw [show FJ 10 y = thj (y + 3760) 1 15 from rfl]
  walk_at "bh openD"
  k_steps
  all_goals walk_at "bh end3"
  all_goals rfl

set_option maxRecDepth 100000 in
set_option maxHeartbeats 800000 in
theorem c_passoverT {w : World} (y : Int) (t : Tok) (h1 : 1583 ≤ y) (h2 : y ≤ 2483) : Ct w 160 9 [.int y t, .bool true] (R3 (fjY (FJ 10 y - 1)) (fjM (FJ 10 y - 1)) (fjD (FJ 10 y - 1))) := by
  rw [show FJ 10 y = thj (y + 3760) 1 15 from rfl]
  walk_at "bh openD"
  k_steps
  all_goals walk_at "bh end3"
  all_goals rfl

set_option maxRecDepth 100000 in
set_option maxHeartbeats 800000 in
theorem c_rosh1 {w : World} (y : Int) (t : Tok) (h1 : 1583 ≤ y) (h2 : y ≤ 2483) : Ct w 144 9 [.int y t] (R3 (fjY (FJ 3 y)) (fjM (FJ 3 y)) (fjD (FJ 3 y))) := by
  rw [show FJ 3 y = base7 (y + 3760 + 1) 1 from rfl]
  walk_at "bh openD"
  k_steps
  all_goals walk_at "bh end3"
  all_goals rfl

set_option maxRecDepth 100000 in
set_option maxHeartbeats 800000 in
theorem c_passover1 {w : World} (y : Int) (t : Tok) (h1 : 1583 ≤ y) (h2 : y ≤ 2483) : Ct w 160 9 [.int y t] (R3 (fjY (FJ 10 y)) (fjM (FJ 10 y)) (fjD (FJ 10 y))) := by
  rw [show FJ 10 y = thj (y + 3760) 1 15 from rfl]
  walk_at "bh openD"
  k_steps
  all_goals walk_at "bh end3"
  all_goals rfl

local macro_rules | `(tactic| walk_at "call ref") => `(tactic| (k_here; k_dflt (refine' ct_use (c_shavuotN _ _ ?kp ?kq) ?k1 ?k2 ?k3 ?k4 ?k5 ?kK ?kd ?ku ?_; (case kp => omega); (case kq => omega); walk_at "bh use"; (intro D9 t9 u9 v9 c9 h9 tk9 F9 N9 l9; (try k_lt l9); (try dsimp only); (try k_fold)))))
local macro_rules | `(tactic| walk_at "call ref") => `(tactic| (k_here; k_dflt (refine' ct_use (c_shavuotT _ _ ?kp ?kq) ?k1 ?k2 ?k3 ?k4 ?k5 ?kK ?kd ?ku ?_; (case kp => omega); (case kq => omega); walk_at "bh use"; (intro D9 t9 u9 v9 c9 h9 tk9 F9 N9 l9; (try k_lt l9); (try dsimp only); (try k_fold)))))
local macro_rules | `(tactic| walk_at "call ref") => `(tactic| (k_here; k_dflt (refine' ct_use (c_lagN _ _ ?kp ?kq) ?k1 ?k2 ?k3 ?k4 ?k5 ?kK ?kd ?ku ?_; (case kp => omega); (case kq => omega); walk_at "bh use"; (intro D9 t9 u9 v9 c9 h9 tk9 F9 N9 l9; (try k_lt l9); (try dsimp only); (try k_fold)))))
local macro_rules | `(tactic| walk_at "call ref") => `(tactic| (k_here; k_dflt (refine' ct_use (c_lagT _ _ ?kp ?kq) ?k1 ?k2 ?k3 ?k4 ?k5 ?kK ?kd ?ku ?_; (case kp => omega); (case kq => omega); walk_at "bh use"; (intro D9 t9 u9 v9 c9 h9 tk9 F9 N9 l9; (try k_lt l9); (try dsimp only); (try k_fold)))))
local macro_rules | `(tactic| walk_at "call ref") => `(tactic| (k_here; k_dflt (refine' ct_use (c_tishaN _ _ ?kp ?kq) ?k1 ?k2 ?k3 ?k4 ?k5 ?kK ?kd ?ku ?_; (case kp => omega); (case kq => omega); walk_at "bh use"; (intro D9 t9 u9 v9 c9 h9 tk9 F9 N9 l9; (try k_lt l9); (try dsimp only); (try k_fold)))))
local macro_rules | `(tactic| walk_at "call ref") => `(tactic| (k_here; k_dflt (refine' ct_use (c_tishaT _ _ ?kp ?kq) ?k1 ?k2 ?k3 ?k4 ?k5 ?kK ?kd ?ku ?_; (case kp => omega); (case kq => omega); walk_at "bh use"; (intro D9 t9 u9 v9 c9 h9 tk9 F9 N9 l9; (try k_lt l9); (try dsimp only); (try k_fold)))))
local macro_rules | `(tactic| walk_at "call ref") => `(tactic| (k_here; k_dflt (refine' ct_use (c_roshN _ _ ?kp ?kq) ?k1 ?k2 ?k3 ?k4 ?k5 ?kK ?kd ?ku ?_; (case kp => omega); (case kq => omega); walk_at "bh use"; (intro D9 t9 u9 v9 c9 h9 tk9 F9 N9 l9; (try k_lt l9); (try dsimp only); (try k_fold)))))
local macro_rules | `(tactic| walk_at "call ref") => `(tactic| (k_here; k_dflt (refine' ct_use (c_roshT _ _ ?kp ?kq) ?k1 ?k2 ?k3 ?k4 ?k5 ?kK ?kd ?ku ?_; (case kp => omega); (case kq => omega); walk_at "bh use"; (intro D9 t9 u9 v9 c9 h9 tk9 F9 N9 l9; (try k_lt l9); (try dsimp only); (try k_fold)))))
local macro_rules | `(tactic| walk_at "call ref") => `(tactic| (k_here; k_dflt (refine' ct_use (c_yomN _ _ ?kp ?kq) ?k1 ?k2 ?k3 ?k4 ?k5 ?kK ?kd ?ku ?_; (case kp => omega); (case kq => omega); walk_at "bh use"; (intro D9 t9 u9 v9 c9 h9 tk9 F9 N9 l9; (try k_lt l9); (try dsimp only); (try k_fold)))))
local macro_rules | `(tactic| walk_at "call ref") => `(tactic| (k_here; k_dflt (refine' ct_use (c_yomT _ _ ?kp ?kq) ?k1 ?k2 ?k3 ?k4 ?k5 ?kK ?kd ?ku ?_; (case kp => omega); (case kq => omega); walk_at "bh use"; (intro D9 t9 u9 v9 c9 h9 tk9 F9 N9 l9; (try k_lt l9); (try dsimp only); (try k_fold)))))
local macro_rules | `(tactic| walk_at "call ref") => `(tactic| (k_here; k_dflt (refine' ct_use (c_sukkotN _ _ ?kp ?kq) ?k1 ?k2 ?k3 ?k4 ?k5 ?kK ?kd ?ku ?_; (case kp => omega); (case kq => omega); walk_at "bh use"; (intro D9 t9 u9 v9 c9 h9 tk9 F9 N9 l9; (try k_lt l9); (try dsimp only); (try k_fold)))))
local macro_rules | `(tactic| walk_at "call ref") => `(tactic| (k_here; k_dflt (refine' ct_use (c_sukkotT _ _ ?kp ?kq) ?k1 ?k2 ?k3 ?k4 ?k5 ?kK ?kd ?ku ?_; (case kp => omega); (case kq => omega); walk_at "bh use"; (intro D9 t9 u9 v9 c9 h9 tk9 F9 N9 l9; (try k_lt l9); (try dsimp only); (try k_fold)))))
local macro_rules | `(tactic| walk_at "call ref") => `(tactic| (k_here; k_dflt (refine' ct_use (c_sheminiN _ _ ?kp ?kq) ?k1 ?k2 ?k3 ?k4 ?k5 ?kK ?kd ?ku ?_; (case kp => omega); (case kq => omega); walk_at "bh use"; (intro D9 t9 u9 v9 c9 h9 tk9 F9 N9 l9; (try k_lt l9); (try dsimp only); (try k_fold)))))
local macro_rules | `(tactic| walk_at "call ref") => `(tactic| (k_here; k_dflt (refine' ct_use (c_sheminiT _ _ ?kp ?kq) ?k1 ?k2 ?k3 ?k4 ?k5 ?kK ?kd ?ku ?_; (case kp => omega); (case kq => omega); walk_at "bh use"; (intro D9 t9 u9 v9 c9 h9 tk9 F9 N9 l9; (try k_lt l9); (try dsimp only); (try k_fold)))))
local macro_rules | `(tactic| walk_at "call ref") => `(tactic| (k_here; k_dflt (refine' ct_use (c_purimN _ _ ?kp ?kq) ?k1 ?k2 ?k3 ?k4 ?k5 ?kK ?kd ?ku ?_; (case kp => omega); (case kq => omega); walk_at "bh use"; (intro D9 t9 u9 v9 c9 h9 tk9 F9 N9 l9; (try k_lt l9); (try dsimp only); (try k_fold)))))
local macro_rules | `(tactic| walk_at "call ref") => `(tactic| (k_here; k_dflt (refine' ct_use (c_purimT _ _ ?kp ?kq) ?k1 ?k2 ?k3 ?k4 ?k5 ?kK ?kd ?ku ?_; (case kp => omega); (case kq => omega); walk_at "bh use"; (intro D9 t9 u9 v9 c9 h9 tk9 F9 N9 l9; (try k_lt l9); (try dsimp only); (try k_fold)))))
local macro_rules | `(tactic| walk_at "call ref") => `(tactic| (k_here; k_dflt (refine' ct_use (c_tuN _ _ ?kp ?kq) ?k1 ?k2 ?k3 ?k4 ?k5 ?kK ?kd ?ku ?_; (case kp => omega); (case kq => omega); walk_at "bh use"; (intro D9 t9 u9 v9 c9 h9 tk9 F9 N9 l9; (try k_lt l9); (try dsimp only); (try k_fold)))))
local macro_rules | `(tactic| walk_at "call ref") => `(tactic| (k_here; k_dflt (refine' ct_use (c_tuT _ _ ?kp ?kq) ?k1 ?k2 ?k3 ?k4 ?k5 ?kK ?kd ?ku ?_; (case kp => omega); (case kq => omega); walk_at "bh use"; (intro D9 t9 u9 v9 c9 h9 tk9 F9 N9 l9; (try k_lt l9); (try dsimp only); (try k_fold)))))
local macro_rules | `(tactic| walk_at "call ref") => `(tactic| (k_here; k_dflt (refine' ct_use (c_hanukkahN _ _ ?kp ?kq) ?k1 ?k2 ?k3 ?k4 ?k5 ?kK ?kd ?ku ?_; (case kp => omega); (case kq => omega); walk_at "bh use"; (intro D9 t9 u9 v9 c9 h9 tk9 F9 N9 l9; (try k_lt l9); (try dsimp only); (try k_fold)))))
local macro_rules | `(tactic| walk_at "call ref") => `(tactic| (k_here; k_dflt (refine' ct_use (c_hanukkahT _ _ ?kp ?kq) ?k1 ?k2 ?k3 ?k4 ?k5 ?kK ?kd ?ku ?_; (case kp => omega); (case kq => omega); walk_at "bh use"; (intro D9 t9 u9 v9 c9 h9 tk9 F9 N9 l9; (try k_lt l9); (try dsimp only); (try k_fold)))))
local macro_rules | `(tactic| walk_at "call ref") => `(tactic| (k_here; k_dflt (refine' ct_use (c_passoverN _ _ ?kp ?kq) ?k1 ?k2 ?k3 ?k4 ?k5 ?kK ?kd ?ku ?_; (case kp => omega); (case kq => omega); walk_at "bh use"; (intro D9 t9 u9 v9 c9 h9 tk9 F9 N9 l9; (try k_lt l9); (try dsimp only); (try k_fold)))))
local macro_rules | `(tactic| walk_at "call ref") => `(tactic| (k_here; k_dflt (refine' ct_use (c_passoverT _ _ ?kp ?kq) ?k1 ?k2 ?k3 ?k4 ?k5 ?kK ?kd ?ku ?_; (case kp => omega); (case kq => omega); walk_at "bh use"; (intro D9 t9 u9 v9 c9 h9 tk9 F9 N9 l9; (try k_lt l9); (try dsimp only); (try k_fold)))))
local macro_rules | `(tactic| walk_at "call ref") => `(tactic| (k_here; k_dflt (refine' ct_use (c_rosh1 _ _ ?kp ?kq) ?k1 ?k2 ?k3 ?k4 ?k5 ?kK ?kd ?ku ?_; (case kp => omega); (case kq => omega); walk_at "bh use"; (intro D9 t9 u9 v9 c9 h9 tk9 F9 N9 l9; (try k_lt l9); (try dsimp only); (try k_fold)))))
local macro_rules | `(tactic| walk_at "call ref") => `(tactic| (k_here; k_dflt (refine' ct_use (c_passover1 _ _ ?kp ?kq) ?k1 ?k2 ?k3 ?k4 ?k5 ?kK ?kd ?ku ?_; (case kp => omega); (case kq => omega); walk_at "bh use"; (intro D9 t9 u9 v9 c9 h9 tk9 F9 N9 l9; (try k_lt l9); (try dsimp only); (try k_fold)))))
theorem fj_same {a b : Int} (e : a = b) : fjY a = fjY b ∧ fjM a = fjM b ∧ fjD a = fjD b := by subst e; exact ⟨rfl, rfl, rfl⟩
theorem FJ_else {k y : Int} (h0 : k ≠ 0) (h1 : k ≠ 1) (h2 : k ≠ 2) (h3 : k ≠ 3) (h4 : k ≠ 4) (h5 : k ≠ 5) (h6 : k ≠ 6) (h7 : k ≠ 7) (h8 : k ≠ 8) (h9 : k ≠ 9) : FJ 10 y = FJ k y := by
  unfold FJ
  rw [if_neg h0, if_neg h1, if_neg h2, if_neg h3, if_neg h4, if_neg h5, if_neg h6, if_neg h7, if_neg h8, if_neg h9]
  rfl
theorem FJ_at {k i y : Int} (h : k = i) : FJ i y = FJ k y := by subst h; rfl
theorem FJ_at' {k i y : Int} (h : k = i) : FJ i y - 1 = FJ k y - 1 := by subst h; rfl
local macro_rules | `(tactic| walk_at "bh ends") => `(tactic| (refine' r3_fin (by assumption) ?F ?N (fun _ hp => hp) (by assumption) (fj_same ?e); (case F => k_asm); (case N => k_asm)))
section
local macro_rules | `(tactic| walk_at "ite") => `(tactic| (k_here; with_reducible refine split_dec ?_ ?_ <;> intro _))
set_option maxRecDepth 100000 in
set_option maxHeartbeats 1600000 in
theorem c_lfN {w : World} (k y : Int) (tk ty : Tok) (h1 : 1583 ≤ y) (h2 : y ≤ 2483) : Ct w 215 10 [.int k tk, .int y ty, .none] (R3 (fjY (FJ k y)) (fjM (FJ k y)) (fjD (FJ k y))) := by
  walk_at "bh open"
  k_steps
  all_goals walk_at "bh ends"
  all_goals first | exact FJ_at (by assumption) | exact FJ_else (by assumption) (by assumption) (by assumption) (by assumption) (by assumption) (by assumption) (by assumption) (by assumption) (by assumption) (by assumption)
set_option maxRecDepth 100000 in
set_option maxHeartbeats 1600000 in
theorem c_lfT {w : World} (k y : Int) (tk ty : Tok) (h1 : 1583 ≤ y) (h2 : y ≤ 2483) : Ct w 215 10 [.int k tk, .int y ty, .bool true] (R3 (fjY (FJ k y - 1)) (fjM (FJ k y - 1)) (fjD (FJ k y - 1))) := by
  walk_at "bh open"
  k_steps
  all_goals walk_at "bh ends"
  all_goals first | exact FJ_at' (by assumption) | exact congrArg (· - 1) (FJ_else (by assumption) (by assumption) (by assumption) (by assumption) (by assumption) (by assumption) (by assumption) (by assumption) (by assumption) (by assumption))
end

def JI (P : Int → Prop) (h₀ : Heap) (L : Addr) (m : Str → Option Value) (news : Led) (s : Shared) (v : Value) (s' : Shared) : Prop :=
  ∃ (x : Int) (t : Tok) (h' : Heap) (tk' : Nat), P x ∧ v = .int x t ∧ s' = { s with heap := h', toks := tk' } ∧ Fr h₀ L h' m ∧ News h₀ L h' news
/-- Two ways to an int meet: of the int P alone is kept. -/
theorem join_int {c : Prop} [Decidable c] (P : Int → Prop) {M : Model} {A : Around} {T₁ T₂ : Sem Value} {Q E : Value → Shared → Prop} {s : Shared} {h₀ : Heap} {L : Addr} {m : Str → Option Value} {news : Led}
    (_F : Fr h₀ L s.heap m) (_N : News h₀ L s.heap news)
    (hk : ∀ (x : Int) (t : Tok) (h' : Heap) (tk' : Nat), P x → Fr h₀ L h' m → News h₀ L h' news → Q (.int x t) { s with heap := h', toks := tk' })
    (ht : c → wpAny M A T₁ (JI P h₀ L m news s) E s) (he : ¬ c → wpAny M A T₂ (JI P h₀ L m news s) E s) : if c then wpAny M A T₁ Q E s else wpAny M A T₂ Q E s := by
  have fin : ∀ v s', JI P h₀ L m news s v s' → Q v s' := by
    rintro v s' ⟨x, t, h', tk', hx, rfl, rfl, F, N⟩
    exact hk x t h' tk' hx F N
  by_cases k : c
  · rw [if_pos k]; exact wpAny_mono (ht k) fin fun _ _ y => y
  · rw [if_neg k]; exact wpAny_mono (he k) fin fun _ _ y => y
theorem ne_y {a b : Int} (h : a = b) : ¬ ((a != b) = true) := by
  rw [h]
  simp
theorem ne_s {a b : Int} (h : a = b) : ¬ ((a != b) = true) := by
  rw [h]
  simp
theorem eq_int_true {prog : Program} {w : World} {A : Around} {E Q : Value → Shared → Prop} {s : Shared} {a b : Int} {t u : Tok} (e : a = b) (h : Q (.bool true) s) : wpAny (model prog w) A (compareOp .Eq (.int a t) (.int b u)) Q E s := by
  refine PyProof.Rows.eq_int ?_
  rw [show (a == b) = true from by rw [e]; exact beq_self_eq_true b]
  exact h

section
local macro_rules | `(tactic| walk_at "bh use") => `(tactic| (
  (case k1 => k_asm); (case k2 => k_asm); (case k3 => k_asm); (case k4 => k_asm); (case k5 => k_asm)
  (case kK => exact rfl)
  (case kd => ktr_room)
  (case ku => first | (have hcL9 := cLine_is; (try simp only [units_in1, units_deeper, Around.mark_units, units_caller]); (try dsimp only [ktrTop]); omega) | ktr_units)))
set_option hygiene false in
local macro_rules | `(tactic| walk_at "call ref") => `(tactic| (k_here; k_dflt (refine' ct_use (c_jwday _ _) ?k1 ?k2 ?k3 ?k4 ?k5 ?kK ?kd ?ku ?_; walk_at "bh use"; (intro t9 h9 tk9 F9 N9; (try dsimp only); (try k_fold)))))
set_option hygiene false in
local macro_rules | `(tactic| walk_at "call ref") => `(tactic| (k_here; k_dflt (refine' ct_use (cL _ _ _) ?k1 ?k2 ?k3 ?k4 ?k5 ?kK ?kd ?ku ?_; walk_at "bh use"; (intro h9 tk9 F9 N9; (try dsimp only); (try k_fold)))))
set_option hygiene false in
local macro_rules | `(tactic| walk_at "call ref") => `(tactic| (k_here; k_dflt (refine' ct_use (cR _ _ _ ?kp ?kq) ?k1 ?k2 ?k3 ?k4 ?k5 ?kK ?kd ?ku ?_; (case kp => first | assumption | decide | omega); (case kq => first | assumption | decide | omega); walk_at "bh use"; (intro D9 t9 u9 v9 c9 h9 tk9 F9 N9 l9; clear l9; (try dsimp only); (try k_fold)))))
set_option hygiene false in
local macro_rules | `(tactic| walk_at "call ref") => `(tactic| (k_here; k_dflt (refine' ct_use (cP _ _ _ ?kp ?kq) ?k1 ?k2 ?k3 ?k4 ?k5 ?kK ?kd ?ku ?_; (case kp => first | assumption | decide | omega); (case kq => first | assumption | decide | omega); walk_at "bh use"; (intro D9 t9 u9 v9 c9 h9 tk9 F9 N9 l9; clear l9; (try dsimp only); (try k_fold)))))
set_option hygiene false in
local macro_rules | `(tactic| walk_at "call ref") => `(tactic| (k_here; k_dflt (refine' ct_use (cT _ _ _ _ _ ?kp ?kq) ?k1 ?k2 ?k3 ?k4 ?k5 ?kK ?kd ?ku ?_; (case kp => first | assumption | decide | omega); (case kq => first | assumption | decide | omega); walk_at "bh use"; (intro D9 t9 u9 v9 c9 h9 tk9 F9 N9 l9; clear l9; (try dsimp only); (try k_fold)))))
set_option hygiene false in
local macro_rules | `(tactic| walk_at "call ref") => `(tactic| (k_here; k_dflt (refine' ct_use (cN _ _ _ _ _ ?kp ?kq) ?k1 ?k2 ?k3 ?k4 ?k5 ?kK ?kd ?ku ?_; (case kp => first | assumption | decide | omega); (case kq => first | assumption | decide | omega); walk_at "bh use"; (intro D9 t9 u9 v9 c9 h9 tk9 F9 N9 l9; clear l9; (try dsimp only); (try k_fold)))))
set_option hygiene false in
local macro_rules | `(tactic| walk_at "call ref") => `(tactic| (k_here; k_dflt (refine' ct_use (cG _ _ _ _ _) ?k1 ?k2 ?k3 ?k4 ?k5 ?kK ?kd ?ku ?_; walk_at "bh use"; (intro t9 h9 tk9 F9 N9; (try dsimp only); (try k_fold)))))
local macro_rules | `(tactic| walk_at "bh joined") => `(tactic| (intro hc9; (try simp only [decide_eq_true_eq, beq_iff_eq, bne_iff_ne, gt_iff_lt] at hc9); (try simp (disch := decide) only [Int.fmod_eq_emod_of_nonneg] at hc9); (try k_fold)))
set_option hygiene false in
local macro_rules | `(tactic| walk_at "ite") => `(tactic| (k_here; (with_reducible show ite _ (wpAny _ _ (eval (Expr.BinOp _ _ (Expr.Constant (Const.int 900) _ _) _) _) _ _ _) _); (refine' join_int (fun x => 0 ≤ x ∧ x < 900) ?F ?N ?_ ?_ ?_); (case F => k_asm); (case N => k_asm); all_goals first | (intro yx9 t9 h9 tk9 hx9 F9 N9; (try dsimp only at hx9); (have hy1 : 1583 ≤ 1583 + yx9 := by omega); (have hy2 : 1583 + yx9 ≤ 2483 := by omega); (have hy3 : 1583 ≤ 1583 + yx9 + 1 := by omega); (have hy4 : 1583 + yx9 + 1 ≤ 2483 := by omega); (have hy5 : 1583 + yx9 ≤ 2482 := by omega); (try dsimp only); (try k_fold)) | walk_at "bh joined"))
set_option hygiene false in
local macro_rules | `(tactic| walk_at "ite") => `(tactic| (k_here; (with_reducible show ite _ (wpAny _ _ (eval (Expr.BinOp _ _ (Expr.Constant (Const.int 11) _ _) _) _) _ _ _) _); (refine' join_int (fun x => 0 ≤ x ∧ x ≤ 10) ?F ?N ?_ ?_ ?_); (case F => k_asm); (case N => k_asm); all_goals first | (intro ax9 t9 h9 tk9 hx9 F9 N9; (try dsimp only at hx9);  (try dsimp only); (try k_fold)) | walk_at "bh joined"))
set_option hygiene false in
local macro_rules | `(tactic| walk_at "ite") => `(tactic| (k_here; (with_reducible show ite _ (wpAny _ _ (eval (Expr.Constant (Const.int 113) _ _) _) _ _ _) _); (refine' join_int (fun x => x = C2 (1583 + yx9)) ?F ?N ?_ ?_ ?_); (case F => k_asm); (case N => k_asm); all_goals first | (intro x2 t9 h9 tk9 hx9 F9 N9; (try dsimp only at hx9); subst hx9; (try dsimp only); (try k_fold)) | walk_at "bh joined"))
set_option hygiene false in
local macro_rules | `(tactic| walk_at "ite") => `(tactic| (k_here; (with_reducible show ite _ (wpAny _ _ (eval (Expr.UnaryOp _ (Expr.Constant (Const.int 89) _ _) _) _) _ _ _) _); (refine' join_int (fun x => x = C8 (1583 + yx9)) ?F ?N ?_ ?_ ?_); (case F => k_asm); (case N => k_asm); all_goals first | (intro x8 t9 h9 tk9 hx9 F9 N9; (try dsimp only at hx9); subst hx9; (try dsimp only); (try k_fold)) | walk_at "bh joined"))
set_option hygiene false in
local macro_rules | `(tactic| walk_at "ite") => `(tactic| (k_here; (with_reducible show ite _ (wpAny _ _ (eval (Expr.Constant (Const.int 247) _ _) _) _ _ _) _); (refine' join_int (fun x => x = C9 (1583 + yx9)) ?F ?N ?_ ?_ ?_); (case F => k_asm); (case N => k_asm); all_goals first | (intro x3 t9 h9 tk9 hx9 F9 N9; (try dsimp only at hx9); subst hx9; (try dsimp only); (try k_fold)) | walk_at "bh joined"))
set_option hygiene false in
local macro_rules | `(tactic| walk_at "ite") => `(tactic| (k_here; first
  | k_dflt (refine ite_neg (ne_y (hY _ (1583 + yx9) (by decide) (by decide) hy1 hy5)) ?_; walk_say "BH Y")
  | k_dflt (refine ite_neg (ne_s (hS _ (1583 + yx9) (by decide) (by decide) hy1 hy5)) ?_; walk_say "BH F")
  | (refine ite_neg (fun hh => absurd (hh.symm.trans (hW (1583 + yx9) hy1 hy5)) (by decide)) ?_; walk_say "BH W")
  | (refine ite_neg (fun hh => absurd (hh.symm.trans (hL (1583 + yx9) hy1 hy5)) (by decide)) ?_; walk_say "BH L")))
set_option hygiene false in
local macro_rules | `(tactic| walk_at "compareOp Eq int int") => `(tactic| (k_here; k_dflt (refine eq_int_true (congrArg (fun z : Int => z - 1) (hS ax9 (1583 + yx9) hx9.1 hx9.2 hy1 hy5)) ?_; walk_say "BH LAST")))
set_option hygiene false in
local macro_rules | `(tactic| walk_at "JI") => `(tactic| (refine ⟨_, _, _, _, ?_, rfl, rfl, by k_asm, by k_asm⟩; first
  | (rw [hC2]; first | exact (if_pos (by assumption)).symm | exact (if_neg (by assumption)).symm)
  | (rw [hC8]; first | exact (if_pos (by assumption)).symm | exact (if_neg (by assumption)).symm)
  | (rw [hC9]; first | exact (if_pos (by assumption)).symm | exact (if_neg (by assumption)).symm)
  | ((try dsimp only); (try walk_at "bh fmg"); omega)))

set_option maxRecDepth 100000 in
set_option maxHeartbeats 8000000 in
theorem law_walk (G : Int → Int → Int) (Y M D C2 C8 C9 : Int → Int) (lp : Int → Bool)
    (cN : ∀ (w : World) (k y : Int) (tk ty : Tok), 1583 ≤ y → y ≤ 2483 → Ct w 215 10 [.int k tk, .int y ty, .none] (R3 (Y (G k y)) (M (G k y)) (D (G k y))))
    (cT : ∀ (w : World) (k y : Int) (tk ty : Tok), 1583 ≤ y → y ≤ 2483 → Ct w 215 10 [.int k tk, .int y ty, .bool true] (R3 (Y (G k y - 1)) (M (G k y - 1)) (D (G k y - 1))))
    (cP : ∀ (w : World) (y : Int) (ty : Tok), 1583 ≤ y → y ≤ 2483 → Ct w 160 9 [.int y ty] (R3 (Y (G 10 y)) (M (G 10 y)) (D (G 10 y))))
    (cR : ∀ (w : World) (y : Int) (ty : Tok), 1583 ≤ y → y ≤ 2483 → Ct w 144 9 [.int y ty] (R3 (Y (G 3 y)) (M (G 3 y)) (D (G 3 y))))
    (cG : ∀ (w : World) (j : Int) (ty tm td : Tok), Ct w 50 3 [.int (Y j) ty, .int (M j) tm, .int (D j) td] (RI j))
    (cL : ∀ (w : World) (y : Int) (t : Tok), Ct w 64 1 [.int y t] (RB (lp y)))
    (hS : ∀ k y, 0 ≤ k → k ≤ 10 → 1583 ≤ y → y ≤ 2482 → G k y = G 10 y + [50, 33, C2 y, 163, 172, 177, 184, -30, C8 y, C9 y, 0].getD k.toNat 0)
    (hY : ∀ k y, 0 ≤ k → k ≤ 9 → 1583 ≤ y → y ≤ 2482 → Y (G k y) = y)
    (hC2 : ∀ y, C2 y = if G 10 y % 7 = 5 then 113 else 112) (hC8 : ∀ y, C8 y = if lp (y + 3760) = true then -89 else -59) (hC9 : ∀ y, C9 y = if (G 3 (y + 1) - G 3 y) % 10 = 5 then 247 else 246)
    (hW : ∀ y, 1583 ≤ y → y ≤ 2482 → ([0, 2, 4].any fun x => x == G 10 y % 7) = false)
    (hL : ∀ y, 1583 ≤ y → y ≤ 2482 → (!([353, 354, 355, 383, 384, 385].any fun x => x == G 10 (y + 1) - G 10 y)) = false)
    (p1 : Y (G 10 2024) = 2024) (p2 : M (G 10 2024) = 4) (p3 : D (G 10 2024) = 23)
    : PySem.Challenge.rw_bh0013_01.Holds := hd (by
  k_go0
  all_goals try k_fold
  k_steps)
end

theorem hW_all (y : Int) (h1 : 1583 ≤ y) (h2 : y ≤ 2482) : ([0, 2, 4].any fun x => x == FJ 10 y % 7) = false := by
  have h := (law_facts h1 h2).1
  simp only [List.any_cons, List.any_nil, Bool.or_false, Bool.or_eq_false_iff, beq_eq_false_iff_ne, ne_eq]
  omega
theorem hL_all (y : Int) (h1 : 1583 ≤ y) (h2 : y ≤ 2482) : (!([353, 354, 355, 383, 384, 385].any fun x => x == FJ 10 (y + 1) - FJ 10 y)) = false := by
  have h := (law_facts h1 h2).2.1
  simp only [List.any_cons, List.any_nil, Bool.or_false, Bool.not_eq_false', Bool.or_eq_true, beq_iff_eq]
  omega
theorem hS_all (k y : Int) (k1 : 0 ≤ k) (k2 : k ≤ 10) (h1 : 1583 ≤ y) (h2 : y ≤ 2482) :
    FJ k y = FJ 10 y + [50, 33, if FJ 10 y % 7 = 5 then 113 else 112, 163, 172, 177, 184, -30, if leapH (y + 3760) = true then -89 else -59, if (FJ 3 (y + 1) - FJ 3 y) % 10 = 5 then 247 else 246, 0].getD k.toNat 0 := by
  obtain ⟨_, _, f0, f1, f2, f3, f4, f5, f6, f7, f8, f9⟩ := law_facts h1 h2
  have hk : k = 0 ∨ k = 1 ∨ k = 2 ∨ k = 3 ∨ k = 4 ∨ k = 5 ∨ k = 6 ∨ k = 7 ∨ k = 8 ∨ k = 9 ∨ k = 10 := by clear f0 f1 f2 f3 f4 f5 f6 f7 f8 f9; omega
  rcases hk with rfl | rfl | rfl | rfl | rfl | rfl | rfl | rfl | rfl | rfl | rfl
  · exact f0
  · exact f1
  · exact f2
  · exact f3
  · exact f4
  · exact f5
  · exact f6
  · exact f7
  · exact f8
  · exact f9
  · exact (Int.add_zero _).symm
theorem hY_all (k y : Int) (k1 : 0 ≤ k) (k2 : k ≤ 9) (h1 : 1583 ≤ y) (h2 : y ≤ 2482) : fjY (FJ k y) = y := by
  obtain ⟨g0, g1, g2, g3, g4, g5, g6, g7, g8, g9⟩ := law_years h1 h2
  have hk : k = 0 ∨ k = 1 ∨ k = 2 ∨ k = 3 ∨ k = 4 ∨ k = 5 ∨ k = 6 ∨ k = 7 ∨ k = 8 ∨ k = 9 := by clear g0 g1 g2 g3 g4 g5 g6 g7 g8 g9; omega
  rcases hk with rfl | rfl | rfl | rfl | rfl | rfl | rfl | rfl | rfl | rfl <;> assumption
theorem law_holds : PySem.Challenge.rw_bh0013_01.Holds :=
  law_walk FJ fjY fjM fjD (fun y => if FJ 10 y % 7 = 5 then 113 else 112) (fun y => if leapH (y + 3760) = true then -89 else -59) (fun y => if (FJ 3 (y + 1) - FJ 3 y) % 10 = 5 then 247 else 246) leapH
    (fun _ k y tk ty h1 h2 => c_lfN k y tk ty h1 h2) (fun _ k y tk ty h1 h2 => c_lfT k y tk ty h1 h2) (fun _ y t h1 h2 => c_passover1 y t h1 h2) (fun _ y t h1 h2 => c_rosh1 y t h1 h2)
    (fun _ j a b c => c_tgfj j a b c) (fun _ y t => c_leapH y t)
    hS_all hY_all (fun _ => rfl) (fun _ => rfl) (fun _ => rfl) hW_all hL_all pass2024.1 pass2024.2.1 pass2024.2.2

end Bh

theorem PySem.Challenge.cw_bh0013_01_holds : PySem.Challenge.rw_bh0013_01.Holds :=
  Bh.law_holds
