import PyProof.Rows.All
import Wide.All
import OpenK.AllK
import Wide.FinOn
import PySem.Challenge.RW_mq0061_01
set_option Elab.async false
section
open PySem PySem.W PyProof.Rows
namespace Mine
set_option maxRecDepth 100000 in
set_option maxHeartbeats 8000000 in
open_top hd for PySem.Challenge.rw_mq0061_01
end Mine
end
section
open PySem PySem.W PyProof.Rows PySem.Calls
namespace Mine
abbrev Mo (w : World) : Model := model PySem.Challenge.rw_mq0061_01.row.prog w
abbrev NoE : Value → Shared → Prop := fun _ _ => False
/-- the surroundings leave room -/
structure AOk (A : Around) (d : Nat) : Prop where
  dep : A.depth ≤ d
  un : A.units ≤ 10 * d
  hd : A.handled = none
theorem AOk.mono {A : Around} {d e : Nat} (h : AOk A d) (he : d ≤ e) : AOk A e := ⟨Nat.le_trans h.dep he, by have := h.un; omega, h.hd⟩
theorem AOk.deeper {A : Around} {d : Nat} (h : AOk A d) (env : Env) : AOk (A.deeper env) (d + 1) := ⟨by rw [depth_deeper]; have := h.dep; omega, by rw [Around.deeper_units]; have := h.un; omega, h.hd⟩
theorem AOk.in1 {A : Around} {d : Nat} (h : AOk A d) : AOk A.in1 (d + 1) := ⟨by rw [Around.in1_depth]; have := h.dep; omega, by rw [Around.in1_units]; have := h.un; omega, h.hd⟩
theorem AOk.room {A : Around} {d : Nat} (h : AOk A d) (hd : d ≤ 990) : A.depth < recursionLimit := by have := h.dep; unfold recursionLimit; omega
theorem AOk.line {A : Around} {d : Nat} (h : AOk A d) (hd : d ≤ 980) : A.units < cLine := by have := h.un; unfold cLine; omega
/-- the ground: the text's own objects and the top's names -/
structure Gd (w : World) (p : Program) (loose : List Str) (mean : ExcName → Option Value) (mg mb : Str → Option Value) (h : Heap) : Prop where
  X : (hd.heap_39 w.params).In h
  T : Top p loose mean mg mb h
theorem Gd.keeps {w : World} {p : Program} {loose : List Str} {mean : ExcName → Option Value} {mg mb : Str → Option Value} {h h' : Heap} (G : Gd w p loose mean mg mb h) (k : ∀ b o, h.get? b = some o → h'.get? b = some o) : Gd w p loose mean mg mb h' :=
  ⟨G.X.keeps k, G.T.keeps k⟩
/-- an end: the value is told, all is kept -/
def Endv {α : Type} (s : Shared) (P : α → Heap → Prop) (v : α) (s' : Shared) : Prop := P v s'.heap ∧ Keeps s s'
section
variable {w : World} {A : Around} {s : Shared} {E : Value → Shared → Prop} {p : Program} {loose : List Str} {mean : ExcName → Option Value} {mg mb : Str → Option Value}
/-- a call of a plain def of the text: its base is the caller's whole heap -/
theorem call_def {Q : Value → Shared → Prop} {d : Nat}
    {name qual : Str} {params : Arguments} {body : List Stmt} {scope : Scope} {dV kV doc pm cdv ct oc : Value} {an od : Option Addr} {osl : Array (Option Value)} {f : Addr} {args : List Value} {binds : List (Str × Value)}
    (G : Gd w p loose mean mg mb s.heap) (hA : AOk A d)
    (ho : (hd.heap_39 w.params).lookup f = some ⟨oc, od, .func (fnOf name qual params body scope dV kV doc pm an cdv ct), osl⟩) (hcd : codeIn (hd.heap_39 w.params) cdv qual = true)
    (hbind : BindsTo s (fnOf name qual params body scope dV kV doc pm an cdv ct) ⟨args, []⟩ binds) (hloc : ∀ y ∈ binds, scope.names.lookup y.1 = some .local)
    (h : ∀ L' h₁, Fr s.heap L' h₁ (fun y => binds.reverse.lookup y) → News s.heap L' h₁ [] → (hd.heap_39 w.params).In s.heap → Top p loose mean mg mb s.heap → AOk (A.deeper (envOf qual scope L' f cdv)) (d + 1) →
      wpAny (Mo w) (A.deeper (envOf qual scope L' f cdv)) (execs body (envOf qual scope L' f cdv)) (fun fl s' => Q (match fl with | .ret v => v | _ => .none) s') NoE { s with heap := h₁, toks := s.toks + binds.length })
    (hco : scope.isCoroutine = false) (hgen : scope.isGenerator = false) (hk : scope.kind = .function)
    (hcell : ∀ x ∈ scope.names, x.2 ≠ .cell) (hd : d ≤ 990) : wpAny (Mo w) A (call (.ref f) args) Q E s := by
  refine wpAny_call (codeAny_call_def (fd := fnOf name qual params body scope dV kV doc pm an cdv ct) (body := body) (binds := binds) (hA.room hd) (G.X _ _ ho) rfl G.T.nolimit (codeRec_of G.X hcd) rfl hbind hcell hloc (fun h₁ hns hk₁ => ?_) hco hgen hk)
  exact wpAny_mono (h s.heap.objs.size h₁ ⟨hns, hk₁, Nat.le_refl _⟩ News.nil G.X G.T (hA.deeper _)) (fun fl s' hl => hl) (fun _ _ x => x.elim)
/-- a step that keeps all, taken within a frame -/
theorem use_c {α : Type} {Q : α → Shared → Prop} {P : α → Heap → Prop} {t : Sem α} {h₀ : Heap} {L : Addr} {m : Str → Option Value} {news : List (Addr × Obj)} (F : Fr h₀ L s.heap m) (N : News h₀ L s.heap news)
    (X : (hd.heap_39 w.params).In h₀) (T : Top p loose mean mg mb h₀) (c : Gd w p loose mean mg mb s.heap → wpAny (Mo w) A t (Endv s P) NoE s)
    (h : ∀ v h' tk, P v h' → (∀ b o, s.heap.get? b = some o → h'.get? b = some o) → Fr h₀ L h' m → News h₀ L h' news → Q v { s with heap := h', toks := tk }) : wpAny (Mo w) A t Q E s := by
  refine wpAny_mono (c ⟨X.keeps F.keep, T.keeps F.keep⟩) (fun v s' hv => ?_) fun _ _ x => x.elim
  obtain ⟨hP, h', tk, rfl, hk⟩ := hv
  exact h v h' tk hP hk (F.keeps hk) (N.grown hk)
end
end Mine
end
section
open PySem PySem.W PyProof.Rows PySem.Calls
namespace Mine
theorem fill : PySem.Challenge.rw_mq0061_01 = PySem.Challenge.rw_mq0061_01 ∧ (hd.heap_39 = hd.heap_39) := by
  k_fill
  exact ⟨rfl, rfl⟩
/-- a thing: a number, or a text of one sign; its code -/
inductive ThingV : Value → Int → Prop
  | int (n : Int) (t : Tok) : ThingV (.int n t) n
  | str (c : Nat) (t : Tok) (h : c < 0x110000) : ThingV (.str ⟨#[c]⟩ t) c
section
variable {w : World} {A : Around} {s : Shared} {p : Program} {loose : List Str} {mean : ExcName → Option Value} {mg mb : Str → Option Value}
local macro_rules | `(tactic| walk_at "mine call") => `(tactic| (refine' call_def ?G ?A ?ho ?hcd ?hb ?hl ?h ?c1 ?c2 ?c3 ?c4 ?c5; (case G => assumption); (case A => assumption); (case ho => k_is); (case hcd => k_is); (case hb => exact BindsTo.of_eq rfl); (case hl => exact locs rfl); (case c1 => rfl); (case c2 => rfl); (case c3 => rfl); (case c4 => decide); (case c5 => decide)))
set_option maxRecDepth 100000
set_option maxHeartbeats 8000000
theorem ctoi_spec (G : Gd w p loose mean mg mb s.heap) (hA : AOk A 950) {v : Value} {c : Int} (hv : ThingV v c) : wpAny (Mo w) A (call (.ref 28) [v]) (Endv s fun r _ => ∃ u, r = .int c u) NoE s := by
  cases hv
  all_goals
    walk_at "mine call"
    intro L' h₁ F N X T hA'
    dsimp only
    w_on
    k_steps
  · exact ⟨⟨_, rfl⟩, _, _, rfl, F.keep⟩
  · exact ⟨⟨_, rfl⟩, _, _, rfl, F.keep⟩
local macro_rules | `(tactic| walk_at "call ref") => `(tactic| ((with_reducible show wpAny _ _ (call (Value.ref 28) [_]) _ _ _); refine' use_c ?F ?N ?X ?T (fun G' => ctoi_spec G' ?A ?v) ?_; (case F => k_asm); (case N => k_asm); (case X => k_asm); (case T => k_asm); (case A => exact AOk.mono (by assumption) (by decide)); (case v => assumption); intro v' h' tk' P' k' F' N'; (rcases P' with ⟨u', e'⟩); cases e'))
def jisdigit (c : Int) : Bool := decide (48 ≤ c ∧ c ≤ 57)
theorem isdigit_spec (G : Gd w p loose mean mg mb s.heap) (hA : AOk A 945) {v : Value} {c : Int} (hv : ThingV v c) : wpAny (Mo w) A (call (.ref 70) [v]) (Endv s fun r _ => r = .bool (jisdigit c)) NoE s := by
  walk_at "mine call"
  intro L' h₁ F N X T hA'
  dsimp only
  w_on
  k_steps
  all_goals (refine ⟨?_, _, _, rfl, Fr.keep (by assumption)⟩)
  all_goals (first | (exact rfl) | (simp_all [jisdigit]; done) | (simp_all [jisdigit]; omega) | (have hd : jisdigit c = false := (by assumption); simp only [jisdigit, hd, Bool.false_or]; congr 1; rw [Bool.eq_iff_iff]; simp only [Bool.or_eq_true, decide_eq_true_eq]; omega))
local macro_rules | `(tactic| walk_at "call ref") => `(tactic| ((with_reducible show wpAny _ _ (call (Value.ref 70) [_]) _ _ _); refine' use_c ?F ?N ?X ?T (fun G' => isdigit_spec G' ?A ?v) ?_; (case F => k_asm); (case N => k_asm); (case X => k_asm); (case T => k_asm); (case A => exact AOk.mono (by assumption) (by decide)); (case v => assumption); intro v' h' tk' P' k' F' N'; cases P'))
def jisupper (c : Int) : Bool := decide (65 ≤ c ∧ c ≤ 90)
theorem isupper_spec (G : Gd w p loose mean mg mb s.heap) (hA : AOk A 945) {v : Value} {c : Int} (hv : ThingV v c) : wpAny (Mo w) A (call (.ref 112) [v]) (Endv s fun r _ => r = .bool (jisupper c)) NoE s := by
  walk_at "mine call"
  intro L' h₁ F N X T hA'
  dsimp only
  w_on
  k_steps
  all_goals (refine ⟨?_, _, _, rfl, Fr.keep (by assumption)⟩)
  all_goals (first | (exact rfl) | (simp_all [jisupper]; done) | (simp_all [jisupper]; omega) | (have hd : jisdigit c = false := (by assumption); simp only [jisupper, hd, Bool.false_or]; congr 1; rw [Bool.eq_iff_iff]; simp only [Bool.or_eq_true, decide_eq_true_eq]; omega))
local macro_rules | `(tactic| walk_at "call ref") => `(tactic| ((with_reducible show wpAny _ _ (call (Value.ref 112) [_]) _ _ _); refine' use_c ?F ?N ?X ?T (fun G' => isupper_spec G' ?A ?v) ?_; (case F => k_asm); (case N => k_asm); (case X => k_asm); (case T => k_asm); (case A => exact AOk.mono (by assumption) (by decide)); (case v => assumption); intro v' h' tk' P' k' F' N'; cases P'))
def jislower (c : Int) : Bool := decide (97 ≤ c ∧ c ≤ 122)
theorem islower_spec (G : Gd w p loose mean mg mb s.heap) (hA : AOk A 945) {v : Value} {c : Int} (hv : ThingV v c) : wpAny (Mo w) A (call (.ref 84) [v]) (Endv s fun r _ => r = .bool (jislower c)) NoE s := by
  walk_at "mine call"
  intro L' h₁ F N X T hA'
  dsimp only
  w_on
  k_steps
  all_goals (refine ⟨?_, _, _, rfl, Fr.keep (by assumption)⟩)
  all_goals (first | (exact rfl) | (simp_all [jislower]; done) | (simp_all [jislower]; omega) | (have hd : jisdigit c = false := (by assumption); simp only [jislower, hd, Bool.false_or]; congr 1; rw [Bool.eq_iff_iff]; simp only [Bool.or_eq_true, decide_eq_true_eq]; omega))
local macro_rules | `(tactic| walk_at "call ref") => `(tactic| ((with_reducible show wpAny _ _ (call (Value.ref 84) [_]) _ _ _); refine' use_c ?F ?N ?X ?T (fun G' => islower_spec G' ?A ?v) ?_; (case F => k_asm); (case N => k_asm); (case X => k_asm); (case T => k_asm); (case A => exact AOk.mono (by assumption) (by decide)); (case v => assumption); intro v' h' tk' P' k' F' N'; cases P'))
def jisgraph (c : Int) : Bool := decide (33 ≤ c ∧ c ≤ 126)
theorem isgraph_spec (G : Gd w p loose mean mg mb s.heap) (hA : AOk A 945) {v : Value} {c : Int} (hv : ThingV v c) : wpAny (Mo w) A (call (.ref 77) [v]) (Endv s fun r _ => r = .bool (jisgraph c)) NoE s := by
  walk_at "mine call"
  intro L' h₁ F N X T hA'
  dsimp only
  w_on
  k_steps
  all_goals (refine ⟨?_, _, _, rfl, Fr.keep (by assumption)⟩)
  all_goals (first | (exact rfl) | (simp_all [jisgraph]; done) | (simp_all [jisgraph]; omega) | (have hd : jisdigit c = false := (by assumption); simp only [jisgraph, hd, Bool.false_or]; congr 1; rw [Bool.eq_iff_iff]; simp only [Bool.or_eq_true, decide_eq_true_eq]; omega))
local macro_rules | `(tactic| walk_at "call ref") => `(tactic| ((with_reducible show wpAny _ _ (call (Value.ref 77) [_]) _ _ _); refine' use_c ?F ?N ?X ?T (fun G' => isgraph_spec G' ?A ?v) ?_; (case F => k_asm); (case N => k_asm); (case X => k_asm); (case T => k_asm); (case A => exact AOk.mono (by assumption) (by decide)); (case v => assumption); intro v' h' tk' P' k' F' N'; cases P'))
def jisprint (c : Int) : Bool := decide (32 ≤ c ∧ c ≤ 126)
theorem isprint_spec (G : Gd w p loose mean mg mb s.heap) (hA : AOk A 945) {v : Value} {c : Int} (hv : ThingV v c) : wpAny (Mo w) A (call (.ref 91) [v]) (Endv s fun r _ => r = .bool (jisprint c)) NoE s := by
  walk_at "mine call"
  intro L' h₁ F N X T hA'
  dsimp only
  w_on
  k_steps
  all_goals (refine ⟨?_, _, _, rfl, Fr.keep (by assumption)⟩)
  all_goals (first | (exact rfl) | (simp_all [jisprint]; done) | (simp_all [jisprint]; omega) | (have hd : jisdigit c = false := (by assumption); simp only [jisprint, hd, Bool.false_or]; congr 1; rw [Bool.eq_iff_iff]; simp only [Bool.or_eq_true, decide_eq_true_eq]; omega))
def jisascii (c : Int) : Bool := decide (0 ≤ c ∧ c ≤ 127)
theorem isascii_spec (G : Gd w p loose mean mg mb s.heap) (hA : AOk A 945) {v : Value} {c : Int} (hv : ThingV v c) : wpAny (Mo w) A (call (.ref 49) [v]) (Endv s fun r _ => r = .bool (jisascii c)) NoE s := by
  walk_at "mine call"
  intro L' h₁ F N X T hA'
  dsimp only
  w_on
  k_steps
  all_goals (refine ⟨?_, _, _, rfl, Fr.keep (by assumption)⟩)
  all_goals (first | (exact rfl) | (simp_all [jisascii]; done) | (simp_all [jisascii]; omega) | (have hd : jisdigit c = false := (by assumption); simp only [jisascii, hd, Bool.false_or]; congr 1; rw [Bool.eq_iff_iff]; simp only [Bool.or_eq_true, decide_eq_true_eq]; omega))
def jisctrl (c : Int) : Bool := decide (0 ≤ c ∧ c < 32)
theorem isctrl_spec (G : Gd w p loose mean mg mb s.heap) (hA : AOk A 945) {v : Value} {c : Int} (hv : ThingV v c) : wpAny (Mo w) A (call (.ref 126) [v]) (Endv s fun r _ => r = .bool (jisctrl c)) NoE s := by
  walk_at "mine call"
  intro L' h₁ F N X T hA'
  dsimp only
  w_on
  k_steps
  all_goals (refine ⟨?_, _, _, rfl, Fr.keep (by assumption)⟩)
  all_goals (first | (exact rfl) | (simp_all [jisctrl]; done) | (simp_all [jisctrl]; omega) | (have hd : jisdigit c = false := (by assumption); simp only [jisctrl, hd, Bool.false_or]; congr 1; rw [Bool.eq_iff_iff]; simp only [Bool.or_eq_true, decide_eq_true_eq]; omega))
def jismeta (c : Int) : Bool := decide (c > 127)
theorem ismeta_spec (G : Gd w p loose mean mg mb s.heap) (hA : AOk A 945) {v : Value} {c : Int} (hv : ThingV v c) : wpAny (Mo w) A (call (.ref 133) [v]) (Endv s fun r _ => r = .bool (jismeta c)) NoE s := by
  walk_at "mine call"
  intro L' h₁ F N X T hA'
  dsimp only
  w_on
  k_steps
  all_goals (refine ⟨?_, _, _, rfl, Fr.keep (by assumption)⟩)
  all_goals (first | (exact rfl) | (simp_all [jismeta]; done) | (simp_all [jismeta]; omega) | (have hd : jisdigit c = false := (by assumption); simp only [jismeta, hd, Bool.false_or]; congr 1; rw [Bool.eq_iff_iff]; simp only [Bool.or_eq_true, decide_eq_true_eq]; omega))
def jisblank (c : Int) : Bool := ([9, 32] : List Int).any fun x => x == c
theorem isblank_spec (G : Gd w p loose mean mg mb s.heap) (hA : AOk A 945) {v : Value} {c : Int} (hv : ThingV v c) : wpAny (Mo w) A (call (.ref 56) [v]) (Endv s fun r _ => r = .bool (jisblank c)) NoE s := by
  walk_at "mine call"
  intro L' h₁ F N X T hA'
  dsimp only
  w_on
  k_steps
  all_goals (refine ⟨?_, _, _, rfl, Fr.keep (by assumption)⟩)
  all_goals (first | (exact rfl) | (simp_all [jisblank]; done) | (simp_all [jisblank]; omega) | (have hd : jisdigit c = false := (by assumption); simp only [jisblank, hd, Bool.false_or]; congr 1; rw [Bool.eq_iff_iff]; simp only [Bool.or_eq_true, decide_eq_true_eq]; omega))
def jisspace (c : Int) : Bool := ([9, 10, 11, 12, 13, 32] : List Int).any fun x => x == c
theorem isspace_spec (G : Gd w p loose mean mg mb s.heap) (hA : AOk A 945) {v : Value} {c : Int} (hv : ThingV v c) : wpAny (Mo w) A (call (.ref 105) [v]) (Endv s fun r _ => r = .bool (jisspace c)) NoE s := by
  walk_at "mine call"
  intro L' h₁ F N X T hA'
  dsimp only
  w_on
  k_steps
  all_goals (refine ⟨?_, _, _, rfl, Fr.keep (by assumption)⟩)
  all_goals (first | (exact rfl) | (simp_all [jisspace]; done) | (simp_all [jisspace]; omega) | (have hd : jisdigit c = false := (by assumption); simp only [jisspace, hd, Bool.false_or]; congr 1; rw [Bool.eq_iff_iff]; simp only [Bool.or_eq_true, decide_eq_true_eq]; omega))
def jiscntrl (c : Int) : Bool := ((decide (0 ≤ c) && decide (c ≤ 31)) || c == 127)
theorem iscntrl_spec (G : Gd w p loose mean mg mb s.heap) (hA : AOk A 945) {v : Value} {c : Int} (hv : ThingV v c) : wpAny (Mo w) A (call (.ref 63) [v]) (Endv s fun r _ => r = .bool (jiscntrl c)) NoE s := by
  walk_at "mine call"
  intro L' h₁ F N X T hA'
  dsimp only
  w_on
  k_steps
  all_goals (refine ⟨?_, _, _, rfl, Fr.keep (by assumption)⟩)
  all_goals (first | (exact rfl) | (simp_all [jiscntrl]; done) | (simp_all [jiscntrl]; omega) | (have hd : jisdigit c = false := (by assumption); simp only [jiscntrl, hd, Bool.false_or]; congr 1; rw [Bool.eq_iff_iff]; simp only [Bool.or_eq_true, decide_eq_true_eq]; omega))
def jisalpha (c : Int) : Bool := (jisupper c || jislower c)
theorem isalpha_spec (G : Gd w p loose mean mg mb s.heap) (hA : AOk A 940) {v : Value} {c : Int} (hv : ThingV v c) : wpAny (Mo w) A (call (.ref 42) [v]) (Endv s fun r _ => r = .bool (jisalpha c)) NoE s := by
  walk_at "mine call"
  intro L' h₁ F N X T hA'
  dsimp only
  w_on
  k_steps
  all_goals (refine ⟨?_, _, _, rfl, Fr.keep (by assumption)⟩)
  all_goals (first | (exact rfl) | (simp_all [jisalpha]; done) | (simp_all [jisalpha]; omega) | (have hd : jisdigit c = false := (by assumption); simp only [jisalpha, hd, Bool.false_or]; congr 1; rw [Bool.eq_iff_iff]; simp only [Bool.or_eq_true, decide_eq_true_eq]; omega))
local macro_rules | `(tactic| walk_at "call ref") => `(tactic| ((with_reducible show wpAny _ _ (call (Value.ref 42) [_]) _ _ _); refine' use_c ?F ?N ?X ?T (fun G' => isalpha_spec G' ?A ?v) ?_; (case F => k_asm); (case N => k_asm); (case X => k_asm); (case T => k_asm); (case A => exact AOk.mono (by assumption) (by decide)); (case v => assumption); intro v' h' tk' P' k' F' N'; cases P'))
def jisalnum (c : Int) : Bool := (jisalpha c || jisdigit c)
theorem isalnum_spec (G : Gd w p loose mean mg mb s.heap) (hA : AOk A 930) {v : Value} {c : Int} (hv : ThingV v c) : wpAny (Mo w) A (call (.ref 35) [v]) (Endv s fun r _ => r = .bool (jisalnum c)) NoE s := by
  walk_at "mine call"
  intro L' h₁ F N X T hA'
  dsimp only
  w_on
  k_steps
  all_goals (refine ⟨?_, _, _, rfl, Fr.keep (by assumption)⟩)
  all_goals (first | (exact rfl) | (simp_all [jisalnum]; done) | (simp_all [jisalnum]; omega) | (have hd : jisdigit c = false := (by assumption); simp only [jisalnum, hd, Bool.false_or]; congr 1; rw [Bool.eq_iff_iff]; simp only [Bool.or_eq_true, decide_eq_true_eq]; omega))
local macro_rules | `(tactic| walk_at "call ref") => `(tactic| ((with_reducible show wpAny _ _ (call (Value.ref 35) [_]) _ _ _); refine' use_c ?F ?N ?X ?T (fun G' => isalnum_spec G' ?A ?v) ?_; (case F => k_asm); (case N => k_asm); (case X => k_asm); (case T => k_asm); (case A => exact AOk.mono (by assumption) (by decide)); (case v => assumption); intro v' h' tk' P' k' F' N'; cases P'))
def jispunct (c : Int) : Bool := (jisgraph c && !jisalnum c)
theorem ispunct_spec (G : Gd w p loose mean mg mb s.heap) (hA : AOk A 920) {v : Value} {c : Int} (hv : ThingV v c) : wpAny (Mo w) A (call (.ref 98) [v]) (Endv s fun r _ => r = .bool (jispunct c)) NoE s := by
  walk_at "mine call"
  intro L' h₁ F N X T hA'
  dsimp only
  w_on
  k_steps
  all_goals (refine ⟨?_, _, _, rfl, Fr.keep (by assumption)⟩)
  all_goals (first | (exact rfl) | (simp_all [jispunct]; done) | (simp_all [jispunct]; omega) | (have hd : jisdigit c = false := (by assumption); simp only [jispunct, hd, Bool.false_or]; congr 1; rw [Bool.eq_iff_iff]; simp only [Bool.or_eq_true, decide_eq_true_eq]; omega))
def jisxdigit (c : Int) : Bool := (jisdigit c || decide (65 ≤ c ∧ c ≤ 70) || decide (97 ≤ c ∧ c ≤ 102))
theorem isxdigit_spec (G : Gd w p loose mean mg mb s.heap) (hA : AOk A 930) {v : Value} {c : Int} (hv : ThingV v c) : wpAny (Mo w) A (call (.ref 119) [v]) (Endv s fun r _ => r = .bool (jisxdigit c)) NoE s := by
  walk_at "mine call"
  intro L' h₁ F N X T hA'
  dsimp only
  w_on
  k_steps
  all_goals (refine ⟨?_, _, _, rfl, Fr.keep (by assumption)⟩)
  all_goals (first | (exact rfl) | (simp_all [jisxdigit]; done) | (simp_all [jisxdigit]; omega) | (have hd : jisdigit c = false := (by assumption); simp only [jisxdigit, hd, Bool.false_or]; congr 1; rw [Bool.eq_iff_iff]; simp only [Bool.or_eq_true, decide_eq_true_eq]; omega))
end
end Mine
end
section
open PySem PySem.W PyProof.Rows PySem.Calls
namespace Mine
theorem fill2 : PySem.Challenge.rw_mq0061_01 = PySem.Challenge.rw_mq0061_01 ∧ (hd.heap_39 = hd.heap_39) := by
  k_fill
  exact ⟨rfl, rfl⟩
section
variable {w : World} {A : Around} {s : Shared} {p : Program} {loose : List Str} {mean : ExcName → Option Value} {mg mb : Str → Option Value}
local macro_rules | `(tactic| walk_at "mine call") => `(tactic| (refine' call_def ?G ?A ?ho ?hcd ?hb ?hl ?h ?c1 ?c2 ?c3 ?c4 ?c5; (case G => assumption); (case A => assumption); (case ho => k_is); (case hcd => k_is); (case hb => exact BindsTo.of_eq rfl); (case hl => exact locs rfl); (case c1 => rfl); (case c2 => rfl); (case c3 => rfl); (case c4 => decide); (case c5 => decide)))
set_option maxRecDepth 100000
set_option maxHeartbeats 8000000
theorem thing_spec (G : Gd w p loose mean mg mb s.heap) (hA : AOk A 945) {x : Int} {t : Tok} : wpAny (Mo w) A (call (.ref 140) [.int x t]) (Endv s fun r _ => ∃ c, ThingV r c) NoE s := by
  walk_at "mine call"
  intro L' h₁ F N X T hA'
  dsimp only
  w_on
  k_steps
  all_goals first | exact ⟨⟨_, .int _ _⟩, _, _, rfl, Fr.keep (by assumption)⟩ | exact ⟨⟨_, .str _ _ (by have h1 := Int.fmod_lt_of_pos (x.fdiv 4) (by decide : (0 : Int) < 128); have h2 := Int.fmod_lt_of_pos (x.fdiv 4) (by decide : (0 : Int) < 1112064); omega)⟩, _, _, rfl, Fr.keep (by assumption)⟩
end
end Mine
end
section
open PySem PySem.W PyProof.Rows PySem.Calls
namespace Mine
theorem fill3 : PySem.Challenge.rw_mq0061_01 = PySem.Challenge.rw_mq0061_01 ∧ (hd.heap_39 = hd.heap_39) := by
  k_fill
  exact ⟨rfl, rfl⟩
/-- a stop of our own -/
def Stuck (P : Prop) : Prop := P
theorem stuck {P : Prop} (h : Stuck P) : P := h
theorem unstuck {P : Prop} (h : P) : Stuck P := h
def orL : List Bool → Bool
  | [] => false
  | [b] => b
  | b :: r => b || orL r
theorem or_join {M : Model} {A : Around} {pos : Pos} {I : Shared → Prop} : ∀ (l : List (Sem Value × Bool)) (s : Shared), I s → l ≠ [] →
    (∀ p ∈ l, ∀ s', I s' → wpAny M A p.1 (fun v s'' => v = .bool p.2 ∧ I s'') NoE s') →
    wpAny M A (boolOp pos .Or (l.map (·.1))) (fun v s'' => v = .bool (orL (l.map (·.2))) ∧ I s'') NoE s
  | [], _, _, h, _ => absurd rfl h
  | [x], s, hI, _, hx => by
    have := hx x (List.mem_singleton.mpr rfl) s hI
    show wpAny M A x.1 _ _ _
    exact wpAny_mono this (fun v s' h => ⟨h.1, h.2⟩) fun _ _ e => e
  | x :: y :: r, s, hI, _, hx => by
    show wpAny M A (do let v ← x.1; standAt pos; let t ← holding [v] (truthy v); match BoolOp.Or, t with | .And, false | .Or, true => pure v | _, _ => boolOp pos .Or ((y :: r).map (·.1))) _ _ _
    refine wpAny_bind (wpAny_mono (hx x (List.mem_cons_self ..) s hI) (fun v s' h => ?_) fun _ _ e => e)
    obtain ⟨rfl, hI'⟩ := h
    refine wpAny_bind (wpAny_standAt (wpAny_bind (wpAny_holding (wpAny_truthy_bool ?_))))
    cases hb : x.2 with
    | true => exact wpAny_pure ⟨by simp [orL, hb], hI'⟩
    | false =>
      refine wpAny_mono (or_join (y :: r) s' hI' (by simp) fun p hp => hx p (List.mem_cons_of_mem _ hp)) (fun v s'' h => ⟨?_, h.2⟩) fun _ _ e => e
      rw [h.1]; simp [orL, hb]
/-- within a frame -/
def InF (s₀ : Shared) (h₀ : Heap) (L : Addr) (m : Str → Option Value) (s' : Shared) : Prop := ∃ h tk, s' = { s₀ with heap := h, toks := tk } ∧ Fr h₀ L h m
def EndF (s₀ : Shared) (h₀ : Heap) (L : Addr) (m : Str → Option Value) (P : Value → Prop) (v : Value) (s' : Shared) : Prop := P v ∧ InF s₀ h₀ L m s'
theorem use_f {w : World} {A : Around} {s : Shared} {E : Value → Shared → Prop} {Q : Value → Shared → Prop} {t : Sem Value} {h₀ : Heap} {L : Addr} {m : Str → Option Value} (P : Value → Prop)
    (c : wpAny (Mo w) A t (EndF s h₀ L m P) NoE s)
    (h : ∀ v h' tk, P v → Fr h₀ L h' m → News h₀ L h' [] → Q v { s with heap := h', toks := tk }) : Stuck (wpAny (Mo w) A t Q E s) := by
  unfold Stuck
  refine wpAny_mono c (fun v s' hv => ?_) fun _ _ e => e.elim
  obtain ⟨hP, h', tk, rfl, F'⟩ := hv
  exact h v h' tk hP F' News.nil
theorem evalEach_map (env : Env) : ∀ l : List Expr, evalEach l env = l.map (eval · env)
  | [] => rfl
  | e :: r => by rw [List.map_cons, ← evalEach_map env r]; rfl
theorem use_or {w : World} {A : Around} {s : Shared} {E : Value → Shared → Prop} {Q : Value → Shared → Prop} {values : List Expr} {pos : Pos} {env : Env} {h₀ : Heap} {L : Addr} {m : Str → Option Value}
    (F : Fr h₀ L s.heap m) (bs : List Bool) (hl : values.length = bs.length) (hne : values ≠ [])
    (hx : ∀ p ∈ values.zip bs, ∀ h' tk, Fr h₀ L h' m → News h₀ L h' [] → wpAny (Mo w) A (eval p.1 env) (EndF s h₀ L m fun v => v = .bool p.2) NoE { s with heap := h', toks := tk })
    (h : ∀ h' tk, Fr h₀ L h' m → News h₀ L h' [] → Q (.bool (orL bs)) { s with heap := h', toks := tk }) : Stuck (wpAny (Mo w) A (eval (.BoolOp .Or values pos) env) Q E s) := by
  unfold Stuck
  rw [arm_eval_BoolOp, evalEach_map]
  have e1 : ((values.zip bs).map (fun p => (eval p.1 env, p.2))).map (·.1) = values.map (eval · env) := by
    rw [List.map_map]
    show (values.zip bs).map (fun p => eval p.1 env) = _
    rw [show (fun p : Expr × Bool => eval p.1 env) = (eval · env) ∘ Prod.fst from rfl, ← List.map_map, List.map_fst_zip (by omega)]
  have e2 : ((values.zip bs).map (fun p => (eval p.1 env, p.2))).map (·.2) = bs := by
    rw [List.map_map]
    show (values.zip bs).map Prod.snd = _
    rw [List.map_snd_zip (by omega)]
  rw [← e1]
  refine wpAny_mono (or_join (I := InF s h₀ L m) _ s ⟨s.heap, s.toks, rfl, F⟩ ?_ fun p hp s' hs' => ?_) (fun v s' hv => ?_) fun _ _ e => e.elim
  · intro q
    have := congrArg List.length q
    simp only [List.length_map, List.length_zip, List.length_nil] at this
    have h3 : values.length ≠ 0 := fun z => hne (List.length_eq_zero_iff.mp z)
    omega
  · obtain ⟨q, hq, rfl⟩ := List.mem_map.mp hp
    obtain ⟨h', tk, rfl, F'⟩ := hs'
    exact hx q hq h' tk F' News.nil
  · rw [e2] at hv
    obtain ⟨rfl, h', tk, rfl, F'⟩ := hv
    exact h h' tk F' News.nil
def inTxt (x : Str) (c : Nat) : Bool := decide (c ∈ x.cps.toList)
def bF (c : Int) : Bool := inTxt (Str.ofString "0123456789") c.toNat
def bG (c : Int) : Bool := inTxt (Str.ofString "ABCDEFGHIJKLMNOPQRSTUVWXYZ") c.toNat
def bS (c : Int) : Bool := inTxt (Str.ofString "abcdefghijklmnopqrstuvwxyz") c.toNat
def bM (c : Int) : Bool := inTxt (Str.ofString "!#$%&()*+,-./:;<=>?\x40[]^_{|}~") c.toNat || ([34, 39, 92, 96] : List Int).any fun x => x == c
def bSeen (c : Int) : Bool := bF c || (bG c || (bS c || bM c))
def bX (c : Int) : Bool := bF c || inTxt (Str.ofString "abcdefABCDEF") c.toNat
def bW (c : Int) : Bool := (decide (8 < c) && decide (c < 14)) || c == 32
def jlist : List (Int → Bool) := [jisalnum, jisalpha, jisascii, jisblank, jiscntrl, jisctrl, jisdigit, jisgraph, jislower, jisprint, jispunct, jisspace, jisupper, jisxdigit, jismeta]
def bit (b : Bool) : Int := if b then 0 else 1
def ansOf (c : Int) : List Int := jlist.map fun j => bit (j c)
def holdsL (c : Int) : List Bool := [bF c || (bG c || bS c), bG c || bS c, true, c == 9 || c == 32, decide (c < 32) || c == 127, decide (c < 32), bF c, bSeen c, bS c, bSeen c || c == 32, bM c, bW c, bG c, bX c, false]
theorem holds_all : ∀ n : Fin 128, holdsL (n.val : Int) = jlist.map fun j => j (n.val : Int) := by decide +kernel
theorem holds_eq {c : Int} (h0 : ¬ c < 0) (h1 : ¬ 127 < c) : (holdsL c).map bit = ansOf c := by
  obtain ⟨n, rfl⟩ : ∃ n : Nat, c = n := ⟨c.toNat, by omega⟩
  rw [holds_all ⟨n, by omega⟩]
  simp [ansOf]
theorem ans_neg {c : Int} (h : c < 0) : ansOf c = List.replicate 15 1 := by
  have a1 : jisupper c = false := by simp [jisupper]; omega
  have a2 : jislower c = false := by simp [jislower]; omega
  have a3 : jisdigit c = false := by simp [jisdigit]; omega
  have a4 : jisgraph c = false := by simp [jisgraph]; omega
  have a5 : jisprint c = false := by simp [jisprint]; omega
  have a6 : jisascii c = false := by simp [jisascii]; omega
  have a7 : jisctrl c = false := by simp [jisctrl]; omega
  have a8 : jismeta c = false := by simp [jismeta]; omega
  have a9 : jisblank c = false := by simp [jisblank]; omega
  have b1 : jisspace c = false := by simp [jisspace]; omega
  have b2 : jiscntrl c = false := by simp [jiscntrl]; omega
  have b3 : decide (65 ≤ c ∧ c ≤ 70) = false := by simp; omega
  have b4 : decide (97 ≤ c ∧ c ≤ 102) = false := by simp; omega
  simp only [ansOf, jlist, List.map, jisalpha, jisalnum, jispunct, jisxdigit, a1, a2, a3, a4, a5, a6, a7, a8, a9, b1, b2, b3, b4]
  rfl
theorem ans_big {c : Int} (h : 127 < c) : ansOf c = [1, 1, 1, 1, 1, 1, 1, 1, 1, 1, 1, 1, 1, 1, 0] := by
  have a1 : jisupper c = false := by simp [jisupper]; omega
  have a2 : jislower c = false := by simp [jislower]; omega
  have a3 : jisdigit c = false := by simp [jisdigit]; omega
  have a4 : jisgraph c = false := by simp [jisgraph]; omega
  have a5 : jisprint c = false := by simp [jisprint]; omega
  have a6 : jisascii c = false := by simp [jisascii]; omega
  have a7 : jisctrl c = false := by simp [jisctrl]; omega
  have a8 : jismeta c = true := by simp [jismeta]; omega
  have a9 : jisblank c = false := by simp [jisblank]; omega
  have b1 : jisspace c = false := by simp [jisspace]; omega
  have b2 : jiscntrl c = false := by simp [jiscntrl]; omega
  have b3 : decide (65 ≤ c ∧ c ≤ 70) = false := by simp; omega
  have b4 : decide (97 ≤ c ∧ c ≤ 102) = false := by simp; omega
  simp only [ansOf, jlist, List.map, jisalpha, jisalnum, jispunct, jisxdigit, a1, a2, a3, a4, a5, a6, a7, a8, a9, b1, b2, b3, b4]
  rfl
section
variable {w : World} {A : Around} {s : Shared} {p : Program} {loose : List Str} {mean : ExcName → Option Value} {mg mb : Str → Option Value}
theorem in_one {E : Value → Shared → Prop} {x : Str} {c : Nat} {t u : Tok} {Q : Value → Shared → Prop} (h : Q (.bool (inTxt x c)) s) : wpAny (Mo w) A (compareOp .In (.str ⟨#[c]⟩ t) (.str x u)) Q E s := by
  refine in_str ?_
  rw [empty_one, Bool.not_not]
  exact h
local macro_rules | `(tactic| walk_at "eval BoolOp") => `(tactic| refine stuck ?_)
local macro_rules | `(tactic| walk_at "eval IfExp") => `(tactic| refine stuck ?_)
local macro_rules | `(tactic| walk_at "mine two") => `(tactic| (refine List.forall_mem_cons.mpr ⟨fun h' tk F' N' => ?_, List.forall_mem_cons.mpr ⟨fun h' tk F' N' => ?_, fun _ h => nomatch h⟩⟩))
local macro_rules | `(tactic| walk_at "mine three") => `(tactic| (refine List.forall_mem_cons.mpr ⟨fun h' tk F' N' => ?_, ?_⟩; rotate_left; walk_at "mine two"; rotate_right))
local macro_rules | `(tactic| walk_at "mine four") => `(tactic| (refine List.forall_mem_cons.mpr ⟨fun h' tk F' N' => ?_, ?_⟩; rotate_left; walk_at "mine three"; rotate_right))
local macro_rules | `(tactic| walk_at "mine parts") => `(tactic| ((try dsimp only); k_steps; all_goals (first | exact ⟨rfl, _, _, rfl, by assumption⟩ | (refine ⟨?_, _, _, rfl, by assumption⟩; refine congrArg Value.bool ?_; rw [Bool.eq_iff_iff]; simp only [Bool.and_eq_true, decide_eq_true_eq]; omega))))
local macro_rules | `(tactic| walk_at "mine on") => `(tactic| (intro h' tk' F' N'; dsimp only [List.map, orL]; k_sweep; k_steps))
local macro_rules | `(tactic| walk_at "eval ListComp") => `(tactic| refine stuck ?_)
local macro_rules | `(tactic| walk_at "compareOp In str str") => `(tactic| refine in_one ?_)
set_option maxRecDepth 100000
set_option maxHeartbeats 8000000
theorem isListF {h₀ h : Heap} {L a : Addr} {its : Array Value} {c : Nat} {news : List (Addr × Obj)} (N : News h₀ L h news) (hm : (a, W.listOf its c) ∈ news) : h₀.get? a = none ∧ h.IsList a its := ⟨(N _ hm).2.2, News.isList N hm⟩
theorem answers_spec (G : Gd w p loose mean mg mb s.heap) (hA : AOk A 945) {v : Value} {c : Int} (hv : ThingV v c) : wpAny (Mo w) A (call (.ref 145) [v]) (Endv s fun r h => ∃ a its, r = .ref a ∧ (s.heap.get? a = none ∧ h.IsList a its) ∧ IntsAre its.toList (ansOf c)) NoE s := by
  refine' call_def (binds := [(Str.ofString "what", v)]) G hA ?ho ?hcd ?hb ?hl ?h ?c1 ?c2 ?c3 ?c4 ?c5
  case ho => k_is
  case hcd => k_is
  case hb => exact BindsTo.of_eq rfl
  case hl => exact locs rfl
  case c1 => rfl
  case c2 => rfl
  case c3 => rfl
  case c4 => decide
  case c5 => decide
  intro L' h₁ F N X T hA'
  w_on
  k_steps
  refine use_f (h₀ := s.heap) (L := L') (m := fun y => [(Str.ofString "what", v)].reverse.lookup y) (fun u => ∃ t, u = .int c t) ?_ ?_
  · cases hv <;> refine IfExp_ ?_ <;> k_steps <;> exact ⟨⟨_, rfl⟩, _, _, rfl, by assumption⟩
  rintro _ h' tk' ⟨tc, rfl⟩ F' N'
  k_sweep
  k_steps
  · dsimp only
    refine' ⟨⟨_, _, rfl, isListF ?N ?M, ?I⟩, _, _, rfl, Fr.keep ?F⟩
    case N => assumption
    case M => k_mem
    case F => assumption
    case I =>
      rw [ans_neg (by assumption)]
      exact (by assumption : IntsAre _ _)
  · dsimp only
    refine' ⟨⟨_, _, rfl, isListF ?N ?M, ?I⟩, _, _, rfl, Fr.keep ?F⟩
    case N => assumption
    case M => k_mem
    case F => assumption
    case I =>
      rw [ans_big (by assumption)]
      repeat' (first | exact IntsAre.nil | refine IntsAre.cons _ _ ?_)
  refine use_or (by assumption) [inTxt (Str.ofString "!#$%&()*+,-./:;<=>?\x40[]^_{|}~") c.toNat, ([34, 39, 92, 96] : List Int).any fun x => x == c] rfl (by simp) ?_ ?_
  · walk_at "mine two"
    · walk_at "mine parts"
    · walk_at "mine parts"
  walk_at "mine on"
  refine use_or (by assumption) [bF c, bG c, bS c, bM c] rfl (by simp) ?_ ?_
  · walk_at "mine four" <;> walk_at "mine parts"
  walk_at "mine on"
  refine use_or (by assumption) [bF c, inTxt (Str.ofString "abcdefABCDEF") c.toNat] rfl (by simp) ?_ ?_
  · walk_at "mine two" <;> walk_at "mine parts"
  walk_at "mine on"
  refine use_or (by assumption) [decide (8 < c) && decide (c < 14), c == 32] rfl (by simp) ?_ ?_
  · walk_at "mine two" <;> walk_at "mine parts"
  walk_at "mine on"
  refine use_or (by assumption) [bF c, bG c, bS c] rfl (by simp) ?_ ?_
  · walk_at "mine three" <;> walk_at "mine parts"
  walk_at "mine on"
  refine use_or (by assumption) [bG c, bS c] rfl (by simp) ?_ ?_
  · walk_at "mine two" <;> walk_at "mine parts"
  walk_at "mine on"
  refine use_or (by assumption) [c == 9, c == 32] rfl (by simp) ?_ ?_
  · walk_at "mine two" <;> walk_at "mine parts"
  walk_at "mine on"
  refine use_or (by assumption) [decide (c < 32), c == 127] rfl (by simp) ?_ ?_
  · walk_at "mine two" <;> walk_at "mine parts"
  walk_at "mine on"
  refine use_or (by assumption) [bSeen c, c == 32] rfl (by simp) ?_ ?_
  · walk_at "mine two" <;> walk_at "mine parts"
  walk_at "mine on"
  rename_i FL NL
  refine unstuck (wpAny_ListComp_map (fun _ => true) (fun v y => ∃ b u, v = .bool b ∧ y = .int (bit b) u) hA'.hd (by decide) (by decide) rfl (by decide) rfl (ld FL rfl ?_))
  refine ⟨_, _, rfl, News.isList NL (by k_mem), (by show 15 ≤ sizeLine; decide), ?_, ?_, ?_⟩
  · intro C v s₂ m₂ E' _ _ _ _
    exact wpAny_pure ⟨rfl, _, _, rfl, fun _ _ e => e⟩
  · intro C v s₂ m₂ E' hmem _ hns hm _
    have hb : ∃ b, v = .bool b := by
      simp only [List.mem_toArray, List.mem_cons, List.not_mem_nil, or_false] at hmem
      rcases hmem with h | h | h | h | h | h | h | h | h | h | h | h | h | h | h <;> exact ⟨_, h⟩
    obtain ⟨b, rfl⟩ := hb
    refine IfExp_ (isTrue_plain (wpAny_Name (wpAny_loadName_local rfl rfl hns hm (wpAny_truthy_bool ?_)) (by decide)))
    cases b
    · exact wpAny_Constant_int ⟨⟨_, _, rfl, rfl⟩, _, _, rfl, fun _ _ e => e⟩
    · exact wpAny_Constant_int ⟨⟨_, _, rfl, rfl⟩, _, _, rfl, fun _ _ e => e⟩
  · intro D h' tk ys hD hl hp hk
    have hD' : s.heap.get? D = none := by
      cases hq : s.heap.get? D with
      | none => rfl
      | some o => rw [FL.keep _ _ hq] at hD; cases hD
    refine ⟨⟨D, ys, rfl, ⟨hD', hl⟩, ?_⟩, _, _, rfl, fun b o e => hk b o (FL.keep b o e)⟩
    rw [← holds_eq (by assumption) (by assumption)]
    dsimp only at hp
    rw [List.filter_eq_self.mpr (fun _ _ => rfl)] at hp
    revert hp
    generalize ys.toList = l
    intro hp
    simp only [holdsL, List.map]
    repeat (rcases hp with _ | ⟨⟨_, _, e1, e2⟩, hp⟩; cases e1; cases e2; refine IntsAre.cons _ _ ?_)
    cases hp
    exact IntsAre.nil
end
end Mine
end
section
open PySem PySem.W PyProof.Rows PySem.Calls
namespace Mine
theorem fill4 : PySem.Challenge.rw_mq0061_01 = PySem.Challenge.rw_mq0061_01 ∧ (hd.heap_39 = hd.heap_39) := by
  k_fill
  exact ⟨rfl, rfl⟩
section
variable {prog : Program} {w : World} {A : Around} {E : Value → Shared → Prop} {s : Shared} {env : Env} {h₀ : Heap} {x : Str} {body : List Stmt} {Q : Flow → Shared → Prop}
/-- a loop over a list of any values that stands in the base, by an invariant over the names and the ledger -/
theorem iter_any {l : Addr} {its : Array Value} {m₀ : Str → Option Value} {news : List (Addr × Obj)} (J : Nat → (Str → Option Value) → List (Addr × Obj) → Prop)
    (hh : A.handled = none) (hl : h₀.IsList l its) (F : Fr h₀ env.locals s.heap m₀) (N : News h₀ env.locals s.heap news) (hj : J 0 m₀ news)
    (turn : ∀ i v m₁ news₁ h tk own, its[i]? = some v → news₁.map (·.1) = news.map (·.1) → OwnOff own (news.map (·.1)) → J i m₁ news₁ → Fr h₀ env.locals h (fun y => if y = x then some v else m₁ y) → News h₀ env.locals h (news₁ ++ own) →
      wpAny (model prog w) A (execs body env) (InvPostN h₀ env.locals (J (i + 1)) own (news.map (·.1)) { s with heap := h, toks := tk } Q) E { s with heap := h, toks := tk })
    (done : ∀ m₁ news₁ h tk, J its.size m₁ news₁ → Fr h₀ env.locals h m₁ → News h₀ env.locals h news₁ → Q .next { s with heap := h, toks := tk }) :
    wpAny (model prog w) A (pyIter (.ref l)) (fun it s₂ => LoopAtV prog w A h₀ env x body Q E it s₂) E s := by
  have hls : s.heap.IsList l its := hl.at fun o e => F.keep l o e
  obtain ⟨ol, hol, _⟩ := id hl
  have hlt : l < h₀.objs.size := Heap.lt_size hol
  have hlL : l < env.locals := Nat.lt_of_lt_of_le hlt F.above
  have hLs : env.locals < s.heap.objs.size := F.ns.lt
  have hne : l ≠ s.heap.objs.size := Nat.ne_of_lt (Nat.lt_trans hlL hLs)
  refine wpAny_pyIter_list hls ?_
  have W := Walks.list (prog := prog) (w := w) hh s.heap.objs.size l hne its
  have nI : ∀ p ∈ news, p.1 ≠ s.heap.objs.size := fun p hp => Nat.ne_of_lt (Heap.lt_size (N p hp).1)
  have nl : ∀ p ∈ news, p.1 ≠ l := fun p hp e => by have := (N p hp).2.2; rw [e, hol] at this; cases this
  refine ⟨_, _, _, its.size, _, _, m₀, news, fun i m₁ n₁ => n₁.map (·.1) = news.map (·.1) ∧ J i m₁ n₁, rfl, W, ?_, ?_, ?_, ⟨⟨_, Heap.get?_push_size _ rfl, rfl, rfl⟩, hls.at fun o e => Heap.get?_push_of_some _ e⟩, F.push _, fun p hp => ⟨Heap.get?_push_of_some _ (N p hp).1, (N p hp).2⟩, ⟨rfl, hj⟩, ?_, ?_⟩
  · intro hm
    rcases List.mem_cons.mp hm with e | hm
    · rw [e] at hLs; exact Nat.lt_irrefl _ hLs
    · rw [List.mem_singleton.mp hm] at hlL; exact Nat.lt_irrefl _ hlL
  · intro b hb
    rw [List.mem_singleton.mp hb]
    exact next_is_new F
  · intro p hp hI
    exact nI p hp (List.mem_singleton.mp hI)
  · rintro i v m₁ news₁ s₁ own ⟨hh', tk', rfl⟩ hin hP ⟨hadr, hJ⟩ hoff hown _ _ _ F₁ N₁
    have hsep : OwnOff own (news.map (·.1)) := by
      intro p hp b hb e
      obtain ⟨q, hq, rfl⟩ := List.mem_map.mp hb
      rcases List.mem_cons.mp (hown p hp) with h1 | h1
      · exact nI q hq (e ▸ h1)
      · exact nl q hq (e ▸ List.mem_singleton.mp h1)
    have N₂ : News h₀ env.locals hh' (news₁ ++ own) := fun p hp => N₁ p ((List.mem_append.mp hp).elim (fun h => List.mem_append.mpr (.inr h)) fun h => List.mem_append.mpr (.inl h))
    refine wpAny_mono (turn i v m₁ news₁ hh' tk' own hP hadr hsep hJ F₁ N₂) (fun f s₂ p => ?_) fun _ _ e => e
    have fin : InvEndN h₀ env.locals (J (i + 1)) own (news.map (·.1)) { s with heap := hh', toks := tk' } s₂ → LoopStepU h₀ env.locals [s.heap.objs.size] own (fun m₁ n₁ => n₁.map (·.1) = news.map (·.1) ∧ J (i + 1) m₁ n₁) { s with heap := hh', toks := tk' } .next s₂ := by
      rintro ⟨h', tk, m', news', nx, e, F', N', hn, ho, ha, hm⟩
      refine ⟨rfl, h', tk, m', nx, e, F', fun p hp => N' p ((List.mem_append.mp hp).elim (ho p) (hn p)), fun p hp hq => ?_, ha, hm⟩
      have h1 : p.1 ∈ news.map (·.1) := ha ▸ List.mem_map.mpr ⟨p, hp, rfl⟩
      obtain ⟨q, hq1, hq2⟩ := List.mem_map.mp h1
      exact nI q hq1 (hq2.trans (List.mem_singleton.mp hq))
    cases f with
    | ret v => exact .ret p
    | brk => exact .brk p
    | next => exact .next (fin p)
    | cont => exact .cont (fin p)
  · rintro h' tk m' news' F' N' _ ⟨_, hJ⟩
    exact done m' news' h' tk hJ F' N'
end
/-- a callable that the call's own keeping knows -/
def Kp (w : World) (f : Value) (h : Heap) : Prop := ∃ k, (k = Keeper.frame ∨ k = Keeper.machine ∨ k = Keeper.boundFrame) ∧ Looks (Mo w) h (keeperOf f) k
theorem Kp.keeps {w : World} {f : Value} {h h' : Heap} (x : Kp w f h) (k : ∀ b o, h.get? b = some o → h'.get? b = some o) : Kp w f h' := let ⟨q, a, b⟩ := x; ⟨q, a, b.keeps k⟩
/-- a call by a name of the frame, its one argument a name of the frame -/
theorem call_name {w : World} {A : Around} {s : Shared} {E : Value → Shared → Prop} {h₀ : Heap} {L a : Addr} {m : Str → Option Value} {cn : Str} {cs : Scope} {ccd : Value} {f x : Str} {pf px pos : Pos} {fv xv : Value} {Q : Value → Shared → Prop}
    (F : Fr h₀ L s.heap m) (hf : m f = some fv) (hx : m x = some xv) (hk : Kp w fv s.heap) (h : wpAny (Mo w) A (call fv [xv]) Q E s)
    (k1 : cs.kind = .function := by rfl) (l1 : (envOf cn cs L a ccd).kindOf f = some .local := by rfl) (l2 : (envOf cn cs L a ccd).kindOf x = some .local := by rfl)
    (d1 : (f == ("__debug__" : Str)) = false := by decide) (d2 : (x == ("__debug__" : Str)) = false := by decide) :
    wpAny (Mo w) A (eval (.Call (.Name f pf) [.Name x px] [] pos) (envOf cn cs L a ccd)) Q E s := by
  refine Call_ (ld F hf ?_ k1 l1 d1)
  refine callWith_of (P := fun h => Kp w fv h) rfl (fun h x => x) (evalArgs_plain (args_cons (ld F hx ?_ k1 l2 d2)))
  exact args_nil ⟨hk, h⟩
end Mine
end
section
open PySem PySem.W PyProof.Rows PySem.Calls
namespace Mine
theorem fill5 : PySem.Challenge.rw_mq0061_01 = PySem.Challenge.rw_mq0061_01 ∧ (hd.heap_39 = hd.heap_39) := by
  k_fill
  exact ⟨rfl, rfl⟩
/-- what a test makes of a value -/
def Tr (h : Heap) (r : Value) (b : Bool) : Prop := r = .bool b ∨ ∃ a xs, r = .ref a ∧ h.IsList a xs ∧ (xs.size : Int) < 2 ^ 63 ∧ b = !xs.isEmpty
theorem Tr.truthy {w : World} {A : Around} {s : Shared} {E : Value → Shared → Prop} {Q : Bool → Shared → Prop} {r : Value} {b : Bool} (t : Tr s.heap r b) (h : ∀ tk, Q b { s with toks := tk }) : wpAny (Mo w) A (truthy r) Q E s := by
  rcases t with rfl | ⟨a, xs, rfl, hl, hz, rfl⟩
  · exact wpAny_truthy_bool (h s.toks)
  · exact wpAny_truthy_list hl hz (h _)
/-- a judge: it tells every item, and keeps all -/
def Judge (w : World) (s : Shared) (pred : Value) (p : Value → Bool) (its : List Value) : Prop :=
  ∀ v ∈ its, ∀ s' A', AOk A' 905 → Keeps s s' → wpAny (Mo w) A' (call pred [v]) (Endv s' fun r h => Tr h r (p v)) NoE s'
section
variable {w : World} {A : Around} {s : Shared} {p : Program} {loose : List Str} {mean : ExcName → Option Value} {mg mb : Str → Option Value}
local macro_rules | `(tactic| walk_at "exec For Name Name cons nil") => `(tactic| refine stuck ?_)
local macro_rules | `(tactic| walk_at "exec If") => `(tactic| refine stuck ?_)
set_option maxRecDepth 100000
set_option maxHeartbeats 8000000
theorem split_spec (G : Gd w p loose mean mg mb s.heap) (hA : AOk A 900) {l : Addr} {its : Array Value} {pred : Value} {q : Value → Bool} (hl : s.heap.IsList l its) (hz : its.size ≤ 1000) (hK : Kp w pred s.heap) (hJ : Judge w s pred q its.toList) :
    wpAny (Mo w) A (call (.ref 21) [.ref l, pred]) (Endv s fun r h => ∃ T y n ys ns, r = .ref T ∧ s.heap.get? T = none ∧ s.heap.get? y = none ∧ s.heap.get? n = none ∧ IsTup h T #[.ref y, .ref n] ∧ h.IsList y ys ∧ h.IsList n ns ∧ ys.toList = its.toList.filter q ∧ ns.toList = its.toList.filter (fun v => !q v)) NoE s := by
  refine' call_def (binds := [(Str.ofString "s", .ref l), (Str.ofString "predicate", pred)]) G hA ?ho ?hcd ?hb ?hl ?h ?c1 ?c2 ?c3 ?c4 ?c5
  case ho => k_is
  case hcd => k_is
  case hb => exact BindsTo.of_eq rfl
  case hl => exact locs rfl
  case c1 => rfl
  case c2 => rfl
  case c3 => rfl
  case c4 => decide
  case c5 => decide
  intro L' h₁ F N X T hA'
  w_on
  k_steps
  rename_i y' _ _ _ n' _ hlt _ F' N'
  try dsimp only at N'
  refine unstuck (For_invV s.heap rfl rfl (ld F' rfl ?_))
  refine iter_any (fun i m news => (∀ z, z ≠ Str.ofString "x" → m z = (if z = Str.ofString "no" then some (.ref n') else if z = Str.ofString "yes" then some (.ref y') else [(Str.ofString "s", Value.ref l), (Str.ofString "predicate", pred)].reverse.lookup z)) ∧
    ∃ ya na cy cn, news = [(n', W.listOf na cn), (y', W.listOf ya cy)] ∧ ya.toList = (its.toList.take i).filter q ∧ na.toList = (its.toList.take i).filter (fun v => !q v)) hA'.hd hl F' N' ⟨fun _ _ => rfl, #[], #[], _, _, rfl, by simp, by simp⟩ ?_ ?_
  · rintro i v m₁ news₁ h tk own hi - hoff ⟨hm, ya, na, cy, cn, rfl, hy, hn⟩ F₁ N₁
    have F₂ : Fr s.heap L' h (fun z => if z = Str.ofString "x" then some v else if z = Str.ofString "no" then some (.ref n') else if z = Str.ofString "yes" then some (.ref y') else [(Str.ofString "s", Value.ref l), (Str.ofString "predicate", pred)].reverse.lookup z) := by
      have e : (fun y => if y = Str.ofString "x" then some v else m₁ y) = (fun z => if z = Str.ofString "x" then some v else if z = Str.ofString "no" then some (.ref n') else if z = Str.ofString "yes" then some (.ref y') else [(Str.ofString "s", Value.ref l), (Str.ofString "predicate", pred)].reverse.lookup z) := by
        funext z
        by_cases hz : z = Str.ofString "x"
        · simp only [if_pos hz]
        · simp only [if_neg hz]; exact hm z hz
      rw [← e]; exact F₁
    have N₂ : News s.heap L' h ((n', W.listOf na cn) :: (y', W.listOf ya cy) :: own) := N₁
    simp only [List.map_cons, List.map_nil] at hoff
    have hmem : v ∈ its.toList := List.mem_of_getElem? (by simpa using hi)
    have hlen : ∀ r : Value → Bool, ((its.toList.take i).filter r).length ≤ 1000 := fun r => by
      have a1 := List.length_filter_le r (its.toList.take i)
      have a2 := List.length_take_le' i its.toList
      have a3 : its.toList.length = its.size := by simp
      omega
    have hya : ya.size ≤ 1000 := by have := hlen q; rw [← hy] at this; simpa using this
    have hna : na.size ≤ 1000 := by have := hlen (fun v => !q v); rw [← hn] at this; simpa using this
    have htk : its.toList.take (i + 1) = its.toList.take i ++ [v] := by
      rw [List.take_add_one, show its.toList[i]? = some v from by simpa using hi]; rfl
    clear F₁ N₁ hm F' N'
    k_steps
    refine unstuck (wpAny_If (isTrue_plain (call_name F₂ rfl rfl (hK.keeps F₂.keep) (use_c F₂ N₂ X T (fun _ => hJ v hmem _ _ (hA'.mono (by decide)) ⟨_, _, rfl, F₂.keep⟩) ?_))))
    intro r h2 tk2 hr k2 F₃ N₃
    refine hr.truthy (fun tk3 => ?_)
    clear F₂ N₂
    cases hq : q v
    · simp only [Bool.false_eq_true, if_false]
      k_steps
      show wpAny _ _ (call (Value.builtin "list.append") [Value.ref n', v]) _ _ _
      refine append_K (n := cn) F₃ N₃ (Upd.head ?_) ?_ (by have := sizeLine_eq; omega)
      · intro p hp
        rcases List.mem_cons.mp hp with rfl | hp
        · exact Nat.ne_of_lt hlt
        · exact hoff p hp _ (by simp)
      intro h3 F₄ N₄
      clear F₃ N₃
      k_steps
      refine InvEndN.intro F₄ N₄ (nx := [(n', W.listOf (na.push v) (cn + 1)), (y', W.listOf ya cy)]) ⟨fun z hz => if_neg hz, ya, na.push v, cy, cn + 1, rfl, ?_, ?_⟩ rfl ?_ ?_
      · rw [htk, List.filter_append, hy]; simp [hq]
      · rw [htk, List.filter_append, Array.toList_push, hn]; simp [hq]
      · intro p hp; simp only [List.mem_cons, List.not_mem_nil, or_false] at hp ⊢; rcases hp with h | h <;> simp [h]
      · intro p hp; exact List.mem_cons_of_mem _ (List.mem_cons_of_mem _ hp)
    · simp only [if_true]
      k_steps
      show wpAny _ _ (call (Value.builtin "list.append") [Value.ref y', v]) _ _ _
      refine append_K (n := cy) F₃ N₃ (Upd.tail (Nat.ne_of_gt hlt) (Upd.head ?_)) ?_ (by have := sizeLine_eq; omega)
      · intro p hp
        exact hoff p hp _ (by simp)
      intro h3 F₄ N₄
      clear F₃ N₃
      k_steps
      refine InvEndN.intro F₄ N₄ (nx := [(n', W.listOf na cn), (y', W.listOf (ya.push v) (cy + 1))]) ⟨fun z hz => if_neg hz, ya.push v, na, cy + 1, cn, rfl, ?_, ?_⟩ rfl ?_ ?_
      · rw [htk, List.filter_append, Array.toList_push, hy]; simp [hq]
      · rw [htk, List.filter_append, hn]; simp [hq]
      · intro p hp; simp only [List.mem_cons, List.not_mem_nil, or_false] at hp ⊢; rcases hp with h | h <;> simp [h]
      · intro p hp; exact List.mem_cons_of_mem _ (List.mem_cons_of_mem _ hp)
  · rintro m₁ news₁ h tk ⟨hm, ya, na, cy, cn, rfl, hy, hn⟩ F₁ N₁
    have F₂ : Fr s.heap L' h (fun z => if z = Str.ofString "x" then m₁ z else if z = Str.ofString "no" then some (.ref n') else if z = Str.ofString "yes" then some (.ref y') else [(Str.ofString "s", Value.ref l), (Str.ofString "predicate", pred)].reverse.lookup z) := by
      have e : m₁ = (fun z => if z = Str.ofString "x" then m₁ z else if z = Str.ofString "no" then some (.ref n') else if z = Str.ofString "yes" then some (.ref y') else [(Str.ofString "s", Value.ref l), (Str.ofString "predicate", pred)].reverse.lookup z) := by
        funext z
        by_cases hz : z = Str.ofString "x"
        · simp only [if_pos hz]
        · simp only [if_neg hz]; exact hm z hz
      rw [← e]; exact F₁
    have N₂ : News s.heap L' h [(n', W.listOf na cn), (y', W.listOf ya cy)] := N₁
    clear F₁ N₁ hm F' N'
    dsimp only
    k_steps
    rename_i D' h3 F₄ N₄ l3
    rw [List.take_of_length_le (by simp)] at hy hn
    refine ⟨⟨D', y', n', ya, na, rfl, (N₄ _ (.head _)).2.2, (N₄ _ (.tail _ (.tail _ (.head _)))).2.2, (N₄ _ (.tail _ (.head _))).2.2, News.isTup N₄ (.head _), News.isList N₄ (.tail _ (.tail _ (.head _))), News.isList N₄ (.tail _ (.head _)), hy, hn⟩, _, _, rfl, F₄.keep⟩
end
end Mine
end
section
open PySem PySem.W PyProof.Rows PySem.Calls
namespace Mine
theorem fill6 : PySem.Challenge.rw_mq0061_01 = PySem.Challenge.rw_mq0061_01 ∧ (hd.heap_39 = hd.heap_39) := by
  k_fill
  exact ⟨rfl, rfl⟩
/-- all but one address is kept -/
def KeepsBut (P : Addr) (s s' : Shared) : Prop := ∃ h' tk, s' = { s with heap := h', toks := tk } ∧ ∀ b o, b ≠ P → s.heap.get? b = some o → h'.get? b = some o
/-- a code object's table: nothing is made yet, or the one lambda's code is -/
def TabIs (h : Heap) (P : Addr) (line col : Nat) (qual : Str) : Prop :=
  h.get? P = some (tabObj #[]) ∨ ∃ c', h.get? P = some (tabObj #[rawInt line, rawInt col, .ref c']) ∧ h.CodeRec (.ref c') qual
section
variable {w : World} {A : Around} {s : Shared} {E : Value → Shared → Prop} {p : Program} {loose : List Str} {mean : ExcName → Option Value} {mg mb : Str → Option Value}
/-- a call of a def of the text whose names are captured, and whose code's table may turn -/
theorem call_defC {Q : Value → Shared → Prop} {d : Nat} {h₀ : Heap} {P : Addr} {oP : Obj}
    {name qual : Str} {params : Arguments} {body : List Stmt} {scope : Scope} {dV kV doc pm cdv ct oc : Value} {an od : Option Addr} {osl : Array (Option Value)} {f : Addr} {args : List Value} {binds : List (Str × Value)}
    (G : Gd w p loose mean mg mb h₀) (k₀ : ∀ b o, h₀.get? b = some o → s.heap.get? b = some o) (hP0 : h₀.get? P = none) (hP : s.heap.get? P = some oP) (hA : AOk A d)
    (ho : (hd.heap_39 w.params).lookup f = some ⟨oc, od, .func (fnOf name qual params body scope dV kV doc pm an cdv ct), osl⟩) (hcd : codeIn (hd.heap_39 w.params) cdv qual = true)
    (hbind : BindsTo s (fnOf name qual params body scope dV kV doc pm an cdv ct) ⟨args, []⟩ binds)
    (hkind : (binds.all fun y => scope.names.lookup y.1 == some .local || scope.names.lookup y.1 == some .cell) = true)
    (hnd : ((cellsFrom 0 scope.names []).map (·.1)).Nodup)
    (h : ∀ g L' h₁ tk cells, (∀ b o, b ≠ P → s.heap.get? b = some o → g.get? b = some o) → g.get? P = none → (∀ b o, h₀.get? b = some o → g.get? b = some o) → P < L' → Fr g L' h₁ (bindL (envOfC qual scope L' f cdv).kindOf binds fun _ => none) → News g L' h₁ (cells ++ [(P, oP)]) →
      CellsAre (bindC (envOfC qual scope L' f cdv).kindOf binds fun _ => none) (cellsFrom (L' + 1) scope.names []) cells → (hd.heap_39 w.params).In g → Top p loose mean mg mb g → AOk (A.deeper (envOfC qual scope L' f cdv)) (d + 1) →
      wpAny (Mo w) (A.deeper (envOfC qual scope L' f cdv)) (execs body (envOfC qual scope L' f cdv)) (fun fl s' => Q (match fl with | .ret v => v | _ => .none) s') NoE { s with heap := h₁, toks := tk })
    (hco : scope.isCoroutine = false) (hgen : scope.isGenerator = false) (hk : scope.kind = .function) (hd : d ≤ 990) : wpAny (Mo w) A (call (.ref f) args) Q E s := by
  have kg : ∀ b o, h₀.get? b = some o → (hideAll s.heap [P]).get? b = some o := fun b o e => hideAll_get _ (k₀ b o e) (by
    intro q; rw [List.mem_singleton.mp q, hP0] at e; cases e)
  have G' := G.keeps k₀
  refine wpAny_call (codeAny_call_function (hA.room hd) (G'.X _ _ ho) rfl hco hgen rfl (codeRec_of G'.X hcd) (hbind _ _ _ _ ?_))
  refine wpAny_newFunctionEnv_cells hk (kindsX hkind _) fun env' he s' x => ?_
  subst he
  refine ⟨G'.T.nolimit.keeps x.toInCall.keep, codeAny_func ?_⟩
  obtain ⟨h₁, tk, rfl, _⟩ := x.done
  have hk₁ := x.toInCall.keep
  obtain ⟨cells, NC, Y⟩ := Cl.news (h₀ := s.heap) (Nat.le_refl _) fun n c hm => ⟨x.cell n c (lookup_of_mem_nodup (cellsFrom_names scope.names 0 (s.heap.objs.size + 1) [] [] rfl ▸ hnd) hm), x.above n c hm⟩
  refine wpAny_mono (h (hideAll s.heap [P]) s.heap.objs.size h₁ tk cells (fun b o hb e => hideAll_get _ e (by simpa using hb)) (hideAll_none _ (List.mem_singleton.mpr rfl)) kg (Heap.lt_size hP) ⟨x.toInCall.ns, fun b o e => hk₁ b o (of_hideAll _ e), Nat.le_of_eq (hideAll_size _ _)⟩ (fun q hq => ?_) Y (G.keeps kg).X (G.keeps kg).T (hA.deeper _)) (fun fl s' hl => hl) fun _ _ y => y.elim
  rcases List.mem_append.mp hq with hq | hq
  · refine ⟨(NC q hq).1, (NC q hq).2.1, ?_⟩
    cases z : (hideAll s.heap [P]).get? q.1 with
    | none => rfl
    | some o => have := of_hideAll _ z; rw [(NC q hq).2.2] at this; cases this
  · rw [List.mem_singleton.mp hq]
    exact ⟨hk₁ _ _ hP, Nat.ne_of_lt (Heap.lt_size hP), hideAll_none _ (List.mem_singleton.mpr rfl)⟩
end
end Mine
end
section
open PySem PySem.W PyProof.Rows PySem.Calls
namespace Mine
section
variable {prog : Program} {w : World} {A : Around} {E : Value → Shared → Prop} {s : Shared}
/-- the items of a range, collected -/
theorem collect_range {Q : List Value → Shared → Prop} {r : Addr} {a b c : Int} {t u v : Tok} {n : Nat} (hh : A.handled = none) (hr : IsRange s.heap r a b c t u v) (hsmall : Builtin.Range.small a b c = true)
    (hn : Builtin.Range.rangeSize a b c = n) (hlen : n ≤ 2 ^ 24)
    (hQ : ∀ h' tk acc, (∀ b o, s.heap.get? b = some o → h'.get? b = some o) → ItemsOf (fun i v => ∃ t, v = .int (a + i * c) t) acc n → Q acc.toList { s with heap := h', toks := tk }) :
    wpAny (model prog w) A (collect (.ref r)) Q E s := by
  unfold collect
  refine wpAny_bind (wpAny_runValue (codeAny_builtin F.entry_proto_collect ?_))
  rw [Around.under_plainId F.plain_proto_collect _]
  show wpAny _ A.in1 (newList [] >>= fun l => again (.builtin "list.__iadd__" ⟨[l, .ref r], []⟩)) _ _ s
  refine wpAny_bind (wpAny_newObj_type ?_)
  refine wpAny_pure ⟨plainId_quiet F.plain_list_iadd _, codeAny_builtin F.entry_list_iadd ?_⟩
  rw [Around.under_plainId F.plain_list_iadd _]
  show wpAny _ A.in1 (Builtin.List.listExtendWith (.ref s.heap.objs.size) (.ref r) (.ref s.heap.objs.size)) _ _ _
  refine wpAny_extend_range (R := fun res s' => match res with | .ok (.ret v) => wpAny (model prog w) A (match v with | .ref a => (do match (← load a).data with | .seq xs _ => pure xs.toList | _ => unsupported "internal:collect" : Sem (List Value)) | _ => unsupported "internal:collect") Q E s' | .ok _ => False | .error e => E e s') (s := { s with heap := s.heap.push { cls := .type "list", data := .seq ([] : List Value).toArray } }) hh (Heap.get?_push_of_some _ hr) hsmall hn hlen s.heap.objs.size _ 0 (Heap.get?_push_size _ rfl) fun h' tk acc c' hk hS hacc => ?_
  show wpAny _ A (load s.heap.objs.size >>= _) _ _ _
  refine wpAny_bind (wpAny_load hS ?_)
  exact wpAny_pure (hQ h' tk acc (fun b o e => hk b o (Nat.ne_of_lt (Heap.lt_size e)) (Heap.get?_push_of_some _ e)) hacc)
end
section
variable {prog : Program} {w : World} {A : Around} {E : Value → Shared → Prop} {s : Shared} {h₀ : Heap} {L : Addr} {m : Str → Option Value} {news : List (Addr × Obj)}
/-- sorted over a range, by a key -/
theorem sorted_range {r : Addr} {n : Nat} {b' : Int} {t u v : Tok} {f : Addr} {Q : Value → Shared → Prop} (hh : A.handled = none) (F : Fr h₀ L s.heap m) (N : News h₀ L s.heap news) (hr : IsRange s.heap r 0 b' 1 t u v) (hb : b' = n) (h2 : 2 ≤ n) (h64 : n < 64)
    (h : ∀ vs D kS e1 h' tk, vs.length = n → (∀ (i : Nat) v, vs[i]? = some v → ∃ t, v = Value.int (i : Nat) t) → Fr h₀ L h' m → News h₀ L h' ((kS, seqObj "list" #[] 0) :: (D, seqObj "list" #[] e1) :: news) → D < kS → (∀ q ∈ news, q.1 < D) →
      KatKeys prog w A.in1.in1 h₀ L m kS (.ref f) (fun ks e s' => wpAny (model prog w) A.in1.in1 (keyKind' (List.toArray ks)) (fun κ s'' => (kas_sort n).kasWp (kas_ask prog w A.in1.in1 κ ks) (fun p s3 => KatFin h₀ L m kS D ks e e1 (p.toList.map fun i => vs.getD i Value.none) (fun s4 => Q (.ref D) s4) s3) s'') (fun _ _ => False) s') vs [] 0 { s with heap := h', toks := tk }) :
    wpAny (model prog w) A (call (.builtin "sorted") [.ref r] [(Str.ofString "key", .ref f)]) Q E s := by
  subst hb
  refine call_function_entry_kw kind_sorted plain_sorted entry_sorted (ksk_s1 _ _) ?_
  unfold Builtin.«sorted»
  refine wpAny_bind (m := checkCount "sorted" 1 1 _) (wpAny_pure ?_)
  refine wpAny_bind (collect_range (n := n) hh hr ?_ ?_ (by omega) fun h1 tk1 acc hk1 hacc => ?_)
  · exact small_one (by omega) (by omega) (by omega) (by omega)
  · rw [rangeSize_nat]; omega
  have hvs : acc.toList.length = n := by simpa using hacc.1
  have hit : ∀ (i : Nat) v, acc.toList[i]? = some v → ∃ t, v = Value.int (i : Nat) t := fun i v hv => by
    obtain ⟨t, e⟩ := hacc.2 i v (by simpa using hv)
    exact ⟨t, by rw [e]; congr 1; omega⟩
  generalize acc.toList = vs at hvs hit
  refine wpAny_bind (wpAny_newList ?_ (by rw [sizeLine_eq]; omega))
  have hoL : (h1.push (seqObj "list" vs.toArray 0)).get? h1.objs.size = some (seqObj "list" vs.toArray 0) := Heap.get?_push_size _ rfl
  have keep : ∀ b o, s.heap.get? b = some o → (h1.push (seqObj "list" vs.toArray 0)).get? b = some o := fun b o q => Heap.get?_push_of_some _ (hk1 b o q)
  have F1 := F.keeps hk1
  have N1 := N.grown hk1
  have hL : L < h1.objs.size := F1.ns.lt
  refine wpAny_bind (wpAny_holding (wpAny_call_entry_kw slot_list_sort ⟨_, hoL, rfl⟩ entry_list_sort ?body (ksk_l1 _ _)))
  show wpAny (model prog w) A.in1.in1 (Builtin.«list.sort» ⟨[.ref h1.objs.size], [(Str.ofString "key", .ref f)]⟩) _ _ _
  rw [ksk_t1]
  refine kat_keyed (s := { s with heap := h1.push (seqObj "list" vs.toArray 0), toks := tk1 }) (F.keeps keep) (N.grown keep) hoL (Nat.ne_of_gt hL) (Heap.get?_none_of_le (Nat.le_trans F.above (Nat.le_of_lt hL)))
    (fun p hp => Nat.ne_of_lt (Heap.lt_size (N1 p hp).1)) (by omega) (by omega) fun kS e1 h' F' N' l0 l1 => ?_
  refine kat_keys_mono (h vs _ kS e1 h' tk1 hvs hit F' N' l0 (fun q hq => Heap.lt_size (N1 q hq).1)) fun ks e s' hl' hd => ?_
  have hl2 : ks.length = vs.length := by simpa using hl'
  refine wpAny_mono hd (fun κ s'' hk => ?_) fun _ _ x => x
  show (kas_sort vs.length).kasWp (kas_ask prog w A.in1.in1 κ ks) _ s''
  rw [hvs]
  rw [kat_ask_eq (vs := vs) hl2] at hk ⊢
  exact kas_wp_mono hk fun p s3 hk' => hk'.mono fun s4 hq => ⟨_, rfl, wpAny_pure ⟨_, rfl, hq⟩⟩
end
end Mine
end
section
open PySem PySem.W PyProof.Rows PySem.Calls
namespace Mine
/-- a tree of questions, answered by a key: every question is about places below n -/
def AskOk (n : Nat) (κ : Nat → Int) {α : Type} : KasT α → (α → Prop) → Prop
  | .ret a, Q => Q a
  | .ask i j k, Q => i < n ∧ j < n ∧ AskOk n κ (k (decide (κ i < κ j))) Q
theorem AskOk.mono {n : Nat} {κ : Nat → Int} {α : Type} {Q Q' : α → Prop} (hq : ∀ a, Q a → Q' a) : ∀ t : KasT α, AskOk n κ t Q → AskOk n κ t Q'
  | .ret a, h => hq a h
  | .ask _ _ k, ⟨a, b, h⟩ => ⟨a, b, AskOk.mono hq (k _) h⟩
theorem AskOk.bind {n : Nat} {κ : Nat → Int} {α β : Type} {Q : β → Prop} {f : α → KasT β} : ∀ t : KasT α, AskOk n κ t (fun a => AskOk n κ (f a) Q) → AskOk n κ (t.bind f) Q
  | .ret _, h => h
  | .ask _ _ k, ⟨a, b, h⟩ => ⟨a, b, AskOk.bind (k _) h⟩
theorem AskOk.wp {n : Nat} {κ : Nat → Int} {α : Type} {cmp : Nat → Nat → (Bool → Shared → Prop) → Shared → Prop} {I : Shared → Prop} {R : α → Prop} {Q : α → Shared → Prop}
    (hc : ∀ i j C s, i < n → j < n → I s → (∀ s', I s' → C (decide (κ i < κ j)) s') → cmp i j C s) (hq : ∀ a s, R a → I s → Q a s) : ∀ (t : KasT α) (s : Shared), AskOk n κ t R → I s → t.kasWp cmp Q s
  | .ret a, s, h, hI => hq a s h hI
  | .ask i j k, s, ⟨a, b, h⟩, hI => hc i j _ s a b hI fun s' hs' => AskOk.wp hc hq (k _) s' h hs'
def kp (κ : Nat → Int) (p : Array Nat) (k : Nat) : Int := κ (p.getD k 0)
/-- an order of the places below n -/
structure PermN (n : Nat) (p : Array Nat) : Prop where
  perm : p.toList.Perm (List.range n)
theorem PermN.size {n : Nat} {p : Array Nat} (h : PermN n p) : p.size = n := by have := h.perm.length_eq; simpa using this
theorem PermN.of {n : Nat} {p q : Array Nat} (h : PermN n p) (hq : q.Perm p) : PermN n q := ⟨(Array.perm_iff_toList_perm.mp hq).trans h.perm⟩
theorem PermN.lt {n : Nat} {p : Array Nat} (h : PermN n p) (hn : 0 < n) (k : Nat) : p.getD k 0 < n := by
  by_cases hk : k < p.size
  · have : p[k] ∈ p.toList := by simp
    have := (h.perm.mem_iff).mp this
    rw [Array.getD_eq_getD_getElem?, Array.getElem?_eq_getElem hk]
    simpa using this
  · rw [Array.getD_eq_getD_getElem?, Array.getElem?_eq_none (by omega)]; exact hn
theorem PermN.inj {n : Nat} {p : Array Nat} (h : PermN n p) {a b : Nat} (ha : a < n) (hb : b < n) (e : p.getD a 0 = p.getD b 0) : a = b := by
  have hs := h.size
  have hnd : p.toList.Nodup := h.perm.nodup_iff.mpr List.nodup_range
  rw [Array.getD_eq_getD_getElem?, Array.getD_eq_getD_getElem?, Array.getElem?_eq_getElem (by omega), Array.getElem?_eq_getElem (by omega)] at e
  have ha' : a < p.toList.length := by simp; omega
  have hb' : b < p.toList.length := by simp; omega
  have hp := List.pairwise_iff_getElem.mp hnd
  have e' : p.toList[a] = p.toList[b] := by simpa using e
  rcases Nat.lt_trichotomy a b with q | q | q
  · exact absurd e' (hp a b ha' hb' q)
  · exact q
  · exact absurd e'.symm (hp b a hb' ha' q)
theorem kp_congr {κ : Nat → Int} {p q : Array Nat} {i j : Nat} (h : p[i]? = q[j]?) : kp κ p i = kp κ q j := by
  unfold kp; rw [Array.getD_eq_getD_getElem?, Array.getD_eq_getD_getElem?, h]
def SortPre (κ : Nat → Int) (p : Array Nat) (m : Nat) : Prop := ∀ a b, a ≤ b → b < m → kp κ p a ≤ kp κ p b
theorem SortPre.of_adj {κ : Nat → Int} {p : Array Nat} {m : Nat} (h : ∀ k, 1 ≤ k → k < m → kp κ p (k - 1) ≤ kp κ p k) : SortPre κ p m := by
  intro a b hab
  induction hab with
  | refl => intro _; exact Int.le_refl _
  | step hab ih =>
    intro hb
    rename_i b
    have h1 := ih (by omega)
    have h2 := h (b + 1) (by omega) hb
    simp only [Nat.add_sub_cancel] at h2
    exact Int.le_trans h1 h2
section
variable {n : Nat} {κ : Nat → Int} {p : Array Nat}
theorem asc_ok (hp : PermN n p) (h0 : 0 < n) : ∀ f a, 1 ≤ a → a + f = n → AskOk n κ (kas_asc p f a) fun m => a ≤ m ∧ m ≤ n ∧ (∀ k, a ≤ k → k < m → kp κ p (k - 1) ≤ kp κ p k) ∧ (m < n → kp κ p m < kp κ p (m - 1))
  | 0, a, _, e => ⟨Nat.le_refl _, by omega, fun k h1 h2 => absurd h2 (by omega), fun h => absurd h (by omega)⟩
  | f + 1, a, h1, e => by
    refine ⟨hp.lt h0 _, hp.lt h0 _, ?_⟩
    by_cases hc : κ (p.getD a 0) < κ (p.getD (a - 1) 0)
    · simp only [hc, decide_true, if_true]
      exact ⟨Nat.le_refl _, by omega, fun k h1 h2 => absurd h2 (by omega), fun _ => hc⟩
    · simp only [hc, decide_false, Bool.false_eq_true, if_false]
      refine AskOk.mono (fun m hm => ?_) _ (asc_ok hp h0 f (a + 1) (by omega) (by omega))
      obtain ⟨b1, b2, b3, b4⟩ := hm
      refine ⟨by omega, b2, fun k h2 h3 => ?_, b4⟩
      by_cases hk : k = a
      · subst hk; show κ _ ≤ κ _; omega
      · exact b3 k (by omega) h3
theorem desc_ok (hp : PermN n p) (h0 : 0 < n) (hκ : ∀ i j, i < n → j < n → κ i = κ j → i = j) : ∀ f a, 1 ≤ a → a + f = n → AskOk n κ (kas_desc f p a 0) fun r => r.1 = p ∧ r.2.2 = 0 ∧ a ≤ r.2.1 ∧ r.2.1 ≤ n ∧ ∀ k, a ≤ k → k < r.2.1 → kp κ p k < kp κ p (k - 1)
  | 0, a, _, e => ⟨rfl, rfl, Nat.le_refl _, by show a ≤ n; omega, fun k h1 h2 => absurd h2 (by show ¬ k < a; omega)⟩
  | f + 1, a, h1, e => by
    refine ⟨hp.lt h0 _, hp.lt h0 _, ?_⟩
    by_cases hc : κ (p.getD a 0) < κ (p.getD (a - 1) 0)
    · simp only [hc, decide_true, if_true]
      rw [if_neg (by omega)]
      refine AskOk.mono (fun r hr => ?_) _ (desc_ok hp h0 hκ f (a + 1) (by omega) (by omega))
      obtain ⟨b0, b1, b2, b3, b4⟩ := hr
      refine ⟨b0, b1, by omega, b3, fun k h2 h3 => ?_⟩
      by_cases hk : k = a
      · subst hk; exact hc
      · exact b4 k (by omega) h3
    · simp only [hc, decide_false, Bool.false_eq_true, if_false]
      refine ⟨hp.lt h0 _, hp.lt h0 _, ?_⟩
      have hne : κ (p.getD (a - 1) 0) ≠ κ (p.getD a 0) := fun q => by
        have := hp.inj (by omega) (by omega) (hκ _ _ (hp.lt h0 _) (hp.lt h0 _) q)
        omega
      have hd : κ (p.getD (a - 1) 0) < κ (p.getD a 0) := by omega
      simp only [hd, decide_true, if_true]
      exact ⟨rfl, rfl, Nat.le_refl _, by show a ≤ n; omega, fun k h1 h2 => absurd h2 (by show ¬ k < a; omega)⟩
theorem tail3_ok (hp : PermN n p) (h0 : 0 < n) {a : Nat} (h1 : 1 ≤ a) (ha : a ≤ n) (hd : ∀ k, 1 ≤ k → k < a → kp κ p k < kp κ p (k - 1)) :
    AskOk n κ (kas_tail3 a n p) fun r => PermN n r.2 ∧ 1 ≤ r.1 ∧ r.1 ≤ n ∧ SortPre κ r.2 r.1 := by
  have hq : PermN n (kas_rev p 0 a) := hp.of (mirror_perm _ _ _ _)
  have hm : ∀ k, kp κ (kas_rev p 0 a) k = if k < a then kp κ p (a - 1 - k) else kp κ p k := fun k => by
    have e := getElem?_mirror_all (xs := p) (i := 0) (j := a) (by rw [hp.size]; exact ha) k
    by_cases hk : k < a
    · rw [if_pos ⟨Nat.zero_le _, hk⟩] at e
      rw [if_pos hk]
      have := kp_congr (κ := κ) e
      rw [show 0 + a - 1 - k = a - 1 - k from by omega] at this
      exact this
    · rw [if_neg (by omega)] at e
      rw [if_neg hk]
      exact kp_congr e
  refine AskOk.bind _ (AskOk.mono (fun m hmm => ?_) _ (asc_ok hq h0 (n - a) a h1 (by omega)))
  obtain ⟨b1, b2, b3, _⟩ := hmm
  refine ⟨hq, by show 1 ≤ m; omega, b2, SortPre.of_adj fun k k1 k2 => ?_⟩
  have k2' : k < m := k2
  by_cases hk : k < a
  · show kp κ (kas_rev p 0 a) (k - 1) ≤ kp κ (kas_rev p 0 a) k
    rw [hm, hm, if_pos (by omega), if_pos hk]
    have := hd (a - 1 - k + 1) (by omega) (by omega)
    rw [Nat.add_sub_cancel] at this
    rw [show a - 1 - (k - 1) = a - 1 - k + 1 from by omega]
    omega
  · exact b3 k (by omega) k2'
theorem count_ok (hp : PermN n p) (h2 : 2 ≤ n) (hκ : ∀ i j, i < n → j < n → κ i = κ j → i = j) :
    AskOk n κ (kas_count n p) fun r => PermN n r.2 ∧ 1 ≤ r.1 ∧ r.1 ≤ n ∧ SortPre κ r.2 r.1 := by
  have h0 : 0 < n := by omega
  refine AskOk.bind _ (AskOk.mono (fun m hm => ?_) _ (asc_ok hp h0 (n - 1) 1 (Nat.le_refl _) (by omega)))
  obtain ⟨b1, b2, b3, b4⟩ := hm
  have hs : SortPre κ p m := SortPre.of_adj b3
  by_cases hmn : m = n
  · rw [if_pos (by simpa using hmn)]
    exact ⟨hp, b1, b2, hs⟩
  · rw [if_neg (by simpa using hmn)]
    by_cases h1 : m > 1
    · rw [if_pos h1]
      refine ⟨hp.lt h0 _, hp.lt h0 _, ?_⟩
      have hle := hs 0 (m - 1) (Nat.zero_le _) (by omega)
      have hne : κ (p.getD 0 0) ≠ κ (p.getD (m - 1) 0) := fun q => by
        have := hp.inj (by omega) (by omega) (hκ _ _ (hp.lt h0 _) (hp.lt h0 _) q)
        omega
      have hlt : κ (p.getD 0 0) < κ (p.getD (m - 1) 0) := by
        have : κ (p.getD 0 0) ≤ κ (p.getD (m - 1) 0) := hle
        omega
      simp only [hlt, decide_true, if_true]
      exact ⟨hp, b1, b2, hs⟩
    · rw [if_neg h1]
      have hm1 : m = 1 := by omega
      subst hm1
      refine AskOk.bind _ (AskOk.mono (fun r hr => ?_) _ (desc_ok hp h0 hκ (n - (1 + 1)) (1 + 1) (by omega) (by omega)))
      obtain ⟨c0, c1, c2, c3, c4⟩ := hr
      rw [if_neg (by omega), c0]
      refine tail3_ok hp h0 (by omega) c3 fun k k1 k2 => ?_
      by_cases hk : k = 1
      · subst hk; exact b4 (by omega)
      · exact c4 k (by omega) k2
theorem place_ok (hp : PermN n p) {k : Nat} (hk : k < n) (hs : SortPre κ p k) : ∀ f l r, l ≤ r → r ≤ k → r - l ≤ f → (∀ j, j < l → kp κ p j ≤ kp κ p k) → (∀ j, r ≤ j → j < k → kp κ p k < kp κ p j) →
    AskOk n κ (kas_place p k f l r) fun a => a ≤ k ∧ (∀ j, j < a → kp κ p j ≤ kp κ p k) ∧ (∀ j, a ≤ j → j < k → kp κ p k < kp κ p j)
  | 0, l, r, h1, h2, h3, h4, h5 => by
    have : l = r := by omega
    subst this
    exact ⟨h2, h4, h5⟩
  | f + 1, l, r, h1, h2, h3, h4, h5 => by
    unfold kas_place
    by_cases hlr : l ≥ r
    · rw [if_pos hlr]
      have : l = r := by omega
      subst this
      exact ⟨h2, h4, h5⟩
    · rw [if_neg hlr]
      refine ⟨hp.lt (by omega) _, hp.lt (by omega) _, ?_⟩
      by_cases hc : κ (p.getD k 0) < κ (p.getD ((l + r) / 2) 0)
      · simp only [hc, decide_true, if_true]
        refine place_ok hp hk hs f l ((l + r) / 2) (by omega) (by omega) (by omega) h4 fun j j1 j2 => ?_
        have h6 := hs ((l + r) / 2) j j1 j2
        have h7 : kp κ p k < kp κ p ((l + r) / 2) := hc
        omega
      · simp only [hc, decide_false, Bool.false_eq_true, if_false]
        refine place_ok hp hk hs f ((l + r) / 2 + 1) r (by omega) h2 (by omega) (fun j j1 => ?_) h5
        have h6 := hs j ((l + r) / 2) (by omega) (by omega)
        have h7 : ¬ kp κ p k < kp κ p ((l + r) / 2) := hc
        omega
theorem bin_ok : ∀ f (p : Array Nat) k, PermN n p → k + f = n → SortPre κ p k → AskOk n κ (kas_bin f p k) fun q => PermN n q ∧ SortPre κ q n
  | 0, p, k, hp, e, hs => ⟨hp, (show k = n from by omega) ▸ hs⟩
  | f + 1, p, k, hp, e, hs => by
    have hk : k < n := by omega
    refine AskOk.bind _ (AskOk.mono (fun l hl => ?_) _ (place_ok hp hk hs k 0 k (Nat.zero_le _) (Nat.le_refl _) (by omega) (fun j hj => absurd hj (by omega)) (fun j j1 j2 => absurd j1 (by omega))))
    obtain ⟨c1, c2, c3⟩ := hl
    refine bin_ok f _ (k + 1) (hp.of (bubble_perm _ _ _)) (by omega) ?_
    have hm : ∀ j, kp κ (bubble p k (k - l)) j = if j = l then kp κ p k else if l < j ∧ j ≤ k then kp κ p (j - 1) else kp κ p j := fun j => by
      have e := getElem?_bubble (xs := p) (src := k) (by rw [hp.size]; exact hk) (k - l) (by omega) j
      rw [show k - (k - l) = l from by omega] at e
      by_cases q1 : j = l
      · rw [if_pos q1] at e ⊢; exact kp_congr e
      · rw [if_neg q1] at e ⊢
        by_cases q2 : l < j ∧ j ≤ k
        · rw [if_pos q2] at e ⊢; exact kp_congr e
        · rw [if_neg q2] at e ⊢; exact kp_congr e
    refine SortPre.of_adj fun j j1 j2 => ?_
    rw [hm, hm]
    by_cases q1 : j = l
    · subst q1
      rw [if_neg (by omega), if_neg (by omega), if_pos rfl]
      exact c2 _ (by omega)
    · rw [if_neg q1]
      by_cases q2 : l < j
      · rw [if_pos (show l < j ∧ j ≤ k from ⟨q2, by omega⟩)]
        by_cases q3 : j - 1 = l
        · rw [if_pos q3]
          have := c3 (j - 1) (by omega) (by omega)
          omega
        · rw [if_neg q3, if_pos (by omega)]
          exact hs (j - 1 - 1) (j - 1) (by omega) (by omega)
      · rw [if_neg (show ¬ (l < j ∧ j ≤ k) by omega), if_neg (by omega), if_neg (by omega)]
        exact hs (j - 1) j (by omega) (by omega)
theorem sort_ok (h2 : 2 ≤ n) (hκ : ∀ i j, i < n → j < n → κ i = κ j → i = j) : AskOk n κ (kas_sort n) fun q => PermN n q ∧ SortPre κ q n := by
  refine AskOk.bind _ (AskOk.mono (fun r hr => ?_) _ (count_ok (p := List.toArray (List.range n)) ⟨by simp⟩ h2 hκ))
  obtain ⟨c1, c2, c3, c4⟩ := hr
  by_cases hlt : r.1 < n
  · rw [if_pos hlt]
    have : max r.1 1 = r.1 := by omega
    rw [this]
    exact bin_ok _ _ _ c1 (by omega) c4
  · rw [if_neg hlt]
    have : r.1 = n := by omega
    exact ⟨c1, this ▸ c4⟩
end
end Mine
end
section
open PySem PySem.W PyProof.Rows PySem.Calls
namespace Mine
section
variable {w : World} {A : Around} {s : Shared} {E : Value → Shared → Prop}
theorem item_list {value slice : PySem.Expr} {l : Addr} {its : Array Value} {k : Int} {u : Tok} {v : Value} {Q : Value → Shared → Prop}
    (hl : s.heap.IsList l its) (h0 : 0 ≤ k) (hhi : k < 2 ^ 63) (hx : its[k.toNat]? = some v) (h : Q v s)
    (hs : subscripted slice false (.ref l) (.int k u) = operate [.ref l, .int k u] (getItem (.ref l) (.int k u)) := by with_unfolding_all rfl) :
    wpAny (Mo w) A (subscriptTail value slice (.ref l) (.int k u)) Q E s :=
  item_litK (vs := its.toList) (by simpa using hl) h0 hhi (by simpa using hx) h hs
/-- a call of a lambda -/
theorem call_lam {Q : Value → Shared → Prop} {d : Nat} {name qual : Str} {params : Arguments} {body : Expr} {scope : Scope} {cl : List (Str × Addr)} {pm ctv : Value} {c' f : Addr} {args : List Value} {binds : List (Str × Value)}
    (hlim : s.heap.NoLimit) (hA : AOk A d) (ho : s.heap.get? f = some (kla_obj name qual params body scope cl pm c' ctv)) (hcd : s.heap.CodeRec (.ref c') qual)
    (hbind : bindArgs (kla_fn name qual params body scope cl pm (.ref c') ctv) ⟨args, []⟩ = pure binds) (hloc : ∀ y ∈ binds, scope.names.lookup y.1 = some .local)
    (h : ∀ L' h₁, Fr s.heap L' h₁ (fun y => binds.reverse.lookup y) → AOk (A.deeper (envX qual scope L' f (.ref c') cl)) (d + 1) →
      wpAny (Mo w) (A.deeper (envX qual scope L' f (.ref c') cl)) (eval body (envX qual scope L' f (.ref c') cl)) Q NoE { s with heap := h₁, toks := s.toks + binds.length })
    (hco : scope.isCoroutine = false) (hgen : scope.isGenerator = false) (hk : scope.kind = .function) (hcell : ∀ x ∈ scope.names, x.2 ≠ .cell) (hd : d ≤ 990) :
    wpAny (Mo w) A (call (.ref f) args) Q E s := by
  refine wpAny_call (kla_callFunE (hA.room hd) ho rfl hco hgen rfl hcd ?_)
  rw [hbind]
  refine wpAny_pure (wpAny_newFunctionEnv hcell hloc (fun h₁ hns hsb => ⟨hlim.fresh _ hsb, ?_⟩) hk)
  show codeAny _ _ (.expr body (envX qual scope s.heap.objs.size f (.ref c') cl)) _ _
  have hk₁ : ∀ b o, s.heap.get? b = some o → h₁.get? b = some o := fun b o e => hsb.extBut b o (Nat.ne_of_lt (Heap.lt_size e)) (Heap.get?_push_of_some _ e)
  exact kla_codeExpr (wpAny_mono (h s.heap.objs.size h₁ ⟨hns, hk₁, Nat.le_refl _⟩ (hA.deeper _)) (fun v s' hv => hv) fun _ _ y => y.elim)
theorem name_free {h₀ : Heap} {L a c : Addr} {m : Str → Option Value} {cn : Str} {cs : Scope} {ccd : Value} {cl : List (Str × Addr)} {x : Str} {pos : Pos} {v : Value} {o : Obj} {Q : Value → Shared → Prop}
    (F : Fr h₀ L s.heap m) (hc : cl.lookup x = some c) (ho : h₀.get? c = some o) (hd : o.data = .cell (some v)) (h : Q v s)
    (hk : cs.kind = .function := by rfl) (hx : (envX cn cs L a ccd cl).kindOf x = some .free := by rfl) (hb : (x == ("__debug__" : Str)) = false := by decide) (hn : (x == ("__classdict__" : Str)) = false := by decide) :
    wpAny (Mo w) A (eval (.Name x pos) (envX cn cs L a ccd cl)) Q E s := wpAny_Name (wpAny_loadName_free hk hx hc ⟨o, F.keep _ _ ho, hd⟩ h hn) hb
set_option maxRecDepth 100000
set_option maxHeartbeats 4000000
/-- the key of a place: the rank there, and the place -/
theorem lam_key {qual : Str} {pa p1 p2 p3 p4 p5 : Pos} {kt : Nat} {mr : List (Str × Const)} {pm ctv : Value} {c' f cell l : Addr} {oc : Obj} {vs : List Value} {i : Nat} {t : Tok} {r : Int} {tr : Tok}
    (hlim : s.heap.NoLimit) (hA : AOk A 940)
    (ho : s.heap.get? f = some (kla_obj (Str.ofString "<lambda>") qual { posonlyargs := [], args := [{ arg := Str.ofString "i", annotation := none, pos := pa }], vararg := none, kwonlyargs := [], kw_defaults := [], kwarg := none, defaults := [] }
      (.Tuple [.Subscript (.Name (Str.ofString "ranks") p1) (.Name (Str.ofString "i") p2) p3, .Name (Str.ofString "i") p4] kt p5) { kind := .function, names := [(Str.ofString "i", .local), (Str.ofString "ranks", .free)], isGenerator := false, isCoroutine := false, more := mr } [(Str.ofString "ranks", cell)] pm c' ctv))
    (hcd : s.heap.CodeRec (.ref c') qual) (hc : s.heap.get? cell = some oc) (hcv : oc.data = .cell (some (.ref l))) (hl : s.heap.IsList l vs.toArray) (hi : vs[i]? = some (.int r tr)) (hz : i < 1000) :
    wpAny (Mo w) A (call (.ref f) [.int i t]) (Endv s fun v h => ∃ T, v = .ref T ∧ s.heap.objs.size < T ∧ h.get? T = some { cls := .type "tuple", data := .seq #[.int r tr, .int i t] }) NoE s := by
  refine call_lam (binds := [(Str.ofString "i", .int i t)]) hlim hA ho hcd rfl (locs rfl) ?_ rfl rfl rfl (by show ∀ x ∈ [(Str.ofString "i", NameKind.local), (Str.ofString "ranks", NameKind.free)], x.2 ≠ .cell; decide) (by decide)
  intro L' h₁ F hA'
  have hlt : L' < h₁.objs.size := F.ns.lt
  refine Tuple_ (args_cons (Subscript_ (name_free F rfl hc hcv (nameX_L F rfl (item_list (hl.at fun o e => F.keep l o e) (by omega) (by omega) (by simpa using hi) ?_)))))
  refine args_cons (nameX_L F rfl (args_nil ?_))
  refine wpAny_newObj_type ?_ (by show 2 ≤ sizeLine; decide)
  exact ⟨⟨_, rfl, Nat.lt_of_le_of_lt F.above hlt, Heap.get?_push_size _ rfl⟩, _, _, rfl, fun b o e => Heap.get?_push_of_some _ (F.keep b o e)⟩
end
end Mine
end
section
open PySem PySem.W PyProof.Rows PySem.Calls
namespace Mine
abbrev tupO (r : Int) (i : Nat) (tr ti : Tok) : Obj := { cls := .type "tuple", data := .seq #[.int r tr, .int i ti] }
/-- the keys made so far -/
def KeysAre (ns : List Int) (ks : List Value) (tups : List (Addr × Obj)) : Prop := ∀ j, j < ks.length → ∃ a tr ti, ks[j]? = some (.ref a) ∧ (a, tupO (ns.getD j 0) j tr ti) ∈ tups
section
variable {w : World} {A : Around} {s : Shared} {h₀ : Heap} {L kS D : Addr} {m : Str → Option Value} {bs : List (Addr × Obj)} {od : Obj} {ns : List Int} {f : Value} {n : Nat}
theorem keys_ok {Fin : List Value → Nat → Shared → Prop} (s₀ : Shared)
    (hcall : ∀ s i t, Fr h₀ L s.heap m → (∀ q ∈ bs, s.heap.get? q.1 = some q.2) → i < n → wpAny (Mo w) A (call f [.int (i : Nat) t]) (Endv s fun v h => ∃ T tr, v = .ref T ∧ s.heap.objs.size < T ∧ h.get? T = some (tupO (ns.getD i 0) i tr t)) NoE s)
    (hD : D ≠ kS) (hb : ∀ q ∈ bs, q.1 ≠ kS)
    (hfin : ∀ ks tups e h' tk, ks.length = n → KeysAre ns ks tups → Fr h₀ L h' m → News h₀ L h' ((kS, seqObj "list" (List.toArray ks) e) :: (D, od) :: (tups ++ bs)) → (∀ q ∈ tups, q.1 ≠ kS) → (∀ q ∈ tups, q.1 ≠ D) → Fin ks e { s₀ with heap := h', toks := tk }) :
    ∀ (r : List Value) (ks : List Value) (tups : List (Addr × Obj)) (e : Nat) (h : Heap) (tk : Nat), ks.length + r.length = n → (∀ j v, r[j]? = some v → ∃ t, v = Value.int ((ks.length + j : Nat) : Int) t) → KeysAre ns ks tups →
      (∀ q ∈ tups, q.1 ≠ kS) → (∀ q ∈ tups, q.1 ≠ D) → Fr h₀ L h m → News h₀ L h ((kS, seqObj "list" (List.toArray ks) e) :: (D, od) :: (tups ++ bs)) →
      KatKeys PySem.Challenge.rw_mq0061_01.row.prog w A h₀ L m kS f Fin r ks e { s₀ with heap := h, toks := tk }
  | [], ks, tups, e, h, tk, hl, _, hk, ht, htD, F, N => KatKeys.nil (hfin ks tups e h tk (by simpa using hl) hk F N ht htD)
  | v :: r, ks, tups, e, h, tk, hl, hr, hk, ht, htD, F, N => by
    obtain ⟨t, rfl⟩ := hr 0 v rfl
    rw [Nat.add_zero]
    have hlen : ks.length < n := by rw [List.length_cons] at hl; omega
    refine KatKeys.cons (wpAny_mono (hcall { s₀ with heap := h, toks := tk } ks.length t F (fun q hq => (N q (.tail _ (.tail _ (List.mem_append_right _ hq)))).1) hlen) (fun k s' hv => ?_) fun _ _ x => x)
    obtain ⟨⟨T, tr, rfl, hT, hTo⟩, h', tk', rfl, hk'⟩ := hv
    have F' := F.keeps hk'
    have N' := N.grown hk'
    have hTL : L < T := Nat.lt_trans F.ns.lt hT
    have hTk : T ≠ kS := fun q => by
      have h1 := Heap.lt_size (N _ (.head _)).1
      have h2 : h.objs.size < T := hT
      rw [q] at h2
      exact absurd h1 (Nat.not_lt.mpr (Nat.le_of_lt h2))
    have hTD : T ≠ D := fun q => by
      have h1 := Heap.lt_size (N _ (.tail _ (.head _))).1
      have h2 : h.objs.size < T := hT
      rw [q] at h2
      exact absurd h1 (Nat.not_lt.mpr (Nat.le_of_lt h2))
    have N₂ : News h₀ L h' ((kS, seqObj "list" (List.toArray ks) e) :: (D, od) :: (((T, tupO (ns.getD ks.length 0) ks.length tr t) :: tups) ++ bs)) := by
      intro q hq
      rcases List.mem_cons.mp hq with rfl | hq
      · exact N' _ (.head _)
      · rcases List.mem_cons.mp hq with rfl | hq
        · exact N' _ (.tail _ (.head _))
        · rcases List.mem_cons.mp hq with rfl | hq
          · exact ⟨hTo, Nat.ne_of_gt hTL, Heap.get?_none_of_le (Nat.le_trans F.above (Nat.le_of_lt hTL))⟩
          · exact N' _ (.tail _ (.tail _ hq))
    refine KatBack.intro (g := fun o' => (kS, o') :: (D, od) :: (((T, tupO (ns.getD ks.length 0) ks.length tr t) :: tups) ++ bs)) F' N₂ (UpdF.head ?_) fun h2 c F2 N2 => ?_
    · intro q hq
      rcases List.mem_cons.mp hq with rfl | hq
      · exact hD
      · rcases List.mem_cons.mp hq with rfl | hq
        · exact hTk
        · exact (List.mem_append.mp hq).elim (ht q) (hb q)
    · refine keys_ok s₀ hcall hD hb hfin r (ks ++ [.ref T]) ((T, tupO (ns.getD ks.length 0) ks.length tr t) :: tups) c h2 tk' (by simp at hl ⊢; omega) (fun j v hj => ?_) (fun j hj => ?_) ?_ ?_ F2 N2
      · obtain ⟨t', e'⟩ := hr (j + 1) v (by simpa using hj)
        exact ⟨t', by rw [e']; congr 2; simp; omega⟩
      · by_cases hjk : j < ks.length
        · obtain ⟨a, tr', ti', e1, e2⟩ := hk j hjk
          exact ⟨a, tr', ti', by rw [List.getElem?_append_left hjk]; exact e1, .tail _ e2⟩
        · have : j = ks.length := by simp at hj; omega
          subst this
          exact ⟨T, tr, t, by simp, .head _⟩
      · intro q hq
        rcases List.mem_cons.mp hq with rfl | hq
        · exact hTk
        · exact ht q hq
      · intro q hq
        rcases List.mem_cons.mp hq with rfl | hq
        · exact hTD
        · exact htD q hq
end
end Mine
end
section
open PySem PySem.W PyProof.Rows PySem.Calls
namespace Mine
theorem fill7 : PySem.Challenge.rw_mq0061_01 = PySem.Challenge.rw_mq0061_01 ∧ (hd.heap_39 = hd.heap_39) := by
  k_fill
  exact ⟨rfl, rfl⟩
/-- the rank and the place as one number -/
def keyZ (ns : List Int) (i : Nat) : Int := ns.getD i 0 * 64 + i
section
variable {w : World} {A : Around} {h₀ : Heap} {L : Addr} {m : Str → Option Value} {ns : List Int} {n : Nat}
theorem ask_ok {s : Shared} {ks : List Value} {tups : List (Addr × Obj)} (hk : KeysAre ns ks tups) (hN : ∀ q ∈ tups, s.heap.get? q.1 = some q.2) (h64 : ks.length ≤ 64) {i j : Nat} (hi : i < ks.length) (hj : j < ks.length) {C : Bool → Shared → Prop}
    (h : C (decide (keyZ ns i < keyZ ns j)) s) : kas_ask PySem.Challenge.rw_mq0061_01.row.prog w A (tuples' true) ks i j C s := by
  obtain ⟨a, tr, ti, e1, m1⟩ := hk i hi
  obtain ⟨b, ur, ui, e2, m2⟩ := hk j hj
  unfold kas_ask
  rw [List.getD_eq_getElem?_getD, List.getD_eq_getElem?_getD, e1, e2]
  refine kat_lt (hN _ m1) rfl (hN _ m2) rfl ?_
  refine kat_cons (wpAny_eqBool_int (kat_go (fun hq => kat_yes (kat_cons (wpAny_eqBool_int (kat_go (fun hz => kat_yes (kat_nil ?_)) (fun hz => kat_no (kat_one _ _ (lt_int ?_))))))) (fun hq => kat_no (oneLt_int ?_))))
  · simp only [beq_iff_eq] at hq hz
    have : decide (keyZ ns i < keyZ ns j) = false := decide_eq_false (by unfold keyZ; omega)
    rw [this] at h; exact h
  · simp only [beq_iff_eq] at hq
    have : decide (keyZ ns i < keyZ ns j) = decide ((i : Int) < j) := decide_eq_decide.mpr (by unfold keyZ; omega)
    rw [this] at h; exact h
  · simp only [beq_eq_false_iff_ne, ne_eq] at hq
    have : decide (keyZ ns i < keyZ ns j) = decide (ns.getD i 0 < ns.getD j 0) := decide_eq_decide.mpr (by unfold keyZ; omega)
    rw [this] at h; exact h
theorem kind_ok {s : Shared} {E : Value → Shared → Prop} {ks : List Value} {tups : List (Addr × Obj)} (hk : KeysAre ns ks tups) (hN : ∀ q ∈ tups, s.heap.get? q.1 = some q.2) (h0 : 0 < ks.length) {Q : SortKind → Shared → Prop} (h : Q (tuples' true) s) :
    wpAny (Mo w) A (keyKind' (List.toArray ks)) Q E s := by
  have key : ∀ (l : List Value) (off : Nat), (∀ j, j < l.length → ∃ a tr ti, l[j]? = some (.ref a) ∧ (a, tupO (ns.getD (off + j) 0) (off + j) tr ti) ∈ tups) → ∃ fs, KatTups s.heap l fs ∧ fs.length = l.length ∧ ∀ v ∈ fs, ∃ z t, v = Value.int z t := by
    intro l
    induction l with
    | nil => intro off _; exact ⟨[], KatTups.nil, rfl, fun _ h => nomatch h⟩
    | cons v r ih =>
      intro off hl
      obtain ⟨a, tr, ti, e1, m1⟩ := hl 0 (by simp)
      obtain ⟨fs, t1, t2, t3⟩ := ih (off + 1) fun j hj => by
        obtain ⟨a', tr', ti', e', m'⟩ := hl (j + 1) (by simpa using hj)
        exact ⟨a', tr', ti', by simpa using e', by rw [show off + 1 + j = off + (j + 1) from by omega]; exact m'⟩
      simp only [List.getElem?_cons_zero, Option.some.injEq] at e1
      subst e1
      refine ⟨.int (ns.getD off 0) tr :: fs, KatTups.cons (hN _ m1) rfl rfl rfl t1, by simp [t2], fun v hv => ?_⟩
      rcases List.mem_cons.mp hv with rfl | hv
      · exact ⟨_, _, rfl⟩
      · exact t3 v hv
  obtain ⟨fs, t1, t2, t3⟩ := key ks 0 fun j hj => by
    obtain ⟨a, tr, ti, e, m'⟩ := hk j hj
    exact ⟨a, tr, ti, e, by rw [Nat.zero_add]; exact m'⟩
  refine kat_kind (T := .type "int") t1 (by omega) (fun v hv => ?_) rfl h
  obtain ⟨z, t, rfl⟩ := t3 v hv
  exact Looks.of_pure rfl
end
/-- an order of the places, by rank, then by place -/
structure IsOrder (ns : List Int) (o : List Nat) : Prop where
  perm : o.Perm (List.range ns.length)
  sorted : o.Pairwise fun i j => keyZ ns i ≤ keyZ ns j
end Mine
end
section
open PySem PySem.W PyProof.Rows PySem.Calls
namespace Mine
theorem fill8 : PySem.Challenge.rw_mq0061_01 = PySem.Challenge.rw_mq0061_01 ∧ (hd.heap_39 = hd.heap_39) := by
  k_fill
  exact ⟨rfl, rfl⟩
def qOrd : Str := (Str.ofString "_law_order" ++ Str.ofString ".<locals>.") ++ Str.ofString "<lambda>"
theorem news_range {h₀ h : Heap} {L r : Addr} {news : List (Addr × Obj)} {a b c : Int} {t u v : Tok} (N : News h₀ L h news) (hR : IsRange h r a b c t u v) (hr : L < r) (hab : h₀.objs.size ≤ L) :
    ∃ o : Obj, News h₀ L h ((r, o) :: news) ∧ ∀ h' : Heap, h'.get? r = some o → IsRange h' r a b c t u v := by
  refine ⟨_, fun q hq => ?_, fun h' e => e⟩
  rcases List.mem_cons.mp hq with rfl | hq
  · exact ⟨hR, Nat.ne_of_gt hr, Heap.get?_none_of_le (Nat.le_trans hab (Nat.le_of_lt hr))⟩
  · exact N q hq
theorem keyZ_inj {ns : List Int} {n : Nat} (hn : n ≤ 64) : ∀ i j, i < n → j < n → keyZ ns i = keyZ ns j → i = j := fun i j hi hj e => by unfold keyZ at e; omega
section
variable {w : World} {A : Around} {s : Shared} {E : Value → Shared → Prop} {h₀ : Heap} {L : Addr} {m : Str → Option Value} {bs : List (Addr × Obj)} {ns : List Int}
theorem ints_of_places {n : Nat} {vs : List Value} (hlen : vs.length = n) (hit : ∀ (i : Nat) v, vs[i]? = some v → ∃ t, v = Value.int (i : Nat) t) : ∀ l : List Nat, (∀ i ∈ l, i < n) → IntsAre (l.map fun i => vs.getD i Value.none) (l.map fun (i : Nat) => (i : Int))
  | [], _ => .nil
  | i :: l, h => by
    have hi := h i (.head _)
    obtain ⟨t, e⟩ := hit i vs[i] (by simp)
    simp only [List.map_cons]
    rw [List.getD_eq_getElem?_getD, List.getElem?_eq_getElem (by omega), Option.getD_some, e]
    exact .cons _ _ (ints_of_places hlen hit l fun j hj => h j (.tail _ hj))
theorem sorted_keys {r f : Addr} {t u v : Tok} {b' : Int} {Q : Value → Shared → Prop} (hh : A.handled = none) (F : Fr h₀ L s.heap m) (N : News h₀ L s.heap bs) (hr : IsRange s.heap r 0 b' 1 t u v) (hb : b' = (ns.length : Int)) (h2 : 2 ≤ ns.length) (h64 : ns.length < 64)
    (hcall : ∀ s i t, Fr h₀ L s.heap m → (∀ q ∈ bs, s.heap.get? q.1 = some q.2) → i < ns.length → wpAny (Mo w) A.in1.in1 (call (.ref f) [.int (i : Nat) t]) (Endv s fun v h => ∃ T tr, v = .ref T ∧ s.heap.objs.size < T ∧ h.get? T = some (tupO (ns.getD i 0) i tr t)) NoE s)
    (h : ∀ D o out c h' tk, IsOrder ns o → IntsAre out (o.map fun (i : Nat) => (i : Int)) → (∀ q ∈ bs, q.1 < D) → Fr h₀ L h' m → News h₀ L h' ((D, W.listOf (List.toArray out) c) :: bs) → Q (.ref D) { s with heap := h', toks := tk }) :
    wpAny (Mo w) A (call (.builtin "sorted") [.ref r] [(Str.ofString "key", .ref f)]) Q E s := by
  refine sorted_range (n := ns.length) hh F N hr hb h2 h64 ?_
  intro vs D kS e1 h' tk hlen hit F' N' hDk hbD
  refine keys_ok (bs := bs) (od := seqObj "list" #[] e1) (ns := ns) (n := ns.length) s hcall (Nat.ne_of_lt hDk) (fun q hq => Nat.ne_of_lt (Nat.lt_trans (hbD q hq) hDk)) ?_ vs [] [] 0 h' tk (by simpa using hlen) (fun j v hj => ?_) (fun j hj => absurd hj (by simp)) (fun q hq => nomatch hq) (fun q hq => nomatch hq) F' N'
  · intro ks tups e h2' tk2 hl hk F2 N2 ht htD
    have hNt : ∀ q ∈ tups, h2'.get? q.1 = some q.2 := fun q hq => (N2 q (.tail _ (.tail _ (List.mem_append_left _ hq)))).1
    refine kind_ok hk hNt (by omega) ?_
    refine AskOk.wp (n := ns.length) (κ := keyZ ns) (I := fun s' => ∃ tk', s' = { s with heap := h2', toks := tk' }) (R := fun q => PermN ns.length q ∧ SortPre (keyZ ns) q ns.length) ?_ ?_ _ _ (sort_ok h2 (keyZ_inj (by omega))) ⟨tk2, rfl⟩
    · rintro i j C s' hi hj ⟨tk', rfl⟩ hC
      exact ask_ok hk hNt (by omega) (by omega) (by omega) (hC _ ⟨tk', rfl⟩)
    · rintro p s' ⟨hp, hs⟩ ⟨tk', rfl⟩
      refine KatFin.intro (g := fun o' => (kS, o') :: (D, seqObj "list" #[] e1) :: (tups ++ bs)) F2 N2 (UpdF.head ?_) fun h3 c F3 N3 => KasFin.intro (g := fun o' => (kS, seqObj "list" #[] c) :: (D, o') :: (tups ++ bs)) F3 N3 (UpdF.tail (Nat.ne_of_gt hDk) (UpdF.head ?_)) fun h4 c4 F4 N4 => ?_
      · intro q hq
        rcases List.mem_cons.mp hq with rfl | hq
        · exact Nat.ne_of_lt hDk
        · exact (List.mem_append.mp hq).elim (ht q) fun z => Nat.ne_of_lt (Nat.lt_trans (hbD q z) hDk)
      · intro q hq
        exact (List.mem_append.mp hq).elim (htD q) fun z => Nat.ne_of_lt (hbD q z)
      · refine h D p.toList (p.toList.map fun i => vs.getD i Value.none) c4 h4 tk' ⟨hp.perm, ?_⟩ (ints_of_places hlen hit _ fun i hi => ?_) hbD F4 fun q hq => ?_
        · refine List.pairwise_iff_getElem.mpr fun i j hi hj hij => ?_
          have := hs i j (Nat.le_of_lt hij) (by rw [← hp.size]; simpa using hj)
          unfold kp at this
          rw [Array.getD_eq_getD_getElem?, Array.getD_eq_getD_getElem?, Array.getElem?_eq_getElem (by simpa using hi), Array.getElem?_eq_getElem (by simpa using hj)] at this
          simpa using this
        · have := hp.perm.mem_iff.mp hi
          simpa using this
        · rcases List.mem_cons.mp hq with rfl | hq
          · exact N4 _ (.tail _ (.head _))
          · exact N4 _ (.tail _ (.tail _ (List.mem_append_right _ hq)))
  · obtain ⟨t, e⟩ := hit j v hj
    exact ⟨t, by rw [e]; simp⟩
end
section
variable {w : World} {A : Around} {s : Shared} {E : Value → Shared → Prop} {p : Program} {loose : List Str} {mean : ExcName → Option Value} {mg mb : Str → Option Value}
local macro_rules | `(tactic| walk_at "call builtin:sorted") => `(tactic| refine stuck ?_)
local macro_rules | `(tactic| walk_at "eval Lambda") => `(tactic| refine stuck ?_)
set_option maxRecDepth 100000
set_option maxHeartbeats 8000000
theorem order_spec {h₀ : Heap} (G : Gd w p loose mean mg mb h₀) (C : CodeHd h₀ 151 147) (k₀ : ∀ b o, h₀.get? b = some o → s.heap.get? b = some o) (hP0 : h₀.get? 147 = none) (hT : TabIs s.heap 147 75 41 qOrd) (hA : AOk A 900)
    {l : Addr} {vs : List Value} {ns : List Int} (hl : s.heap.IsList l vs.toArray) (hi : IntsAre vs ns) (h2 : 2 ≤ ns.length) (hz : ns.length ≤ 60) :
    wpAny (Mo w) A (call (.ref 152) [.ref l]) (fun r s' => KeepsBut 147 s s' ∧ TabIs s'.heap 147 75 41 qOrd ∧ ∃ D o out, r = .ref D ∧ s.heap.get? D = none ∧ IsOrder ns o ∧ s'.heap.IsList D (List.toArray out) ∧ IntsAre out (o.map fun (i : Nat) => (i : Int))) NoE s := by
  have hlP : l ≠ 147 := by
    obtain ⟨ol, e1, e2, _⟩ := hl
    intro q
    rcases hT with hT | ⟨c', hT, hcr⟩ <;> (rw [q, hT] at e1; cases e1; cases e2)
  rcases hT with hT | ⟨c', hT, hcr⟩
  · refine' call_defC (binds := [(Str.ofString "ranks", .ref l)]) G k₀ hP0 hT hA ?ho ?hcd ?hb ?hl ?hn ?h ?c1 ?c2 ?c3 ?c5
    case ho => k_is
    case hcd => k_is
    case hb => exact BindsTo.of_eq rfl
    case hl => rfl
    case hn => decide
    case c1 => rfl
    case c2 => rfl
    case c3 => rfl
    case c5 => decide
    intro g L' h₁ tk cells kg hgP kg0 hPL F N Y X T hA'
    obtain ⟨oc, rfl, hoc⟩ := CellsAre.one Y
    have Cg := C.keeps kg0
    have hlg : g.IsList l vs.toArray := hl.at fun o e => kg l o hlP e
    have F' : Fr g L' h₁ (fun _ => none) := F
    have hoc' : oc.data = .cell (some (.ref l)) := hoc
    have N' : News g L' h₁ [(L' + 1, oc), (147, tabObj #[])] := N
    have hLr : L' < h₁.objs.size := F'.ns.lt
    have hab := F'.above
    clear F N hoc Y
    w_on
    k_steps
    rename_i hR hF hN hK
    obtain ⟨ro, hN2, hro⟩ := news_range hN hR hLr hab
    refine unstuck (kla_eval rfl (kla_nest hF hN2 T Cg rfl (UpdF.tail (Nat.ne_of_gt (Nat.lt_trans hPL hLr)) (UpdF.tail (Nat.ne_of_gt (Nat.lt_succ_of_lt hPL)) (UpdF.head (fun _ h => nomatch h)))) trivial rfl rfl ?_))
    intro f' c' oc' vs' t' ct' h' tk' F₁ N₁ d1 d2 l1 l2
    k_steps
    refine unstuck (show wpAny _ _ (call (Value.builtin "sorted") [Value.ref h₁.objs.size] [(Str.ofString "key", Value.ref f')]) _ _ _ from sorted_keys (ns := ns) hA'.hd F₁ N₁ (hro _ (N₁ _ (.tail _ (.tail _ (.head _)))).1) rfl h2 (by omega) ?_ ?_)
    · intro s2 i t F2 hbs hin
      obtain ⟨tr, e⟩ := hi.get i (ns.getD i 0) (by rw [List.getD_eq_getElem?_getD, List.getElem?_eq_getElem hin]; rfl)
      refine wpAny_mono (lam_key (r := ns.getD i 0) (tr := tr) (T.nolimit.keeps F2.keep) (hA'.in1.in1.mono (by decide)) (hbs _ (.head _)) ⟨c', oc', vs', t', rfl, hbs _ (.tail _ (.head _)), d1, d2⟩ (hbs (L' + 1, oc) (.tail _ (.tail _ (.tail _ (.head _))))) hoc' (hlg.at fun o e => F2.keep l o e) e (by omega)) (fun v s3 hv => ?_) fun _ _ x => x
      obtain ⟨⟨T', e1, e2, e3⟩, hk⟩ := hv
      exact ⟨⟨T', tr, e1, e2, e3⟩, hk⟩
    · intro D o out c h4 tk4 ho hout hD F4 N4
      dsimp only
      refine ⟨⟨_, _, rfl, fun b o hb e => F4.keep b o (kg b o hb e)⟩, .inr ⟨c', (N4 (147, _) (.tail _ (.tail _ (.tail _ (.tail _ (.tail _ (.head _))))))).1, c', oc', vs', t', rfl, (N4 (c', oc') (.tail _ (.tail _ (.head _)))).1, d1, d2⟩, D, o, out, rfl, ?_, ho, News.isList N4 (.head _), hout⟩
      cases hq : s.heap.get? D with
      | none => rfl
      | some o' =>
        have := kg D o' (Nat.ne_of_gt (hD (147, _) (.tail _ (.tail _ (.tail _ (.tail _ (.head _))))))) hq
        rw [(N4 _ (.head _)).2.2] at this; cases this
  · refine' call_defC (binds := [(Str.ofString "ranks", .ref l)]) G k₀ hP0 hT hA ?ho ?hcd ?hb ?hl ?hn ?h ?c1 ?c2 ?c3 ?c5
    case ho => k_is
    case hcd => k_is
    case hb => exact BindsTo.of_eq rfl
    case hl => rfl
    case hn => decide
    case c1 => rfl
    case c2 => rfl
    case c3 => rfl
    case c5 => decide
    intro g L' h₁ tk cells kg hgP kg0 hPL F N Y X T hA'
    obtain ⟨oc, rfl, hoc⟩ := CellsAre.one Y
    have Cg := C.keeps kg0
    have hcg : g.CodeRec (.ref c') qOrd := by
      obtain ⟨c, oc1, vs1, t1, e1, e2, e3, e4⟩ := hcr
      refine ⟨c, oc1, vs1, t1, e1, kg c oc1 (fun q => ?_) e2, e3, e4⟩
      rw [q, hT] at e2; cases e2; cases e3; cases e4
    have hlg : g.IsList l vs.toArray := hl.at fun o e => kg l o hlP e
    have F' : Fr g L' h₁ (fun _ => none) := F
    have hoc' : oc.data = .cell (some (.ref l)) := hoc
    have N' : News g L' h₁ [(L' + 1, oc), (147, tabObj #[rawInt (75 : Nat), rawInt (41 : Nat), .ref c'])] := N
    have hLr : L' < h₁.objs.size := F'.ns.lt
    have hab := F'.above
    clear F N hoc Y
    w_on
    k_steps
    rename_i hR hF hN hK
    obtain ⟨ro, hN2, hro⟩ := news_range hN hR hLr hab
    refine unstuck (kla_eval rfl (kla_hit (c' := c') hF hN2 T Cg rfl (.tail _ (.tail _ (.head _))) trivial rfl rfl ?_))
    intro f' ct' h' tk' F₁ N₁ l2
    k_steps
    refine unstuck (show wpAny _ _ (call (Value.builtin "sorted") [Value.ref h₁.objs.size] [(Str.ofString "key", Value.ref f')]) _ _ _ from sorted_keys (ns := ns) hA'.hd F₁ N₁ (hro _ (N₁ _ (.tail _ (.head _))).1) rfl h2 (by omega) ?_ ?_)
    · intro s2 i t F2 hbs hin
      obtain ⟨tr, e⟩ := hi.get i (ns.getD i 0) (by rw [List.getD_eq_getElem?_getD, List.getElem?_eq_getElem hin]; rfl)
      refine wpAny_mono (lam_key (r := ns.getD i 0) (tr := tr) (T.nolimit.keeps F2.keep) (hA'.in1.in1.mono (by decide)) (hbs _ (.head _)) (hcg.keeps F2.keep) (hbs (L' + 1, oc) (.tail _ (.tail _ (.head _)))) hoc' (hlg.at fun o e => F2.keep l o e) e (by omega)) (fun v s3 hv => ?_) fun _ _ x => x
      obtain ⟨⟨T', e1, e2, e3⟩, hk⟩ := hv
      exact ⟨⟨T', tr, e1, e2, e3⟩, hk⟩
    · intro D o out c h4 tk4 ho hout hD F4 N4
      dsimp only
      refine ⟨⟨_, _, rfl, fun b o hb e => F4.keep b o (kg b o hb e)⟩, .inr ⟨c', (N4 (147, _) (.tail _ (.tail _ (.tail _ (.tail _ (.head _)))))).1, hcg.keeps F4.keep⟩, D, o, out, rfl, ?_, ho, News.isList N4 (.head _), hout⟩
      cases hq : s.heap.get? D with
      | none => rfl
      | some o' =>
        have := kg D o' (Nat.ne_of_gt (hD (147, _) (.tail _ (.tail _ (.tail _ (.head _)))))) hq
        rw [(N4 _ (.head _)).2.2] at this; cases this
end
end Mine
end
section
open PySem PySem.W PyProof.Rows PySem.Calls
namespace Mine
section
variable {prog : Program} {w : World} {A : Around} {E : Value → Shared → Prop} {s : Shared} {env : Env} {h₀ : Heap} {x : Str} {body : List Stmt} {Q : Flow → Shared → Prop}
/-- what a turn must leave, where the ledger may grow -/
def GrowPost (h₀ : Heap) (L I : Addr) (J : (Str → Option Value) → List (Addr × Obj) → Prop) (own : List (Addr × Obj)) (s₁ : Shared) (Q : Flow → Shared → Prop) (f : Flow) (s₂ : Shared) : Prop :=
  match f with
  | .ret v => Q (.ret v) s₂
  | .brk => Q .next s₂
  | _ => ∃ h' tk m' nx, s₂ = { s₁ with heap := h', toks := tk } ∧ Fr h₀ L h' m' ∧ News h₀ L h' (nx ++ own) ∧ (∀ p ∈ nx, p.1 ≠ I) ∧ J m' nx
/-- a loop over a list of any values, by an invariant; what the ledger holds may grow -/
theorem iter_grow {l : Addr} {its : Array Value} {m₀ : Str → Option Value} {news : List (Addr × Obj)} (J : Nat → (Str → Option Value) → List (Addr × Obj) → Prop)
    (hh : A.handled = none) (hl : s.heap.IsList l its) (hlL : l ≠ env.locals) (F : Fr h₀ env.locals s.heap m₀) (N : News h₀ env.locals s.heap news) (hj : J 0 m₀ news)
    (turn : ∀ I i v m₁ news₁ h tk own, its[i]? = some v → I < h.objs.size → s.heap.objs.size ≤ I → (∀ p ∈ news₁, p.1 ≠ I) → (∀ p ∈ own, p.1 = I ∨ p.1 = l) → (∃ o, (I, o) ∈ own) → (h₀.get? l = none → ∃ o, (l, o) ∈ own) → J i m₁ news₁ → Fr h₀ env.locals h (fun y => if y = x then some v else m₁ y) → News h₀ env.locals h (news₁ ++ own) →
      wpAny (model prog w) A (execs body env) (GrowPost h₀ env.locals I (J (i + 1)) own { s with heap := h, toks := tk } Q) E { s with heap := h, toks := tk })
    (done : ∀ m₁ news₁ h tk, J its.size m₁ news₁ → Fr h₀ env.locals h m₁ → News h₀ env.locals h news₁ → Q .next { s with heap := h, toks := tk }) :
    wpAny (model prog w) A (pyIter (.ref l)) (fun it s₂ => LoopAtV prog w A h₀ env x body Q E it s₂) E s := by
  obtain ⟨ol, hol, _⟩ := id hl
  have hlt : l < s.heap.objs.size := Heap.lt_size hol
  have hLs : env.locals < s.heap.objs.size := F.ns.lt
  have hne : l ≠ s.heap.objs.size := Nat.ne_of_lt hlt
  refine wpAny_pyIter_list hl ?_
  have W := Walks.list (prog := prog) (w := w) hh s.heap.objs.size l hne its
  have nI : ∀ p ∈ news, p.1 ≠ s.heap.objs.size := fun p hp => Nat.ne_of_lt (Heap.lt_size (N p hp).1)
  refine ⟨_, _, _, its.size, _, _, m₀, news, J, rfl, W, ?_, ?_, ?_, ⟨⟨_, Heap.get?_push_size _ rfl, rfl, rfl⟩, hl.at fun o e => Heap.get?_push_of_some _ e⟩, F.push _, fun p hp => ⟨Heap.get?_push_of_some _ (N p hp).1, (N p hp).2⟩, hj, ?_, ?_⟩
  · intro hm
    rcases List.mem_cons.mp hm with e | hm
    · rw [e] at hLs; exact Nat.lt_irrefl _ hLs
    · exact hlL (List.mem_singleton.mp hm).symm
  · intro b hb
    rw [List.mem_singleton.mp hb]
    exact next_is_new F
  · intro p hp hI
    exact nI p hp (List.mem_singleton.mp hI)
  · rintro i v m₁ news₁ s₁ own ⟨hh', tk', rfl⟩ hin hP hJ hoff hown _ hall hst F₁ N₁
    obtain ⟨oI, hoI, _⟩ := hst.1
    have N₂ : News h₀ env.locals hh' (news₁ ++ own) := fun p hp => N₁ p ((List.mem_append.mp hp).elim (fun h => List.mem_append.mpr (.inr h)) fun h => List.mem_append.mpr (.inl h))
    refine wpAny_mono (turn s.heap.objs.size i v m₁ news₁ hh' tk' own hP (Heap.lt_size hoI) (Nat.le_refl _) (fun p hp q => hoff p hp (List.mem_singleton.mpr q)) (fun p hp => ?_) ⟨oI, hall _ (.head _) (next_is_new F) _ hoI⟩ (fun hl0 => ?_) hJ F₁ N₂) (fun f s₂ p => ?_) fun _ _ e => e
    · rcases List.mem_cons.mp (hown p hp) with h1 | h1
      · exact .inl h1
      · exact .inr (List.mem_singleton.mp h1)
    · obtain ⟨o2, ho2, _⟩ := hst.2
      exact ⟨o2, hall _ (.tail _ (.head _)) hl0 _ ho2⟩
    have fin : (∃ h' tk m' nx, s₂ = { s with heap := h', toks := tk } ∧ Fr h₀ env.locals h' m' ∧ News h₀ env.locals h' (nx ++ own) ∧ (∀ p ∈ nx, p.1 ≠ s.heap.objs.size) ∧ J (i + 1) m' nx) → LoopStepU h₀ env.locals [s.heap.objs.size] own (J (i + 1)) { s with heap := hh', toks := tk' } .next s₂ := by
      rintro ⟨h', tk, m', nx, e, F', N', hn, hm⟩
      exact ⟨rfl, h', tk, m', nx, e, F', fun p hp => N' p ((List.mem_append.mp hp).elim (fun z => List.mem_append.mpr (.inr z)) fun z => List.mem_append.mpr (.inl z)), fun p hp hq => hn p hp (List.mem_singleton.mp hq), hm⟩
    cases f with
    | ret v => exact .ret p
    | brk => exact .brk p
    | next => exact .next (fin p)
    | cont => exact .cont (fin p)
  · rintro h' tk m' news' F' N' _ hJ
    exact done m' news' h' tk hJ F' N'
end
section
variable {w : World} {A : Around} {s : Shared} {E : Value → Shared → Prop} {p : Program} {loose : List Str} {mean : ExcName → Option Value} {mg mb : Str → Option Value}
/-- a call of a plain def of the text, a code's table being turned in it -/
theorem call_defT {Q : Value → Shared → Prop} {d : Nat} {h₀ : Heap} {P : Addr} {oP : Obj}
    {name qual : Str} {params : Arguments} {body : List Stmt} {scope : Scope} {dV kV doc pm cdv ct oc : Value} {an od : Option Addr} {osl : Array (Option Value)} {f : Addr} {args : List Value} {binds : List (Str × Value)}
    (G : Gd w p loose mean mg mb h₀) (k₀ : ∀ b o, h₀.get? b = some o → s.heap.get? b = some o) (hP0 : h₀.get? P = none) (hP : s.heap.get? P = some oP) (hA : AOk A d)
    (ho : (hd.heap_39 w.params).lookup f = some ⟨oc, od, .func (fnOf name qual params body scope dV kV doc pm an cdv ct), osl⟩) (hcd : codeIn (hd.heap_39 w.params) cdv qual = true)
    (hbind : BindsTo s (fnOf name qual params body scope dV kV doc pm an cdv ct) ⟨args, []⟩ binds) (hloc : ∀ y ∈ binds, scope.names.lookup y.1 = some .local)
    (h : ∀ g L' h₁, (∀ b o, b ≠ P → s.heap.get? b = some o → g.get? b = some o) → g.get? P = none → (∀ b o, h₀.get? b = some o → g.get? b = some o) → P < L' → (∀ b o, s.heap.get? b = some o → h₁.get? b = some o) → Fr g L' h₁ (fun y => binds.reverse.lookup y) → News g L' h₁ [(P, oP)] →
      (hd.heap_39 w.params).In g → Top p loose mean mg mb g → AOk (A.deeper (envOf qual scope L' f cdv)) (d + 1) →
      wpAny (Mo w) (A.deeper (envOf qual scope L' f cdv)) (execs body (envOf qual scope L' f cdv)) (fun fl s' => Q (match fl with | .ret v => v | _ => .none) s') NoE { s with heap := h₁, toks := s.toks + binds.length })
    (hco : scope.isCoroutine = false) (hgen : scope.isGenerator = false) (hk : scope.kind = .function) (hcell : ∀ x ∈ scope.names, x.2 ≠ .cell) (hd : d ≤ 990) : wpAny (Mo w) A (call (.ref f) args) Q E s := by
  have kg : ∀ b o, h₀.get? b = some o → (hideAll s.heap [P]).get? b = some o := fun b o e => hideAll_get _ (k₀ b o e) (by
    intro q; rw [List.mem_singleton.mp q, hP0] at e; cases e)
  have G' := G.keeps k₀
  refine wpAny_call (codeAny_call_def (fd := fnOf name qual params body scope dV kV doc pm an cdv ct) (body := body) (binds := binds) (hA.room hd) (G'.X _ _ ho) rfl G'.T.nolimit (codeRec_of G'.X hcd) rfl hbind hcell hloc (fun h₁ hns hk₁ => ?_) hco hgen hk)
  refine wpAny_mono (h (hideAll s.heap [P]) s.heap.objs.size h₁ (fun b o hb e => hideAll_get _ e (by simpa using hb)) (hideAll_none _ (List.mem_singleton.mpr rfl)) kg (Heap.lt_size hP) hk₁ ⟨hns, fun b o e => hk₁ b o (of_hideAll _ e), Nat.le_of_eq (hideAll_size _ _)⟩ (fun q hq => ?_) (G.keeps kg).X (G.keeps kg).T (hA.deeper _)) (fun fl s' hl => hl) fun _ _ y => y.elim
  rw [List.mem_singleton.mp hq]
  exact ⟨hk₁ _ _ hP, Nat.ne_of_lt (Heap.lt_size hP), hideAll_none _ (List.mem_singleton.mpr rfl)⟩
end
end Mine
end
section
open PySem PySem.W PyProof.Rows PySem.Calls PySem.Spec PySem.SeqAt
namespace Mine
theorem fill9 : PySem.Challenge.rw_mq0061_01 = PySem.Challenge.rw_mq0061_01 ∧ (hd.heap_39 = hd.heap_39) := by
  k_fill
  exact ⟨rfl, rfl⟩
/-- a thing's data -/
def dOf : Value → PyData
  | .int i _ => .int i
  | .str x _ => .str x
  | _ => .none
def IsThing (v : Value) : Prop := ∃ c, ThingV v c
theorem readsAll_things {h : Heap} : ∀ {vs : List Value}, (∀ v ∈ vs, IsThing v) → ReadsAll h vs (vs.map dOf) []
  | [], _ => .nil
  | v :: vs, hv => by
    have r := readsAll_things (h := h) (vs := vs) fun u hu => hv u (.tail _ hu)
    obtain ⟨c, hc⟩ := hv v (.head _)
    cases hc with
    | int _ t => exact ReadsAll.cons (as := []) (Reads.int _ t) r
    | str _ t _ => exact ReadsAll.cons (as := []) (Reads.str _ t) r
/-- a group: a tuple of a rank and a list -/
structure GR where
  T : Addr
  L : Addr
  r : Int
  t : Tok
  vs : List Value
def dG (g : Int × List Value) : PyData := .tuple [.int g.1, .list (g.2.map dOf)]
def gsOf (l : List GR) : List (Int × List Value) := l.map fun g => (g.r, g.vs)
def GrAt (h : Heap) (g : GR) : Prop := IsTup h g.T #[.int g.r g.t, .ref g.L] ∧ h.IsList g.L g.vs.toArray
/-- a list of groups stands at a -/
def PartsAt (h : Heap) (a : Addr) (l : List GR) : Prop := h.IsList a (l.map fun g => Value.ref g.T).toArray ∧ ∀ g ∈ l, GrAt h g
theorem GrAt.keeps {h h' : Heap} {g : GR} (x : GrAt h g) (k : ∀ b o, h.get? b = some o → h'.get? b = some o) : GrAt h' g := ⟨x.1.keeps k, x.2.at fun o e => k _ o e⟩
theorem PartsAt.keeps {h h' : Heap} {a : Addr} {l : List GR} (x : PartsAt h a l) (k : ∀ b o, h.get? b = some o → h'.get? b = some o) : PartsAt h' a l := ⟨x.1.at fun o e => k _ o e, fun g hg => (x.2 g hg).keeps k⟩
theorem readsAll_groups {h : Heap} : ∀ {l : List GR}, (∀ g ∈ l, GrAt h g) → (∀ g ∈ l, ∀ v ∈ g.vs, IsThing v) → ∃ as, ReadsAll h (l.map fun g => Value.ref g.T) ((gsOf l).map dG) as
  | [], _, _ => ⟨[], .nil⟩
  | g :: l, hg, hv => by
    obtain ⟨as, r⟩ := readsAll_groups (h := h) (l := l) (fun x hx => hg x (.tail _ hx)) fun x hx => hv x (.tail _ hx)
    obtain ⟨⟨o, ho, hc, n, hd⟩, o2, ho2, hc2, n2, hd2⟩ := hg g (.head _)
    have q : ReadsAll h g.vs.toArray.toList (g.vs.map dOf) [] := by simpa using readsAll_things (hv g (.head _))
    exact ⟨_, ReadsAll.cons (Reads.tuple ho hc hd (ReadsAll.cons (Reads.int _ _) (ReadsAll.cons (Reads.list ho2 hc2 hd2 q) .nil))) r⟩
theorem PartsAt.reads {h : Heap} {a : Addr} {l : List GR} (x : PartsAt h a l) (hv : ∀ g ∈ l, ∀ v ∈ g.vs, IsThing v) : ∃ as, Reads h (.ref a) (.list ((gsOf l).map dG)) as := by
  obtain ⟨as, r⟩ := readsAll_groups x.2 hv
  obtain ⟨o, ho, hc, n, hd⟩ := x.1
  exact ⟨_, Reads.list ho hc hd (by simpa using r)⟩
theorem canLay_things : ∀ {vs : List Value}, (∀ v ∈ vs, IsThing v) → PyData.canLayAll0 (vs.map dOf) = true ∧ PyData.depthAll (vs.map dOf) ≤ 1
  | [], _ => ⟨rfl, by simp [PyData.depthAll]⟩
  | v :: vs, hv => by
    obtain ⟨r1, r2⟩ := canLay_things (vs := vs) fun u hu => hv u (.tail _ hu)
    obtain ⟨c, hc⟩ := hv v (.head _)
    cases hc with
    | int n t => exact ⟨by simp only [List.map_cons, dOf, PyData.canLayAll0, PyData.canLay0, r1]; rfl, by simp only [List.map_cons, dOf, PyData.depthAll, PyData.depth]; omega⟩
    | str n t h => exact ⟨by simp only [List.map_cons, dOf, PyData.canLayAll0, PyData.canLay0, r1, PyData.strOk]; simpa using h, by simp only [List.map_cons, dOf, PyData.depthAll, PyData.depth]; omega⟩
theorem canLay_groups : ∀ {gs : List (Int × List Value)}, (∀ g ∈ gs, ∀ v ∈ g.2, IsThing v) → PyData.canLayAll0 (gs.map dG) = true ∧ PyData.depthAll (gs.map dG) ≤ 6
  | [], _ => ⟨rfl, by simp [PyData.depthAll]⟩
  | g :: gs, hv => by
    obtain ⟨r1, r2⟩ := canLay_groups (gs := gs) fun u hu => hv u (.tail _ hu)
    obtain ⟨q1, q2⟩ := canLay_things (hv g (.head _))
    refine ⟨by simp only [List.map_cons, dG, PyData.canLayAll0, PyData.canLay0, r1, q1]; rfl, ?_⟩
    simp only [List.map_cons, dG, PyData.depthAll, PyData.depth] at q2 ⊢
    omega
theorem shaped_groups {gs : List (Int × List Value)} (hv : ∀ g ∈ gs, ∀ v ∈ g.2, IsThing v) : shaped (.list (gs.map dG)) = true := by
  obtain ⟨h1, h2⟩ := canLay_groups hv
  unfold shaped
  rw [Bool.and_eq_true]
  refine ⟨by simpa only [PyData.canLay0] using h1, decide_eq_true ?_⟩
  simp only [PyData.depth]; omega
theorem shaped_things {vs : List Value} (hv : ∀ v ∈ vs, IsThing v) : shaped (.list (vs.map dOf)) = true := by
  obtain ⟨h1, h2⟩ := canLay_things hv
  unfold shaped
  rw [Bool.and_eq_true]
  refine ⟨by simpa only [PyData.canLay0] using h1, decide_eq_true ?_⟩
  simp only [PyData.depth]; omega
theorem eqv_things : ∀ {vs : List Value}, (∀ v ∈ vs, IsThing v) → PyData.eqvAll (vs.map dOf) (vs.map dOf) = true
  | [], _ => by simp [PyData.eqvAll]
  | v :: vs, hv => by
    have r := eqv_things (vs := vs) fun u hu => hv u (.tail _ hu)
    obtain ⟨c, hc⟩ := hv v (.head _)
    cases hc with
    | int n t => simp only [List.map_cons, dOf, PyData.eqvAll, PyData.eqv, r]; simp
    | str n t h => simp only [List.map_cons, dOf, PyData.eqvAll, PyData.eqv, r]; simp
theorem eqv_groups : ∀ {gs : List (Int × List Value)}, (∀ g ∈ gs, ∀ v ∈ g.2, IsThing v) → PyData.eqvAll (gs.map dG) (gs.map dG) = true
  | [], _ => by simp [PyData.eqvAll]
  | g :: gs, hv => by
    have r := eqv_groups (gs := gs) fun u hu => hv u (.tail _ hu)
    have q := eqv_things (hv g (.head _))
    simp only [List.map_cons, dG, PyData.eqvAll, PyData.eqv, r, q]; simp
end Mine
end
section
open PySem PySem.W PyProof.Rows PySem.Calls PySem.Spec PySem.SeqAt
namespace Mine
theorem fill10 : PySem.Challenge.rw_mq0061_01 = PySem.Challenge.rw_mq0061_01 ∧ (hd.heap_39 = hd.heap_39) := by
  k_fill
  exact ⟨rfl, rfl⟩
abbrev tupG (g : GR) : Obj := { cls := .type "tuple", data := .seq #[.int g.r g.t, .ref g.L] }
def led : List (GR × Nat) → List (Addr × Obj)
  | [] => []
  | (g, c) :: r => (g.L, W.listOf g.vs.toArray c) :: (g.T, tupG g) :: led r
/-- one more place joins the groups, the latest ahead -/
def grpStep (ns : List Int) (vs : List Value) (gs : List (Int × List Value)) (j : Nat) : List (Int × List Value) :=
  match gs with
  | [] => [(ns.getD j 0, [vs.getD j .none])]
  | (r, l) :: rest => if r = ns.getD j 0 then (r, l ++ [vs.getD j .none]) :: rest else (ns.getD j 0, [vs.getD j .none]) :: (r, l) :: rest
def grp (ns : List Int) (vs : List Value) (o : List Nat) : List (Int × List Value) := (o.foldl (grpStep ns vs) []).reverse
theorem mem_led {g : GR} {c : Nat} : ∀ {rl : List (GR × Nat)}, (g, c) ∈ rl → (g.L, W.listOf g.vs.toArray c) ∈ led rl ∧ (g.T, tupG g) ∈ led rl
  | _ :: _, .head _ => ⟨.head _, .tail _ (.head _)⟩
  | _ :: _, .tail _ h => let ⟨a, b⟩ := mem_led h; ⟨.tail _ (.tail _ a), .tail _ (.tail _ b)⟩
theorem parts_led {h₀ h : Heap} {L G : Addr} {news : List (Addr × Obj)} {rl : List (GR × Nat)} {cG : Nat} (N : News h₀ L h news) (hm : (G, W.listOf (rl.reverse.map fun g : GR × Nat => Value.ref g.1.T).toArray cG) ∈ news) (hs : ∀ q ∈ led rl, q ∈ news) : PartsAt h G (rl.reverse.map (·.1)) := by
  refine ⟨?_, fun g hg => ?_⟩
  · have := News.isList N hm
    rw [List.map_map]; exact this
  · obtain ⟨⟨g', c⟩, hgc, rfl⟩ := List.mem_map.mp hg
    obtain ⟨a, b⟩ := mem_led (List.mem_reverse.mp hgc)
    exact ⟨News.isTup N (hs _ b), News.isList N (hs _ a)⟩
def needNew (rl : List (GR × Nat)) (r : Int) : Bool := match rl with
  | [] => true
  | g :: _ => g.1.r != r
/-- what is known of the order's table, over a base and the ledger's rest -/
def TabW (h₀ : Heap) (oT : Obj) (rest : List (Addr × Obj)) : Prop :=
  oT = tabObj #[] ∨ ∃ c', oT = tabObj #[rawInt (75 : Nat), rawInt (41 : Nat), .ref c'] ∧ (h₀.CodeRec (.ref c') qOrd ∨ ∃ oc vs t, (c', oc) ∈ rest ∧ oc.data = .fields vs ∧ vs[1]? = some (.str qOrd t))
theorem TabW.is {h₀ h : Heap} {L : Addr} {m : Str → Option Value} {oT : Obj} {rest news : List (Addr × Obj)} (x : TabW h₀ oT rest) (F : Fr h₀ L h m) (N : News h₀ L h news) (h1 : (147, oT) ∈ news) (h2 : ∀ q ∈ rest, q ∈ news) : TabIs h 147 75 41 qOrd := by
  rcases x with rfl | ⟨c', rfl, hc⟩
  · exact .inl (N _ h1).1
  · refine .inr ⟨c', (N _ h1).1, ?_⟩
    rcases hc with hc | ⟨oc, vs, t, hm, e1, e2⟩
    · exact hc.keeps F.keep
    · exact ⟨c', oc, vs, t, rfl, (N _ (h2 _ hm)).1, e1, e2⟩
/-- the table's facts as a ledger of their own -/
theorem TabIs.led {h₀ h : Heap} {L : Addr} {m : Str → Option Value} (x : TabIs h 147 75 41 qOrd) (F : Fr h₀ L h m) (hL : L ≠ 147) (h0 : h₀.get? 147 = none) :
    ∃ oT rest, TabW h₀ oT rest ∧ News h₀ L h ((147, oT) :: rest) ∧ (((147, oT) :: rest).map (·.1)).Nodup ∧ (∀ q ∈ (147, oT) :: rest, ∃ vs, q.2.data = .fields vs) := by
  rcases x with x | ⟨c', x, hc⟩
  · exact ⟨_, [], .inl rfl, fun q hq => by rw [List.mem_singleton.mp hq]; exact ⟨x, Ne.symm hL, h0⟩, by simp, fun q hq => by rw [List.mem_singleton.mp hq]; exact ⟨_, rfl⟩⟩
  · obtain ⟨c, oc, vs, t, e1, e2, e3, e4⟩ := id hc
    cases e1
    cases hq : h₀.get? c' with
    | some o =>
      have := F.keep _ _ hq
      rw [e2] at this
      cases this
      exact ⟨_, [], .inr ⟨c', rfl, .inl ⟨c', _, vs, t, rfl, hq, e3, e4⟩⟩, fun q hq => by rw [List.mem_singleton.mp hq]; exact ⟨x, Ne.symm hL, h0⟩, by simp, fun q hq => by rw [List.mem_singleton.mp hq]; exact ⟨_, rfl⟩⟩
    | none =>
      have hcT : c' ≠ 147 := fun q => by rw [q, x] at e2; cases e2; cases e3; cases e4
      have hcL : c' ≠ L := fun q => by
        obtain ⟨oL, es, ep, hoL, hd, _⟩ := F.ns
        rw [q, hoL] at e2; cases e2; rw [hd] at e3; cases e3
      refine ⟨_, [(c', oc)], .inr ⟨c', rfl, .inr ⟨oc, vs, t, .head _, e3, e4⟩⟩, fun q hq' => ?_, by simp [Ne.symm hcT], fun q hq' => ?_⟩
      · rcases List.mem_cons.mp hq' with rfl | hq'
        · exact ⟨x, Ne.symm hL, h0⟩
        · rw [List.mem_singleton.mp hq']; exact ⟨e2, hcL, hq⟩
      · rcases List.mem_cons.mp hq' with rfl | hq'
        · exact ⟨_, rfl⟩
        · rw [List.mem_singleton.mp hq']; exact ⟨vs, e3⟩
def GrpPost (s : Shared) (ns : List Int) (vs : List Value) (r : Value) (s' : Shared) : Prop := KeepsBut 147 s s' ∧ TabIs s'.heap 147 75 41 qOrd ∧ ∃ a o l, r = .ref a ∧ IsOrder ns o ∧ PartsAt s'.heap a l ∧ gsOf l = grp ns vs o
section
variable {w : World} {A : Around} {s : Shared} {E : Value → Shared → Prop} {p : Program} {loose : List Str} {mean : ExcName → Option Value} {mg mb : Str → Option Value}
theorem item_last {value slice : PySem.Expr} {l : Addr} {xs : List Value} {v : Value} {u : Tok} {Q : Value → Shared → Prop} (hl : s.heap.IsList l (xs ++ [v]).toArray) (h : Q v s)
    (hs : subscripted slice false (.ref l) (.int (-1) u) = operate [.ref l, .int (-1) u] (getItem (.ref l) (.int (-1) u)) := by with_unfolding_all rfl) : wpAny (Mo w) A (subscriptTail value slice (.ref l) (.int (-1) u)) Q E s := by
  refine tail_any hl.typeIs slot_list_getitem.lookup (wpAny_getItem_list_neg hl (by decide) ?_ (by decide) ?_ h) hs
  · simp only [List.size_toArray, List.length_append, List.length_singleton]; omega
  · have : (-1 + ((xs ++ [v]).toArray.size : Int)).toNat = xs.length := by simp only [List.size_toArray, List.length_append, List.length_singleton]; omega
    rw [this]; simp
/-- the order, taken within a frame whose ledger holds the table -/
theorem use_order {Q : Value → Shared → Prop} {h₀ : Heap} {L : Addr} {m : Str → Option Value} {news : List (Addr × Obj)} {oT : Obj} (F : Fr h₀ L s.heap m) (N : News h₀ L s.heap ((147, oT) :: news)) (hne : ∀ q ∈ news, q.1 ≠ 147)
    (X : (hd.heap_39 w.params).In h₀) (T : Top p loose mean mg mb h₀) (C : CodeHd h₀ 151 147) (hT : TabIs s.heap 147 75 41 qOrd) (hA : AOk A 900)
    {l : Addr} {vs : List Value} {ns : List Int} (hl : s.heap.IsList l vs.toArray) (hi : IntsAre vs ns) (h2 : 2 ≤ ns.length) (hz : ns.length ≤ 60)
    (h : ∀ D o out oT' h' tk, IsOrder ns o → IntsAre out (o.map fun (i : Nat) => (i : Int)) → h'.IsList D (List.toArray out) → h₀.get? D = none → D ≠ L → (∀ q ∈ (147, oT) :: news, q.1 ≠ D) → TabIs h' 147 75 41 qOrd → (∀ b o, b ≠ 147 → s.heap.get? b = some o → h'.get? b = some o) → Fr h₀ L h' m → News h₀ L h' ((147, oT') :: news) → Q (.ref D) { s with heap := h', toks := tk }) :
    wpAny (Mo w) A (call (.ref 152) [.ref l]) Q E s := by
  have hP := N _ (.head _)
  refine wpAny_mono (order_spec ⟨X, T⟩ C F.keep hP.2.2 hT hA hl hi h2 hz) (fun v s' hv => ?_) fun _ _ x => x.elim
  obtain ⟨⟨h', tk, rfl, hk⟩, hT', D, o, out, rfl, hD, ho, hlD, hout⟩ := hv
  have hLne : L ≠ 147 := Ne.symm hP.2.1
  have F' : Fr h₀ L h' m := ⟨F.ns.at' fun o e => hk _ o hLne e, fun b o e => hk b o (fun q => by rw [q, hP.2.2] at e; cases e) (F.keep b o e), F.above⟩
  obtain ⟨oT', hT2⟩ : ∃ oT', h'.get? 147 = some oT' := by rcases hT' with z | ⟨c', z, _⟩ <;> exact ⟨_, z⟩
  have hDs : ∀ b o, s.heap.get? b = some o → b ≠ D := fun b o e q => by rw [q, hD] at e; cases e
  obtain ⟨oL, _, _, hoL, _⟩ := F.ns
  refine h D o out oT' h' tk ho hout hlD (by cases hq : h₀.get? D with | none => rfl | some o' => exact absurd rfl (hDs _ _ (F.keep _ _ hq))) (Ne.symm (hDs _ _ hoL)) (fun q hq => hDs _ _ (N q hq).1) hT' hk F' fun q hq => ?_
  rcases List.mem_cons.mp hq with rfl | hq
  · exact ⟨hT2, hP.2⟩
  · have n := N q (.tail _ hq)
    exact ⟨hk _ _ (hne q hq) n.1, n.2⟩
local macro_rules | `(tactic| walk_at "exec For Name Call cons nil") => `(tactic| refine stuck ?_)
local macro_rules | `(tactic| walk_at "call ref") => `(tactic| refine stuck ?_)
local macro_rules | `(tactic| walk_at "exec If") => `(tactic| refine stuck ?_)
local macro_rules | `(tactic| walk_at "subscriptTail") => `(tactic| refine stuck ?_)
local macro_rules | `(tactic| walk_at "subscriptTail Name Name ref int") => `(tactic| refine stuck ?_)
local macro_rules | `(tactic| walk_at "call builtin:list.append") => `(tactic| refine stuck ?_)
set_option maxRecDepth 100000
set_option maxHeartbeats 8000000
theorem groups_spec {h₀ : Heap} (G : Gd w p loose mean mg mb h₀) (C : CodeHd h₀ 151 147) (k₀ : ∀ b o, h₀.get? b = some o → s.heap.get? b = some o) (hP0 : h₀.get? 147 = none) (hT : TabIs s.heap 147 75 41 qOrd) (hA : AOk A 890)
    {li lr : Addr} {vs us : List Value} {ns : List Int} (hli : s.heap.IsList li vs.toArray) (hth : ∀ v ∈ vs, IsThing v) (hlr : s.heap.IsList lr us.toArray) (hi : IntsAre us ns) (hlen : vs.length = ns.length) (h2 : 2 ≤ ns.length) (hz : ns.length ≤ 60) :
    wpAny (Mo w) A (call (.ref 159) [.ref li, .ref lr]) (GrpPost s ns vs) NoE s := by
  obtain ⟨oT, hTo⟩ : ∃ oT, s.heap.get? 147 = some oT := by rcases hT with z | ⟨c', z, _⟩ <;> exact ⟨_, z⟩
  have nP : ∀ {l : Addr} {its : Array Value}, s.heap.IsList l its → l ≠ 147 := fun {l its} x q => by
    obtain ⟨ol, e1, e2, _⟩ := x
    rcases hT with hT | ⟨c', hT, hcr⟩ <;> (rw [q, hT] at e1; cases e1; cases e2)
  refine' call_defT (binds := [(Str.ofString "items", .ref li), (Str.ofString "ranks", .ref lr)]) G k₀ hP0 hTo hA ?ho ?hcd ?hb ?hl ?h ?c1 ?c2 ?c3 ?c4 ?c5
  case ho => k_is
  case hcd => k_is
  case hb => exact BindsTo.of_eq rfl
  case hl => exact locs rfl
  case c1 => rfl
  case c2 => rfl
  case c3 => rfl
  case c4 => decide
  case c5 => decide
  intro g L' h₁ kg hgP kg0 hPL kh F N X T hA'
  have Cg := C.keeps kg0
  have hlig : g.IsList li vs.toArray := hli.at fun o e => kg li o (nP hli) e
  have hlrg : g.IsList lr us.toArray := hlr.at fun o e => kg lr o (nP hlr) e
  have hT1 : TabIs h₁ 147 75 41 qOrd := by
    rcases hT with z | ⟨c', z, zc⟩
    · exact .inl (kh _ _ z)
    · exact .inr ⟨c', kh _ _ z, zc.keeps kh⟩
  have hab := F.above
  w_on
  k_steps
  rename_i G' _ hG147 hh' F' N'
  have hTc : TabIs hh' 147 75 41 qOrd := by
    rcases hT with z | ⟨c', z, zc⟩
    · rw [hTo] at z; cases z; exact .inl (N' _ (.tail _ (.head _))).1
    · rw [hTo] at z; cases z
      refine .inr ⟨c', (N' _ (.tail _ (.head _))).1, ?_⟩
      obtain ⟨c, oc1, vs1, t1, e1, e2, e3, e4⟩ := zc
      refine ⟨c, oc1, vs1, t1, e1, F'.keep _ _ (kg c oc1 (fun q => ?_) e2), e3, e4⟩
      rw [q, hTo] at e2; cases e2; cases e3; cases e4
  refine unstuck (For_invV g rfl rfl ?_)
  k_steps
  refine unstuck (use_order (news := [(G', W.listOf #[] 0)]) F' (fun q hq => N' q (by simp only [List.mem_cons, List.not_mem_nil, or_false] at hq ⊢; exact hq.symm)) (fun q hq => by rw [List.mem_singleton.mp hq]; exact Nat.ne_of_gt hG147) X T Cg hTc (hA'.mono (by decide)) (hlrg.at fun o e => F'.keep _ o e) hi h2 hz ?_)
  intro D o out oT2 h2' tk2 ho hout hlD hD0 hDL hDne hT2 hk2 F2 N2
  dsimp only
  have hL147 : L' ≠ 147 := Nat.ne_of_gt hPL
  obtain ⟨oT3, rest, hW, N3, hnd3, hf3⟩ := hT2.led F2 hL147 hgP
  have hG : h2'.get? G' = some (W.listOf #[] 0) := (N2 _ (.tail _ (.head _))).1
  have hGn := (N2 (G', W.listOf #[] 0) (.tail _ (.head _))).2
  have hGtl : ∀ q ∈ (147, oT3) :: rest, q.1 ≠ G' := fun q hq e => by
    obtain ⟨fs, hfs⟩ := hf3 q hq
    have := (N3 q hq).1
    rw [e, hG] at this; rw [← Option.some.inj this] at hfs; cases hfs
  have hDtl : ∀ q ∈ (147, oT3) :: rest, q.1 ≠ D := fun q hq e => by
    obtain ⟨fs, hfs⟩ := hf3 q hq
    have := (N3 q hq).1
    obtain ⟨oD, e1, e2, c, e3⟩ := hlD
    rw [e, e1] at this; rw [← Option.some.inj this, e3] at hfs; cases hfs
  have hN0 : News g L' h2' ((G', W.listOf #[] 0) :: (147, oT3) :: rest) := fun q hq => by
    rcases List.mem_cons.mp hq with rfl | hq
    · exact ⟨hG, hGn⟩
    · exact N3 q hq
  clear N2 F' N' hk2 hTc hT2
  refine iter_grow (fun i m news => (∀ z, z ≠ Str.ofString "j" → m z = (if z = Str.ofString "groups" then some (.ref G') else [(Str.ofString "items", Value.ref li), (Str.ofString "ranks", Value.ref lr)].reverse.lookup z)) ∧
    ∃ rl cG, news = (G', W.listOf (rl.reverse.map fun g : GR × Nat => Value.ref g.1.T).toArray cG) :: (led rl ++ (147, oT3) :: rest) ∧ (news.map (·.1)).Nodup ∧ (∀ q ∈ news, q.1 ≠ D) ∧ (∀ g ∈ rl, (∀ v ∈ g.1.vs, IsThing v) ∧ g.1.vs.length ≤ i) ∧ rl.length ≤ i ∧
      rl.map (fun g => (g.1.r, g.1.vs)) = (o.take i).foldl (grpStep ns vs) []) hA'.hd hlD hDL F2 hN0 ⟨fun _ _ => rfl, [], 0, rfl, ?_, ?_, (fun _ h => nomatch h), Nat.le_refl _, rfl⟩ ?_ ?_
  · simp only [List.map_cons, List.nodup_cons] at hnd3 ⊢
    exact ⟨fun q => by
      rcases List.mem_cons.mp q with q | q
      · exact hGtl _ (.head _) q.symm
      · obtain ⟨z, hz, e⟩ := List.mem_map.mp q
        exact hGtl z (.tail _ hz) e, hnd3⟩
  · intro q hq
    rcases List.mem_cons.mp hq with rfl | hq
    · exact hDne _ (.tail _ (.head _))
    · exact hDtl q hq
  · rintro I i v m₁ news₁ h tk own hiv hIh hIs hnI hown ⟨oI, hIo⟩ hDo ⟨hm, rl, cG, rfl, hnd, hnD, hrl, hrlen, hgs⟩ F₁ N₁
    obtain ⟨oD, hDo⟩ := hDo hD0
    have hiv' : out[i]? = some v := by simpa using hiv
    have hlt : i < o.length := by
      have h1 := (List.getElem?_eq_some_iff.mp hiv').1
      have h3 := hout.length
      rw [List.length_map] at h3; omega
    obtain ⟨tj, ej⟩ := hout.get i (o[i] : Int) (by simp [hlt])
    rw [hiv'] at ej
    cases ej
    have hj : o[i] < ns.length := by
      have := ho.perm.mem_iff.mp (List.getElem_mem hlt)
      simpa using this
    generalize hjj : o[i] = j at *
    have htake : o.take (i + 1) = o.take i ++ [j] := by
      rw [List.take_add_one, List.getElem?_eq_getElem hlt, hjj]; rfl
    obtain ⟨trj, ers⟩ := hi.get j (ns.getD j 0) (by rw [List.getD_eq_getElem?_getD, List.getElem?_eq_getElem hj]; rfl)
    have evs : vs[j]? = some (vs.getD j .none) := by rw [List.getD_eq_getElem?_getD, List.getElem?_eq_getElem (by omega)]; rfl
    have hvT : IsThing (vs.getD j .none) := hth _ (List.mem_of_getElem? evs)
    have F₂ : Fr g L' h (fun z => if z = Str.ofString "j" then some (.int j tj) else if z = Str.ofString "groups" then some (.ref G') else [(Str.ofString "items", Value.ref li), (Str.ofString "ranks", Value.ref lr)].reverse.lookup z) := by
      have e : (fun y => if y = Str.ofString "j" then some (Value.int j tj) else m₁ y) = (fun z => if z = Str.ofString "j" then some (.int j tj) else if z = Str.ofString "groups" then some (.ref G') else [(Str.ofString "items", Value.ref li), (Str.ofString "ranks", Value.ref lr)].reverse.lookup z) := by
        funext z
        by_cases hz : z = Str.ofString "j"
        · simp only [if_pos hz]
        · simp only [if_neg hz]; exact hm z hz
      rw [← e]; exact F₁
    have N₂ : News g L' h ((G', W.listOf (rl.reverse.map fun g : GR × Nat => Value.ref g.1.T).toArray cG) :: (led rl ++ (147, oT3) :: rest) ++ own) := N₁
    clear F₁ N₁ hm hiv hiv'
    k_steps
    refine unstuck (wpAny_mono (Q := fun f s' => Stuck (f = Flow.next ∧ ∃ h' tk' g1 c1 rl' cG', s' = { s with heap := h', toks := tk' } ∧ Fr g L' h' (fun z => if z = Str.ofString "j" then some (.int j tj) else if z = Str.ofString "groups" then some (.ref G') else [(Str.ofString "items", Value.ref li), (Str.ofString "ranks", Value.ref lr)].reverse.lookup z) ∧
      News g L' h' ((G', W.listOf (((g1, c1) :: rl').reverse.map fun g : GR × Nat => Value.ref g.1.T).toArray cG') :: (led ((g1, c1) :: rl') ++ (147, oT3) :: rest) ++ own) ∧
      (((G', W.listOf (((g1, c1) :: rl').reverse.map fun g : GR × Nat => Value.ref g.1.T).toArray cG') :: (led ((g1, c1) :: rl') ++ (147, oT3) :: rest)).map (·.1)).Nodup ∧
      (∀ q ∈ (G', W.listOf (((g1, c1) :: rl').reverse.map fun g : GR × Nat => Value.ref g.1.T).toArray cG') :: (led ((g1, c1) :: rl') ++ (147, oT3) :: rest), q.1 ≠ D ∧ q.1 ≠ I) ∧
      (∀ g ∈ (g1, c1) :: rl', (∀ v ∈ g.1.vs, IsThing v) ∧ g.1.vs.length ≤ i) ∧ rl'.length ≤ i ∧ (g1.r, g1.vs ++ [vs.getD j .none]) :: rl'.map (fun g => (g.1.r, g.1.vs)) = (o.take (i + 1)).foldl (grpStep ns vs) []))
      (wpAny_If (wpAny_mono (Q := fun b s₂ => b = needNew rl (ns.getD j 0) ∧ ∃ h' tk', s₂ = { s with heap := h', toks := tk' } ∧ Fr g L' h' (fun z => if z = Str.ofString "j" then some (.int j tj) else if z = Str.ofString "groups" then some (.ref G') else [(Str.ofString "items", Value.ref li), (Str.ofString "ranks", Value.ref lr)].reverse.lookup z) ∧
      News g L' h' ((G', W.listOf (rl.reverse.map fun g : GR × Nat => Value.ref g.1.T).toArray cG) :: (led rl ++ (147, oT3) :: rest) ++ own)) ?_ ?_ fun _ _ x => x)) ?_ fun _ _ x => x)
    · refine isTrue_or (wpAny_isTrue_Compare1 (nameX_L F₂ rfl (List_ (args_nil (newList_N F₂ N₂ ?_)))))
      intro h3 F₃ N₃
      have hP := parts_led (G := G') (cG := cG) (rl := rl) N₃ (.tail _ (.head _)) (fun q hq => .tail _ (.tail _ (List.mem_append_left _ (List.mem_append_left _ hq))))
      have hthg : ∀ q ∈ rl.reverse.map (·.1), ∀ v ∈ q.vs, IsThing v := fun q hq => by
        obtain ⟨z, hz, rfl⟩ := List.mem_map.mp hq
        exact (hrl z (List.mem_reverse.mp hz)).1
      obtain ⟨as, hR⟩ := hP.reads hthg
      have hR2 : Reads h3 (.ref h.objs.size) (.list []) [h.objs.size] := Reads.list (N₃ _ (.head _)).1 rfl rfl .nil
      have hsh : ∀ q ∈ gsOf (rl.reverse.map (·.1)), ∀ v ∈ q.2, IsThing v := fun q hq => by
        obtain ⟨z, hz, rfl⟩ := List.mem_map.mp hq
        exact hthg z hz
      refine eq_dataH hR hR2 (shaped_groups hsh) rfl (by have := hA'.un; unfold cLine; omega) (wpAny_truthy_bool ?_)
      have N₄ : News g L' h3 ((G', W.listOf (rl.reverse.map fun g : GR × Nat => Value.ref g.1.T).toArray cG) :: (led rl ++ (147, oT3) :: rest) ++ own) := fun q hq => N₃ q (.tail _ hq)
      cases rl with
      | nil => exact ⟨rfl, _, _, rfl, F₃, N₄⟩
      | cons gc rl =>
        obtain ⟨g1, c1⟩ := gc
        have he : PyData.eqv (.list ((gsOf (((g1, c1) :: rl).reverse.map (·.1))).map dG)) (.list []) = false := by
          rw [List.reverse_cons, List.map_append, gsOf, List.map_append, List.map_append]
          generalize List.map dG (List.map (fun g => (g.r, g.vs)) (List.map (fun x => x.1) rl.reverse)) = z
          cases z <;> simp [PyData.eqv, PyData.eqvAll]
        rw [he]
        simp only [Bool.false_eq_true, if_false]
        have hg1 : GrAt h3 g1 := hP.2 g1 (List.mem_map.mpr ⟨(g1, c1), List.mem_reverse.mpr (.head _), rfl⟩)
        have hGl : h3.IsList G' ((rl.reverse.map fun g : GR × Nat => Value.ref g.1.T) ++ [Value.ref g1.T]).toArray := by
          have := News.isList N₄ (.head _)
          rw [List.reverse_cons, List.map_append] at this; exact this
        refine isTrue_or (wpAny_isTrue_Compare1 (Subscript_ (Subscript_ (nameX_L F₃ rfl (UnaryOp_ (wpAny_Constant_int (neg_int (item_last hGl (wpAny_Constant_int (item_tupleT (l := [.int g1.r g1.t, .ref g1.L]) hg1.1 (by decide) (by decide) rfl rfl ?_))))))))))
        refine Subscript_ (nameX_L F₃ rfl (nameX_L F₃ rfl (item_list (hlrg.at fun o e => F₃.keep _ o e) (by omega) (by omega) (by simpa using ers) (ne_int (wpAny_truthy_bool ?_)))))
        show if (g1.r != ns.getD j 0) = true then _ else _
        cases hb : (g1.r != ns.getD j 0)
        · simp only [Bool.false_eq_true, if_false]
          exact isTrue_or_nil ⟨by simpa [needNew] using hb.symm, _, _, rfl, F₃, N₄⟩
        · simp only [if_true]
          exact ⟨by simpa [needNew] using hb.symm, _, _, rfl, F₃, N₄⟩
    · rintro b s₂ ⟨rfl, h3, tk3, rfl, F₃, N₃⟩
      clear F₂ N₂
      cases hb : needNew rl (ns.getD j 0)
      · simp only [Bool.false_eq_true, if_false]
        cases rl with
        | nil => cases hb
        | cons gc rl =>
          obtain ⟨g1, c1⟩ := gc
          have hr : g1.r = ns.getD j 0 := by simpa [needNew] using hb
          refine wpAny_execs_nil ⟨rfl, h3, tk3, g1, c1, rl, cG, rfl, F₃, N₃, hnd, fun q hq => ⟨hnD q hq, hnI q hq⟩, hrl, by simp at hrlen; omega, ?_⟩
          rw [htake, List.foldl_append, ← hgs]
          simp only [List.map_cons, List.foldl_cons, List.foldl_nil, grpStep]
          rw [if_pos hr]
      · simp only [if_true]
        k_steps
        refine unstuck (item_list (hlrg.at fun o e => F₃.keep _ o e) (by omega) (by omega) (by simpa using ers) ?_)
        k_steps
        rename_i l₁ _ hl₁ D₁ _ F₄ N₄ hD₁
        have hG₁ : G' < l₁ := hl₁ _ (List.mem_append_left _ (.head _))
        have hGD : G' < D₁ := hD₁.2.1
        refine unstuck (show wpAny _ _ (call (Value.builtin "list.append") [Value.ref G', Value.ref D₁]) _ _ _ from append_K (n := cG) F₄ N₄ (Upd.tail (Nat.ne_of_gt hGD) (Upd.tail (Nat.ne_of_gt hG₁) (Upd.head ?_))) ?_ ?_)
        · intro q hq
          rcases List.mem_append.mp hq with hq | hq
          · intro e
            simp only [List.map_cons, List.nodup_cons] at hnd
            exact hnd.1 (List.mem_map.mpr ⟨q, hq, e⟩)
          · intro e
            rcases hown q hq with z | z
            · exact hnI _ (.head _) (e.symm.trans z)
            · exact hnD _ (.head _) (e.symm.trans z)
        · intro h5 F₅ N₅
          k_steps
          have hlD₁ : l₁ < D₁ := hD₁.1
          have hol : ∀ q ∈ (G', W.listOf (rl.reverse.map fun g : GR × Nat => Value.ref g.1.T).toArray cG) :: (led rl ++ (147, oT3) :: rest) ++ own, q.1 < l₁ := hl₁
          refine unstuck ⟨rfl, h5, _, ⟨D₁, l₁, ns.getD j 0, trj, []⟩, 0, rl, cG + 1, rfl, F₅, ?_, ?_, ?_, ?_, hrlen, ?_⟩
          · intro q hq
            simp only [List.cons_append] at hq
            rcases List.mem_cons.mp hq with rfl | hq
            · have := N₅ (G', _) (.tail _ (.tail _ (.head _)))
              simpa using this
            · rcases List.mem_cons.mp hq with rfl | hq
              · exact N₅ _ (.tail _ (.head _))
              · rcases List.mem_cons.mp hq with rfl | hq
                · exact N₅ _ (.head _)
                · exact N₅ _ (.tail _ (.tail _ (.tail _ hq)))
          · simp only [led, List.cons_append, List.map_cons, List.nodup_cons, List.mem_cons] at hnd ⊢
            refine ⟨?_, ?_, ?_, hnd.2⟩
            · rintro (e | e | e)
              · exact absurd hG₁ (by rw [e]; exact Nat.lt_irrefl _)
              · exact absurd hGD (by rw [e]; exact Nat.lt_irrefl _)
              · exact hnd.1 e
            · rintro (e | e)
              · exact absurd hlD₁ (by rw [e]; exact Nat.lt_irrefl _)
              · obtain ⟨z, hz, e⟩ := List.mem_map.mp e
                exact absurd (hol z (List.mem_append_left _ (.tail _ hz))) (by rw [e]; exact Nat.lt_irrefl _)
            · intro e
              obtain ⟨z, hz, e⟩ := List.mem_map.mp e
              exact absurd (Nat.lt_trans (hol z (List.mem_append_left _ (.tail _ hz))) hlD₁) (by rw [e]; exact Nat.lt_irrefl _)
          · have hGneD : G' ≠ D := hnD _ (.head _)
            have hGneI : G' ≠ I := hnI _ (.head _)
            have hDl : D < l₁ := hol _ (List.mem_append_right _ hDo)
            have hIl : I < l₁ := hol _ (List.mem_append_right _ hIo)
            intro q hq
            simp only [led, List.cons_append] at hq
            rcases List.mem_cons.mp hq with rfl | hq
            · exact ⟨hGneD, hGneI⟩
            · rcases List.mem_cons.mp hq with rfl | hq
              · exact ⟨Nat.ne_of_gt hDl, Nat.ne_of_gt hIl⟩
              · rcases List.mem_cons.mp hq with rfl | hq
                · exact ⟨Nat.ne_of_gt (Nat.lt_trans hDl hlD₁), Nat.ne_of_gt (Nat.lt_trans hIl hlD₁)⟩
                · exact ⟨hnD _ (.tail _ hq), hnI _ (.tail _ hq)⟩
          · intro q hq
            rcases List.mem_cons.mp hq with rfl | hq
            · exact ⟨(fun _ h => nomatch h), Nat.zero_le _⟩
            · exact hrl q hq
          · rw [htake, List.foldl_append, ← hgs]
            simp only [List.foldl_cons, List.foldl_nil, List.nil_append]
            cases rl with
            | nil => rfl
            | cons gc rl =>
              obtain ⟨g1, c1⟩ := gc
              have hr : g1.r ≠ ns.getD j 0 := by simpa [needNew] using hb
              simp only [List.map_cons, grpStep]
              rw [if_neg hr]
        · have h1 := sizeLine_eq
          have h3 := ho.perm.length_eq
          simp only [List.length_range] at h3
          simp only [List.size_toArray, List.length_map, List.length_reverse]
          omega
    · rintro f s' ⟨rfl, h3, tk3, g1, c1, rl', cG', rfl, F₃, N₃, hnd', hne', hth', hlen', hgs'⟩
      clear F₂ N₂ hnd hnD hrl hgs hnI hrlen
      have N₄ : News g L' h3 ((G', W.listOf (((g1, c1) :: rl').reverse.map fun g : GR × Nat => Value.ref g.1.T).toArray cG') :: (g1.L, W.listOf g1.vs.toArray c1) :: (g1.T, tupG g1) :: ((led rl' ++ (147, oT3) :: rest) ++ own)) := N₃
      have hGl : h3.IsList G' ((rl'.reverse.map fun g : GR × Nat => Value.ref g.1.T) ++ [Value.ref g1.T]).toArray := by
        have := News.isList N₄ (.head _)
        rw [List.reverse_cons, List.map_append] at this; exact this
      have hT1' : IsTup h3 g1.T [Value.int g1.r g1.t, Value.ref g1.L].toArray := News.isTup N₄ (.tail _ (.tail _ (.head _)))
      clear N₃
      dsimp only
      k_steps
      refine unstuck (item_last hGl ?_)
      k_steps
      refine unstuck (item_tupleT (l := [Value.int g1.r g1.t, Value.ref g1.L]) hT1' (by decide) (by decide) rfl rfl ?_)
      k_steps
      refine unstuck (item_list (hlig.at fun o e => F₃.keep _ o e) (by omega) (by omega) (by simpa using evs) ?_)
      k_steps
      have hnd2 := hnd'
      simp only [led, List.cons_append, List.map_cons, List.nodup_cons, List.mem_cons, not_or] at hnd2
      obtain ⟨⟨n1, n2, n3⟩, ⟨n4, n5⟩, n6, n7⟩ := hnd2
      have hgo : ∀ q ∈ own, q.1 ≠ g1.L := fun q hq e => by
        have hx := hne' (g1.L, W.listOf g1.vs.toArray c1) (.tail _ (.head _))
        rcases hown q hq with z | z
        · exact hx.2 (e.symm.trans z)
        · exact hx.1 (e.symm.trans z)
      refine unstuck (show wpAny _ _ (call (Value.builtin "list.append") [Value.ref g1.L, vs.getD j .none]) _ _ _ from append_K (n := c1) F₃ N₄ (Upd.tail n1 (Upd.head ?_)) ?_ ?_)
      · intro q hq
        rcases List.mem_cons.mp hq with rfl | hq
        · exact Ne.symm n4
        · rcases List.mem_append.mp hq with hq | hq
          · exact fun e => n5 (List.mem_map.mpr ⟨q, hq, e⟩)
          · exact hgo q hq
      · intro h5 F₅ N₅
        k_steps
        refine ⟨h5, _, _, (G', W.listOf (((({ g1 with vs := g1.vs ++ [vs.getD j .none] } : GR), c1 + 1) :: rl').reverse.map fun g : GR × Nat => Value.ref g.1.T).toArray cG') :: (led ((({ g1 with vs := g1.vs ++ [vs.getD j .none] } : GR), c1 + 1) :: rl') ++ (147, oT3) :: rest), rfl, F₅, ?_, ?_, fun z hz => if_neg hz, (({ g1 with vs := g1.vs ++ [vs.getD j .none] } : GR), c1 + 1) :: rl', cG', rfl, ?_, ?_, ?_, ?_, ?_⟩
        · show News g L' h5 _
          intro q hq
          simp only [List.cons_append, led] at hq
          rcases List.mem_cons.mp hq with rfl | hq
          · have := N₅ (G', _) (.head _)
            simpa using this
          · rcases List.mem_cons.mp hq with rfl | hq
            · have := N₅ (g1.L, _) (.tail _ (.head _))
              simpa using this
            · rcases List.mem_cons.mp hq with rfl | hq
              · exact N₅ _ (.tail _ (.tail _ (.head _)))
              · exact N₅ _ (.tail _ (.tail _ (.tail _ hq)))
        · intro q hq
          simp only [led, List.cons_append] at hq
          rcases List.mem_cons.mp hq with rfl | hq
          · exact (hne' (G', _) (.head _)).2
          · rcases List.mem_cons.mp hq with rfl | hq
            · exact (hne' (g1.L, _) (.tail _ (.head _))).2
            · rcases List.mem_cons.mp hq with rfl | hq
              · exact (hne' (g1.T, _) (.tail _ (.tail _ (.head _)))).2
              · exact (hne' q (.tail _ (.tail _ (.tail _ hq)))).2
        · have : ∀ a b c : Obj, (((G', a) :: (g1.L, b) :: (g1.T, c) :: (led rl' ++ (147, oT3) :: rest)).map (·.1)) = ((G', a) :: (led ((g1, c1) :: rl') ++ (147, oT3) :: rest)).map (·.1) := fun _ _ _ => rfl
          exact hnd'
        · intro q hq
          simp only [led, List.cons_append] at hq
          rcases List.mem_cons.mp hq with rfl | hq
          · exact (hne' (G', _) (.head _)).1
          · rcases List.mem_cons.mp hq with rfl | hq
            · exact (hne' (g1.L, _) (.tail _ (.head _))).1
            · rcases List.mem_cons.mp hq with rfl | hq
              · exact (hne' (g1.T, _) (.tail _ (.tail _ (.head _)))).1
              · exact (hne' q (.tail _ (.tail _ (.tail _ hq)))).1
        · intro q hq
          rcases List.mem_cons.mp hq with rfl | hq
          · have h1 := hth' (g1, c1) (.head _)
            refine ⟨fun v hv => ?_, ?_⟩
            · rcases List.mem_append.mp hv with hv | hv
              · exact h1.1 v hv
              · rw [List.mem_singleton.mp hv]; exact hvT
            · have : g1.vs.length ≤ i := h1.2
              show (g1.vs ++ [vs.getD j .none]).length ≤ i + 1
              rw [List.length_append, List.length_singleton]; omega
          · have h1 := hth' q (.tail _ hq)
            exact ⟨h1.1, Nat.le_succ_of_le h1.2⟩
        · simp only [List.length_cons]; omega
        · simp only [List.map_cons]; exact hgs'
      · have h1 := sizeLine_eq
        have h3 := ho.perm.length_eq
        have h4 : g1.vs.length ≤ i := (hth' (g1, c1) (.head _)).2
        simp only [List.length_range] at h3
        simp only [List.size_toArray]
        omega
  · rintro m₁ news₁ h tk ⟨hm, rl, cG, rfl, hnd, hnD, hrl, hrlen, hgs⟩ F₁ N₁
    have F₂ : Fr g L' h (fun z => if z = Str.ofString "j" then m₁ z else if z = Str.ofString "groups" then some (.ref G') else [(Str.ofString "items", Value.ref li), (Str.ofString "ranks", Value.ref lr)].reverse.lookup z) := by
      have e : m₁ = (fun z => if z = Str.ofString "j" then m₁ z else if z = Str.ofString "groups" then some (.ref G') else [(Str.ofString "items", Value.ref li), (Str.ofString "ranks", Value.ref lr)].reverse.lookup z) := by
        funext z
        by_cases hz : z = Str.ofString "j"
        · simp only [if_pos hz]
        · simp only [if_neg hz]; exact hm z hz
      rw [← e]; exact F₁
    have N₂ : News g L' h ((G', W.listOf (rl.reverse.map fun g : GR × Nat => Value.ref g.1.T).toArray cG) :: (led rl ++ (147, oT3) :: rest)) := N₁
    clear F₁ N₁ hm
    dsimp only
    k_steps
    refine ⟨⟨_, _, rfl, fun b o hb e => F₂.keep b o (kg b o hb e)⟩, hW.is F₂ N₂ (.tail _ (List.mem_append_right _ (.head _))) (fun q hq => .tail _ (List.mem_append_right _ (.tail _ hq))), G', o, rl.reverse.map (·.1), rfl, ho, parts_led N₂ (.head _) (fun q hq => .tail _ (List.mem_append_left _ hq)), ?_⟩
    have h1 : out.toArray.size = o.length := by
      have h3 := hout.length
      rw [List.length_map] at h3; simpa using h3
    rw [h1, List.take_length] at hgs
    unfold grp gsOf
    rw [← hgs, List.map_map, ← List.map_reverse]
    rfl
end
end Mine
end
section
open PySem PySem.W PyProof.Rows PySem.Calls PySem.Spec PySem.SeqAt
namespace Mine
def qLaw : Str := (Str.ofString "law" ++ Str.ofString ".<locals>.") ++ Str.ofString "<lambda>"
/-- lists and tuples stay -/
def SK (h h' : Heap) : Prop := ∀ b o xs n, h.get? b = some o → o.data = .seq xs n → h'.get? b = some o
theorem SK.refl (h : Heap) : SK h h := fun _ _ _ _ e _ => e
theorem SK.trans {h h' h'' : Heap} (a : SK h h') (b : SK h' h'') : SK h h'' := fun x o xs n e d => b x o xs n (a x o xs n e d) d
theorem SK.of {h h' : Heap} (k : ∀ b o, h.get? b = some o → h'.get? b = some o) : SK h h' := fun b o _ _ e _ => k b o e
theorem SK.list {h h' : Heap} {a : Addr} {its : Array Value} (k : SK h h') (x : h.IsList a its) : h'.IsList a its := let ⟨o, e, c, n, d⟩ := x; ⟨o, k a o _ _ e d, c, n, d⟩
theorem SK.tup {h h' : Heap} {a : Addr} {its : Array Value} (k : SK h h') (x : IsTup h a its) : IsTup h' a its := let ⟨o, e, c, n, d⟩ := x; ⟨o, k a o _ _ e d, c, n, d⟩
theorem SK.gr {h h' : Heap} {g : GR} (k : SK h h') (x : GrAt h g) : GrAt h' g := ⟨k.tup x.1, k.list x.2⟩
theorem SK.parts {h h' : Heap} {a : Addr} {l : List GR} (k : SK h h') (x : PartsAt h a l) : PartsAt h' a l := ⟨k.list x.1, fun g hg => k.gr (x.2 g hg)⟩
/-- the addresses that may turn -/
def Sp (L b : Addr) : Prop := b = 147 ∨ b = 161 ∨ ∃ i, i ≤ 7 ∧ b = L + i
/-- all but those stay -/
def KB (L : Addr) (h h' : Heap) : Prop := ∀ b o, ¬ Sp L b → h.get? b = some o → h'.get? b = some o
theorem KB.of {L : Addr} {h h' : Heap} (k : ∀ b o, h.get? b = some o → h'.get? b = some o) : KB L h h' := fun b o _ e => k b o e
theorem KB.ofL {L : Addr} {h h' : Heap} (k : ∀ b o, b ≠ L → h.get? b = some o → h'.get? b = some o) : KB L h h' := fun b o q e => k b o (fun z => q (.inr (.inr ⟨0, Nat.zero_le _, z⟩))) e
theorem KB.trans {L : Addr} {h h' h'' : Heap} (a : KB L h h') (b : KB L h' h'') : KB L h h'' := fun x o q e => b x o q (a x o q e)
/-- the law's own frame: its names, its seven cells, the two tables -/
structure LawSt (h₀ : Heap) (L : Addr) (h : Heap) (m : Str → Option Value) (cv : Nat → Option Value) : Prop where
  F : Fr h₀ L h m
  cell : ∀ i, 1 ≤ i → i ≤ 7 → h.IsCell (L + i) (cv i)
  t1 : TabIs h 147 75 41 qOrd
  t2 : TabIs h 161 99 111 qLaw
theorem tab_same {h h' : Heap} {a P : Addr} {line col : Nat} {q : Str} (x : TabIs h P line col q) (hs : Heap.SameBut a h h') (ha : ∀ o vs, h.get? a = some o → o.data ≠ .fields vs) : TabIs h' P line col q := by
  have ne : ∀ b o vs, h.get? b = some o → o.data = .fields vs → b ≠ a := fun b o vs e d q => by rw [q] at e; exact ha o vs e d
  rcases x with x | ⟨c', x, c, oc, vs, t, e1, e2, e3, e4⟩
  · exact .inl ((hs.2 _ (ne _ _ _ x rfl)).trans x)
  · exact .inr ⟨c', (hs.2 _ (ne _ _ _ x rfl)).trans x, c, oc, vs, t, e1, (hs.2 _ (ne _ _ _ e2 e3)).trans e2, e3, e4⟩
theorem tab_keeps {h h' : Heap} {P : Addr} {line col : Nat} {q : Str} (x : TabIs h P line col q) (k : ∀ b o, h.get? b = some o → h'.get? b = some o) : TabIs h' P line col q := by
  rcases x with x | ⟨c', x, hc⟩
  · exact .inl (k _ _ x)
  · exact .inr ⟨c', k _ _ x, hc.keeps k⟩
theorem tab_but {h h' : Heap} {P R : Addr} {line col l2 c2 : Nat} {q q2 : Str} (x : TabIs h P line col q) (y : TabIs h R l2 c2 q2) (hPR : P ≠ R) (k : ∀ b o, b ≠ R → h.get? b = some o → h'.get? b = some o) : TabIs h' P line col q := by
  rcases x with x | ⟨c', x, c, oc, vs, t, e1, e2, e3, e4⟩
  · exact .inl (k _ _ hPR x)
  · refine .inr ⟨c', k _ _ hPR x, c, oc, vs, t, e1, k _ _ (fun q => ?_) e2, e3, e4⟩
    rcases y with y | ⟨c2, y, _⟩ <;> (rw [q, y] at e2; cases e2; cases e3; cases e4)
section
variable {w : World} {A : Around} {s : Shared} {E : Value → Shared → Prop} {h₀ : Heap} {L : Addr} {m : Str → Option Value} {cv : Nat → Option Value}
theorem LawSt.keeps {h h' : Heap} (x : LawSt h₀ L h m cv) (k : ∀ b o, h.get? b = some o → h'.get? b = some o) : LawSt h₀ L h' m cv :=
  ⟨x.F.keeps k, fun i a b => (x.cell i a b).keeps k, tab_keeps x.t1 k, tab_keeps x.t2 k⟩
theorem LawSt.stL {env : Env} {n : Str} {v : Value} {Q : Unit → Shared → Prop} (x : LawSt h₀ L s.heap m cv) (hL : env.locals = L) (hk : env.kindOf n = some .local) (hf : env.scope.kind = .function)
    (h : ∀ h', LawSt h₀ L h' (fun z => if z = n then some v else m z) cv → SK s.heap h' → (∀ b o, b ≠ L → s.heap.get? b = some o → h'.get? b = some o) → Q () { s with heap := h', toks := s.toks + 1 }) : wpAny (Mo w) A (storeName env n v) Q E s := by
  subst hL
  refine wpAny_storeName_local hk x.F.ns (fun h' hn hs => ?_) (by rw [hf]; rfl)
  obtain ⟨oL, es, ep, hoL, hd, _⟩ := x.F.ns
  refine h h' ⟨x.F.set hn hs, fun i a b => ?_, tab_same x.t1 hs (fun o vs e d => ?_), tab_same x.t2 hs (fun o vs e d => ?_)⟩ (fun b o xs n e d => ?_) fun b o q e => hs.extBut b o q e
  · obtain ⟨o, ho, hd⟩ := x.cell i a b
    exact ⟨o, (hs.2 _ (Nat.ne_of_gt (Nat.lt_add_of_pos_right a))).trans ho, hd⟩
  · rw [hoL] at e; cases e; rw [hd] at d; cases d
  · rw [hoL] at e; cases e; rw [hd] at d; cases d
  · refine (hs.2 _ fun q => ?_).trans e
    rw [q, hoL] at e; cases e; rw [hd] at d; cases d
theorem LawSt.stC {env : Env} {n : Str} {v : Value} {i : Nat} {Q : Unit → Shared → Prop} (x : LawSt h₀ L s.heap m cv) (h1 : 1 ≤ i) (h7 : i ≤ 7) (hc : env.cells.lookup n = some (L + i)) (hk : env.kindOf n = some .cell) (hf : env.scope.kind = .function)
    (h : ∀ h', LawSt h₀ L h' m (fun j => if j = i then some v else cv j) → SK s.heap h' → KB L s.heap h' → Q () { s with heap := h' }) : wpAny (Mo w) A (storeName env n v) Q E s := by
  refine wpAny_storeName_cell hf hk hc (x.cell i h1 h7) fun h' hv hs => ?_
  obtain ⟨oc, hoc, hcd⟩ := x.cell i h1 h7
  have hLi : L < L + i := Nat.lt_add_of_pos_right h1
  refine h h' ⟨⟨x.F.ns.sameBut hs (Nat.ne_of_lt hLi), fun b o e => (hs.2 _ (Nat.ne_of_lt (Nat.lt_of_lt_of_le (Heap.lt_size e) (Nat.le_trans x.F.above (Nat.le_of_lt hLi))))).trans (x.F.keep b o e), x.F.above⟩, fun j a b => ?_, tab_same x.t1 hs (fun o vs e d => ?_), tab_same x.t2 hs (fun o vs e d => ?_)⟩ (fun b o xs n e d => ?_) fun b o q e => hs.2 b (fun z => q (.inr (.inr ⟨i, h7, z⟩))) ▸ e
  · by_cases hj : j = i
    · subst hj; simpa using hv
    · obtain ⟨o, ho, hd⟩ := x.cell j a b
      simp only [if_neg hj]
      exact ⟨o, (hs.2 _ (fun q => hj (Nat.add_left_cancel q))).trans ho, hd⟩
  · rw [hoc] at e; cases e; rw [hcd] at d; cases d
  · rw [hoc] at e; cases e; rw [hcd] at d; cases d
  · refine (hs.2 _ fun q => ?_).trans e
    rw [q, hoc] at e; cases e; rw [hcd] at d; cases d
end
section
variable {w : World} {A : Around} {s : Shared} {E : Value → Shared → Prop} {p : Program} {loose : List Str} {mean : ExcName → Option Value} {mg mb : Str → Option Value} {env : Env} {x : Str} {pos : Pos} {v : Value} {Q : Value → Shared → Prop}
theorem gname (G : Gd w p loose mean mg mb s.heap) (e : nsIn (hd.heap_39 w.params) mainGlobals x = some (some v)) (h : Q v s) (hg : env.globals = mainGlobals := by rfl) (hk : env.scope.kind = .function := by rfl) (hx : env.kindOf x = some .globalImplicit := by rfl) (hd : (x == ("__debug__" : Str)) = false := by decide) :
    wpAny (Mo w) A (eval (.Name x pos) env) Q E s := Name_function_global hk hx (loadGlobal_global (env := env) (by rw [hg]; exact G.T.g) (mg_of G.X G.T.g e) h) hd
theorem bname (G : Gd w p loose mean mg mb s.heap) (e : nsIn (hd.heap_39 w.params) mainGlobals x = some none) (hv : bootBuiltins x = some v) (hn : x ≠ "__name__") (h : Q v s) (hg : env.globals = mainGlobals := by rfl) (hb : env.builtins = builtinsNs := by rfl) (hk : env.scope.kind = .function := by rfl) (hx : env.kindOf x = some .globalImplicit := by rfl) (hd : (x == ("__debug__" : Str)) = false := by decide) :
    wpAny (Mo w) A (eval (.Name x pos) env) Q E s :=
  Name_function_global hk hx (loadGlobal_builtin (env := env) (by rw [hg]; exact G.T.g) (mg_none_of G.X G.T.g e) (by rw [hb]; exact G.T.b) ((G.T.builtins x hn).trans hv) h) hd
theorem lname {m : Str → Option Value} (hns : s.heap.Ns env.locals m) (hv : m x = some v) (h : Q v s) (hk : env.scope.kind = .function := by rfl) (hx : env.kindOf x = some .local := by rfl) (hd : (x == ("__debug__" : Str)) = false := by decide) :
    wpAny (Mo w) A (eval (.Name x pos) env) Q E s := wpAny_Name (wpAny_loadName_local hk hx hns hv h) hd
theorem cname {c : Addr} (hc : env.cells.lookup x = some c) (hv : s.heap.IsCell c (some v)) (h : Q v s) (hk : env.scope.kind = .function := by rfl) (hx : env.kindOf x = some .cell := by rfl) (hd : (x == ("__debug__" : Str)) = false := by decide) :
    wpAny (Mo w) A (eval (.Name x pos) env) Q E s := wpAny_Name (wpAny_loadName_cell hk hx hc hv h) hd
end
end Mine
end
section
open PySem PySem.W PyProof.Rows PySem.Calls PySem.Spec PySem.SeqAt
namespace Mine
theorem fill11 : PySem.Challenge.rw_mq0061_01 = PySem.Challenge.rw_mq0061_01 ∧ (hd.heap_39 = hd.heap_39) := by
  k_fill
  exact ⟨rfl, rfl⟩
section
variable {w : World} {A : Around} {s : Shared} {E : Value → Shared → Prop} {p : Program} {loose : List Str} {mean : ExcName → Option Value} {mg mb : Str → Option Value} {env : Env}
/-- range(len(x)) -/
theorem range_len {x : Str} {px pl pr p1 p2 : Pos} {a : Addr} {its : Array Value} {Q : Value → Shared → Prop} (G : Gd w p loose mean mg mb s.heap) (hl : s.heap.IsList a its) (hz : its.size ≤ 1000)
    (hx : ∀ Q' : Value → Shared → Prop, Q' (.ref a) s → wpAny (Mo w) A (eval (.Name x px) env) Q' E s)
    (h : ∀ r h' tk t u v, IsRange h' r 0 (its.size : Int) 1 t u v → (∀ b o, s.heap.get? b = some o → h'.get? b = some o) → s.heap.objs.size ≤ r → Q (.ref r) { s with heap := h', toks := tk })
    (hg : env.globals = mainGlobals := by rfl) (hb : env.builtins = builtinsNs := by rfl) (hk : env.scope.kind = .function := by rfl) (k1 : env.kindOf (Str.ofString "range") = some .globalImplicit := by rfl) (k2 : env.kindOf (Str.ofString "len") = some .globalImplicit := by rfl) :
    wpAny (Mo w) A (eval (.Call (.Name (Str.ofString "range") pr) [.Call (.Name (Str.ofString "len") pl) [.Name x px] [] p1] [] p2) env) Q E s := by
  refine Call_ (bname G (by k_is) (v := .type "range") (by boot_fast) (by decide) ?_ hg hb hk k1)
  refine callWith_type1 (args_cons (Call_ (bname G (by k_is) (v := .builtin "len") (by boot_fast) (by decide) ?_ hg hb hk k2)))
  refine callWith_builtin1 (hx _ (call_len_list hl (by omega) (args_nil (call_range_1 ?_))))
  exact h _ _ _ _ _ _ (Heap.get?_push_size _ rfl) (fun b o e => Heap.get?_push_of_some _ e) (Nat.le_refl _)
/-- a list comprehension over a list, its element keeping all -/
theorem comp_any {elt iter : Expr} {x : Str} {px pos : Pos} {scope : Scope} {cl : List (Str × Addr)} {Q : Value → Shared → Prop} {a : Addr} {its : Array Value} (F : Value → Value → Prop)
    (hh : A.handled = none) (hit : ∀ Q' : Value → Shared → Prop, Q' (.ref a) s → wpAny (Mo w) A (eval iter env) Q' E s) (hl : s.heap.IsList a its) (hz : its.size ≤ 1000)
    (hclos : closureFor scope env = pure cl) (hcell : ∀ y ∈ scope.names, y.2 ≠ .cell) (hkind : scope.kind = .function)
    (hnames : ∀ y ∈ scope.names, y.2 = .local → scope.names.lookup y.1 = some .local) (hx : scope.names.lookup x = some .local)
    (helt : ∀ C v s₃ m₃, v ∈ its.toList → s₃.heap.Ns C m₃ → m₃ x = some v → (∀ b o, s.heap.get? b = some o → s₃.heap.get? b = some o) → wpAny (Mo w) A (eval elt (compEnvC scope cl C env)) (fun y s₄ => F v y ∧ Keeps s₃ s₄) NoE s₃)
    (h : ∀ D h' tk ys, s.heap.get? D = none → h'.IsList D ys → Paired F its.toList ys.toList → (∀ b o, s.heap.get? b = some o → h'.get? b = some o) → Q (.ref D) { s with heap := h', toks := tk })
    (hs : ∀ x, foldedSetIterable iter env x = pure x := by intro _; rfl) :
    wpAny (Mo w) A (eval (.ListComp elt [⟨.Name x px, iter, [], 0⟩] scope pos) env) Q E s := by
  obtain ⟨oa, hoa, _⟩ := id hl
  have hlt : a < s.heap.objs.size := Heap.lt_size hoa
  have hne : a ≠ s.heap.objs.size := Nat.ne_of_lt hlt
  refine wpAny_ListComp_free (fun _ => true) F hclos hcell hkind hnames hx (hit _ (wpAny_pyIter_list hl ?_)) hs
  have W := Walks.list (prog := PySem.Challenge.rw_mq0061_01.row.prog) (w := w) hh s.heap.objs.size a hne its
  refine ⟨_, _, _, its.size, _, _, rfl, W, by rw [sizeLine_eq]; omega, ⟨⟨_, Heap.get?_push_size _ rfl, rfl, rfl⟩, hl.at fun o e => Heap.get?_push_of_some _ e⟩, ?_, ⟨?_, ?_⟩, ?_⟩
  · intro b hb
    have h1 : ∀ o, (s.heap.push o).objs.size = s.heap.objs.size + 1 := fun o => by rw [Heap.size_push]
    show b < (s.heap.push _).objs.size
    rw [h1]
    rcases List.mem_cons.mp hb with rfl | hb
    · exact Nat.lt_succ_self _
    · rw [List.mem_singleton.mp hb]; exact Nat.lt_succ_of_lt hlt
  · intro C i v s₃ m₃ E' _ _ _ _ _ _
    exact wpAny_pure ⟨rfl, _, _, rfl, fun _ _ e => e⟩
  · intro C i v s₃ m₃ E' hC hP _ hns hm hk _
    refine wpAny_mono (helt C v s₃ m₃ (List.mem_of_getElem? (i := i) (by simpa using hP)) hns hm fun b o e => hk b o (fun q => ?_) (Heap.get?_push_of_some _ e)) (fun _ _ x => x) fun _ _ x => x.elim
    rw [List.mem_singleton.mp q] at e
    exact Nat.lt_irrefl _ (Heap.lt_size e)
  · intro D h' tk ys vs hD hlD _ hlen hP hF hk
    have hvs : vs = its.toList := List.ext_getElem? fun i => by
      by_cases hi : i < vs.length
      · have := hP i vs[i] (by simp)
        rw [List.getElem?_eq_getElem hi, ← this]; simp
      · rw [List.getElem?_eq_none (by omega), List.getElem?_eq_none (by simp; omega)]
    subst hvs
    rw [List.filter_eq_self.mpr (fun _ _ => rfl)] at hF
    refine h D h' tk ys ?_ hlD hF fun b o e => hk b o (fun q => ?_) (Heap.get?_push_of_some _ e)
    · cases hq : s.heap.get? D with
      | none => rfl
      | some o => rw [Heap.get?_push_of_some _ hq] at hD; cases hD
    · rw [List.mem_singleton.mp q] at e
      exact Nat.lt_irrefl _ (Heap.lt_size e)
/-- a list comprehension over a list, its element a new list -/
theorem comp_obj {elt iter : Expr} {x : Str} {px pos : Pos} {scope : Scope} {cl : List (Str × Addr)} {Q : Value → Shared → Prop} {a : Addr} {its : Array Value} (F : Value → Array Value → Prop)
    (hh : A.handled = none) (hit : ∀ Q' : Value → Shared → Prop, Q' (.ref a) s → wpAny (Mo w) A (eval iter env) Q' E s) (hl : s.heap.IsList a its) (hz : its.size ≤ 1000)
    (hclos : closureFor scope env = pure cl) (hcell : ∀ y ∈ scope.names, y.2 ≠ .cell) (hkind : scope.kind = .function)
    (hnames : ∀ y ∈ scope.names, y.2 = .local → scope.names.lookup y.1 = some .local) (hx : scope.names.lookup x = some .local)
    (helt : ∀ C v s₃ m₃, v ∈ its.toList → s₃.heap.Ns C m₃ → m₃ x = some v → (∀ b o, s.heap.get? b = some o → s₃.heap.get? b = some o) → wpAny (Mo w) A (eval elt (compEnvC scope cl C env)) (fun y s₄ => (∃ T us, y = .ref T ∧ s₃.heap.get? T = none ∧ s₄.heap.IsList T us ∧ F v us) ∧ Keeps s₃ s₄) NoE s₃)
    (h : ∀ D h' tk ys, s.heap.get? D = none → h'.IsList D ys → Paired (fun v y => ∃ T us, y = .ref T ∧ h'.IsList T us ∧ F v us) its.toList ys.toList → (∀ b o, s.heap.get? b = some o → h'.get? b = some o) → Q (.ref D) { s with heap := h', toks := tk })
    (hs : ∀ x, foldedSetIterable iter env x = pure x := by intro _; rfl) :
    wpAny (Mo w) A (eval (.ListComp elt [⟨.Name x px, iter, [], 0⟩] scope pos) env) Q E s := by
  obtain ⟨oa, hoa, _⟩ := id hl
  have hlt : a < s.heap.objs.size := Heap.lt_size hoa
  have hne : a ≠ s.heap.objs.size := Nat.ne_of_lt hlt
  refine wpAny_ListComp_freeO (fun _ => true) F hclos hcell hkind hnames hx (hit _ (wpAny_pyIter_list hl ?_)) hs
  have W := Walks.list (prog := PySem.Challenge.rw_mq0061_01.row.prog) (w := w) hh s.heap.objs.size a hne its
  refine ⟨_, _, _, its.size, _, _, rfl, W, by rw [sizeLine_eq]; omega, ?_, ⟨⟨_, Heap.get?_push_size _ rfl, rfl, rfl⟩, hl.at fun o e => Heap.get?_push_of_some _ e⟩, ?_, ⟨?_, ?_⟩, ?_⟩
  · rintro i h' ⟨⟨oI, hoI, _⟩, _⟩ b hb
    rw [List.mem_singleton.mp hb]; exact ⟨oI, hoI⟩
  · intro b hb
    have h1 : ∀ o, (s.heap.push o).objs.size = s.heap.objs.size + 1 := fun o => by rw [Heap.size_push]
    show b < (s.heap.push _).objs.size
    rw [h1]
    rcases List.mem_cons.mp hb with rfl | hb
    · exact Nat.lt_succ_self _
    · rw [List.mem_singleton.mp hb]; exact Nat.lt_succ_of_lt hlt
  · intro C i v s₃ m₃ E' _ _ _ _ _ _
    exact wpAny_pure ⟨rfl, _, _, rfl, fun _ _ e => e⟩
  · intro C i v s₃ m₃ E' hC hP _ hns hm hk _
    refine wpAny_mono (helt C v s₃ m₃ (List.mem_of_getElem? (i := i) (by simpa using hP)) hns hm fun b o e => hk b o (fun q => ?_) (Heap.get?_push_of_some _ e)) (fun _ _ x => x) fun _ _ x => x.elim
    rw [List.mem_singleton.mp q] at e
    exact Nat.lt_irrefl _ (Heap.lt_size e)
  · intro D h' tk ys vs hD hlD _ hlen hP hF _ _ hk
    have hvs : vs = its.toList := List.ext_getElem? fun i => by
      by_cases hi : i < vs.length
      · have := hP i vs[i] (by simp)
        rw [List.getElem?_eq_getElem hi, ← this]; simp
      · rw [List.getElem?_eq_none (by omega), List.getElem?_eq_none (by simp; omega)]
    subst hvs
    rw [List.filter_eq_self.mpr (fun _ _ => rfl)] at hF
    refine h D h' tk ys ?_ hlD (hF.mono fun v y hy => ?_) fun b o e => hk b o (fun q => ?_) (Heap.get?_push_of_some _ e)
    · cases hq : s.heap.get? D with
      | none => rfl
      | some o => rw [Heap.get?_push_of_some _ hq] at hD; cases hD
    · obtain ⟨T, us, e1, _, e2, e3⟩ := hy
      exact ⟨T, us, e1, e2, e3⟩
    · rw [List.mem_singleton.mp q] at e
      exact Nat.lt_irrefl _ (Heap.lt_size e)
/-- a list comprehension over a range from nought, its element keeping all -/
theorem comp_rng {elt iter : Expr} {x : Str} {px pos : Pos} {scope : Scope} {cl : List (Str × Addr)} {Q : Value → Shared → Prop} {n : Nat} (F : Nat → Value → Prop)
    (hh : A.handled = none) (hn : n ≤ 1000) (hit : ∀ Q' : Value → Shared → Prop, (∀ r h' tk t u v, IsRange h' r 0 (n : Int) 1 t u v → (∀ b o, s.heap.get? b = some o → h'.get? b = some o) → Q' (.ref r) { s with heap := h', toks := tk }) → wpAny (Mo w) A (eval iter env) Q' E s)
    (hclos : closureFor scope env = pure cl) (hcell : ∀ y ∈ scope.names, y.2 ≠ .cell) (hkind : scope.kind = .function)
    (hnames : ∀ y ∈ scope.names, y.2 = .local → scope.names.lookup y.1 = some .local) (hx : scope.names.lookup x = some .local)
    (helt : ∀ C i t s₃ m₃, i < n → s₃.heap.Ns C m₃ → m₃ x = some (.int (i : Nat) t) → (∀ b o, s.heap.get? b = some o → s₃.heap.get? b = some o) → wpAny (Mo w) A (eval elt (compEnvC scope cl C env)) (fun y s₄ => F i y ∧ Keeps s₃ s₄) NoE s₃)
    (h : ∀ D h' tk ys, s.heap.get? D = none → h'.IsList D ys → Paired F (List.range n) ys.toList → (∀ b o, s.heap.get? b = some o → h'.get? b = some o) → Q (.ref D) { s with heap := h', toks := tk })
    (hs : ∀ x, foldedSetIterable iter env x = pure x := by intro _; rfl) :
    wpAny (Mo w) A (eval (.ListComp elt [⟨.Name x px, iter, [], 0⟩] scope pos) env) Q E s := by
  refine wpAny_ListComp_free (fun _ => true) (fun v y => ∃ i t, v = Value.int (i : Nat) t ∧ F i y) hclos hcell hkind hnames hx (hit _ fun r h1 tk1 t u v hr hk1 => wpAny_pyIter_range hr (small_one (by omega) (by omega) (by omega) (by omega)) ?_) hs
  have W0 := Walks.range (prog := PySem.Challenge.rw_mq0061_01.row.prog) (w := w) (A := A) hh h1.objs.size 0 1 n
  have W : Walks PySem.Challenge.rw_mq0061_01.row.prog w A h1.objs.size [h1.objs.size] [h1.objs.size] n (fun i v => i < n ∧ ∃ t, v = .int (i : Nat) t) (fun i h => IsRangeIter h h1.objs.size (0 + (i : Nat) * 1) ((n : Int) - (i : Nat)) 1) :=
    { sub := W0.sub, frame := W0.frame, item := fun i s Q E hi st hQ => W0.item i s Q E hi st fun v h' tk hP => hQ v h' tk ⟨hi, by obtain ⟨t, e⟩ := hP; exact ⟨t, by rw [e]; congr 1; omega⟩⟩, done := W0.done, self := W0.self }
  have hrs : Builtin.Range.rangeSize 0 (n : Int) 1 = (n : Int) := by rw [rangeSize_nat]; omega
  refine ⟨_, _, _, n, _, _, rfl, W, by rw [sizeLine_eq]; omega, ?_, ?_, ⟨?_, ?_⟩, ?_⟩
  · show IsRangeIter _ _ _ _ _
    rw [hrs]; simpa using Heap.get?_push_size _ rfl
  · intro b hb
    have h2 : ∀ o, (h1.push o).objs.size = h1.objs.size + 1 := fun o => by rw [Heap.size_push]
    show b < (h1.push _).objs.size
    rw [h2, List.mem_singleton.mp hb]; exact Nat.lt_succ_self _
  · intro C i v s₃ m₃ E' _ _ _ _ _ _
    exact wpAny_pure ⟨rfl, _, _, rfl, fun _ _ e => e⟩
  · intro C i v s₃ m₃ E' hC hP _ hns hm hk _
    obtain ⟨hi, t', rfl⟩ := hP
    refine wpAny_mono (helt C i t' s₃ m₃ hi hns hm fun b o e => hk b o (fun q => ?_) (Heap.get?_push_of_some _ (hk1 b o e))) (fun y s₄ x => ⟨⟨i, t', rfl, x.1⟩, x.2⟩) fun _ _ x => x.elim
    have e' := hk1 b o e
    rw [List.mem_singleton.mp q] at e'
    exact Nat.lt_irrefl _ (Heap.lt_size e')
  · intro D h' tk ys vs hD hlD _ hlen hP hF hk
    rw [List.filter_eq_self.mpr (fun _ _ => rfl)] at hF
    have key : ∀ (l : List Value) (off : Nat) (us : List Value), (∀ j v, l[j]? = some v → ∃ t, v = Value.int ((off + j : Nat) : Int) t) → Paired (fun v y => ∃ i t, v = Value.int (i : Nat) t ∧ F i y) l us → Paired F (List.range' off l.length) us := by
      intro l
      induction l with
      | nil => intro off us _ hp; cases hp; exact .nil
      | cons v l ih =>
        intro off us hl hp
        cases hp with
        | cons hv hp =>
          obtain ⟨i, t, e, hf⟩ := hv
          obtain ⟨t', e'⟩ := hl 0 v rfl
          rw [e] at e'
          have : (i : Int) = ((off + 0 : Nat) : Int) := by injection e'
          have hi : i = off := by omega
          rw [List.length_cons, List.range'_succ]
          exact .cons (hi ▸ hf) (ih (off + 1) _ (fun j v hj => by
            obtain ⟨t', e'⟩ := hl (j + 1) v (by simpa using hj)
            exact ⟨t', by rw [e']; congr 2; omega⟩) hp)
    have hF' := key vs 0 ys.toList (fun j v hj => by
      obtain ⟨_, t, e⟩ := hP j v hj
      exact ⟨t, by rw [e]; simp⟩) hF
    rw [hlen, ← List.range_eq_range'] at hF'
    refine h D h' tk ys ?_ hlD hF' fun b o e => hk b o (fun q => ?_) (Heap.get?_push_of_some _ (hk1 b o e))
    · cases hq : s.heap.get? D with
      | none => rfl
      | some o => rw [Heap.get?_push_of_some _ (hk1 _ _ hq)] at hD; cases hD
    · have e' := hk1 b o e
      rw [List.mem_singleton.mp q] at e'
      exact Nat.lt_irrefl _ (Heap.lt_size e')
end
end Mine
end
section
open PySem PySem.W PyProof.Rows PySem.Calls PySem.Spec PySem.SeqAt
namespace Mine
theorem fill12 : PySem.Challenge.rw_mq0061_01 = PySem.Challenge.rw_mq0061_01 ∧ (hd.heap_39 = hd.heap_39) := by
  k_fill
  exact ⟨rfl, rfl⟩
def jaddrs : List Addr := [35, 42, 49, 56, 63, 126, 70, 77, 84, 91, 98, 105, 112, 119, 133]
def jvals : List Value := jaddrs.map Value.ref
/-- what the judge of a place says of a thing -/
def jsays (i : Nat) (c : Int) : Bool := (jlist.getD i (fun _ => false)) c
section
variable {w : World} {A : Around} {s : Shared} {E : Value → Shared → Prop} {p : Program} {loose : List Str} {mean : ExcName → Option Value} {mg mb : Str → Option Value}
theorem judge_spec (G : Gd w p loose mean mg mb s.heap) (hA : AOk A 915) {v : Value} {c : Int} (hv : ThingV v c) : ∀ i, i < 15 → ∃ a, jvals[i]? = some (.ref a) ∧ Kp w (.ref a) s.heap ∧ wpAny (Mo w) A (call (.ref a) [v]) (Endv s fun r _ => r = .bool (jsays i c)) NoE s
  | 0, _ => ⟨35, rfl, keeps_K (K := hd.heap_39 w.params) (by k_is) _ G.X, isalnum_spec G (hA.mono (by decide)) hv⟩
  | 1, _ => ⟨42, rfl, keeps_K (K := hd.heap_39 w.params) (by k_is) _ G.X, isalpha_spec G (hA.mono (by decide)) hv⟩
  | 2, _ => ⟨49, rfl, keeps_K (K := hd.heap_39 w.params) (by k_is) _ G.X, isascii_spec G (hA.mono (by decide)) hv⟩
  | 3, _ => ⟨56, rfl, keeps_K (K := hd.heap_39 w.params) (by k_is) _ G.X, isblank_spec G (hA.mono (by decide)) hv⟩
  | 4, _ => ⟨63, rfl, keeps_K (K := hd.heap_39 w.params) (by k_is) _ G.X, iscntrl_spec G (hA.mono (by decide)) hv⟩
  | 5, _ => ⟨126, rfl, keeps_K (K := hd.heap_39 w.params) (by k_is) _ G.X, isctrl_spec G (hA.mono (by decide)) hv⟩
  | 6, _ => ⟨70, rfl, keeps_K (K := hd.heap_39 w.params) (by k_is) _ G.X, isdigit_spec G (hA.mono (by decide)) hv⟩
  | 7, _ => ⟨77, rfl, keeps_K (K := hd.heap_39 w.params) (by k_is) _ G.X, isgraph_spec G (hA.mono (by decide)) hv⟩
  | 8, _ => ⟨84, rfl, keeps_K (K := hd.heap_39 w.params) (by k_is) _ G.X, islower_spec G (hA.mono (by decide)) hv⟩
  | 9, _ => ⟨91, rfl, keeps_K (K := hd.heap_39 w.params) (by k_is) _ G.X, isprint_spec G (hA.mono (by decide)) hv⟩
  | 10, _ => ⟨98, rfl, keeps_K (K := hd.heap_39 w.params) (by k_is) _ G.X, ispunct_spec G (hA.mono (by decide)) hv⟩
  | 11, _ => ⟨105, rfl, keeps_K (K := hd.heap_39 w.params) (by k_is) _ G.X, isspace_spec G (hA.mono (by decide)) hv⟩
  | 12, _ => ⟨112, rfl, keeps_K (K := hd.heap_39 w.params) (by k_is) _ G.X, isupper_spec G (hA.mono (by decide)) hv⟩
  | 13, _ => ⟨119, rfl, keeps_K (K := hd.heap_39 w.params) (by k_is) _ G.X, isxdigit_spec G (hA.mono (by decide)) hv⟩
  | 14, _ => ⟨133, rfl, keeps_K (K := hd.heap_39 w.params) (by k_is) _ G.X, ismeta_spec G (hA.mono (by decide)) hv⟩
  | n + 15, h => absurd h (by omega)
set_option maxRecDepth 100000
set_option maxHeartbeats 4000000
/-- the lambda that asks a judge of the table -/
theorem lam_judge {qual : Str} {pa p1 p2 p3 p4 p5 p6 p7 p8 p9 : Pos} {mr : List (Str × Const)} {cl : List (Str × Addr)} {pm ctv : Value} {c' f cj cw jl : Addr} {oj ow : Obj} {i : Nat} {ti : Tok} {v : Value} {c : Int}
    (G : Gd w p loose mean mg mb s.heap) (hA : AOk A 905) (hj : cl.lookup (Str.ofString "judges") = some cj) (hw : cl.lookup (Str.ofString "which") = some cw)
    (ho : s.heap.get? f = some (kla_obj (Str.ofString "<lambda>") qual { posonlyargs := [], args := [{ arg := Str.ofString "thing", annotation := none, pos := pa }], vararg := none, kwonlyargs := [], kw_defaults := [], kwarg := none, defaults := [] }
      (.IfExp (.Call (.Subscript (.Name (Str.ofString "judges") p1) (.Name (Str.ofString "which") p2) p3) [.Name (Str.ofString "thing") p4] [] p5) (.List [.Name (Str.ofString "thing") p6] p7) (.List [] p8) p9) { kind := .function, names := [(Str.ofString "thing", .local), (Str.ofString "judges", .free), (Str.ofString "which", .free)], isGenerator := false, isCoroutine := false, more := mr } cl pm c' ctv))
    (hcd : s.heap.CodeRec (.ref c') qual) (hcj : s.heap.get? cj = some oj) (hjv : oj.data = .cell (some (.ref jl))) (hjl : s.heap.IsList jl jvals.toArray) (hcw : s.heap.get? cw = some ow) (hwv : ow.data = .cell (some (.int (i : Nat) ti))) (hi : i < 15) (hv : ThingV v c) :
    wpAny (Mo w) A (call (.ref f) [v]) (Endv s fun r h => Tr h r (jsays i c)) NoE s := by
  refine call_lam (binds := [(Str.ofString "thing", v)]) G.T.nolimit hA ho hcd rfl (locs rfl) ?_ rfl rfl rfl (by show ∀ x ∈ [(Str.ofString "thing", NameKind.local), (Str.ofString "judges", NameKind.free), (Str.ofString "which", NameKind.free)], x.2 ≠ .cell; decide) (by decide)
  intro L' h₁ F hA'
  obtain ⟨a, e1, e2, e3⟩ := judge_spec (s := { s with heap := h₁, toks := s.toks + 1 }) (G.keeps F.keep) (hA'.mono (by decide)) hv i hi
  refine IfExp_ (isTrue_plain (Call_ (Subscript_ (name_free F hj hcj hjv (name_free F hw hcw hwv (item_list (hjl.at fun o e => F.keep _ o e) (by omega) (by omega) (by simpa using e1) ?_))))))
  refine callWith_of (P := fun h => Kp w (.ref a) h) rfl (fun h x => x) (evalArgs_plain (args_cons (nameX_L F rfl (args_nil ⟨e2, ?_⟩))))
  refine wpAny_mono e3 (fun r s' hr => ?_) fun _ _ x => x
  obtain ⟨rfl, h', tk, rfl, hk⟩ := hr
  refine wpAny_truthy_bool ?_
  have F' := F.keeps hk
  cases hb : jsays i c
  · simp only [Bool.false_eq_true, if_false]
    refine List_ (args_nil (wpAny_newObj_type ?_ (by show 0 ≤ sizeLine; decide)))
    exact ⟨.inr ⟨_, #[], rfl, ⟨_, Heap.get?_push_size _ rfl, rfl, _, rfl⟩, by decide, rfl⟩, _, _, rfl, fun b o e => Heap.get?_push_of_some _ (F'.keep b o e)⟩
  · simp only [if_true]
    refine List_ (args_cons (nameX_L F' rfl (args_nil (wpAny_newObj_type ?_ (by show 1 ≤ sizeLine; decide)))))
    exact ⟨.inr ⟨_, #[v], rfl, ⟨_, Heap.get?_push_size _ rfl, rfl, _, rfl⟩, by show ((1 : Nat) : Int) < 2 ^ 63; decide, rfl⟩, _, _, rfl, fun b o e => Heap.get?_push_of_some _ (F'.keep b o e)⟩
end
end Mine
end
section
open PySem PySem.W PyProof.Rows PySem.Calls PySem.Spec PySem.SeqAt
namespace Mine
open AutoSeq1 (wpAny_loadPart')
set_option maxRecDepth 100000
theorem meets_enum_tuple (l : Addr) (items : Array Value) (n : Nat) (dct : Option Addr) (sl : Array (Option Value)) :
    Meets (Builtin.«enumerate.__new__» ⟨[.type "enumerate", .ref l], []⟩) (fun _ R s => s.heap.get? l = some { cls := .type "tuple", dict := dct, data := .seq items n, slots := sl } ∧
      R (.ok (.ret (.ref (s.heap.push { cls := .type "tuple_iterator", data := .fields #[.ref l, .int 0 0] }).objs.size)))
        { s with heap := (s.heap.push { cls := .type "tuple_iterator", data := .fields #[.ref l, .int 0 0] }).push { cls := .type "enumerate", data := .fields #[.none, .bool false, .ref s.heap.objs.size, rawInt 0, .none, .none] } }) :=
  .of_wp fun prog w A R s h => by
    obtain ⟨hp, g, d, tk, os⟩ := s; obtain ⟨hl, h⟩ := h
    have hsub := sub_enumerate
    have hL : Heap.IsTuple (Shared.heap ⟨hp, g, d, tk, os⟩) l items := ⟨_, hl, rfl, n, rfl⟩
    wp_walk using wpAny_loadPart' hl
    refine wpAny_stack_any fun st => wpAny_pure ?_
    split
    · rename_i c _ _ _ _ _
      cases (c == Value.type "enumerate") <;> (wp_walk using wpAny_loadPart' hl, wpAny_pyIter_tuple hL; exact ⟨_, rfl, h⟩)
    · wp_walk using wpAny_loadPart' hl, wpAny_pyIter_tuple hL
      exact ⟨_, rfl, h⟩
section
variable {prog : Program} {w : World} {A : Around} {E : Value → Shared → Prop} {s : Shared}
theorem call_enum_tuple {l : Addr} {items : Array Value} {Q : Value → Shared → Prop} (hL : s.heap.IsTuple l items)
    (h : ∀ h', IsEnum h' (s.heap.objs.size + 1) s.heap.objs.size 0 .none → h'.IsTupleIter s.heap.objs.size l 0 → h'.objs.size = s.heap.objs.size + 2 →
      (∀ b o, s.heap.get? b = some o → h'.get? b = some o) → Q (.ref (s.heap.objs.size + 1)) { s with heap := h' }) :
    wpAny (model prog w) A (call (.type "enumerate") [.ref l]) Q E s := by
  obtain ⟨⟨c, dct, dt, sl⟩, hl, hc, n, hd⟩ := hL
  cases (show c = .type "tuple" from hc)
  cases (show dt = .seq items n from hd)
  refine callType_new F.called_enumerate (by decide) (F.typeCall_enumerate_1 _) (F.newCall_enumerate_1 _) (fun obj => F.args_object_init_2 obj _) F.entry_enumerate_new
    (meets_enum_tuple l items n dct sl) ⟨hl, ?_⟩
  have hz : (s.heap.push { cls := .type "tuple_iterator", data := .fields #[.ref l, .int 0 0] }).objs.size = s.heap.objs.size + 1 := Heap.size_push ..
  have he : IsEnum ((s.heap.push { cls := .type "tuple_iterator", data := .fields #[.ref l, .int 0 0] }).push
      { cls := .type "enumerate", data := .fields #[.none, .bool false, .ref s.heap.objs.size, rawInt 0, .none, .none] }) (s.heap.objs.size + 1) s.heap.objs.size 0 .none := by
    rw [← hz]; exact Heap.get?_push_size _ rfl
  show _ ∧ _
  rw [hz]
  exact ⟨⟨_, he, rfl⟩, h _ he ⟨_, Heap.get?_push_of_some _ (Heap.get?_push_size _ rfl), rfl, rfl⟩ (by rw [Heap.size_push, hz]) fun b o x => Heap.get?_push_of_some _ (Heap.get?_push_of_some _ x)⟩
/-- the tuple iterator's next, as the enumerate asks it -/
theorem nextOf_tuple {it l : Addr} {i : Nat} {items : Array Value} {x : Value} {Q : Value → Shared → Prop} (hit : s.heap.IsTupleIter it l i) (hl : s.heap.IsTuple l items) (hx : items[i]? = some x)
    (hQ : ∀ h', h'.IsTupleIter it l (i + 1) → Heap.SameBut it s.heap h' → Q x { s with heap := h' }) : wpAny (model prog w) A (Builtin.SmallTypes.nextOf (.ref it)) Q E s := by
  obtain ⟨o, ho, hc, hd⟩ := id hit
  obtain ⟨ol, hol, _, nl, hdl⟩ := hl
  unfold Builtin.SmallTypes.nextOf
  refine wpAny_bind (wpAny_callSpecial?_slot (name := Str.ofString "__next__") hit.typeIs F.slot_tuple_iterator_next
    (wpAny_call_entry F.slot_tuple_iterator_next hit.typeIs F.entry_tuple_iterator_next ?_ (F.args_tuple_iterator_next_1 _)))
  show wpAny _ _ (field (.ref it) 0 >>= _) _ _ s
  refine wpAny_bind (wpAny_field ho hd (x := .ref l) rfl ?_)
  show wpAny _ _ (if (Value.ref l == Value.none) = true then _ else _) _ _ s
  rw [if_neg (show ¬ ((Value.ref l == Value.none) = true) from Bool.false_ne_true)]
  show wpAny _ _ (field (.ref it) 1 >>= _) _ _ s
  refine wpAny_bind (wpAny_field ho hd (x := .int i 0) rfl ?_)
  show wpAny _ _ (seqItems? (.ref l) >>= _) _ _ s
  refine wpAny_bind (wpAny_seqItems hol hdl ?_)
  simp only [Int.toNat_natCast, hx]
  refine wpAny_bind (wpAny_setField ho hd (by simp) (wpAny_pure ⟨x, rfl, wpAny_pure (hQ _ ?_ (Heap.SameBut.update ..))⟩))
  exact ⟨_, Heap.get?_update_self _ ho (Obj.isFreed_of_fields (Obj.data_mapFields hd _)), (Obj.cls_mapFields ..).trans hc, by
    rw [Obj.data_mapFields hd]; simp [rawInt]⟩
/-- one more pair of an enumerate over a tuple -/
theorem enum_item {e it l : Addr} {i : Nat} {items : Array Value} {x old : Value} {Q : Option Value → Shared → Prop}
    (he : IsEnum s.heap e it i old) (hit : s.heap.IsTupleIter it l i) (hl : s.heap.IsTuple l items) (hx : items[i]? = some x) (hne : e ≠ it)
    (hQ : ∀ h' T tk t, IsEnumOut h' e it ((i : Int) + 1) x T → h'.IsTupleIter it l (i + 1) → s.heap.objs.size ≤ T → h'.get? T = some { cls := .type "tuple", data := .seq #[.int i t, x] } →
      (∀ b o, b ≠ e → b ≠ it → s.heap.get? b = some o → h'.get? b = some o) → Q (some (.ref T)) { s with heap := h', toks := tk }) :
    wpAny (model prog w) A (pyNext (.ref e)) Q E s := by
  have hT : s.TypeIs (.ref e) "enumerate" := ⟨_, he, rfl⟩
  unfold pyNext
  refine wpAny_bind (wpAny_attempt (wpAny_callSpecial?_slot (name := Str.ofString "__next__") hT F.slot_enumerate_next
    (wpAny_call_entry F.slot_enumerate_next hT F.entry_enumerate_next ?_ (F.args_enumerate_next_1 _))))
  show wpAny _ _ (field (.ref e) 2 >>= _) _ _ s
  refine wpAny_bind (wpAny_field he rfl (x := .ref it) rfl ?_)
  refine wpAny_bind (nextOf_tuple hit hl hx fun h₁ hit₁ hs₁ => ?_)
  have he₁ : IsEnum h₁ e it i old := (hs₁.2 e hne).trans he
  show wpAny _ _ (field (.ref e) 3 >>= _) _ _ { s with heap := h₁ }
  refine wpAny_bind (wpAny_field he₁ rfl (x := rawInt i) rfl ?_)
  show wpAny _ _ (field (.ref e) 4 >>= _) _ _ { s with heap := h₁ }
  refine wpAny_bind (wpAny_field he₁ rfl (x := .none) rfl ?_)
  show wpAny _ _ (mkInt i >>= _) _ _ { s with heap := h₁ }
  refine wpAny_bind (wpAny_mkInt ?_)
  show wpAny _ _ (setField (.ref e) 3 (rawInt ((i : Int) + 1)) >>= _) _ _ { s with heap := h₁, toks := s.toks + 1 }
  refine wpAny_bind (wpAny_setField_rec (s := { s with heap := h₁, toks := s.toks + 1 }) he₁ (by simp) fun h₂ he₂ hs₂ => ?_)
  replace he₂ : IsEnum h₂ e it ((i : Int) + 1) old := he₂
  show wpAny _ _ (setField (.ref e) 4 .none >>= _) _ _ { s with heap := h₂, toks := s.toks + 1 }
  refine wpAny_bind (wpAny_setField_rec (s := { s with heap := h₂, toks := s.toks + 1 }) he₂ (by simp) fun h₃ he₃ hs₃ => ?_)
  replace he₃ : IsEnum h₃ e it ((i : Int) + 1) old := he₃
  show wpAny _ _ (newTuple [.int i s.toks, x] >>= _) _ _ { s with heap := h₃, toks := s.toks + 1 }
  refine wpAny_bind (wpAny_newTuple ?_)
  have he₄ : IsEnum (h₃.push { cls := .type "tuple", data := .seq #[.int i s.toks, x] }) e it ((i : Int) + 1) old := Heap.get?_push_of_some _ he₃
  have ht₄ : (h₃.push { cls := .type "tuple", data := .seq #[.int i s.toks, x] }).get? h₃.objs.size = some { cls := .type "tuple", data := .seq #[.int i s.toks, x] } := Heap.get?_push_size _ rfl
  have hk₄ : ∀ b o, b ≠ e → b ≠ it → s.heap.get? b = some o → (h₃.push { cls := .type "tuple", data := .seq #[.int i s.toks, x] }).get? b = some o := fun b o hbe hbi hb =>
    Heap.get?_push_of_some _ ((hs₃.extBut b o hbe (hs₂.extBut b o hbe (hs₁.extBut b o hbi hb))))
  have hit₄ : (h₃.push { cls := .type "tuple", data := .seq #[.int i s.toks, x] }).IsTupleIter it l (i + 1) := by
    obtain ⟨o, ho, r⟩ := (hit₁.extBut hs₂.extBut (Ne.symm hne)).extBut hs₃.extBut (Ne.symm hne)
    exact ⟨o, Heap.get?_push_of_some _ ho, r⟩
  have hsz : h₃.objs.size = s.heap.objs.size := by rw [hs₃.1, hs₂.1]; exact hs₁.1
  have heT : h₃.objs.size ≠ e := Nat.ne_of_gt (by rw [hsz]; exact Heap.lt_size he)
  show wpAny _ _ (Builtin.SmallTypes.ownedTupleIsFree (.ref e) >>= _) _ _ { s with heap := h₃.push { cls := .type "tuple", data := .seq #[.int i s.toks, x] }, toks := s.toks + 1 }
  generalize h₃.push { cls := .type "tuple", data := .seq #[.int i s.toks, x] } = h₄ at he₄ ht₄ hk₄ hit₄
  refine wpAny_bind ?_
  unfold Builtin.SmallTypes.ownedTupleIsFree
  refine wpAny_bind (wpAny_field (s := { s with heap := h₄, toks := s.toks + 1 }) he₄ rfl (x := .none) rfl (wpAny_pure ?_))
  simp only [if_true]
  refine wpAny_bind (wpAny_rule ?_)
  refine wpAny_bind (wpAny_field (s := { s with heap := h₄, toks := s.toks + 1 }) he₄ rfl (x := old) rfl ?_)
  refine wpAny_bind (wpAny_setField_rec (s := { s with heap := h₄, toks := s.toks + 1 }) he₄ (by simp) fun h₅ he₅ hs₅ => ?_)
  replace he₅ : IsEnum h₅ e it ((i : Int) + 1) x := he₅
  show wpAny _ _ (Builtin.SmallTypes.ownedTupleHandOut (.ref e) (.ref h₃.objs.size) >>= _) _ _ { s with heap := h₅, toks := s.toks + 1 }
  refine wpAny_bind ?_
  unfold Builtin.SmallTypes.ownedTupleHandOut
  refine wpAny_bind (wpAny_setField_rec (s := { s with heap := h₅, toks := s.toks + 1 }) he₅ (by simp) fun h₆ he₆ hs₆ => ?_)
  replace he₆ : IsEnumOut h₆ e it ((i : Int) + 1) x h₃.objs.size := he₆
  refine wpAny_setField_rec (s := { s with heap := h₆, toks := s.toks + 1 }) he₆ (by simp) fun h₇ he₇ hs₇ => ?_
  replace he₇ : IsEnumOut h₇ e it ((i : Int) + 1) x h₃.objs.size := he₇
  refine wpAny_bind (wpAny_letGo (wpAny_pure ⟨_, rfl, wpAny_pure (hQ h₇ h₃.objs.size _ s.toks he₇ ?_ (Nat.le_of_eq hsz.symm) ?_ ?_)⟩))
  · exact ((hit₄.extBut hs₅.extBut (Ne.symm hne)).extBut hs₆.extBut (Ne.symm hne)).extBut hs₇.extBut (Ne.symm hne)
  · exact hs₇.extBut _ _ heT (hs₆.extBut _ _ heT (hs₅.extBut _ _ heT ht₄))
  · exact fun b o hbe hbi hb => hs₇.extBut b o hbe (hs₆.extBut b o hbe (hs₅.extBut b o hbe (hk₄ b o hbe hbi hb)))
/-- the end of an enumerate over a tuple -/
theorem enum_end {e it l : Addr} {i : Nat} {items : Array Value} {old : Value} {Q : Option Value → Shared → Prop} (hh : A.handled = none)
    (he : IsEnum s.heap e it i old) (hit : s.heap.IsTupleIter it l i) (hl : s.heap.IsTuple l items) (hx : items[i]? = none)
    (hQ : ∀ h', Heap.ExtBut it s.heap h' → Q none { s with heap := h' }) : wpAny (model prog w) A (pyNext (.ref e)) Q E s := by
  have hT : s.TypeIs (.ref e) "enumerate" := ⟨_, he, rfl⟩
  obtain ⟨o, ho, hc, hd⟩ := id hit
  obtain ⟨ol, hol, _, nl, hdl⟩ := hl
  unfold pyNext
  refine wpAny_bind (wpAny_attempt (wpAny_callSpecial?_slot (name := Str.ofString "__next__") hT F.slot_enumerate_next
    (wpAny_call_entry F.slot_enumerate_next hT F.entry_enumerate_next ?_ (F.args_enumerate_next_1 _))))
  show wpAny _ _ (field (.ref e) 2 >>= _) _ _ s
  refine wpAny_bind (wpAny_field he rfl (x := .ref it) rfl ?_)
  refine wpAny_bind ?_
  unfold Builtin.SmallTypes.nextOf
  refine wpAny_bind (wpAny_callSpecial?_slot (name := Str.ofString "__next__") hit.typeIs F.slot_tuple_iterator_next
    (wpAny_call_entry F.slot_tuple_iterator_next hit.typeIs F.entry_tuple_iterator_next ?_ (F.args_tuple_iterator_next_1 _)))
  show wpAny _ _ (field (.ref it) 0 >>= _) _ _ s
  refine wpAny_bind (wpAny_field ho hd (x := .ref l) rfl ?_)
  show wpAny _ _ (if (Value.ref l == Value.none) = true then _ else _) _ _ s
  rw [if_neg (show ¬ ((Value.ref l == Value.none) = true) from Bool.false_ne_true)]
  show wpAny _ _ (field (.ref it) 1 >>= _) _ _ s
  refine wpAny_bind (wpAny_field ho hd (x := .int i 0) rfl ?_)
  show wpAny _ _ (seqItems? (.ref l) >>= _) _ _ s
  refine wpAny_bind (wpAny_seqItems hol hdl ?_)
  simp only [Int.toNat_natCast, hx]
  refine wpAny_bind (wpAny_rule (wpAny_bind (wpAny_setField ho hd (by simp) ?_)))
  show wpAny _ _ (newExc (.type "StopIteration") [] >>= _) _ _ _
  refine wpAny_bind ?_
  simp only [newExc, newTuple]
  refine wpAny_bind (wpAny_newObj_type ?_ (by size_fits))
  refine wpAny_bind (m := firstArgMember _ _) (wpAny_of_eq (a := Value.none) (by first | rfl | (simp only [firstArgMember]; rfl)) ?_)
  refine wpAny_newObj_type ?_ (by size_fits)
  simp only [raiseNew]
  refine wpAny_bind (wpAny_handled ?_)
  first | rw [show A.in1.in1.handled = none from hh] | rw [show A.in1.handled = none from hh] | rw [hh]
  refine wpAny_bind (wpAny_pure (wpAny_throw ?_))
  refine wpAny_bind (wpAny_isInstance (T := "StopIteration") (b := true) ⟨_, Heap.get?_push_size _ rfl, rfl⟩ isSubtype_stop ?_)
  exact wpAny_pure (hQ _ (((Heap.SameBut.update ..).extBut.push _).push _))
end
end Mine
end
section
open PySem PySem.W PyProof.Rows PySem.Calls PySem.Spec PySem.SeqAt
namespace Mine
theorem compTurn0 (elt t0 it0 t1 it1 c1 : Expr) (scope : Scope) (pos : Pos) (it acc : Value) (env : Env) :
    compTurn (.ListComp elt [⟨t0, it0, [], 0⟩, ⟨t1, it1, [c1], 0⟩] scope pos) 0 it acc env = (do
      standAt it0.pos
      match ← pyNext it with
      | none => pure (.done .next)
      | some v =>
        letOwnedTupleGo t0 it v
        assign t0 env v
        let x ← eval it1 env
        standAt it1.pos
        let x ← foldedSetIterable it1 env x
        let _ ← runOwn (.compStart (.ListComp elt [⟨t0, it0, [], 0⟩, ⟨t1, it1, [c1], 0⟩] scope pos) 1 (← holding [x] (pyIter x)) acc env) env
        again (.compLoop (.ListComp elt [⟨t0, it0, [], 0⟩, ⟨t1, it1, [c1], 0⟩] scope pos) 0 it acc env)) := by rfl
theorem compTurn1 (elt t0 it0 t1 it1 c1 : Expr) (scope : Scope) (pos : Pos) (it acc : Value) (env : Env) :
    compTurn (.ListComp elt [⟨t0, it0, [], 0⟩, ⟨t1, it1, [c1], 0⟩] scope pos) 1 it acc env = (do
      standAt it1.pos
      match ← pyNext it with
      | none => pure (.done .next)
      | some v =>
        letOwnedTupleGo t1 it v
        assign t1 env v
        let mut ok := true
        for c in [c1] do
          if ok then ok ← isTrue c env (eval c env)
        if ok then
          (do let _ ← call (.builtin "list.append") [acc, ← eval elt env])
        again (.compLoop (.ListComp elt [⟨t0, it0, [], 0⟩, ⟨t1, it1, [c1], 0⟩] scope pos) 1 it acc env)) := by rfl
section
variable {w : World} {A : Around} {R : Result → Shared → Prop} {s : Shared} {elt t0 it0 t1 it1 c1 : Expr} {scope : Scope} {pos : Pos} {it acc : Value} {env : Env}
theorem comp2_loop0 (I : Nat → Shared → Prop)
    (turn : ∀ n s, I n s → wpAny (Mo w) A (pyNext it) (fun r s₁ => match r with
      | none => R (.ok .next) s₁
      | some v => wpAny (Mo w) A (letOwnedTupleGo t0 it v) (fun _ s₂ => wpAny (Mo w) A (assign t0 env v) (fun _ s₃ => wpAny (Mo w) A (eval it1 env) (fun x s₄ => wpAny (Mo w) A (pyIter x) (fun it' s₅ =>
          codeAny (Mo w) A (.compStart (.ListComp elt [⟨t0, it0, [], 0⟩, ⟨t1, it1, [c1], 0⟩] scope pos) 1 it' acc env) (fun r s₆ => match r with | .ok _ => ∃ m, m < n ∧ I m s₆ | .error _ => False) s₅) NoE s₄) NoE s₃) NoE s₂) NoE s₁) NoE s)
    (n : Nat) (h : I n s) (hs : ∀ x, foldedSetIterable it1 env x = pure x := by intro _; rfl) :
    codeAny (Mo w) A (.compLoop (.ListComp elt [⟨t0, it0, [], 0⟩, ⟨t1, it1, [c1], 0⟩] scope pos) 0 it acc env) R s := by
  refine codeAny_loop rfl I (fun n s hI => ?_) n h
  show wpAny _ A ((compTurn (.ListComp elt [⟨t0, it0, [], 0⟩, ⟨t1, it1, [c1], 0⟩] scope pos) 0 it acc env).onRaise (fun x => do noteFrame x env; theTreesLotGoes x)) _ _ s
  refine wpAny_noted ?_
  rw [compTurn0]
  refine wpAny_bind (wpAny_standAt (wpAny_bind (wpAny_mono (turn n s hI) (fun r s₁ h₁ => ?_) fun _ _ h' => h'.elim)))
  cases r with
  | none => exact wpAny_pure h₁
  | some v =>
    refine wpAny_bind (wpAny_mono h₁ (fun _ s₂ h₂ => wpAny_bind (wpAny_mono h₂ (fun _ s₃ h₃ => wpAny_bind (wpAny_mono h₃ (fun x s₄ h₄ => wpAny_bind (wpAny_standAt (wpAny_bind (wpAny_of_eq (hs x) (wpAny_bind (wpAny_holding (wpAny_mono h₄ (fun it' s₅ h₅ => ?_) fun _ _ h' => h'.elim))))))) fun _ _ h' => h'.elim)) fun _ _ h' => h'.elim)) fun _ _ h' => h'.elim)
    refine wpAny_bind (wpAny_runOwn (codeAny_mono h₅ fun r s₆ h₆ => ?_))
    cases r with
    | ok f => exact wpAny_pure ⟨rfl, h₆⟩
    | error e => exact h₆.elim
theorem comp2_loop1 (I : Nat → Shared → Prop)
    (turn : ∀ n s, I n s → wpAny (Mo w) A (pyNext it) (fun r s₁ => match r with
      | none => R (.ok .next) s₁
      | some v => wpAny (Mo w) A (letOwnedTupleGo t1 it v) (fun _ s₂ => wpAny (Mo w) A (assign t1 env v) (fun _ s₃ => wpAny (Mo w) A (isTrue c1 env (eval c1 env)) (fun ok s₄ =>
          if ok = true then wpAny (Mo w) A (eval elt env) (fun x s₅ => wpAny (Mo w) A (call (.builtin "list.append") [acc, x]) (fun _ s₆ => ∃ m, m < n ∧ I m s₆) NoE s₅) NoE s₄ else ∃ m, m < n ∧ I m s₄) NoE s₃) NoE s₂) NoE s₁) NoE s)
    (n : Nat) (h : I n s) :
    codeAny (Mo w) A (.compLoop (.ListComp elt [⟨t0, it0, [], 0⟩, ⟨t1, it1, [c1], 0⟩] scope pos) 1 it acc env) R s := by
  refine codeAny_loop rfl I (fun n s hI => ?_) n h
  show wpAny _ A ((compTurn (.ListComp elt [⟨t0, it0, [], 0⟩, ⟨t1, it1, [c1], 0⟩] scope pos) 1 it acc env).onRaise (fun x => do noteFrame x env; theTreesLotGoes x)) _ _ s
  refine wpAny_noted ?_
  rw [compTurn1]
  refine wpAny_bind (wpAny_standAt (wpAny_bind (wpAny_mono (turn n s hI) (fun r s₁ h₁ => ?_) fun _ _ h' => h'.elim)))
  cases r with
  | none => exact wpAny_pure h₁
  | some v =>
    refine wpAny_bind (wpAny_mono h₁ (fun _ s₂ h₂ => wpAny_bind (wpAny_mono h₂ (fun _ s₃ h₃ => wpAny_bind (wpAny_tests_one (wpAny_mono h₃ (fun ok s₄ h₄ => ?_) fun _ _ h' => h'.elim))) fun _ _ h' => h'.elim)) fun _ _ h' => h'.elim)
    cases ok with
    | false => exact wpAny_pure ⟨rfl, h₄⟩
    | true =>
      exact wpAny_bind (wpAny_bind (wpAny_mono h₄ (fun x s₅ h₅ => wpAny_bind (wpAny_mono h₅ (fun _ s₆ h₆ => wpAny_pure (wpAny_pure ⟨rfl, h₆⟩)) fun _ _ h' => h'.elim)) fun _ _ h' => h'.elim))
theorem comp2_start1 (h0 : codeAny (Mo w) A (.compLoop (.ListComp elt [⟨t0, it0, [], 0⟩, ⟨t1, it1, [c1], 0⟩] scope pos) 1 it acc env) R s)
    (h : wpAny (Mo w) A (pyIter it) (fun it' s' => codeAny (Mo w) A (.compLoop (.ListComp elt [⟨t0, it0, [], 0⟩, ⟨t1, it1, [c1], 0⟩] scope pos) 1 it' acc env) R s') NoE s) :
    codeAny (Mo w) A (.compStart (.ListComp elt [⟨t0, it0, [], 0⟩, ⟨t1, it1, [c1], 0⟩] scope pos) 1 it acc env) R s := by
  refine codeAny_of_tree ?_
  show wpAny _ _ ((compStart (.ListComp elt [⟨t0, it0, [], 0⟩, ⟨t1, it1, [c1], 0⟩] scope pos) 1 it acc env).onRaise (fun x => do noteFrame x env; standAt theWindowsPlace)) _ _ s
  refine wpAny_notedAt ?_
  unfold compStart
  show wpAny _ _ (ask >>= _) _ _ s
  refine wpAny_bind (wpAny_askSetting (wpAny_ite ?_))
  split
  · first
      | exact wpAny_bind (wpAny_pure (wpAny_pure (And.intro rfl h0)))
      | exact wpAny_pure (And.intro rfl h0)
  · refine wpAny_bind (wpAny_rule ?_)
    show wpAny _ _ (standAt it1.pos >>= _) _ _ s
    exact wpAny_bind (wpAny_standAt (wpAny_bind (wpAny_mono h (fun it' s' h' => wpAny_pure (And.intro rfl h')) fun _ _ x => x.elim)))
end
end Mine
end
section
open PySem PySem.W PyProof.Rows PySem.Calls PySem.Spec PySem.SeqAt
namespace Mine
theorem fill13 : PySem.Challenge.rw_mq0061_01 = PySem.Challenge.rw_mq0061_01 ∧ (hd.heap_39 = hd.heap_39) := by
  k_fill
  exact ⟨rfl, rfl⟩
/-- what is written down stands in the heap -/
def KH (K : Addr → Obj → Prop) (h : Heap) : Prop := ∀ b o, K b o → h.get? b = some o
/-- the state within the comprehension of the parts -/
structure PC (K : Addr → Obj → Prop) (C D : Addr) (h : Heap) (m : Str → Option Value) (l : List GR) : Prop where
  old : KH K h
  kC : ∀ o, ¬ K C o
  kD : ∀ o, ¬ K D o
  kP : ∀ o, ¬ K 161 o
  tab : TabIs h 161 99 111 qLaw
  ns : h.Ns C m
  acc : PartsAt h D l
  off : ∀ g ∈ l, g.L ≠ D
theorem PC.keeps {K : Addr → Obj → Prop} {C D : Addr} {h h' : Heap} {m : Str → Option Value} {l : List GR} (x : PC K C D h m l) (k : ∀ b o, h.get? b = some o → h'.get? b = some o) : PC K C D h' m l :=
  ⟨fun b o e => k b o (x.old b o e), x.kC, x.kD, x.kP, tab_keeps x.tab k, x.ns.at' fun o e => k _ o e, x.acc.keeps k, x.off⟩
/-- an iterator: none of the kept objects -/
structure Itr (K : Addr → Obj → Prop) (h : Heap) (a : Addr) : Prop where
  ne : a ≠ 161
  k : ∀ o, ¬ K a o
  d : ∃ o vs, h.get? a = some o ∧ o.data = .fields vs ∧ ∀ q t, vs[1]? ≠ some (.str q t)
theorem PC.but {K : Addr → Obj → Prop} {C D a : Addr} {h h' : Heap} {m : Str → Option Value} {l : List GR} (x : PC K C D h m l) (i : Itr K h a) (k : ∀ b o, b ≠ a → h.get? b = some o → h'.get? b = some o) : PC K C D h' m l ∧ SK h h' := by
  obtain ⟨o, vs, ho, hd, hv⟩ := i.d
  have hsk : SK h h' := fun b o' xs n e d => k b o' (fun q => by rw [q, ho] at e; cases e; rw [hd] at d; cases d) e
  refine ⟨⟨fun b o e => k b o (fun q => i.k o (q ▸ e)) (x.old b o e), x.kC, x.kD, x.kP, ?_, ?_, hsk.parts x.acc, x.off⟩, hsk⟩
  · rcases x.tab with y | ⟨c', y, c, oc, us, t, e1, e2, e3, e4⟩
    · exact .inl (k _ _ i.ne.symm y)
    · refine .inr ⟨c', k _ _ i.ne.symm y, c, oc, us, t, e1, k _ _ (fun q => ?_) e2, e3, e4⟩
      rw [q, ho] at e2; cases e2; rw [hd] at e3; cases e3; exact hv _ _ e4
  · obtain ⟨oL, es, ep, e, d, r⟩ := x.ns
    refine ⟨oL, es, ep, k _ _ (fun q => ?_) e, d, r⟩
    rw [q, ho] at e; cases e; rw [hd] at d; cases d
/-- what the code within the comprehension stands on -/
structure Sd (w : World) (p : Program) (loose : List Str) (mean : ExcName → Option Value) (mg mb : Str → Option Value) (cj cw jl : Addr) (i : Nat) (ti : Tok) (h : Heap) : Prop where
  G : Gd w p loose mean mg mb h
  C : CodeHd h 163 161
  j : h.IsCell cj (some (.ref jl))
  l : h.IsList jl jvals.toArray
  wc : h.IsCell cw (some (.int (i : Nat) ti))
section
variable {w : World} {A : Around} {s : Shared} {E : Value → Shared → Prop} {p : Program} {loose : List Str} {mean : ExcName → Option Value} {mg mb : Str → Option Value} {env : Env} {K : Addr → Obj → Prop} {C D : Addr} {m : Str → Option Value} {l : List GR}
theorem PC.st {x : Str} {px : Pos} {v : Value} {Q : Unit → Shared → Prop} (y : PC K C D s.heap m l) (hL : env.locals = C) (hk : env.kindOf x = some .local) (hf : env.scope.kind = .function)
    (h : ∀ h' tk, PC K C D h' (fun z => if z = x then some v else m z) l → SK s.heap h' → (∀ b o, b ≠ C → s.heap.get? b = some o → h'.get? b = some o) → Q () { s with heap := h', toks := tk }) : wpAny (Mo w) A (assign (.Name x px) env v) Q E s := by
  subst hL
  refine wpAny_assign_Name (wpAny_storeName_local hk y.ns (fun h' hn hs => ?_) (by rw [hf]; rfl))
  obtain ⟨oL, es, ep, hoL, hd, _⟩ := y.ns
  have hsk : SK s.heap h' := fun b o' xs n e d => hs.extBut b o' (fun q => by rw [q, hoL] at e; cases e; rw [hd] at d; cases d) e
  refine h h' _ ⟨fun b o e => hs.extBut b o (fun q => y.kC o (q ▸ e)) (y.old b o e), y.kC, y.kD, y.kP, tab_same y.tab hs (fun o vs e d => ?_), hn, hsk.parts y.acc, y.off⟩ hsk fun b o q e => hs.extBut b o q e
  rw [hoL] at e; cases e; rw [hd] at d; cases d
/-- the lambda is made -/
theorem lam_new {params : Arguments} {body : Expr} {scope : Scope} {cl : List (Str × Addr)} {le ce : Nat} {Q : Value → Shared → Prop} {c1 c2 jl : Addr} {i : Nat} {ti : Tok} (y : PC K C D s.heap m l) (S : Sd w p loose mean mg mb c1 c2 jl i ti s.heap)
    (hcl : closureFor scope env = pure cl) (hg : env.globals = mainGlobals) (hcd : env.code = .ref 163) (hq : env.qual ++ Str.ofString "<lambda>" = qLaw) (hdef : defaultsOf params env = ([], []))
    (h : ∀ f c' pm ctv h' tk, PC K C D h' m l → (∀ b o, b ≠ 161 → s.heap.get? b = some o → h'.get? b = some o) → s.heap.get? f = none → h'.get? f = some (kla_obj (Str.ofString "<lambda>") qLaw params body scope cl pm c' ctv) → h'.CodeRec (.ref c') qLaw → Q (.ref f) { s with heap := h', toks := tk }) :
    wpAny (Mo w) A (eval (.Lambda params body scope ⟨99, 111, le, ce⟩) env) Q E s := by
  have T := S.G.T
  have hgs := T.g
  obtain ⟨bm, ob, b1, b2, b3, b4, b5, b6⟩ := T.bmain
  have hbG : bm ≠ mainGlobals := fun q => by
    obtain ⟨o, es, ep, e, hd, _⟩ := T.g
    rw [q, e] at b3; cases b3; rw [hd] at b6; cases b6
  have fr : ∀ h' : Heap, s.heap.objs.size ≤ h'.objs.size → s.heap.get? h'.objs.size = none := fun h' hle => Heap.get?_none_of_le hle
  refine kla_eval hdef ?_
  rw [show env.qual ++ ("<lambda>" : Str) = qLaw from hq]
  have fin : ∀ P : Obj, s.heap.get? 161 = some P → (∃ ps, P = tabObj ps) → mainGlobals ≠ 161 ∧ s.heap.BuiltinsAt mg 161 := by
    rintro P e ⟨ps, rfl⟩
    refine ⟨fun q => ?_, bm, ob, b1, b2, hbG, fun q => ?_, b3, b4, b5, b6⟩
    · obtain ⟨o, es, ep, e', hd, _⟩ := hgs
      rw [q, e] at e'; cases e'; cases hd
    · rw [q, e] at b3; cases b3; cases b4
  rcases y.tab with tb | ⟨c', tb, hrec⟩
  · obtain ⟨hgP, hb⟩ := fin _ tb ⟨_, rfl⟩
    refine kla_makeFunction (mg := mg) (c := 163) (P := 161) (ps := #[]) hcl hg hgs hcd S.C tb trivial rfl hgP hb fun c' ctv h' tk hx hge hlt hrec htb => ?_
    have k' : ∀ b o, b ≠ 161 → s.heap.get? b = some o → (h'.push (kla_obj (Str.ofString "<lambda>") qLaw params body scope cl ((mg "__name__").getD .none) c' ctv)).get? b = some o := fun b o q e => Heap.get?_push_of_some _ (hx b o q e)
    refine h _ c' _ ctv _ tk ⟨fun b o e => k' b o (fun q => y.kP o (q ▸ e)) (y.old b o e), y.kC, y.kD, y.kP, ?_, ?_, ?_, y.off⟩ k' (fr h' (by omega)) (Heap.get?_push_size _ rfl) (hrec.push _)
    · exact .inr ⟨c', Heap.get?_push_of_some _ htb, hrec.push _⟩
    · refine y.ns.at' fun o e => k' _ o (fun q => ?_) e
      obtain ⟨oL, es, ep, e', d, r⟩ := y.ns
      rw [q, tb] at e'; cases e'; cases d
    · refine (SK.parts (fun b o xs n e d => k' b o (fun q => ?_) e) y.acc)
      rw [q, tb] at e; cases e; cases d
  · obtain ⟨hgP, hb⟩ := fin _ tb ⟨_, rfl⟩
    refine kla_makeFunctionHit (mg := mg) (c := 163) (P := 161) (cv := .ref c') hcl hg hgs hcd S.C tb trivial rfl hb fun ctv h' tk hk hle => ?_
    have k' : ∀ b o, s.heap.get? b = some o → (h'.push (kla_obj (Str.ofString "<lambda>") qLaw params body scope cl ((mg "__name__").getD .none) c' ctv)).get? b = some o := fun b o e => Heap.get?_push_of_some _ (hk b o e)
    exact h _ c' _ ctv _ tk (y.keeps k') (fun b o _ e => k' b o e) (fr h' hle) (Heap.get?_push_size _ rfl) (hrec.keeps k')
end
end Mine
end
section
open PySem PySem.W PyProof.Rows PySem.Calls PySem.Spec PySem.SeqAt
namespace Mine
theorem fill14 : PySem.Challenge.rw_mq0061_01 = PySem.Challenge.rw_mq0061_01 ∧ (hd.heap_39 = hd.heap_39) := by
  k_fill
  exact ⟨rfl, rfl⟩
section
variable {w : World} {A : Around} {s : Shared} {E : Value → Shared → Prop} {p : Program} {loose : List Str} {mean : ExcName → Option Value} {mg mb : Str → Option Value} {env : Env} {K : Addr → Obj → Prop} {C D : Addr} {m : Str → Option Value} {l : List GR}
set_option maxHeartbeats 2000000
/-- enumerate(_split_list(part, the lambda)) -/
theorem parts_iter {pa q1 q2 q3 q4 q5 p1 p2 p3 p4 p5 p6 p7 p8 p9 : Pos} {le ce : Nat} {mr : List (Str × Const)} {cl : List (Str × Addr)} {cj cw jl a : Addr} {i : Nat} {ti : Tok} {vs : List Value} {cOf : Value → Int} {Q : Value → Shared → Prop}
    (y : PC K C D s.heap m l) (hS : ∀ h, KH K h → Sd w p loose mean mg mb cj cw jl i ti h) (hA : AOk A 890) (hi : i < 15) (hm : m (Str.ofString "part") = some (.ref a)) (ha : s.heap.IsList a vs.toArray) (hz : vs.length ≤ 1000) (hv : ∀ v ∈ vs, ThingV v (cOf v))
    (hL : env.locals = C) (hg : env.globals = mainGlobals) (hb : env.builtins = builtinsNs) (hcd : env.code = .ref 163) (hq : env.qual ++ Str.ofString "<lambda>" = qLaw) (hk : env.scope.kind = .function)
    (k1 : env.kindOf (Str.ofString "enumerate") = some .globalImplicit) (k2 : env.kindOf (Str.ofString "_split_list") = some .globalImplicit) (k3 : env.kindOf (Str.ofString "part") = some .local)
    (hcl : closureFor { kind := .function, names := [(Str.ofString "thing", .local), (Str.ofString "judges", .free), (Str.ofString "which", .free)], isGenerator := false, isCoroutine := false, more := mr } env = pure cl)
    (hj : cl.lookup (Str.ofString "judges") = some cj) (hw : cl.lookup (Str.ofString "which") = some cw)
    (h : ∀ T u n e it h' tk, PC K C D h' m l → SK s.heap h' → IsEnum h' e it 0 .none → h'.IsTupleIter it T 0 → h'.IsTuple T #[.ref u, .ref n] → h'.IsList u (vs.filter fun v => jsays i (cOf v)).toArray → h'.IsList n (vs.filter fun v => !jsays i (cOf v)).toArray →
      s.heap.get? u = none → s.heap.get? n = none → s.heap.get? e = none → s.heap.get? it = none → e ≠ it → (∀ b o, b ≠ 161 → s.heap.get? b = some o → h'.get? b = some o) → Q (.ref e) { s with heap := h', toks := tk }) :
    wpAny (Mo w) A (eval (.Call (.Name (Str.ofString "enumerate") q1) [.Call (.Name (Str.ofString "_split_list") q2) [.Name (Str.ofString "part") q3,
      .Lambda { posonlyargs := [], args := [{ arg := Str.ofString "thing", annotation := none, pos := pa }], vararg := none, kwonlyargs := [], kw_defaults := [], kwarg := none, defaults := [] }
        (.IfExp (.Call (.Subscript (.Name (Str.ofString "judges") p1) (.Name (Str.ofString "which") p2) p3) [.Name (Str.ofString "thing") p4] [] p5) (.List [.Name (Str.ofString "thing") p6] p7) (.List [] p8) p9)
        { kind := .function, names := [(Str.ofString "thing", .local), (Str.ofString "judges", .free), (Str.ofString "which", .free)], isGenerator := false, isCoroutine := false, more := mr } ⟨99, 111, le, ce⟩] [] q4] [] q5) env) Q E s := by
  have S := hS _ y.old
  refine Call_ (bname S.G (by k_is) (v := .type "enumerate") (by boot_fast) (by decide) ?_ hg hb hk k1)
  refine callWith_type1 (args_cons (Call_ (gname S.G (by k_is) (v := .ref 21) ?_ hg hk k2)))
  refine callWith_of (P := fun h => (hd.heap_39 w.params).In h) rfl (fun h X => keeps_K (K := hd.heap_39 w.params) (by k_is) _ X) (evalArgs_plain (args_cons (lname (hL ▸ y.ns) hm ?_ hk k3)))
  refine args_cons (lam_new y S hcl hg hcd hq rfl ?_)
  intro f c' pm ctv h₁ tk y₁ k₁ hf ho hrec
  have S₁ := hS _ y₁.old
  have hne : ∀ b o, s.heap.get? b = some o → s.heap.IsList b vs.toArray → b ≠ 161 := fun b o e x q => by
    obtain ⟨o', e', _, n, d⟩ := x
    rcases y.tab with tb | ⟨c', tb, _⟩ <;> (rw [q, tb] at e'; cases e'; cases d)
  obtain ⟨oa, hoa, _⟩ := id ha
  have hsk₁ : SK s.heap h₁ := fun b o xs n e d => k₁ b o (fun q => by
    rcases y.tab with tb | ⟨c', tb, _⟩ <;> (rw [q, tb] at e; cases e; cases d)) e
  refine args_nil ⟨S₁.G.X, ?_⟩
  have sp := split_spec (s := { s with heap := h₁, toks := tk }) (pred := .ref f) (q := fun v => jsays i (cOf v)) S₁.G (hA.mono (by decide)) (hsk₁.list ha) (by simpa using hz) (keeps_F _ ⟨_, _, _, _, ho⟩) ?_
  · refine wpAny_mono sp (fun r s' hr => ?_) fun _ _ x => x.elim
    obtain ⟨⟨T, u, n, ys, ns, rfl, hT, hu, hn, tT, lu, ln, e1, e2⟩, h₂, tk₂, rfl, k₂⟩ := hr
    refine args_nil (call_enum_tuple (l := T) (items := #[.ref u, .ref n]) tT fun h₃ he hit hsz k₃ => ?_)
    have y₃ := (y₁.keeps k₂).keeps k₃
    have up : ∀ b, h₁.get? b = none → s.heap.get? b = none := fun b e => by
      cases hq : s.heap.get? b with
      | none => rfl
      | some o =>
        by_cases hb : b = 161
        · subst hb
          rcases y₁.tab with tb | ⟨c', tb, _⟩ <;> (rw [tb] at e; cases e)
        · rw [k₁ b o hb hq] at e; cases e
    have up2 : ∀ b, h₂.get? b = none → s.heap.get? b = none := fun b e => up b (by
      cases hq : h₁.get? b with
      | none => rfl
      | some o => rw [k₂ b o hq] at e; cases e)
    have q1 : ys = (vs.filter fun v => jsays i (cOf v)).toArray := by rw [← Array.toList_inj, e1]
    have q2 : ns = (vs.filter fun v => !jsays i (cOf v)).toArray := by rw [← Array.toList_inj, e2]
    refine h T u n _ _ h₃ _ y₃ (hsk₁.trans ((SK.of k₂).trans (SK.of k₃))) he hit (tT.keeps k₃) (q1 ▸ lu.at fun o e => k₃ _ o e) (q2 ▸ ln.at fun o e => k₃ _ o e) (up _ hu) (up _ hn) (up2 _ (Heap.get?_none_of_le (Nat.le_succ _))) (up2 _ (Heap.get?_none_of_le (Nat.le_refl _))) (Nat.succ_ne_self _) fun b o q e => k₃ b o (k₂ b o (k₁ b o q e))
  · intro v hvm s' A' hA' hk'
    obtain ⟨h', tk', rfl, k'⟩ := hk'
    have S' := hS _ (y₁.keeps k').old
    obtain ⟨oj, hoj, hjd⟩ := S'.j
    obtain ⟨ow, how, hwd⟩ := S'.wc
    exact lam_judge (s := { s with heap := h', toks := tk' }) S'.G hA' hj hw (k' _ _ ho) (hrec.keeps k') hoj hjd S'.l how hwd hi (hv v (by simpa using hvm))
end
end Mine
end
section
open PySem PySem.W PyProof.Rows PySem.Calls PySem.Spec PySem.SeqAt
namespace Mine
/-- a half that is not empty, on its side -/
def cut (r : Int) (xs : List Value) : List (Int × List Value) := if xs = [] then [] else [(r, xs)]
/-- a part's halves -/
def half (q : Value → Bool) (vs : List Value) (j : Nat) : List Value := if j = 0 then vs.filter q else vs.filter fun v => !q v
def halves (r : Int) (q : Value → Bool) (vs : List Value) : Nat → List (Int × List Value)
  | 0 => []
  | j + 1 => halves r q vs j ++ cut (2 * r + j) (half q vs j)
section
variable {w : World} {A : Around} {s : Shared} {E : Value → Shared → Prop} {env : Env} {K : Addr → Obj → Prop} {C D : Addr} {m : Str → Option Value} {l : List GR}
set_option maxHeartbeats 2000000
/-- half != [] -/
theorem half_ne {x : Str} {px p1 p2 : Pos} {whole : Sem Value} {Q : Bool → Shared → Prop} {a : Addr} {vs : List Value} (hns : s.heap.Ns env.locals m) (hx : m x = some (.ref a)) (ha : s.heap.IsList a vs.toArray) (hv : ∀ v ∈ vs, IsThing v) (hA : AOk A 890)
    (h : ∀ h', (∀ b o, s.heap.get? b = some o → h'.get? b = some o) → Q (!decide (vs = [])) { s with heap := h' })
    (hk : env.scope.kind = .function) (k1 : env.kindOf x = some .local) (hd : (x == ("__debug__" : Str)) = false := by decide) :
    wpAny (Mo w) A (isTrue (.Compare (.Name x px) [.NotEq] [.List [] p1] p2) env whole) Q E s := by
  refine wpAny_isTrue_Compare1 (lname hns hx (List_ (args_nil (wpAny_newObj_type ?_ (by show 0 ≤ sizeLine; decide)))) hk k1 hd)
  have k' : ∀ o b o', s.heap.get? b = some o' → (s.heap.push o).get? b = some o' := fun o b o' e => Heap.get?_push_of_some _ e
  obtain ⟨oa, hoa, hc, n, hd⟩ := ha
  have un : A.units + 64 < cLine := by have := hA.un; unfold cLine; omega
  have r2 : Reads (s.heap.push { cls := .type "list", dict := none, data := .seq ([] : List Value).toArray }) (.ref s.heap.objs.size) (.list []) _ := Reads.list (Heap.get?_push_size _ rfl) rfl rfl ReadsAll.nil
  have r1 : Reads (s.heap.push { cls := .type "list", dict := none, data := .seq ([] : List Value).toArray }) (.ref a) (.list (vs.map dOf)) _ := Reads.list (k' _ _ _ hoa) hc hd (by simpa using readsAll_things hv)
  refine ne_dataH r1 r2 (shaped_things hv) (by decide) un (wpAny_truthy_bool ?_)
  have e : (!PyData.eqv (.list (vs.map dOf)) (.list [])) = !decide (vs = []) := by
    cases vs <;> simp [PyData.eqv, PyData.eqvAll]
  show Q (!PyData.eqv (.list (vs.map dOf)) (.list [])) _
  rw [e]
  exact h _ (k' _)
theorem PC.buts {h h' : Heap} {P : Addr → Prop} (x : PC K C D h m l) (i : ∀ a, P a → Itr K h a) (k : ∀ b o, ¬ P b → h.get? b = some o → h'.get? b = some o) : PC K C D h' m l ∧ SK h h' := by
  have hsk : SK h h' := fun b o' xs n e d => k b o' (fun q => by obtain ⟨o, vs, ho, hd, hv⟩ := (i b q).d; rw [ho] at e; cases e; rw [hd] at d; cases d) e
  refine ⟨⟨fun b o e => k b o (fun q => (i b q).k o e) (x.old b o e), x.kC, x.kD, x.kP, ?_, ?_, hsk.parts x.acc, x.off⟩, hsk⟩
  · rcases x.tab with y | ⟨c', y, c, oc, us, t, e1, e2, e3, e4⟩
    · exact .inl (k _ _ (fun q => (i _ q).ne rfl) y)
    · refine .inr ⟨c', k _ _ (fun q => (i _ q).ne rfl) y, c, oc, us, t, e1, k _ _ (fun q => ?_) e2, e3, e4⟩
      obtain ⟨o, vs, ho, hd, hv⟩ := (i c q).d
      rw [ho] at e2; cases e2; rw [hd] at e3; cases e3; exact hv _ _ e4
  · obtain ⟨oL, es, ep, e, d, r⟩ := x.ns
    refine ⟨oL, es, ep, k _ _ (fun q => ?_) e, d, r⟩
    obtain ⟨o, vs, ho, hd, hv⟩ := (i C q).d
    rw [ho] at e; cases e; rw [hd] at d; cases d
theorem PC.app {h h' : Heap} {g : GR} (x : PC K C D h m l) (hg : GrAt h g) (hn : g.L ≠ D) (hs : Heap.SameBut D h h') (hl : h'.IsList D ((l.map fun g => Value.ref g.T).toArray.push (.ref g.T))) : PC K C D h' m (l ++ [g]) := by
  obtain ⟨oD, hoD, cD, nD, dD⟩ := x.acc.1
  have hT : ∀ a its, IsTup h a its → a ≠ D := fun a its z q => by
    obtain ⟨o, e, c, _⟩ := z
    rw [q, hoD] at e; cases e; rw [cD] at c; injection c with c; exact absurd c (by decide)
  have gr : ∀ g : GR, GrAt h g → g.L ≠ D → GrAt h' g := fun g z q => ⟨z.1.extBut hs.extBut (hT _ _ z.1), z.2.extBut hs.extBut q⟩
  refine ⟨fun b o e => hs.extBut b o (fun q => x.kD o (q ▸ e)) (x.old b o e), x.kC, x.kD, x.kP, tab_same x.tab hs (fun o vs e d => ?_), ?_, ⟨?_, fun g' hg' => ?_⟩, fun g' hg' => ?_⟩
  · rw [hoD] at e; cases e; rw [dD] at d; cases d
  · obtain ⟨oL, es, ep, e, d, r⟩ := x.ns
    refine ⟨oL, es, ep, hs.extBut _ _ (fun q => ?_) e, d, r⟩
    rw [q, hoD] at e; cases e; rw [dD] at d; cases d
  · simpa using hl
  · rcases List.mem_append.mp hg' with z | z
    · exact gr g' (x.acc.2 g' z) (x.off g' z)
    · rw [List.mem_singleton.mp z]; exact gr g hg hn
  · rcases List.mem_append.mp hg' with z | z
    · exact x.off g' z
    · rw [List.mem_singleton.mp z]; exact hn
theorem halves_len (r : Int) (q : Value → Bool) (vs : List Value) : ∀ j, (halves r q vs j).length ≤ j
  | 0 => Nat.le_refl _
  | j + 1 => by
    have := halves_len r q vs j
    rw [halves, List.length_append]
    have : (cut (2 * r + j) (half q vs j)).length ≤ 1 := by unfold cut; split <;> simp
    omega
theorem half_mem {q : Value → Bool} {vs : List Value} {j : Nat} {v : Value} (h : v ∈ half q vs j) : v ∈ vs := by
  unfold half at h; split at h <;> exact (List.mem_filter.mp h).1
/-- one part's turn: its halves go to the list -/
theorem part_turns {t0 it0 it1 : Expr} {scope : Scope} {x1 x2 : Nat} {pos pt ps ph e1 e2 e3 e4 e5 e6 e7 c1 c2 c3 : Pos} {e it T u n : Addr} {r : Int} {tr : Tok} {q : Value → Bool} {vs : List Value}
    (y : PC K C D s.heap m l) (hA : AOk A 890) (hlen : l.length ≤ 2000) (hm : m (Str.ofString "rank") = some (.int r tr)) (hv : ∀ v ∈ vs, IsThing v)
    (he : IsEnum s.heap e it 0 .none) (hit : s.heap.IsTupleIter it T 0) (hT : s.heap.IsTuple T #[.ref u, .ref n]) (hu : s.heap.IsList u (vs.filter q).toArray) (hn : s.heap.IsList n (vs.filter fun v => !q v).toArray)
    (nu : u ≠ D) (nn : n ≠ D) (ne : e ≠ it) (eC : e ≠ C) (eD : e ≠ D) (eP : e ≠ 161) (eK : ∀ o, ¬ K e o) (iC : it ≠ C) (iD : it ≠ D) (iP : it ≠ 161) (iK : ∀ o, ¬ K it o)
    (hL : env.locals = C) (hk : env.scope.kind = .function) (k1 : env.kindOf (Str.ofString "rank") = some .local) (k2 : env.kindOf (Str.ofString "side") = some .local) (k3 : env.kindOf (Str.ofString "half") = some .local) :
    codeAny (Mo w) A (.compStart (.ListComp (.Tuple [.BinOp (.BinOp (.Constant (.int 2) 0 e1) .Mult (.Name (Str.ofString "rank") e2) e3) .Add (.Name (Str.ofString "side") e4) e5, .Name (Str.ofString "half") e6] x1 e7)
      [⟨t0, it0, [], 0⟩, ⟨.Tuple [.Name (Str.ofString "side") ps, .Name (Str.ofString "half") ph] x2 pt, it1, [.Compare (.Name (Str.ofString "half") c1) [.NotEq] [.List [] c2] c3], 0⟩] scope pos) 1 (.ref e) (.ref D) env)
      (fun res s' => match res with
        | .ok _ => ∃ h' tk m' l', s' = { s with heap := h', toks := tk } ∧ PC K C D h' m' l' ∧ gsOf l' = gsOf l ++ halves r q vs 2
        | .error _ => False) s := by
  have main : codeAny (Mo w) A (.compLoop (.ListComp (.Tuple [.BinOp (.BinOp (.Constant (.int 2) 0 e1) .Mult (.Name (Str.ofString "rank") e2) e3) .Add (.Name (Str.ofString "side") e4) e5, .Name (Str.ofString "half") e6] x1 e7)
      [⟨t0, it0, [], 0⟩, ⟨.Tuple [.Name (Str.ofString "side") ps, .Name (Str.ofString "half") ph] x2 pt, it1, [.Compare (.Name (Str.ofString "half") c1) [.NotEq] [.List [] c2] c3], 0⟩] scope pos) 1 (.ref e) (.ref D) env)
      (fun res s' => match res with
        | .ok _ => ∃ h' tk m' l', s' = { s with heap := h', toks := tk } ∧ PC K C D h' m' l' ∧ gsOf l' = gsOf l ++ halves r q vs 2
        | .error _ => False) s := by
    refine comp2_loop1 (fun k s' => ∃ j h' tk m' l' old, k = 2 - j ∧ j ≤ 2 ∧ s' = { s with heap := h', toks := tk } ∧ PC K C D h' m' l' ∧ m' (Str.ofString "rank") = some (.int r tr) ∧ IsEnum h' e it (j : Nat) old ∧ h'.IsTupleIter it T j ∧ h'.IsTuple T #[.ref u, .ref n]
      ∧ h'.IsList u (vs.filter q).toArray ∧ h'.IsList n (vs.filter fun v => !q v).toArray ∧ gsOf l' = gsOf l ++ halves r q vs j) ?_ 2 ⟨0, s.heap, s.toks, m, l, .none, rfl, by decide, rfl, y, hm, he, hit, hT, hu, hn, by simp [halves]⟩
    rintro k s' ⟨j, h', tk, m', l', old, rfl, hj, rfl, y', hm', he', hit', hT', hu', hn', hgs⟩
    have itE : ∀ (h : Heap) i o, IsEnum h e it i o → Itr K h e := fun h i o z => ⟨eP, eK, _, _, z, rfl, fun _ _ q => by cases q⟩
    have itI : ∀ (h : Heap) i, h.IsTupleIter it T i → Itr K h it := fun h i z => by
      obtain ⟨o, a, b, c⟩ := z
      exact ⟨iP, iK, o, _, a, c, fun _ _ q => by cases q⟩
    by_cases hj2 : j = 2
    · subst hj2
      refine enum_end hA.hd he' hit' hT' rfl fun h₁ hx => ?_
      exact ⟨h₁, tk, m', l', rfl, (y'.but (itI _ _ hit') fun b o q z => hx b o q z).1, hgs⟩
    have hlt : j < 2 := by omega
    obtain ⟨a, ha, hal, hau⟩ : ∃ a, (#[.ref u, .ref n] : Array Value)[j]? = some (.ref a) ∧ (∀ h : Heap, h.IsList u (vs.filter q).toArray → h.IsList n (vs.filter fun v => !q v).toArray → h.IsList a (half q vs j).toArray) ∧ a ≠ D := by
      rcases (by omega : j = 0 ∨ j = 1) with rfl | rfl
      · exact ⟨u, rfl, fun h z _ => z, nu⟩
      · exact ⟨n, rfl, fun h _ z => z, nn⟩
    refine enum_item he' hit' hT' ha ne fun h₁ T' tk₁ t hE hI hle hT₁ k₁ => ?_
    obtain ⟨y₁, sk₁⟩ := y'.buts (P := fun b => b = e ∨ b = it) (fun b hb => hb.elim (fun z => z ▸ itE _ _ _ he') (fun z => z ▸ itI _ _ hit')) fun b o q z => k₁ b o (fun w => q (.inl w)) (fun w => q (.inr w)) z
    refine wpAny_letOwnedTupleGo_enum hE fun h₂ hE₂ hs₂ => ?_
    have iE₁ : Itr K h₁ e := ⟨eP, eK, _, _, hE, rfl, fun _ _ q => by cases q⟩
    obtain ⟨y₂, sk₂⟩ := y₁.but iE₁ fun b o q z => hs₂.extBut b o q z
    have tT : IsTup h₂ T' #[.int (j : Nat) t, .ref a] := sk₂.tup ⟨_, hT₁, rfl, _, rfl⟩
    have hI₂ : h₂.IsTupleIter it T (j + 1) := by obtain ⟨o, z, r⟩ := hI; exact ⟨o, hs₂.extBut _ _ ne.symm z, r⟩
    refine assign_Tuple_tuple hA.hd tT rfl rfl fun h₃ hx₃ => ?_
    have k₃ : ∀ b o, h₂.get? b = some o → h₃.get? b = some o := fun b o z => hx₃ b o (Nat.ne_of_lt (Heap.lt_size z)) z
    refine assignInOrder_cons (PC.st (s := { s with heap := h₃, toks := _ }) (y₂.keeps k₃) hL k2 hk fun h₄ tk₄ y₄ sk₄ k₄ => ?_)
    refine assignInOrder_cons (PC.st (s := { s with heap := h₄, toks := _ }) y₄ hL k3 hk fun h₅ tk₅ y₅ sk₅ k₅ => assignInOrder_nil ?_)
    have sk : SK h' h₅ := sk₁.trans (sk₂.trans ((SK.of k₃).trans (sk₄.trans sk₅)))
    have hE₅ : IsEnum h₅ e it ((j + 1 : Nat) : Int) (.ref a) := k₅ _ _ eC (k₄ _ _ eC (k₃ _ _ hE₂))
    have hI₅ : h₅.IsTupleIter it T (j + 1) := by obtain ⟨o, z, r⟩ := hI₂; exact ⟨o, k₅ _ _ iC (k₄ _ _ iC (k₃ _ _ z)), r⟩
    have hl₅ := hal h₅ (sk.list hu') (sk.list hn')
    refine half_ne (s := { s with heap := h₅, toks := tk₅ }) (env := env) (hL ▸ y₅.ns) (by simp) hl₅ (fun v z => hv v (half_mem z)) hA (fun h₆ k₆ => ?_) hk k3
    have y₆ := y₅.keeps k₆
    have sk6 : SK h' h₆ := sk.trans (SK.of k₆)
    by_cases hemp : half q vs j = []
    · rw [if_neg (by simp [hemp])]
      refine ⟨2 - (j + 1), by omega, j + 1, h₆, _, _, l', _, rfl, by omega, rfl, y₆, (by show (if _ = _ then _ else (if _ = _ then _ else _)) = _; rw [if_neg (by decide), if_neg (by decide)]; exact hm'), k₆ _ _ hE₅, hI₅.imp fun o z => ⟨k₆ _ _ z.1, z.2⟩, sk6.tup hT', sk6.list hu', sk6.list hn', ?_⟩
      rw [hgs, halves, cut, if_pos hemp, List.append_nil]
    · rw [if_pos (by simp [hemp])]
      refine Tuple_ (args_cons (wpAny_BinOp (wpAny_BinOp (lit_int _ fun v tk₇ hdv => ?_))))
      obtain ⟨t₂, rfl⟩ : ∃ t₂, v = .int 2 t₂ := by cases hdv s.heap; exact ⟨_, rfl⟩
      refine lname (env := env) (m := fun z => if z = Str.ofString "half" then some (.ref a) else if z = Str.ofString "side" then some (.int (j : Nat) t) else m' z) (hL ▸ y₆.ns) (by show (if _ = _ then _ else (if _ = _ then _ else _)) = _; rw [if_neg (by decide), if_neg (by decide)]; exact hm') (mul_int (lname (env := env) (m := fun z => if z = Str.ofString "half" then some (.ref a) else if z = Str.ofString "side" then some (.int (j : Nat) t) else m' z) (hL ▸ y₆.ns) (by simp; rfl) (add_int ?_) hk k2)) hk k1
      refine args_cons (lname (env := env) (m := fun z => if z = Str.ofString "half" then some (.ref a) else if z = Str.ofString "side" then some (.int (j : Nat) t) else m' z) (hL ▸ y₆.ns) (by simp; rfl) (args_nil (wpAny_newObj_type ?_ (by show 2 ≤ sizeLine; decide))) hk k3)
      have lk : l'.length ≤ sizeLine := by
        have e1 : (gsOf l').length = l'.length := by simp [gsOf]
        have e2 : (gsOf l).length = l.length := by simp [gsOf]
        have e3 := halves_len r q vs j
        rw [hgs, List.length_append, e2] at e1
        rw [sizeLine_eq]; omega
      have k₇ : ∀ b o, h₆.get? b = some o → (h₆.push { cls := .type "tuple", data := .seq #[.int (2 * r + (j : Nat)) (tk₇ + 1), .ref a] }).get? b = some o := fun b o z => Heap.get?_push_of_some _ z
      have y₇ := y₆.keeps k₇
      refine wpAny_list_append y₇.acc.1 (fun h₈ hl₈ hs₈ => ?_) (by simpa using lk)
      have tg : IsTup (h₆.push { cls := .type "tuple", data := .seq #[.int (2 * r + (j : Nat)) (tk₇ + 1), .ref a] }) h₆.objs.size #[.int (2 * r + (j : Nat)) (tk₇ + 1), .ref a] := ⟨_, Heap.get?_push_size _ rfl, rfl, _, rfl⟩
      have sk7 := sk6.trans (SK.of k₇)
      have tD : ∀ b its, IsTup (h₆.push { cls := .type "tuple", data := .seq #[.int (2 * r + (j : Nat)) (tk₇ + 1), .ref a] }) b its → b ≠ D := fun b its z q => by
        obtain ⟨oD, hoD, cD, _⟩ := y₇.acc.1
        obtain ⟨o, e, c, _⟩ := z
        rw [q, hoD] at e; cases e; rw [cD] at c; injection c with c; exact absurd c (by decide)
      have y₈ := y₇.app (g := ⟨h₆.objs.size, a, 2 * r + (j : Nat), tk₇ + 1, half q vs j⟩) ⟨tg, hal _ (sk7.list hu') (sk7.list hn')⟩ hau hs₈ hl₈
      refine ⟨2 - (j + 1), by omega, j + 1, h₈, _, _, _, .ref a, rfl, by omega, rfl, y₈, (by show (if _ = _ then _ else (if _ = _ then _ else _)) = _; rw [if_neg (by decide), if_neg (by decide)]; exact hm'), hs₈.extBut _ _ eD (k₇ _ _ (k₆ _ _ hE₅)), hI₅.imp fun o z => ⟨hs₈.extBut _ _ iD (k₇ _ _ (k₆ _ _ z.1)), z.2⟩, (sk7.tup hT').extBut hs₈.extBut (tD _ _ (sk7.tup hT')), (sk7.list hu').extBut hs₈.extBut nu, (sk7.list hn').extBut hs₈.extBut nn, ?_⟩
      rw [gsOf, List.map_append, ← gsOf, hgs, halves, cut, if_neg hemp, List.append_assoc]
      rfl
  exact comp2_start1 main (wpAny_pyIter_enum he main)
end
end Mine
end
section
open PySem PySem.W PyProof.Rows PySem.Calls PySem.Spec PySem.SeqAt
namespace Mine
theorem PC.weaken {K K' : Addr → Obj → Prop} {C D : Addr} {h : Heap} {m : Str → Option Value} {l : List GR} (x : PC K C D h m l) (k : ∀ b o, K' b o → K b o) : PC K' C D h m l :=
  ⟨fun b o e => x.old b o (k b o e), fun o e => x.kC o (k _ o e), fun o e => x.kD o (k _ o e), fun o e => x.kP o (k _ o e), x.tab, x.ns, x.acc, x.off⟩
/-- the next parts -/
def nextG (q : Value → Bool) (gs : List (Int × List Value)) : List (Int × List Value) := gs.flatMap fun g => halves g.1 q g.2 2
theorem nextG_len (q : Value → Bool) : ∀ gs, (nextG q gs).length ≤ 2 * gs.length
  | [] => by simp [nextG]
  | g :: gs => by
    have := nextG_len q gs
    have e : nextG q (g :: gs) = halves g.1 q g.2 2 ++ nextG q gs := rfl
    have := halves_len g.1 q g.2 2
    rw [e, List.length_append, List.length_cons]; omega
theorem nextG_snoc (q : Value → Bool) (gs : List (Int × List Value)) (g : Int × List Value) : nextG q (gs ++ [g]) = nextG q gs ++ halves g.1 q g.2 2 := by
  simp [nextG]
section
variable {w : World} {A : Around} {s : Shared} {E : Value → Shared → Prop} {p : Program} {loose : List Str} {mean : ExcName → Option Value} {mg mb : Str → Option Value} {env : Env} {h₀ : Heap} {L : Addr} {mL : Str → Option Value} {cv : Nat → Option Value}
set_option maxHeartbeats 4000000
theorem parts_stmt {scope : Scope} {x1 x2 x3 : Nat} {pos spos py pit pr pp pt0 pt ps ph e1 e2 e3 e4 e5 e6 e7 c1 c2 c3 : Pos} {pa q1 q2 q3 q4 q5 p1 p2 p3 p4 p5 p6 p7 p8 p9 : Pos} {le ce : Nat} {mr : List (Str × Const)} {cl cl' : List (Str × Addr)} {jl a : Addr} {i : Nat} {ti : Tok} {l : List GR} {cOf : Value → Int} {Q : Flow → Shared → Prop}
    (S : LawSt h₀ L s.heap mL cv) (G₀ : Gd w p loose mean mg mb h₀) (Cd : CodeHd h₀ 163 161) (hP0 : h₀.get? 161 = none) (hA : AOk A 890)
    (hmp : mL (Str.ofString "parts") = some (.ref a)) (hP : PartsAt s.heap a l) (hlen : l.length ≤ 900) (hvl : ∀ g ∈ l, g.vs.length ≤ 1000) (hv : ∀ g ∈ l, ∀ v ∈ g.vs, ThingV v (cOf v))
    (hc6 : cv 6 = some (.ref jl)) (hjl : s.heap.IsList jl jvals.toArray) (hc7 : cv 7 = some (.int (i : Nat) ti)) (hi : i < 15)
    (h : ∀ D h' tk l', LawSt h₀ L h' (fun z => if z = Str.ofString "parts" then some (.ref D) else mL z) cv → SK s.heap h' → KB L s.heap h' → PartsAt h' D l' → gsOf l' = nextG (fun v => jsays i (cOf v)) (gsOf l) → Q .next { s with heap := h', toks := tk })
    (hsw : swapsWith (.ListComp (.Tuple [.BinOp (.BinOp (.Constant (.int 2) 0 e1) .Mult (.Name (Str.ofString "rank") e2) e3) .Add (.Name (Str.ofString "side") e4) e5, .Name (Str.ofString "half") e6] x1 e7)
      [⟨.Tuple [.Name (Str.ofString "rank") pr, .Name (Str.ofString "part") pp] x3 pt0, .Name (Str.ofString "parts") pit, [], 0⟩, ⟨.Tuple [.Name (Str.ofString "side") ps, .Name (Str.ofString "half") ph] x2 pt,
        .Call (.Name (Str.ofString "enumerate") q1) [.Call (.Name (Str.ofString "_split_list") q2) [.Name (Str.ofString "part") q3,
      .Lambda { posonlyargs := [], args := [{ arg := Str.ofString "thing", annotation := none, pos := pa }], vararg := none, kwonlyargs := [], kw_defaults := [], kwarg := none, defaults := [] }
        (.IfExp (.Call (.Subscript (.Name (Str.ofString "judges") p1) (.Name (Str.ofString "which") p2) p3) [.Name (Str.ofString "thing") p4] [] p5) (.List [.Name (Str.ofString "thing") p6] p7) (.List [] p8) p9)
        { kind := .function, names := [(Str.ofString "thing", .local), (Str.ofString "judges", .free), (Str.ofString "which", .free)], isGenerator := false, isCoroutine := false, more := mr } ⟨99, 111, le, ce⟩] [] q4] [] q5,
        [.Compare (.Name (Str.ofString "half") c1) [.NotEq] [.List [] c2] c3], 0⟩] scope pos) (some (.Name (Str.ofString "parts") py)) spos.line env = pure true)
    (hL : env.locals = L) (hg : env.globals = mainGlobals) (hb : env.builtins = builtinsNs) (hcd : env.code = .ref 163) (hq : env.qual ++ Str.ofString "<lambda>" = qLaw) (hk : env.scope.kind = .function) (kp : env.kindOf (Str.ofString "parts") = some .local)
    (hclos : closureFor scope env = pure cl) (hcell : ∀ y ∈ scope.names, y.2 ≠ .cell) (hkind : scope.kind = .function) (hnames : ∀ y ∈ scope.names, y.2 = .local → scope.names.lookup y.1 = some .local)
    (n1 : scope.names.lookup (Str.ofString "rank") = some .local) (n2 : scope.names.lookup (Str.ofString "part") = some .local) (n3 : scope.names.lookup (Str.ofString "side") = some .local) (n4 : scope.names.lookup (Str.ofString "half") = some .local)
    (g1 : ∀ C, (compEnvC scope cl C env).kindOf (Str.ofString "enumerate") = some .globalImplicit) (g2 : ∀ C, (compEnvC scope cl C env).kindOf (Str.ofString "_split_list") = some .globalImplicit)
    (hcl : ∀ C, closureFor { kind := .function, names := [(Str.ofString "thing", .local), (Str.ofString "judges", .free), (Str.ofString "which", .free)], isGenerator := false, isCoroutine := false, more := mr } (compEnvC scope cl C env) = pure cl')
    (hj : cl'.lookup (Str.ofString "judges") = some (L + 6)) (hw : cl'.lookup (Str.ofString "which") = some (L + 7)) :
    wpAny (Mo w) A (exec (.Assign [.Name (Str.ofString "parts") py] (.ListComp (.Tuple [.BinOp (.BinOp (.Constant (.int 2) 0 e1) .Mult (.Name (Str.ofString "rank") e2) e3) .Add (.Name (Str.ofString "side") e4) e5, .Name (Str.ofString "half") e6] x1 e7)
      [⟨.Tuple [.Name (Str.ofString "rank") pr, .Name (Str.ofString "part") pp] x3 pt0, .Name (Str.ofString "parts") pit, [], 0⟩, ⟨.Tuple [.Name (Str.ofString "side") ps, .Name (Str.ofString "half") ph] x2 pt,
        .Call (.Name (Str.ofString "enumerate") q1) [.Call (.Name (Str.ofString "_split_list") q2) [.Name (Str.ofString "part") q3,
      .Lambda { posonlyargs := [], args := [{ arg := Str.ofString "thing", annotation := none, pos := pa }], vararg := none, kwonlyargs := [], kw_defaults := [], kwarg := none, defaults := [] }
        (.IfExp (.Call (.Subscript (.Name (Str.ofString "judges") p1) (.Name (Str.ofString "which") p2) p3) [.Name (Str.ofString "thing") p4] [] p5) (.List [.Name (Str.ofString "thing") p6] p7) (.List [] p8) p9)
        { kind := .function, names := [(Str.ofString "thing", .local), (Str.ofString "judges", .free), (Str.ofString "which", .free)], isGenerator := false, isCoroutine := false, more := mr } ⟨99, 111, le, ce⟩] [] q4] [] q5,
        [.Compare (.Name (Str.ofString "half") c1) [.NotEq] [.List [] c2] c3], 0⟩] scope pos) spos) env) Q E s := by
  subst hL
  rw [exec_Assign_Name_used _ _ _ _ hsw]
  refine wpAny_bind (wpAny_standAt (wpAny_bind ?_))
  show wpAny _ A (do let _ ← comprehension (.ListComp _ _ scope pos) scope env _ (newList []) false (eval (.Name (Str.ofString "parts") pit) env) (some (assign (.Name (Str.ofString "parts") py) env))) _ _ s
  refine wpAny_bind (wpAny_mono (wpAny_comprehension_free (use := some (assign (.Name (Str.ofString "parts") py) env)) (Q := fun _ s' => Q .next s') rfl (by intro _; rfl) hclos hkind hnames ?_) (fun _ s' hq => wpAny_pure (wpAny_pure hq)) fun _ _ e => e)
  obtain ⟨oa, hoa, _⟩ := id hP.1
  have hlt : a < s.heap.objs.size := Heap.lt_size hoa
  have hne : a ≠ s.heap.objs.size := Nat.ne_of_lt hlt
  refine lname S.F.ns hmp ?_ hk kp
  refine wpAny_pyIter_list hP.1 (wpAny_newObj_type (wpAny_newFunctionEnv hcell (by intro y hy; simp at hy) (fun h₁ hns₁ hsb₁ => ?_) hkind))
  dsimp only at hns₁ hsb₁ ⊢
  generalize hH1 : s.heap.push { cls := .type "list_iterator", data := .fields #[.ref a, .int 0 0] } = H1 at hns₁ hsb₁ ⊢
  generalize hH2 : H1.push { cls := .type "list", dict := none, data := .seq ([] : List Value).toArray } = H2 at hns₁ hsb₁ ⊢
  have z1 : H1.objs.size = s.heap.objs.size + 1 := by rw [← hH1, Heap.size_push]
  have z2 : H2.objs.size = H1.objs.size + 1 := by rw [← hH2, Heap.size_push]
  have old : ∀ b o, s.heap.get? b = some o → h₁.get? b = some o := fun b o e => hsb₁.extBut b o (Nat.ne_of_lt (Nat.lt_of_lt_of_le (Heap.lt_size e) (show s.heap.objs.size ≤ H2.objs.size by omega))) (Heap.get?_push_of_some _ (hH2 ▸ Heap.get?_push_of_some _ (hH1 ▸ Heap.get?_push_of_some _ e)))
  have hIt : h₁.IsListIter s.heap.objs.size a 0 := ⟨_, hsb₁.extBut _ _ (Nat.ne_of_lt (by omega)) (Heap.get?_push_of_some _ (hH2 ▸ Heap.get?_push_of_some _ (hH1 ▸ Heap.get?_push_size _ rfl))), rfl, rfl⟩
  have hacc : h₁.IsList H1.objs.size #[] := ⟨_, hsb₁.extBut _ _ (Nat.ne_of_lt (by omega)) (Heap.get?_push_of_some _ (hH2 ▸ Heap.get?_push_size _ rfl)), rfl, _, rfl⟩
  have fresh : ∀ b, s.heap.objs.size ≤ b → s.heap.get? b = none := fun b hb => Heap.get?_none_of_le hb
  have n161 : ∃ o, s.heap.get? 161 = some o := by rcases S.t2 with tb | ⟨_, tb, _⟩ <;> exact ⟨_, tb⟩
  obtain ⟨o161, h161⟩ := n161
  have l161 : 161 < s.heap.objs.size := Heap.lt_size h161
  generalize hI : s.heap.objs.size = I at hIt hne fresh z1 l161 hlt
  have hI' := hI
  generalize hD : H1.objs.size = D at hacc z1 z2 hI
  generalize hC : H2.objs.size = C at hns₁ hsb₁ z2 hI
  let K : Addr → Obj → Prop := fun b o => b ≠ 161 ∧ s.heap.get? b = some o
  have kfresh : ∀ b, I ≤ b → ∀ o, ¬ K b o := fun b hb o q => by have := q.2; rw [fresh b hb] at this; cases this
  have y₁ : PC K C D h₁ (fun x => ([] : List (Str × Value)).reverse.lookup x) [] := ⟨fun b o q => old b o q.2, kfresh _ (by omega), kfresh _ (by omega), fun o q => q.1 rfl, tab_keeps S.t2 old, hns₁, ⟨hacc, fun _ q => by cases q⟩, fun _ q => by cases q⟩
  have hS : ∀ h, KH K h → Sd w p loose mean mg mb (env.locals + 6) (env.locals + 7) jl i ti h := fun h kh => by
    have k0 : ∀ b o, h₀.get? b = some o → h.get? b = some o := fun b o e => kh b o ⟨(fun q => by rw [q, hP0] at e; cases e), S.F.keep b o e⟩
    have cellk : ∀ c v, s.heap.IsCell c v → h.IsCell c v := fun c v x => by
      obtain ⟨o, e, d⟩ := x
      refine ⟨o, kh c o ⟨fun q => ?_, e⟩, d⟩
      rcases S.t2 with tb | ⟨_, tb, _⟩ <;> (rw [q, tb] at e; cases e; cases d)
    refine ⟨G₀.keeps k0, Cd.keeps k0, hc6 ▸ cellk _ _ (S.cell 6 (by decide) (by decide)), ?_, hc7 ▸ cellk _ _ (S.cell 7 (by decide) (by decide))⟩
    obtain ⟨o, e, c, n, d⟩ := hjl
    refine ⟨o, kh _ o ⟨fun q => ?_, e⟩, c, n, d⟩
    rcases S.t2 with tb | ⟨_, tb, _⟩ <;> (rw [q, tb] at e; cases e; cases d)
  have skK : ∀ h, KH K h → SK s.heap h := fun h kh b o xs n e d => kh b o ⟨(fun q => by
    rcases S.t2 with tb | ⟨_, tb, _⟩ <;> (rw [q, tb] at e; cases e; cases d)), e⟩
  have cC : ∀ C', (compEnvC scope cl C' env).scope.kind = .function := fun C' => by simp [compEnvC, relabel, hkind]
  have start : ∀ s₁ : Shared, s₁ = { s with heap := h₁, toks := s.toks + ([] : List (Str × Value)).length } → codeAny (Mo w) A (.compLoop (.ListComp (.Tuple [.BinOp (.BinOp (.Constant (.int 2) 0 e1) .Mult (.Name (Str.ofString "rank") e2) e3) .Add (.Name (Str.ofString "side") e4) e5, .Name (Str.ofString "half") e6] x1 e7)
      [⟨.Tuple [.Name (Str.ofString "rank") pr, .Name (Str.ofString "part") pp] x3 pt0, .Name (Str.ofString "parts") pit, [], 0⟩, ⟨.Tuple [.Name (Str.ofString "side") ps, .Name (Str.ofString "half") ph] x2 pt,
        .Call (.Name (Str.ofString "enumerate") q1) [.Call (.Name (Str.ofString "_split_list") q2) [.Name (Str.ofString "part") q3,
      .Lambda { posonlyargs := [], args := [{ arg := Str.ofString "thing", annotation := none, pos := pa }], vararg := none, kwonlyargs := [], kw_defaults := [], kwarg := none, defaults := [] }
        (.IfExp (.Call (.Subscript (.Name (Str.ofString "judges") p1) (.Name (Str.ofString "which") p2) p3) [.Name (Str.ofString "thing") p4] [] p5) (.List [.Name (Str.ofString "thing") p6] p7) (.List [] p8) p9)
        { kind := .function, names := [(Str.ofString "thing", .local), (Str.ofString "judges", .free), (Str.ofString "which", .free)], isGenerator := false, isCoroutine := false, more := mr } ⟨99, 111, le, ce⟩] [] q4] [] q5,
        [.Compare (.Name (Str.ofString "half") c1) [.NotEq] [.List [] c2] c3], 0⟩] scope pos) 0 (.ref I) (.ref D) (compEnvC scope cl C env)) (compPost (Mo w) A E (some (assign (.Name (Str.ofString "parts") py) env)) (fun _ s' => Q .next s') (.ref D) C) s₁ := by
    rintro s₁ rfl
    have W := Walks.list (prog := PySem.Challenge.rw_mq0061_01.row.prog) (w := w) hA.hd I a hne (l.map fun g => Value.ref g.T).toArray
    refine comp2_loop0 (fun n s' => ∃ k h' tk m' l', n = l.length - k ∧ k ≤ l.length ∧ s' = { s with heap := h', toks := tk } ∧ PC K C D h' m' l' ∧ h'.IsListIter I a k ∧ gsOf l' = nextG (fun v => jsays i (cOf v)) (gsOf (l.take k))) ?_ l.length ⟨0, h₁, _, _, [], rfl, Nat.zero_le _, rfl, y₁, hIt, by simp [gsOf, nextG]⟩
    rintro n s' ⟨k, h', tk, m', l', rfl, hk', rfl, y', hit', hgs⟩
    have sk' := skK _ y'.old
    have itI : Itr K h' I := by
      obtain ⟨o, e, _, d⟩ := hit'
      exact ⟨(Nat.ne_of_gt l161), kfresh _ (Nat.le_refl _), o, _, e, d, fun _ _ q => by cases q⟩
    by_cases hkl : k = l.length
    · subst hkl
      refine W.done _ _ _ ⟨by simpa using hit', sk'.list hP.1⟩ fun h₂ tk₂ k₂ => ?_
      have y₂ := (y'.but itI fun b o q e => k₂ b o (by simpa using q) e).1
      have hgs' : gsOf l' = nextG (fun v => jsays i (cOf v)) (gsOf l) := by rw [hgs, List.take_length]
      have nsL : h₂.Ns env.locals mL := S.F.ns.at' fun o e => y₂.old _ o ⟨(fun q => by
        obtain ⟨o', _, _, e', d, _⟩ := S.F.ns
        rcases S.t2 with tb | ⟨_, tb, _⟩ <;> (rw [q, tb] at e'; cases e'; cases d)), e⟩
      have ltL : env.locals < I := hI' ▸ S.F.ns.lt
      have LC : env.locals ≠ C := Nat.ne_of_lt (Nat.lt_of_lt_of_le ltL (by omega))
      have LD : env.locals ≠ D := Nat.ne_of_lt (Nat.lt_of_lt_of_le ltL (by omega))
      show wpAny _ A (assign (.Name (Str.ofString "parts") py) env (.ref D)) _ _ _
      have S₂ : LawSt h₀ env.locals h₂ mL cv := by
        refine ⟨⟨nsL, fun b o e => y₂.old b o ⟨(fun q => by rw [q, hP0] at e; cases e), S.F.keep b o e⟩, S.F.above⟩, fun j a b => ?_, ?_, y₂.tab⟩
        · obtain ⟨o, e, d⟩ := S.cell j a b
          exact ⟨o, y₂.old _ o ⟨(fun q => by rcases S.t2 with tb | ⟨_, tb, _⟩ <;> (rw [q, tb] at e; cases e; cases d)), e⟩, d⟩
        · exact tab_but S.t1 S.t2 (by decide) fun b o q e => y₂.old b o ⟨q, e⟩
      refine wpAny_assign_Name (LawSt.stL (s := { s with heap := h₂, toks := tk₂ }) S₂ rfl kp hk fun h₃ S₃ sk₃ k₃ => ?_)
      have nsC : h₃.Ns C m' := y₂.ns.at' fun o e => k₃ _ o LC.symm e
      refine ⟨m', nsC, fun h₄ hs₄ => ?_⟩
      obtain ⟨oC, _, _, hoC, hdC, _⟩ := nsC
      have sk₄ : SK h₃ h₄ := fun b o xs n e d => hs₄.extBut b o (fun q => by rw [q, hoC] at e; cases e; rw [hdC] at d; cases d) e
      have below : ∀ b o, s.heap.get? b = some o → b ≠ C := fun b o e => Nat.ne_of_lt (Nat.lt_of_lt_of_le (hI' ▸ Heap.lt_size e) (show I ≤ C by omega))
      refine h D h₄ _ l' ⟨⟨S₃.F.ns.sameBut hs₄ LC, fun b o e => hs₄.extBut b o (below b o (S.F.keep b o e)) (S₃.F.keep b o e), S₃.F.above⟩, fun j a b => ?_, tab_same S₃.t1 hs₄ (fun o vs e d => ?_), tab_same S₃.t2 hs₄ (fun o vs e d => ?_)⟩ ((skK _ y₂.old).trans (sk₃.trans sk₄)) (fun b o q e => hs₄.extBut b o (below b o e) (k₃ b o (fun z => q (.inr (.inr ⟨0, Nat.zero_le _, z⟩))) (y₂.old b o ⟨fun z => q (.inr (.inl z)), e⟩))) ((sk₃.trans sk₄).parts y₂.acc) hgs'
      · obtain ⟨o, e, d⟩ := S₃.cell j a b
        obtain ⟨o', e', _⟩ := S.cell j a b
        exact ⟨o, hs₄.extBut _ _ (below _ _ e') e, d⟩
      · rw [hoC] at e; cases e; rw [hdC] at d; cases d
      · rw [hoC] at e; cases e; rw [hdC] at d; cases d
    have hlt' : k < l.length := by omega
    refine W.item k _ _ _ (by simpa using hlt') ⟨hit', sk'.list hP.1⟩ fun v h₂ tk₂ hv₂ st₂ k₂ => ?_
    obtain ⟨y₂, sk₂⟩ := y'.but itI fun b o q e => k₂ b o (by simpa using q) e
    obtain ⟨g, hgk⟩ : ∃ g, l[k]? = some g := ⟨l[k], by simp [hlt']⟩
    have hgm : g ∈ l := List.mem_of_getElem? hgk
    have hv' : v = .ref g.T := by
      simp [hgk] at hv₂; exact hv₂.symm
    subst hv'
    have gAt : GrAt h₂ g := sk₂.gr (sk'.gr (hP.2 g hgm))
    refine wpAny_letOwnedTupleGo_listiter st₂.1 ?_
    refine assign_Tuple_tuple hA.hd gAt.1 rfl rfl fun h₃ hx₃ => ?_
    have k₃ : ∀ b o, h₂.get? b = some o → h₃.get? b = some o := fun b o z => hx₃ b o (Nat.ne_of_lt (Heap.lt_size z)) z
    refine assignInOrder_cons (PC.st (s := { s with heap := h₃, toks := _ }) (y₂.keeps k₃) rfl (lookup_relabel_local n1) (cC _) fun h₄ tk₄ y₄ sk₄ k₄ => ?_)
    refine assignInOrder_cons (PC.st (s := { s with heap := h₄, toks := _ }) y₄ rfl (lookup_relabel_local n2) (cC _) fun h₅ tk₅ y₅ sk₅ k₅ => assignInOrder_nil ?_)
    have sk5 : SK h₂ h₅ := (SK.of k₃).trans (sk₄.trans sk₅)
    have iC : I ≠ C := Nat.ne_of_lt (by omega)
    obtain ⟨oI, hoI, hcI, hdI⟩ := st₂.1
    have hoI5 : h₅.get? I = some oI := k₅ _ _ iC (k₄ _ _ iC (k₃ _ _ hoI))
    let K' : Addr → Obj → Prop := fun b o => K b o ∨ (b = I ∧ o = oI)
    have y5 : PC K' C D h₅ (fun z => if z = Str.ofString "part" then some (.ref g.L) else if z = Str.ofString "rank" then some (.int g.r g.t) else m' z) l' := by
      refine ⟨fun b o q => ?_, fun o q => ?_, fun o q => ?_, fun o q => ?_, y₅.tab, y₅.ns, y₅.acc, y₅.off⟩
      · rcases q with q | ⟨rfl, rfl⟩
        · exact y₅.old b o q
        · exact hoI5
      · rcases q with q | ⟨q, _⟩
        · exact y₅.kC o q
        · exact (Nat.ne_of_gt (by omega)) q
      · rcases q with q | ⟨q, _⟩
        · exact y₅.kD o q
        · exact (Nat.ne_of_gt (by omega)) q
      · rcases q with q | ⟨q, _⟩
        · exact y₅.kP o q
        · exact (Nat.ne_of_lt (by omega)) q
    have hS' : ∀ h, KH K' h → Sd w p loose mean mg mb (env.locals + 6) (env.locals + 7) jl i ti h := fun h kh => hS h fun b o q => kh b o (.inl q)
    refine parts_iter (s := { s with heap := h₅, toks := tk₅ }) (a := g.L) (vs := g.vs) (cOf := cOf) (E := NoE) y5 hS' hA hi (by rw [if_pos rfl]) (sk5.list gAt.2) (hvl g hgm) (hv g hgm) rfl hg hb hcd hq (cC _) (g1 _) (g2 _) (lookup_relabel_local n2) (hcl _) hj hw ?_
    intro T u n e it h₆ tk₆ y₆ sk₆ he hit hT hu hn fu fn fe fi ne k₆
    refine wpAny_pyIter_enum he ?_
    have kill : ∀ b o, h₅.get? b = some o → ∀ c, h₅.get? c = none → c ≠ b := fun b o e c e' q => by rw [q, e] at e'; cases e'
    obtain ⟨oD, hoD, _⟩ := y5.acc.1
    obtain ⟨oC, _, _, hoC, _⟩ := y5.ns
    obtain ⟨oP, hoP⟩ : ∃ o, h₅.get? 161 = some o := by rcases y5.tab with tb | ⟨_, tb, _⟩ <;> exact ⟨_, tb⟩
    have nK : ∀ c, h₅.get? c = none → ∀ o, ¬ K' c o := fun c e o q => by rw [y5.old c o q] at e; cases e
    refine codeAny_mono (part_turns (s := { s with heap := h₆, toks := tk₆ }) (u := u) (n := n) (r := g.r) (tr := g.t) (q := fun v => jsays i (cOf v)) (vs := g.vs) y₆ hA ?_ (by rw [if_neg (by decide), if_pos rfl]) (fun v z => ⟨_, hv g hgm v z⟩) he hit hT hu hn (kill _ _ hoD _ fu) (kill _ _ hoD _ fn) ne (kill _ _ hoC _ fe) (kill _ _ hoD _ fe) (kill _ _ hoP _ fe) (nK _ fe) (kill _ _ hoC _ fi) (kill _ _ hoD _ fi) (kill _ _ hoP _ fi) (nK _ fi) rfl (cC _) (lookup_relabel_local n1) (lookup_relabel_local n3) (lookup_relabel_local n4)) fun r s₇ hr => ?_
    · have e1 : (gsOf l').length = l'.length := by simp [gsOf]
      have e2 := nextG_len (fun v => jsays i (cOf v)) (gsOf (l.take k))
      have e3 : (gsOf (l.take k)).length ≤ l.length := by simp [gsOf]; omega
      rw [← hgs] at e2
      omega
    cases r with
    | error e => exact hr
    | ok f =>
      obtain ⟨h₇, tk₇, m₇, l₇, rfl, y₇, hg₇⟩ := hr
      refine ⟨l.length - (k + 1), by omega, k + 1, h₇, tk₇, m₇, l₇, rfl, hlt', rfl, y₇.weaken fun b o q => .inl q, ⟨oI, y₇.old I oI (.inr ⟨rfl, rfl⟩), hcI, hdI⟩, ?_⟩
      have e4 : l.take (k + 1) = l.take k ++ [g] := by
        rw [List.take_add_one, hgk]; rfl
      rw [hg₇, hgs, e4]
      simp [gsOf, nextG]
  exact codeAny_compStart_list (start _ rfl) ((Walks.list (prog := PySem.Challenge.rw_mq0061_01.row.prog) (w := w) hA.hd I a hne (l.map fun g => Value.ref g.T).toArray).self 0 _ _ _ ⟨hIt, (SK.of old).list hP.1⟩ (start _ rfl))
end
end Mine
end
section
open PySem PySem.W PyProof.Rows PySem.Calls PySem.Spec PySem.SeqAt
namespace Mine
section
variable {w : World} {A : Around} {s : Shared} {E : Value → Shared → Prop} {h₀ : Heap} {L : Addr} {m : Str → Option Value} {cv : Nat → Option Value} {env : Env}
theorem LawSt.notIn {h : Heap} {J : Addr} (x : LawSt h₀ L h m cv) (hJ : h.get? J = none) : ¬ Sp L J ∧ h₀.get? J = none := by
  refine ⟨fun q => ?_, ?_⟩
  · rcases q with q | q | ⟨i, hi, q⟩
    · rcases x.t1 with y | ⟨_, y, _⟩ <;> (rw [q, y] at hJ; cases hJ)
    · rcases x.t2 with y | ⟨_, y, _⟩ <;> (rw [q, y] at hJ; cases hJ)
    · by_cases h0 : i = 0
      · subst h0
        obtain ⟨o, _, _, e, _⟩ := x.F.ns
        rw [q, Nat.add_zero, e] at hJ; cases hJ
      · obtain ⟨o, e, _⟩ := x.cell i (Nat.pos_of_ne_zero h0) hi
        rw [q, e] at hJ; cases hJ
  · cases e : h₀.get? J with
    | none => rfl
    | some o => rw [x.F.keep J o e] at hJ; cases hJ
theorem LawSt.sk {h h' : Heap} (x : LawSt h₀ L h m cv) (k : KB L h h') : SK h h' := fun b o xs n e d => k b o (fun q => by
  rcases q with q | q | ⟨i, hi, q⟩
  · rcases x.t1 with y | ⟨_, y, _⟩ <;> (rw [q, y] at e; cases e; cases d)
  · rcases x.t2 with y | ⟨_, y, _⟩ <;> (rw [q, y] at e; cases e; cases d)
  · by_cases h0 : i = 0
    · subst h0
      obtain ⟨o', _, _, e', d', _⟩ := x.F.ns
      rw [q, Nat.add_zero, e'] at e; cases e; rw [d'] at d; cases d
    · obtain ⟨o', e', d'⟩ := x.cell i (Nat.pos_of_ne_zero h0) hi
      rw [q, e'] at e; cases e; rw [d'] at d; cases d) e
theorem LawSt.but {h h' : Heap} {J : Addr} (x : LawSt h₀ L h m cv) (hJ : ¬ Sp L J) (h0J : h₀.get? J = none) (hd : ∃ o vs, h.get? J = some o ∧ o.data = .fields vs ∧ ∀ q t, vs[1]? ≠ some (.str q t)) (k : ∀ b o, b ≠ J → h.get? b = some o → h'.get? b = some o) : LawSt h₀ L h' m cv ∧ SK h h' := by
  obtain ⟨oJ, vs, eJ, dJ, nJ⟩ := hd
  have tab : ∀ {P line col q}, P ≠ J → TabIs h P line col q → TabIs h' P line col q := fun {P line col q} hP y => by
    rcases y with y | ⟨c', y, c, oc, us, t, e1, e2, e3, e4⟩
    · exact .inl (k _ _ hP y)
    · refine .inr ⟨c', k _ _ hP y, c, oc, us, t, e1, k _ _ (fun q => ?_) e2, e3, e4⟩
      rw [q, eJ] at e2; cases e2; rw [dJ] at e3; cases e3; exact nJ _ _ e4
  refine ⟨⟨⟨?_, fun b o e => k b o (fun q => by rw [q, h0J] at e; cases e) (x.F.keep b o e), x.F.above⟩, fun i a b => ?_, tab (fun q => hJ (.inl q.symm)) x.t1, tab (fun q => hJ (.inr (.inl q.symm))) x.t2⟩, fun b o xs n e d => k b o (fun q => ?_) e⟩
  · exact x.F.ns.at' fun o e => k _ o (fun q => hJ (.inr (.inr ⟨0, Nat.zero_le _, q.symm⟩))) e
  · obtain ⟨o, e, d⟩ := x.cell i a b
    exact ⟨o, k _ _ (fun q => hJ (.inr (.inr ⟨i, b, q.symm⟩))) e, d⟩
  · rw [q, eJ] at e; cases e; rw [dJ] at d; cases d
/-- the order's table turned -/
theorem LawSt.but147 {h h' : Heap} (x : LawSt h₀ L h m cv) (h0 : h₀.get? 147 = none) (t1 : TabIs h' 147 75 41 qOrd) (k : ∀ b o, b ≠ 147 → h.get? b = some o → h'.get? b = some o) : LawSt h₀ L h' m cv := by
  refine ⟨⟨?_, fun b o e => k b o (fun q => by rw [q, h0] at e; cases e) (x.F.keep b o e), x.F.above⟩, fun i a b => ?_, t1, tab_but x.t2 x.t1 (by decide) k⟩
  · obtain ⟨o, es, ep, e, d, r⟩ := x.F.ns
    refine ⟨o, es, ep, k _ _ (fun q => ?_) e, d, r⟩
    rcases x.t1 with y | ⟨_, y, _⟩ <;> (rw [q, y] at e; cases e; cases d)
  · obtain ⟨o, e, d⟩ := x.cell i a b
    refine ⟨o, k _ _ (fun q => ?_) e, d⟩
    rcases x.t1 with y | ⟨_, y, _⟩ <;> (rw [q, y] at e; cases e; cases d)
theorem KB.of147 {h h' : Heap} (k : ∀ b o, b ≠ 147 → h.get? b = some o → h'.get? b = some o) : KB L h h' := fun b o q e => k b o (fun z => q (.inl z)) e
set_option maxHeartbeats 2000000
/-- for k in range(n), k captured -/
theorem law_for {x : Str} {px pos : Pos} {iter : Expr} {body : List Stmt} {n : Nat} {Q : Flow → Shared → Prop} (Pay : Nat → (Str → Option Value) → (Nat → Option Value) → Heap → Prop)
    (S : LawSt h₀ L s.heap m cv) (p0 : Pay 0 m cv s.heap) (hh : A.handled = none) (hn : n ≤ 1000)
    (stab : ∀ i m cv h h', Pay i m cv h → SK h h' → Pay i m cv h')
    (hit : ∀ Q' : Value → Shared → Prop, (∀ r h' tk t u v, IsRange h' r 0 (n : Int) 1 t u v → (∀ b o, s.heap.get? b = some o → h'.get? b = some o) → s.heap.objs.size ≤ r → Q' (.ref r) { s with heap := h', toks := tk }) → wpAny (Mo w) A (eval iter env) Q' E s)
    (hc : env.cells.lookup x = some (L + 5)) (hk : env.kindOf x = some .cell) (hf : env.scope.kind = .function)
    (turn : ∀ i t s' m cv, i < n → (∃ h tk, s' = { s with heap := h, toks := tk }) → LawSt h₀ L s'.heap m (fun j => if j = 5 then some (.int (i : Nat) t) else cv j) → Pay i m cv s'.heap →
      wpAny (Mo w) A (execs body env) (fun f s'' => f = .next ∧ ∃ h'' tk, s'' = { s' with heap := h'', toks := tk } ∧ KB L s'.heap h'' ∧ ∃ m' cv', LawSt h₀ L h'' m' cv' ∧ Pay (i + 1) m' cv' h'') NoE s')
    (done : ∀ h' tk m cv, LawSt h₀ L h' m cv → Pay n m cv h' → Q .next { s with heap := h', toks := tk })
    (hs : ∀ x, foldedSetIterable iter env x = pure x := by intro _; rfl) :
    wpAny (Mo w) A (exec (.For (.Name x px) iter body [] pos) env) Q E s := by
  refine wpAny_For (hit _ fun r h1 tk1 t u v hr hk1 _ => wpAny_pyIter_range hr (small_one (by omega) (by omega) (by omega) (by omega)) ?_) hs
  have W := Walks.range (prog := PySem.Challenge.rw_mq0061_01.row.prog) (w := w) (A := A) hh h1.objs.size 0 1 n
  have hrs : Builtin.Range.rangeSize 0 (n : Int) 1 = (n : Int) := by rw [rangeSize_nat]; omega
  have S1 := S.keeps hk1
  obtain ⟨nJ, n0⟩ := S1.notIn (J := h1.objs.size) (Heap.get?_none_of_le (Nat.le_refl _))
  refine codeAny_forLoop (fun k s' => ∃ i h' tk m' cv', k = n - i ∧ i ≤ n ∧ s' = { s with heap := h', toks := tk } ∧ LawSt h₀ L h' m' cv' ∧ Pay i m' cv' h' ∧ IsRangeIter h' h1.objs.size (0 + (i : Nat) * 1) ((n : Int) - (i : Nat)) 1) ?_ n ⟨0, _, _, m, cv, rfl, Nat.zero_le _, rfl, S1.keeps fun b o e => Heap.get?_push_of_some _ e, stab _ _ _ _ _ p0 (SK.of fun b o e => Heap.get?_push_of_some _ (hk1 b o e)), ?_⟩
  · rintro k s' ⟨i, h', tk, m', cv', rfl, hi, rfl, S', p', hI⟩
    by_cases hin : i = n
    · subst hin
      refine W.done _ _ _ hI fun h₂ tk₂ k₂ => ?_
      obtain ⟨S₂, sk₂⟩ := S'.but nJ n0 ⟨_, _, hI, rfl, fun _ _ q => by cases q⟩ fun b o q e => k₂ b o (by simpa using q) e
      exact wpAny_pure (done h₂ tk₂ m' cv' S₂ (stab _ _ _ _ _ p' sk₂))
    · refine W.item i _ _ _ (by omega) hI fun v h₂ tk₂ hP hI₂ k₂ => ?_
      obtain ⟨t', rfl⟩ := hP
      obtain ⟨S₂, sk₂⟩ := S'.but nJ n0 ⟨_, _, hI, rfl, fun _ _ q => by cases q⟩ fun b o q e => k₂ b o (by simpa using q) e
      refine wpAny_assign_Name (LawSt.stC (s := { s with heap := h₂, toks := tk₂ }) (i := 5) S₂ (by decide) (by decide) hc hk hf fun h₃ S₃ sk₃ kb₃ => ?_)
      have e5 : ((0 : Int) + (i : Nat) * 1) = ((i : Nat) : Int) := by omega
      rw [e5] at S₃
      refine wpAny_mono (turn i t' { s with heap := h₃, toks := tk₂ } m' cv' (by omega) ⟨_, _, rfl⟩ S₃ (stab _ _ _ _ _ p' (sk₂.trans sk₃))) (fun f s₄ hf => ?_) fun _ _ q => q.elim
      obtain ⟨rfl, h₄, tk₄, rfl, kb₄, m₄, cv₄, S₄, p₄⟩ := hf
      exact ⟨n - (i + 1), by omega, i + 1, h₄, tk₄, m₄, cv₄, rfl, by omega, rfl, S₄, p₄, kb₄ _ _ nJ (kb₃ _ _ nJ hI₂)⟩
  · show IsRangeIter _ _ _ _ _
    rw [hrs]; simpa using Heap.get?_push_size _ rfl
end
end Mine
end
section
open PySem PySem.W PyProof.Rows PySem.Calls PySem.Spec PySem.SeqAt
namespace Mine
theorem keyZ_inj' {ns : List Int} {i j : Nat} (hi : i < 64) (hj : j < 64) (h : keyZ ns i = keyZ ns j) : i = j := by
  unfold keyZ at h; omega
theorem order_unique {ns : List Int} (hz : ns.length ≤ 60) {l₁ l₂ : List Nat} (p : l₁.Perm l₂) (hm : ∀ i ∈ l₁, i < ns.length) (s₁ : l₁.Pairwise fun i j => keyZ ns i ≤ keyZ ns j) (s₂ : l₂.Pairwise fun i j => keyZ ns i ≤ keyZ ns j) : l₁ = l₂ :=
  List.Perm.eq_of_pairwise (le := fun i j => keyZ ns i ≤ keyZ ns j) (fun a b ha hb h1 h2 => keyZ_inj' (ns := ns) (by have := hm a ha; omega) (by have := hm b (p.mem_iff.mpr hb); omega) (by omega)) s₁ s₂ p
theorem IsOrder.unique {ns : List Int} (hz : ns.length ≤ 60) {o o' : List Nat} (a : IsOrder ns o) (b : IsOrder ns o') : o = o' :=
  order_unique hz (a.perm.trans b.perm.symm) (fun i hi => List.mem_range.mp (a.perm.mem_iff.mp hi)) a.sorted b.sorted
/-- the things of one rank, as drawn -/
def cls (ns : List Int) (vs : List Value) (r : Int) : List Value := ((List.range ns.length).filter fun i => decide (ns.getD i 0 = r)).map fun i => vs.getD i .none
/-- the groups of a table of ranks -/
structure Groups (ns : List Int) (vs : List Value) (gs : List (Int × List Value)) : Prop where
  up : gs.Pairwise fun a b => a.1 < b.1
  mem : ∀ r c, (r, c) ∈ gs ↔ (c = cls ns vs r ∧ c ≠ [])
theorem Groups.unique {ns : List Int} {vs : List Value} {g₁ g₂ : List (Int × List Value)} (a : Groups ns vs g₁) (b : Groups ns vs g₂) : g₁ = g₂ := by
  have key : ∀ g₁ g₂ : List (Int × List Value), g₁.Pairwise (fun a b => a.1 < b.1) → g₂.Pairwise (fun a b => a.1 < b.1) → (∀ x, x ∈ g₁ ↔ x ∈ g₂) → g₁ = g₂ := by
    intro g₁
    induction g₁ with
    | nil =>
      intro g₂ _ _ h
      cases g₂ with
      | nil => rfl
      | cons x xs => exact absurd ((h x).mpr (.head _)) (by simp)
    | cons x xs ih =>
      intro g₂ h1 h2 h
      cases g₂ with
      | nil => exact absurd ((h x).mp (.head _)) (by simp)
      | cons y ys =>
        rw [List.pairwise_cons] at h1 h2
        have exy : x = y := by
          rcases List.mem_cons.mp ((h x).mp (.head _)) with e | e
          · exact e
          · rcases List.mem_cons.mp ((h y).mpr (.head _)) with e' | e'
            · exact e'.symm
            · have := h1.1 y e'; have := h2.1 x e; omega
        subst exy
        congr 1
        refine ih ys h1.2 h2.2 fun z => ⟨fun hz => ?_, fun hz => ?_⟩
        · rcases List.mem_cons.mp ((h z).mp (.tail _ hz)) with e | e
          · subst e; have := h1.1 z hz; omega
          · exact e
        · rcases List.mem_cons.mp ((h z).mpr (.tail _ hz)) with e | e
          · subst e; have := h2.1 z hz; omega
          · exact e
  exact key g₁ g₂ a.up b.up fun x => (a.mem x.1 x.2).trans (b.mem x.1 x.2).symm
/-- what the groups' loop has after some of the order -/
structure GrpInv (ns : List Int) (vs : List Value) (p : List Nat) (acc : List (Int × List Value)) : Prop where
  down : acc.Pairwise fun a b => b.1 < a.1
  mem : ∀ r c, (r, c) ∈ acc ↔ (c = (p.filter fun i => decide (ns.getD i 0 = r)).map (fun i => vs.getD i .none) ∧ c ≠ [])
  top : ∀ i ∈ p, ∀ g ∈ acc.head?, ns.getD i 0 ≤ g.1
theorem GrpInv.step {ns : List Int} {vs : List Value} {p : List Nat} {acc : List (Int × List Value)} (x : GrpInv ns vs p acc) {j : Nat} (hj : ∀ i ∈ p, ns.getD i 0 ≤ ns.getD j 0) : GrpInv ns vs (p ++ [j]) (grpStep ns vs acc j) := by
  have fil : ∀ r, ((p ++ [j]).filter fun i => decide (ns.getD i 0 = r)).map (fun i => vs.getD i .none) = (p.filter fun i => decide (ns.getD i 0 = r)).map (fun i => vs.getD i .none) ++ (if ns.getD j 0 = r then [vs.getD j .none] else []) := fun r => by
    rw [List.filter_append, List.map_append]
    by_cases h : ns.getD j 0 = r
    · rw [if_pos h]; simp only [List.filter_cons, List.filter_nil]; rw [if_pos (decide_eq_true h)]; rfl
    · rw [if_neg h]; simp only [List.filter_cons, List.filter_nil]; rw [if_neg (by simpa using h)]; rfl
  have low : ∀ r, (p.filter fun i => decide (ns.getD i 0 = r)).map (fun i => vs.getD i .none) ≠ [] → r ≤ ns.getD j 0 := fun r ne => by
    obtain ⟨v, hv⟩ := List.exists_mem_of_ne_nil _ ne
    obtain ⟨i, hi, _⟩ := List.mem_map.mp hv
    rw [List.mem_filter] at hi
    have h1 := hj i hi.1
    have h2 : ns.getD i 0 = r := of_decide_eq_true hi.2
    omega
  obtain ⟨down, mem, top⟩ := x
  generalize hF : (fun r : Int => (p.filter fun i => decide (ns.getD i 0 = r)).map (fun i => vs.getD i .none)) = F
  have eF : ∀ r, (p.filter fun i => decide (ns.getD i 0 = r)).map (fun i => vs.getD i .none) = F r := fun r => by rw [← hF]
  simp only [eF] at fil low mem
  have top' : ∀ g ∈ (grpStep ns vs acc j).head?, g.1 = ns.getD j 0 := by
    intro g hg
    unfold grpStep at hg
    split at hg
    · rw [← Option.some.inj hg]
    · split at hg
      · rename_i e; rw [← Option.some.inj hg]; exact e
      · rw [← Option.some.inj hg]
  refine ⟨?_, fun r c => ?_, fun i hi g hg => ?_⟩
  rotate_left 2
  · rw [top' g hg]
    rcases List.mem_append.mp hi with h | h
    · exact hj i h
    · rw [List.mem_singleton.mp h]; exact Int.le_refl _
  · unfold grpStep
    split
    · simp
    · rename_i r0 l0 rest
      rw [List.pairwise_cons] at down
      split
      · exact List.pairwise_cons.mpr ⟨down.1, down.2⟩
      · rename_i hne
        have h0 : r0 ≤ ns.getD j 0 := by
          obtain ⟨e, ne⟩ := (mem r0 l0).mp (.head _)
          exact low r0 (e ▸ ne)
        refine List.pairwise_cons.mpr ⟨fun g hg => ?_, List.pairwise_cons.mpr down⟩
        rcases List.mem_cons.mp hg with rfl | hg
        · show r0 < _; omega
        · have := down.1 g hg
          show g.1 < _
          have : g.1 < r0 := this
          omega
  · rw [fil r]
    unfold grpStep
    split
    · have em : ∀ r, F r = [] := fun r => by
        cases hq : F r with
        | nil => rfl
        | cons a b => exact absurd ((mem r (F r)).mpr ⟨rfl, by rw [hq]; simp⟩) (by simp)
      rw [em r, List.nil_append]
      by_cases h : ns.getD j 0 = r
      · rw [if_pos h]; subst h
        constructor
        · intro q
          have q := List.mem_singleton.mp q
          injection q with _ q; exact ⟨q, by rw [q]; simp⟩
        · rintro ⟨q, _⟩; rw [q]; exact .head _
      · rw [if_neg h]
        constructor
        · intro q; simp at q; exact absurd q.1.symm h
        · rintro ⟨q, q'⟩; exact absurd q q'
    · rename_i r0 l0 rest
      rw [List.pairwise_cons] at down
      have h0 := (mem r0 l0).mp (.head _)
      split
      · rename_i he
        by_cases h : ns.getD j 0 = r
        · rw [if_pos h]
          have hr : r = r0 := by omega
          subst hr
          rw [← h0.1]
          constructor
          · intro q
            rcases List.mem_cons.mp q with q | q
            · injection q with _ q; exact ⟨q, by rw [q]; simp⟩
            · have := down.1 _ q; exact absurd this (Int.lt_irrefl _)
          · rintro ⟨q, _⟩; rw [q]; exact .head _
        · rw [if_neg h, List.append_nil, ← mem r c]
          constructor
          · intro q
            rcases List.mem_cons.mp q with q | q
            · injection q with q _; omega
            · exact .tail _ q
          · intro q
            rcases List.mem_cons.mp q with q | q
            · injection q with q _; omega
            · exact .tail _ q
      · rename_i hne
        have hlow := low r0 (h0.1 ▸ h0.2)
        by_cases h : ns.getD j 0 = r
        · have em : F r = [] := by
            cases hq : F r with
            | nil => rfl
            | cons a b =>
              exfalso
              have hm := (mem r (F r)).mpr ⟨rfl, by rw [hq]; simp⟩
              rcases List.mem_cons.mp hm with q | q
              · injection q with q _; omega
              · have : r < r0 := down.1 _ q
                omega
          rw [if_pos h, em, List.nil_append]
          constructor
          · intro q
            rcases List.mem_cons.mp q with q | q
            · injection q with _ q; exact ⟨q, by rw [q]; simp⟩
            · have := (mem r c).mp q
              exact absurd (this.1.trans em) this.2
          · rintro ⟨q, _⟩; rw [q, ← h]; exact .head _
        · rw [if_neg h, List.append_nil, ← mem r c]
          constructor
          · intro q
            rcases List.mem_cons.mp q with q | q
            · injection q with q _; exact absurd q.symm h
            · exact q
          · intro q; exact .tail _ q
theorem grp_inv {ns : List Int} {vs : List Value} : ∀ (q p : List Nat) (acc : List (Int × List Value)), GrpInv ns vs p acc → (p ++ q).Pairwise (fun i j => ns.getD i 0 ≤ ns.getD j 0) → GrpInv ns vs (p ++ q) (q.foldl (grpStep ns vs) acc)
  | [], p, acc, x, _ => by simpa using x
  | j :: q, p, acc, x, h => by
    have e : p ++ j :: q = (p ++ [j]) ++ q := by simp
    rw [e] at h ⊢
    refine grp_inv q (p ++ [j]) _ (x.step fun i hi => ?_) h
    rw [List.pairwise_append] at h
    have h1 := h.1
    rw [List.pairwise_append] at h1
    exact h1.2.2 i hi j (by simp)
theorem le_of_keyZ {ns : List Int} {i j : Nat} (hi : i < 64) (hj : j < 64) (h : keyZ ns i ≤ keyZ ns j) : ns.getD i 0 ≤ ns.getD j 0 := by
  unfold keyZ at h; omega
theorem grp_groups {ns : List Int} {vs : List Value} {o : List Nat} (hz : ns.length ≤ 60) (ho : IsOrder ns o) : Groups ns vs (grp ns vs o) := by
  have hlt : ∀ i ∈ o, i < ns.length := fun i hi => List.mem_range.mp (ho.perm.mem_iff.mp hi)
  have hs : o.Pairwise fun i j => ns.getD i 0 ≤ ns.getD j 0 := by
    refine ho.sorted.imp_of_mem fun {i j} hi hj h => ?_
    have := hlt i hi; have := hlt j hj
    exact le_of_keyZ (by omega) (by omega) h
  have x := grp_inv (ns := ns) (vs := vs) o [] [] ⟨.nil, fun r c => by simp, fun i hi => by cases hi⟩ (by simpa using hs)
  rw [List.nil_append] at x
  have ec : ∀ r, (o.filter fun i => decide (ns.getD i 0 = r)) = (List.range ns.length).filter fun i => decide (ns.getD i 0 = r) := fun r => by
    refine order_unique (ns := ns) hz (ho.perm.filter _) (fun i hi => hlt i (List.mem_filter.mp hi).1) (ho.sorted.filter _) ?_
    refine (List.pairwise_lt_range.filter _).imp_of_mem fun {i j} hi hj h => ?_
    have a : ns.getD i 0 = r := of_decide_eq_true (List.mem_filter.mp hi).2
    have b : ns.getD j 0 = r := of_decide_eq_true (List.mem_filter.mp hj).2
    unfold keyZ; rw [a, b]; omega
  refine ⟨?_, fun r c => ?_⟩
  · unfold grp; rw [List.pairwise_reverse]; exact x.down
  · unfold grp; rw [List.mem_reverse, x.mem r c, ec r]; rfl
/-- the table of ranks behind one judge more -/
def up1 (q : Value → Bool) (vs : List Value) (ns : List Int) : List Int := (List.range ns.length).map fun i => 2 * ns.getD i 0 + bit (q (vs.getD i .none))
theorem up1_len (q : Value → Bool) (vs : List Value) (ns : List Int) : (up1 q vs ns).length = ns.length := by simp [up1]
theorem up1_get {q : Value → Bool} {vs : List Value} {ns : List Int} {i : Nat} (h : i < ns.length) : (up1 q vs ns).getD i 0 = 2 * ns.getD i 0 + bit (q (vs.getD i .none)) := by
  simp [up1, List.getD_eq_getElem?_getD, h]
theorem cls_up0 (q : Value → Bool) (vs : List Value) (ns : List Int) (r : Int) : cls (up1 q vs ns) vs (2 * r) = (cls ns vs r).filter q := by
  unfold cls
  rw [List.filter_map, List.filter_filter, up1_len]
  congr 1
  refine List.filter_congr fun i hi => ?_
  rw [up1_get (List.mem_range.mp hi)]
  show _ = (q (vs.getD i .none) && decide (ns.getD i 0 = r))
  cases hq : q (vs.getD i .none) <;> simp only [bit, hq, Bool.true_and, Bool.false_and, if_true, Bool.false_eq_true, if_false]
  · exact decide_eq_false (by omega)
  · exact decide_eq_decide.mpr (by omega)
theorem cls_up1 (q : Value → Bool) (vs : List Value) (ns : List Int) (r : Int) : cls (up1 q vs ns) vs (2 * r + 1) = (cls ns vs r).filter fun v => !q v := by
  unfold cls
  rw [List.filter_map, List.filter_filter, up1_len]
  congr 1
  refine List.filter_congr fun i hi => ?_
  rw [up1_get (List.mem_range.mp hi)]
  show _ = ((!q (vs.getD i .none)) && decide (ns.getD i 0 = r))
  cases hq : q (vs.getD i .none) <;> simp only [bit, hq, Bool.not_true, Bool.not_false, Bool.true_and, Bool.false_and, if_true, Bool.false_eq_true, if_false]
  · exact decide_eq_decide.mpr (by omega)
  · exact decide_eq_false (by omega)
theorem mem_cut {r r' : Int} {xs c : List Value} : (r', c) ∈ cut r xs ↔ r' = r ∧ c = xs ∧ c ≠ [] := by
  unfold cut
  split
  · rename_i h
    constructor
    · intro q; cases q
    · rintro ⟨_, rfl, q⟩; exact absurd h q
  · rename_i h
    rw [List.mem_singleton, Prod.mk.injEq]
    constructor
    · rintro ⟨a, b⟩; exact ⟨a, b, b ▸ h⟩
    · rintro ⟨a, b, _⟩; exact ⟨a, b⟩
theorem halves_two (r : Int) (q : Value → Bool) (vs : List Value) : halves r q vs 2 = cut (2 * r) (vs.filter q) ++ cut (2 * r + 1) (vs.filter fun v => !q v) := by
  simp [halves, half]
theorem nextG_groups {ns : List Int} {vs : List Value} {gs : List (Int × List Value)} (q : Value → Bool) (x : Groups ns vs gs) : Groups (up1 q vs ns) vs (nextG q gs) := by
  have mh : ∀ r (c : List Value) r' c', (r', c') ∈ halves r q c 2 ↔ (r' = 2 * r ∧ c' = c.filter q ∧ c' ≠ []) ∨ (r' = 2 * r + 1 ∧ c' = c.filter (fun v => !q v) ∧ c' ≠ []) := fun r c r' c' => by
    rw [halves_two, List.mem_append, mem_cut, mem_cut]
  refine ⟨?_, fun r' c' => ?_⟩
  · unfold nextG
    rw [List.pairwise_flatMap]
    refine ⟨fun g _ => ?_, x.up.imp fun {a b} h u hu v hv => ?_⟩
    · rw [halves_two, List.pairwise_append]
      refine ⟨by unfold cut; split <;> simp, by unfold cut; split <;> simp, fun u hu v hv => ?_⟩
      have h1 := (mem_cut (c := u.2)).mp hu
      have h2 := (mem_cut (c := v.2)).mp hv
      omega
    · have h1 := (mh a.1 a.2 u.1 u.2).mp hu
      have h2 := (mh b.1 b.2 v.1 v.2).mp hv
      omega
  · unfold nextG
    rw [List.mem_flatMap]
    constructor
    · rintro ⟨⟨r, c⟩, hg, h⟩
      have e := ((x.mem r c).mp hg).1
      rcases (mh r c r' c').mp h with ⟨rfl, h2, h3⟩ | ⟨rfl, h2, h3⟩
      · exact ⟨by rw [cls_up0, ← e, h2], h3⟩
      · exact ⟨by rw [cls_up1, ← e, h2], h3⟩
    · rintro ⟨e, ne⟩
      rcases (by omega : r' = 2 * (r' / 2) ∨ r' = 2 * (r' / 2) + 1) with hr | hr
      · rw [hr, cls_up0] at e
        refine ⟨(r' / 2, cls ns vs (r' / 2)), (x.mem _ _).mpr ⟨rfl, fun z => ne (by rw [e, z]; rfl)⟩, (mh _ _ _ _).mpr (.inl ⟨hr, e, ne⟩)⟩
      · rw [hr, cls_up1] at e
        refine ⟨(r' / 2, cls ns vs (r' / 2)), (x.mem _ _).mpr ⟨rfl, fun z => ne (by rw [e, z]; rfl)⟩, (mh _ _ _ _).mpr (.inr ⟨hr, e, ne⟩)⟩
end Mine
end
section
open PySem PySem.W PyProof.Rows PySem.Calls PySem.Spec PySem.SeqAt
namespace Mine
/-- the table of the row's ranks behind one judge more -/
def upL (q : Value → Bool) (vs : List Value) (k : Nat) (ns : List Int) : List Int := (List.range ns.length).map fun i => ns.getD i 0 + 2 ^ k * bit (q (vs.getD i .none))
theorem upL_len (q : Value → Bool) (vs : List Value) (k : Nat) (ns : List Int) : (upL q vs k ns).length = ns.length := by simp [upL]
theorem upL_get {q : Value → Bool} {vs : List Value} {k : Nat} {ns : List Int} {i : Nat} (h : i < ns.length) : (upL q vs k ns).getD i 0 = ns.getD i 0 + 2 ^ k * bit (q (vs.getD i .none)) := by
  simp [upL, List.getD_eq_getElem?_getD, h]
theorem order_step {q : Value → Bool} {vs : List Value} {k : Nat} {ns : List Int} {o : List Nat} (hz : ns.length ≤ 60) (ho : IsOrder ns o) (hb : ∀ i, i < ns.length → 0 ≤ ns.getD i 0 ∧ ns.getD i 0 < 2 ^ k) :
    IsOrder (upL q vs k ns) ((o.filter fun i => q (vs.getD i .none)) ++ o.filter fun i => !q (vs.getD i .none)) := by
  have hlt : ∀ i ∈ o, i < ns.length := fun i hi => List.mem_range.mp (ho.perm.mem_iff.mp hi)
  refine ⟨?_, ?_⟩
  · rw [upL_len]
    exact (List.filter_append_perm (fun i => q (vs.getD i .none)) o).trans ho.perm
  · have kz : ∀ i, i ∈ o → keyZ (upL q vs k ns) i = keyZ ns i + 2 ^ k * bit (q (vs.getD i .none)) * 64 := fun i hi => by
      unfold keyZ; rw [upL_get (hlt i hi), Int.add_mul]; omega
    rw [List.pairwise_append]
    refine ⟨(ho.sorted.filter _).imp_of_mem fun {i j} hi hj h => ?_, (ho.sorted.filter _).imp_of_mem fun {i j} hi hj h => ?_, fun i hi j hj => ?_⟩
    · obtain ⟨hi, qi⟩ := List.mem_filter.mp hi
      obtain ⟨hj, qj⟩ := List.mem_filter.mp hj
      rw [kz i hi, kz j hj, qi, qj]; omega
    · obtain ⟨hi, qi⟩ := List.mem_filter.mp hi
      obtain ⟨hj, qj⟩ := List.mem_filter.mp hj
      rw [Bool.not_eq_true'] at qi qj
      rw [kz i hi, kz j hj, qi, qj]; omega
    · obtain ⟨hi, qi⟩ := List.mem_filter.mp hi
      obtain ⟨hj, qj⟩ := List.mem_filter.mp hj
      rw [Bool.not_eq_true'] at qj
      rw [kz i hi, kz j hj, qi, qj]
      have b1 := hb i (hlt i hi)
      have b2 := hb j (hlt j hj)
      have l1 := hlt i hi
      simp only [bit, if_true, Bool.false_eq_true, if_false, Int.mul_zero, Int.zero_mul, Int.mul_one]
      unfold keyZ
      generalize (2 : Int) ^ k = P at *
      omega
/-- the state of the law's row and parts, in plain words -/
structure Pur (vs : List Value) (k : Nat) (first last : List Int) (row : List Value) (gs : List (Int × List Value)) : Prop where
  lf : first.length = vs.length
  ll : last.length = vs.length
  bd : ∀ i, i < last.length → 0 ≤ last.getD i 0 ∧ last.getD i 0 < 2 ^ k
  row : ∃ o, IsOrder last o ∧ row = o.map fun i => vs.getD i .none
  nx : ∀ q, Groups (up1 q vs first) vs (nextG q gs)
  n1 : gs.length ≤ 2 ^ k + 1
  n2 : ∀ q, (nextG q gs).length ≤ 2 ^ (k + 1)
  th : ∀ g ∈ gs, ∀ v ∈ g.2, v ∈ vs
  sz : ∀ g ∈ gs, g.2.length ≤ vs.length
theorem Pur.zero {vs : List Value} (h2 : 2 ≤ vs.length) (hz : vs.length ≤ 60) : Pur vs 0 (List.replicate vs.length 0) (List.replicate vs.length 0) vs [(0, vs), (0, [])] := by
  have g0 : ∀ i, (List.replicate vs.length (0 : Int)).getD i 0 = 0 := fun i => by
    rw [List.getD_eq_getElem?_getD, List.getElem?_replicate]; split <;> rfl
  have all : (List.range vs.length).map (fun i => vs.getD i .none) = vs := by
    refine List.ext_getElem (by simp) fun i h1 h2 => ?_
    simp [List.getD_eq_getElem?_getD, h2]
  have nq : ∀ q, nextG q [(0, vs), (0, [])] = nextG q [(0, vs)] := fun q => by
    simp [nextG, halves, half, cut]
  have G0 : Groups (List.replicate vs.length 0) vs [(0, vs)] := by
    refine ⟨by simp, fun r c => ?_⟩
    rw [List.mem_singleton, Prod.mk.injEq]
    unfold cls
    simp only [g0, List.length_replicate]
    constructor
    · rintro ⟨rfl, rfl⟩
      refine ⟨?_, fun e => by rw [e] at h2; simp at h2⟩
      rw [List.filter_eq_self.mpr (fun _ _ => by simp)]
      exact all.symm
    · rintro ⟨e, ne⟩
      by_cases hr : (0 : Int) = r
      · subst hr
        rw [List.filter_eq_self.mpr (fun _ _ => by simp), all] at e
        exact ⟨rfl, e⟩
      · rw [List.filter_eq_nil_iff.mpr (fun _ _ => by simpa using hr)] at e
        exact absurd e ne
  refine ⟨by simp, by simp, fun i _ => by rw [g0 i]; simp, ⟨List.range vs.length, ⟨by simp, ?_⟩, all.symm⟩, fun q => (by rw [nq q]; exact nextG_groups q G0), by simp, fun q => ?_, fun g hg v hv => ?_, fun g hg => ?_⟩
  · refine List.pairwise_lt_range.imp fun {i j} h => ?_
    unfold keyZ; rw [g0 i, g0 j]; omega
  · rw [nq q]; simpa using nextG_len q [(0, vs)]
  · simp only [List.mem_cons, List.not_mem_nil, or_false] at hg
    rcases hg with rfl | rfl
    · exact hv
    · cases hv
  · simp only [List.mem_cons, List.not_mem_nil, or_false] at hg
    rcases hg with rfl | rfl
    · exact Nat.le_refl _
    · exact Nat.zero_le _
theorem Pur.step {vs : List Value} {k : Nat} {first last : List Int} {row : List Value} {gs : List (Int × List Value)} (x : Pur vs k first last row gs) (hz : vs.length ≤ 60) (q : Value → Bool) :
    Pur vs (k + 1) (up1 q vs first) (upL q vs k last) (row.filter q ++ row.filter fun v => !q v) (nextG q gs) := by
  have mh : ∀ r (c : List Value) r' c', (r', c') ∈ halves r q c 2 → (c' = c.filter q) ∨ (c' = c.filter (fun v => !q v)) := fun r c r' c' h => by
    rw [halves_two, List.mem_append, mem_cut, mem_cut] at h
    rcases h with h | h
    · exact .inl h.2.1
    · exact .inr h.2.1
  refine ⟨by rw [up1_len, x.lf], by rw [upL_len, x.ll], fun i hi => ?_, ?_, fun q' => nextG_groups q' (x.nx q), ?_, fun q' => ?_, fun g hg v hv => ?_, fun g hg => ?_⟩
  · rw [upL_len] at hi
    rw [upL_get hi]
    have b := x.bd i hi
    have e : (2 : Int) ^ (k + 1) = 2 ^ k * 2 := Int.pow_succ 2 k
    rw [e]
    cases q (vs.getD i .none) <;> simp only [bit, if_true, Bool.false_eq_true, if_false, Int.mul_zero, Int.mul_one] <;> omega
  · obtain ⟨o, ho, rfl⟩ := x.row
    refine ⟨_, order_step (q := q) (vs := vs) (by rw [x.ll]; exact hz) ho x.bd, ?_⟩
    rw [List.filter_map, List.filter_map, List.map_append]; rfl
  · have := x.n2 q; omega
  · have h1 := nextG_len q' (nextG q gs)
    have h2 := x.n2 q
    have e : (2 : Nat) ^ (k + 1 + 1) = 2 ^ (k + 1) * 2 := Nat.pow_succ (n := 2) (m := k + 1)
    omega
  · obtain ⟨g', hg', h⟩ := List.mem_flatMap.mp hg
    rcases mh g'.1 g'.2 g.1 g.2 h with e | e <;> (rw [e] at hv; exact x.th g' hg' v (List.mem_filter.mp hv).1)
  · obtain ⟨g', hg', h⟩ := List.mem_flatMap.mp hg
    have := x.sz g' hg'
    rcases mh g'.1 g'.2 g.1 g.2 h with e | e <;> (rw [e]; exact Nat.le_trans (List.length_filter_le _ _) this)
/-- the parts are the groups that the table tells -/
theorem Pur.parts {vs : List Value} {k : Nat} {first last : List Int} {row : List Value} {gs : List (Int × List Value)} (x : Pur vs k first last row gs) (hz : vs.length ≤ 60) (q : Value → Bool) {o : List Nat} (ho : IsOrder (up1 q vs first) o) :
    nextG q gs = grp (up1 q vs first) vs o := (x.nx q).unique (grp_groups (by rw [up1_len, x.lf]; exact hz) ho)
/-- the row is the order that the table tells -/
theorem Pur.rows {vs : List Value} {k : Nat} {first last : List Int} {row : List Value} {gs : List (Int × List Value)} (x : Pur vs k first last row gs) (hz : vs.length ≤ 60) {o : List Nat} (ho : IsOrder last o) :
    row = o.map fun i => vs.getD i .none := by
  obtain ⟨o', ho', rfl⟩ := x.row
  rw [ho'.unique (by rw [x.ll]; exact hz) ho]
theorem Pur.row_mem {vs : List Value} {k : Nat} {first last : List Int} {row : List Value} {gs : List (Int × List Value)} (x : Pur vs k first last row gs) : ∀ v ∈ row, v ∈ vs := by
  obtain ⟨o, ho, rfl⟩ := x.row
  intro v hv
  obtain ⟨i, hi, rfl⟩ := List.mem_map.mp hv
  have h : i < vs.length := by have := List.mem_range.mp (ho.perm.mem_iff.mp hi); rw [x.ll] at this; exact this
  rw [List.getD_eq_getElem?_getD, List.getElem?_eq_getElem h]; exact List.getElem_mem h
theorem Pur.row_len {vs : List Value} {k : Nat} {first last : List Int} {row : List Value} {gs : List (Int × List Value)} (x : Pur vs k first last row gs) : row.length = vs.length := by
  obtain ⟨o, ho, rfl⟩ := x.row
  rw [List.length_map, ho.perm.length_eq, List.length_range, x.ll]
end Mine
end
section
open PySem PySem.W PyProof.Rows PySem.Calls PySem.Spec PySem.SeqAt
namespace Mine
theorem fill15 : PySem.Challenge.rw_mq0061_01 = PySem.Challenge.rw_mq0061_01 ∧ (hd.heap_39 = hd.heap_39) := by
  k_fill
  exact ⟨rfl, rfl⟩
theorem use_at {K : Frag} {a : Addr} {x y : Obj} {P : Prop} (h : K.lookup a = some x) (e : K.lookup a = some y) (g : x = y → P) : P := g (Option.some.inj (h.symm.trans e))
section
variable {w : World} {A : Around} {s : Shared} {E : Value → Shared → Prop} {env : Env}
theorem add_any {l b : Addr} {vs ws : List Value} {Q : Value → Shared → Prop} (hl : s.heap.IsList l vs.toArray) (hb : s.heap.IsList b ws.toArray)
    (h : ∀ h', h'.IsList s.heap.objs.size (vs ++ ws).toArray → (∀ b o, s.heap.get? b = some o → h'.get? b = some o) → Q (.ref s.heap.objs.size) { s with heap := h' }) (hsz : vs.length + ws.length ≤ sizeLine) :
    wpAny (Mo w) A (binaryOp .Add (.ref l) (.ref b)) Q E s := by
  obtain ⟨⟨cls, dd, data, sl⟩, ho, hc, n, hd⟩ := id hl
  obtain ⟨⟨cls2, dd2, data2, sl2⟩, ho2, hc2, n2, hd2⟩ := id hb
  simp only at hc hd hc2 hd2
  subst hc hd hc2 hd2
  have e : vs.toArray ++ ws.toArray = (vs ++ ws).toArray := by simp
  refine concat_meets ⟨_, ho, rfl⟩ ⟨_, ho2, rfl⟩ noFill_list_add seq_list_add PySem.F.slot_list_add PySem.F.entry_list_add (PySem.F.args_list_add_2 _ _) (list_addW l b vs.toArray ws.toArray n n2 dd dd2 sl sl2 (by simpa using hsz)) ⟨ho, ho2, ?_⟩
  rw [e]
  exact h _ ⟨_, Heap.get?_push_size _ rfl, rfl, _, rfl⟩ fun b o z => Heap.get?_push_of_some _ z
/-- the same, its iterable worked out on the way -/
theorem comp_over {elt iter : Expr} {x : Str} {px pos : Pos} {scope : Scope} {cl : List (Str × Addr)} {Q : Value → Shared → Prop} (F : Value → Value → Prop)
    (hh : A.handled = none)
    (hclos : closureFor scope env = pure cl) (hcell : ∀ y ∈ scope.names, y.2 ≠ .cell) (hkind : scope.kind = .function)
    (hnames : ∀ y ∈ scope.names, y.2 = .local → scope.names.lookup y.1 = some .local) (hx : scope.names.lookup x = some .local)
    (hit : wpAny (Mo w) A (eval iter env) (fun r s₁ => ∃ a its, r = .ref a ∧ s₁.heap.IsList a its ∧ its.size ≤ 1000 ∧
      (∀ C v s₃ m₃, v ∈ its.toList → s₃.heap.Ns C m₃ → m₃ x = some v → (∀ b o, s₁.heap.get? b = some o → s₃.heap.get? b = some o) → wpAny (Mo w) A (eval elt (compEnvC scope cl C env)) (fun y s₄ => F v y ∧ Keeps s₃ s₄) NoE s₃) ∧
      (∀ D h' tk ys, s₁.heap.get? D = none → h'.IsList D ys → Paired F its.toList ys.toList → (∀ b o, s₁.heap.get? b = some o → h'.get? b = some o) → Q (.ref D) { s₁ with heap := h', toks := tk })) E s)
    (hs : ∀ x, foldedSetIterable iter env x = pure x := by intro _; rfl) :
    wpAny (Mo w) A (eval (.ListComp elt [⟨.Name x px, iter, [], 0⟩] scope pos) env) Q E s := by
  refine wpAny_ListComp_free (fun _ => true) F hclos hcell hkind hnames hx (wpAny_mono hit (fun r s₁ hr => ?_) fun _ _ z => z) hs
  obtain ⟨a, its, rfl, hl, hz, helt, h⟩ := hr
  clear hit
  refine wpAny_pyIter_list hl ?_
  obtain ⟨oa, hoa, _⟩ := id hl
  have hlt : a < s₁.heap.objs.size := Heap.lt_size hoa
  have hne : a ≠ s₁.heap.objs.size := Nat.ne_of_lt hlt
  have W := Walks.list (prog := PySem.Challenge.rw_mq0061_01.row.prog) (w := w) hh s₁.heap.objs.size a hne its
  refine ⟨_, _, _, its.size, _, _, rfl, W, by rw [sizeLine_eq]; omega, ⟨⟨_, Heap.get?_push_size _ rfl, rfl, rfl⟩, hl.at fun o e => Heap.get?_push_of_some _ e⟩, ?_, ⟨?_, ?_⟩, ?_⟩
  · intro b hb
    have h1 : ∀ o, (s₁.heap.push o).objs.size = s₁.heap.objs.size + 1 := fun o => by rw [Heap.size_push]
    show b < (s₁.heap.push _).objs.size
    rw [h1]
    rcases List.mem_cons.mp hb with rfl | hb
    · exact Nat.lt_succ_self _
    · rw [List.mem_singleton.mp hb]; exact Nat.lt_succ_of_lt hlt
  · intro C i v s₃ m₃ E' _ _ _ _ _ _
    exact wpAny_pure ⟨rfl, _, _, rfl, fun _ _ e => e⟩
  · intro C i v s₃ m₃ E' hC hP _ hns hm hk _
    refine wpAny_mono (helt C v s₃ m₃ (List.mem_of_getElem? (i := i) (by simpa using hP)) hns hm fun b o e => hk b o (fun q => ?_) (Heap.get?_push_of_some _ e)) (fun _ _ x => x) fun _ _ x => x.elim
    rw [List.mem_singleton.mp q] at e
    exact Nat.lt_irrefl _ (Heap.lt_size e)
  · intro D h' tk ys vs hD hlD _ hlen hP hF hk
    have hvs : vs = its.toList := List.ext_getElem? fun i => by
      by_cases hi : i < vs.length
      · have := hP i vs[i] (by simp)
        rw [List.getElem?_eq_getElem hi, ← this]; simp
      · rw [List.getElem?_eq_none (by omega), List.getElem?_eq_none (by simp; omega)]
    subst hvs
    rw [List.filter_eq_self.mpr (fun _ _ => rfl)] at hF
    refine h D h' tk ys ?_ hlD hF fun b o e => hk b o (fun q => ?_) (Heap.get?_push_of_some _ e)
    · cases hq : s₁.heap.get? D with
      | none => rfl
      | some o => rw [Heap.get?_push_of_some _ hq] at hD; cases hD
    · rw [List.mem_singleton.mp q] at e
      exact Nat.lt_irrefl _ (Heap.lt_size e)
theorem cut_upto {x : Str} {px p1 p2 p3 : Pos} {k : Nat} {z : Int} {a : Addr} {vs : List Value} {ns : List Int} {Q : Value → Shared → Prop} (hx : ∀ Q' : Value → Shared → Prop, Q' (.ref a) s → wpAny (Mo w) A (eval (.Name x px) env) Q' E s)
    (hl : s.heap.IsList a vs.toArray) (hz : vs.length ≤ 1000) (hi : IntsAre vs ns) (h0 : 0 ≤ z)
    (h : ∀ D us h' tk, h'.IsList D us.toArray → IntsAre us (ns.take z.toNat) → (∀ b o, s.heap.get? b = some o → h'.get? b = some o) → Q (.ref D) { s with heap := h', toks := tk }) :
    wpAny (Mo w) A (eval (.Subscript (.Name x px) (.Slice none (some (.Constant (.int z) k p1)) none p2) p3) env) Q E s := by
  refine wpAny_Subscript_list_slice (hx _ (wpAny_evalPart_none (wpAny_evalPart_some (lit_int _ fun v tk hv => ?_)))) (by intro _ _; rfl)
  obtain ⟨t, rfl⟩ : ∃ t, v = .int z t := by cases hv s.heap; exact ⟨_, rfl⟩
  refine ⟨a, vs.toArray, none, some z, rfl, hl, by rw [sizeLine_eq]; simpa using (by omega), .none, .int z t, ?_⟩
  refine h _ (slicePick vs.toArray none (some z) none).toList _ tk ?_ (slice_ints_uptoW hi h0) fun b o e => Heap.get?_push_of_some _ (Heap.get?_push_of_some _ e)
  refine ⟨{ cls := .type "list", data := .seq (slicePick vs.toArray none (some z) none) }, ?_, rfl, 0, by simp⟩
  have e1 := Heap.get?_push_size (s.heap.push { cls := .type "slice", data := .fields #[.none, .int z t, .none] }) (o := { cls := .type "list", data := .seq (slicePick vs.toArray none (some z) none) }) rfl
  rw [Heap.size_push] at e1
  exact e1
end
end Mine
end
section
open PySem PySem.W PyProof.Rows PySem.Calls PySem.Spec PySem.SeqAt
namespace Mine
theorem fill16 : PySem.Challenge.rw_mq0061_01 = PySem.Challenge.rw_mq0061_01 ∧ (hd.heap_39 = hd.heap_39) := by
  k_fill
  exact ⟨rfl, rfl⟩
/-- a thing's code -/
def cOf : Value → Int
  | .int n _ => n
  | .str x _ => (x.cps.getD 0 0 : Nat)
  | _ => 0
theorem ThingV.code {v : Value} {c : Int} (h : ThingV v c) : cOf v = c := by cases h <;> rfl
/-- the table of the answers -/
def TabAt (h : Heap) (tl : Addr) (tv : List Value) : Prop := ∃ ys : List Value, h.IsList tl ys.toArray ∧ Paired (fun v y => ∃ T us, y = .ref T ∧ h.IsList T us ∧ IntsAre us.toList (ansOf (cOf v))) tv ys
theorem TabAt.sk {h h' : Heap} {tl : Addr} {tv : List Value} (x : TabAt h tl tv) (k : SK h h') : TabAt h' tl tv := by
  obtain ⟨ys, a, b⟩ := x
  exact ⟨ys, k.list a, b.mono fun v y ⟨T, us, e, l, i⟩ => ⟨T, us, e, k.list l, i⟩⟩
/-- what stays through the law's loop -/
structure LFix (da ta tl jl : Addr) (dv tv : List Value) (m : Str → Option Value) (cv : Nat → Option Value) (h : Heap) : Prop where
  md : m (Str.ofString "drawn") = some (.ref da)
  ld : h.IsList da dv.toArray
  c1 : cv 1 = some (.ref ta)
  l1 : h.IsList ta tv.toArray
  c2 : cv 2 = some (.ref tl)
  l2 : TabAt h tl tv
  c6 : cv 6 = some (.ref jl)
  l6 : h.IsList jl jvals.toArray
theorem LFix.sk {da ta tl jl : Addr} {dv tv : List Value} {m : Str → Option Value} {cv : Nat → Option Value} {h h' : Heap} (x : LFix da ta tl jl dv tv m cv h) (k : SK h h') : LFix da ta tl jl dv tv m cv h' :=
  ⟨x.md, k.list x.ld, x.c1, k.list x.l1, x.c2, x.l2.sk k, x.c6, k.list x.l6⟩
/-- what turns in the law's loop -/
structure LVar (tv : List Value) (i : Nat) (m : Str → Option Value) (cv : Nat → Option Value) (h : Heap) (ra pa fl ll : Addr) (row : List Value) (l : List GR) (fus lus : List Value) (first last : List Int) : Prop where
  mr : m (Str.ofString "row") = some (.ref ra)
  lr : h.IsList ra row.toArray
  mp : m (Str.ofString "parts") = some (.ref pa)
  lp : PartsAt h pa l
  c3 : cv 3 = some (.ref fl)
  l3 : h.IsList fl fus.toArray
  i3 : IntsAre fus first
  c4 : cv 4 = some (.ref ll)
  l4 : h.IsList ll lus.toArray
  i4 : IntsAre lus last
  P : Pur tv i first last row (gsOf l)
theorem LVar.sk {tv : List Value} {i : Nat} {m : Str → Option Value} {cv : Nat → Option Value} {h h' : Heap} {ra pa fl ll : Addr} {row : List Value} {l : List GR} {fus lus : List Value} {first last : List Int} (x : LVar tv i m cv h ra pa fl ll row l fus lus first last) (k : SK h h') : LVar tv i m cv h' ra pa fl ll row l fus lus first last :=
  ⟨x.mr, k.list x.lr, x.mp, k.parts x.lp, x.c3, k.list x.l3, x.i3, x.c4, k.list x.l4, x.i4, x.P⟩
def Pay (da ta tl jl : Addr) (dv tv : List Value) (i : Nat) (m : Str → Option Value) (cv : Nat → Option Value) (h : Heap) : Prop :=
  LFix da ta tl jl dv tv m cv h ∧ ∃ ra pa fl ll row l fus lus first last, LVar tv i m cv h ra pa fl ll row l fus lus first last
theorem Pay.sk {da ta tl jl : Addr} {dv tv : List Value} {i : Nat} {m : Str → Option Value} {cv : Nat → Option Value} {h h' : Heap} (x : Pay da ta tl jl dv tv i m cv h) (k : SK h h') : Pay da ta tl jl dv tv i m cv h' := by
  obtain ⟨a, ra, pa, fl, ll, row, l, fus, lus, first, last, b⟩ := x
  exact ⟨a.sk k, ra, pa, fl, ll, row, l, fus, lus, first, last, b.sk k⟩
theorem TabAt.get {h : Heap} {tl : Addr} {tv : List Value} (x : TabAt h tl tv) {n i : Nat} (hn : n < tv.length) (hi : i < 15) : ∃ ys T us t, h.IsList tl ys ∧ ys[n]? = some (.ref T) ∧ h.IsList T us ∧ us[i]? = some (.int (bit (jsays i (cOf (tv.getD n .none)))) t) := by
  obtain ⟨ys, a, b⟩ := x
  have key : ∀ {tv ys : List Value}, Paired (fun v y => ∃ T us, y = .ref T ∧ h.IsList T us ∧ IntsAre us.toList (ansOf (cOf v))) tv ys → ∀ n, n < tv.length → ∃ T us, ys[n]? = some (.ref T) ∧ h.IsList T us ∧ IntsAre us.toList (ansOf (cOf (tv.getD n .none))) := by
    intro tv ys b
    induction b with
    | nil => intro n hn; cases hn
    | cons hv _ ih =>
      intro n hn
      cases n with
      | zero => obtain ⟨T, us, rfl, l, i⟩ := hv; exact ⟨T, us, rfl, l, i⟩
      | succ n => exact ih n (by simpa using hn)
  obtain ⟨T, us, e, l, hI⟩ := key b n hn
  have hj : (ansOf (cOf (tv.getD n .none)))[i]? = some (bit (jsays i (cOf (tv.getD n .none)))) := by
    unfold ansOf jsays
    have hl : i < jlist.length := hi
    have eg : jlist.getD i (fun _ => false) = jlist[i] := by rw [List.getD_eq_getElem?_getD, List.getElem?_eq_getElem hl]; rfl
    rw [List.getElem?_map, eg, List.getElem?_eq_getElem hl]; rfl
  obtain ⟨t, e2⟩ := hI.get i _ hj
  exact ⟨ys.toArray, T, us, t, a, by simpa using e, l, by simpa using e2⟩
theorem paired_ints {α : Type} {f : α → Int} : ∀ {l : List α} {ys : List Value}, Paired (fun j y => ∃ u, y = .int (f j) u) l ys → IntsAre ys (l.map f)
  | _, _, .nil => .nil
  | _, _, .cons h r => by obtain ⟨u, rfl⟩ := h; exact .cons _ _ (paired_ints r)
theorem map_getD_range (ns : List Int) : (List.range ns.length).map (fun i => ns.getD i 0) = ns := by
  refine List.ext_getElem (by simp) fun i h1 h2 => ?_
  simp [List.getD_eq_getElem?_getD, h2]
theorem IntsAre.getD {vs : List Value} {ns : List Int} (h : IntsAre vs ns) {i : Nat} (hi : i < ns.length) : ∃ t, vs[i]? = some (.int (ns.getD i 0) t) := by
  refine h.get i _ ?_
  rw [List.getD_eq_getElem?_getD, List.getElem?_eq_getElem hi]; rfl
theorem ints_nat_mem {o : List Nat} : ∀ {out : List Value}, IntsAre out (o.map fun (i : Nat) => (i : Int)) → ∀ v ∈ out, ∃ j ∈ o, ∃ t, v = .int (j : Nat) t := by
  induction o with
  | nil => intro out h v hv; cases h; cases hv
  | cons j o ih =>
    intro out h v hv
    cases h with
    | cons _ t h =>
      rcases List.mem_cons.mp hv with rfl | hv
      · exact ⟨j, .head _, t, rfl⟩
      · obtain ⟨k, hk, t', e⟩ := ih h v hv
        exact ⟨k, .tail _ hk, t', e⟩
theorem paired_nat {f : Nat → Value} {o : List Nat} : ∀ {out ys : List Value}, IntsAre out (o.map fun (i : Nat) => (i : Int)) → Paired (fun v y => ∃ (j : Nat) (t : Tok), v = .int (j : Nat) t ∧ y = f j) out ys → ys = o.map f := by
  induction o with
  | nil => intro out ys h p; cases h; cases p; rfl
  | cons j o ih =>
    intro out ys h p
    cases h with
    | cons _ t h =>
      cases p with
      | cons hv p =>
        obtain ⟨k, t', e, rfl⟩ := hv
        have : (j : Int) = k := by injection e
        have hk : k = j := by omega
        rw [List.map_cons, hk, ih h p]
section
variable {w : World} {A : Around} {s : Shared} {E : Value → Shared → Prop} {p : Program} {loose : List Str} {mean : ExcName → Option Value} {mg mb : Str → Option Value} {h₀ : Heap} {L : Addr} {m : Str → Option Value} {cv : Nat → Option Value}
set_option maxRecDepth 100000
set_option maxHeartbeats 8000000
theorem law_turn {fd : FuncData} {oc : Value} {od : Option Addr} {sl : Array (Option Value)} {tb : List Stmt} {s1 s2 s3 s4 s5 s6 s7 s8 s10 : Stmt} {tg it : PySem.Expr} {pf : Pos} {fa : Addr} {da ta tl jl : Addr} {dv tv : List Value} {ds : List Int} {i : Nat} {t : Tok}
    (hfd : (hd.heap_39 w.params).lookup 164 = some ⟨oc, od, .func fd, sl⟩) (hb : fd.body = .stmts [s1, s2, s3, s4, s5, s6, s7, s8, .For tg it tb [] pf, s10])
    (G₀ : Gd w p loose mean mg mb h₀) (C1 : CodeHd h₀ 151 147) (C2 : CodeHd h₀ 163 161) (n147 : h₀.get? 147 = none) (n161 : h₀.get? 161 = none) (hA : AOk A 880)
    (hd1 : IntsAre dv ds) (hd2 : dv.length = tv.length) (h2 : 2 ≤ tv.length) (h10 : tv.length ≤ 10) (hth : ∀ v ∈ tv, ThingV v (cOf v)) (hi : i < tv.length)
    (S : LawSt h₀ L s.heap m (fun j => if j = 5 then some (.int (i : Nat) t) else cv j)) (hp : Pay da ta tl jl dv tv i m cv s.heap) :
    wpAny (Mo w) A (execs tb (envOfC fd.name fd.scope L fa (.ref 163))) (fun f s'' => f = .next ∧ ∃ h'' tk, s'' = { s with heap := h'', toks := tk } ∧ KB L s.heap h'' ∧ ∃ m' cv', LawSt h₀ L h'' m' cv' ∧ Pay da ta tl jl dv tv (i + 1) m' cv' h'') NoE s := by
  refine' use_at ?h hfd ?g
  case h => k_is
  intro e
  cases e
  cases hb
  dsimp only
  clear hfd
  have G := G₀.keeps S.F.keep
  obtain ⟨X, ra, pa, fl, ll, row, l, fus, lus, first, last, V⟩ := hp
  obtain ⟨d, hdd⟩ : ∃ d, ds[i]? = some d := ⟨_, List.getElem?_eq_getElem (by rw [← hd1.length, hd2]; exact hi)⟩
  obtain ⟨td, hdv⟩ := hd1.get i d hdd
  refine wpAny_execs_cons (wpAny_Assign_Name (wpAny_BinOp (wpAny_BinOp (Subscript_ (lname S.F.ns X.md (cname (c := L + 5) rfl (S.cell 5 (by decide) (by decide)) (item_list X.ld (by omega) (by omega) (by simpa using hdv) ?_)))))))
  refine lit_int _ fun v1 tk₁ hv1 => ?_
  obtain ⟨t1, rfl⟩ : ∃ t, v1 = .int 4 t := by cases hv1 s.heap; exact ⟨_, rfl⟩
  refine floordiv_int (by decide) (lit_int _ fun v2 tk₂ hv2 => ?_)
  obtain ⟨t2, rfl⟩ : ∃ t, v2 = .int 15 t := by cases hv2 s.heap; exact ⟨_, rfl⟩
  refine mod_int (by decide) ?_
  obtain ⟨wh, ewh, hwh⟩ : ∃ wh : Nat, (d.fdiv 4).fmod 15 = (wh : Int) ∧ wh < 15 := by
    have a := Int.fmod_nonneg_of_pos (d.fdiv 4) (b := 15) (by decide)
    have b := Int.fmod_lt_of_pos (d.fdiv 4) (b := 15) (by decide)
    exact ⟨((d.fdiv 4).fmod 15).toNat, by omega, by omega⟩
  rw [ewh]
  refine LawSt.stC (i := 7) S (by decide) (by decide) rfl rfl rfl fun h₁ S₁ sk₁ kb₁ => ?_
  dsimp only at S₁ sk₁ kb₁ ⊢
  have c6₁ : h₁.IsCell (L + 6) (some (.ref jl)) := X.c6 ▸ (show h₁.IsCell (L + 6) (cv 6) from S₁.cell 6 (by decide) (by decide))
  have c7₁ := S₁.cell 7 (by decide) (by decide)
  have G₁ := G₀.keeps S₁.F.keep
  obtain ⟨ja, hja⟩ : ∃ a, jvals[wh]? = some (.ref a) := ⟨jaddrs[wh]'hwh, by unfold jvals; rw [List.getElem?_map, List.getElem?_eq_getElem (show wh < jaddrs.length from hwh)]; rfl⟩
  have hrow : ∀ v ∈ row, ThingV v (cOf v) := fun v hv => hth v (V.P.row_mem v hv)
  have hrl : row.length ≤ 10 := by rw [V.P.row_len]; exact h10
  refine wpAny_execs_cons (wpAny_Assign_Name (Call_ (gname G₁ (by k_is) (v := .ref 21) ?_)))
  refine callWith_of (P := fun h => (hd.heap_39 w.params).In h) rfl (fun h X => keeps_K (K := hd.heap_39 w.params) (by k_is) _ X) (evalArgs_plain (args_cons (lname S₁.F.ns V.mr (args_cons (Subscript_ (cname (c := L + 6) rfl c6₁ (cname (c := L + 7) rfl c7₁ (item_list (sk₁.list X.l6) (by omega) (by omega) (by simpa using hja) (args_nil ⟨G₁.X, ?_⟩)))))))))
  have kp : Kp w (.ref ja) h₁ := by
    obtain ⟨v, hv⟩ : ∃ v, v ∈ tv := List.exists_mem_of_length_pos (by omega)
    obtain ⟨a, e1, e2, _⟩ := judge_spec (s := { s with heap := h₁ }) (A := A) G₁ (hA.mono (by decide)) (hth v hv) wh hwh
    rw [hja] at e1; cases e1; exact e2
  refine wpAny_mono (split_spec (q := fun v => jsays wh (cOf v)) (its := row.toArray) G₁ (hA.mono (by decide)) (sk₁.list V.lr) (by simp; omega) kp ?_) (fun r s' hr => ?_) fun _ _ z => z.elim
  · intro v hv s' A' hA' hk'
    obtain ⟨h', tk', rfl, k'⟩ := hk'
    have hv' : v ∈ row := by simpa using hv
    obtain ⟨a, e1, _, e3⟩ := judge_spec (s := { s with heap := h', toks := tk' }) (A := A') (G₁.keeps k') (hA'.mono (by decide)) (hrow v hv') wh hwh
    rw [hja] at e1; cases e1
    refine wpAny_mono e3 (fun r s'' hr => ?_) fun _ _ z => z
    obtain ⟨e, hk⟩ := hr
    exact ⟨.inl e, hk⟩
  obtain ⟨⟨T, y, n, ys, nv, rfl, hT, hy, hn, tT, ly, ln, e1, e2⟩, h₂, tk₂', rfl, k₂⟩ := hr
  have ey : ys = (row.filter fun v => jsays wh (cOf v)).toArray := by rw [← Array.toList_inj, e1]
  have en : nv = (row.filter fun v => !jsays wh (cOf v)).toArray := by rw [← Array.toList_inj, e2]
  subst ey en
  refine LawSt.stL (S₁.keeps k₂) rfl rfl rfl fun h₃ S₃ sk₃ k₃ => ?_
  dsimp only at S₃ sk₃ k₃ ⊢
  have kb₃ : KB L s.heap h₃ := kb₁.trans ((KB.of k₂).trans (KB.ofL k₃))
  have sk3 : SK s.heap h₃ := sk₁.trans ((SK.of k₂).trans sk₃)
  have G₃ := G₀.keeps S₃.F.keep
  have tT₃ := sk₃.tup tT
  refine wpAny_execs_cons (wpAny_If (isTrue_not (isTrue_plain (Call_ (bname G₃ (by k_is) (v := .builtin "isinstance") (by boot_fast) (by decide) (callWith_builtin1 (args_cons (lname S₃.F.ns rfl (args_cons (bname G₃ (by k_is) (v := .type "tuple") (by boot_fast) (by decide) (args_nil (call_isinstance_yes (Tx := "tuple") ?_ meta_tuple sub_tuple_tuple (wpAny_truthy_bool ?_)))))))))))))
  · obtain ⟨o, ho, hc, _⟩ := tT₃
    exact ⟨o, ho, hc⟩
  simp only [Bool.not_true, Bool.false_eq_true, if_false]
  refine wpAny_pure ?_
  dsimp only
  refine wpAny_execs_cons (Assign_Tuple (lname S₃.F.ns rfl (assign_Tuple_tuple hA.hd tT₃ rfl rfl fun h₄ hx₄ => ?_)))
  have k₄ : ∀ b o, h₃.get? b = some o → h₄.get? b = some o := fun b o z => hx₄ b o (Nat.ne_of_lt (Heap.lt_size z)) z
  refine assignInOrder_cons (wpAny_assign_Name (LawSt.stL (S₃.keeps k₄) rfl rfl rfl fun h₅ S₅ sk₅ k₅ => ?_))
  refine assignInOrder_cons (wpAny_assign_Name (LawSt.stL S₅ rfl rfl rfl fun h₆ S₆ sk₆ k₆ => assignInOrder_nil ?_))
  dsimp only at S₅ sk₅ k₅ S₆ sk₆ k₆ ⊢
  have kb₆ : KB L s.heap h₆ := kb₃.trans ((KB.of k₄).trans ((KB.ofL k₅).trans (KB.ofL k₆)))
  have sk6 : SK s.heap h₆ := sk3.trans ((SK.of k₄).trans (sk₅.trans sk₆))
  have skt : SK h₂ h₆ := sk₃.trans ((SK.of k₄).trans (sk₅.trans sk₆))
  refine wpAny_execs_cons (wpAny_Assign_Name (wpAny_BinOp (lname S₆.F.ns (v := .ref y) rfl (lname S₆.F.ns (v := .ref n) rfl (add_any (skt.list ly) (skt.list ln) (fun h₇ lr₇ k₇ => ?_) ?_)))))
  rotate_left
  · have a := List.length_filter_le (fun v => jsays wh (cOf v)) row
    have b := List.length_filter_le (fun v => !jsays wh (cOf v)) row
    rw [sizeLine_eq]; omega
  refine LawSt.stL (S₆.keeps k₇) rfl rfl rfl fun h₈ S₈ sk₈ k₈ => ?_
  dsimp only at lr₇ k₇ S₈ sk₈ k₈ ⊢
  generalize h₆.objs.size = rb at lr₇ S₈ ⊢
  have kb₈ : KB L s.heap h₈ := kb₆.trans ((KB.of k₇).trans (KB.ofL k₈))
  have sk8 : SK s.heap h₈ := sk6.trans ((SK.of k₇).trans sk₈)
  have lr₈ := sk₈.list lr₇
  have hlen : (gsOf l).length = l.length := by simp [gsOf]
  have mg8 : ∀ g ∈ l, (g.r, g.vs) ∈ gsOf l := fun g hg => List.mem_map.mpr ⟨g, hg, rfl⟩
  refine wpAny_execs_cons (parts_stmt (cOf := cOf) (a := pa) (l := l) (jl := jl) (i := wh) S₈ G₀ C2 n161 (hA.mono (by decide)) V.mp (sk8.parts V.lp) ?_ (fun g hg => ?_) (fun g hg v hv => ?_) X.c6 (sk8.list X.l6) rfl hwh ?_ rfl rfl rfl rfl rfl rfl rfl rfl rfl (by decide) rfl (by decide) rfl rfl rfl rfl (fun _ => rfl) (fun _ => rfl) (fun _ => rfl) rfl rfl)
  · have a := V.P.n1
    have b : 2 ^ i ≤ 2 ^ 9 := Nat.pow_le_pow_right (by decide) (by omega)
    rw [hlen] at a
    omega
  · have := V.P.sz _ (mg8 g hg)
    show g.vs.length ≤ 1000
    dsimp only at this; omega
  · exact hth v (V.P.th _ (mg8 g hg) v hv)
  intro pb h₉ tk₉ l' S₉ sk₉ kb₉ lp₉ gs₉
  dsimp only at S₉ sk₉ kb₉ lp₉ gs₉ ⊢
  have sk9 : SK s.heap h₉ := sk8.trans sk₉
  have kb9 : KB L s.heap h₉ := kb₈.trans kb₉
  have G₉ := G₀.keeps S₉.F.keep
  have X₉ := X.sk sk9
  have V₉ := V.sk sk9
  have lr9 := sk₉.list lr₈
  have lf := V.P.lf
  have llq := V.P.ll
  refine wpAny_execs_cons (wpAny_Assign_Name (comp_rng (n := tv.length) (fun j y => ∃ u, y = .int ((up1 (fun v => jsays wh (cOf v)) tv first).getD j 0) u) hA.hd (by omega) (fun Q' hQ => ?_) rfl (by decide) rfl (by decide) rfl (fun C j tj s₃ m₃ hj hns hmj hk => ?_) (fun D h' tk ys hD lD pD kD => ?_)))
  · exact range_len G₉ X₉.l1 (by simp; omega) (fun Q'' hq => cname (c := L + 1) rfl (X.c1 ▸ (show h₉.IsCell (L + 1) (cv 1) from S₉.cell 1 (by decide) (by decide))) hq) fun r h' tk t u v hr hk _ => hQ r h' tk t u v (by simpa using hr) hk
  · have S' := S₉.keeps hk
    have c2 : s₃.heap.IsCell (L + 2) (some (.ref tl)) := X.c2 ▸ (show s₃.heap.IsCell (L + 2) (cv 2) from S'.cell 2 (by decide) (by decide))
    have c3 : s₃.heap.IsCell (L + 3) (some (.ref fl)) := V.c3 ▸ (show s₃.heap.IsCell (L + 3) (cv 3) from S'.cell 3 (by decide) (by decide))
    have c7 := S'.cell 7 (by decide) (by decide)
    obtain ⟨yt, T', us, tt, b1, b2, b3, b4⟩ := (X₉.l2.sk (SK.of hk)).get hj hwh
    obtain ⟨tf, ef⟩ := IntsAre.getD V.i3 (i := j) (by omega)
    refine wpAny_BinOp (wpAny_BinOp (lit_int _ fun v1 tk₁ hv1 => ?_))
    obtain ⟨t1, rfl⟩ : ∃ t, v1 = .int 2 t := by cases hv1 s.heap; exact ⟨_, rfl⟩
    refine Subscript_ (cname (c := L + 3) rfl c3 (lname hns hmj (item_list (V₉.l3.at fun o e => hk _ o e) (by omega) (by omega) (by simpa using ef) (mul_int ?_))))
    refine Subscript_ (Subscript_ (cname (c := L + 2) rfl c2 (lname hns hmj (item_list b1 (by omega) (by omega) (by simpa using b2) (cname (c := L + 7) rfl c7 (item_list b3 (by omega) (by omega) (by simpa using b4) (add_int ?_)))))))
    exact ⟨⟨_, by rw [up1_get (by omega)]; rfl⟩, _, _, rfl, fun _ _ e => e⟩
  have iF : IntsAre ys.toList (up1 (fun v => jsays wh (cOf v)) tv first) := by
    have := paired_ints pD
    rw [← lf, ← up1_len (fun v => jsays wh (cOf v)) tv first, map_getD_range] at this
    exact this
  refine LawSt.stC (i := 3) (S₉.keeps kD) (by decide) (by decide) rfl rfl rfl fun h₁₀ S₁₀ sk₁₀ kb₁₀ => ?_
  dsimp only at S₁₀ sk₁₀ kb₁₀ ⊢
  have kb10 : KB L s.heap h₁₀ := kb9.trans ((KB.of kD).trans kb₁₀)
  have sk10 : SK s.heap h₁₀ := sk9.trans ((SK.of kD).trans sk₁₀)
  have lD10 := sk₁₀.list lD
  have G₁₀ := G₀.keeps S₁₀.F.keep
  have X₁₀ := X.sk sk10
  have V₁₀ := V.sk sk10
  refine wpAny_execs_cons (wpAny_Assign_Name (comp_rng (n := tv.length) (fun j y => ∃ u, y = .int ((upL (fun v => jsays wh (cOf v)) tv i last).getD j 0) u) hA.hd (by omega) (fun Q' hQ => ?_) rfl (by decide) rfl (by decide) rfl (fun C j tj s₃ m₃ hj hns hmj hk => ?_) (fun D2 h'' tk'' ys2 hD2 lD2 pD2 kD2 => ?_)))
  · exact range_len G₁₀ X₁₀.l1 (by simp; omega) (fun Q'' hq => cname (c := L + 1) rfl (X.c1 ▸ (show h₁₀.IsCell (L + 1) (cv 1) from S₁₀.cell 1 (by decide) (by decide))) hq) fun r h' tk t u v hr hk _ => hQ r h' tk t u v (by simpa using hr) hk
  · have S' := S₁₀.keeps hk
    have c2 : s₃.heap.IsCell (L + 2) (some (.ref tl)) := X.c2 ▸ (show s₃.heap.IsCell (L + 2) (cv 2) from S'.cell 2 (by decide) (by decide))
    have c4 : s₃.heap.IsCell (L + 4) (some (.ref ll)) := V.c4 ▸ (show s₃.heap.IsCell (L + 4) (cv 4) from S'.cell 4 (by decide) (by decide))
    have c5 := S'.cell 5 (by decide) (by decide)
    have c7 := S'.cell 7 (by decide) (by decide)
    obtain ⟨yt, T', us, tt, b1, b2, b3, b4⟩ := (X₁₀.l2.sk (SK.of hk)).get hj hwh
    obtain ⟨tf, ef⟩ := IntsAre.getD V.i4 (i := j) (by omega)
    refine wpAny_BinOp (Subscript_ (cname (c := L + 4) rfl c4 (lname hns hmj (item_list (V₁₀.l4.at fun o e => hk _ o e) (by omega) (by omega) (by simpa using ef) ?_))))
    refine wpAny_BinOp (wpAny_BinOp (lit_int _ fun v1 tk₁ hv1 => ?_))
    obtain ⟨t1, rfl⟩ : ∃ t, v1 = .int 2 t := by cases hv1 s.heap; exact ⟨_, rfl⟩
    refine cname (c := L + 5) rfl c5 (pow_int_small (by omega) (by omega) (by decide) ?_)
    refine Subscript_ (Subscript_ (cname (c := L + 2) rfl c2 (lname hns hmj (item_list b1 (by omega) (by omega) (by simpa using b2) (cname (c := L + 7) rfl c7 (item_list b3 (by omega) (by omega) (by simpa using b4) (mul_int (add_int ?_) (IntMulOk.of_right ?_))))))))
    · exact ⟨⟨_, by rw [upL_get (by omega)]; rfl⟩, _, _, rfl, fun _ _ e => e⟩
    · have hbit : ∀ b, Builtin.Int.intBits (bit b) ≤ 64 := by decide
      exact hbit _
  have iL : IntsAre ys2.toList (upL (fun v => jsays wh (cOf v)) tv i last) := by
    have := paired_ints pD2
    rw [← llq, ← upL_len (fun v => jsays wh (cOf v)) tv i last, map_getD_range] at this
    exact this
  refine LawSt.stC (i := 4) (S₁₀.keeps kD2) (by decide) (by decide) rfl rfl rfl fun h₁₁ S₁₁ sk₁₁ kb₁₁ => ?_
  dsimp only at S₁₁ sk₁₁ kb₁₁ ⊢
  have kb11 : KB L s.heap h₁₁ := kb10.trans ((KB.of kD2).trans kb₁₁)
  have s10 : SK h₁₀ h₁₁ := (SK.of kD2).trans sk₁₁
  have sk11 : SK s.heap h₁₁ := sk10.trans s10
  have lF := s10.list lD10
  have lL := sk₁₁.list lD2
  have PP := V.P.step (by omega) (fun v => jsays wh (cOf v))
  have thg : ∀ g ∈ gsOf l', ∀ v ∈ g.2, IsThing v := fun g hg v hv => ⟨_, hth v (PP.th g (gs₉ ▸ hg) v hv)⟩
  have G₁₁ := G₀.keeps S₁₁.F.keep
  have X₁₁ := X.sk sk11
  have lp₁₁ : PartsAt h₁₁ pb l' := (((SK.of kD).trans sk₁₀).trans s10).parts lp₉
  refine wpAny_execs_cons (wpAny_If (wpAny_isTrue_Compare1 (lname S₁₁.F.ns (v := .ref pb) rfl (Call_ (gname G₁₁ (by k_is) (v := .ref 159) ?_)))))
  refine callWith_of (P := fun h => (hd.heap_39 w.params).In h) rfl (fun h X => keeps_K (K := hd.heap_39 w.params) (by k_is) _ X) (evalArgs_plain (args_cons (cname (c := L + 1) rfl (X.c1 ▸ (show h₁₁.IsCell (L + 1) (cv 1) from S₁₁.cell 1 (by decide) (by decide))) (args_cons (cname (c := L + 3) rfl (show h₁₁.IsCell (L + 3) (some (.ref D)) from S₁₁.cell 3 (by decide) (by decide)) (args_nil ⟨G₁₁.X, ?_⟩))))))
  refine wpAny_mono (groups_spec (vs := tv) (us := ys.toList) (ns := up1 (fun v => jsays wh (cOf v)) tv first) G₀ C1 S₁₁.F.keep n147 S₁₁.t1 (hA.mono (by decide)) X₁₁.l1 (fun v hv => ⟨_, hth v hv⟩) (by simpa using lF) iF (by rw [up1_len, lf]) (by rw [up1_len, lf]; exact h2) (by rw [up1_len, lf]; omega)) (fun r s' hr => ?_) fun _ _ z => z.elim
  obtain ⟨⟨h₁₂, tk₁₂, rfl, k₁₂⟩, t₁₂, ga, o, lg, rfl, ho, lp₁₂, gs₁₂⟩ := hr
  dsimp only at k₁₂ t₁₂ lp₁₂ ⊢
  have S₁₂ := S₁₁.but147 n147 t₁₂ k₁₂
  have sk₁₂ := S₁₁.sk (KB.of147 k₁₂)
  have kb12 : KB L s.heap h₁₂ := kb11.trans (KB.of147 k₁₂)
  have sk12 : SK s.heap h₁₂ := sk11.trans sk₁₂
  have un : A.units + 64 < cLine := by have := hA.un; unfold cLine; omega
  have eqg : gsOf lg = gsOf l' := by rw [gs₁₂, gs₉]; exact (V.P.parts (by omega) _ ho).symm
  have hvl' : ∀ g ∈ l', ∀ v ∈ g.vs, IsThing v := fun g hg => thg (g.r, g.vs) (List.mem_map.mpr ⟨g, hg, rfl⟩)
  have hvlg : ∀ g ∈ lg, ∀ v ∈ g.vs, IsThing v := fun g hg => thg (g.r, g.vs) (eqg ▸ List.mem_map.mpr ⟨g, hg, rfl⟩)
  obtain ⟨as1, r1⟩ := (sk₁₂.parts lp₁₁).reads hvl'
  obtain ⟨as2, r2⟩ := lp₁₂.reads hvlg
  refine ne_dataH r1 r2 (shaped_groups thg) (shaped_groups (eqg ▸ thg)) un (wpAny_truthy_bool ?_)
  have e9 : PyData.eqv (.list ((gsOf l').map dG)) (.list ((gsOf lg).map dG)) = true := by
    rw [eqg]; simp only [PyData.eqv]; exact eqv_groups thg
  rw [e9]
  simp only [Bool.not_true, Bool.false_eq_true, if_false]
  refine wpAny_pure ?_
  dsimp only
  have G₁₂ := G₀.keeps S₁₂.F.keep
  have lL₁₂ := sk₁₂.list lL
  have lr₁₂ : h₁₂.IsList rb (row.filter (fun v => jsays wh (cOf v)) ++ row.filter (fun v => !jsays wh (cOf v))).toArray := ((((SK.of kD).trans sk₁₀).trans s10).trans sk₁₂).list lr9
  refine wpAny_execs_cons (wpAny_If (wpAny_isTrue_Compare1 (lname S₁₂.F.ns (v := .ref rb) rfl (comp_over (fun v y => ∃ (j : Nat) (t : Tok), v = .int (j : Nat) t ∧ y = tv.getD j .none) hA.hd rfl (by decide) rfl (by decide) rfl ?_))))
  refine Call_ (gname G₁₂ (by k_is) (v := .ref 152) ?_)
  refine callWith_of (P := fun h => (hd.heap_39 w.params).In h) rfl (fun h X => keeps_K (K := hd.heap_39 w.params) (by k_is) _ X) (evalArgs_plain (args_cons (cname (c := L + 4) rfl (show h₁₂.IsCell (L + 4) (some (.ref D2)) from S₁₂.cell 4 (by decide) (by decide)) (args_nil ⟨G₁₂.X, ?_⟩))))
  refine wpAny_mono (order_spec (vs := ys2.toList) (ns := upL (fun v => jsays wh (cOf v)) tv i last) G₀ C1 S₁₂.F.keep n147 S₁₂.t1 (hA.mono (by decide)) (by simpa using lL₁₂) iL (by rw [upL_len, llq]; exact h2) (by rw [upL_len, llq]; omega)) (fun r s' hr => ?_) fun _ _ z => z.elim
  obtain ⟨⟨h₁₃, tk₁₃, rfl, k₁₃⟩, t₁₃, D3, o2, out, rfl, hD3, ho2, l3, i3⟩ := hr
  dsimp only at k₁₃ t₁₃ l3 ⊢
  have S₁₃ := S₁₂.but147 n147 t₁₃ k₁₃
  have sk₁₃ := S₁₂.sk (KB.of147 k₁₃)
  have kb13 : KB L s.heap h₁₃ := kb12.trans (KB.of147 k₁₃)
  have sk13 : SK s.heap h₁₃ := sk12.trans sk₁₃
  have X₁₃ := X.sk sk13
  have o2l : ∀ j ∈ o2, j < tv.length := fun j hj => by have := List.mem_range.mp (ho2.perm.mem_iff.mp hj); rw [upL_len, llq] at this; exact this
  have outl : out.length = tv.length := by rw [i3.length, List.length_map, ho2.perm.length_eq, List.length_range, upL_len, llq]
  refine ⟨D3, out.toArray, rfl, l3, by simp; omega, fun C v s₃ m₃ hv hns hm hk => ?_, fun D4 h₁₄ tk₁₄ ys4 hD4 l4 p4 k₁₄ => ?_⟩
  · obtain ⟨j, hj, tj, rfl⟩ := ints_nat_mem i3 v (by simpa using hv)
    have hj' := o2l j hj
    have S' := S₁₃.keeps hk
    refine Subscript_ (cname (c := L + 1) rfl (X.c1 ▸ (show s₃.heap.IsCell (L + 1) (cv 1) from S'.cell 1 (by decide) (by decide))) (lname hns hm (item_list (X₁₃.l1.at fun o e => hk _ o e) (by omega) (by omega) (v := tv.getD j .none) ?_ ?_)))
    · rw [List.getD_eq_getElem?_getD]; simp [hj']
    · exact ⟨⟨j, tj, rfl, rfl⟩, _, _, rfl, fun _ _ e => e⟩
  have S₁₄ := S₁₃.keeps k₁₄
  have kb14 : KB L s.heap h₁₄ := kb13.trans (KB.of k₁₄)
  have sk14 : SK s.heap h₁₄ := sk13.trans (SK.of k₁₄)
  have e10 : ys4.toList = row.filter (fun v => jsays wh (cOf v)) ++ row.filter (fun v => !jsays wh (cOf v)) := by
    have hp4 : ys4.toList = o2.map fun j => tv.getD j .none := paired_nat (f := fun j => tv.getD j .none) i3 p4
    rw [hp4]
    exact (PP.rows (by omega) ho2).symm
  have thr : ∀ v ∈ row.filter (fun v => jsays wh (cOf v)) ++ row.filter (fun v => !jsays wh (cOf v)), IsThing v := fun v hv => ⟨_, hth v (PP.row_mem v hv)⟩
  have lr₁₄ := (sk₁₃.trans (SK.of k₁₄)).list lr₁₂
  obtain ⟨oa, hoa, ca, na, da'⟩ := id lr₁₄
  obtain ⟨ob, hob, cb, nb, db⟩ := l4
  have q1 : Reads h₁₄ (.ref rb) (.list ((row.filter (fun v => jsays wh (cOf v)) ++ row.filter (fun v => !jsays wh (cOf v))).map dOf)) _ := Reads.list hoa ca da' (by simpa using readsAll_things thr)
  have q2 : Reads h₁₄ (.ref D4) (.list ((row.filter (fun v => jsays wh (cOf v)) ++ row.filter (fun v => !jsays wh (cOf v))).map dOf)) _ := Reads.list hob cb db (by rw [e10]; exact readsAll_things thr)
  refine ne_dataH q1 q2 (shaped_things thr) (shaped_things thr) un (wpAny_truthy_bool ?_)
  have e11 : PyData.eqv (.list ((row.filter (fun v => jsays wh (cOf v)) ++ row.filter (fun v => !jsays wh (cOf v))).map dOf)) (.list ((row.filter (fun v => jsays wh (cOf v)) ++ row.filter (fun v => !jsays wh (cOf v))).map dOf)) = true := by
    simp only [PyData.eqv]; exact eqv_things thr
  rw [e11]
  simp only [Bool.not_true, Bool.false_eq_true, if_false]
  refine wpAny_pure ?_
  dsimp only
  refine wpAny_pure ⟨rfl, h₁₄, _, rfl, kb14, _, _, S₁₄, ?_⟩
  have s1114 : SK h₁₁ h₁₄ := sk₁₂.trans (sk₁₃.trans (SK.of k₁₄))
  exact ⟨⟨X.md, sk14.list X.ld, X.c1, sk14.list X.l1, X.c2, X.l2.sk sk14, X.c6, sk14.list X.l6⟩, rb, pb, D, D2, _, l', ys.toList, ys2.toList, _, _, ⟨rfl, lr₁₄, rfl, s1114.parts lp₁₁, rfl, by simpa using s1114.list lF, iF, rfl, by simpa using s1114.list lL, iL, gs₉ ▸ PP⟩⟩
end
end Mine
end
section
open PySem PySem.W PyProof.Rows PySem.Calls PySem.Spec PySem.SeqAt
namespace Mine
theorem fill17 : PySem.Challenge.rw_mq0061_01 = PySem.Challenge.rw_mq0061_01 ∧ (hd.heap_39 = hd.heap_39) := by
  k_fill
  exact ⟨rfl, rfl⟩
theorem ints_mem : ∀ {vs : List Value} {ns : List Int}, IntsAre vs ns → ∀ v ∈ vs, ∃ n t, v = .int n t
  | _, _, .cons n t r, v, hv => by
    rcases List.mem_cons.mp hv with rfl | hv
    · exact ⟨n, t, rfl⟩
    · exact ints_mem r v hv
theorem newTuple_k {w : World} {A : Around} {s : Shared} {E : Value → Shared → Prop} {vs : List Value} {Q : Value → Shared → Prop} (h : ∀ T h', IsTup h' T vs.toArray → (∀ b o, s.heap.get? b = some o → h'.get? b = some o) → Q (.ref T) { s with heap := h' }) (hz : vs.length ≤ 100) : wpAny (Mo w) A (newTuple vs) Q E s :=
  wpAny_newObj_type (h _ _ ⟨_, Heap.get?_push_size _ rfl, rfl, _, rfl⟩ fun b o e => Heap.get?_push_of_some _ e) (by show vs.toArray.size ≤ sizeLine; rw [sizeLine_eq]; simp; omega)
theorem newList_k {w : World} {A : Around} {s : Shared} {E : Value → Shared → Prop} {vs : List Value} {Q : Value → Shared → Prop} (h : ∀ T h', h'.IsList T vs.toArray → (∀ b o, s.heap.get? b = some o → h'.get? b = some o) → Q (.ref T) { s with heap := h' }) (hz : vs.length ≤ 100) : wpAny (Mo w) A (newList vs) Q E s :=
  wpAny_newObj_type (h _ _ ⟨_, Heap.get?_push_size _ rfl, rfl, _, rfl⟩ fun b o e => Heap.get?_push_of_some _ e) (by show vs.toArray.size ≤ sizeLine; rw [sizeLine_eq]; simp; omega)
theorem ints_zero {l ys : List Value} (h : Paired (fun (_ : Value) y => ∃ u, y = Value.int 0 u) l ys) : IntsAre ys (List.replicate l.length 0) := by
  have := paired_ints (f := fun _ => (0 : Int)) h
  rwa [List.map_const'] at this
section
variable {w : World} {A : Around} {s : Shared} {E : Value → Shared → Prop} {p : Program} {loose : List Str} {mean : ExcName → Option Value} {mg mb : Str → Option Value} {h₀ : Heap} {L : Addr} {m : Str → Option Value} {cv : Nat → Option Value}
set_option maxRecDepth 100000
set_option maxHeartbeats 8000000
theorem law_main {fd : FuncData} {oc : Value} {od : Option Addr} {sl : Array (Option Value)} {body : List Stmt} {a fa : Addr} {ws : List Value} {ns : List Int}
    (hfd : (hd.heap_39 w.params).lookup 164 = some ⟨oc, od, .func fd, sl⟩) (hb : fd.body = .stmts body)
    (G₀ : Gd w p loose mean mg mb h₀) (C1 : CodeHd h₀ 151 147) (C2 : CodeHd h₀ 163 161) (n147 : h₀.get? 147 = none) (n161 : h₀.get? 161 = none) (S : LawSt h₀ L s.heap m cv) (hA : AOk A 880)
    (hm : m (Str.ofString "script") = some (.ref a)) (hl : s.heap.IsList a ws.toArray) (hi : IntsAre ws ns) (hz : ns.length ≤ 63) :
    wpAny (Mo w) A (execs body (envOfC fd.name fd.scope L fa (.ref 163))) (fun f s' => f = .ret (.bool true) ∧ ∃ h' tk m cv, s' = { s with heap := h', toks := tk } ∧ LawSt h₀ L h' m cv) NoE s := by
  refine' use_at ?h hfd ?g
  case h => k_is
  intro e
  cases e
  cases hb
  dsimp only
  refine wpAny_execs_cons ?_
  have G := G₀.keeps S.F.keep
  refine wpAny_Assign_Name (List_ ?_)
  refine args_cons (gname G (by k_is) (v := .ref 35) ?_)
  refine args_cons (gname G (by k_is) (v := .ref 42) ?_)
  refine args_cons (gname G (by k_is) (v := .ref 49) ?_)
  refine args_cons (gname G (by k_is) (v := .ref 56) ?_)
  refine args_cons (gname G (by k_is) (v := .ref 63) ?_)
  refine args_cons (gname G (by k_is) (v := .ref 126) ?_)
  refine args_cons (gname G (by k_is) (v := .ref 70) ?_)
  refine args_cons (gname G (by k_is) (v := .ref 77) ?_)
  refine args_cons (gname G (by k_is) (v := .ref 84) ?_)
  refine args_cons (gname G (by k_is) (v := .ref 91) ?_)
  refine args_cons (gname G (by k_is) (v := .ref 98) ?_)
  refine args_cons (gname G (by k_is) (v := .ref 105) ?_)
  refine args_cons (gname G (by k_is) (v := .ref 112) ?_)
  refine args_cons (gname G (by k_is) (v := .ref 119) ?_)
  refine args_cons (gname G (by k_is) (v := .ref 133) ?_)
  refine args_nil (wpAny_newObj_type ?_ (by show 15 ≤ sizeLine; decide))
  have k₁ : ∀ b o, s.heap.get? b = some o → (s.heap.push { cls := .type "list", dict := none, data := .seq jvals.toArray }).get? b = some o := fun b o e => Heap.get?_push_of_some _ e
  refine LawSt.stC (i := 6) (S.keeps k₁) (by decide) (by decide) rfl rfl rfl fun h₁ S₁ sk₁ kb₁ => ?_
  have J₁ : h₁.IsList s.heap.objs.size jvals.toArray := sk₁.list ⟨_, Heap.get?_push_size _ rfl, rfl, _, rfl⟩
  have ks₁ := (SK.of k₁).trans sk₁
  generalize s.heap.objs.size = jl at J₁ S₁ ⊢
  have hwz : ws.length = ns.length := hi.length
  refine wpAny_execs_cons (wpAny_Assign_Name (wpAny_BinOp (cut_upto (fun Q' hq => lname S₁.F.ns hm hq) (ks₁.list hl) (by omega) hi (by decide) fun D us h₂ tk₂ lD iD k₂ => ?_)))
  refine List_ (args_cons (lit_int _ fun v1 tk hv1 => args_cons (lit_int _ fun v2 tk hv2 => args_cons (lit_int _ fun v3 tk hv3 => args_cons (lit_int _ fun v4 tk hv4 => args_nil (wpAny_newObj_type ?_ (by show 4 ≤ sizeLine; decide)))))))
  obtain ⟨t1, rfl⟩ : ∃ t, v1 = .int 414 t := by cases hv1 s.heap; exact ⟨_, rfl⟩
  obtain ⟨t2, rfl⟩ : ∃ t, v2 = .int 510 t := by cases hv2 s.heap; exact ⟨_, rfl⟩
  obtain ⟨t3, rfl⟩ : ∃ t, v3 = .int 45 t := by cases hv3 s.heap; exact ⟨_, rfl⟩
  obtain ⟨t4, rfl⟩ : ∃ t, v4 = .int 1208 t := by cases hv4 s.heap; exact ⟨_, rfl⟩
  dsimp only at lD k₂ ⊢
  have k₃ : ∀ b o, h₂.get? b = some o → (h₂.push { cls := .type "list", dict := none, data := .seq [Value.int 414 t1, .int 510 t2, .int 45 t3, .int 1208 t4].toArray }).get? b = some o := fun b o e => Heap.get?_push_of_some _ e
  have hus : us.length ≤ 6 := by rw [iD.length, List.length_take]; exact Nat.min_le_left _ _
  refine add_any (vs := us) (ws := [Value.int 414 t1, .int 510 t2, .int 45 t3, .int 1208 t4]) (lD.at fun o e => k₃ _ o e) ⟨_, Heap.get?_push_size _ rfl, rfl, _, rfl⟩ (fun h₄ l₄ k₄ => ?_) (by rw [sizeLine_eq]; simp; omega)
  have iDr : IntsAre (us ++ [Value.int 414 t1, .int 510 t2, .int 45 t3, .int 1208 t4]) (ns.take (6 : Int).toNat ++ [414, 510, 45, 1208]) := iD.append (.cons _ _ (.cons _ _ (.cons _ _ (.cons _ _ .nil))))
  have hdl : (us ++ [Value.int 414 t1, .int 510 t2, .int 45 t3, .int 1208 t4]).length = us.length + 4 := by simp
  generalize us ++ [Value.int 414 t1, .int 510 t2, .int 45 t3, .int 1208 t4] = dv at l₄ iDr hdl
  generalize ns.take (6 : Int).toNat ++ [414, 510, 45, 1208] = ds at iDr
  refine LawSt.stL (((S₁.keeps k₂).keeps k₃).keeps k₄) rfl rfl rfl fun h₅ S₅ sk₅ k₅ => ?_
  dsimp only at l₄ k₄ S₅ sk₅ k₅ ⊢
  generalize (h₂.push _).objs.size = da at l₄ S₅
  have J₅ : h₅.IsList jl jvals.toArray := ((SK.of k₂).trans ((SK.of k₃).trans ((SK.of k₄).trans sk₅))).list J₁
  have l₅ := sk₅.list l₄
  have G₅ := G₀.keeps S₅.F.keep
  refine wpAny_execs_cons (wpAny_Assign_Name (comp_any (fun v y => ∃ c, ThingV y c) hA.hd (fun Q' hq => lname S₅.F.ns rfl hq) l₅ (by simp; omega) rfl (by decide) rfl (by decide) rfl (fun C v s₃ m₃ hv hns hm hk => ?_) (fun D6 h₆ tk₆ ys hD l₆ p₆ k₆ => ?_)))
  · obtain ⟨x, t, rfl⟩ := ints_mem iDr v (by simpa using hv)
    have G' := G₅.keeps hk
    refine Call_ (gname G' (by k_is) (v := .ref 140) ?_)
    refine callWith_of (P := fun h => (hd.heap_39 w.params).In h) rfl (fun h X => keeps_K (K := hd.heap_39 w.params) (by k_is) _ X) (evalArgs_plain (args_cons (lname hns hm (args_nil ⟨G'.X, ?_⟩))))
    exact thing_spec G' (hA.mono (by decide))
  have hth : ∀ v ∈ ys.toList, ThingV v (cOf v) := fun v hv => by
    obtain ⟨_, c, hc⟩ := p₆.right v hv
    rw [hc.code]; exact hc
  have htl : ys.toList.length = dv.length := by rw [← p₆.length]
  have l₆' : h₆.IsList D6 ys.toList.toArray := by simpa using l₆
  generalize ys.toList = tv at hth htl l₆'
  dsimp only at k₆
  refine LawSt.stC (i := 1) (S₅.keeps k₆) (by decide) (by decide) rfl rfl rfl fun h₇ S₇ sk₇ kb₇ => ?_
  dsimp only at S₇ sk₇ kb₇ ⊢
  have lt₇ := sk₇.list l₆'
  have G₇ := G₀.keeps S₇.F.keep
  refine wpAny_execs_cons (wpAny_Assign_Name (comp_obj (fun v us => IntsAre us.toList (ansOf (cOf v))) hA.hd (fun Q' hq => cname (c := L + 1) rfl (show h₇.IsCell (L + 1) (some (.ref D6)) from S₇.cell 1 (by decide) (by decide)) hq) lt₇ (by simp; omega) rfl (by decide) rfl (by decide) rfl (fun C v s₃ m₃ hv hns hm hk => ?_) (fun D8 h₈ tk₈ zs hD8 l₈ p₈ k₈ => ?_)))
  · have G' := G₇.keeps hk
    refine Call_ (gname G' (by k_is) (v := .ref 145) ?_)
    refine callWith_of (P := fun h => (hd.heap_39 w.params).In h) rfl (fun h X => keeps_K (K := hd.heap_39 w.params) (by k_is) _ X) (evalArgs_plain (args_cons (lname hns hm (args_nil ⟨G'.X, ?_⟩))))
    refine wpAny_mono (answers_spec G' (hA.mono (by decide)) (hth v (by simpa using hv))) (fun r s' hr => ?_) fun _ _ z => z
    obtain ⟨⟨a, its, e1, ⟨e2, e3⟩, e4⟩, hk'⟩ := hr
    exact ⟨⟨a, its, e1, e2, e3, e4⟩, hk'⟩
  dsimp only at k₈
  refine LawSt.stC (i := 2) (S₇.keeps k₈) (by decide) (by decide) rfl rfl rfl fun h₉ S₉ sk₉ kb₉ => ?_
  dsimp only at S₉ sk₉ kb₉ ⊢
  have TA₉ : TabAt h₉ D8 tv := TabAt.sk (h := h₈) ⟨zs.toList, by simpa using l₈, p₈⟩ sk₉
  refine wpAny_execs_cons (wpAny_Assign_Name (cname (c := L + 1) rfl (show h₉.IsCell (L + 1) (some (.ref D6)) from S₉.cell 1 (by decide) (by decide)) ?_))
  refine LawSt.stL S₉ rfl rfl rfl fun h₁₀ S₁₀ sk₁₀ k₁₀ => ?_
  dsimp only at S₁₀ sk₁₀ k₁₀ ⊢
  have lt₁₀ : h₁₀.IsList D6 tv.toArray := ((SK.of k₈).trans (sk₉.trans sk₁₀)).list lt₇
  refine wpAny_execs_cons (wpAny_Assign_Name (List_ (args_cons (Tuple_ (args_cons (lit_int _ fun v1 tk hv1 => args_cons (cname (c := L + 1) rfl (show h₁₀.IsCell (L + 1) (some (.ref D6)) from S₁₀.cell 1 (by decide) (by decide)) (args_nil (newTuple_k (fun T1 g1 T1t q1 => ?_) (by simp))))))))))
  refine args_cons (Tuple_ (args_cons (lit_int _ fun v2 tk' hv2 => args_cons (List_ (args_nil (newList_k (fun E1 g2 E1l q2 => args_nil (newTuple_k (fun T2 g3 T2t q3 => args_nil (newList_k (fun pa g4 pal q4 => ?_) (by simp))) (by simp))) (by simp)))))))
  obtain ⟨u1, rfl⟩ : ∃ t, v1 = .int 0 t := by cases hv1 s.heap; exact ⟨_, rfl⟩
  obtain ⟨u2, rfl⟩ : ∃ t, v2 = .int 0 t := by cases hv2 s.heap; exact ⟨_, rfl⟩
  dsimp only at q1 q2 q3 q4 ⊢
  have q : ∀ b o, h₁₀.get? b = some o → g4.get? b = some o := fun b o e => q4 b o (q3 b o (q2 b o (q1 b o e)))
  have PA : PartsAt g4 pa [⟨T1, D6, 0, u1, tv⟩, ⟨T2, E1, 0, u2, []⟩] := by
    refine ⟨pal, fun g hg => ?_⟩
    simp only [List.mem_cons, List.not_mem_nil, or_false] at hg
    rcases hg with rfl | rfl
    · exact ⟨T1t.keeps fun b o e => q4 b o (q3 b o (q2 b o e)), lt₁₀.at fun o e => q _ o e⟩
    · exact ⟨T2t.keeps q4, E1l.at fun o e => q4 _ o (q3 _ o e)⟩
  refine LawSt.stL (S₁₀.keeps q) rfl rfl rfl fun h₁₁ S₁₁ sk₁₁ k₁₁ => ?_
  dsimp only at S₁₁ sk₁₁ k₁₁ ⊢
  have s1 : SK h₅ h₁₁ := (SK.of k₆).trans (sk₇.trans ((SK.of k₈).trans (sk₉.trans (sk₁₀.trans ((SK.of q).trans sk₁₁)))))
  have s2 : SK h₉ h₁₁ := sk₁₀.trans ((SK.of q).trans sk₁₁)
  have PA₁₁ := sk₁₁.parts PA
  have lt₁₁ := ((SK.of q).trans sk₁₁).list lt₁₀
  refine wpAny_execs_cons (wpAny_Assign_Name (comp_any (fun _ y => ∃ u, y = .int 0 u) hA.hd (fun Q' hq => lname S₁₁.F.ns rfl hq) (s1.list l₅) (by simp; omega) rfl (by decide) rfl (by decide) rfl (fun C v s₃ m₃ hv hns hm hk => lit_int _ fun v tk hv => ?_) (fun F1 h₁₂ tk₁₂ fs hF1 lF pF k₁₂ => ?_)))
  · obtain ⟨u, rfl⟩ : ∃ t, v = .int 0 t := by cases hv s.heap; exact ⟨_, rfl⟩
    exact ⟨⟨_, rfl⟩, _, _, rfl, fun _ _ e => e⟩
  dsimp only at k₁₂
  refine LawSt.stC (i := 3) (S₁₁.keeps k₁₂) (by decide) (by decide) rfl rfl rfl fun h₁₃ S₁₃ sk₁₃ kb₁₃ => ?_
  dsimp only at S₁₃ sk₁₃ kb₁₃ ⊢
  have s3 : SK h₁₁ h₁₃ := (SK.of k₁₂).trans sk₁₃
  refine wpAny_execs_cons (wpAny_Assign_Name (comp_any (fun _ y => ∃ u, y = .int 0 u) hA.hd (fun Q' hq => lname S₁₃.F.ns rfl hq) ((s1.trans s3).list l₅) (by simp; omega) rfl (by decide) rfl (by decide) rfl (fun C v s₃ m₃ hv hns hm hk => lit_int _ fun v tk hv => ?_) (fun L1 h₁₄ tk₁₄ lls hL1 lL pL k₁₄ => ?_)))
  · obtain ⟨u, rfl⟩ : ∃ t, v = .int 0 t := by cases hv s.heap; exact ⟨_, rfl⟩
    exact ⟨⟨_, rfl⟩, _, _, rfl, fun _ _ e => e⟩
  dsimp only at k₁₄
  refine LawSt.stC (i := 4) (S₁₃.keeps k₁₄) (by decide) (by decide) rfl rfl rfl fun h₁₅ S₁₅ sk₁₅ kb₁₅ => ?_
  dsimp only at S₁₅ sk₁₅ kb₁₅ ⊢
  have s4 : SK h₁₃ h₁₅ := (SK.of k₁₄).trans sk₁₅
  have s5 : SK h₁₁ h₁₅ := s3.trans s4
  have iF := ints_zero pF
  have iL := ints_zero pL
  have edl : dv.toArray.toList.length = tv.length := by simpa using htl.symm
  rw [edl] at iF iL
  refine wpAny_execs_cons (law_for (n := tv.length) (Pay da D6 D8 jl dv tv) S₁₅ ?_ hA.hd (by omega) (fun i m cv h h' x k => x.sk k) (fun Q' hQ => ?_) rfl rfl rfl (fun i t s' m' cv' hi hs' S' p' => ?_) (fun h' tk m' cv' S' p' => ?_))
  · exact ⟨⟨rfl, (s1.trans s5).list l₅, rfl, s5.list lt₁₁, rfl, TA₉.sk (s2.trans s5), rfl, (s1.trans s5).list J₅⟩, D6, pa, F1, L1, tv, _, fs.toList, lls.toList, _, _, ⟨rfl, s5.list lt₁₁, rfl, s5.parts PA₁₁, rfl, by simpa using (sk₁₃.trans s4).list lF, iF, rfl, by simpa using sk₁₅.list lL, iL, Pur.zero (by omega) (by omega)⟩⟩
  · exact range_len (G₀.keeps S₁₅.F.keep) ((s1.trans s5).list l₅) (by simp; omega) (fun Q'' hq => lname S₁₅.F.ns rfl hq) fun r h' tk t u v hr hk hr' => hQ r h' tk t u v (by rw [← edl]; simpa using hr) hk hr'
  · exact law_turn hfd rfl G₀ C1 C2 n147 n161 hA iDr (by omega) (by omega) (by omega) hth hi S' p'
  dsimp only
  exact wpAny_execs_cons (wpAny_Return_some (wpAny_Constant_bool ⟨rfl, h', tk, m', cv', rfl, S'⟩))
end
end Mine
end
section
open PySem PySem.W PyProof.Rows PySem.Calls
namespace Mine
theorem law_main' {w : World} {A : Around} {s : Shared} {p : Program} {loose : List Str} {mean : ExcName → Option Value} {mg mb : Str → Option Value} {h₀ : Heap} {L : Addr} {m : Str → Option Value} {cv : Nat → Option Value} {fd : FuncData} {oc : Value} {od : Option Addr} {sl : Array (Option Value)} {body : List Stmt} {nm : Str} {sc : Scope} {a fa : Addr} {ws : List Value} {ns : List Int}
    (hfd : (hd.heap_39 w.params).lookup 164 = some ⟨oc, od, .func fd, sl⟩) (hb : fd.body = .stmts body) (hn : fd.name = nm) (hs : fd.scope = sc)
    (G₀ : Gd w p loose mean mg mb h₀) (C1 : CodeHd h₀ 151 147) (C2 : CodeHd h₀ 163 161) (n147 : h₀.get? 147 = none) (n161 : h₀.get? 161 = none) (S : LawSt h₀ L s.heap m cv) (hA : AOk A 880)
    (hm : m (Str.ofString "script") = some (.ref a)) (hl : s.heap.IsList a ws.toArray) (hi : IntsAre ws ns) (hz : ns.length ≤ 63) :
    wpAny (Mo w) A (execs body (envOfC nm sc L fa (.ref 163))) (fun f s' => f = .ret (.bool true) ∧ ∃ h' tk m cv, s' = { s with heap := h', toks := tk } ∧ LawSt h₀ L h' m cv) NoE s := by
  subst hn hs
  exact law_main hfd hb G₀ C1 C2 n147 n161 S hA hm hl hi hz
theorem lawSt0 {h₀ h : Heap} {L : Addr} {m : Str → Option Value} {w0 w1 w2 w3 w4 w5 w6 : Obj} (F : Fr h₀ L h m)
    (N : News h₀ L h [(L + 1 + 1 + 1 + 1 + 1 + 1 + 1, w6), (L + 1 + 1 + 1 + 1 + 1 + 1, w5), (L + 1 + 1 + 1 + 1 + 1, w4), (L + 1 + 1 + 1 + 1, w3), (L + 1 + 1 + 1, w2), (L + 1 + 1, w1), (L + 1, w0), (147, tabObj #[]), (161, tabObj #[])])
    (d6 : w6.data = .cell none) (d5 : w5.data = .cell none) (d4 : w4.data = .cell none) (d3 : w3.data = .cell none) (d2 : w2.data = .cell none) (d1 : w1.data = .cell none) (d0 : w0.data = .cell none) :
    LawSt h₀ L h m (fun _ => none) ∧ h₀.get? 147 = none ∧ h₀.get? 161 = none := by
  have g : ∀ a o, (a, o) ∈ [(L + 1 + 1 + 1 + 1 + 1 + 1 + 1, w6), (L + 1 + 1 + 1 + 1 + 1 + 1, w5), (L + 1 + 1 + 1 + 1 + 1, w4), (L + 1 + 1 + 1 + 1, w3), (L + 1 + 1 + 1, w2), (L + 1 + 1, w1), (L + 1, w0), (147, tabObj #[]), (161, tabObj #[])] → h.get? a = some o ∧ h₀.get? a = none := fun a o hm => ⟨(N _ hm).1, (N _ hm).2.2⟩
  have g147 := g 147 (tabObj #[]) (by simp)
  have g161 := g 161 (tabObj #[]) (by simp)
  refine ⟨⟨F, ?_, .inl g147.1, .inl g161.1⟩, g147.2, g161.2⟩
  show ∀ i : Nat, 1 ≤ i → i ≤ 7 → h.IsCell (L + i) none
  intro i h1 h7
  rcases (by omega : i = 1 ∨ i = 2 ∨ i = 3 ∨ i = 4 ∨ i = 5 ∨ i = 6 ∨ i = 7) with rfl | rfl | rfl | rfl | rfl | rfl | rfl
  · exact ⟨w0, (g _ _ (by simp)).1, d0⟩
  · exact ⟨w1, (g (L + 1 + 1) _ (by simp)).1, d1⟩
  · exact ⟨w2, (g (L + 1 + 1 + 1) _ (by simp)).1, d2⟩
  · exact ⟨w3, (g (L + 1 + 1 + 1 + 1) _ (by simp)).1, d3⟩
  · exact ⟨w4, (g (L + 1 + 1 + 1 + 1 + 1) _ (by simp)).1, d4⟩
  · exact ⟨w5, (g (L + 1 + 1 + 1 + 1 + 1 + 1) _ (by simp)).1, d5⟩
  · exact ⟨w6, (g (L + 1 + 1 + 1 + 1 + 1 + 1 + 1) _ (by simp)).1, d6⟩
set_option maxRecDepth 100000 in
set_option maxHeartbeats 8000000 in
theorem top_holds : PySem.Challenge.rw_mq0061_01.Holds := hd (by
  w_strict (k_go0
            rename Fr _ _ _ _ => F'
            rename News _ _ _ _ => N'
            rename Frag.In _ _ => X'
            rename Top _ _ _ _ _ (ghostOf _ _) => T'
            rename Heap.IsList (ghostOf _ _) _ _ => lifted
            rename CodeHd _ _ _ => C2
            revert C2
            rename CodeHd _ _ _ => C1
            intro C2
            obtain ⟨S, n147, n161⟩ := lawSt0 F' N' (by assumption) (by assumption) (by assumption) (by assumption) (by assumption) (by assumption) (by assumption)
            have lifted' := lifted.at fun o e => F'.keep _ o e
            rename IntsAre _ _ => hI
            refine' wpAny_mono (law_main' (A := callerA.deeper _) ?hfd ?hb ?hn ?hs ⟨X', T'⟩ C1 C2 n147 n161 S ?hA rfl lifted' hI ?hz) ?hr ?he
            case hfd => k_is
            case hb => rfl
            case hn => rfl
            case hs => rfl
            case hA => exact (AOk.deeper (d := 870) ⟨by decide, by decide, rfl⟩ _).mono (by decide)
            case hz => omega
            case he => exact fun _ _ z => z.elim
            case hr =>
              intro f s' hr
              obtain ⟨ef, h', tk, m', cv', es, S'⟩ := hr
              cases ef
              cases es
              have gr : GrownAll [(151, 147), (163, 161)] h' := by
                refine ⟨?_, ?_, trivial⟩
                · rcases S'.t1 with q | ⟨c, q, _⟩
                  · exact ⟨_, q⟩
                  · exact ⟨_, q⟩
                · rcases S'.t2 with q | ⟨c, q, _⟩
                  · exact ⟨_, q⟩
                  · exact ⟨_, q⟩
              refine ⟨⟨.inl ⟨.bool true, .bool true, [], rfl, fun _ => rfl, ReadsW.bool _, ?_, fun _ => ⟨List.nodup_nil, fun _ q => by cases q⟩⟩, fun b o e => S'.F.keep b o e, rfl, ?_⟩, gr⟩
              · wrow_post
              · assumption))
end Mine
end
theorem PySem.Challenge.cw_mq0061_01_holds : PySem.Challenge.rw_mq0061_01.Holds :=
  Mine.top_holds
