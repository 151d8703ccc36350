import PyProof.Rows.All
import Wide.All
import OpenK.AllK
import Wide.FinOn
import PySem.Challenge.RW_pk0020_01
set_option Elab.async false
set_option maxRecDepth 100000
set_option linter.unusedSimpArgs false
set_option linter.unusedVariables false

section
open PySem PySem.W PyProof.Rows
namespace Mine
set_option maxRecDepth 100000 in
set_option maxHeartbeats 8000000 in
open_top hd for PySem.Challenge.rw_pk0020_01
end Mine
end

section
open PySem PySem.W PySem.Calls PyProof.Rows
namespace Mine
theorem fillK : Challenge.rw_pk0020_01 = Challenge.rw_pk0020_01 ∧ hd.heap_39 = hd.heap_39 := by k_fill; exact ⟨rfl, rfl⟩


theorem enter {prog : Program} {w : World} {A : Around} {s : Shared} {K : Frag} {E : Value → Shared → Prop} {Q : Value → Shared → Prop}
    {name qual : Str} {params : Arguments} {body : List Stmt} {scope : Scope} {dV kV doc pm cdv ct oc : Value} {an od : Option Addr} {osl : Array (Option Value)} {f : Addr} {vals : List Value} {binds : List (Str × Value)}
    (X : K.In s.heap) (hl : s.heap.NoLimit) (hroom : A.depth < recursionLimit)
    (ho : K.lookup f = some ⟨oc, od, .func (fnOf name qual params body scope dV kV doc pm an cdv ct), osl⟩) (hcd : codeIn K cdv qual = true)
    (hbind : bindArgs (fnOf name qual params body scope dV kV doc pm an cdv ct) ⟨vals, []⟩ = pure binds) (hloc : ∀ y ∈ binds, scope.names.lookup y.1 = some .local)
    (hcell : ∀ x ∈ scope.names, x.2 ≠ .cell) (hco : scope.isCoroutine = false) (hgen : scope.isGenerator = false) (hk : scope.kind = .function)
    (h : ∀ L h₁, Fr s.heap L h₁ (fun y => binds.reverse.lookup y) → News s.heap L h₁ [] →
      wpAny (model prog w) (A.deeper (envOf qual scope L f cdv)) (execs body (envOf qual scope L f cdv))
        (fun fl s' => Q (match fl with | .ret v => v | _ => .none) s') (fun _ _ => False)
        { s with heap := h₁, toks := s.toks + binds.length }) :
    wpAny (model prog w) A (call (.ref f) vals) Q E s := by
  refine wpAny_call (codeAny_call_def (fd := fnOf name qual params body scope dV kV doc pm an cdv ct) (body := body) (binds := binds) hroom (X _ _ ho) rfl hl (codeRec_of X hcd) rfl (BindsTo.of_eq hbind) hcell hloc (fun h₁ hns hk₁ => ?_) hco hgen hk)
  exact wpAny_mono (h s.heap.objs.size h₁ ⟨hns, hk₁, Nat.le_refl _⟩ News.nil) (fun fl s' q => q) fun _ _ q => q.elim

/-- the ground: the text's own objects and the top's names -/
structure Gd (w : World) (h : Heap) : Prop where
  X : (hd.heap_39 w.params).In h
  T : ∃ p loose mg mb, TopRead p loose mg mb h

/-- what a call of the def at f gives: it makes new objects alone -/
def Spec (w : World) (f : Addr) (d : Nat) (Pre : Heap → Prop) (vals : List Value) (Post : Heap → Heap → Value → Prop) : Prop :=
  ∀ (prog : Program) (A : Around) (s : Shared) (E Q : Value → Shared → Prop), Gd w s.heap → A.handled = none → A.depth + d < recursionLimit → A.units + 10 * d < 9000 → Pre s.heap →
    (∀ v h' tk, Heap.StaysIn s.heap h' → Post s.heap h' v → Q v { s with heap := h', toks := tk }) → wpAny (model prog w) A (call (.ref f) vals) Q E s

theorem Spec.use {w : World} {f : Addr} {d : Nat} {Pre : Heap → Prop} {vals : List Value} {Post : Heap → Heap → Value → Prop} (S : Spec w f d Pre vals Post)
    {prog : Program} {A : Around} {s : Shared} {E Q : Value → Shared → Prop} {h₀ : Heap} {L : Addr} {m : Str → Option Value} {news : List (Addr × Obj)} {p : Program} {loose : List Str} {mg mb : Str → Option Value}
    (F : Fr h₀ L s.heap m) (N : News h₀ L s.heap news) (X : (hd.heap_39 w.params).In h₀) (T : TopRead p loose mg mb h₀) (hh : A.handled = none) (hd : A.depth + d < recursionLimit) (hu : A.units + 10 * d < 9000) (hp : Pre s.heap)
    (h : ∀ v h' tk, Post s.heap h' v → Heap.StaysIn s.heap h' → Fr h₀ L h' m → News h₀ L h' news → Q v { s with heap := h', toks := tk }) : wpAny (model prog w) A (call (.ref f) vals) Q E s :=
  S prog A s E Q ⟨X.keeps F.keep, _, _, _, _, T.keeps F.keep⟩ hh hd hu hp fun v h' tk st q => h v h' tk q st (F.after st) fun p hp => ⟨st _ _ (N p hp).1, (N p hp).2⟩

/-- a sign or an octet, and its code -/
inductive Sg : Value → Int → Prop
  | int (i : Int) (t : Tok) : Sg (.int i t) i
  | chr (n : Nat) (t : Tok) : Sg (.str ⟨#[n]⟩ t) n

theorem ctoi_spec (w : World) {v : Value} {c : Int} (hv : Sg v c) : Spec w 74 1 (fun _ => True) [v] (fun _ _ r => ∃ t, r = .int c t) := by
  intro prog A s E Q ⟨X, p, loose, mg, mb, T⟩ hh hd hu _ h
  k_dflt (refine enter X T.nolimit (by omega) (by k_is) (by k_is) rfl (locs rfl) (by decide) rfl rfl rfl ?_)
  intro L' h' F' N'
  cases hv with
  | int i t => 
    try dsimp only
    k_steps
    all_goals (dsimp only; exact h _ _ _ F'.keep ⟨_, rfl⟩)
  | chr n t =>
    try dsimp only
    k_steps
    all_goals (dsimp only; exact h _ _ _ F'.keep ⟨_, rfl⟩)
end Mine
end

section
open PySem PySem.W PySem.Calls PyProof.Rows
namespace Mine

/- a call by its spec: tb_start tells the sign, tb_rel the spec -/
local macro_rules | `(tactic| tb_start) => `(tactic| first | assumption | exact Sg.int _ _ | exact Sg.chr _ _)
local macro_rules | `(tactic| tb_rel) => `(tactic| first | exact ctoi_spec _ (by tb_start))
local macro_rules | `(tactic| ktr_room) => `(tactic| (simp only [depth_deeper]; omega))
local macro_rules | `(tactic| ktr_units) => `(tactic| (simp only [units_deeper]; omega))
local macro_rules | `(tactic| walk_at "call ref") => `(tactic| ((with_reducible show wpAny _ _ (call (Value.ref 74) _) _ _ _); (with_reducible refine Spec.use (ctoi_spec _ (by tb_start)) (by k_asm) (by k_asm) (by k_asm) (by k_asm) ?kh ?kd ?ku trivial ?_); (case kh => assumption); (case kd => ktr_room); (case ku => ktr_units); intro v' h' tk' hp' hs' F' N'; (obtain ⟨t', e'⟩ := hp'); (subst e'); (clear hs'); (try dsimp only); (try k_sweep)))
/- a def's end -/
local macro_rules | `(tactic| ktr_rel) => `(tactic| (dsimp only; (refine tb_end _ _ _ (Fr.keep (by assumption)) ?_); refine congrArg Value.bool ?_; rw [Bool.eq_iff_iff]; simp only [decide_eq_true_eq, beq_iff_eq, Bool.not_eq_true', decide_eq_false_iff_not]; omega))

theorem iscntrl_spec (w : World) {v : Value} {c : Int} (hv : Sg v c) : Spec w 95 2 (fun _ => True) [v] (fun _ _ r => r = .bool (decide ((0 ≤ c ∧ c ≤ 31) ∨ c = 127))) := by
  intro prog A s E Q ⟨X, p, loose, mg, mb, T⟩ hh hd hu _ h
  k_dflt (refine enter X T.nolimit (by omega) (by k_is) (by k_is) rfl (locs rfl) (by decide) rfl rfl rfl ?_)
  intro L' h' F' N'
  try dsimp only
  k_steps
  all_goals ((try dsimp only); refine h _ _ _ (Fr.keep (by assumption)) (congrArg Value.bool (Bool.eq_iff_iff.mpr ?_)); simp only [decide_eq_true_eq, beq_iff_eq]; omega)

theorem isdigit_spec (w : World) {v : Value} {c : Int} (hv : Sg v c) : Spec w 102 2 (fun _ => True) [v] (fun _ _ r => r = .bool (decide (48 ≤ c ∧ c ≤ 57))) := by
  intro prog A s E Q ⟨X, p, loose, mg, mb, T⟩ hh hd hu _ h
  k_dflt (refine enter X T.nolimit (by omega) (by k_is) (by k_is) rfl (locs rfl) (by decide) rfl rfl rfl ?_)
  intro L' h' F' N'
  try dsimp only
  k_steps
  all_goals ((try dsimp only); refine h _ _ _ (Fr.keep (by assumption)) (congrArg Value.bool (Bool.eq_iff_iff.mpr ?_)); simp only [decide_eq_true_eq, beq_iff_eq]; omega)

theorem isgraph_spec (w : World) {v : Value} {c : Int} (hv : Sg v c) : Spec w 109 2 (fun _ => True) [v] (fun _ _ r => r = .bool (decide (33 ≤ c ∧ c ≤ 126))) := by
  intro prog A s E Q ⟨X, p, loose, mg, mb, T⟩ hh hd hu _ h
  k_dflt (refine enter X T.nolimit (by omega) (by k_is) (by k_is) rfl (locs rfl) (by decide) rfl rfl rfl ?_)
  intro L' h' F' N'
  try dsimp only
  k_steps
  all_goals ((try dsimp only); refine h _ _ _ (Fr.keep (by assumption)) (congrArg Value.bool (Bool.eq_iff_iff.mpr ?_)); simp only [decide_eq_true_eq, beq_iff_eq]; omega)

theorem islower_spec (w : World) {v : Value} {c : Int} (hv : Sg v c) : Spec w 116 2 (fun _ => True) [v] (fun _ _ r => r = .bool (decide (97 ≤ c ∧ c ≤ 122))) := by
  intro prog A s E Q ⟨X, p, loose, mg, mb, T⟩ hh hd hu _ h
  k_dflt (refine enter X T.nolimit (by omega) (by k_is) (by k_is) rfl (locs rfl) (by decide) rfl rfl rfl ?_)
  intro L' h' F' N'
  try dsimp only
  k_steps
  all_goals ((try dsimp only); refine h _ _ _ (Fr.keep (by assumption)) (congrArg Value.bool (Bool.eq_iff_iff.mpr ?_)); simp only [decide_eq_true_eq, beq_iff_eq]; omega)

theorem isupper_spec (w : World) {v : Value} {c : Int} (hv : Sg v c) : Spec w 130 2 (fun _ => True) [v] (fun _ _ r => r = .bool (decide (65 ≤ c ∧ c ≤ 90))) := by
  intro prog A s E Q ⟨X, p, loose, mg, mb, T⟩ hh hd hu _ h
  k_dflt (refine enter X T.nolimit (by omega) (by k_is) (by k_is) rfl (locs rfl) (by decide) rfl rfl rfl ?_)
  intro L' h' F' N'
  try dsimp only
  k_steps
  all_goals ((try dsimp only); refine h _ _ _ (Fr.keep (by assumption)) (congrArg Value.bool (Bool.eq_iff_iff.mpr ?_)); simp only [decide_eq_true_eq, beq_iff_eq]; omega)

local macro_rules | `(tactic| walk_at "call ref") => `(tactic| ((first | (with_reducible show wpAny _ _ (call (Value.ref 102) _) _ _ _) | (with_reducible show wpAny _ _ (call (Value.ref 109) _) _ _ _) | (with_reducible show wpAny _ _ (call (Value.ref 116) _) _ _ _) | (with_reducible show wpAny _ _ (call (Value.ref 130) _) _ _ _)); (with_reducible refine Spec.use (by first | exact isdigit_spec _ (by tb_start) | exact isgraph_spec _ (by tb_start) | exact islower_spec _ (by tb_start) | exact isupper_spec _ (by tb_start)) (by k_asm) (by k_asm) (by k_asm) (by k_asm) ?kh ?kd ?ku trivial ?_); (case kh => assumption); (case kd => ktr_room); (case ku => ktr_units); intro v' h' tk' hp' hs' F' N'; (subst hp'); (clear hs'); (try dsimp only); (try k_sweep)))

theorem isalpha_spec (w : World) {v : Value} {c : Int} (hv : Sg v c) : Spec w 88 3 (fun _ => True) [v] (fun _ _ r => r = .bool (decide ((65 ≤ c ∧ c ≤ 90) ∨ (97 ≤ c ∧ c ≤ 122)))) := by
  intro prog A s E Q ⟨X, p, loose, mg, mb, T⟩ hh hd hu _ h
  k_dflt (refine enter X T.nolimit (by omega) (by k_is) (by k_is) rfl (locs rfl) (by decide) rfl rfl rfl ?_)
  intro L' h' F' N'
  try dsimp only
  k_steps
  all_goals ((try dsimp only); refine h _ _ _ (Fr.keep (by assumption)) (congrArg Value.bool (Bool.eq_iff_iff.mpr ?_)); simp only [decide_eq_true_eq, beq_iff_eq, Bool.not_eq_true', decide_eq_false_iff_not]; omega)

local macro_rules | `(tactic| walk_at "call ref") => `(tactic| ((first | (with_reducible show wpAny _ _ (call (Value.ref 88) _) _ _ _)); (with_reducible refine Spec.use (by first | exact isalpha_spec _ (by tb_start)) (by k_asm) (by k_asm) (by k_asm) (by k_asm) ?kh ?kd ?ku trivial ?_); (case kh => assumption); (case kd => ktr_room); (case ku => ktr_units); intro v' h' tk' hp' hs' F' N'; (subst hp'); (clear hs'); (try dsimp only); (try k_sweep)))

theorem isalnum_spec (w : World) {v : Value} {c : Int} (hv : Sg v c) : Spec w 81 4 (fun _ => True) [v] (fun _ _ r => r = .bool (decide ((65 ≤ c ∧ c ≤ 90) ∨ (97 ≤ c ∧ c ≤ 122) ∨ (48 ≤ c ∧ c ≤ 57)))) := by
  intro prog A s E Q ⟨X, p, loose, mg, mb, T⟩ hh hd hu _ h
  k_dflt (refine enter X T.nolimit (by omega) (by k_is) (by k_is) rfl (locs rfl) (by decide) rfl rfl rfl ?_)
  intro L' h' F' N'
  try dsimp only
  k_steps
  all_goals ((try dsimp only); refine h _ _ _ (Fr.keep (by assumption)) (congrArg Value.bool (Bool.eq_iff_iff.mpr ?_)); simp only [decide_eq_true_eq, beq_iff_eq, Bool.not_eq_true', decide_eq_false_iff_not]; omega)

local macro_rules | `(tactic| walk_at "call ref") => `(tactic| ((first | (with_reducible show wpAny _ _ (call (Value.ref 81) _) _ _ _)); (with_reducible refine Spec.use (by first | exact isalnum_spec _ (by tb_start)) (by k_asm) (by k_asm) (by k_asm) (by k_asm) ?kh ?kd ?ku trivial ?_); (case kh => assumption); (case kd => ktr_room); (case ku => ktr_units); intro v' h' tk' hp' hs' F' N'; (subst hp'); (clear hs'); (try dsimp only); (try k_sweep)))

theorem ispunct_spec (w : World) {v : Value} {c : Int} (hv : Sg v c) : Spec w 123 5 (fun _ => True) [v] (fun _ _ r => r = .bool (decide ((33 ≤ c ∧ c ≤ 126) ∧ ¬ ((65 ≤ c ∧ c ≤ 90) ∨ (97 ≤ c ∧ c ≤ 122) ∨ (48 ≤ c ∧ c ≤ 57))))) := by
  intro prog A s E Q ⟨X, p, loose, mg, mb, T⟩ hh hd hu _ h
  k_dflt (refine enter X T.nolimit (by omega) (by k_is) (by k_is) rfl (locs rfl) (by decide) rfl rfl rfl ?_)
  intro L' h' F' N'
  try dsimp only
  k_steps
  all_goals ((try dsimp only); refine h _ _ _ (Fr.keep (by assumption)) (congrArg Value.bool (Bool.eq_iff_iff.mpr ?_)); simp only [decide_eq_true_eq, beq_iff_eq, Bool.not_eq_true', decide_eq_false_iff_not]; omega)


def altI (i : Int) : Int := if i / 128 % 2 = 1 then i else i + 128
def altN (n : Nat) : Nat := if n / 128 % 2 = 1 then n else n + 128
theorem bitOr128 (i : Int) : Builtin.bitOr i 128 = altI i := by
  have h := kbt_bit i 7
  have e : (2 : Int) ^ 7 = 128 := by decide
  rw [e] at h
  rw [bitOr_and, h, altI]
  split <;> omega
theorem altI_nat (n : Nat) : altI n = (altN n : Nat) := by
  unfold altI altN
  split <;> split <;> omega
theorem chr_and {prog : Program} {w : World} {A : Around} {s : Shared} {E Q : Value → Shared → Prop} {n : Nat} {t : Tok} (h : Q (.str ⟨#[n % 32]⟩ s.toks) { s with toks := s.toks + 1 }) :
    wpAny (model prog w) A (call (.builtin "chr") [.int (Builtin.bitAnd (n : Int) 31) t]) Q E s := by
  rw [bitAnd_m5]
  refine chr_of_range (by omega) (by omega) ?_
  have e : ((n : Int) % 32).toNat = n % 32 := by omega
  rw [e]; exact h
theorem chr_or {prog : Program} {w : World} {A : Around} {s : Shared} {E Q : Value → Shared → Prop} {n : Nat} {t : Tok} (hn : n < 1000000) (h : Q (.str ⟨#[altN n]⟩ s.toks) { s with toks := s.toks + 1 }) :
    wpAny (model prog w) A (call (.builtin "chr") [.int (Builtin.bitOr (n : Int) 128) t]) Q E s := by
  rw [bitOr128, altI_nat]
  have : altN n ≤ n + 128 := by unfold altN; split <;> omega
  exact chr_of_range (by omega) (by omega) h
local macro_rules | `(tactic| walk_at "call builtin:chr") => `(tactic| first | refine chr_and ?_ | refine chr_or (by assumption) ?_)

def isMark (n : Nat) : Bool := decide ((33 ≤ n ∧ n ≤ 126) ∧ ¬ ((65 ≤ n ∧ n ≤ 90) ∨ (97 ≤ n ∧ n ≤ 122) ∨ (48 ≤ n ∧ n ≤ 57)))
def kindN (n : Nat) : Nat := if n < 32 ∨ n = 127 then 0 else if isMark n = true then 1 else 2
theorem mark_in (n : Nat) : n ∈ (Str.ofString "!\"#$%&'()*+,-./:;<=>?\x40[\\]^_`{|}~").cps.toList ↔ isMark n = true := by
  have e : (Str.ofString "!\"#$%&'()*+,-./:;<=>?\x40[\\]^_`{|}~").cps.toList = [33, 34, 35, 36, 37, 38, 39, 40, 41, 42, 43, 44, 45, 46, 47, 58, 59, 60, 61, 62, 63, 64, 91, 92, 93, 94, 95, 96, 123, 124, 125, 126] := by decide +kernel
  rw [e]
  simp only [List.mem_cons, List.not_mem_nil, or_false, isMark, decide_eq_true_eq]
  omega
theorem mark_occ (n : Nat) : (Builtin.Str.occurrences (Str.ofString "!\"#$%&'()*+,-./:;<=>?\x40[\\]^_`{|}~") ⟨#[n]⟩ 0 (Str.length (Str.ofString "!\"#$%&'()*+,-./:;<=>?\x40[\\]^_`{|}~")) 1).isEmpty = !isMark n := by
  have h := StrLaws.found_one (Str.ofString "!\"#$%&'()*+,-./:;<=>?\x40[\\]^_`{|}~") n
  have h3 : decide (n ∈ (Str.ofString "!\"#$%&'()*+,-./:;<=>?\x40[\\]^_`{|}~").cps.toList) = isMark n := by rw [Bool.eq_iff_iff, decide_eq_true_eq]; exact mark_in n
  rw [h3] at h
  rw [← h, Bool.not_not]

theorem ctrl_int (w : World) {i : Int} {t : Tok} : Spec w 137 2 (fun _ => True) [.int i t] (fun _ _ r => ∃ t, r = .int (i % 32) t) := by
  intro prog A s E Q ⟨X, p, loose, mg, mb, T⟩ hh hd hu _ h
  k_dflt (refine enter X T.nolimit (by omega) (by k_is) (by k_is) rfl (locs rfl) (by decide) rfl rfl rfl ?_)
  intro L' h' F' N'
  try dsimp only
  k_steps
  all_goals ((try dsimp only); refine h _ _ _ (Fr.keep (by assumption)) ⟨_, by rw [bitAnd_m5]⟩)

theorem ctrl_chr (w : World) {n : Nat} {t : Tok} : Spec w 137 2 (fun _ => True) [.str ⟨#[n]⟩ t] (fun _ _ r => ∃ t, r = .str ⟨#[n % 32]⟩ t) := by
  intro prog A s E Q ⟨X, p, loose, mg, mb, T⟩ hh hd hu _ h
  k_dflt (refine enter X T.nolimit (by omega) (by k_is) (by k_is) rfl (locs rfl) (by decide) rfl rfl rfl ?_)
  intro L' h' F' N'
  try dsimp only
  k_steps
  all_goals ((try dsimp only); refine h _ _ _ (Fr.keep (by assumption)) ⟨_, rfl⟩)

theorem alt_int (w : World) {i : Int} {t : Tok} : Spec w 144 2 (fun _ => True) [.int i t] (fun _ _ r => ∃ t, r = .int (altI i) t) := by
  intro prog A s E Q ⟨X, p, loose, mg, mb, T⟩ hh hd hu _ h
  k_dflt (refine enter X T.nolimit (by omega) (by k_is) (by k_is) rfl (locs rfl) (by decide) rfl rfl rfl ?_)
  intro L' h' F' N'
  try dsimp only
  k_steps
  all_goals ((try dsimp only); refine h _ _ _ (Fr.keep (by assumption)) ⟨_, by rw [bitOr128]⟩)

theorem alt_chr (w : World) {n : Nat} {t : Tok} (hn : n < 1000000) : Spec w 144 2 (fun _ => True) [.str ⟨#[n]⟩ t] (fun _ _ r => ∃ t, r = .str ⟨#[altN n]⟩ t) := by
  intro prog A s E Q ⟨X, p, loose, mg, mb, T⟩ hh hd hu _ h
  k_dflt (refine enter X T.nolimit (by omega) (by k_is) (by k_is) rfl (locs rfl) (by decide) rfl rfl rfl ?_)
  intro L' h' F' N'
  try dsimp only
  k_steps
  all_goals ((try dsimp only); refine h _ _ _ (Fr.keep (by assumption)) ⟨_, rfl⟩)

theorem kind_spec (w : World) {n : Nat} {t : Tok} (hi : n < 1000000) : Spec w 172 1 (fun _ => True) [.int n t] (fun _ _ r => ∃ t, r = .int (kindN n : Nat) t) := by
  intro prog A s E Q ⟨X, p, loose, mg, mb, T⟩ hh hd hu _ h
  k_dflt (refine enter X T.nolimit (by omega) (by k_is) (by k_is) rfl (locs rfl) (by decide) rfl rfl rfl ?_)
  intro L' h' F' N'
  try dsimp only
  k_steps
  all_goals (try dsimp only)
  · exact h _ _ _ (Fr.keep (by assumption)) ⟨_, by rw [kindN, if_pos (by omega)]; rfl⟩
  · exact h _ _ _ (Fr.keep (by assumption)) ⟨_, by rw [kindN, if_pos (by omega)]; rfl⟩
  · rename_i q
    rw [show ((n : Int)).toNat = n from rfl, mark_occ, Bool.not_eq_true'] at q
    exact h _ _ _ (Fr.keep (by assumption)) ⟨_, by rw [kindN, if_neg (by omega), if_neg (by rw [q]; exact Bool.false_ne_true)]; rfl⟩
  · rename_i q
    rw [show ((n : Int)).toNat = n from rfl, mark_occ, Bool.not_eq_false'] at q
    exact h _ _ _ (Fr.keep (by assumption)) ⟨_, by rw [kindN, if_neg (by omega), if_pos q]; rfl⟩

end Mine
end

section
open PySem PySem.Sre
namespace Mine
theorem runFor_done (n : Nat) (m : M) (h : m.outcome.isSome = true) : m.runFor n = m := by
  cases n with
  | zero => rfl
  | succ n => rw [M.runFor, if_pos h]
theorem step_done (m : M) (h : m.outcome.isSome = true) : m.step = m := by rw [M.step, if_pos h]
theorem runFor_succ (n : Nat) (m : M) : m.runFor (n + 1) = m.step.runFor n := by
  cases h : m.outcome.isSome with
  | true => rw [runFor_done _ m h, step_done m h, runFor_done _ m h]
  | false => rw [M.runFor, if_neg (by rw [h]; exact Bool.false_ne_true)]
theorem runFor_add (a b : Nat) (m : M) : m.runFor (a + b) = (m.runFor a).runFor b := by
  induction a generalizing m with
  | zero => rw [Nat.zero_add]; rfl
  | succ a ih => rw [Nat.succ_add, runFor_succ, runFor_succ, ih]

def code1 : Array Nat := #[14, 4, 0, 1, 1, 6, 1, 16, 46, 1]
def code3 : Array Nat := #[14, 9, 4, 1, 2, 16, 10, 16, 13, 0, 7, 7, 16, 13, 16, 10, 15, 18, 5, 16, 10, 15, 13, 11, 16, 13, 5, 5, 0, 16, 10, 1, 15, 2, 0, 1]

/-- the dots' machine at an attempt -/
def dotM (text : Array Nat) (lim s : Nat) (first : Bool) (sn : Seen) : M :=
  { code := code1, text, lim, start := s, lastStart := lim, pc := 5, pos := s, handed := s, outermost := first, marks := #[],
    frames := [{ wait := .nextStart, pc := 5, pos := s, outermost := first }], weight := 1, seen := sn }

theorem dot_at (text : Array Nat) (lim s : Nat) (first : Bool) (sn : Seen) :
    (dotM text lim s first sn).step = if (s == 0 || text.getD (s - 1) 0 == 10) = true then { dotM text lim s first ((sn.add 6).add 44) with pc := 7 } else { dotM text lim s first ((sn.add 6).add 44) with answer := some false } := rfl
theorem dot_miss (text : Array Nat) (lim s : Nat) (first : Bool) (sn : Seen) :
    ({ dotM text lim s first sn with answer := some false } : M).step = if s < lim then dotM text lim (s + 1) false sn else { dotM text lim s first sn with answer := some false, frames := [], weight := 0 } := rfl
theorem dot_fail (text : Array Nat) (lim s : Nat) (first : Bool) (sn : Seen) :
    ({ dotM text lim s first sn with answer := some false, frames := [], weight := 0 } : M).step = { dotM text lim s first sn with answer := some false, frames := [], weight := 0, outcome := some .failed } := rfl
/-- one literal's look: what exec makes of accepts' answer -/
theorem lit_step {m m' mf mt : M} (h : m' = (match (Except.ok (b, sn) : Except String (Bool × Seen)) with
    | .error why => m.stick why
    | .ok (false, _) => mf
    | .ok (true, _) => mt)) : m' = if b = true then mt else mf := by
  rw [h]; cases b <;> rfl
theorem dot_lit (text : Array Nat) (lim s : Nat) (first : Bool) (sn : Seen) (hs : s < lim) :
    ({ dotM text lim s first sn with pc := 7 } : M).step =
      if (text.getD s 0 == 46) = true then { dotM text lim s first (sn.add 16) with pc := 9, pos := s + 1 } else { dotM text lim s first (sn.add 16) with pc := 7, answer := some false } := by
  have e : ({ dotM text lim s first sn with pc := 7 } : M).step = if s ≥ lim then { dotM text lim s first (sn.add 16) with pc := 7, answer := some false } else
      (match (Except.ok (text.getD s 0 == 46, sn.add 16) : Except String (Bool × Seen)) with
        | .error why => ({ dotM text lim s first (sn.add 16) with pc := 7 } : M).stick why
        | .ok (false, seen) => { dotM text lim s first seen with pc := 7, answer := some false }
        | .ok (true, seen) => { dotM text lim s first seen with pc := 9, pos := s + 1 }) := rfl
  rw [e, if_neg (by omega)]
  cases (text.getD s 0 == 46) <;> rfl
theorem dot_lit_end (text : Array Nat) (lim s : Nat) (first : Bool) (sn : Seen) (hs : ¬ s < lim) :
    ({ dotM text lim s first sn with pc := 7 } : M).step = { dotM text lim s first (sn.add 16) with pc := 7, answer := some false } := by
  have e : ({ dotM text lim s first sn with pc := 7 } : M).step = if s ≥ lim then { dotM text lim s first (sn.add 16) with pc := 7, answer := some false } else
      (match (Except.ok (text.getD s 0 == 46, sn.add 16) : Except String (Bool × Seen)) with
        | .error why => ({ dotM text lim s first (sn.add 16) with pc := 7 } : M).stick why
        | .ok (false, seen) => { dotM text lim s first seen with pc := 7, answer := some false }
        | .ok (true, seen) => { dotM text lim s first seen with pc := 9, pos := s + 1 }) := rfl
  rw [e, if_pos (by omega)]
theorem dot_miss7 (text : Array Nat) (lim s : Nat) (first : Bool) (sn : Seen) :
    ({ dotM text lim s first sn with pc := 7, answer := some false } : M).step = if s < lim then dotM text lim (s + 1) false sn else { dotM text lim s first sn with answer := some false, frames := [], weight := 0 } := rfl
theorem dot_succ (text : Array Nat) (lim s : Nat) (first : Bool) (sn : Seen) :
    ({ dotM text lim s first sn with pc := 9, pos := s + 1 } : M).step = if (first && (false && s + 1 != lim || false && s + 1 == s)) = true then { dotM text lim s first (sn.add 1) with pc := 9, pos := s + 1, answer := some false }
      else { dotM text lim s first (sn.add 1) with pc := 9, pos := s + 1, handed := s + 1, answer := some true } := rfl
theorem dot_hit (text : Array Nat) (lim s : Nat) (first : Bool) (sn : Seen) :
    ({ dotM text lim s first sn with pc := 9, pos := s + 1, handed := s + 1, answer := some true } : M).step.step = { dotM text lim s first sn with handed := s + 1, answer := some true, frames := [], weight := 0, outcome := some .matched } := rfl

/-- a dot at a row's beginning -/
def dotAt (text : Array Nat) (lim s : Nat) : Bool := (s == 0 || text.getD (s - 1) 0 == 10) && decide (s < lim) && text.getD s 0 == 46

theorem dot_search (text : Array Nat) (lim : Nat) : ∀ (d s : Nat) (first : Bool) (sn : Seen), lim - s = d → s ≤ lim → ∃ k m, k ≤ 5 * (d + 1) ∧ (dotM text lim s first sn).runFor k = m ∧
    ((m.outcome = some .failed ∧ ∀ j, s ≤ j → dotAt text lim j = false) ∨ (m.outcome = some .matched ∧ s ≤ m.start ∧ m.start < lim ∧ m.handed = m.start + 1 ∧ dotAt text lim m.start = true ∧ ∀ j, s ≤ j → j < m.start → dotAt text lim j = false)) := by
  intro d
  induction d with
  | zero =>
    intro s first sn hd hs
    have e : s = lim := by omega
    subst e
    have none : ∀ j, s ≤ j → dotAt text s j = false := by
      intro j hj
      simp only [dotAt, decide_eq_false (show ¬ j < s by omega), Bool.and_false, Bool.false_and]
    by_cases h : (s == 0 || text.getD (s - 1) 0 == 10) = true
    · refine ⟨4, _, by omega, rfl, .inl ⟨?_, none⟩⟩
      rw [runFor_succ, dot_at, if_pos h, runFor_succ, dot_lit_end _ _ _ _ _ (by omega), runFor_succ, dot_miss7, if_neg (by omega), runFor_succ, dot_fail]
      rfl
    · refine ⟨3, _, by omega, rfl, .inl ⟨?_, none⟩⟩
      rw [runFor_succ, dot_at, if_neg h, runFor_succ, dot_miss, if_neg (by omega), runFor_succ, dot_fail]
      rfl
  | succ d ih =>
    intro s first sn hd hs
    have hlt : s < lim := by omega
    have next : ∀ (k : Nat) (sn' : Seen), k ≤ 3 → (dotM text lim s first sn).runFor k = dotM text lim (s + 1) false sn' → dotAt text lim s = false → ∃ k m, k ≤ 5 * (d + 1 + 1) ∧ (dotM text lim s first sn).runFor k = m ∧
        ((m.outcome = some .failed ∧ ∀ j, s ≤ j → dotAt text lim j = false) ∨ (m.outcome = some .matched ∧ s ≤ m.start ∧ m.start < lim ∧ m.handed = m.start + 1 ∧ dotAt text lim m.start = true ∧ ∀ j, s ≤ j → j < m.start → dotAt text lim j = false)) := by
      intro k sn' hk hr hno
      obtain ⟨k', m, hk', hr', h'⟩ := ih (s + 1) false sn' (by omega) (by omega)
      refine ⟨k + k', m, by omega, by rw [runFor_add, hr, hr'], ?_⟩
      have one : ∀ {j}, s ≤ j → (s + 1 ≤ j → dotAt text lim j = false) → dotAt text lim j = false := by
        intro j hj h
        rcases Nat.eq_or_lt_of_le hj with e | e
        · rw [← e]; exact hno
        · exact h e
      rcases h' with ⟨a, b⟩ | ⟨a, b, c, e, f, g⟩
      · exact .inl ⟨a, fun j hj => one hj fun hj' => b j hj'⟩
      · exact .inr ⟨a, by omega, c, e, f, fun j hj hlt => one hj fun hj' => g j hj' hlt⟩
    by_cases h : (s == 0 || text.getD (s - 1) 0 == 10) = true
    · by_cases h2 : (text.getD s 0 == 46) = true
      · refine ⟨5, _, by omega, rfl, .inr ?_⟩
        rw [runFor_succ, dot_at, if_pos h, runFor_succ, dot_lit _ _ _ _ _ hlt, if_pos h2, runFor_succ, dot_succ, if_neg (by simp), runFor_succ, runFor_succ, dot_hit]
        refine ⟨rfl, Nat.le_refl _, hlt, rfl, ?_, fun j hj hj' => absurd hj (by have : j < s := hj'; omega)⟩
        show dotAt text lim s = true
        simp only [dotAt, h, h2, decide_eq_true hlt, Bool.and_self]
      · refine next 3 ((((sn.add 6).add 44).add 16)) (Nat.le_refl _) ?_ ?_
        · rw [runFor_succ, dot_at, if_pos h, runFor_succ, dot_lit _ _ _ _ _ hlt, if_neg h2, runFor_succ, dot_miss7, if_pos hlt]; rfl
        · simp only [dotAt, eq_false_of_ne_true h2, Bool.and_false]
    · refine next 2 ((sn.add 6).add 44) (by omega) ?_ ?_
      · rw [runFor_succ, dot_at, if_neg h, runFor_succ, dot_miss, if_pos hlt]; rfl
      · simp only [dotAt, eq_false_of_ne_true h, Bool.false_and]

/-- what a search finds: nothing at or behind s, or the first place -/
def Found (P : Nat → Bool) (w : Nat → Nat) (lim s : Nat) (m : M) : Prop :=
  (m.outcome = some .failed ∧ ∀ j, s ≤ j → P j = false) ∨ (m.outcome = some .matched ∧ s ≤ m.start ∧ m.start < lim ∧ m.handed = m.start + w m.start ∧ P m.start = true ∧ ∀ j, s ≤ j → j < m.start → P j = false)

theorem dot_find (text : Array Nat) (lim s : Nat) (hs : s ≤ lim) : ∃ k m, k ≤ 5 * (lim + 1) ∧ (forSearch code1 text 0 s lim false).runFor k = m ∧ Found (dotAt text lim) (fun _ => 1) lim s m := by
  have e : forSearch code1 text 0 s lim false = if (decide (s > lim) || decide (lim - s < 1)) = true then
      { code := code1, text, lim, start := s, pc := 5, pos := s, handed := s, marks := #[], seen := ({} : Seen).add 14, answer := some false } else dotM text lim s true (({} : Seen).add 14) := rfl
  by_cases h : s < lim
  · rw [e, if_neg (by simp; omega)]
    obtain ⟨k, m, a, b, c⟩ := dot_search text lim (lim - s) s true (({} : Seen).add 14) rfl hs
    exact ⟨k, m, by omega, b, c⟩
  · rw [e, if_pos (by simp; omega)]
    refine ⟨1, _, by omega, rfl, .inl ⟨rfl, fun j hj => ?_⟩⟩
    simp only [dotAt, decide_eq_false (show ¬ j < lim by omega), Bool.and_false, Bool.false_and]

/-! the ends -/
def isEnd (c : Nat) : Bool := c == 10 || c == 13
/-- the ends' machine -/
def eM (text : Array Nat) (lim s : Nat) (pc pos handed : Nat) (out : Bool) (fr : List Sre.Frame) (wt : Nat) (an : Option Bool) (sn : Seen) : M :=
  { code := code3, text, lim, start := s, lastStart := lim, pc, pos, handed, outermost := out, marks := #[], frames := fr, weight := wt, answer := an, seen := sn }
def eF (s : Nat) (first : Bool) : Sre.Frame := { wait := .nextStart, pc := 10, pos := s, outermost := first }
def eB (s : Nat) (first : Bool) (pc : Nat) : Sre.Frame := { wait := .nextBranch, pc, pos := s, outermost := first, kept := { lastmark := -1, lastindex := -1, whole := false, marks := #[] } }
def eN (s : Nat) (first : Bool) : Sre.Frame := { wait := .lookNot, pc := 26, pos := s, outermost := first, kept := { lastmark := -1, lastindex := -1, whole := false, marks := #[] } }
section
variable (text : Array Nat) (lim s : Nat) (first : Bool) (sn : Seen)
theorem e_branch : (eM text lim s 10 s s first [eF s first] 1 none sn).step = eM text lim s 12 s s first [eB s first 11, eF s first] 2 none (sn.add 7) := rfl
theorem e_lit12 (pos handed : Nat) (out : Bool) (fr : List Sre.Frame) (wt : Nat) : (eM text lim s 12 pos handed out fr wt none sn).step =
    if pos < lim ∧ text.getD pos 0 = 13 then eM text lim s 14 (pos + 1) handed out fr wt none (sn.add 16) else eM text lim s 12 pos handed out fr wt (some false) (sn.add 16) := by
  have e : (eM text lim s 12 pos handed out fr wt none sn).step = if pos ≥ lim then eM text lim s 12 pos handed out fr wt (some false) (sn.add 16) else
      (match (Except.ok (text.getD pos 0 == 13, sn.add 16) : Except String (Bool × Seen)) with
        | .error why => (eM text lim s 12 pos handed out fr wt none (sn.add 16)).stick why
        | .ok (false, seen) => eM text lim s 12 pos handed out fr wt (some false) seen
        | .ok (true, seen) => eM text lim s 14 (pos + 1) handed out fr wt none seen) := rfl
  rw [e]
  by_cases h : pos < lim
  · rw [if_neg (by omega)]
    by_cases h2 : text.getD pos 0 = 13
    · rw [if_pos ⟨h, h2⟩, beq_iff_eq.mpr h2]
    · rw [if_neg (fun x => h2 x.2), beq_eq_false_iff_ne.mpr h2]
  · rw [if_pos (by omega), if_neg (fun x => h x.1)]
theorem e_lit14 (pos handed : Nat) (out : Bool) (fr : List Sre.Frame) (wt : Nat) : (eM text lim s 14 pos handed out fr wt none sn).step =
    if pos < lim ∧ text.getD pos 0 = 10 then eM text lim s 16 (pos + 1) handed out fr wt none (sn.add 16) else eM text lim s 14 pos handed out fr wt (some false) (sn.add 16) := by
  have e : (eM text lim s 14 pos handed out fr wt none sn).step = if pos ≥ lim then eM text lim s 14 pos handed out fr wt (some false) (sn.add 16) else
      (match (Except.ok (text.getD pos 0 == 10, sn.add 16) : Except String (Bool × Seen)) with
        | .error why => (eM text lim s 14 pos handed out fr wt none (sn.add 16)).stick why
        | .ok (false, seen) => eM text lim s 14 pos handed out fr wt (some false) seen
        | .ok (true, seen) => eM text lim s 16 (pos + 1) handed out fr wt none seen) := rfl
  rw [e]
  by_cases h : pos < lim
  · rw [if_neg (by omega)]
    by_cases h2 : text.getD pos 0 = 10
    · rw [if_pos ⟨h, h2⟩, beq_iff_eq.mpr h2]
    · rw [if_neg (fun x => h2 x.2), beq_eq_false_iff_ne.mpr h2]
  · rw [if_pos (by omega), if_neg (fun x => h x.1)]
theorem e_lit19 (pos handed : Nat) (out : Bool) (fr : List Sre.Frame) (wt : Nat) : (eM text lim s 19 pos handed out fr wt none sn).step =
    if pos < lim ∧ text.getD pos 0 = 10 then eM text lim s 21 (pos + 1) handed out fr wt none (sn.add 16) else eM text lim s 19 pos handed out fr wt (some false) (sn.add 16) := by
  have e : (eM text lim s 19 pos handed out fr wt none sn).step = if pos ≥ lim then eM text lim s 19 pos handed out fr wt (some false) (sn.add 16) else
      (match (Except.ok (text.getD pos 0 == 10, sn.add 16) : Except String (Bool × Seen)) with
        | .error why => (eM text lim s 19 pos handed out fr wt none (sn.add 16)).stick why
        | .ok (false, seen) => eM text lim s 19 pos handed out fr wt (some false) seen
        | .ok (true, seen) => eM text lim s 21 (pos + 1) handed out fr wt none seen) := rfl
  rw [e]
  by_cases h : pos < lim
  · rw [if_neg (by omega)]
    by_cases h2 : text.getD pos 0 = 10
    · rw [if_pos ⟨h, h2⟩, beq_iff_eq.mpr h2]
    · rw [if_neg (fun x => h2 x.2), beq_eq_false_iff_ne.mpr h2]
  · rw [if_pos (by omega), if_neg (fun x => h x.1)]
theorem e_lit24 (pos handed : Nat) (out : Bool) (fr : List Sre.Frame) (wt : Nat) : (eM text lim s 24 pos handed out fr wt none sn).step =
    if pos < lim ∧ text.getD pos 0 = 13 then eM text lim s 26 (pos + 1) handed out fr wt none (sn.add 16) else eM text lim s 24 pos handed out fr wt (some false) (sn.add 16) := by
  have e : (eM text lim s 24 pos handed out fr wt none sn).step = if pos ≥ lim then eM text lim s 24 pos handed out fr wt (some false) (sn.add 16) else
      (match (Except.ok (text.getD pos 0 == 13, sn.add 16) : Except String (Bool × Seen)) with
        | .error why => (eM text lim s 24 pos handed out fr wt none (sn.add 16)).stick why
        | .ok (false, seen) => eM text lim s 24 pos handed out fr wt (some false) seen
        | .ok (true, seen) => eM text lim s 26 (pos + 1) handed out fr wt none seen) := rfl
  rw [e]
  by_cases h : pos < lim
  · rw [if_neg (by omega)]
    by_cases h2 : text.getD pos 0 = 13
    · rw [if_pos ⟨h, h2⟩, beq_iff_eq.mpr h2]
    · rw [if_neg (fun x => h2 x.2), beq_eq_false_iff_ne.mpr h2]
  · rw [if_pos (by omega), if_neg (fun x => h x.1)]
theorem e_lit29 (pos handed : Nat) (out : Bool) (fr : List Sre.Frame) (wt : Nat) : (eM text lim s 29 pos handed out fr wt none sn).step =
    if pos < lim ∧ text.getD pos 0 = 10 then eM text lim s 31 (pos + 1) handed out fr wt none (sn.add 16) else eM text lim s 29 pos handed out fr wt (some false) (sn.add 16) := by
  have e : (eM text lim s 29 pos handed out fr wt none sn).step = if pos ≥ lim then eM text lim s 29 pos handed out fr wt (some false) (sn.add 16) else
      (match (Except.ok (text.getD pos 0 == 10, sn.add 16) : Except String (Bool × Seen)) with
        | .error why => (eM text lim s 29 pos handed out fr wt none (sn.add 16)).stick why
        | .ok (false, seen) => eM text lim s 29 pos handed out fr wt (some false) seen
        | .ok (true, seen) => eM text lim s 31 (pos + 1) handed out fr wt none seen) := rfl
  rw [e]
  by_cases h : pos < lim
  · rw [if_neg (by omega)]
    by_cases h2 : text.getD pos 0 = 10
    · rw [if_pos ⟨h, h2⟩, beq_iff_eq.mpr h2]
    · rw [if_neg (fun x => h2 x.2), beq_eq_false_iff_ne.mpr h2]
  · rw [if_pos (by omega), if_neg (fun x => h x.1)]
theorem e_jump16 (pos handed : Nat) (out : Bool) (fr : List Sre.Frame) (wt : Nat) : (eM text lim s 16 pos handed out fr wt none sn).step = eM text lim s 35 pos handed out fr wt none (sn.add 15) := rfl
theorem e_jump21 (pos handed : Nat) (out : Bool) (fr : List Sre.Frame) (wt : Nat) : (eM text lim s 21 pos handed out fr wt none sn).step = eM text lim s 35 pos handed out fr wt none (sn.add 15) := rfl
theorem e_jump32 (pos handed : Nat) (out : Bool) (fr : List Sre.Frame) (wt : Nat) : (eM text lim s 32 pos handed out fr wt none sn).step = eM text lim s 35 pos handed out fr wt none (sn.add 15) := rfl
theorem e_succ (pos handed : Nat) (out : Bool) (fr : List Sre.Frame) (wt : Nat) : (eM text lim s 35 pos handed out fr wt none sn).step = eM text lim s 35 pos pos out fr wt (some true) (sn.add 1) := by
  have e : (eM text lim s 35 pos handed out fr wt none sn).step = if (out && (false && pos != lim || false && pos == s)) = true then eM text lim s 35 pos handed out fr wt (some false) (sn.add 1) else eM text lim s 35 pos pos out fr wt (some true) (sn.add 1) := rfl
  rw [e, if_neg (by simp)]
theorem e_no11 (pc pos handed : Nat) (out : Bool) : (eM text lim s pc pos handed out [eB s first 11, eF s first] 2 (some false) sn).step = eM text lim s 19 s s first [eB s first 18, eF s first] 2 none sn := rfl
theorem e_no18 (pc pos handed : Nat) (out : Bool) : (eM text lim s pc pos handed out [eB s first 18, eF s first] 2 (some false) sn).step = eM text lim s 24 s s first [eB s first 23, eF s first] 2 none sn := rfl
theorem e_look (pos handed : Nat) : (eM text lim s 26 pos handed first [eB s first 23, eF s first] 2 none sn).step = eM text lim s 29 pos pos false [eN pos first, eB s first 23, eF s first] 3 none (sn.add 5) := rfl
theorem e_noLook (pc pos' pos handed : Nat) (out : Bool) : (eM text lim s pc pos' handed out [eN pos first, eB s first 23, eF s first] 3 (some false) sn).step = eM text lim s 32 pos handed first [eB s first 23, eF s first] 2 none sn := rfl
theorem e_yes (k pc pos handed : Nat) (out : Bool) : (eM text lim s pc pos handed out [eB s first k, eF s first] 2 (some true) sn).step.step.step = { eM text lim s 10 s handed first [] 0 (some true) sn with outcome := some .matched } := rfl

theorem end_match (hs : s < lim) (he : isEnd (text.getD s 0) = true) : ∃ k m, k ≤ 15 ∧ (eM text lim s 10 s s first [eF s first] 1 none sn).runFor k = m ∧ m.outcome = some .matched ∧ m.start = s ∧
    m.handed = s + (if text.getD s 0 = 13 ∧ s + 1 < lim ∧ text.getD (s + 1) 0 = 10 then 2 else 1) := by
  by_cases h13 : text.getD s 0 = 13
  · by_cases h10 : s + 1 < lim ∧ text.getD (s + 1) 0 = 10
    · refine ⟨8, _, by omega, rfl, ?_⟩
      rw [runFor_succ, e_branch, runFor_succ, e_lit12, if_pos ⟨hs, h13⟩, runFor_succ, e_lit14, if_pos h10, runFor_succ, e_jump16, runFor_succ, e_succ, runFor_succ, runFor_succ, runFor_succ, e_yes, if_pos ⟨h13, h10⟩]
      exact ⟨rfl, rfl, rfl⟩
    · refine ⟨15, _, by omega, rfl, ?_⟩
      rw [runFor_succ, e_branch, runFor_succ, e_lit12, if_pos ⟨hs, h13⟩, runFor_succ, e_lit14, if_neg h10, runFor_succ, e_no11, runFor_succ, e_lit19, if_neg (fun x => by rw [h13] at x; exact absurd x.2 (by decide)),
        runFor_succ, e_no18, runFor_succ, e_lit24, if_pos ⟨hs, h13⟩, runFor_succ, e_look, runFor_succ, e_lit29, if_neg h10, runFor_succ, e_noLook, runFor_succ, e_jump32, runFor_succ, e_succ, runFor_succ, runFor_succ, runFor_succ, e_yes, if_neg (fun x => h10 x.2)]
      exact ⟨rfl, rfl, rfl⟩
  · have h10 : text.getD s 0 = 10 := by
      rcases Bool.or_eq_true_iff.mp he with h | h
      · exact beq_iff_eq.mp h
      · exact absurd (beq_iff_eq.mp h) h13
    refine ⟨9, _, by omega, rfl, ?_⟩
    rw [runFor_succ, e_branch, runFor_succ, e_lit12, if_neg (fun x => h13 x.2), runFor_succ, e_no11, runFor_succ, e_lit19, if_pos ⟨hs, h10⟩, runFor_succ, e_jump21, runFor_succ, e_succ, runFor_succ, runFor_succ, runFor_succ, e_yes, if_neg (fun x => h13 x.1)]
    exact ⟨rfl, rfl, rfl⟩

theorem in_set (c : Nat) : ∃ sn', inSet code3 c 36 5 true sn = .ok (isEnd c, sn') := by
  have e : inSet code3 c 36 5 true sn = if (c == 10) = true then .ok (true, sn.add 16) else if (c == 13) = true then .ok (true, (sn.add 16).add 16) else .ok (!true, ((sn.add 16).add 16).add 0) := rfl
  rw [e, isEnd]
  cases (c == 10) <;> cases (c == 13) <;> exact ⟨_, rfl⟩
end

theorem admitted_spec (m : M) (hc : m.code = code3) : ∀ (d s : Nat) (sn : Seen) (fuel : Nat), m.lim - s = d → d < fuel → ∃ r sn', m.admitted fuel s sn = .ok (r, sn') ∧
    ((r = none ∧ ∀ j, s ≤ j → j < m.lim → isEnd (m.text.getD j 0) = false) ∨ ∃ i, r = some i ∧ s ≤ i ∧ i < m.lim ∧ isEnd (m.text.getD i 0) = true ∧ ∀ j, s ≤ j → j < i → isEnd (m.text.getD j 0) = false) := by
  intro d
  induction d with
  | zero =>
    intro s sn fuel hd hf
    cases fuel with
    | zero => omega
    | succ fuel =>
      refine ⟨none, sn, ?_, .inl ⟨rfl, fun j h1 h2 => by omega⟩⟩
      rw [M.admitted, if_pos (by omega)]
  | succ d ih =>
    intro s sn fuel hd hf
    cases fuel with
    | zero => omega
    | succ fuel =>
      obtain ⟨sn', hin⟩ := in_set sn (m.text.getD s 0)
      have hs : m.code.size = 36 := by rw [hc]; rfl
      cases hE : isEnd (m.text.getD s 0) with
      | true =>
        refine ⟨some s, sn', ?_, .inr ⟨s, rfl, Nat.le_refl _, by omega, hE, fun j h1 h2 => by omega⟩⟩
        rw [M.admitted, if_neg (by omega), hs, hc, hin, hE]
      | false =>
        obtain ⟨r, sn2, h1, h2⟩ := ih (s + 1) sn' fuel (by omega) (by omega)
        refine ⟨r, sn2, ?_, ?_⟩
        · rw [M.admitted, if_neg (by omega), hs, hc, hin, hE]
          exact h1
        · have one : ∀ {j}, s ≤ j → (s + 1 ≤ j → isEnd (m.text.getD j 0) = false) → isEnd (m.text.getD j 0) = false := by
            intro j hj h
            rcases Nat.eq_or_lt_of_le hj with e | e
            · rw [← e]; exact hE
            · exact h e
          rcases h2 with ⟨a, b⟩ | ⟨i, a, b, c, e, f⟩
          · exact .inl ⟨a, fun j hj hl => one hj fun h => b j h hl⟩
          · exact .inr ⟨i, a, by omega, c, e, fun j hj hl => one hj fun h => f j h hl⟩

/-- an end's place; its width -/
def endAt (text : Array Nat) (lim s : Nat) : Bool := decide (s < lim) && isEnd (text.getD s 0)
def endW (text : Array Nat) (lim s : Nat) : Nat := if text.getD s 0 = 13 ∧ s + 1 < lim ∧ text.getD (s + 1) 0 = 10 then 2 else 1

theorem end_find (text : Array Nat) (lim s : Nat) (hs : s ≤ lim) : ∃ k m, k ≤ 5 * (lim + 1) + 15 ∧ (forSearch code3 text 0 s lim false).runFor k = m ∧ Found (endAt text lim) (endW text lim) lim s m := by
  let m₀ : M := { code := code3, text, lim, start := s, lastStart := lim, pc := 10, pos := s, handed := s, marks := #[], seen := ({} : Seen).add 14 }
  have e : forSearch code3 text 0 s lim false = if (decide (s > lim) || decide (lim - s < 1)) = true then { m₀ with lastStart := 0, answer := some false } else
      (match m₀.admitted (lim + 1 - s) s (({} : Seen).add 14) with
        | .ok (some i, seen) => eM text lim i 10 i i true [eF i true] 1 none seen
        | .ok (none, seen) => { m₀ with seen, answer := some false }
        | .error why => m₀.stick why) := rfl
  by_cases h : s < lim
  · rw [e, if_neg (by simp; omega)]
    obtain ⟨r, sn', h1, h2⟩ := admitted_spec m₀ rfl (lim - s) s (({} : Seen).add 14) (lim + 1 - s) rfl (by omega)
    rw [h1]
    rcases h2 with ⟨rfl, hn⟩ | ⟨i, rfl, hi, hil, hE, hn⟩
    · refine ⟨1, _, by omega, rfl, .inl ⟨rfl, fun j hj => ?_⟩⟩
      by_cases hj' : j < lim
      · simp only [endAt, decide_eq_true hj', Bool.true_and]; exact hn j hj hj'
      · simp only [endAt, decide_eq_false hj', Bool.false_and]
    · obtain ⟨k, m, hk, hr, ho, hst, hhd⟩ := end_match text lim i true sn' hil hE
      refine ⟨k, m, by omega, hr, .inr ⟨ho, by omega, by rw [hst]; exact hil, by rw [hhd, hst]; rfl, ?_, fun j h1 h2 => ?_⟩⟩
      · rw [hst, endAt, decide_eq_true (show i < lim from hil), Bool.true_and]; exact hE
      · rw [hst] at h2
        rw [endAt, show isEnd (text.getD j 0) = false from hn j h1 h2, Bool.and_false]
  · rw [e, if_pos (by simp; omega)]
    refine ⟨1, _, by omega, rfl, .inl ⟨rfl, fun j hj => ?_⟩⟩
    simp only [endAt, decide_eq_false (show ¬ j < lim by omega), Bool.false_and]
end Mine
end

section
namespace Mine
/-- a dot more ahead of each dot at a row's beginning -/
def dotsGo : Bool → List Nat → List Nat
  | _, [] => []
  | b, c :: r => if b = true ∧ c = 46 then 46 :: 46 :: dotsGo false r else c :: dotsGo (c == 10) r
/-- each end a return and a feed -/
def fixGo : List Nat → List Nat
  | [] => []
  | [c] => if isEnd c = true then [13, 10] else [c]
  | c :: d :: r => if c = 13 ∧ d = 10 then 13 :: 10 :: fixGo r else if isEnd c = true then 13 :: 10 :: fixGo (d :: r) else c :: fixGo (d :: r)

def flag (x : Array Nat) (d : Nat) : Bool := d == 0 || x.getD (d - 1) 0 == 10

theorem drop_at {x : Array Nat} {d : Nat} (h : d < x.size) : x.toList.drop d = x.getD d 0 :: x.toList.drop (d + 1) := by
  have e : x.getD d 0 = x.toList[d]'(by simpa using h) := by
    rw [Array.getD_eq_getD_getElem?, Array.getElem?_eq_getElem h]; simp
  rw [e]
  exact List.drop_eq_getElem_cons (by simpa using h)

theorem dots_step {x : Array Nat} {d : Nat} (h : d < x.size) : dotsGo (flag x d) (x.toList.drop d) =
    if dotAt x x.size d = true then 46 :: 46 :: dotsGo (flag x (d + 1)) (x.toList.drop (d + 1)) else x.getD d 0 :: dotsGo (flag x (d + 1)) (x.toList.drop (d + 1)) := by
  rw [drop_at h, dotsGo]
  have hf : flag x (d + 1) = (x.getD d 0 == 10) := by simp [flag]
  have hd : dotAt x x.size d = true ↔ flag x d = true ∧ x.getD d 0 = 46 := by
    simp only [dotAt, flag, decide_eq_true h, Bool.and_true, Bool.and_eq_true, beq_iff_eq]
  by_cases hc : flag x d = true ∧ x.getD d 0 = 46
  · rw [if_pos hc, if_pos (hd.mpr hc), hf, hc.2]; rfl
  · rw [if_neg hc, if_neg (fun q => hc (hd.mp q)), hf]

theorem dots_none (x : Array Nat) : ∀ (k d : Nat), x.size - d = k → d ≤ x.size → (∀ j, d ≤ j → dotAt x x.size j = false) → dotsGo (flag x d) (x.toList.drop d) = x.toList.drop d := by
  intro k
  induction k with
  | zero =>
    intro d hk hd _
    rw [List.drop_of_length_le (by simp; omega)]
    cases flag x d <;> rfl
  | succ k ih =>
    intro d hk hd hn
    have hlt : d < x.size := by omega
    rw [dots_step hlt, if_neg (by rw [hn d (Nat.le_refl _)]; exact Bool.false_ne_true), ih (d + 1) (by omega) (by omega) fun j hj => hn j (by omega), ← drop_at hlt]
theorem dots_some (x : Array Nat) (i : Nat) (hi : i < x.size) (hP : dotAt x x.size i = true) : ∀ (k d : Nat), i - d = k → d ≤ i → (∀ j, d ≤ j → j < i → dotAt x x.size j = false) →
    dotsGo (flag x d) (x.toList.drop d) = (x.toList.drop d).take (i - d) ++ [46, 46] ++ dotsGo (flag x (i + 1)) (x.toList.drop (i + 1)) := by
  intro k
  induction k with
  | zero =>
    intro d hk hd _
    have e : d = i := by omega
    subst e
    rw [dots_step hi, if_pos hP, Nat.sub_self, List.take_zero]; rfl
  | succ k ih =>
    intro d hk hd hn
    rw [dots_step (by omega), if_neg (by rw [hn d (Nat.le_refl _) (by omega)]; exact Bool.false_ne_true), ih (d + 1) (by omega) (by omega) fun j hj => hn j (by omega), drop_at (show d < x.size by omega)]
    have e : i - d = (i - (d + 1)) + 1 := by omega
    rw [e, List.take_succ_cons]; rfl

theorem fix_end (c : Nat) (r : List Nat) (h : isEnd c = true) : fixGo (c :: r) = 13 :: 10 :: fixGo (if c = 13 ∧ r.head? = some 10 then r.tail else r) := by
  cases r with
  | nil => simp [fixGo, h]
  | cons a r' =>
    rw [fixGo]
    by_cases hc : c = 13 ∧ a = 10
    · rw [if_pos hc, if_pos ⟨hc.1, by rw [hc.2]; rfl⟩]; rfl
    · rw [if_neg hc, if_pos h, if_neg (fun q => hc ⟨q.1, Option.some.inj q.2⟩)]
theorem fix_else (c : Nat) (r : List Nat) (h : isEnd c = false) : fixGo (c :: r) = c :: fixGo r := by
  cases r with
  | nil => simp [fixGo, h]
  | cons a r' =>
    rw [fixGo, if_neg (fun q => by rw [q.1] at h; cases h), if_neg (by rw [h]; exact Bool.false_ne_true)]

theorem endAt_lt {x : Array Nat} {d : Nat} (h : d < x.size) : endAt x x.size d = isEnd (x.getD d 0) := by rw [endAt, decide_eq_true h, Bool.true_and]
theorem fix_none (x : Array Nat) : ∀ (k d : Nat), x.size - d = k → d ≤ x.size → (∀ j, d ≤ j → endAt x x.size j = false) → fixGo (x.toList.drop d) = x.toList.drop d := by
  intro k
  induction k with
  | zero =>
    intro d hk hd _
    rw [List.drop_of_length_le (by simp; omega)]; rfl
  | succ k ih =>
    intro d hk hd hn
    have hlt : d < x.size := by omega
    have h0 := hn d (Nat.le_refl _)
    rw [endAt_lt hlt] at h0
    rw [drop_at hlt, fix_else _ _ h0, ih (d + 1) (by omega) (by omega) fun j hj => hn j (by omega)]
theorem fix_some (x : Array Nat) (i : Nat) (hi : i < x.size) (hP : endAt x x.size i = true) : ∀ (k d : Nat), i - d = k → d ≤ i → (∀ j, d ≤ j → j < i → endAt x x.size j = false) →
    fixGo (x.toList.drop d) = (x.toList.drop d).take (i - d) ++ [13, 10] ++ fixGo (x.toList.drop (i + endW x x.size i)) := by
  intro k
  induction k with
  | zero =>
    intro d hk hd _
    have e : d = i := by omega
    subst e
    rw [endAt_lt hi] at hP
    rw [drop_at hi, fix_end _ _ hP, Nat.sub_self, List.take_zero]
    have hh : (x.toList.drop (d + 1)).head? = some 10 ↔ d + 1 < x.size ∧ x.getD (d + 1) 0 = 10 := by
      by_cases hl : d + 1 < x.size
      · rw [drop_at hl, List.head?_cons]
        exact ⟨fun q => ⟨hl, Option.some.inj q⟩, fun q => by rw [q.2]⟩
      · rw [List.drop_of_length_le (by simp; omega)]
        exact ⟨fun q => (nomatch q), fun q => absurd q.1 hl⟩
    unfold endW
    by_cases hc : x.getD d 0 = 13 ∧ d + 1 < x.size ∧ x.getD (d + 1) 0 = 10
    · rw [if_pos hc, if_pos ⟨hc.1, hh.mpr hc.2⟩, List.tail_drop]; rfl
    · rw [if_neg hc, if_neg (fun q => hc ⟨q.1, hh.mp q.2⟩)]; rfl
  | succ k ih =>
    intro d hk hd hn
    have h0 := hn d (Nat.le_refl _) (by omega)
    rw [endAt_lt (by omega)] at h0
    rw [drop_at (show d < x.size by omega), fix_else _ _ h0, ih (d + 1) (by omega) (by omega) fun j hj => hn j (by omega)]
    have e : i - d = (i - (d + 1)) + 1 := by omega
    rw [e, List.take_succ_cons]; rfl
theorem endW_le {x : Array Nat} {i : Nat} (h : endAt x x.size i = true) : 1 ≤ endW x x.size i ∧ i + endW x x.size i ≤ x.size := by
  have hl : i < x.size := by
    by_cases hl : i < x.size
    · exact hl
    · rw [endAt, decide_eq_false hl] at h; cases h
  unfold endW
  by_cases hc : x.getD i 0 = 13 ∧ i + 1 < x.size ∧ x.getD (i + 1) 0 = 10
  · rw [if_pos hc]; omega
  · rw [if_neg hc]; omega
theorem dotAt_lt {x : Array Nat} {i : Nat} (h : dotAt x x.size i = true) : i < x.size := by
  by_cases hl : i < x.size
  · exact hl
  · simp [dotAt, hl] at h
end Mine
end

section
open PySem PySem.W PySem.Calls PyProof.Rows
namespace Mine
theorem pa_re : PlainAttrs "re.Pattern" :=
  ⟨⟨"object.__getattribute__", by rw [typeLookup_type, builtinLookup_eq_fast]; kernel_rfl, by decide +kernel⟩, by rw [typeLookup_type, builtinLookup_eq_fast]; kernel_rfl⟩
theorem slot_sub : Slot "re.Pattern" "sub" "re.Pattern.sub" :=
  .of (owner := "re.Pattern") (n := "sub") (by rw [typeLookup_type, builtinLookup_eq_fast]; kernel_rfl) (by decide +kernel) (by decide +kernel) (by decide +kernel)
    (by first | exact .inl (by decide +kernel) | exact .inr (by decide +kernel)) (by rw [isSubtype_type]; kernel_rfl)
theorem type_sub : typeOf (.builtin "re.Pattern.sub") = pure (.type "method_descriptor") := by show builtinType _ = _; rw [builtinType_eq_fast]; kernel_rfl
theorem entry_sub : entryFor table "re.Pattern.sub" = some Builtin.«re.Pattern.sub» := entryFor_of_tree (by kernel_rfl)
theorem entry_loop : entryFor table "re.Pattern.sub.loop" = some Builtin.«re.Pattern.sub.loop» := entryFor_of_tree (by kernel_rfl)
theorem args_sub (a b c : Value) : argsOk "re.Pattern.sub" ⟨[a, b, c], []⟩ := by
  unfold argsOk; kernel_rfl
end Mine
end

section
open PySem PySem.W PySem.Calls PyProof.Rows PySem.Builtin.Re
namespace Mine

theorem look_bytes_call : typeLookup (.type "bytes") "__call__" = pure none := by rw [typeLookup_type, builtinLookup_eq_fast]; kernel_rfl
theorem look_str_call : typeLookup (.type "str") "__call__" = pure none := by rw [typeLookup_type, builtinLookup_eq_fast]; kernel_rfl
section
variable {M : Model} {A : Around} {E : Value → Shared → Prop} {s : Shared} {b : Array UInt8} {t : Tok}
theorem buf_bytes {id : String} {Q : Option (Array UInt8) → Shared → Prop} (h : Q (some b) s) : wpAny M A (Builtin.Bytes.buffer? id (.bytes b t)) Q E s :=
  wpAny_of_eq KBy.buffer_eq h
theorem bufQ_bytes {id : String} {Q : Option (Array UInt8) → Shared → Prop} (h : Q (some b) s) : wpAny M A (Builtin.Bytes.bufferQuiet? id (.bytes b t)) Q E s :=
  wpAny_of_eq KBy.quiet_eq h
theorem takeQ_bytes {id : String} {fl : Int} {Q : Option (Array UInt8 × Option Value) → Shared → Prop} (h : Q (some (b, none)) s) : wpAny M A (Builtin.Bytes.takeBufferQuiet? id (.bytes b t) fl) Q E s := by
  unfold Builtin.Bytes.takeBufferQuiet?
  refine wpAny_bind (wpAny_attempt ?_)
  unfold Builtin.Bytes.takeBuffer?
  refine wpAny_bind (wpAny_specialOf (typeIs_bytes _ _ _) KBy.look_buffer ?_)
  dsimp only
  refine wpAny_bind (wpAny_of_eq KBy.own_buffer ?_)
  rw [if_neg (by decide)]
  refine wpAny_bind (wpAny_specialOf (typeIs_bytes _ _ _) KBy.look_buffer ?_)
  exact wpAny_bind (buf_bytes (wpAny_pure (wpAny_pure h)))

/-- a text or octets by their codes -/
def TV : Nat → Array Nat → Tok → Value
  | 0, x, t => .str ⟨x⟩ t
  | _, x, t => .bytes (x.map (·.toUInt8)) t
/-- the codes are octets where octets are asked -/
def Fits (kind : Nat) (x : Array Nat) : Prop := kind = 0 ∨ (kind = 1 ∧ ∀ c ∈ x, c < 256)
theorem toNat_toUInt8 {x : Array Nat} (h : ∀ c ∈ x, c < 256) : (x.map (·.toUInt8)).map (·.toNat) = x := by
  rw [Array.map_map]
  conv => rhs; rw [← Array.map_id x]
  refine Array.map_congr_left fun c hc => ?_
  show (c.toUInt8).toNat = c
  have := h c hc
  simp [Nat.toUInt8]
  omega
theorem reText {kind : Nat} {x : Array Nat} {Q : Array Nat × Nat → Shared → Prop} (hf : Fits kind x) (h : Q (x, kind) s) : wpAny M A (reTextOf (TV kind x t)) Q E s := by
  rcases hf with rfl | ⟨rfl, hx⟩
  · exact wpAny_bind (wpAny_pure (wpAny_pure h))
  · unfold reTextOf
    refine wpAny_bind (wpAny_pure ?_)
    dsimp only
    refine wpAny_bind (bufQ_bytes ?_)
    dsimp only
    rw [toNat_toUInt8 hx]
    exact wpAny_pure h
theorem reSlice_ {kind b e : Nat} {x : Array Nat} {Q : Value → Shared → Prop} (hk : kind = 0 ∨ kind = 1) (hs : x.size ≤ 10000000) (h : Q (TV kind (x.extract b e) s.toks) { s with toks := s.toks + 1 }) : wpAny M A (reSlice x kind b e) Q E s := by
  have hl : (x.extract b e).size ≤ 10000000 := by rw [Array.size_extract]; omega
  have hz : sizeLine = 16777216 := sizeLine_eq
  unfold reSlice
  rcases hk with rfl | rfl
  · rw [if_pos (by decide)]
    exact wpAny_mkStr h (by show (x.extract b e).size ≤ sizeLine; omega)
  · rw [if_neg (by decide)]
    unfold mkBytes
    rw [if_neg (by rw [Array.size_map]; omega)]
    exact fun _ _ _ => h

/-- a compiled pattern without groups -/
def Pat (h : Heap) (pat : Addr) (code : Array Nat) (kind : Nat) : Prop :=
  ∃ op fs oc items n ct, h.get? pat = some op ∧ op.cls = .type "re.Pattern" ∧ op.dict = none ∧ op.data = .fields fs ∧ reRawNat (fs.getD 2 .none) = 0 ∧ fs.getD 5 .none = .ref ct ∧ reRawNat (fs.getD 6 .none) = kind ∧
    h.get? ct = some oc ∧ oc.data = .seq items n ∧ (items.map reRawOf).map (·.toNat) = code
theorem Pat.keeps {h h' : Heap} {pat : Addr} {code : Array Nat} {kind : Nat} (P : Pat h pat code kind) (k : h.StaysIn h') : Pat h' pat code kind := by
  obtain ⟨op, fs, oc, items, n, ct, h1, h2, h3, h4, h5, h6, h7, h8, h9, h10⟩ := P
  exact ⟨op, fs, oc, items, n, ct, k _ _ h1, h2, h3, h4, h5, h6, h7, k _ _ h8, h9, h10⟩
theorem reTarget_ {pat : Addr} {code x : Array Nat} {kind : Nat} {Q : ReTarget → Shared → Prop} (P : Pat s.heap pat code kind) (hf : Fits kind x)
    (h : Q { pattern := .ref pat, string := TV kind x t, code, text := x, kind, groups := 0, pos := 0, lim := x.size } s) : wpAny M A (reWholeTarget (.ref pat) (TV kind x t)) Q E s := by
  obtain ⟨op, fs, oc, items, n, ct, h1, h2, h3, h4, h5, h6, h7, h8, h9, h10⟩ := P
  unfold reWholeTarget fieldsOf
  refine wpAny_bind (wpAny_bind (wpAny_load h1 ?_))
  rw [h4]
  refine wpAny_pure ?_
  refine wpAny_bind (reText hf ?_)
  dsimp only
  rw [h7]
  have hk : kind = 0 ∨ kind = 1 := hf.imp id And.left
  have go : wpAny M A (do
      reNoCollectionInside (TV kind x t) kind
      let __do_lift ← reRawItems (fs.getD 5 .none)
      pure ({ pattern := .ref pat, string := TV kind x t, code := __do_lift.map (·.toNat), text := x, kind, groups := reRawNat (fs.getD 2 .none), pos := 0, lim := x.size } : ReTarget)) Q E s := by
    have rest : wpAny M A (do
        let __do_lift ← reRawItems (fs.getD 5 .none)
        pure ({ pattern := .ref pat, string := TV kind x t, code := __do_lift.map (·.toNat), text := x, kind, groups := reRawNat (fs.getD 2 .none), pos := 0, lim := x.size } : ReTarget)) Q E s := by
      rw [h6, h5]
      unfold reRawItems seqItems?
      refine wpAny_bind (wpAny_bind (wpAny_bind (wpAny_load h8 ?_)))
      rw [h9]
      refine wpAny_pure (wpAny_pure (wpAny_pure ?_))
      show Q { pattern := .ref pat, string := TV kind x t, code := (items.map reRawOf).map (·.toNat), text := x, kind, groups := 0, pos := 0, lim := x.size } s
      rw [h10]
      exact h
    unfold reNoCollectionInside
    rcases hk with rfl | rfl
    · rw [if_neg (by decide)]
      exact wpAny_bind (wpAny_pure rest)
    · rw [if_pos (by decide)]
      refine wpAny_bind (wpAny_bind (wpAny_isInstance (typeIs_bytes _ _ _) PySem.F.sub_bytes_bytes ?_))
      rw [if_neg (by decide)]
      exact wpAny_pure rest
  rcases hk with rfl | rfl
  · rw [if_neg (by decide), if_neg (by decide)]
    exact go
  · rw [if_neg (by decide), if_neg (by decide)]
    exact go

theorem reDrive_ {Q : Sre.M → Shared → Prop} {m' : Sre.M} : ∀ (turns k : Nat) (m : Sre.M), k < 4 * turns → m.runFor k = m' → m'.outcome.isSome = true → Q m' s → wpAny M A (reDrive turns m) Q E s
  | 0, _, _, h, _, _, _ => absurd h (by omega)
  | turns + 1, k, m, hk, hr, ho, h => by
    unfold reDrive
    show wpAny M A (if (m.runFor 4).outcome.isSome = true then pure (m.runFor 4) else _) Q E s
    by_cases h4 : (m.runFor 4).outcome.isSome = true
    · rw [if_pos h4]
      have e : m.runFor 4 = m' := by
        rcases Nat.le_total k 4 with hl | hl
        · obtain ⟨d, e⟩ := Nat.le.dest hl
          rw [← e, runFor_add, hr, runFor_done _ _ ho]
        · obtain ⟨d, rfl⟩ := Nat.le.dest hl
          rw [runFor_add, runFor_done _ _ h4] at hr
          exact hr
      rw [e]; exact wpAny_pure h
    · rw [if_neg h4]
      have hl : 4 ≤ k := by
        rcases Nat.le_total k 4 with hl | hl
        · obtain ⟨d, e⟩ := Nat.le.dest hl
          rw [← e, runFor_add, hr, runFor_done _ _ ho] at h4
          exact absurd ho h4
        · exact hl
      obtain ⟨d, rfl⟩ := Nat.le.dest hl
      refine wpAny_bind (wpAny_rule (reDrive_ turns d _ (by omega) ?_ ho h))
      rw [← runFor_add]; exact hr

theorem reRun_ {Q : Option Sre.M → Shared → Prop} {m m' : Sre.M} {k : Nat} (hk : k < 1000000000) (hr : m.runFor k = m') (ho : (m'.outcome = some .matched ∧ Q (some m') s) ∨ (m'.outcome = some .failed ∧ Q none s)) : wpAny M A (reRunToEnd m) Q E s := by
  unfold reRunToEnd
  refine wpAny_bind (reDrive_ (2 ^ 64) k m (by have : (2 : Nat) ^ 64 = 18446744073709551616 := (by decide); omega) hr (by rcases ho with ⟨h, _⟩ | ⟨h, _⟩ <;> rw [h] <;> rfl) ?_)
  refine wpAny_bind (wpAny_forIn_list _ (fun _ _ s' => s' = s) _ (fun i rest u s' hs => ?_) (fun u s' hs => ?_) _ _ rfl)
  · subst hs
    refine wpAny_ite ?_
    split
    · exact wpAny_bind (wpAny_rule (wpAny_pure rfl))
    · exact wpAny_pure rfl
  · subst hs
    rcases ho with ⟨h, q⟩ | ⟨h, q⟩
    · rw [h]; exact wpAny_pure q
    · rw [h]; exact wpAny_pure q
end
end Mine
end

section
open PySem PySem.W PySem.Calls PyProof.Rows PySem.Builtin.Re
namespace Mine

theorem slot_bjoin : Slot "bytes" "join" "bytes.join" :=
  .of (owner := "bytes") (n := "join") (by rw [typeLookup_type, builtinLookup_eq_fast]; kernel_rfl) (by decide +kernel) (by decide +kernel) (by decide +kernel)
    (by first | exact .inl (by decide +kernel) | exact .inr (by decide +kernel)) (by rw [isSubtype_type]; kernel_rfl)
theorem entry_bjoin : entryFor table "bytes.join" = some Builtin.«bytes.join» := entryFor_of_tree (by kernel_rfl)
theorem args_bjoin (a b : Value) : argsOk "bytes.join" ⟨[a, b], []⟩ := by unfold argsOk; kernel_rfl

inductive BytesAre : List Value → List (Array UInt8) → Prop
  | nil : BytesAre [] []
  | cons (b : Array UInt8) (t : Tok) {vs bs} : BytesAre vs bs → BytesAre (.bytes b t :: vs) (b :: bs)
theorem BytesAre.append {vs us : List Value} {bs cs : List (Array UInt8)} (h : BytesAre vs bs) (g : BytesAre us cs) : BytesAre (vs ++ us) (bs ++ cs) := by
  induction h with
  | nil => exact g
  | cons b t _ ih => exact .cons b t ih
theorem BytesAre.length {vs : List Value} {bs : List (Array UInt8)} (h : BytesAre vs bs) : vs.length = bs.length := by
  induction h with
  | nil => rfl
  | cons b t _ ih => rw [List.length_cons, List.length_cons, ih]
theorem BytesAre.get {vs : List Value} {bs : List (Array UInt8)} (h : BytesAre vs bs) : ∀ i (hi : i < bs.length), ∃ t, vs[i]? = some (.bytes bs[i] t) := by
  induction h with
  | nil => intro i hi; exact absurd hi (Nat.not_lt_zero _)
  | cons b t _ ih =>
    intro i hi
    cases i with
    | zero => exact ⟨t, rfl⟩
    | succ i => simpa using ih i (by simpa using hi)

theorem joined_list : ∀ (bs : List (Array UInt8)) (k : Nat) (acc : Array UInt8), (((bs.zipIdx k).foldl (fun out (p, i) => (if i > 0 then out ++ (#[] : Array UInt8) else out) ++ p) acc)).toList = acc.toList ++ bs.flatMap (·.toList)
  | [], k, acc => by simp
  | b :: bs, k, acc => by
    rw [List.zipIdx_cons, List.foldl_cons, joined_list bs (k + 1)]
    simp only [List.flatMap_cons]
    split <;> simp
theorem joined_eq (bs : List (Array UInt8)) : Builtin.Bytes.joined #[] bs = (bs.flatMap (·.toList)).toArray := by
  have h := joined_list bs 0 #[]
  rw [← Array.toArray_toList (xs := Builtin.Bytes.joined #[] bs)]
  exact congrArg List.toArray (h.trans (by simp))

section
variable {M : Model} {A : Around} {E : Value → Shared → Prop} {s : Shared}
theorem letGo_ {keep : List Value} {Q : Unit → Shared → Prop} (h : Q () s) : ∀ (l : List Value), wpAny M A (letGo l keep) Q E s
  | [] => wpAny_pure h
  | _ :: r => wpAny_bind (wpAny_holding (wpAny_point (letGo_ h r)))
theorem joinLetGo_ {keep : List Value} {Q : Unit → Shared → Prop} (h : Q () s) : ∀ (l : List (Value × Option Value)), (∀ p ∈ l, p.2 = none) → wpAny M A (Builtin.Bytes.joinLetGo l keep) Q E s
  | [], _ => wpAny_pure h
  | (x, w) :: r, hl => by
    have e : w = none := hl (x, w) (.head _)
    subst e
    unfold Builtin.Bytes.joinLetGo
    exact wpAny_bind (letGo_ (joinLetGo_ h r fun p hp => hl p (.tail _ hp)) _)
end

section
variable {prog : Program} {w : World} {A : Around} {E : Value → Shared → Prop} {s : Shared}
theorem bytes_join {l : Addr} {vs : List Value} {bs : List (Array UInt8)} {t : Tok} {Q : Value → Shared → Prop} (hl : s.heap.IsList l vs.toArray) (hb : BytesAre vs bs) (hne : bs ≠ []) (hsz : (bs.map (·.size)).sum ≤ 10000000)
    (h : ∀ t tk, Q (.bytes (bs.flatMap (·.toList)).toArray t) { s with toks := tk }) : wpAny (model prog w) A (call (.builtin "bytes.join") [.bytes #[] t, .ref l]) Q E s := by
  obtain ⟨o, ho, hc, n, hd⟩ := id hl
  refine wpAny_call_entry slot_bjoin (typeIs_bytes _ _ _) entry_bjoin ?_ (args_bjoin _ _)
  unfold Builtin.«bytes.join» Builtin.Bytes.joinM
  refine wpAny_bind (wpAny_pure ?_)
  dsimp only
  rw [if_pos (by decide)]
  unfold Builtin.Bytes.joinItems
  refine wpAny_bind (wpAny_bind (wpAny_typeOf hl.typeIs ?_))
  rw [if_pos (by decide)]
  refine wpAny_pure ?_
  unfold seqItems?
  refine wpAny_bind (wpAny_bind (wpAny_load ho ?_))
  rw [hd]
  refine wpAny_pure ?_
  dsimp only
  rw [if_pos (by decide)]
  cases hb with
  | nil => exact absurd rfl hne
  | cons b1 t1 hb' =>
    cases hb' with
    | nil =>
      refine wpAny_bind (wpAny_typeOf (T := "bytes") rfl ?_)
      rw [if_pos (by decide)]
      refine wpAny_bind (wpAny_rule (wpAny_pure ⟨_, rfl, ?_⟩))
      have hh := h t1 s.toks
      have e : ([b1].flatMap (·.toList)).toArray = b1 := by simp
      rw [e] at hh
      exact hh
    | @cons b2 t2 us cs hb'' =>
      have hB : BytesAre (.bytes b1 t1 :: .bytes b2 t2 :: us) (b1 :: b2 :: cs) := .cons _ _ (.cons _ _ hb'')
      clear hb''
      with_unfolding_all refine wpAny_bind ?_
      generalize hvs : (Value.bytes b1 t1 :: Value.bytes b2 t2 :: us) = vs at *
      generalize hbs : (b1 :: b2 :: cs) = bs at *
      clear hvs hbs b1 b2 cs us t1 t2
      have hlen : vs.toArray.size = bs.length := by rw [List.size_toArray]; exact hB.length
      rw [KPc.range_list]
      refine wpAny_forIn_list _ (fun rest st s' => s' = s ∧ (∃ i, i + rest.length = bs.length ∧ rest = List.range' i (bs.length - i) 1 ∧ st.1.toList = bs.take i) ∧ ∀ p ∈ st.2, p.2 = none ∧ p.1.onHeap = false) _ ?_ ?_ _ _ ?_
      · rintro i rest ⟨parts, taken⟩ s' ⟨rfl, ⟨i', hi1, hi2, hp⟩, ht⟩
        have hi : i = i' ∧ rest = List.range' (i' + 1) (bs.length - (i' + 1)) 1 := by
          have hlt : i' < bs.length := by rw [List.length_cons] at hi1; omega
          have e : bs.length - i' = (bs.length - (i' + 1)) + 1 := by omega
          rw [e, List.range'_succ, List.cons.injEq] at hi2
          exact hi2
        obtain ⟨rfl, hr⟩ := hi
        have hlt : i < bs.length := by rw [List.length_cons] at hi1; omega
        obtain ⟨ti, hv⟩ := hB.get i hlt
        have hg : vs.toArray.getD i .none = .bytes bs[i] ti := by
          rw [Array.getD_eq_getD_getElem?]; simp [hv]
        refine wpAny_bind (wpAny_bind (wpAny_load ho ?_))
        rw [hd]
        refine wpAny_pure ?_
        dsimp only
        rw [hg, if_neg (by
          have : (taken.any fun x => x.fst.onHeap) = false := List.any_eq_false.mpr fun p hp => by rw [(ht p hp).2]; exact Bool.false_ne_true
          rw [this]; decide)]
        refine wpAny_bind (wpAny_holding (takeQ_bytes ?_))
        dsimp only
        refine wpAny_bind (wpAny_bind (wpAny_load ho ?_))
        rw [hd]
        refine wpAny_pure ?_
        dsimp only
        rw [if_neg (by simp)]
        refine wpAny_pure ⟨rfl, ⟨i + 1, by rw [List.length_cons] at hi1; omega, hr, ?_⟩, ?_⟩
        · rw [Array.toList_push, hp, List.take_add_one, List.getElem?_eq_getElem hlt]; rfl
        · intro p hp'
          rcases List.mem_append.mp hp' with q | q
          · exact ht p q
          · rw [List.mem_singleton.mp q]; exact ⟨rfl, rfl⟩
      · rintro ⟨parts, taken⟩ s' ⟨rfl, ⟨i, hi1, hi2, hp⟩, ht⟩
        have hi : i = bs.length := by simpa using hi1
        rw [hi, List.take_length] at hp
        refine wpAny_bind (wpAny_pure ?_)
        dsimp only
        have hz : sizeLine = 16777216 := sizeLine_eq
        have hpb : parts = bs.toArray := by rw [← hp]
        have hsum : ∀ (l : List (Array UInt8)) (k : Nat), l.foldl (fun x1 x2 => x1 + x2.size) k = k + (l.map (·.size)).sum := by
          intro l
          induction l with
          | nil => intro k; simp
          | cons a l ih => intro k; rw [List.foldl_cons, ih, List.map_cons, List.sum_cons]; omega
        have hfl : parts.foldl (fun x1 x2 => x1 + x2.size) ((#[] : Array UInt8).size * (parts.size - 1)) = (bs.map (·.size)).sum := by
          rw [hpb, ← Array.foldl_toList, hsum]; simp
        rw [hfl, if_neg (by show ¬ (decide ((bs.map (·.size)).sum > sizeLine) = true); rw [decide_eq_true_eq]; omega)]
        have hj : (Builtin.Bytes.joined #[] parts.toList).size ≤ sizeLine := by
          rw [hp, joined_eq, List.size_toArray, List.length_flatMap]
          have : (bs.map fun x => x.toList.length) = bs.map (·.size) := by simp
          rw [this]; omega
        unfold Builtin.Bytes.Kind.new mkBytes
        dsimp only
        rw [if_neg (by omega)]
        refine wpAny_bind (wpAny_bind (wpAny_fresh (wpAny_pure ?_)))
        refine wpAny_bind (wpAny_holding (wpAny_point ?_))
        refine wpAny_bind (joinLetGo_ ?_ _ fun p hp => (ht p hp).1)
        refine wpAny_pure ⟨_, rfl, ?_⟩
        rw [hp, joined_eq]
        exact h _ _
      · exact ⟨rfl, ⟨0, by simp [hlen], by simp [hlen], rfl⟩, fun p hp => nomatch hp⟩
end
end Mine
end

section
open PySem PySem.W PySem.Calls PyProof.Rows PySem.Builtin.Re
namespace Mine

theorem glued_nil : ∀ (ys : List Str), (Builtin.Str.glued ⟨#[]⟩ ys).cps.toList = ys.flatMap (·.cps.toList) := by
  intro ys
  have key : ∀ (r : List Str) (acc : Array Nat), (r.foldl (fun acc p => acc ++ (#[] : Array Nat) ++ p.cps) acc).toList = acc.toList ++ r.flatMap (·.cps.toList) := by
    intro r
    induction r with
    | nil => intro acc; simp
    | cons a r ih => intro acc; rw [List.foldl_cons, ih]; simp
  cases ys with
  | nil => rfl
  | cons y r => exact (key r y.cps).trans (by simp)

/-- the pieces' values -/
inductive Pcs (kind : Nat) : List Value → List (Array Nat) → Prop
  | nil : Pcs kind [] []
  | cons (x : Array Nat) (t : Tok) {vs ps} : Pcs kind vs ps → Pcs kind (TV kind x t :: vs) (x :: ps)
theorem Pcs.append {kind : Nat} {vs us : List Value} {ps qs : List (Array Nat)} (h : Pcs kind vs ps) (g : Pcs kind us qs) : Pcs kind (vs ++ us) (ps ++ qs) := by
  induction h with
  | nil => exact g
  | cons x t _ ih => exact .cons x t ih
theorem Pcs.length {kind : Nat} {vs : List Value} {ps : List (Array Nat)} (h : Pcs kind vs ps) : vs.length = ps.length := by
  induction h with
  | nil => rfl
  | cons b t _ ih => rw [List.length_cons, List.length_cons, ih]
theorem Pcs.strs {vs : List Value} {ps : List (Array Nat)} (h : Pcs 0 vs ps) : StrsAre vs (ps.map Str.mk) := by
  induction h with
  | nil => exact .nil
  | cons b t _ ih => exact .cons _ _ ih
theorem Pcs.bytes {vs : List Value} {ps : List (Array Nat)} (h : Pcs 1 vs ps) : BytesAre vs (ps.map fun x => x.map (·.toUInt8)) := by
  induction h with
  | nil => exact .nil
  | cons b t _ ih => exact .cons _ _ ih
/-- what the pieces are, glued -/
def cat (ps : List (Array Nat)) : List Nat := ps.flatMap (·.toList)
theorem cat_size (ps : List (Array Nat)) : (cat ps).length = (ps.map (·.size)).sum := by
  rw [cat, List.length_flatMap]
  simp

section
variable {prog : Program} {w : World} {A : Around} {E : Value → Shared → Prop} {s : Shared}
theorem join_pcs {kind : Nat} {l : Addr} {vs : List Value} {ps : List (Array Nat)} {t : Tok} {Q : Value → Shared → Prop} (hk : kind = 0 ∨ kind = 1) (hl : s.heap.IsList l vs.toArray) (hb : Pcs kind vs ps) (hne : ps ≠ []) (hsz : (ps.map (·.size)).sum ≤ 10000000)
    (h : ∀ t tk, Q (TV kind (cat ps).toArray t) { s with toks := tk }) : wpAny (model prog w) A (call (.builtin (if kind == 0 then "str.join" else "bytes.join")) [TV kind #[] t, .ref l]) Q E s := by
  rcases hk with rfl | rfl
  · refine join_list hl (by simpa using hb.strs) ?_ fun t' k => ?_
    · have e : ((ps.map Str.mk).map (·.length)).sum = (ps.map (·.size)).sum := by rw [List.map_map]; rfl
      rw [e]
      show _ + _ * 0 ≤ _
      omega
    · have e : Txt.join ⟨#[]⟩ (ps.map Str.mk) = ⟨(cat ps).toArray⟩ := by
        have g := glued_nil (ps.map Str.mk)
        have : (Builtin.Str.glued ⟨#[]⟩ (ps.map Str.mk)).cps = (cat ps).toArray := by
          rw [← Array.toArray_toList (xs := (Builtin.Str.glued ⟨#[]⟩ (ps.map Str.mk)).cps), g, cat, List.flatMap_map]
        exact congrArg Str.mk this
      rw [e]; exact h t' k
  · show wpAny _ _ (call (.builtin "bytes.join") [.bytes (Array.map (fun c : Nat => c.toUInt8) #[]) t, .ref l]) _ _ _
    rw [Array.map_empty]
    refine bytes_join hl hb.bytes (by simpa using hne) ?_ fun t' k => ?_
    · have e : ((ps.map fun x => x.map (·.toUInt8)).map (·.size)).sum = (ps.map (·.size)).sum := by rw [List.map_map]; congr 1; refine List.map_congr_left fun x _ => ?_; simp
      rw [e]; exact hsz
    · have e : ((ps.map fun x => x.map (·.toUInt8)).flatMap (·.toList)).toArray = (cat ps).toArray.map (·.toUInt8) := by
        rw [cat, List.flatMap_map]; simp [List.map_flatMap]
      rw [e]; exact h t' k

theorem updSeq {M : Model} {l : Addr} {xs : Array Value} {n : Nat} {f : Array Value → Array Value} {Q : Unit → Shared → Prop} (ho : s.heap.get? l = some (listOf xs n)) (hz : (f xs).size ≤ 10000000)
    (h : ∀ h' n', (∀ b, b ≠ l → h'.get? b = s.heap.get? b) → h'.get? l = some (listOf (f xs) n') → Q () { s with heap := h' }) : wpAny M A (updateSeq l f) Q E s := by
  have hl : sizeLine = 16777216 := sizeLine_eq
  have e : (s.heap.update l (Obj.mapSeq f)).get? l = some (listOf (f xs) (if (f xs).size == xs.size then n else n + 1)) := Heap.get?_update_self _ ho rfl
  unfold updateSeq
  refine wpAny_bind (wpAny_load ho ?_)
  dsimp only
  refine wpAny_bind (wpAny_updatePart ho ?_)
  refine wpAny_lookBehind (o := listOf (f xs) (if (f xs).size == xs.size then n else n + 1)) e ?_ (h _ _ (fun b hb => Heap.get?_update_ne _ _ _ _ hb) e)
  show (if (f xs).size > sizeLine + 1 then some "sequence:memory" else none) = none
  rw [if_neg (by omega)]

/-- the loop's arguments -/
def sargs (pat : Addr) (v r : Value) (n : Int) (d : Nat) (l : Addr) : Args := ⟨[.ref pat, v, r, rawInt 0, rawInt 0, rawInt n, rawInt d, rawInt d, .bool false, .ref l, .bool false], []⟩

theorem lit_turned {M : Model} {kind : Nat} {r : Array Nat} {t : Tok} {Q : Unit → Shared → Prop} (hk : kind = 0 ∨ kind = 1) (h : Q () s) : wpAny M A (reLiteralCannotBeTurned (TV kind r t)) Q E s := by
  unfold reLiteralCannotBeTurned
  rcases hk with rfl | rfl
  · exact wpAny_bind (wpAny_pure (wpAny_pure h))
  · refine wpAny_bind (wpAny_pure ?_)
    rw [if_pos (by decide)]
    refine wpAny_bind (wpAny_isInstance (typeIs_bytes _ _ _) PySem.F.sub_bytes_bytes ?_)
    rw [if_neg (by decide)]
    exact wpAny_pure h

theorem plain_loop : plainId "re.Pattern.sub.loop" = true := by decide +kernel

theorem sub_loop {base : Heap} {pat l : Addr} {kind : Nat} {code x r : Array Nat} {t tr : Tok} {P : Nat → Bool} {wd : Nat → Nat} {G : Nat → List Nat} {R : Result → Shared → Prop}
    (hpat : Pat base pat code kind) (hf : Fits kind x) (hx : x.size ≤ 100000) (hr : r.size ≤ 10) (hlb : base.get? l = none)
    (find : ∀ d, d ≤ x.size → ∃ k m, k ≤ 5 * (x.size + 1) + 15 ∧ (Sre.forSearch code x 0 d x.size false).runFor k = m ∧ Found P wd x.size d m)
    (hw : ∀ i, P i = true → 1 ≤ wd i ∧ i + wd i ≤ x.size)
    (hG0 : ∀ d, d ≤ x.size → (∀ j, d ≤ j → P j = false) → G d = x.toList.drop d)
    (hG1 : ∀ d i, d ≤ i → i < x.size → P i = true → (∀ j, d ≤ j → j < i → P j = false) → G d = (x.toList.drop d).take (i - d) ++ r.toList ++ G (i + wd i)) :
    ∀ (fuel d : Nat) (n : Int) (vs : List Value) (ps : List (Array Nat)) (ln : Nat) (s : Shared), x.size - d < fuel → d ≤ x.size → base.StaysIn s.heap → s.heap.get? l = some (listOf vs.toArray ln) → Pcs kind vs ps →
      ps.length ≤ 2 * d → (ps.map (·.size)).sum ≤ 11 * d → (∀ t h' tk, base.StaysIn h' → R (.ok (.ret (TV kind (cat ps ++ G d).toArray t))) { s with heap := h', toks := tk }) →
      codeAny (model prog w) A (.builtin "re.Pattern.sub.loop" (sargs pat (TV kind x t) (TV kind r tr) n d l)) R s := by
  intro fuel
  have hk : kind = 0 ∨ kind = 1 := hf.imp id And.left
  induction fuel with
  | zero => intro d n vs ps ln s h; exact absurd h (Nat.not_lt_zero _)
  | succ fuel ih =>
    intro d n vs ps ln s hfu hd st hl hp hpl hps h
    refine codeAny_builtin entry_loop ?_
    rw [Around.under_plainId plain_loop]
    unfold Builtin.«re.Pattern.sub.loop» sargs
    refine wpAny_bind (reTarget_ (hpat.keeps st) hf ?_)
    dsimp only
    rw [if_pos (by decide)]
    refine wpAny_bind (lit_turned hk ?_)
    obtain ⟨k, m, hkk, hrun, hfound⟩ := find d hd
    refine wpAny_bind ?_
    show wpAny _ _ (if (((0 : Int) != 0) && decide (n ≥ 0)) = true then pure none else reNextFound _ (d : Int).toNat false) _ _ _
    rw [if_neg (by simp)]
    unfold reNextFound
    dsimp only
    rw [Int.toNat_natCast]
    refine reRun_ (k := k) (m' := m) (by omega) hrun ?_
    have keepU : ∀ {h h' : Heap}, base.StaysIn h → (∀ b, b ≠ l → h'.get? b = h.get? b) → base.StaysIn h' := by
      intro h h' st' hb b o e
      rw [hb b fun q => by rw [q, hlb] at e; cases e]
      exact st' b o e
    rcases hfound with ⟨ho, hno⟩ | ⟨ho, h1, h2, h3, h4, h5⟩
    · refine .inr ⟨ho, ?_⟩
      dsimp only
      have hG := hG0 d hd hno
      have fin : ∀ (s₂ : Shared) (us : List Value) (qs : List (Array Nat)) (ln : Nat), base.StaysIn s₂.heap → s₂.heap.get? l = some (listOf us.toArray ln) → Pcs kind us qs → (qs.map (·.size)).sum ≤ 2000000 → cat qs = cat ps ++ G d → s₂.gens = s.gens → s₂.drawn = s.drawn → s₂.os = s.os →
          wpAny (model prog w) A.in1 (do
            let joiner ← reSlice x kind 0 0
            let __do_lift ← seqItems? (.ref l)
            if (__do_lift.getD #[]).isEmpty = true then do
              let text ← pure joiner
              if false = true then do
                  let __do_lift ← holding [text] do
                    let __do_lift ← mkInt n
                    newTuple [text, __do_lift]
                  ret __do_lift
                else ret text
            else do
              let text ← call (.builtin (if (kind == 0) = true then "str.join" else "bytes.join")) [joiner, .ref l]
              if false = true then do
                  let __do_lift ← holding [text] do
                    let __do_lift ← mkInt n
                    newTuple [text, __do_lift]
                  ret __do_lift
                else ret text) (fun fin s' => match fin with | .done f => R (.ok f) s' | .again c' => c'.quiet = true ∧ codeAny (model prog w) A c' R s') (fun e s' => R (.error e) s') s₂ := by
        intro s₂ us qs ln st₂ hl₂ hp₂ hz hc e1 e2 e3
        refine wpAny_bind (reSlice_ hk (by omega) ?_)
        have e0 : x.extract 0 0 = #[] := by simp
        rw [e0]
        have last : ∀ t tk, R (.ok (.ret (TV kind (cat qs).toArray t))) { s₂ with toks := tk } := by
          intro t tk
          rw [hc]
          have := h t s₂.heap tk st₂
          obtain ⟨a1, a2, a3, a4, a5⟩ := s₂
          simp only at e1 e2 e3
          subst e1 e2 e3
          exact this
        unfold seqItems?
        refine wpAny_bind (wpAny_bind (wpAny_load hl₂ ?_))
        dsimp only
        refine wpAny_pure ?_
        cases hp₂ with
        | nil =>
          rw [if_pos (by rfl)]
          refine wpAny_bind (wpAny_pure ?_)
          rw [if_neg Bool.false_ne_true]
          exact wpAny_pure (last _ _)
        | @cons y ty us' qs' hp' =>
          rw [if_neg (by simp)]
          refine wpAny_bind (join_pcs hk ⟨_, hl₂, rfl, _, rfl⟩ (.cons y ty hp') (by simp) (by omega) fun t' tk => ?_)
          rw [if_neg Bool.false_ne_true]
          exact wpAny_pure (last _ _)
      by_cases hdl : d < x.size
      · rw [if_pos hdl]
        refine wpAny_bind (reSlice_ hk (by omega) ?_)
        refine wpAny_bind (updSeq (s := { s with toks := s.toks + 1 }) hl (by rw [Array.size_push, List.size_toArray, hp.length]; omega) fun h' n' hb he => ?_)
        rw [List.push_toArray] at he
        refine fin _ _ (ps ++ [x.extract d x.size]) n' (keepU st hb) he (hp.append (.cons _ _ .nil)) ?_ ?_ rfl rfl rfl
        · rw [List.map_append, List.sum_append]
          simp only [List.map_cons, List.map_nil, List.sum_cons, List.sum_nil, Array.size_extract]
          omega
        · rw [hG, cat, List.flatMap_append, ← cat]
          simp only [List.flatMap_cons, List.flatMap_nil, List.append_nil, Array.toList_extract]
          congr 1
          rw [List.extract_eq_take_drop, List.take_of_length_le]
          simp
      · rw [if_neg hdl]
        refine fin _ _ ps ln st hl hp (by omega) ?_ rfl rfl rfl
        rw [hG, List.drop_of_length_le (by simp; omega), List.append_nil]
    · refine .inl ⟨ho, ?_⟩
      dsimp only
      obtain ⟨hw1, hw2⟩ := hw _ h4
      have hG := hG1 d m.start h1 h2 h4 h5
      have hrv : (TV kind r tr != Value.none) = true := by rcases hk with rfl | rfl <;> rfl
      have hmu : (m.handed == m.start) = false := by rw [h3]; exact beq_eq_false_iff_ne.mpr (by omega)
      have go : ∀ (s₂ : Shared) (us : List Value) (qs : List (Array Nat)) (ln : Nat), base.StaysIn s₂.heap → s₂.heap.get? l = some (listOf us.toArray ln) → Pcs kind us qs → qs.length ≤ ps.length + 1 → (qs.map (·.size)).sum ≤ 11 * d + (m.start - d) → cat qs = cat ps ++ (x.toList.drop d).take (m.start - d) → s₂.gens = s.gens → s₂.drawn = s.drawn → s₂.os = s.os →
          wpAny (model prog w) A.in1 (do
            updateSeq l fun x => x.push (TV kind r tr)
            again (Code.builtin "re.Pattern.sub.loop" ⟨[.ref pat, TV kind x t, TV kind r tr, rawInt 0, rawInt 0, rawInt (n + 1), rawInt m.handed, rawInt m.handed, .bool (m.handed == m.start), .ref l, .bool false], []⟩))
            (fun fin s' => match fin with | .done f => R (.ok f) s' | .again c' => c'.quiet = true ∧ codeAny (model prog w) A c' R s') (fun e s' => R (.error e) s') s₂ := by
        intro s₂ us qs ln st₂ hl₂ hp₂ hz1 hz2 hc e1 e2 e3
        refine wpAny_bind (updSeq hl₂ (by rw [Array.size_push, List.size_toArray, hp₂.length]; omega) fun h' n' hb he => ?_)
        rw [List.push_toArray] at he
        refine wpAny_pure ⟨plainId_quiet plain_loop _, ?_⟩
        rw [hmu, h3]
        refine ih (m.start + wd m.start) (n + 1) _ (qs ++ [r]) n' _ (by omega) (by omega) (keepU st₂ hb) he (hp₂.append (.cons _ _ .nil)) ?_ ?_ ?_
        · rw [List.length_append, List.length_singleton]; omega
        · rw [List.map_append, List.sum_append]
          simp only [List.map_cons, List.map_nil, List.sum_cons, List.sum_nil]
          omega
        · intro t' h'' tk st''
          have e : cat (qs ++ [r]) ++ G (m.start + wd m.start) = cat ps ++ G d := by
            rw [hG, cat, List.flatMap_append, ← cat, hc]
            simp only [List.flatMap_cons, List.flatMap_nil, List.append_nil, List.append_assoc]
          rw [e]
          have := h t' h'' tk st''
          obtain ⟨a1, a2, a3, a4, a5⟩ := s₂
          simp only at e1 e2 e3
          subst e1 e2 e3
          exact this
      by_cases hdl : d < m.start
      · rw [if_pos hdl]
        refine wpAny_bind (reSlice_ hk (by omega) ?_)
        refine wpAny_bind (updSeq (s := { s with toks := s.toks + 1 }) hl (by rw [Array.size_push, List.size_toArray, hp.length]; omega) fun h' n' hb he => ?_)
        rw [List.push_toArray] at he
        rw [if_pos (by decide)]
        refine wpAny_bind (wpAny_pure ?_)
        rw [if_pos hrv]
        refine go _ _ (ps ++ [x.extract d m.start]) n' (keepU st hb) he (hp.append (.cons _ _ .nil)) (by simp) ?_ ?_ rfl rfl rfl
        · rw [List.map_append, List.sum_append]
          simp only [List.map_cons, List.map_nil, List.sum_cons, List.sum_nil, Array.size_extract]
          omega
        · rw [cat, List.flatMap_append, ← cat]
          simp only [List.flatMap_cons, List.flatMap_nil, List.append_nil, Array.toList_extract]
      · rw [if_neg hdl, if_pos (by decide)]
        refine wpAny_bind (wpAny_pure ?_)
        rw [if_pos hrv]
        refine go _ _ ps ln st hl hp (by omega) (by omega) ?_ rfl rfl rfl
        have : m.start - d = 0 := by omega
        rw [this, List.take_zero, List.append_nil]
end
end Mine
end

section
open PySem PySem.W PySem.Calls PyProof.Rows PySem.Builtin.Re
namespace Mine
theorem named_sub (a b : Value) : reNamed "re.Pattern.sub" "sub" ["repl", "string", "count"] 2 [a, b] [] = pure [some a, some b, none] := by kernel_rfl

section
variable {prog : Program} {w : World} {A : Around} {E : Value → Shared → Prop} {s : Shared}
theorem sub_call {pat : Addr} {kind : Nat} {code x r : Array Nat} {t tr : Tok} {P : Nat → Bool} {wd : Nat → Nat} {G : Nat → List Nat} {Q : Value → Shared → Prop}
    (hpat : Pat s.heap pat code kind) (hf : Fits kind x) (hx : x.size ≤ 100000) (hr : r.size ≤ 10) (h92 : (r.contains 92 || (r.map (·.toUInt8)).contains 92) = false)
    (find : ∀ d, d ≤ x.size → ∃ k m, k ≤ 5 * (x.size + 1) + 15 ∧ (Sre.forSearch code x 0 d x.size false).runFor k = m ∧ Found P wd x.size d m)
    (hw : ∀ i, P i = true → 1 ≤ wd i ∧ i + wd i ≤ x.size)
    (hG0 : ∀ d, d ≤ x.size → (∀ j, d ≤ j → P j = false) → G d = x.toList.drop d)
    (hG1 : ∀ d i, d ≤ i → i < x.size → P i = true → (∀ j, d ≤ j → j < i → P j = false) → G d = (x.toList.drop d).take (i - d) ++ r.toList ++ G (i + wd i))
    (h : ∀ t h' tk, s.heap.StaysIn h' → Q (TV kind (G 0).toArray t) { s with heap := h', toks := tk }) :
    wpAny (model prog w) A (call (.builtin "re.Pattern.sub") [.ref pat, TV kind r tr, TV kind x t]) Q E s := by
  have hk : kind = 0 ∨ kind = 1 := hf.imp id And.left
  have hT : s.TypeIs (.ref pat) "re.Pattern" := by
    obtain ⟨op, fs, oc, items, n, ct, h1, h2, _⟩ := hpat
    exact ⟨op, h1, h2⟩
  obtain ⟨ha, hb⟩ := Bool.or_eq_false_iff.mp h92
  refine wpAny_call (codeAny_call_builtin slot_sub.plain entry_sub (slot_sub.check _ _ _ _ _ _ _ _ hT (args_sub _ _ _) ?_))
  unfold Builtin.«re.Pattern.sub» reSubstitute
  dsimp only
  rw [named_sub]
  refine wpAny_bind (wpAny_pure ?_)
  dsimp only
  refine wpAny_bind (wpAny_pure ?_)
  have loop : wpAny (model prog w) A.in1 (do
      let __do_lift ← newList []
      again (.builtin "re.Pattern.sub.loop" ⟨[.ref pat, TV kind x t, TV kind r tr, rawInt 0, rawInt 0, rawInt 0, rawInt 0, rawInt 0, .bool false, __do_lift, .bool false], []⟩))
      (fun fin s' => match fin with | .done f => (match (Except.ok f : Result) with | .ok (.ret v) => Q v s' | .ok _ => False | .error e => E e s') | .again c' => c'.quiet = true ∧ codeAny (model prog w) A c' (fun r s' => match r with | .ok (.ret v) => Q v s' | .ok _ => False | .error e => E e s') s') (fun e s' => E e s') s := by
    refine wpAny_bind (wpAny_newObj_type ?_ (by show 0 ≤ sizeLine; exact Nat.zero_le _))
    refine wpAny_pure ⟨plainId_quiet plain_loop _, ?_⟩
    refine sub_loop (base := s.heap) (G := G) hpat hf hx hr ?_ find hw hG0 hG1 (x.size + 1) 0 0 [] [] 0 _ (by omega) (Nat.zero_le _) ?_ ?_ .nil (by simp) (by simp) ?_
    · cases hq : s.heap.get? s.heap.objs.size with
      | none => rfl
      | some o' => exact absurd (Heap.lt_size hq) (Nat.lt_irrefl _)
    · intro b o e; exact Heap.get?_push_of_some _ e
    · exact Heap.get?_push_size _ rfl
    · intro t' h' tk st
      exact h t' h' tk st
  rcases hk with rfl | rfl
  · refine wpAny_bind (wpAny_specialOf (T := "str") rfl look_str_call ?_)
    rw [if_neg (by decide)]
    refine wpAny_bind (wpAny_pure ?_)
    refine wpAny_bind (wpAny_pure ?_)
    rw [if_neg (by decide), if_pos (by show (!r.contains 92) = true; rw [ha]; rfl)]
    refine wpAny_bind (wpAny_pure ?_)
    refine wpAny_bind (wpAny_holding (reTarget_ hpat hf ?_))
    rw [if_neg (by show ¬ (((0 : Int) == 1) = true); decide)]
    exact loop
  · refine wpAny_bind (wpAny_specialOf (T := "bytes") rfl look_bytes_call ?_)
    rw [if_neg (by decide)]
    refine wpAny_bind (wpAny_pure ?_)
    refine wpAny_bind (bufQ_bytes ?_)
    refine wpAny_bind (wpAny_pure ?_)
    rw [if_neg (by decide), if_pos (by show (!(r.map (·.toUInt8)).contains 92) = true; rw [hb]; rfl)]
    refine wpAny_bind (wpAny_pure ?_)
    refine wpAny_bind (wpAny_holding (reTarget_ hpat hf ?_))
    rw [if_neg (by show ¬ (((0 : Int) == 1) = true); decide)]
    exact loop

theorem flag0 (x : Array Nat) : dotsGo (flag x 0) (x.toList.drop 0) = dotsGo true x.toList := rfl
/-- the dots of a text or of octets -/
theorem sub_dots {pat : Addr} {kind : Nat} {x : Array Nat} {t tr : Tok} {Q : Value → Shared → Prop} (hpat : Pat s.heap pat code1 kind) (hf : Fits kind x) (hx : x.size ≤ 100000)
    (h : ∀ t h' tk, s.heap.StaysIn h' → Q (TV kind (dotsGo true x.toList).toArray t) { s with heap := h', toks := tk }) :
    wpAny (model prog w) A (call (.builtin "re.Pattern.sub") [.ref pat, TV kind #[46, 46] tr, TV kind x t]) Q E s := by
  refine sub_call (G := fun d => dotsGo (flag x d) (x.toList.drop d)) (P := dotAt x x.size) (wd := fun _ => 1) hpat hf hx (by decide) (by decide +kernel) ?_ ?_ ?_ ?_ ?_
  · intro d hd
    obtain ⟨k, m, a, b, c⟩ := dot_find x x.size d hd
    exact ⟨k, m, by omega, b, c⟩
  · intro i hi
    have := dotAt_lt hi
    omega
  · intro d hd hn; exact dots_none x _ d rfl hd hn
  · intro d i hd hi hP hn; exact dots_some x i hi hP _ d rfl hd hn
  · intro t' h' tk st; exact h t' h' tk st
/-- the ends of a text -/
theorem sub_ends {pat : Addr} {x : Array Nat} {t tr : Tok} {Q : Value → Shared → Prop} (hpat : Pat s.heap pat code3 0) (hx : x.size ≤ 100000)
    (h : ∀ t h' tk, s.heap.StaysIn h' → Q (.str ⟨(fixGo x.toList).toArray⟩ t) { s with heap := h', toks := tk }) :
    wpAny (model prog w) A (call (.builtin "re.Pattern.sub") [.ref pat, .str ⟨#[13, 10]⟩ tr, .str ⟨x⟩ t]) Q E s := by
  refine sub_call (kind := 0) (x := x) (r := #[13, 10]) (G := fun d => fixGo (x.toList.drop d)) (P := endAt x x.size) (wd := endW x x.size) hpat (.inl rfl) hx (by decide) (by decide +kernel) ?_ ?_ ?_ ?_ ?_
  · intro d hd
    obtain ⟨k, m, a, b, c⟩ := end_find x x.size d hd
    exact ⟨k, m, by omega, b, c⟩
  · intro i hi; exact endW_le hi
  · intro d hd hn; exact fix_none x _ d rfl hd hn
  · intro d i hd hi hP hn; exact fix_some x i hi hP _ d rfl hd hn
  · intro t' h' tk st; exact h t' h' tk st
end
end Mine
end

section
open PySem PySem.W PySem.Calls PyProof.Rows PySem.Builtin.Re
namespace Mine
theorem pat1 {w : World} {h : Heap} (X : (hd.heap_39 w.params).In h) : Pat h 36 code1 0 := 
  ⟨_, _, _, _, _, _, X 36 _ (by k_is), rfl, rfl, rfl, rfl, rfl, rfl, X 35 _ (by k_is), rfl, by decide +kernel⟩
theorem pat2 {w : World} {h : Heap} (X : (hd.heap_39 w.params).In h) : Pat h 41 code1 1 := 
  ⟨_, _, _, _, _, _, X 41 _ (by k_is), rfl, rfl, rfl, rfl, rfl, rfl, X 40 _ (by k_is), rfl, by decide +kernel⟩
theorem pat3 {w : World} {h : Heap} (X : (hd.heap_39 w.params).In h) : Pat h 46 code3 0 := 
  ⟨_, _, _, _, _, _, X 46 _ (by k_is), rfl, rfl, rfl, rfl, rfl, rfl, X 45 _ (by k_is), rfl, by decide +kernel⟩

section
variable {prog : Program} {w : World} {A : Around} {E : Value → Shared → Prop} {s : Shared}
theorem re_method {M : Model} {pat : Addr} {code : Array Nat} {kind : Nat} {pl : Sem Bool} {Q : Value × List Value → Shared → Prop} (P : Pat s.heap pat code kind) (h : Q (.builtin "re.Pattern.sub", [.ref pat]) s) :
    wpAny M A (getMethod (.ref pat) "sub" pl) Q E s := by
  obtain ⟨op, fs, oc, items, n, ct, h1, h2, h3, _⟩ := P
  exact getMethod_builtin (T := "re.Pattern") ⟨op, h1, h2⟩ pa_re slot_sub type_sub (fun a e => by cases e; exact ⟨op, h1, h3⟩) h
theorem sub_endsW {x : Array Nat} {t tr : Tok} {Q : Value → Shared → Prop} (X : (hd.heap_39 w.params).In s.heap) (hx : x.size ≤ 100000)
    (h : ∀ t h' tk, s.heap.StaysIn h' → Q (.str ⟨(fixGo x.toList).toArray⟩ t) { s with heap := h', toks := tk }) :
    wpAny (model prog w) A (call (.builtin "re.Pattern.sub") [.ref 46, .str (Str.ofString "\r\n") tr, .str ⟨x⟩ t]) Q E s := by
  rw [show Str.ofString "\r\n" = ⟨#[13, 10]⟩ from by decide +kernel]
  exact sub_ends (pat3 X) hx h
theorem sub_dotsW {x : Array Nat} {t tr : Tok} {Q : Value → Shared → Prop} (X : (hd.heap_39 w.params).In s.heap) (hx : x.size ≤ 100000)
    (h : ∀ t h' tk, s.heap.StaysIn h' → Q (.str ⟨(dotsGo true x.toList).toArray⟩ t) { s with heap := h', toks := tk }) :
    wpAny (model prog w) A (call (.builtin "re.Pattern.sub") [.ref 36, .str (Str.ofString "..") tr, .str ⟨x⟩ t]) Q E s := by
  rw [show Str.ofString ".." = ⟨#[46, 46]⟩ from by decide +kernel]
  exact sub_dots (kind := 0) (pat1 X) (.inl rfl) hx h
theorem sub_octsW {x : Array Nat} {t tr : Tok} {Q : Value → Shared → Prop} (X : (hd.heap_39 w.params).In s.heap) (hx : x.size ≤ 100000) (hb : ∀ c ∈ x, c < 256)
    (h : ∀ t h' tk, s.heap.StaysIn h' → Q (.bytes ((dotsGo true x.toList).toArray.map (·.toUInt8)) t) { s with heap := h', toks := tk }) :
    wpAny (model prog w) A (call (.builtin "re.Pattern.sub") [.ref 41, .bytes #[46, 46] tr, .bytes (x.map (·.toUInt8)) t]) Q E s := by
  have e : (#[46, 46] : Array UInt8) = (#[46, 46] : Array Nat).map (·.toUInt8) := by decide +kernel
  rw [e]
  exact sub_dots (kind := 1) (x := x) (t := t) (tr := tr) (pat2 X) (.inr ⟨rfl, hb⟩) hx h
end
local macro_rules | `(tactic| walk_at "getMethod ref") => `(tactic| first
  | ((with_reducible show wpAny _ _ (getMethod (Value.ref 36) _ _) _ _ _); refine re_method (pat1 (by k_in)) ?_)
  | ((with_reducible show wpAny _ _ (getMethod (Value.ref 41) _ _) _ _ _); refine re_method (pat2 (by k_in)) ?_)
  | ((with_reducible show wpAny _ _ (getMethod (Value.ref 46) _ _) _ _ _); refine re_method (pat3 (by k_in)) ?_))
theorem frAfter {h₀ h h' : Heap} {L : Addr} {m : Str → Option Value} (F : Fr h₀ L h m) (st : h.StaysIn h') : Fr h₀ L h' m := F.after st
theorem newsAfter {h₀ h h' : Heap} {L : Addr} {news : List (Addr × Obj)} (N : News h₀ L h news) (st : h.StaysIn h') : News h₀ L h' news := fun p hp => ⟨st _ _ (N p hp).1, (N p hp).2⟩
local macro_rules | `(tactic| walk_at "call builtin:re.Pattern.sub") => `(tactic| (first
  | (refine sub_endsW (by k_in) (by tb_start) ?_)
  | (refine sub_dotsW (by k_in) (by tb_start) ?_)
  | (refine sub_octsW (by k_in) (by tb_start) (by assumption) ?_)); intro t' h' tk' st'; (have F'' := frAfter (by assumption) st'); (have N'' := newsAfter (by assumption) st'); (clear st'); (try dsimp only); (try k_sweep))
theorem fix_len : ∀ (n : Nat) (l : List Nat), l.length ≤ n → (fixGo l).length ≤ 2 * l.length := by
  intro n
  induction n with
  | zero => intro l h; rw [List.length_eq_zero_iff.mp (Nat.le_zero.mp h)]; exact Nat.le_refl _
  | succ n ih =>
    intro l h
    cases l with
    | nil => exact Nat.le_refl _
    | cons c r =>
      rw [List.length_cons] at h
      cases hc : isEnd c with
      | false =>
        rw [fix_else _ _ hc, List.length_cons, List.length_cons]
        have := ih r (by omega)
        omega
      | true =>
        rw [fix_end _ _ hc, List.length_cons, List.length_cons, List.length_cons]
        split
        · have := ih r.tail (by rw [List.length_tail]; omega)
          rw [List.length_tail] at this
          omega
        · have := ih r (by omega)
          omega
theorem fix_size {x : Array Nat} (h : x.size ≤ 50000) : (fixGo x.toList).toArray.size ≤ 100000 := by
  have h1 := fix_len _ x.toList (Nat.le_refl _)
  have h2 : x.toList.length = x.size := Array.length_toList
  rw [List.size_toArray]
  omega
local macro_rules | `(tactic| tb_start) => `(tactic| first | assumption | exact fix_size (by assumption) | omega)

theorem fix_spec (w : World) {x : Array Nat} {t : Tok} (hx : x.size ≤ 100000) : Spec w 67 1 (fun _ => True) [.str ⟨x⟩ t] (fun _ _ r => ∃ t, r = .str ⟨(fixGo x.toList).toArray⟩ t) := by
  intro prog A s E Q ⟨X, p, loose, mg, mb, T⟩ hh hd hu _ h
  k_dflt (refine enter X T.nolimit (by omega) (by k_is) (by k_is) rfl (locs rfl) (by decide) rfl rfl rfl ?_)
  intro L' h' F' N'
  try dsimp only
  k_steps
  all_goals ((try dsimp only); exact h _ _ _ (Fr.keep (by assumption)) ⟨_, rfl⟩)

theorem quotedata_spec (w : World) {x : Array Nat} {t : Tok} (hx : x.size ≤ 50000) : Spec w 53 1 (fun _ => True) [.str ⟨x⟩ t] (fun _ _ r => ∃ t, r = .str ⟨(dotsGo true (fixGo x.toList)).toArray⟩ t) := by
  intro prog A s E Q ⟨X, p, loose, mg, mb, T⟩ hh hd hu _ h
  k_dflt (refine enter X T.nolimit (by omega) (by k_is) (by k_is) rfl (locs rfl) (by decide) rfl rfl rfl ?_)
  intro L' h' F' N'
  try dsimp only
  k_steps
  all_goals ((try dsimp only); exact h _ _ _ (Fr.keep (by assumption)) ⟨_, rfl⟩)

theorem periods_spec (w : World) {x : Array Nat} {t : Tok} (hx : x.size ≤ 50000) (hb : ∀ c ∈ x, c < 256) : Spec w 60 1 (fun _ => True) [.bytes (x.map (·.toUInt8)) t] (fun _ _ r => ∃ t, r = .bytes ((dotsGo true x.toList).toArray.map (·.toUInt8)) t) := by
  intro prog A s E Q ⟨X, p, loose, mg, mb, T⟩ hh hd hu _ h
  k_dflt (refine enter X T.nolimit (by omega) (by k_is) (by k_is) rfl (locs rfl) (by decide) rfl rfl rfl ?_)
  intro L' h' F' N'
  try dsimp only
  k_steps
  all_goals ((try dsimp only); exact h _ _ _ (Fr.keep (by assumption)) ⟨_, rfl⟩)

end Mine
end

section
open PySem PySem.W PySem.Calls PyProof.Rows PySem.Builtin.Re
namespace Mine

/-- a place where the walk stops -/
def Stop (P : Prop) : Prop := P
theorem for_stop {M : Model} {A : Around} {env : Env} {x : Str} {px pos : Pos} {iter : Expr} {body : List Stmt} {Q : Flow → Shared → Prop} {E : Value → Shared → Prop} {s : Shared}
    (h : Stop (wpAny M A (exec (.For (.Name x px) iter body [] pos) env) Q E s)) : wpAny M A (exec (.For (.Name x px) iter body [] pos) env) Q E s := h
abbrev casts (cs : List Nat) : List Int := cs.map fun c : Nat => (c : Int)
theorem casts_inj : ∀ {a b : List Nat}, casts a = casts b → a = b
  | [], [], _ => rfl
  | [], _ :: _, h => (nomatch h)
  | _ :: _, [], h => (nomatch h)
  | a :: r, b :: q, h => by
    have h' := List.cons.inj h
    rw [Int.ofNat.inj h'.1, casts_inj h'.2]

/-- a turn's end -/
def TurnOk {σ : Type} (Led : σ → List (Addr × Obj)) (ps : σ → List (Str × Value)) (Facts : σ → Prop) (x : Str) (stored : List Str) (m₀ : Str → Option Value) (P : σ → Prop) (h₀ : Heap) (L : Addr) (own : List (Addr × Obj)) (s : Shared) (Qx : Flow → Shared → Prop) : Prop :=
  ∀ (c' : σ) h' tk' m' news', Fr h₀ L h' m' → News h₀ L h' news' → (∀ p ∈ Led c', p ∈ news') → (∀ p ∈ own, p ∈ news') → Facts c' → (∀ p ∈ ps c', m' p.1 = some p.2) → (∀ z, z ≠ x → (∀ p ∈ ps c', z ≠ p.1) → stored.contains z = false → m' z = m₀ z) → P c' → Qx .next { s with heap := h', toks := tk' }

section
variable {prog : Program} {w : World} {A : Around} {E : Value → Shared → Prop} {s : Shared} {env : Env} {h₀ : Heap} {x : Str} {body : List Stmt} {Q : Flow → Shared → Prop}
theorem for_nats {σ : Type} {l : Addr} {vs : List Value} {cs : List Nat} {m₀ : Str → Option Value} (Led : σ → List (Addr × Obj)) (ps : σ → List (Str × Value)) (Facts : σ → Prop) (stored : List Str) (P : List Nat → σ → Prop) (c₀ : σ)
    (hh : A.handled = none) (hl : h₀.IsList l vs.toArray) (hi : IntsAre vs (casts cs)) (hadr : ∀ c, (Led c).map (·.1) = (Led c₀).map (·.1)) (F : Fr h₀ env.locals s.heap m₀) (N : News h₀ env.locals s.heap (Led c₀)) (hf : Facts c₀) (hk : ∀ p ∈ ps c₀, m₀ p.1 = some p.2) (hp : P [] c₀)
    (turn : ∀ (c : σ) pre post (n : Nat) t (u : Str → Option Value) h tk own, cs = pre ++ n :: post → OwnOff own ((Led c₀).map (·.1)) → Facts c → P pre c →
      Fr h₀ env.locals h (fun y => if y = x then some (.int n t) else kstB (fun z => if stored.contains z then u z else m₀ z) (ps c) y) → News h₀ env.locals h (Led c ++ own) →
      ∀ Qx, TurnOk Led ps Facts x stored m₀ (P (pre ++ [n])) h₀ env.locals own s Qx → wpAny (model prog w) A (execs body env) Qx E { s with heap := h, toks := tk })
    (done : ∀ (c : σ) (u : Str → Option Value) h tk, Facts c → P cs c → Fr h₀ env.locals h (fun y => if y = x then u y else kstB (fun z => if stored.contains z then u z else m₀ z) (ps c) y) → News h₀ env.locals h (Led c) → Q .next { s with heap := h, toks := tk }) :
    wpAny (model prog w) A (pyIter (.ref l)) (fun it s₂ => LoopAtV prog w A h₀ env x body Q E it s₂) E s := by
  refine kst_list Led ps Facts stored (fun pre c => ∃ pn, pre = casts pn ∧ P pn c) c₀ hh hl hi F N hf hk ⟨[], rfl, hp⟩ ?_ ?_
  · rintro c pre post n t u h tk own hns _ hoff hfc ⟨pn, rfl, hP⟩ F₁ N₁
    obtain ⟨a, b, e1, e2, e3⟩ := List.map_eq_append_iff.mp hns
    obtain ⟨n', b', e4, e5, e6⟩ := List.map_eq_cons_iff.mp e3
    have ea : a = pn := casts_inj e2
    subst ea e4 e5
    refine turn c _ b' n' t u h tk own e1 hoff hfc hP F₁ N₁ _ ?_
    intro c' h' tk' m' news' F' N' hn ho hf' hk' hr' hP'
    exact kst_end c' F' N' hn ho (hadr c') hf' hk' hr' ⟨_, by simp [casts], hP'⟩
  · rintro c u h tk hfc ⟨pn, e, hP⟩ F₁ N₁
    have : cs = pn := casts_inj e
    subst this
    exact done c u h tk hfc hP F₁ N₁
end

/-! rules over the ledger -/
section
variable {prog : Program} {w : World} {A : Around} {E : Value → Shared → Prop} {s : Shared} {h₀ : Heap} {L : Addr} {m : Str → Option Value} {news news' : List (Addr × Obj)}
theorem seqUpd {D : Addr} {its its' : Array Value} {n : Nat} {f : Array Value → Array Value} (F : Fr h₀ L s.heap m) (N : News h₀ L s.heap news) (U : Upd D (listOf its n) (listOf its' (if its'.size == its.size then n else n + 1)) news news') (e : f its = its') :
    Fr h₀ L (s.heap.update D (Obj.mapSeq f)) m ∧ News h₀ L (s.heap.update D (Obj.mapSeq f)) news' := by
  obtain ⟨pre, post, rfl, rfl, a, c⟩ := U.split
  subst e
  exact news_upd F N a c rfl rfl
theorem extend_ {D b : Addr} {us ws : List Value} {n n2 n' : Nat} {Q : Value → Shared → Prop} (F : Fr h₀ L s.heap m) (N : News h₀ L s.heap news) (hb : (b, listOf ws.toArray n2) ∈ news) (hD : (D, listOf us.toArray n) ∈ news) (hz : us.length + ws.length ≤ 5000000)
    (hn : n' = if (us ++ ws).toArray.size == us.toArray.size then n else n + 1)
    (U : Upd D (listOf us.toArray n) (listOf (us ++ ws).toArray n') news news')
    (h : ∀ h', Fr h₀ L h' m → News h₀ L h' news' → Q .none { s with heap := h' }) : wpAny (model prog w) A (call (.builtin "list.extend") [.ref D, .ref b]) Q E s := by
  have hl : sizeLine = 16777216 := sizeLine_eq
  have z := N _ hD
  subst hn
  obtain ⟨F', N'⟩ := seqUpd (f := fun x => x ++ ws.toArray) F N U (by simp)
  refine call_meets PySem.F.slot_list_extend ⟨_, z.1, rfl⟩ PySem.F.entry_list_extend (PySem.F.args_list_extend_2 _ _) (PySem.AutoSeq1.list_extend_list_list_0 D us.toArray n b ws.toArray n2 ?_ ?_ ?_) ⟨z.1, (N _ hb).1, h _ F' N'⟩
  · have : Builtin.List.listTooLong (us.toArray.size + ws.toArray.size) = false := by
      simp only [Builtin.List.listTooLong, List.size_toArray, decide_eq_false_iff_not]
      omega
    rw [this, Bool.and_false]; exact Bool.false_ne_true
  · rw [List.size_toArray]; omega
  · simp only [List.size_toArray]; omega
theorem append_ {D : Addr} {us : List Value} {n : Nat} {v : Value} {Q : Value → Shared → Prop} (F : Fr h₀ L s.heap m) (N : News h₀ L s.heap news) (hz : us.length ≤ 5000000)
    (U : Upd D (listOf us.toArray n) (listOf (us ++ [v]).toArray (n + 1)) news news')
    (h : ∀ h', Fr h₀ L h' m → News h₀ L h' news' → Q .none { s with heap := h' }) : wpAny (model prog w) A (call (.builtin "list.append") [.ref D, v]) Q E s := by
  have hl : sizeLine = 16777216 := sizeLine_eq
  refine append_K F N (by rw [List.push_toArray]; exact U) h (by rw [List.size_toArray]; omega)
theorem flat_one (v : Value) : ∀ (k : Nat) (acc : Array Value), (List.replicate k #[v]).foldl (fun x1 x2 => x1 ++ x2) acc = acc ++ (List.replicate k v).toArray
  | 0, acc => by simp
  | k + 1, acc => by
    rw [List.replicate_succ, List.foldl_cons, flat_one v k, List.replicate_succ]
    apply Array.toList_inj.mp
    simp
theorem mul_one {l : Addr} {v : Value} {k c : Nat} {x : Int} {u : Tok} {Q : Value → Shared → Prop} (F : Fr h₀ L s.heap m) (N : News h₀ L s.heap news) (hm : (l, listOf #[v] c) ∈ news) (hx : x = (k : Nat)) (hk : k ≤ 1000)
    (h : ∀ D h', Fr h₀ L h' m → News h₀ L h' ((D, listOf (List.replicate k v).toArray 0) :: news) → (∀ p ∈ news, p.1 < D) → Q (.ref D) { s with heap := h' }) :
    wpAny (model prog w) A (binaryOp .Mult (.ref l) (.int x u)) Q E s := by
  subst hx
  refine mul_list F N (N _ hm).1 (by omega) (by omega) (by show 1 * _ ≤ _; omega) fun h' F' N' => h _ h' F' ?_ fun p hp => Heap.lt_size (N p hp).1
  have e : List.foldl (fun x1 x2 => x1 ++ x2) #[] (List.replicate (if (#[v] : Array Value).isEmpty = true then 0 else (k : Int).toNat) #[v]) = (List.replicate k v).toArray := by
    rw [if_neg (by simp), Int.toNat_natCast, flat_one]; simp
  rw [e] at N'
  exact N'
theorem len_ints {l : Addr} {vs : List Value} {ns : List Int} {k : Int} {Q : Value → Shared → Prop} (hl : s.heap.IsList l vs.toArray) (hi : IntsAre vs ns) (hk : (ns.length : Int) = k) (hz : ns.length ≤ 5000000) (h : ∀ t tk, Q (.int k t) { s with toks := tk }) :
    wpAny (model prog w) A (call (.builtin "len") [.ref l]) Q E s := by
  have e : vs.toArray.size = ns.length := by rw [List.size_toArray, hi.length]
  refine len_list hl (by rw [e]; omega) ?_
  rw [e, hk]; exact h _ _
end
theorem ints_rep (k : Nat) (c : Nat) (t : Tok) : IntsAre (List.replicate k (.int c t)) (casts (List.replicate k c)) := by
  induction k with
  | zero => exact .nil
  | succ k ih => exact .cons _ _ ih
local macro_rules | `(tactic| walk_at "binaryOp Mult ref int") => `(tactic| ((refine' mul_one ?F ?N ?m ?x ?k ?_; (case F => k_asm); (case N => k_asm); (case m => k_mem); (case x => exact rfl); (case k => first | assumption | omega)); intro D' h' F' N' l1; (try k_lt l1); (try k_sweep)))
local macro_rules | `(tactic| walk_at "call builtin:list.extend") => `(tactic| ((with_reducible show wpAny _ _ (call (Value.builtin _) [Value.ref _, Value.ref _]) _ _ _); (refine' extend_ ?F ?N ?b ?D ?z ?n ?U ?_; (case F => k_asm); (case N => k_asm); (case b => k_mem); (case D => k_memK); (case z => (simp only [List.length_replicate, List.length_cons, List.length_nil]; omega)); (case n => exact rfl); (case U => k_upd)); intro h' F' N'; (try k_sweep)))
local macro_rules | `(tactic| walk_at "call builtin:list.append") => `(tactic| ((with_reducible show wpAny _ _ (call (Value.builtin _) [Value.ref _, _]) _ _ _); (refine' append_ ?F ?N ?z ?U ?_; (case F => k_asm); (case N => k_asm); (case U => k_upd); (case z => (try simp only [List.length_append, List.length_replicate, List.length_cons, List.length_nil]); omega)); intro h' F' N'; (try k_sweep)))

/-! _law_served -/
def isE (two : Bool) (c : Nat) : Bool := c == 10 || (two && c == 13)
def piece (two : Bool) (k0 k1 k2 : Nat) (b : Option Nat) (c : Nat) : List Nat :=
  (if c = 46 ∧ b = none then List.replicate k1 46 else if c = 46 ∧ b.any (isE two) = true then List.replicate k2 46 else []) ++
  (if isE two c = true ∧ two = true ∧ 0 < k0 then (if c = 13 ∨ b ≠ some 13 then [13, 10] else []) else [c])
def srv (two : Bool) (k0 k1 k2 : Nat) : Option Nat → List Nat → List Nat
  | _, [] => []
  | b, c :: r => piece two k0 k1 k2 b c ++ srv two k0 k1 k2 (some c) r
theorem srv_snoc (two : Bool) (k0 k1 k2 : Nat) : ∀ (b : Option Nat) (pre : List Nat) (c : Nat), srv two k0 k1 k2 b (pre ++ [c]) = srv two k0 k1 k2 b pre ++ piece two k0 k1 k2 (pre.getLast?.or b) c
  | b, [], c => by simp [srv]
  | b, a :: r, c => by
    rw [List.cons_append, srv, srv, srv_snoc _ _ _ _ (some a) r c, List.append_assoc]
    congr 3
    cases r with
    | nil => rfl
    | cons d r => rw [List.getLast?_cons_cons]; cases h : (d :: r).getLast? with
      | none => simp at h
      | some e => rfl
theorem piece_len (two : Bool) (k0 k1 k2 : Nat) (h0 : k0 ≤ 100) (h1 : k1 ≤ 100) (h2 : k2 ≤ 100) (b : Option Nat) (c : Nat) : (piece two k0 k1 k2 b c).length ≤ 102 := by
  unfold piece
  rw [List.length_append]
  have e1 : (if c = 46 ∧ b = none then List.replicate k1 46 else if c = 46 ∧ b.any (isE two) = true then List.replicate k2 46 else []).length ≤ 100 := by
    split
    · simpa using h1
    · split
      · simpa using h2
      · simp
  have e2 : (if isE two c = true ∧ two = true ∧ 0 < k0 then (if c = 13 ∨ b ≠ some 13 then [13, 10] else []) else [c]).length ≤ 2 := by
    split
    · split <;> simp
    · simp
  omega
theorem srv_len (two : Bool) (k0 k1 k2 : Nat) (h0 : k0 ≤ 100) (h1 : k1 ≤ 100) (h2 : k2 ≤ 100) : ∀ (b : Option Nat) (l : List Nat), (srv two k0 k1 k2 b l).length ≤ 102 * l.length
  | _, [] => Nat.le_refl _
  | b, c :: r => by
    have := piece_len two k0 k1 k2 h0 h1 h2 b c
    have := srv_len two k0 k1 k2 h0 h1 h2 (some c) r
    rw [srv, List.length_append, List.length_cons]
    omega
/-- what before holds -/
def bef (b : Option Nat) : Int := match b with | none => -1 | some c => c
def endsOf (two : Bool) : List Nat := if two then [10, 13] else [10]

/-- served so far, what before holds -/
structure SvS where
  b : Int
  t : Tok
  vs : List Value
  n : Nat
theorem served_loop {prog : Program} {w : World} {A : Around} {s : Shared} {env : Env} {h₀ : Heap} {L : Addr} {body : List Stmt} {Q : Flow → Shared → Prop} {E : Value → Shared → Prop} {l a : Addr} {vs : List Value} {cs : List Nat} {m₀ : Str → Option Value} {t₀ : Tok} (two : Bool) (k0 k1 k2 : Nat)
    (hk0 : k0 ≤ 100) (hk1 : k1 ≤ 100) (hk2 : k2 ≤ 100) (hcn : cs.length ≤ 10000) (hL : env.locals = L) (hh : A.handled = none) (hl : h₀.IsList l vs.toArray) (hi : IntsAre vs (casts cs)) (F : Fr h₀ L s.heap m₀) (N : News h₀ L s.heap [(a, listOf #[] 0)]) (hb : m₀ (Str.ofString "before") = some (.int (-1) t₀))
    (turn : ∀ (b : Int) (tb : Tok) (us : List Value) (k : Nat) (pre post : List Nat) (n : Nat) (t : Tok) (u : Str → Option Value) h tk own, cs = pre ++ n :: post → OwnOff own [a] → b = bef pre.getLast? → us.length ≤ 2000000 → IntsAre us (casts (srv two k0 k1 k2 none pre)) →
      Fr h₀ L h (fun y => if y = Str.ofString "code" then some (.int n t) else if y = Str.ofString "before" then some (.int b tb) else m₀ y) → News h₀ L h ((a, listOf us.toArray k) :: own) →
      ∀ Qx : Flow → Shared → Prop, (∀ h' tk' m' news' (tb' : Tok) (us' : List Value) (k' : Nat), Fr h₀ L h' m' → News h₀ L h' news' → (a, listOf us'.toArray k') ∈ news' → (∀ p ∈ own, p ∈ news') → m' (Str.ofString "before") = some (.int n tb') →
        (∀ z, z ≠ Str.ofString "code" → z ≠ Str.ofString "before" → m' z = m₀ z) → IntsAre us' (casts (srv two k0 k1 k2 none pre) ++ casts (piece two k0 k1 k2 pre.getLast? n)) → Qx .next { s with heap := h', toks := tk' }) →
      wpAny (model prog w) A (execs body env) Qx E { s with heap := h, toks := tk })
    (done : ∀ (us : List Value) (k : Nat) (tb : Tok) (b : Int) (u : Str → Option Value) h tk, IntsAre us (casts (srv two k0 k1 k2 none cs)) →
      Fr h₀ L h (fun y => if y = Str.ofString "code" then u y else if y = Str.ofString "before" then some (.int b tb) else m₀ y) → News h₀ L h [(a, listOf us.toArray k)] → Q .next { s with heap := h, toks := tk }) :
    wpAny (model prog w) A (pyIter (.ref l)) (fun it s₂ => LoopAtV prog w A h₀ env (Str.ofString "code") body Q E it s₂) E s := by
  subst hL
  refine for_nats (σ := SvS) (fun c => [(a, listOf c.vs.toArray c.n)]) (fun c => [(Str.ofString "before", .int c.b c.t)]) (fun _ => True) [] (fun pre c => c.b = bef pre.getLast? ∧ IntsAre c.vs (casts (srv two k0 k1 k2 none pre)))
    ⟨-1, t₀, [], 0⟩ hh hl hi (fun _ => rfl) F N trivial (List.forall_mem_cons.mpr ⟨hb, List.forall_mem_nil _⟩) ⟨rfl, .nil⟩ ?_ ?_
  · rintro ⟨cb, ct, cv, cn⟩ pre post n t u h₁ tk own hcs hoff - ⟨hb', hI⟩ F2 N2 Qx hT
    refine turn cb ct cv cn pre post n t u h₁ tk own hcs hoff hb' ?hz hI F2 N2 Qx ?fin
    case hz =>
      rw [hI.length, List.length_map]
      have := srv_len two k0 k1 k2 hk0 hk1 hk2 none pre
      have : pre.length ≤ cs.length := by rw [hcs]; simp
      omega
    intro h' tk' m' news' tb' us' k' F' N' h1 h2 h3 h4 h5
    refine hT ⟨n, tb', us', k'⟩ h' tk' m' news' F' N' (List.forall_mem_cons.mpr ⟨h1, List.forall_mem_nil _⟩) h2 trivial (List.forall_mem_cons.mpr ⟨h3, List.forall_mem_nil _⟩) (fun z z1 z2 _ => h4 z z1 (z2 _ (.head _))) ⟨?_, ?_⟩
    · simp [bef]
    · rw [srv_snoc, Option.or_none]
      simpa [casts] using h5
  · rintro ⟨cb, ct, cv, cn⟩ u h₁ tk - ⟨hb', hI⟩ F2 N2
    exact done cv cn ct cb u h₁ tk hI F2 N2

/-- the ends' number -/
def lenE (two : Bool) : Int := if two then 2 else 1
theorem ends_len (two : Bool) : ((casts (endsOf two)).length : Int) = lenE two := by cases two <;> rfl
theorem ends_len' (two : Bool) : (casts (endsOf two)).length ≤ 5000000 := by cases two <;> decide
theorem lenE_two (two : Bool) : lenE two = 2 ↔ two = true := by cases two <;> decide
theorem in_ends {prog : Program} {w : World} {A : Around} {s : Shared} {E Q : Value → Shared → Prop} {l : Addr} {vs : List Value} {two : Bool} {k : Int} {t : Tok} (hl : s.heap.IsList l vs.toArray) (hi : IntsAre vs (casts (endsOf two)))
    (h : Q (.bool (decide (k = 10 ∨ (lenE two = 2 ∧ k = 13)))) s) : wpAny (model prog w) A (compareOp .In (.int k t) (.ref l)) Q E s := by
  refine in_list_ints hl hi ?_
  have e : (casts (endsOf two)).any (· == k) = decide (k = 10 ∨ (lenE two = 2 ∧ k = 13)) := by
    rw [Bool.eq_iff_iff, decide_eq_true_eq, lenE_two]
    cases two
    · simp [endsOf, casts]; omega
    · simp [endsOf, casts]; omega
  rw [e]; exact h
/-- one statement apart: it grows the list at a -/
theorem led_cut {M : Model} {A : Around} {env : Env} {E : Value → Shared → Prop} {Q : Flow → Shared → Prop} {s : Shared} {st : Stmt} {rest : List Stmt} {h₀ h : Heap} {L a : Addr} {m : Str → Option Value} {us : List Value} {k tk : Nat} {own : List (Addr × Obj)}
    (_F : Fr h₀ L h m) (_N : News h₀ L h ((a, listOf us.toArray k) :: own)) (z : Nat) (xs : List Int)
    (h1 : ∀ Qx : Flow → Shared → Prop, (∀ h' tk' (us' : List Value) k' own', Fr h₀ L h' m → News h₀ L h' own' → (a, listOf us'.toArray k') ∈ own' → (∀ p ∈ own, p ∈ own') → us'.length ≤ z → IntsAre us' xs → Qx .next { s with heap := h', toks := tk' }) → wpAny M A (exec st env) Qx E { s with heap := h, toks := tk })
    (h2 : ∀ h' tk' (us' : List Value) k', Fr h₀ L h' m → News h₀ L h' ((a, listOf us'.toArray k') :: own) → us'.length ≤ z → IntsAre us' xs → wpAny M A (execs rest env) Q E { s with heap := h', toks := tk' }) : wpAny M A (execs (st :: rest) env) Q E { s with heap := h, toks := tk } :=
  wpAny_execs_cons (h1 _ fun h' tk' us' k' own' F' N' q1 q2 q3 q4 => h2 h' tk' us' k' F' (fun p hp => by
    rcases List.mem_cons.mp hp with rfl | hp
    · exact N' _ q1
    · exact N' _ (q2 p hp)) q3 q4)
local macro_rules | `(tactic| walk_at "call builtin:len") => `(tactic| ((with_reducible show wpAny _ _ (call (Value.builtin "len") [Value.ref _]) _ _ _); refine len_ints (by is_list) (by assumption) (ends_len _) (ends_len' _) ?_; intro t' tk'))
local macro_rules | `(tactic| walk_at "compareOp In int ref") => `(tactic| (refine in_ends (by is_list) (by assumption) ?_))
/-- the dots ahead -/
def dotsA (two : Bool) (k1 k2 : Nat) (b : Option Nat) (c : Nat) : List Nat := if c = 46 ∧ b = none then List.replicate k1 46 else if c = 46 ∧ b.any (isE two) = true then List.replicate k2 46 else []
theorem bef_none (b : Option Nat) : bef b = -1 ↔ b = none := by
  cases b with
  | none => exact ⟨fun _ => rfl, fun _ => rfl⟩
  | some c => exact ⟨fun h => by simp only [bef] at h; omega, fun h => (nomatch h)⟩
theorem bef_13 (b : Option Nat) : bef b = 13 ↔ b = some 13 := by
  cases b with
  | none => exact ⟨fun h => by simp only [bef] at h; omega, fun h => (nomatch h)⟩
  | some c => simp only [bef, Option.some.injEq]; omega
theorem bef_end (two : Bool) (b : Option Nat) : (bef b = 10 ∨ (lenE two = 2 ∧ bef b = 13)) ↔ b.any (isE two) = true := by
  cases b with
  | none => simp only [bef, Option.any_none]; exact ⟨fun h => by omega, fun h => (nomatch h)⟩
  | some c =>
    simp only [bef, Option.any_some, isE, lenE_two]
    cases two <;> simp <;> omega
section
variable {two : Bool} {k0 k1 k2 n : Nat} {b : Int} {B : Option Nat}
theorem dotsA_1 (hb : b = bef B) (h1 : (n : Int) = 46) (h2 : b = -1) : dotsA two k1 k2 B n = List.replicate k1 46 := by
  rw [dotsA, if_pos ⟨by omega, (bef_none B).mp (by omega)⟩]
theorem dotsA_2 (hb : b = bef B) (h1 : (n : Int) = 46) (h2 : b ≠ -1) (h3 : b = 10 ∨ (lenE two = 2 ∧ b = 13)) : dotsA two k1 k2 B n = List.replicate k2 46 := by
  subst hb
  rw [dotsA, if_neg (fun q => h2 ((bef_none B).mpr q.2)), if_pos ⟨by omega, (bef_end two B).mp h3⟩]
theorem dotsA_0 (hb : b = bef B) (h1 : ¬ ((n : Int) = 46 ∧ b = -1)) (h2 : ¬ ((n : Int) = 46 ∧ (b = 10 ∨ (lenE two = 2 ∧ b = 13)))) : dotsA two k1 k2 B n = [] := by
  subst hb
  rw [dotsA, if_neg (fun q => h1 ⟨by omega, (bef_none B).mpr q.2⟩), if_neg (fun q => h2 ⟨by omega, (bef_end two B).mpr q.2⟩)]
def endsP (two : Bool) (k0 : Nat) (B : Option Nat) (n : Nat) : List Nat := if isE two n = true ∧ two = true ∧ 0 < k0 then (if n = 13 ∨ B ≠ some 13 then [13, 10] else []) else [n]
theorem piece_eq : piece two k0 k1 k2 B n = dotsA two k1 k2 B n ++ endsP two k0 B n := rfl
theorem isE_iff : isE two n = true ↔ ((n : Int) = 10 ∨ (lenE two = 2 ∧ (n : Int) = 13)) := by
  rw [lenE_two]; cases two <;> simp [isE] <;> omega
theorem endsP_2 (hb : b = bef B) (h1 : (n : Int) = 10 ∨ (lenE two = 2 ∧ (n : Int) = 13)) (h2 : lenE two = 2) (h3 : 0 < (k0 : Int)) (h4 : (n : Int) = 13 ∨ b ≠ 13) : endsP two k0 B n = [13, 10] := by
  subst hb
  rw [endsP, if_pos ⟨isE_iff.mpr h1, (lenE_two two).mp h2, by omega⟩, if_pos (h4.imp (fun q => by omega) fun q => fun e => q ((bef_13 B).mpr e))]
theorem endsP_0 (hb : b = bef B) (h1 : (n : Int) = 10 ∨ (lenE two = 2 ∧ (n : Int) = 13)) (h2 : lenE two = 2) (h3 : 0 < (k0 : Int)) (h4 : (n : Int) ≠ 13) (h5 : b = 13) : endsP two k0 B n = [] := by
  subst hb
  rw [endsP, if_pos ⟨isE_iff.mpr h1, (lenE_two two).mp h2, by omega⟩, if_neg (fun q => q.elim (fun e => h4 (by omega)) fun e => e ((bef_13 B).mp h5))]
theorem endsP_1 (h : ¬ (((n : Int) = 10 ∨ (lenE two = 2 ∧ (n : Int) = 13)) ∧ lenE two = 2 ∧ 0 < (k0 : Int))) : endsP two k0 B n = [n] := by
  rw [endsP, if_neg (fun q => h ⟨isE_iff.mp q.1, (lenE_two two).mpr q.2.1, by omega⟩)]
theorem ints_app {us ws : List Value} {X D : List Nat} {E : List Nat} (h : IntsAre us (casts X)) (g : IntsAre ws (casts E)) (e : D = E) : IntsAre (us ++ ws) (casts X ++ casts D) := by
  subst e; exact h.append g
theorem ints_nil {us : List Value} {X D : List Nat} (h : IntsAre us (casts X)) (e : D = []) : IntsAre us (casts X ++ casts D) := by
  subst e; simpa [casts] using h
theorem ints_app2 {us ws : List Value} {X D P E : List Nat} (h : IntsAre us (casts X ++ casts D)) (g : IntsAre ws (casts E)) (hp : P = D ++ E) : IntsAre (us ++ ws) (casts X ++ casts P) := by
  subst hp
  have := h.append g
  simpa [casts, List.append_assoc] using this
theorem ints_nil2 {us : List Value} {X D P : List Nat} (h : IntsAre us (casts X ++ casts D)) (hp : P = D ++ []) : IntsAre us (casts X ++ casts P) := by
  subst hp; simpa [casts] using h
end
local macro_rules | `(tactic| walk_at "exec For Name Name cons nil") => `(tactic| refine for_stop ?_)
set_option maxHeartbeats 4000000 in
theorem served_spec (w : World) {two : Bool} {k0 k1 k2 : Nat} {cs : List Nat} {l1 l2 l3 : Addr} {vs us : List Value} {t0 t1 t2 : Tok} (h0 : k0 ≤ 100) (h1 : k1 ≤ 100) (h2 : k2 ≤ 100) (hn : cs.length ≤ 10000) (hvs : IntsAre vs (casts cs)) (hus : IntsAre us (casts (endsOf two))) :
    Spec w 165 1 (fun h => h.IsList l1 vs.toArray ∧ h.IsList l2 us.toArray ∧ h.IsList l3 #[.int k0 t0, .int k1 t1, .int k2 t2]) [.ref l1, .ref l2, .ref l3]
      (fun h h' r => ∃ a ws n, r = .ref a ∧ h.get? a = none ∧ h'.get? a = some (listOf ws.toArray n) ∧ IntsAre ws (casts (srv two k0 k1 k2 none cs))) := by
  intro prog A s E Q ⟨X, p, loose, mg, mb, T⟩ hh hd hu ⟨hl1, hl2, hl3⟩ h
  k_dflt (refine enter X T.nolimit (by omega) (by k_is) (by k_is) rfl (locs rfl) (by decide) rfl rfl rfl ?_)
  intro L' h' F' N'
  try dsimp only
  k_steps
  rename Fr _ _ _ _ => F1
  rename News _ _ _ _ => N1
  unfold Stop
  refine For_invVF F1 rfl rfl ?_ (fun _ => rfl) PassesOwn.never
  refine ld F1 rfl ?_
  refine served_loop two k0 k1 k2 h0 h1 h2 hn rfl hh hl1 hvs F1 N1 rfl ?_ ?_
  · intro b tb cv k pre post n t u h₁ tk own hcs hoff hb hz hI F2 N2 Qx hT
    dsimp only [envOf] at F2 N2
    clear F1 N1 h
    refine led_cut F2 N2 3000000 (casts (srv two k0 k1 k2 none pre) ++ casts (dotsA two k1 k2 pre.getLast? n)) ?_ ?_
    · intro Qx hQ
      clear hT
      k_steps
      all_goals first
        | (exfalso; omega)
        | exact hQ _ _ _ _ _ (by assumption) (by assumption) (by k_memK) (by (intro p hp; kst_mem)) (by simp only [List.length_append, List.length_replicate]; omega) (ints_app hI (ints_rep _ 46 _) (dotsA_1 hb (by assumption) (by assumption)))
        | exact hQ _ _ _ _ _ (by assumption) (by assumption) (by k_memK) (by (intro p hp; kst_mem)) (by simp only [List.length_append, List.length_replicate]; omega) (ints_app hI (ints_rep _ 46 _) (dotsA_2 hb (by assumption) (by assumption) (by assumption)))
        | exact hQ _ _ _ _ _ (by assumption) (by assumption) (by k_memK) (by (intro p hp; kst_mem)) (by omega) (ints_nil hI (dotsA_0 hb (by omega) (by omega)))
    · intro h' tk' us' k' F3 N3 hz3 hI3
      clear F2 N2 hI
      dsimp only
      k_steps
      all_goals first
        | exact hT _ _ _ _ _ _ _ (by assumption) (by assumption) (by k_memK) (by (intro p hp; kst_mem)) rfl (fun z h1 h2 => by simp only [if_neg h1, if_neg h2]) (ints_app2 hI3 (.cons 13 _ (.cons 10 _ .nil)) (piece_eq.trans (congrArg _ (endsP_2 hb (by assumption) (by assumption) (by assumption) (by omega)))))
        | exact hT _ _ _ _ _ _ _ (by assumption) (by assumption) (by k_memK) (by (intro p hp; kst_mem)) rfl (fun z h1 h2 => by simp only [if_neg h1, if_neg h2]) (ints_nil2 hI3 (piece_eq.trans (congrArg _ (endsP_0 hb (by assumption) (by assumption) (by assumption) (by assumption) (by assumption)))))
        | exact hT _ _ _ _ _ (us' ++ [.int n _]) _ (by assumption) (by assumption) (by rw [← List.push_toArray]; k_memK) (by (intro p hp; kst_mem)) rfl (fun z h1 h2 => by simp only [if_neg h1, if_neg h2]) (ints_app2 hI3 (.cons n _ .nil) (piece_eq.trans (congrArg _ (endsP_1 (fun q => by first | exact absurd q.1 (by assumption) | exact absurd q.2.1 (by assumption) | exact absurd q.2.2 (by assumption))))))
  · intro cv k tb b u h₁ tk hI F2 N2
    clear F1 N1
    try dsimp only
    k_steps
    all_goals (try dsimp only)
    all_goals exact h _ _ _ F2.keep ⟨_, _, _, rfl, (N2 _ (.head _)).2.2, (N2 _ (.head _)).1, hI⟩
end Mine
end

section
open PySem PySem.W PySem.Calls PyProof.Rows PySem.Builtin.Re
namespace Mine

/-! _law_seen -/
structure Tri where
  e : Nat
  m : Nat
  b : Nat
def Tri.l (k : Tri) : List Nat := [k.e, k.m, k.b]
def Tri.bump (k : Tri) (x y z : Bool) : Tri := ⟨k.e + x.toNat, k.m + y.toNat, k.b + z.toNat⟩
structure Sn where
  bh : Nat
  k0 : Tri
  k1 : Tri
  k2 : Tri
  ct : Bool
  mr : Bool
  ot : Bool
def Sn.at (s : Sn) : Tri := if s.bh = 0 then s.k0 else if s.bh = 1 then s.k1 else s.k2
def Sn.put (s : Sn) (k : Tri) : Sn := if s.bh = 0 then { s with k0 := k } else if s.bh = 1 then { s with k1 := k } else { s with k2 := k }
def Sn.step (s : Sn) (d : Nat) : Sn :=
  if d < 3 then s.put (s.at.bump s.ct (s.mr && decide (d < 2)) (s.ct && s.mr && decide (d < 2)))
  else if d < 5 then { s with bh := max s.bh (d - 2), ct := true, mr := true, ot := true }
  else if d = 5 then { s with ct := false }
  else if d = 6 then { s with mr := false }
  else { s with ct := false, mr := false, ot := false }
def Sn.zero : Sn := ⟨0, ⟨0, 0, 0⟩, ⟨0, 0, 0⟩, ⟨0, 0, 0⟩, true, true, true⟩
def seen (ds : List Nat) : Sn := ds.foldl Sn.step Sn.zero

/-- the table of counts on the ledger -/
abbrev tabL (co c0 c1 c2 : Addr) (v0 v1 v2 : List Value) : List (Addr × Obj) :=
  [(co, listOf #[.ref c0, .ref c1, .ref c2] 0), (c2, listOf v2.toArray 0), (c1, listOf v1.toArray 0), (c0, listOf v0.toArray 0)]
def setAt (j : Nat) (k : Tri) : Tri := if j = 0 then { k with e := k.e + 1 } else if j = 1 then { k with m := k.m + 1 } else { k with b := k.b + 1 }
theorem setAt_l (j : Nat) (hj : j < 3) (k : Tri) : (casts k.l).set j ((casts k.l).getD j 0 + 1) = casts (setAt j k).l := by
  have : j = 0 ∨ j = 1 ∨ j = 2 := by omega
  rcases this with rfl | rfl | rfl <;> rfl
section
variable {prog : Program} {w : World} {A : Around} {E : Value → Shared → Prop} {s : Shared} {h₀ : Heap} {L : Addr} {m : Str → Option Value} {own : List (Addr × Obj)}
theorem bump_ {qual : Str} {scope : Scope} {f : Addr} {cdv : Value} {co c0 c1 c2 : Addr} {v0 v1 v2 : List Value} {k0 k1 k2 : Tri} {b : Nat} {tb : Tok} {j : Nat} {p1 p2 p3 p4 p5 p6 p7 : Pos} {q1 q2 : Nat} {Q : Flow → Shared → Prop}
    (F : Fr h₀ L s.heap m) (N : News h₀ L s.heap (tabL co c0 c1 c2 v0 v1 v2 ++ own)) (hoff : OwnOff own [co, c2, c1, c0]) (hne : c0 < c1 ∧ c1 < c2 ∧ c2 < co) (I0 : IntsAre v0 (casts k0.l)) (I1 : IntsAre v1 (casts k1.l)) (I2 : IntsAre v2 (casts k2.l)) (hb : b < 3) (hj : j < 3)
    (hc : m (Str.ofString "counts") = some (.ref co)) (hbm : m (Str.ofString "behind") = some (.int b tb)) (hk : scope.kind = .function) (l1 : (envOf qual scope L f cdv).kindOf (Str.ofString "counts") = some .local) (l2 : (envOf qual scope L f cdv).kindOf (Str.ofString "behind") = some .local)
    (h : ∀ v0' v1' v2' h' tk, IntsAre v0' (casts (if b = 0 then setAt j k0 else k0).l) → IntsAre v1' (casts (if b = 1 then setAt j k1 else k1).l) → IntsAre v2' (casts (if b = 2 then setAt j k2 else k2).l) → Fr h₀ L h' m → News h₀ L h' (tabL co c0 c1 c2 v0' v1' v2' ++ own) → Q .next { s with heap := h', toks := tk }) :
    wpAny (model prog w) A (exec (.AugAssign (.Subscript (.Subscript (.Name (Str.ofString "counts") p1) (.Name (Str.ofString "behind") p2) p3) (.Constant (.int j) q1 p4) p5) .Add (.Constant (.int 1) q2 p6) p7) (envOf qual scope L f cdv)) Q E s := by
  have hco : s.heap.IsList co #[.ref c0, .ref c1, .ref c2] := ⟨_, (N _ (.head _)).1, rfl, _, rfl⟩
  have hx : (#[Value.ref c0, .ref c1, .ref c2] : Array Value)[(b : Int).toNat]? = some (.ref (if b = 0 then c0 else if b = 1 then c1 else c2)) := by
    have : b = 0 ∨ b = 1 ∨ b = 2 := by omega
    rcases this with rfl | rfl | rfl <;> rfl
  refine wpAny_AugAssign_Subscript_any (Subscript_ (ld F hc (ld F hbm (tail_any hco.typeIs slot_list_getitem.lookup (wpAny_getItem_list hco (by omega) (by omega) hx ?_) (by with_unfolding_all rfl)) hk l2) hk l1))
  refine wpAny_Constant_int ?_
  have jl : ∀ k : Tri, ((j : Int) < (casts k.l).length) := fun k => by show (j : Int) < 3; omega
  have e0 : (j : Int).toNat = j := Int.toNat_natCast j
  obtain ⟨n1, n2, n3⟩ := hne
  replace n1 := ltN n1
  replace n2 := ltN n2
  replace n3 := ltN n3
  have z0 : ∀ p ∈ own, p.1 ≠ c0 := hoff.ne (by simp)
  have z1 : ∀ p ∈ own, p.1 ≠ c1 := hoff.ne (by simp)
  have z2 : ∀ p ∈ own, p.1 ≠ c2 := hoff.ne (by simp)
  have : b = 0 ∨ b = 1 ∨ b = 2 := by omega
  rcases this with rfl | rfl | rfl
  · refine ksa_get (D := c0) (s := { s with toks := s.toks + 1 }) N (n := 0) (vs := v0) (List.mem_append.mpr (.inl (by simp))) I0 (by omega) (jl k0) (by omega) fun t => ?_
    refine wpAny_Constant_int (iadd_int ?_)
    refine ksa_set (D := c0) (n := 0) (vs := v0) F N (.tail (by k_ne) (.tail (by k_ne) (.tail (by k_ne) (.head z0)))) I0 (by omega) (jl k0) (by omega) fun h' F' N' I' _ _ => ?_
    · refine h _ v1 v2 h' _ ?_ I1 I2 F' N'
      rw [e0] at I' ⊢
      rw [setAt_l j hj] at I'
      exact I'
  · refine ksa_get (D := c1) (s := { s with toks := s.toks + 1 }) N (n := 0) (vs := v1) (List.mem_append.mpr (.inl (by simp))) I1 (by omega) (jl k1) (by omega) fun t => ?_
    refine wpAny_Constant_int (iadd_int ?_)
    refine ksa_set (D := c1) (n := 0) (vs := v1) F N (.tail (by k_ne) (.tail (by k_ne) (.head (List.forall_mem_cons.mpr ⟨by k_ne, z1⟩)))) I1 (by omega) (jl k1) (by omega) fun h' F' N' I' _ _ => ?_
    · refine h v0 _ v2 h' _ I0 ?_ I2 F' N'
      rw [e0] at I' ⊢
      rw [setAt_l j hj] at I'
      exact I'
  · refine ksa_get (D := c2) (s := { s with toks := s.toks + 1 }) N (n := 0) (vs := v2) (List.mem_append.mpr (.inl (by simp))) I2 (by omega) (jl k2) (by omega) fun t => ?_
    refine wpAny_Constant_int (iadd_int ?_)
    refine ksa_set (D := c2) (n := 0) (vs := v2) F N (.tail (by k_ne) (.head (List.forall_mem_cons.mpr ⟨by k_ne, List.forall_mem_cons.mpr ⟨by k_ne, z2⟩⟩))) I2 (by omega) (jl k2) (by omega) fun h' F' N' I' _ _ => ?_
    · refine h v0 v1 _ h' _ I0 I1 ?_ F' N'
      rw [e0] at I' ⊢
      rw [setAt_l j hj] at I'
      exact I'
end

structure SeS where
  sn : Sn
  tb : Tok
  v0 : List Value
  v1 : List Value
  v2 : List Value
theorem seen_snoc (pre : List Nat) (n : Nat) : seen (pre ++ [n]) = (seen pre).step n := by rw [seen, List.foldl_append]; rfl
abbrev seNames (c : SeS) : List (Str × Value) := [(Str.ofString "behind", .int (c.sn.bh : Nat) c.tb), (Str.ofString "controls", .bool c.sn.ct), (Str.ofString "marks", .bool c.sn.mr), (Str.ofString "others", .bool c.sn.ot)]
abbrev SeOk (c : SeS) : Prop := IntsAre c.v0 (casts c.sn.k0.l) ∧ IntsAre c.v1 (casts c.sn.k1.l) ∧ IntsAre c.v2 (casts c.sn.k2.l) ∧ c.sn.bh < 3
theorem seen_loop {prog : Program} {w : World} {A : Around} {s : Shared} {env : Env} {h₀ : Heap} {L : Addr} {body : List Stmt} {Q : Flow → Shared → Prop} {E : Value → Shared → Prop} {l co c0 c1 c2 : Addr} {vs v0 v1 v2 : List Value} {news : List (Addr × Obj)} {ds : List Nat} {m₀ : Str → Option Value} {t₀ : Tok}
    (hL : env.locals = L) (hh : A.handled = none) (hl : h₀.IsList l vs.toArray) (hi : IntsAre vs (casts ds)) (F : Fr h₀ L s.heap m₀) (N : News h₀ L s.heap news) (hn : ∀ p ∈ tabL co c0 c1 c2 v0 v1 v2, p ∈ news)
    (I0 : IntsAre v0 [0, 0, 0]) (I1 : IntsAre v1 [0, 0, 0]) (I2 : IntsAre v2 [0, 0, 0]) (hm : ∀ p ∈ seNames ⟨Sn.zero, t₀, [], [], []⟩, m₀ p.1 = some p.2)
    (turn : ∀ (c : SeS) pre post (n : Nat) t (u : Str → Option Value) h tk own, ds = pre ++ n :: post → OwnOff own [co, c2, c1, c0] → SeOk c → c.sn = seen pre →
      Fr h₀ L h (fun y => if y = Str.ofString "deed" then some (.int n t) else if y = Str.ofString "behind" then some (.int (c.sn.bh : Nat) c.tb) else if y = Str.ofString "controls" then some (.bool c.sn.ct) else if y = Str.ofString "marks" then some (.bool c.sn.mr) else if y = Str.ofString "others" then some (.bool c.sn.ot) else m₀ y) →
      News h₀ L h (tabL co c0 c1 c2 c.v0 c.v1 c.v2 ++ own) →
      ∀ Qx, TurnOk (fun c : SeS => tabL co c0 c1 c2 c.v0 c.v1 c.v2) seNames SeOk (Str.ofString "deed") [] m₀ (fun c => c.sn = seen (pre ++ [n])) h₀ L own s Qx → wpAny (model prog w) A (execs body env) Qx E { s with heap := h, toks := tk })
    (done : ∀ (c : SeS) (u : Str → Option Value) h tk, SeOk c → c.sn = seen ds →
      Fr h₀ L h (fun y => if y = Str.ofString "deed" then u y else if y = Str.ofString "behind" then some (.int (c.sn.bh : Nat) c.tb) else if y = Str.ofString "controls" then some (.bool c.sn.ct) else if y = Str.ofString "marks" then some (.bool c.sn.mr) else if y = Str.ofString "others" then some (.bool c.sn.ot) else m₀ y) →
      News h₀ L h (tabL co c0 c1 c2 c.v0 c.v1 c.v2) → Q .next { s with heap := h, toks := tk }) :
    wpAny (model prog w) A (pyIter (.ref l)) (fun it s₂ => LoopAtV prog w A h₀ env (Str.ofString "deed") body Q E it s₂) E s := by
  subst hL
  exact for_nats (σ := SeS) (fun c => tabL co c0 c1 c2 c.v0 c.v1 c.v2) seNames SeOk [] (fun pre c => c.sn = seen pre) ⟨Sn.zero, t₀, v0, v1, v2⟩ hh hl hi (fun _ => rfl) F (fun p hp => N p (hn p hp)) ⟨I0, I1, I2, Nat.zero_lt_succ _⟩ hm rfl
    (fun c pre post n t u h tk own e1 e2 e3 e4 F' N' Qx hT => turn c pre post n t u h tk own e1 e2 e3 e4 F' N' Qx hT) (fun c u h tk e1 e2 F' N' => done c u h tk e1 e2 F' N')

local macro_rules | `(tactic| walk_at "exec AugAssign Subscript") => `(tactic| (k_dflt (first | (refine' bump_ (j := 0) ?F ?N ?o ?ne ?a0 ?a1 ?a2 ?b ?j ?c ?bm ?k ?l1 ?l2 ?_; (case F => k_asm); (case N => k_asm); (case o => assumption); (case ne => exact ⟨ltN (by omega), ltN (by omega), ltN (by omega)⟩); (case a0 => assumption); (case a1 => assumption); (case a2 => assumption); (case b => assumption); (case j => decide); (case c => rfl); (case bm => rfl); (case k => rfl); (case l1 => rfl); (case l2 => rfl)) | (refine' bump_ (j := 1) ?F ?N ?o ?ne ?a0 ?a1 ?a2 ?b ?j ?c ?bm ?k ?l1 ?l2 ?_; (case F => k_asm); (case N => k_asm); (case o => assumption); (case ne => exact ⟨ltN (by omega), ltN (by omega), ltN (by omega)⟩); (case a0 => assumption); (case a1 => assumption); (case a2 => assumption); (case b => assumption); (case j => decide); (case c => rfl); (case bm => rfl); (case k => rfl); (case l1 => rfl); (case l2 => rfl)) | (refine' bump_ (j := 2) ?F ?N ?o ?ne ?a0 ?a1 ?a2 ?b ?j ?c ?bm ?k ?l1 ?l2 ?_; (case F => k_asm); (case N => k_asm); (case o => assumption); (case ne => exact ⟨ltN (by omega), ltN (by omega), ltN (by omega)⟩); (case a0 => assumption); (case a1 => assumption); (case a2 => assumption); (case b => assumption); (case j => decide); (case c => rfl); (case bm => rfl); (case k => rfl); (case l1 => rfl); (case l2 => rfl))); intro v0' v1' v2' h' tk' I0' I1' I2' F' N'; (try k_sweep)))
local macro_rules | `(tactic| walk_at "exec For Name Name cons nil") => `(tactic| refine for_stop ?_)
section
variable {b n : Nat} {k0 k1 k2 : Tri} {ct mr ot : Bool} {pre : List Nat}
theorem sn_lt (h : Sn.mk b k0 k1 k2 ct mr ot = seen pre) (h3 : (n : Int) < 3) : seen (pre ++ [n]) = (Sn.mk b k0 k1 k2 ct mr ot).put ((Sn.mk b k0 k1 k2 ct mr ot).at.bump ct (mr && decide (n < 2)) (ct && mr && decide (n < 2))) := by
  rw [seen_snoc, ← h, Sn.step, if_pos (by omega)]
theorem sn_34 (h : Sn.mk b k0 k1 k2 ct mr ot = seen pre) (h3 : ¬ (n : Int) < 3) (h5 : (n : Int) < 5) : ⟨max b (n - 2), k0, k1, k2, true, true, true⟩ = seen (pre ++ [n]) := by
  rw [seen_snoc, ← h, Sn.step, if_neg (by omega), if_pos (by omega)]
theorem sn_5 (h : Sn.mk b k0 k1 k2 ct mr ot = seen pre) (h5 : (n : Int) = 5) : ⟨b, k0, k1, k2, false, mr, ot⟩ = seen (pre ++ [n]) := by
  rw [seen_snoc, ← h, Sn.step, if_neg (by omega), if_neg (by omega), if_pos (by omega)]
theorem sn_6 (h : Sn.mk b k0 k1 k2 ct mr ot = seen pre) (h5 : (n : Int) = 6) : ⟨b, k0, k1, k2, ct, false, ot⟩ = seen (pre ++ [n]) := by
  rw [seen_snoc, ← h, Sn.step, if_neg (by omega), if_neg (by omega), if_neg (by omega), if_pos (by omega)]
theorem sn_7 (h : Sn.mk b k0 k1 k2 ct mr ot = seen pre) (h1 : ¬ (n : Int) < 5) (h2 : (n : Int) ≠ 5) (h3 : (n : Int) ≠ 6) : ⟨b, k0, k1, k2, false, false, false⟩ = seen (pre ++ [n]) := by
  rw [seen_snoc, ← h, Sn.step, if_neg (by omega), if_neg (by omega), if_neg (by omega), if_neg (by omega)]
end
theorem max_nat {n b : Nat} (h : ¬ (n : Int) < 3) : (if (n : Int) - 2 > (b : Int) then (n : Int) - 2 else (b : Int)) = ((max b (n - 2) : Nat) : Int) := by
  split <;> omega
theorem lt3 {b : Nat} (h : b < 3) : b = 0 ∨ b = 1 ∨ b = 2 := by omega
set_option maxHeartbeats 4000000 in
theorem seen_spec (w : World) {ds : List Nat} {l : Addr} {vs : List Value} (hd8 : ∀ d ∈ ds, d < 8) (hvs : IntsAre vs (casts ds)) :
    Spec w 158 1 (fun h => h.IsList l vs.toArray) [.ref l]
      (fun h h' r => ∃ a co c0 c1 c2 cs n tb v0 v1 v2, r = .ref a ∧ h'.get? a = some { cls := .type "tuple", data := .seq #[.int ((seen ds).bh : Nat) tb, .ref co, .ref cs] } ∧ h.get? a = none ∧
        h'.get? cs = some (listOf #[.bool (seen ds).ct, .bool (seen ds).mr, .bool (seen ds).ot] n) ∧ h.get? cs = none ∧ (∀ p ∈ tabL co c0 c1 c2 v0 v1 v2, h'.get? p.1 = some p.2 ∧ h.get? p.1 = none) ∧
        IntsAre v0 (casts (seen ds).k0.l) ∧ IntsAre v1 (casts (seen ds).k1.l) ∧ IntsAre v2 (casts (seen ds).k2.l) ∧ (seen ds).bh < 3) := by
  rintro prog ⟨ah, ad, af, ag, au⟩ s E Q ⟨X, p, loose, mg, mb, T⟩ hh hd hu hl h
  dsimp only at hh hd hu
  subst hh
  k_dflt (refine enter X T.nolimit (by dsimp only; omega) (by k_is) (by k_is) rfl (locs rfl) (by decide) rfl rfl rfl ?_)
  intro L' h' F' N'
  try dsimp only
  k_steps
  rename Fr _ _ _ _ => F1
  rename News _ _ _ _ => N1
  unfold Stop
  refine For_invVF F1 rfl rfl ?_ (fun _ => rfl) PassesOwn.never
  refine ld F1 rfl ?_
  refine seen_loop rfl rfl hl hvs F1 N1 (by (intro p hp; exact .tail _ hp)) (.cons 0 _ (.cons 0 _ (.cons 0 _ .nil))) (.cons 0 _ (.cons 0 _ (.cons 0 _ .nil))) (.cons 0 _ (.cons 0 _ (.cons 0 _ .nil))) (by kst_all) ?_ ?_
  · rintro ⟨⟨b, k0, k1, k2, ct, mr, ot⟩, tb, v0, v1, v2⟩ pre post n t u h₁ tk own hcs hoff ⟨I0, I1, I2, hb3⟩ hsn F2 N2 Qx hT
    clear F1 N1 h
    dsimp only [envOf] at F2 N2 I0 I1 I2 hb3 hsn
    k_steps
    all_goals (first | (have q1 : ct = true := (by assumption); subst q1) | (have q1 : ct = false := (by assumption); subst q1) | skip)
    all_goals (first | (have q1 : mr = true := (by assumption); subst q1) | (have q1 : mr = false := (by assumption); subst q1) | skip)
    all_goals first
      | (refine hT ⟨⟨b, _, _, _, _, _, _⟩, tb, _, _, _⟩ _ _ _ _ (by assumption) (by assumption) (by kst_in) (by (intro p hp; kst_mem)) ⟨by assumption, by assumption, by assumption, hb3⟩ (by kst_all) (by kst_same) (by rw [sn_lt hsn (by assumption)]; (first | rw [decide_eq_true (show n < 2 by omega)] | rw [decide_eq_false (show ¬ n < 2 by omega)] | skip); rcases lt3 hb3 with rfl | rfl | rfl <;> rfl))
      | (refine hT ⟨⟨max b (n - 2), _, _, _, _, _, _⟩, _, _, _, _⟩ _ _ _ _ (by assumption) (by assumption) (by kst_in) (by (intro p hp; kst_mem)) ⟨by assumption, by assumption, by assumption, (by show max b (n - 2) < 3; omega)⟩ (List.forall_mem_cons.mpr ⟨Eq.trans (b := some (Value.int (if (n : Int) - 2 > (b : Int) then (n : Int) - 2 else (b : Int)) _)) (by with_unfolding_all rfl) (by rw [max_nat (by assumption)]), by kst_all⟩) (by kst_same) (sn_34 hsn (by assumption) (by assumption)))
      | (refine hT ⟨⟨b, _, _, _, _, _, _⟩, tb, _, _, _⟩ _ _ _ _ (by assumption) (by assumption) (by kst_in) (by (intro p hp; kst_mem)) ⟨by assumption, by assumption, by assumption, hb3⟩ (by kst_all) (by kst_same) (sn_5 hsn (by assumption)))
      | (refine hT ⟨⟨b, _, _, _, _, _, _⟩, tb, _, _, _⟩ _ _ _ _ (by assumption) (by assumption) (by kst_in) (by (intro p hp; kst_mem)) ⟨by assumption, by assumption, by assumption, hb3⟩ (by kst_all) (by kst_same) (sn_6 hsn (by assumption)))
      | (refine hT ⟨⟨b, _, _, _, _, _, _⟩, tb, _, _, _⟩ _ _ _ _ (by assumption) (by assumption) (by kst_in) (by (intro p hp; kst_mem)) ⟨by assumption, by assumption, by assumption, hb3⟩ (by kst_all) (by kst_same) (sn_7 hsn (by assumption) (by assumption) (by assumption)))
  · rintro ⟨sn, tb, v0, v1, v2⟩ u h₁ tk ⟨I0, I1, I2, hb3⟩ hsn F2 N2
    clear F1 N1
    dsimp only at hsn I0 I1 I2 hb3 F2 N2
    k_steps
    rename Fr _ _ _ _ => F9
    rename News _ _ _ _ => N9
    subst hsn
    exact h _ _ _ F9.keep ⟨_, _, _, _, _, _, _, _, _, _, _, rfl, (N9 _ (.head _)).1, (N9 _ (.head _)).2.2, (N9 _ (.tail _ (.head _))).1, (N9 _ (.tail _ (.head _))).2.2, fun p hp => ⟨(N9 p (.tail _ (.tail _ hp))).1, (N9 p (.tail _ (.tail _ hp))).2.2⟩, I0, I1, I2, hb3⟩
end Mine
end

section
open PySem PySem.W PySem.Calls PyProof.Rows PySem.Builtin.Re
namespace Mine

/-! _law_drawn -/
structure DrS where
  v1 : List Value
  n1 : Nat
  v2 : List Value
  n2 : Nat
/-- ints within a bound -/
def Within (B : Nat) (vs : List Value) (most : Nat) : Prop := ∃ cs : List Nat, IntsAre vs (casts cs) ∧ (∀ c ∈ cs, c < B) ∧ cs.length ≤ most
theorem Within.one {B most : Nat} {vs : List Value} {x : Int} {t : Tok} (h : Within B vs most) (h0 : 0 ≤ x) (h1 : x < B) : Within B (vs ++ [.int x t]) (most + 1) := by
  obtain ⟨cs, h2, h3, h4⟩ := h
  obtain ⟨c, rfl⟩ := Int.eq_ofNat_of_zero_le h0
  refine ⟨cs ++ [c], ?_, ?_, by simp; omega⟩
  · have := h2.append (.cons (c : Int) t .nil)
    simpa [casts] using this
  · intro d hd
    rcases List.mem_append.mp hd with q | q
    · exact h3 d q
    · rw [List.mem_singleton.mp q]; omega
theorem Within.more {B most most' : Nat} {vs : List Value} (h : Within B vs most) (hm : most ≤ most') : Within B vs most' := by
  obtain ⟨cs, h2, h3, h4⟩ := h
  exact ⟨cs, h2, h3, by omega⟩
theorem Within.len {B most : Nat} {vs : List Value} (h : Within B vs most) : vs.length ≤ most := by
  obtain ⟨cs, h2, h3, h4⟩ := h
  rw [h2.length, List.length_map]; exact h4

theorem Within.two {B most : Nat} {vs : List Value} {x y : Int} {t u : Tok} (h : Within B vs most) (h0 : 0 ≤ x) (h1 : x < B) (g0 : 0 ≤ y) (g1 : y < B) : Within B (vs ++ [.int x t, .int y u]) (most + 2) := by
  have := (h.one (t := t) h0 h1).one (t := u) g0 g1
  rwa [List.append_assoc] at this
theorem getD_in {B : Nat} (k : Nat) : ∀ (l : List Int), (∀ x ∈ l, 0 ≤ x ∧ x < B) → 0 < B → ∀ k, 0 ≤ l.getD k 0 ∧ l.getD k 0 < B
  | [], _, hB, k => by simp; omega
  | x :: r, h, hB, 0 => by simpa using h x (.head _)
  | x :: r, h, hB, k + 1 => by simpa using getD_in k r (fun y hy => h y (.tail _ hy)) hB k
theorem fm (a k : Int) (hk : 0 < k) : 0 ≤ a.fmod k ∧ a.fmod k < k := by
  rw [Int.fmod_eq_emod_of_nonneg a (by omega)]
  exact ⟨Int.emod_nonneg _ (by omega), Int.emod_lt_of_pos _ hk⟩
abbrev DrOk (c : DrS) : Prop := True
theorem drawn_loop {prog : Program} {w : World} {A : Around} {s : Shared} {env : Env} {h₀ : Heap} {L : Addr} {body : List Stmt} {Q : Flow → Shared → Prop} {E : Value → Shared → Prop} {l cd dd : Addr} {vs : List Value} {news : List (Addr × Obj)} {ns : List Int} {nn : Nat} {m₀ : Str → Option Value}
    (hL : env.locals = L) (hh : A.handled = none) (hlm : (l, listOf vs.toArray nn) ∈ news) (hi : IntsAre vs ns) (hlen : ns.length ≤ 6) (F : Fr h₀ L s.heap m₀) (N : News h₀ L s.heap news) (hc : (cd, listOf #[] 0) ∈ news) (hd : (dd, listOf #[] 0) ∈ news)
    (turn : ∀ (v1 v2 : List Value) (n1 n2 : Nat) (pre post : List Int) (n : Int) t (u : Str → Option Value) h tk own, ns = pre ++ n :: post → OwnOff own [l, cd, dd] → pre.length ≤ 6 → Within 55296 v1 (2 * pre.length) → Within 8 v2 pre.length →
      Fr h₀ L h (fun y => if y = Str.ofString "x" then some (.int n t) else if ([Str.ofString "kind", Str.ofString "rest"] : List Str).contains y then u y else m₀ y) →
      News h₀ L h ((l, listOf vs.toArray nn) :: (cd, listOf v1.toArray n1) :: (dd, listOf v2.toArray n2) :: own) →
      ∀ Qx : Flow → Shared → Prop, (∀ h' tk' m' news' v1' v2' n1' n2', Fr h₀ L h' m' → News h₀ L h' news' → (l, listOf vs.toArray nn) ∈ news' → (cd, listOf v1'.toArray n1') ∈ news' → (dd, listOf v2'.toArray n2') ∈ news' → (∀ p ∈ own, p ∈ news') →
          (∀ z, z ≠ Str.ofString "x" → ([Str.ofString "kind", Str.ofString "rest"] : List Str).contains z = false → m' z = m₀ z) → Within 55296 v1' (2 * (pre.length + 1)) → Within 8 v2' (pre.length + 1) → Qx .next { s with heap := h', toks := tk' }) →
        wpAny (model prog w) A (execs body env) Qx E { s with heap := h, toks := tk })
    (done : ∀ (v1 v2 : List Value) (n1 n2 : Nat) (u : Str → Option Value) h tk, Within 55296 v1 12 → Within 8 v2 6 →
      Fr h₀ L h (fun y => if y = Str.ofString "x" then u y else if ([Str.ofString "kind", Str.ofString "rest"] : List Str).contains y then u y else m₀ y) →
      News h₀ L h [(l, listOf vs.toArray nn), (cd, listOf v1.toArray n1), (dd, listOf v2.toArray n2)] → Q .next { s with heap := h, toks := tk }) :
    wpAny (model prog w) A (pyIter (.ref l)) (fun it s₂ => LoopAtV prog w A h₀ env (Str.ofString "x") body Q E it s₂) E s := by
  subst hL
  refine kst_listL (σ := DrS) (fun c => [(l, listOf vs.toArray nn), (cd, listOf c.v1.toArray c.n1), (dd, listOf c.v2.toArray c.n2)]) (fun _ => []) (fun _ => True) [Str.ofString "kind", Str.ofString "rest"]
    (fun pre c => Within 55296 c.v1 (2 * pre.length) ∧ Within 8 c.v2 pre.length) ⟨[], 0, [], 0⟩ hh (fun _ => .head _) hi F (fun p hp => N p ?_) trivial (fun _ hp => nomatch hp) ⟨⟨[], .nil, fun _ h => (nomatch h), by simp⟩, ⟨[], .nil, fun _ h => (nomatch h), by simp⟩⟩ ?_ ?_
  · rcases List.mem_cons.mp hp with rfl | hp
    · exact hlm
    rcases List.mem_cons.mp hp with rfl | hp
    · exact hc
    rcases List.mem_cons.mp hp with rfl | hp
    · exact hd
    · exact nomatch hp
  · rintro ⟨v1, n1, v2, n2⟩ pre post n t u h₁ tk own e _ hoff _ ⟨w1, w2⟩ F2 N2
    refine turn v1 v2 n1 n2 pre post n t u h₁ tk own e hoff (by rw [e] at hlen; simp at hlen; omega) w1 w2 F2 N2 _ ?_
    intro h' tk' m' news' v1' v2' n1' n2' F' N' q1 q2 q3 q4 q5 q6 q7
    refine kst_end ⟨v1', n1', v2', n2'⟩ F' N' ?_ q4 rfl trivial (fun _ hp => nomatch hp) (fun z z1 _ z3 => q5 z z1 z3) ⟨by rw [List.length_append]; exact q6, by rw [List.length_append]; exact q7⟩
    exact List.forall_mem_cons.mpr ⟨q1, List.forall_mem_cons.mpr ⟨q2, List.forall_mem_cons.mpr ⟨q3, List.forall_mem_nil _⟩⟩⟩
  · rintro ⟨v1, n1, v2, n2⟩ u h₁ tk _ ⟨w1, w2⟩ F2 N2
    exact done v1 v2 n1 n2 u h₁ tk (w1.more (by omega)) (w2.more hlen) F2 N2

theorem for_stop2 {M : Model} {A : Around} {env : Env} {x : Str} {px pos : Pos} {iter : Expr} {body : List Stmt} {Q : Flow → Shared → Prop} {E : Value → Shared → Prop} {s : Shared}
    (h : Stop (wpAny M A (exec (.For (.Name x px) iter body [] pos) env) Q E s)) : wpAny M A (exec (.For (.Name x px) iter body [] pos) env) Q E s := h
local macro_rules | `(tactic| walk_at "call builtin:list.extend") => `(tactic| ((with_reducible show wpAny _ _ (call (Value.builtin _) [Value.ref _, Value.ref _]) _ _ _); (refine' extend_ ?F ?N ?b ?D ?z ?n ?U ?_; (case F => k_asm); (case N => k_asm); (case b => k_mem); (case D => k_memK); (case z => (simp only [List.length_replicate, List.length_cons, List.length_nil]; omega)); (case n => exact rfl); (case U => k_upd)); intro h' F' N'; (try k_sweep)))
local macro_rules | `(tactic| walk_at "exec For") => `(tactic| refine for_stop ?_)
local macro_rules | `(tactic| walk_at "exec For Name Subscript cons nil") => `(tactic| refine for_stop ?_)
theorem pyIter_stop {M : Model} {A : Around} {v : Value} {Q : Value → Shared → Prop} {E : Value → Shared → Prop} {s : Shared} (h : Stop (wpAny M A (pyIter v) Q E s)) : wpAny M A (pyIter v) Q E s := h
local macro_rules | `(tactic| walk_at "pyIter ref") => `(tactic| refine pyIter_stop ?_)
set_option maxHeartbeats 4000000 in
theorem drawn_spec (w : World) {ns : List Int} {l : Addr} {vs : List Value} (hlen : ns.length ≤ 63) (hvs : IntsAre vs ns) :
    Spec w 151 1 (fun h => h.IsList l vs.toArray) [.ref l]
      (fun h h' r => ∃ a cd dd n1 n2 v1 v2, r = .ref a ∧ h'.get? a = some { cls := .type "tuple", data := .seq #[.ref cd, .ref dd] } ∧ h.get? a = none ∧
        h'.get? cd = some (listOf v1.toArray n1) ∧ h.get? cd = none ∧ h'.get? dd = some (listOf v2.toArray n2) ∧ h.get? dd = none ∧ Within 55296 v1 12 ∧ Within 8 v2 6) := by
  rintro prog ⟨ah, ad, af, ag, au⟩ s E Q ⟨X, p, loose, mg, mb, T⟩ hh hd hu hl h
  dsimp only at hh hd hu
  subst hh
  k_dflt (refine enter X T.nolimit (by dsimp only; omega) (by k_is) (by k_is) rfl (locs rfl) (by decide) rfl rfl rfl ?_)
  intro L' h' F' N'
  try dsimp only
  k_steps
  rename Fr _ _ _ _ => F1
  rename News _ _ _ _ => N1
  unfold Stop
  refine For_invVF F1 rfl rfl ?_ (fun _ => rfl) PassesOwn.never
  k_steps
  rename Fr _ _ _ _ => F3
  rename News _ _ _ _ => N3
  unfold Stop
  refine drawn_loop rfl rfl (.head _) (by assumption) (by rw [List.length_take]; omega) F3 N3 (.tail _ (.tail _ (.tail _ (.tail _ (.tail _ (.head _)))))) (.tail _ (.tail _ (.tail _ (.tail _ (.head _))))) ?_ ?_
  · intro v1 v2 n1 n2 pre post n t u h₁ tk own hcs hoff hpl w1 w2 F2 N2 Qx hT
    clear F3 N3 h
    dsimp only [envOf] at F2 N2
    have z1 := w1.len
    have z2 := w2.len
    k_steps
    all_goals (rename Fr _ _ _ _ => F9; rename News _ _ _ _ => N9; (try simp only [List.push_toArray] at N9))
    all_goals have g8 := fm (n.fdiv 10) 8 (by decide)
    all_goals refine hT _ _ _ _ _ _ _ _ F9 N9 (by k_memK) (by k_memK) (by k_memK) (by (intro p hp; kst_mem)) (by (intro z h1 h2; first | (simp [h1]; done) | (simp only [List.contains_cons, List.contains_nil, Bool.or_false, Bool.or_eq_false_iff, beq_eq_false_iff_ne, ne_eq] at h2; simp [h1, h2]; done))) ?_ ((w2.one g8.1 g8.2).more (Nat.le_refl _))
    · exact (w1.two (by decide) (by decide) (by decide) (by decide)).more (by omega)
    · have g := getD_in (B := 55296) 0 [46, 13, 10, 0, 174] (by decide) (by decide) (n.fmod 10).toNat
      exact (w1.one g.1 g.2).more (by omega)
    · have g := getD_in (B := 55296) 0 [141, 138, 77, 106, 45, 202] (by decide) (by decide) ((n.fdiv 80).fmod 6).toNat
      exact (w1.one g.1 g.2).more (by omega)
    · have g := getD_in (B := 55296) 0 [302, 269, 266, 430, 397, 394] (by decide) (by decide) ((n.fdiv 80).fmod 6).toNat
      exact (w1.one g.1 g.2).more (by omega)
    · have g := fm (n.fdiv 80) 94 (by decide)
      exact (w1.one (by omega) (by omega)).more (by omega)
    · have g := fm (n.fdiv 80) 256 (by decide)
      exact (w1.one (by omega) (by omega)).more (by omega)
    · have g := fm (n.fdiv 80) 55296 (by decide)
      exact (w1.one (by omega) (by omega)).more (by omega)
  · intro v1 v2 n1 n2 u h₁ tk w1 w2 F2 N2
    clear F3 N3
    dsimp only [envOf] at F2 N2
    try dsimp only
    k_steps
    rename Fr _ _ _ _ => F9
    rename News _ _ _ _ => N9
    exact h _ _ _ F9.keep ⟨_, _, _, _, _, _, _, rfl, (N9 _ (.head _)).1, (N9 _ (.head _)).2.2, (N9 _ (.tail _ (.tail _ (.head _)))).1, (N9 _ (.tail _ (.tail _ (.head _)))).2.2, (N9 _ (.tail _ (.tail _ (.tail _ (.head _))))).1, (N9 _ (.tail _ (.tail _ (.tail _ (.head _))))).2.2, w1, w2⟩
end Mine
end

section
open PySem PySem.W PySem.Calls PyProof.Rows PySem.Builtin.Re
namespace Mine

/-! _law_left: the plain functions -/
def Sn.sees (s : Sn) (k : Nat) : Bool := if k = 0 then s.ct else if k = 1 then s.mr else s.ot
def hideN (s : Sn) (c : Nat) : Nat := if s.sees (kindN c) = true ∨ c / 128 % 2 = 1 then c else c + 128
def srvT (two : Bool) (k : Tri) (cs : List Nat) : List Nat := srv two k.e k.m k.b none cs
def srvAll (two : Bool) (s : Sn) (cs : List Nat) : List Nat :=
  let s0 := srvT two s.k0 cs
  let s1 := if 0 < s.bh then srvT two s.k1 (s0.map (· % 128)) else s0
  if 1 < s.bh then srvT two s.k2 (s1.map (· % 32)) else s1
def leftN (two : Bool) (ds cs : List Nat) : List Nat := (srvAll two (seen ds) cs).map (hideN (seen ds))

def Tri.le (k : Tri) (n : Nat) : Prop := k.e ≤ n ∧ k.m ≤ n ∧ k.b ≤ n
def Sn.le (s : Sn) (n : Nat) : Prop := s.k0.le n ∧ s.k1.le n ∧ s.k2.le n
theorem bool_le (b : Bool) : b.toNat ≤ 1 := by cases b <;> decide
theorem step_le (s : Sn) (n d : Nat) (h : s.le n) : (s.step d).le (n + 1) := by
  obtain ⟨⟨a1, a2, a3⟩, ⟨b1, b2, b3⟩, c1, c2, c3⟩ := h
  have up : s.le (n + 1) := ⟨⟨by omega, by omega, by omega⟩, ⟨by omega, by omega, by omega⟩, by omega, by omega, by omega⟩
  unfold Sn.step
  split
  · unfold Sn.put Sn.at
    have hb := bool_le s.ct
    have hb2 := bool_le (s.mr && decide (d < 2))
    have hb3 := bool_le (s.ct && s.mr && decide (d < 2))
    have e : ∀ k : Tri, k.le n → (k.bump s.ct (s.mr && decide (d < 2)) (s.ct && s.mr && decide (d < 2))).le (n + 1) := by
      rintro k ⟨q1, q2, q3⟩
      exact ⟨by show k.e + _ ≤ _; omega, by show k.m + _ ≤ _; omega, by show k.b + _ ≤ _; omega⟩
    by_cases h0 : s.bh = 0
    · rw [if_pos h0, if_pos h0]; exact ⟨e _ ⟨a1, a2, a3⟩, up.2⟩
    · rw [if_neg h0, if_neg h0]
      by_cases h1 : s.bh = 1
      · rw [if_pos h1, if_pos h1]; exact ⟨up.1, e _ ⟨b1, b2, b3⟩, up.2.2⟩
      · rw [if_neg h1, if_neg h1]; exact ⟨up.1, up.2.1, e _ ⟨c1, c2, c3⟩⟩
  · split
    · exact up
    · split
      · exact up
      · split <;> exact up
theorem seen_le : ∀ (ds : List Nat), (seen ds).le ds.length := by
  have key : ∀ (ds : List Nat) (s : Sn) (n : Nat), s.le n → (ds.foldl Sn.step s).le (n + ds.length) := by
    intro ds
    induction ds with
    | nil => intro s n h; exact h
    | cons d r ih =>
      intro s n h
      have := ih (s.step d) (n + 1) (step_le s n d h)
      rw [List.length_cons]
      have e : n + (r.length + 1) = n + 1 + r.length := by omega
      rw [e]; exact this
  intro ds
  have := key ds Sn.zero 0 ⟨⟨Nat.zero_le _, Nat.zero_le _, Nat.zero_le _⟩, ⟨Nat.zero_le _, Nat.zero_le _, Nat.zero_le _⟩, Nat.zero_le _, Nat.zero_le _, Nat.zero_le _⟩
  rwa [Nat.zero_add] at this
theorem piece_le (two : Bool) (k : Tri) (n : Nat) (h : k.le n) (b : Option Nat) (c : Nat) : (piece two k.e k.m k.b b c).length ≤ n + 2 := by
  obtain ⟨h0, h1, h2⟩ := h
  unfold piece
  rw [List.length_append]
  have e1 : (if c = 46 ∧ b = none then List.replicate k.m 46 else if c = 46 ∧ b.any (isE two) = true then List.replicate k.b 46 else []).length ≤ n := by
    split
    · simpa using h1
    · split
      · simpa using h2
      · simp
  have e2 : (if isE two c = true ∧ two = true ∧ 0 < k.e then (if c = 13 ∨ b ≠ some 13 then [13, 10] else []) else [c]).length ≤ 2 := by
    split
    · split <;> simp
    · simp
  omega
theorem srv_le (two : Bool) (k : Tri) (n : Nat) (h : k.le n) : ∀ (b : Option Nat) (l : List Nat), (srv two k.e k.m k.b b l).length ≤ (n + 2) * l.length
  | _, [] => Nat.zero_le _
  | b, c :: r => by
    have h1 := piece_le two k n h b c
    have h2 := srv_le two k n h (some c) r
    rw [srv, List.length_append, List.length_cons, Nat.mul_succ]
    omega
theorem srvT_le {two : Bool} {k : Tri} {n : Nat} (h : k.le n) (l : List Nat) : (srvT two k l).length ≤ (n + 2) * l.length := srv_le two k n h none l
theorem mem_piece {two : Bool} {k0 k1 k2 : Nat} {b : Option Nat} {c x : Nat} {B : Nat} (hB : 46 < B) (hc : c < B) (h : x ∈ piece two k0 k1 k2 b c) : x < B := by
  unfold piece at h
  rcases List.mem_append.mp h with h | h
  · split at h
    · rw [List.eq_of_mem_replicate h]; exact hB
    · split at h
      · rw [List.eq_of_mem_replicate h]; exact hB
      · exact nomatch h
  · split at h
    · split at h
      · simp at h; omega
      · exact nomatch h
    · rw [List.mem_singleton.mp h]; exact hc
theorem srv_lt {two : Bool} {k0 k1 k2 B : Nat} (hB : 46 < B) : ∀ (b : Option Nat) (l : List Nat), (∀ c ∈ l, c < B) → ∀ x ∈ srv two k0 k1 k2 b l, x < B
  | _, [], _, _, h => nomatch h
  | b, c :: r, hl, x, h => by
    rw [srv] at h
    rcases List.mem_append.mp h with h | h
    · exact mem_piece hB (hl c (.head _)) h
    · exact srv_lt hB (some c) r (fun d hd => hl d (.tail _ hd)) x h

section
variable {prog : Program} {w : World} {A : Around} {E : Value → Shared → Prop} {s : Shared} {h₀ : Heap} {L : Addr} {m : Str → Option Value} {news : List (Addr × Obj)} {p : Program} {loose : List Str} {mg mb : Str → Option Value} {Q : Value → Shared → Prop}
theorem newsAdd {h' : Heap} {a : Addr} {o : Obj} (F : Fr h₀ L s.heap m) (N : News h₀ L h' news) (h1 : h'.get? a = some o) (h2 : s.heap.get? a = none) : News h₀ L h' ((a, o) :: news) := by
  intro q hq
  rcases List.mem_cons.mp hq with rfl | hq
  · refine ⟨h1, fun e => ?_, ?_⟩
    · obtain ⟨oL, _, _, hL, _⟩ := F.ns
      rw [← e, h2] at hL; cases hL
    · cases hh : h₀.get? a with
      | none => rfl
      | some o' => rw [F.keep _ _ hh] at h2; cases h2
  · exact N q hq
theorem tri_vals {v : List Value} {k : Tri} (h : IntsAre v (casts k.l)) : ∃ t0 t1 t2, v = [.int (k.e : Nat) t0, .int (k.m : Nat) t1, .int (k.b : Nat) t2] := by
  unfold Tri.l casts at h
  cases h with
  | cons _ t0 h => cases h with
    | cons _ t1 h => cases h with
      | cons _ t2 h => cases h; exact ⟨t0, t1, t2, rfl⟩
theorem seen_use {l : Addr} {vs : List Value} {ds : List Nat} (F : Fr h₀ L s.heap m) (N : News h₀ L s.heap news) (X : (hd.heap_39 w.params).In h₀) (T : TopRead p loose mg mb h₀) (hh : A.handled = none) (hd : A.depth + 1 < recursionLimit) (hu : A.units + 10 * 1 < 9000)
    (hl : s.heap.IsList l vs.toArray) (hd8 : ∀ d ∈ ds, d < 8) (hvs : IntsAre vs (casts ds))
    (h : ∀ (a co c0 c1 c2 cs : Addr) (n tb a0 a1 a2 b0 b1 b2 e0 e1 e2 : Nat) h' tk, (seen ds).bh < 3 → Fr h₀ L h' m →
      News h₀ L h' ((a, ({ cls := .type "tuple", data := .seq #[.int ((seen ds).bh : Nat) tb, .ref co, .ref cs] } : Obj)) :: (cs, listOf #[.bool (seen ds).ct, .bool (seen ds).mr, .bool (seen ds).ot] n) :: (co, listOf #[.ref c0, .ref c1, .ref c2] 0) ::
        (c2, listOf #[.int ((seen ds).k2.e : Nat) e0, .int ((seen ds).k2.m : Nat) e1, .int ((seen ds).k2.b : Nat) e2] 0) :: (c1, listOf #[.int ((seen ds).k1.e : Nat) b0, .int ((seen ds).k1.m : Nat) b1, .int ((seen ds).k1.b : Nat) b2] 0) ::
        (c0, listOf #[.int ((seen ds).k0.e : Nat) a0, .int ((seen ds).k0.m : Nat) a1, .int ((seen ds).k0.b : Nat) a2] 0) :: news) → Q (.ref a) { s with heap := h', toks := tk }) :
    wpAny (model prog w) A (call (.ref 158) [.ref l]) Q E s := by
  refine (seen_spec w hd8 hvs).use F N X T hh hd hu hl ?_
  rintro v h' tk ⟨a, co, c0, c1, c2, cs, n, tb, v0, v1, v2, rfl, q1, q2, q3, q4, q5, I0, I1, I2, hb⟩ st F' N'
  obtain ⟨a0, a1, a2, rfl⟩ := tri_vals I0
  obtain ⟨b0, b1, b2, rfl⟩ := tri_vals I1
  obtain ⟨e0, e1, e2, rfl⟩ := tri_vals I2
  refine h a co c0 c1 c2 cs n tb a0 a1 a2 b0 b1 b2 e0 e1 e2 h' tk hb F' ?_
  have r0 := q5 _ (.head _)
  have r1 := q5 _ (.tail _ (.head _))
  have r2 := q5 _ (.tail _ (.tail _ (.head _)))
  have r3 := q5 _ (.tail _ (.tail _ (.tail _ (.head _))))
  exact newsAdd F (newsAdd F (newsAdd F (newsAdd F (newsAdd F (newsAdd F N' r3.1 r3.2) r2.1 r2.2) r1.1 r1.2) r0.1 r0.2) q3 q4) q1 q2
theorem served_use {two : Bool} {k : Tri} {cs : List Nat} {l1 l2 l3 : Addr} {vs us : List Value} {t0 t1 t2 : Tok} (F : Fr h₀ L s.heap m) (N : News h₀ L s.heap news) (X : (hd.heap_39 w.params).In h₀) (T : TopRead p loose mg mb h₀) (hh : A.handled = none) (hd : A.depth + 1 < recursionLimit) (hu : A.units + 10 * 1 < 9000)
    (hl1 : s.heap.IsList l1 vs.toArray) (hl2 : s.heap.IsList l2 us.toArray) (hl3 : s.heap.IsList l3 #[.int (k.e : Nat) t0, .int (k.m : Nat) t1, .int (k.b : Nat) t2]) (hvs : IntsAre vs (casts cs)) (hus : IntsAre us (casts (endsOf two))) (hk : k.le 6) (hn : cs.length ≤ 10000)
    (h : ∀ (a : Addr) (ws : List Value) (n : Nat) h' tk, (srvT two k cs).length ≤ 8 * cs.length → IntsAre ws (casts (srvT two k cs)) → Fr h₀ L h' m → News h₀ L h' ((a, listOf ws.toArray n) :: news) → Q (.ref a) { s with heap := h', toks := tk }) :
    wpAny (model prog w) A (call (.ref 165) [.ref l1, .ref l2, .ref l3]) Q E s := by
  refine (served_spec w (Nat.le_trans hk.1 (by decide)) (Nat.le_trans hk.2.1 (by decide)) (Nat.le_trans hk.2.2 (by decide)) hn hvs hus).use F N X T hh hd hu ⟨hl1, hl2, hl3⟩ ?_
  rintro v h' tk ⟨a, ws, n, rfl, q1, q2, q3⟩ st F' N'
  exact h a ws n h' tk (srvT_le hk cs) q3 F' (newsAdd F N' q2 q1)
end
local macro_rules | `(tactic| ktr_room) => `(tactic| (simp only [depth_deeper]; omega))
local macro_rules | `(tactic| ktr_units) => `(tactic| (simp only [units_deeper]; omega))
local macro_rules | `(tactic| walk_at "call ref") => `(tactic| ((with_reducible show wpAny _ _ (call (Value.ref 158) _) _ _ _); (k_dflt (refine' seen_use ?F ?N ?X ?T ?hh ?hd ?hu ?hl ?h8 ?hv ?_; (case F => k_asm); (case N => k_asm); (case X => k_asm); (case T => k_asm); (case hh => rfl); (case hd => ktr_room); (case hu => ktr_units); (case hl => is_list); (case h8 => assumption); (case hv => assumption))); intro a' co' c0' c1' c2' cs' n' tb' x0 x1 x2 y0 y1 y2 z0 z1 z2 h' tk' hb' F' N'; (try dsimp only); (try k_sweep)))
local macro_rules | `(tactic| walk_at "call ref") => `(tactic| ((with_reducible show wpAny _ _ (call (Value.ref 165) _) _ _ _); (k_dflt (refine' served_use ?F ?N ?X ?T ?hh ?hd ?hu ?l1 ?l2 ?l3 ?v1 ?v2 ?k ?n ?_; (case F => k_asm); (case N => k_asm); (case X => k_asm); (case T => k_asm); (case hh => rfl); (case hd => ktr_room); (case hu => ktr_units); (case l1 => first | is_list | exact ⟨_, News.get (by assumption) (by k_memK), rfl, _, rfl⟩); (case l2 => is_list); (case l3 => is_list); (case v1 => tb_rel); (case v2 => assumption); (case k => assumption); (case n => (try simp only [List.length_map]); omega))); intro a' ws' n' h' tk' hz' hI' F' N'; (try dsimp only); (try k_sweep)))
theorem casts_mod {vs : List Value} {cs : List Nat} {k : Nat} (hk : 0 < k) (h : IntsAre vs ((casts cs).map fun x => x.fmod (k : Int))) : IntsAre vs (casts (cs.map (· % k))) := by
  have e : (casts cs).map (fun x => x.fmod (k : Int)) = casts (cs.map (· % k)) := by
    rw [casts, casts, List.map_map, List.map_map]
    refine List.map_congr_left fun c _ => ?_
    show (c : Int).fmod k = ((c % k : Nat) : Int)
    rw [Int.fmod_eq_emod_of_nonneg _ (by omega)]; rfl
  rw [← e]; exact h
local macro_rules | `(tactic| tb_rel) => `(tactic| first | assumption | exact casts_mod (k := 128) (by decide) (by assumption) | exact casts_mod (k := 32) (by decide) (by assumption))
theorem if_stop {M : Model} {A : Around} {env : Env} {t : Expr} {b o : List Stmt} {pos : Pos} {Q : Flow → Shared → Prop} {E : Value → Shared → Prop} {s : Shared}
    (h : Stop (wpAny M A (exec (.If t b o pos) env) Q E s)) : wpAny M A (exec (.If t b o pos) env) Q E s := h
local macro_rules | `(tactic| walk_at "exec For Name Name cons nil") => `(tactic| refine for_stop ?_)
theorem cut_if {M : Model} {A : Around} {env : Env} {st : Stmt} {Q : Flow → Shared → Prop} {E : Value → Shared → Prop} {s : Shared} {h₀ h : Heap} {L a : Addr} {Mf : Str → Option Value} {ws : List Value} {n tk : Nat} {base : List (Addr × Obj)} (X : List Nat)
    (F : Fr h₀ L h (fun y => if y = Str.ofString "served" then some (.ref a) else Mf y)) (N : News h₀ L h ((a, listOf ws.toArray n) :: base))
    (h1 : ∀ Qx : Flow → Shared → Prop, (∀ (a' : Addr) (xs : List Value) (n' : Nat) h' tk' m' news', Fr h₀ L h' m' → News h₀ L h' news' → m' (Str.ofString "served") = some (.ref a') → (∀ z, z ≠ Str.ofString "served" → m' z = Mf z) → (a', listOf xs.toArray n') ∈ news' → (∀ p ∈ base, p ∈ news') → IntsAre xs (casts X) → Qx .next { s with heap := h', toks := tk' }) →
      wpAny M A (exec st env) Qx E { s with heap := h, toks := tk })
    (h2 : ∀ (a' : Addr) (xs : List Value) (n' : Nat) h' tk', Fr h₀ L h' (fun y => if y = Str.ofString "served" then some (.ref a') else Mf y) → News h₀ L h' ((a', listOf xs.toArray n') :: base) → IntsAre xs (casts X) → Q .next { s with heap := h', toks := tk' }) :
    wpAny M A (exec st env) Q E { s with heap := h, toks := tk } := by
  refine h1 _ fun a' xs n' h' tk' m' news' F' N' e1 e2 q1 q2 q3 => h2 a' xs n' h' tk' ?_ (List.forall_mem_cons.mpr ⟨N' _ q1, fun p hp => N' p (q2 p hp)⟩) q3
  have e : m' = fun y => if y = Str.ofString "served" then some (.ref a') else Mf y := by
    funext y
    by_cases hy : y = Str.ofString "served"
    · rw [hy, e1, if_pos rfl]
    · rw [if_neg hy, e2 y hy]
  rw [← e]; exact F'
theorem hide_step {sn : Sn} {n : Nat} (h : sn.sees (kindN n) = true) : hideN sn n = n := by rw [hideN, if_pos (.inl h)]
theorem fd_nat (n : Nat) : ((n : Int).fdiv 128).fmod 2 = ((n / 128 % 2 : Nat) : Int) := by
  rw [Int.fdiv_eq_ediv_of_nonneg _ (by omega), Int.fmod_eq_emod_of_nonneg _ (by omega)]; rfl
theorem hide_high {sn : Sn} {n : Nat} (h : ((n : Int).fdiv 128).fmod 2 = 1) : hideN sn n = n := by
  rw [fd_nat] at h
  rw [hideN, if_pos (.inr (by omega))]
theorem hide_low {sn : Sn} {n : Nat} (h1 : sn.sees (kindN n) = false) (h2 : ((n : Int).fdiv 128).fmod 2 ≠ 1) : hideN sn n = n + 128 := by
  rw [fd_nat] at h2
  rw [hideN, if_neg (fun q => q.elim (fun e => by rw [h1] at e; cases e) (fun e => by omega))]
theorem kind_lt (n : Nat) : kindN n < 3 := by unfold kindN; split; decide; split <;> decide
section
variable {prog : Program} {w : World} {A : Around} {E : Value → Shared → Prop} {s : Shared} {h₀ : Heap} {L : Addr} {news : List (Addr × Obj)} {Q : Value → Shared → Prop}
theorem seen_item {value slice : Expr} {sn : Sn} {l : Addr} {n k : Nat} {t : Tok} (N : News h₀ L s.heap news) (hm : (l, listOf #[.bool sn.ct, .bool sn.mr, .bool sn.ot] n) ∈ news) (hk : k < 3) (h : Q (.bool (sn.sees k)) s)
    (hs : subscripted slice false (.ref l) (.int (k : Nat) t) = operate [.ref l, .int (k : Nat) t] (getItem (.ref l) (.int (k : Nat) t))) :
    wpAny (model prog w) A (subscriptTail value slice (.ref l) (.int (k : Nat) t)) Q E s := by
  have hl : s.heap.IsList l #[.bool sn.ct, .bool sn.mr, .bool sn.ot] := ⟨_, (N _ hm).1, rfl, _, rfl⟩
  refine tail_any hl.typeIs slot_list_getitem.lookup (wpAny_getItem_list hl (by omega) (by omega) ?_ h) hs
  have : k = 0 ∨ k = 1 ∨ k = 2 := by omega
  rcases this with rfl | rfl | rfl <;> rfl
end
structure LfS where
  vs : List Value
  n : Nat
theorem left_loop {prog : Program} {w : World} {A : Around} {s : Shared} {env : Env} {h₀ : Heap} {L : Addr} {body : List Stmt} {Q : Flow → Shared → Prop} {E : Value → Shared → Prop} {l lf sl : Addr} {vs : List Value} {news : List (Addr × Obj)} {cs : List Nat} {nn ns : Nat} {sn : Sn} {m₀ : Str → Option Value}
    (hL : env.locals = L) (hh : A.handled = none) (hlm : (l, listOf vs.toArray nn) ∈ news) (hi : IntsAre vs (casts cs)) (hlen : cs.length ≤ 10000) (F : Fr h₀ L s.heap m₀) (N : News h₀ L s.heap news) (hc : (lf, listOf #[] 0) ∈ news) (hs : (sl, listOf #[.bool sn.ct, .bool sn.mr, .bool sn.ot] ns) ∈ news)
    (turn : ∀ (us : List Value) (k : Nat) (pre post : List Nat) (n : Nat) t (u : Str → Option Value) h tk own, cs = pre ++ n :: post → OwnOff own [lf, l, sl] → us.length ≤ 10000 → IntsAre us (casts (pre.map (hideN sn))) →
      Fr h₀ L h (fun y => if y = Str.ofString "code" then some (.int n t) else m₀ y) → News h₀ L h ((lf, listOf us.toArray k) :: (l, listOf vs.toArray nn) :: (sl, listOf #[.bool sn.ct, .bool sn.mr, .bool sn.ot] ns) :: own) →
      ∀ Qx : Flow → Shared → Prop, (∀ h' tk' m' news' us' k', Fr h₀ L h' m' → News h₀ L h' news' → (lf, listOf us'.toArray k') ∈ news' → (l, listOf vs.toArray nn) ∈ news' → (sl, listOf #[.bool sn.ct, .bool sn.mr, .bool sn.ot] ns) ∈ news' → (∀ p ∈ own, p ∈ news') →
          (∀ z, z ≠ Str.ofString "code" → m' z = m₀ z) → IntsAre us' (casts (pre.map (hideN sn)) ++ [(hideN sn n : Int)]) → Qx .next { s with heap := h', toks := tk' }) →
        wpAny (model prog w) A (execs body env) Qx E { s with heap := h, toks := tk })
    (done : ∀ (us : List Value) (k : Nat) (u : Str → Option Value) h tk, IntsAre us (casts (cs.map (hideN sn))) → Fr h₀ L h (fun y => if y = Str.ofString "code" then u y else m₀ y) →
      News h₀ L h [(lf, listOf us.toArray k), (l, listOf vs.toArray nn), (sl, listOf #[.bool sn.ct, .bool sn.mr, .bool sn.ot] ns)] → Q .next { s with heap := h, toks := tk }) :
    wpAny (model prog w) A (pyIter (.ref l)) (fun it s₂ => LoopAtV prog w A h₀ env (Str.ofString "code") body Q E it s₂) E s := by
  subst hL
  refine kst_listL (σ := LfS) (fun c => [(lf, listOf c.vs.toArray c.n), (l, listOf vs.toArray nn), (sl, listOf #[.bool sn.ct, .bool sn.mr, .bool sn.ot] ns)]) (fun _ => []) (fun _ => True) []
    (fun pre c => ∃ pn : List Nat, pre = casts pn ∧ IntsAre c.vs (casts (pn.map (hideN sn)))) ⟨[], 0⟩ hh (fun _ => .tail _ (.head _)) hi F (fun p hp => N p ?_) trivial (fun _ hp => nomatch hp) ⟨[], rfl, .nil⟩ ?_ ?_
  · rcases List.mem_cons.mp hp with rfl | hp
    · exact hc
    rcases List.mem_cons.mp hp with rfl | hp
    · exact hlm
    rcases List.mem_cons.mp hp with rfl | hp
    · exact hs
    · exact nomatch hp
  · rintro ⟨us, k⟩ pre post n t u h₁ tk own e _ hoff _ ⟨pn, rfl, hI⟩ F2 N2
    obtain ⟨a, b, e1, e2, e3⟩ := List.map_eq_append_iff.mp e
    obtain ⟨n', b', e4, e5, e6⟩ := List.map_eq_cons_iff.mp e3
    have ea : a = pn := casts_inj e2
    subst ea e4 e5
    refine turn us k _ b' n' t u h₁ tk own e1 hoff ?_ hI F2 N2 _ ?_
    · rw [hI.length]; simp only [casts, List.length_map]; rw [e1] at hlen; simp at hlen; omega
    · intro h' tk' m' news' us' k' F' N' q1 q2 q3 q4 q5 q6
      refine kst_end ⟨us', k'⟩ F' N' (List.forall_mem_cons.mpr ⟨q1, List.forall_mem_cons.mpr ⟨q2, List.forall_mem_cons.mpr ⟨q3, List.forall_mem_nil _⟩⟩⟩) q4 rfl trivial (fun _ hp => nomatch hp) (fun z z1 _ _ => q5 z z1) ⟨a ++ [n'], by simp [casts], ?_⟩
      simpa [casts] using q6
  · rintro ⟨us, k⟩ u h₁ tk _ ⟨pn, e, hI⟩ F2 N2
    have : cs = pn := casts_inj e
    subst this
    exact done us k u h₁ tk hI F2 N2
local macro_rules | `(tactic| walk_at "call ref") => `(tactic| ((with_reducible show wpAny _ _ (call (Value.ref 172) _) _ _ _); (k_dflt (refine' Spec.use (kind_spec _ ?c) ?F ?N ?X ?T ?hh ?hd ?hu trivial ?_; (case c => assumption); (case F => k_asm); (case N => k_asm); (case X => k_asm); (case T => k_asm); (case hh => rfl); (case hd => ktr_room); (case hu => ktr_units))); intro v' h' tk' hp' hs' F' N'; (obtain ⟨t', e'⟩ := hp'); (subst e'); (clear hs'); (try dsimp only); (try k_sweep)))
local macro_rules | `(tactic| walk_at "subscriptTail") => `(tactic| ((with_reducible show wpAny _ _ (subscriptTail _ _ (Value.ref _) (Value.int ((kindN _ : Nat) : Int) _)) _ _ _); (k_dflt (refine' seen_item ?N ?m ?k ?_ ?s; (case N => k_asm); (case m => k_memK); (case k => exact kind_lt _); (case s => with_unfolding_all rfl)))))
theorem srvAll_lt {two : Bool} {sn : Sn} {cs : List Nat} (hc : ∀ c ∈ cs, c < 55296) : ∀ c ∈ srvAll two sn cs, c < 55296 := by
  have h0 : ∀ c ∈ srvT two sn.k0 cs, c < 55296 := srv_lt (by decide) none cs hc
  have h1 : ∀ c ∈ (if 0 < sn.bh then srvT two sn.k1 ((srvT two sn.k0 cs).map (· % 128)) else srvT two sn.k0 cs), c < 55296 := by
    split
    · refine srv_lt (by decide) none _ fun c hc => ?_
      obtain ⟨d, hd, rfl⟩ := List.mem_map.mp hc
      have := h0 d hd
      omega
    · exact h0
  unfold srvAll
  dsimp only
  split
  · refine srv_lt (by decide) none _ fun c hc => ?_
    obtain ⟨d, hd, rfl⟩ := List.mem_map.mp hc
    have := h1 d hd
    omega
  · exact h1
local macro_rules | `(tactic| walk_at "exec If") => `(tactic| ((with_reducible show wpAny _ _ (exec (Stmt.If (Expr.Compare (Expr.Name (Str.ofString "behind") _) _ _ _) _ _ _) _) _ _ _); refine if_stop ?_))
set_option maxHeartbeats 4000000 in
theorem left_spec (w : World) {two : Bool} {cs ds : List Nat} {l1 l2 l3 : Addr} {vs us ws : List Value} (hc : ∀ c ∈ cs, c < 55296) (hcl : cs.length ≤ 12) (hd8 : ∀ d ∈ ds, d < 8) (hdl : ds.length ≤ 6) (hvs : IntsAre vs (casts cs)) (hus : IntsAre us (casts (endsOf two))) (hws : IntsAre ws (casts ds)) :
    Spec w 177 2 (fun h => h.IsList l1 vs.toArray ∧ h.IsList l2 us.toArray ∧ h.IsList l3 ws.toArray) [.ref l1, .ref l2, .ref l3]
      (fun h h' r => ∃ a xs n, r = .ref a ∧ h.get? a = none ∧ h'.get? a = some (listOf xs.toArray n) ∧ IntsAre xs (casts (leftN two ds cs))) := by
  rintro prog ⟨ah, ad, af, ag, au⟩ s E Q ⟨X, p, loose, mg, mb, T⟩ hh hd hu ⟨hl1, hl2, hl3⟩ h
  dsimp only at hh hd hu
  subst hh
  k_dflt (refine enter X T.nolimit (by dsimp only; omega) (by k_is) (by k_is) rfl (locs rfl) (by decide) rfl rfl rfl ?_)
  intro L' h' F' N'
  try dsimp only
  have hsl := seen_le ds
  have hk0 : (seen ds).k0.le 6 := ⟨Nat.le_trans hsl.1.1 hdl, Nat.le_trans hsl.1.2.1 hdl, Nat.le_trans hsl.1.2.2 hdl⟩
  have hk1 : (seen ds).k1.le 6 := ⟨Nat.le_trans hsl.2.1.1 hdl, Nat.le_trans hsl.2.1.2.1 hdl, Nat.le_trans hsl.2.1.2.2 hdl⟩
  have hk2 : (seen ds).k2.le 6 := ⟨Nat.le_trans hsl.2.2.1 hdl, Nat.le_trans hsl.2.2.2.1 hdl, Nat.le_trans hsl.2.2.2.2 hdl⟩
  clear hsl
  k_steps
  rename Fr _ _ _ _ => F1
  rename News _ _ _ _ => N1
  rename IntsAre _ (casts (srvT _ _ _)) => hI1
  rename (srvT _ _ _).length ≤ _ => hz1
  unfold Stop
  refine cut_if (if 0 < (seen ds).bh then srvT two (seen ds).k1 ((srvT two (seen ds).k0 cs).map (· % 128)) else srvT two (seen ds).k0 cs) F1 N1 ?_ ?_
  · intro Qx hQ
    refine wpAny_If ?_
    k_steps
    · exact hQ _ _ _ _ _ _ _ (by assumption) (by assumption) rfl (fun z hz => by simp only [if_neg hz]) (by k_memK) (by (intro p hp; kst_mem)) (by rw [if_pos (by omega)]; assumption)
    · exact hQ _ _ _ _ _ _ _ (by assumption) (by assumption) rfl (fun z hz => by simp only [if_neg hz]) (by k_memK) (by (intro p hp; kst_mem)) (by rw [if_neg (by omega)]; assumption)
  · intro a2 xs2 n2 h2 tk2 F2 N2 hI2
    clear F1 N1 hI1
    dsimp only
    have hz2 : (if 0 < (seen ds).bh then srvT two (seen ds).k1 ((srvT two (seen ds).k0 cs).map (· % 128)) else srvT two (seen ds).k0 cs).length ≤ 768 := by
      split
      · have := srvT_le (two := two) hk1 ((srvT two (seen ds).k0 cs).map (· % 128))
        rw [List.length_map] at this
        omega
      · omega
    generalize hX : (if 0 < (seen ds).bh then srvT two (seen ds).k1 ((srvT two (seen ds).k0 cs).map (· % 128)) else srvT two (seen ds).k0 cs) = X1 at hI2 hz2
    k_steps
    unfold Stop
    refine cut_if (if 1 < (seen ds).bh then srvT two (seen ds).k2 (X1.map (· % 32)) else X1) F2 N2 ?_ ?_
    · intro Qx hQ
      refine wpAny_If ?_
      k_steps
      · exact hQ _ _ _ _ _ _ _ (by assumption) (by assumption) rfl (fun z hz => by simp only [if_neg hz]) (by k_memK) (by (intro p hp; kst_mem)) (by rw [if_pos (by omega)]; assumption)
      · exact hQ _ _ _ _ _ _ _ (by assumption) (by assumption) rfl (fun z hz => by simp only [if_neg hz]) (by k_memK) (by (intro p hp; kst_mem)) (by rw [if_neg (by omega)]; assumption)
    · intro a3 xs3 n3 h3 tk3 F3 N3 hI3
      clear F2 N2 hI2
      dsimp only
      have hz3 : (if 1 < (seen ds).bh then srvT two (seen ds).k2 (X1.map (· % 32)) else X1).length ≤ 6144 := by
        split
        · have := srvT_le (two := two) hk2 (X1.map (· % 32))
          rw [List.length_map] at this
          omega
        · omega
      have hall : (if 1 < (seen ds).bh then srvT two (seen ds).k2 (X1.map (· % 32)) else X1) = srvAll two (seen ds) cs := by rw [← hX]; rfl
      rw [hall] at hI3 hz3
      clear hX hz2 hall
      have hlt : ∀ c ∈ srvAll two (seen ds) cs, c < 55296 := srvAll_lt hc
      k_steps
      rename Fr _ _ _ _ => F4
      rename News _ _ _ _ => N4
      unfold Stop
      refine For_invVF F4 rfl rfl ?_ (fun _ => rfl) PassesOwn.never
      refine ld F4 rfl ?_
      refine left_loop rfl rfl (.tail _ (.head _)) hI3 (by omega) F4 N4 (.head _) (.tail _ (.tail _ (.tail _ (.head _)))) ?_ ?_
      · intro us1 k pre post n t u h₁ tk own hcs hoff hz hI F5 N5 Qx hT
        have hn : n < 1000000 := by have := hlt n (by rw [hcs]; simp); omega
        clear F4 N4 h
        dsimp only [envOf] at F5 N5
        k_steps
        all_goals (rename Fr _ _ _ _ => F9; rename News _ _ _ _ => N9; (try simp only [List.push_toArray] at N9))
        all_goals refine hT _ _ _ _ _ _ F9 N9 (by k_memK) (by k_memK) (by k_memK) (by (intro p hp; kst_mem)) (fun z hz => by simp only [if_neg hz]) (hI.append ?_)
        · rw [hide_step (by assumption)]; exact .cons n _ .nil
        · rw [hide_high (by assumption)]; exact .cons n _ .nil
        · rw [hide_low (by assumption) (by assumption)]; exact .cons _ _ .nil
      · intro us1 k u h₁ tk hI F5 N5
        clear F4 N4
        dsimp only [envOf] at F5 N5
        try dsimp only
        k_steps
        all_goals (try dsimp only)
        all_goals exact h _ _ _ F5.keep ⟨_, _, _, rfl, (N5 _ (.head _)).2.2, (N5 _ (.head _)).1, hI⟩
end Mine
end

section
open PySem PySem.W PySem.Spec PySem.Calls PyProof.Rows
namespace Mine
open LCg

/-- one value for each code -/
inductive Each {α : Type} (G : α → Value → Prop) : List α → List Value → Prop
  | nil : Each G [] []
  | cons {c : α} {v : Value} {cs : List α} {vs : List Value} : G c v → Each G cs vs → Each G (c :: cs) (v :: vs)
theorem Each.snoc {α : Type} {G : α → Value → Prop} {c : α} {v : Value} : ∀ {cs : List α} {vs : List Value}, Each G cs vs → G c v → Each G (cs ++ [c]) (vs ++ [v])
  | _, _, .nil, h => .cons h .nil
  | _, _, .cons h r, h' => .cons h (r.snoc h')
theorem Each.length {α : Type} {G : α → Value → Prop} : ∀ {cs : List α} {vs : List Value}, Each G cs vs → vs.length = cs.length
  | _, _, .nil => rfl
  | _, _, .cons _ r => congrArg (· + 1) r.length

abbrev Ne3 (I C D : Addr) : Prop := (@Ne Nat I C) ∧ (@Ne Nat I D) ∧ (@Ne Nat C D)
section
variable {prog : Program} {w : World} {A : Around} {E : Value → Shared → Prop} {s : Shared} {h₀ : Heap} {L : Addr} {m : Str → Option Value} {env : Env} {elt iter : Expr} {x : Str} {px pos : Pos} {scope : Scope} {cl : List (Str × Addr)} {news : List (Addr × Obj)} {Q : Value → Shared → Prop}

theorem lc_rest {α : Type} {S : List (Addr × Obj) → Prop} {P : Nat → Value → Prop} {Fin : List Value → List (Addr × Obj) → Prop} {T : List α} {V : α → Value → Prop} {G : α → Value → Prop}
    (hP : ∀ i v, i < T.length → P i v → ∃ c, T[i]? = some c ∧ V c v) (hS : S news)
    (turn : ∀ c v I oI C oC D m₂ ys h tk (E' : Value → Shared → Prop), c ∈ T → V c v → NsObj oC m₂ → m₂ x = some v → Fr h₀ L h m → News h₀ L h ((I, oI) :: (C, oC) :: (D, lst ys) :: news) → Off3 I C D news → Ne3 I C D →
      ∀ Qx : Value → Shared → Prop, (∀ y h' tk', G c y → Fr h₀ L h' m → News h₀ L h' ((I, oI) :: (C, oC) :: (D, lst ys) :: news) → Qx y { s with heap := h', toks := tk' }) →
        wpAny (model prog w) A (eval elt (compEnvC scope cl C env)) Qx E' { s with heap := h, toks := tk })
    (fin : ∀ ys, Each G T ys → Fin ys news) : CompRest prog w A h₀ L m env elt x scope cl s S P Fin T.length 0 [] news := by
  have key : ∀ (j i : Nat) (ys : List Value), i + j = T.length → Each G (T.take i) ys → CompRest prog w A h₀ L m env elt x scope cl s S P Fin j i ys news := by
    intro j
    induction j with
    | zero =>
      intro i ys hi hy
      have e : i = T.length := by omega
      subst e
      rw [List.take_length] at hy
      exact CompRest.zero (fin ys hy)
    | succ j ih =>
      intro i ys hi hy
      refine CompRest.succ ?_
      intro v I oI C oC D m₂ h tk E' hv hC hx F N off ne
      obtain ⟨c, hc, hV⟩ := hP i v (by omega) hv
      refine turn c v I oI C oC D m₂ ys h tk E' (List.mem_of_getElem? hc) hV hC hx F N off ne _ ?_
      intro y h' tk' hG F' N'
      refine ⟨h', tk', news, rfl, F', N', off, hS, ?_⟩
      refine ih (i + 1) _ (by omega) ?_
      rw [List.take_add_one, hc]
      exact hy.snoc hG
  exact key T.length 0 [] (by omega) .nil

theorem lc_main {α : Type} {T : List α} {V G : α → Value → Prop} {P : Nat → Value → Prop} {St : Nat → Heap → Prop} {o : Obj} (F : Fr h₀ L s.heap m) (N : News h₀ L s.heap news)
    (hcell : ∀ y ∈ scope.names, y.2 ≠ .cell) (hkind : scope.kind = .function) (hx : scope.names.lookup x = some .local) (hsz : T.length ≤ sizeLine)
    (W : Walks prog w A s.heap.objs.size [s.heap.objs.size] [s.heap.objs.size] T.length P St) (hIo : ∀ i h, St i h → ∃ o, h.get? s.heap.objs.size = some o)
    (hSt : ∀ i (h h' : Heap) o, St i h → h.get? s.heap.objs.size = some o → h'.get? s.heap.objs.size = some o → St i h') (st0 : St 0 (s.heap.push o)) (hP : ∀ i v, i < T.length → P i v → ∃ c, T[i]? = some c ∧ V c v)
    (turn : ∀ c v I oI C oC D m₂ ys h tk (E' : Value → Shared → Prop), c ∈ T → V c v → NsObj oC m₂ → m₂ x = some v → Fr h₀ L h m → News h₀ L h ((I, oI) :: (C, oC) :: (D, lst ys) :: news) → Off3 I C D news → Ne3 I C D →
      ∀ Qx : Value → Shared → Prop, (∀ y h' tk', G c y → Fr h₀ L h' m → News h₀ L h' ((I, oI) :: (C, oC) :: (D, lst ys) :: news) → Qx y { s with heap := h', toks := tk' }) →
        wpAny (model prog w) A (eval elt (compEnvC scope cl C env)) Qx E' { s with heap := h, toks := tk })
    (fin : ∀ ys D h tk, Each G T ys → Fr h₀ L h m → News h₀ L h ((D, lst ys) :: news) → Off1 D news → Q (.ref D) { s with heap := h, toks := tk }) :
    wpAny (model prog w) A (newList []) (fun acc s₃ => wpAny (model prog w) A (newFunctionEnv scope env.globals cl [] env.qual none .none (some env)) (fun cenv s₄ =>
        codeAny (model prog w) A (.compStart (.ListComp elt [⟨.Name x px, iter, [], 0⟩] scope pos) 0 (.ref s.heap.objs.size) acc { cenv with scope := relabel scope env }) (compPost (model prog w) A E none Q acc cenv.locals) s₄) E s₃) E { s with heap := s.heap.push o } := by
  refine block_U (S := fun _ => True) W hsz hIo (fun i h h' o nw st e e' _ _ _ => hSt i h h' o st e e') hcell hkind hx st0 (fun b hb => ?_)
    (F.keeps fun _ _ e => Heap.get?_push_of_some _ e) (N.grown fun _ _ e => Heap.get?_push_of_some _ e) (Nat.ne_of_lt F.ns.lt) (next_is_new F) (fun p hp => Nat.ne_of_lt (Heap.lt_size (N p hp).1)) trivial
    (lc_rest (Fin := fun ys nw => nw = news ∧ Each G T ys) (V := V) (G := G) hP trivial ?_ fun ys hy => ⟨rfl, hy⟩) ?_
  · rw [List.mem_singleton.mp hb]
    show s.heap.objs.size < (s.heap.push _).objs.size
    rw [Heap.size_push]; exact Nat.lt_succ_self _
  · intro c v I oI C oC D m₂ ys h tk E' hc hv hC hx' F' N' off ne Qx hQ
    exact turn c v I oI C oC D m₂ ys h tk E' hc hv hC hx' F' N' off ne Qx hQ
  · rintro D C h tk m' ys news' F' N' o1 hn hC₀ hD₀ hCL hDL hCD offC ⟨rfl, hy⟩
    refine ⟨m', hn, fun h'' hs'' => fin ys D h'' tk hy (F'.change hs'' hCL hC₀) (fun p hp => ?_) o1⟩
    refine ⟨hs''.extBut _ _ ?_ (N' p hp).1, (N' p hp).2⟩
    rcases List.mem_cons.mp hp with rfl | hp
    · exact Ne.symm hCD
    · exact offC p hp

theorem LC_text {T : List Nat} {t : Tok} {G : Nat → Value → Prop} (F : Fr h₀ L s.heap m) (N : News h₀ L s.heap news) (hh : A.handled = none)
    (hclos : closureFor scope env = pure cl) (hcell : ∀ y ∈ scope.names, y.2 ≠ .cell) (hkind : scope.kind = .function)
    (hnames : ∀ y ∈ scope.names, y.2 = .local → scope.names.lookup y.1 = some .local) (hx : scope.names.lookup x = some .local)
    (hev : ∀ Q' : Value → Shared → Prop, Q' (.str ⟨T.toArray⟩ t) s → wpAny (model prog w) A (eval iter env) Q' E s) (hsz : T.length ≤ sizeLine)
    (turn : ∀ c v I oI C oC D m₂ ys h tk (E' : Value → Shared → Prop), c ∈ T → (∃ u, v = .str ⟨#[c]⟩ u) → NsObj oC m₂ → m₂ x = some v → Fr h₀ L h m → News h₀ L h ((I, oI) :: (C, oC) :: (D, lst ys) :: news) → Off3 I C D news → Ne3 I C D →
      ∀ Qx : Value → Shared → Prop, (∀ y h' tk', G c y → Fr h₀ L h' m → News h₀ L h' ((I, oI) :: (C, oC) :: (D, lst ys) :: news) → Qx y { s with heap := h', toks := tk' }) →
        wpAny (model prog w) A (eval elt (compEnvC scope cl C env)) Qx E' { s with heap := h, toks := tk })
    (fin : ∀ ys D h tk, Each G T ys → Fr h₀ L h m → News h₀ L h ((D, lst ys) :: news) → Off1 D news → Q (.ref D) { s with heap := h, toks := tk })
    (hs : ∀ x, foldedSetIterable iter env x = pure x := by intro _; rfl) :
    wpAny (model prog w) A (eval (.ListComp elt [⟨.Name x px, iter, [], 0⟩] scope pos) env) Q E s := by
  rw [eval_ListComp]
  refine wpAny_comprehension_free (use := none) rfl hs hclos hkind hnames (hev _ ?_)
  have e1 : T.length = (⟨T.toArray⟩ : Str).cps.size := by simp
  have hP : ∀ i v, i < T.length → SignAt ⟨T.toArray⟩ i v → ∃ c, T[i]? = some c ∧ ∃ u, v = .str ⟨#[c]⟩ u := by
    rintro i v hi ⟨c, u, hc, rfl⟩
    exact ⟨c, by simpa using hc, u, rfl⟩
  cases ha : (⟨T.toArray⟩ : Str).cps.all (· < 128)
  · refine wpAny_pyIter_wide ha (lc_main (V := fun c v => ∃ u, v = .str ⟨#[c]⟩ u) F N hcell hkind hx hsz (e1 ▸ Walks.strWide hh _ _ t) (fun i h st => let ⟨o, e, _⟩ := st; ⟨o, e⟩) ?_ ⟨_, Heap.get?_push_size _ rfl, rfl, rfl⟩ hP turn fin)
    rintro i h h' o ⟨o', e, r⟩ e1 e2
    rw [e1] at e; cases e; exact ⟨_, e2, r⟩
  · refine wpAny_pyIter_ascii ha (lc_main (V := fun c v => ∃ u, v = .str ⟨#[c]⟩ u) F N hcell hkind hx hsz (e1 ▸ Walks.strAscii hh _ _ t) (fun i h st => let ⟨o, e, _⟩ := st; ⟨o, e⟩) ?_ ⟨_, Heap.get?_push_size _ rfl, rfl, rfl⟩ hP turn fin)
    rintro i h h' o ⟨o', e, r⟩ e1 e2
    rw [e1] at e; cases e; exact ⟨_, e2, r⟩

/-- the bytes of codes -/
def oct (O : List Nat) : Array UInt8 := O.toArray.map (·.toUInt8)
theorem oct_get {O : List Nat} (hO : ∀ c ∈ O, c < 256) {i : Nat} {c : UInt8} (h : (oct O)[i]? = some c) : O[i]? = some c.toNat := by
  unfold oct at h
  rw [Array.getElem?_map] at h
  obtain ⟨d, hd, e⟩ := Option.map_eq_some_iff.mp h
  have hd' : O[i]? = some d := by simpa using hd
  rw [hd', ← e]
  have := hO d (List.mem_of_getElem? hd')
  congr 1
  exact (Nat.mod_eq_of_lt this).symm
theorem oct_size (O : List Nat) : (oct O).size = O.length := by simp [oct]
theorem byteArr_casts (O : List Nat) : byteArr (casts O) = oct O := by
  unfold byteArr oct casts
  rw [List.map_map, List.map_toArray]
  congr 1

theorem LC_oct {T : List Nat} {t : Tok} {G : Nat → Value → Prop} (F : Fr h₀ L s.heap m) (N : News h₀ L s.heap news) (hh : A.handled = none)
    (hclos : closureFor scope env = pure cl) (hcell : ∀ y ∈ scope.names, y.2 ≠ .cell) (hkind : scope.kind = .function)
    (hnames : ∀ y ∈ scope.names, y.2 = .local → scope.names.lookup y.1 = some .local) (hx : scope.names.lookup x = some .local)
    (hev : ∀ Q' : Value → Shared → Prop, Q' (.bytes (oct T) t) s → wpAny (model prog w) A (eval iter env) Q' E s) (hsz : T.length ≤ sizeLine) (hT : ∀ c ∈ T, c < 256)
    (turn : ∀ c v I oI C oC D m₂ ys h tk (E' : Value → Shared → Prop), c ∈ T → (∃ u, v = .int (c : Nat) u) → NsObj oC m₂ → m₂ x = some v → Fr h₀ L h m → News h₀ L h ((I, oI) :: (C, oC) :: (D, lst ys) :: news) → Off3 I C D news → Ne3 I C D →
      ∀ Qx : Value → Shared → Prop, (∀ y h' tk', G c y → Fr h₀ L h' m → News h₀ L h' ((I, oI) :: (C, oC) :: (D, lst ys) :: news) → Qx y { s with heap := h', toks := tk' }) →
        wpAny (model prog w) A (eval elt (compEnvC scope cl C env)) Qx E' { s with heap := h, toks := tk })
    (fin : ∀ ys D h tk, Each G T ys → Fr h₀ L h m → News h₀ L h ((D, lst ys) :: news) → Off1 D news → Q (.ref D) { s with heap := h, toks := tk })
    (hs : ∀ x, foldedSetIterable iter env x = pure x := by intro _; rfl) :
    wpAny (model prog w) A (eval (.ListComp elt [⟨.Name x px, iter, [], 0⟩] scope pos) env) Q E s := by
  rw [eval_ListComp]
  refine wpAny_comprehension_free (use := none) rfl hs hclos hkind hnames (hev _ ?_)
  have e1 : T.length = (oct T).size := (oct_size T).symm
  have hP : ∀ (i : Nat) (v : Value), i < T.length → (∃ c u, (oct T)[i]? = some c ∧ v = .int (c.toNat : Int) u) → ∃ c, T[i]? = some c ∧ ∃ u, v = .int ((c : Nat) : Int) u := by
    rintro i v hi ⟨c, u, hc, rfl⟩
    exact ⟨_, oct_get hT hc, u, rfl⟩
  refine KBw.pyIter_bytes (lc_main (V := fun c v => ∃ u, v = .int ((c : Nat) : Int) u) F N hcell hkind hx hsz (e1 ▸ KBw.walks hh _ _ t) (fun i h st => let ⟨o, e, _⟩ := st; ⟨o, e⟩) ?_ ⟨_, Heap.get?_push_size _ rfl, rfl, rfl⟩ hP turn fin)
  rintro i h h' o ⟨o', e, r⟩ e1 e2
  rw [e1] at e; cases e; exact ⟨_, e2, r⟩

theorem LC_list {α : Type} {T : List α} {V G : α → Value → Prop} {vs : List Value} {l : Addr} {k : Nat} (F : Fr h₀ L s.heap m) (N : News h₀ L s.heap news) (hh : A.handled = none)
    (hclos : closureFor scope env = pure cl) (hcell : ∀ y ∈ scope.names, y.2 ≠ .cell) (hkind : scope.kind = .function)
    (hnames : ∀ y ∈ scope.names, y.2 = .local → scope.names.lookup y.1 = some .local) (hx : scope.names.lookup x = some .local)
    (hev : ∀ Q' : Value → Shared → Prop, Q' (.ref l) s → wpAny (model prog w) A (eval iter env) Q' E s) (hm : (l, listOf vs.toArray k) ∈ news) (hsz : T.length ≤ sizeLine) (hT : Each V T vs)
    (turn : ∀ c v I oI C oC D m₂ ys h tk (E' : Value → Shared → Prop), c ∈ T → V c v → NsObj oC m₂ → m₂ x = some v → Fr h₀ L h m → News h₀ L h ((I, oI) :: (C, oC) :: (D, lst ys) :: news) → Off3 I C D news → Ne3 I C D →
      ∀ Qx : Value → Shared → Prop, (∀ y h' tk', G c y → Fr h₀ L h' m → News h₀ L h' ((I, oI) :: (C, oC) :: (D, lst ys) :: news) → Qx y { s with heap := h', toks := tk' }) →
        wpAny (model prog w) A (eval elt (compEnvC scope cl C env)) Qx E' { s with heap := h, toks := tk })
    (fin : ∀ ys D h tk, Each G T ys → Fr h₀ L h m → News h₀ L h ((D, lst ys) :: news) → Off1 D news → Q (.ref D) { s with heap := h, toks := tk })
    (hs : ∀ x, foldedSetIterable iter env x = pure x := by intro _; rfl) :
    wpAny (model prog w) A (eval (.ListComp elt [⟨.Name x px, iter, [], 0⟩] scope pos) env) Q E s := by
  refine ListComp_U F hclos hcell hkind hnames hx (hev _ (CompSrc.ledger hh F N hm ?_ fun g => ?_)) hs
  · rw [List.size_toArray, hT.length]; exact hsz
  · have e1 : vs.toArray.size = T.length := by rw [List.size_toArray, hT.length]
    rw [e1]
    refine lc_rest (V := V) (G := G) ?_ (.inr ⟨_, hm, rfl, _, rfl⟩) ?_ fun ys hy D h tk F' N' o1 => fin ys D h tk hy F' N' o1
    · intro i v hi hv
      have key : ∀ {T : List α} {vs : List Value} (i : Nat), Each V T vs → vs[i]? = some v → ∃ c, T[i]? = some c ∧ V c v := by
        intro T vs i hE
        induction hE generalizing i with
        | nil => intro h; simp at h
        | cons hc _ ih =>
          intro h
          cases i with
          | zero => simp at h; subst h; exact ⟨_, rfl, hc⟩
          | succ i => simpa using ih i (by simpa using h)
      exact key i hT (by simpa using hv)
    · intro c v I oI C oC D m₂ ys h tk E' hc hv hC hx' F' N' off ne Qx hQ
      exact turn c v I oI C oC D m₂ ys h tk E' hc hv hC hx' F' N' off ne Qx hQ
end
end Mine
end

section
open PySem PySem.W PySem.Spec PySem.Calls PyProof.Rows
namespace Mine

/-- enter a def with cells of its own -/
theorem enterC {prog : Program} {w : World} {A : Around} {s : Shared} {K : Frag} {R : Result → Shared → Prop}
    {name qual : Str} {params : Arguments} {body : List Stmt} {scope : Scope} {dV kV doc pm cdv ct oc : Value} {an od : Option Addr} {osl : Array (Option Value)} {f : Addr} {vals : List Value} {binds : List (Str × Value)}
    (X : K.In s.heap) (hl : s.heap.NoLimit) (hroom : A.depth < recursionLimit)
    (ho : K.lookup f = some ⟨oc, od, .func (fnOf name qual params body scope dV kV doc pm an cdv ct), osl⟩) (hcd : codeIn K cdv qual = true)
    (hbind : bindArgs (fnOf name qual params body scope dV kV doc pm an cdv ct) ⟨vals, []⟩ = pure binds)
    (hkind : ∀ n, ∀ x ∈ binds, scope.names.lookup x.1 = some .local ∨ (scope.names.lookup x.1 = some .cell ∧ ((cellsFrom n scope.names []).lookup x.1).isSome = true))
    (hnd : ((cellsFrom 0 scope.names []).map (·.1)).Nodup) (hco : scope.isCoroutine = false) (hgen : scope.isGenerator = false) (hk : scope.kind = .function)
    (h : ∀ L h₁ tk cells, Fr s.heap L h₁ (bindL (envOfC qual scope L f cdv).kindOf binds fun _ => none) → News s.heap L h₁ cells →
      CellsAre (bindC (envOfC qual scope L f cdv).kindOf binds fun _ => none) (cellsFrom (L + 1) scope.names []) cells →
      wpAny (model prog w) (A.deeper (envOfC qual scope L f cdv)) (execs body (envOfC qual scope L f cdv))
        (fun fl s' => R (.ok (.ret (match fl with | .ret v => v | _ => .none))) s') (fun _ _ => False)
        { s with heap := h₁, toks := tk }) :
    codeAny (model prog w) A (.call (.ref f) ⟨vals, []⟩) R s := by
  refine codeAny_call_function hroom (X _ _ ho) rfl hco hgen rfl (codeRec_of X hcd) (BindsTo.of_eq hbind _ _ _ _ ?_)
  refine wpAny_newFunctionEnv_cells hk (hkind _) fun env' he s' x => ?_
  subst he
  refine ⟨hl.keeps x.toInCall.keep, codeAny_func ?_⟩
  obtain ⟨h₁, tk, rfl, _⟩ := x.done
  have hk₁ := x.toInCall.keep
  obtain ⟨cells, NC, Y⟩ := Cl.news (h₀ := s.heap) (Nat.le_refl _) fun n c hm => ⟨x.cell n c (lookup_of_mem_nodup (cellsFrom_names scope.names 0 (s.heap.objs.size + 1) [] [] rfl ▸ hnd) hm), x.above n c hm⟩
  refine wpAny_mono (h s.heap.objs.size h₁ tk cells ⟨x.toInCall.ns, hk₁, Nat.le_refl _⟩ NC Y) (fun fl s' q => q) fun _ _ q => q.elim

section
variable {prog : Program} {w : World} {A : Around} {E : Value → Shared → Prop} {s : Shared} {h₀ : Heap} {L : Addr} {m : Str → Option Value} {news : List (Addr × Obj)} {p : Program} {loose : List Str} {mg mb : Str → Option Value} {Q : Value → Shared → Prop}
theorem drawn_use {l : Addr} {vs : List Value} {ns : List Int} (F : Fr h₀ L s.heap m) (N : News h₀ L s.heap news) (X : (hd.heap_39 w.params).In h₀) (T : TopRead p loose mg mb h₀) (hh : A.handled = none) (hd : A.depth + 1 < recursionLimit) (hu : A.units + 10 * 1 < 9000)
    (hl : s.heap.IsList l vs.toArray) (hlen : ns.length ≤ 63) (hvs : IntsAre vs ns)
    (h : ∀ (a cd dd : Addr) (n1 n2 : Nat) (v1 v2 : List Value) (cs ds : List Nat) h' tk, IntsAre v1 (casts cs) → IntsAre v2 (casts ds) → (∀ c ∈ cs, c < 55296) → cs.length ≤ 12 → (∀ d ∈ ds, d < 8) → ds.length ≤ 6 → Fr h₀ L h' m →
      News h₀ L h' ((a, ({ cls := .type "tuple", data := .seq #[.ref cd, .ref dd] } : Obj)) :: (cd, listOf v1.toArray n1) :: (dd, listOf v2.toArray n2) :: news) → Q (.ref a) { s with heap := h', toks := tk }) :
    wpAny (model prog w) A (call (.ref 151) [.ref l]) Q E s := by
  refine (drawn_spec w hlen hvs).use F N X T hh hd hu hl ?_
  rintro v h' tk ⟨a, cd, dd, n1, n2, v1, v2, rfl, q1, q2, q3, q4, q5, q6, ⟨cs, c1, c2, c3⟩, ⟨ds, d1, d2, d3⟩⟩ st F' N'
  exact h a cd dd n1 n2 v1 v2 cs ds h' tk c1 d1 c2 c3 d2 d3 F' (newsAdd F (newsAdd F (newsAdd F N' q5 q6) q3 q4) q1 q2)
end

section
variable {M : Model} {A : Around} {E : Value → Shared → Prop} {s : Shared} {K : Frag} {h₀ : Heap} {L C : Addr} {m mg mb : Str → Option Value} {scope : Scope} {cl : List (Str × Addr)} {env : Env} {p : Program} {loose : List Str} {x : Str} {pos : Pos} {v : Value} {Q : Value → Shared → Prop}
/-- a name read inside a comprehension that is the text's own, or, where the text has none, the language's own -/
theorem name_top (F : Fr h₀ L s.heap m) (X : K.In h₀) (T : TopRead p loose mg mb h₀) (e : nsIn K mainGlobals x = some (some v) ∨ (nsIn K mainGlobals x = some none ∧ bootBuiltins x = some v ∧ x ≠ "__name__")) (h : Q v s)
    (places : env.globals = mainGlobals ∧ env.builtins = builtinsNs := by exact ⟨rfl, rfl⟩)
    (kinds : (compEnvC scope cl C env).scope.kind = .function ∧ (compEnvC scope cl C env).kindOf x = some .globalImplicit := by exact ⟨rfl, rfl⟩) (hd : (x == ("__debug__" : Str)) = false := by decide) :
    wpAny M A (eval (.Name x pos) (compEnvC scope cl C env)) Q E s := by
  have T' := T.keeps F.keep
  have g : s.heap.Ns (compEnvC scope cl C env).globals mg := by rw [show (compEnvC scope cl C env).globals = env.globals from rfl, places.1]; exact T'.g
  have b : s.heap.Ns (compEnvC scope cl C env).builtins mb := by rw [show (compEnvC scope cl C env).builtins = env.builtins from rfl, places.2]; exact T'.b
  refine Name_function_global kinds.1 kinds.2 ?_ hd
  rcases e with own | ⟨no, boot, ne⟩
  · exact loadGlobal_global g (mg_of X T.g own) h
  · exact loadGlobal_builtin g (mg_none_of X T.g no) b (by rw [T.builtins x ne, boot]) h
end
def SgEl (g : Nat → Nat) (c : Nat) (v : Value) : Prop := ∃ t : Tok, v = .str ⟨#[g c]⟩ t
def InEl (g : Nat → Nat) (c : Nat) (v : Value) : Prop := ∃ t : Tok, v = .int (g c : Nat) t
theorem Each.carried {g : Nat → Nat} : ∀ {T : List Nat} {ys : List Value}, Each (SgEl g) T ys → CarriedAll ys (T.map fun c => PyData.str ⟨#[g c]⟩)
  | _, _, .nil => .nil
  | _, _, .cons ⟨_, e⟩ r => by subst e; exact .cons (.str _ _) r.carried
theorem Each.ints {g : Nat → Nat} : ∀ {T : List Nat} {ys : List Value}, Each (InEl g) T ys → IntsAre ys (casts (T.map g))
  | _, _, .nil => .nil
  | _, _, .cons ⟨_, e⟩ r => by subst e; exact .cons _ _ r.ints
theorem ints_each : ∀ {T : List Nat} {ys : List Value}, IntsAre ys (casts T) → Each (InEl id) T ys
  | [], _, .nil => .nil
  | c :: r, _, .cons _ t h => .cons ⟨t, rfl⟩ (ints_each h)
theorem glue_ones (g : Nat → Nat) (T : List Nat) : Txt.join (Str.ofString "") (T.map fun c => (⟨#[g c]⟩ : Str)) = ⟨(T.map g).toArray⟩ := by
  have e := glued_nil (T.map fun c => (⟨#[g c]⟩ : Str))
  have : (Builtin.Str.glued ⟨#[]⟩ (T.map fun c => (⟨#[g c]⟩ : Str))).cps = (T.map g).toArray := by
    rw [← Array.toArray_toList (xs := (Builtin.Str.glued ⟨#[]⟩ (T.map fun c => (⟨#[g c]⟩ : Str))).cps), e, List.flatMap_map]
    congr 1
    induction T with
    | nil => rfl
    | cons c r ih => rw [List.flatMap_cons, List.map_cons]; exact congrArg (g c :: ·) (ih (glued_nil _))
  exact congrArg Str.mk this
section
variable {prog : Program} {w : World} {A : Around} {E : Value → Shared → Prop} {s : Shared} {Q : Value → Shared → Prop} {D : Addr} {ys : List Value} {T : List Nat} {g : Nat → Nat} {t : Tok}
theorem join_each (hl : s.heap.IsList D ys.toArray) (hy : Each (SgEl g) T ys) (hn : T.length ≤ 1000000) (h : ∀ t' k, Q (.str ⟨(T.map g).toArray⟩ t') { s with toks := k }) :
    wpAny (model prog w) A (call (.builtin "str.join") [.str (Str.ofString "") t, .ref D]) Q E s := by
  refine KT.join_1 (g := fun c => ⟨#[g c]⟩) hl hy.carried (fun _ _ => rfl) (by omega) fun t' k _ => ?_
  rw [glue_ones]; exact h t' k
theorem bytes_each (hl : s.heap.IsList D ys.toArray) (hy : Each (InEl g) T ys) (hr : ∀ c ∈ T, g c < 256) (hn : T.length ≤ 1000000) (hh : A.handled = none)
    (h : ∀ h' t' k, (∀ b o, s.heap.get? b = some o → h'.get? b = some o) → Q (.bytes (oct (T.map g)) t') { s with heap := h', toks := k }) : wpAny (model prog w) A (call (.type "bytes") [.ref D]) Q E s := by
  refine call_bytes_ints hl hy.ints (fun n hm => ?_) (by rw [hy.length, PySem.sizeLine_eq]; omega) hh fun h' t' k hk => ?_
  · obtain ⟨c, hc, rfl⟩ := List.mem_map.mp hm
    obtain ⟨d, hd, rfl⟩ := List.mem_map.mp hc
    have := hr d hd
    omega
  · rw [byteArr_casts]; exact h h' t' k hk
theorem bytes_eachN {h₀ : Heap} {L : Addr} {m : Str → Option Value} {news : List (Addr × Obj)} (F : Fr h₀ L s.heap m) (N : News h₀ L s.heap news) (hl : s.heap.IsList D ys.toArray) (hy : Each (InEl g) T ys) (hr : ∀ c ∈ T, g c < 256) (hn : T.length ≤ 1000000) (hh : A.handled = none)
    (h : ∀ h' t' k, Fr h₀ L h' m → News h₀ L h' news → Q (.bytes (oct (T.map g)) t') { s with heap := h', toks := k }) : wpAny (model prog w) A (call (.type "bytes") [.ref D]) Q E s :=
  bytes_each hl hy hr hn hh fun h' t' k hk => h h' t' k (F.keeps hk) (N.grown hk)
end

structure LwS where
  T : List Nat
  tT : Tok
  O : List Nat
  tO : Tok
theorem law_loop {prog : Program} {w : World} {A : Around} {s : Shared} {env : Env} {h₀ : Heap} {L : Addr} {body : List Stmt} {Q : Flow → Shared → Prop} {E : Value → Shared → Prop} {cd dd ce : Addr} {v1 v2 : List Value} {news : List (Addr × Obj)} {ds : List Nat} {n1 n2 : Nat} {oc : Obj} {m₀ : Str → Option Value} {tT tO : Tok} (fT fO : List Nat → List Nat)
    (hL : env.locals = L) (hh : A.handled = none) (hi : IntsAre v2 (casts ds)) (F : Fr h₀ L s.heap m₀) (N : News h₀ L s.heap news) (q1 : (dd, listOf v2.toArray n2) ∈ news) (q2 : (cd, listOf v1.toArray n1) ∈ news) (q3 : (ce, oc) ∈ news)
    (e1 : m₀ (Str.ofString "text") = some (.str ⟨(fT []).toArray⟩ tT)) (e2 : m₀ (Str.ofString "octets") = some (.bytes (oct (fO [])) tO))
    (turn : ∀ (pre post : List Nat) (d : Nat) t (a b : Tok) (u : Str → Option Value) h tk own, ds = pre ++ d :: post → OwnOff own [dd, cd, ce] →
      Fr h₀ L h (fun y => if y = Str.ofString "deed" then some (.int d t) else if y = Str.ofString "text" then some (.str ⟨(fT pre).toArray⟩ a) else if y = Str.ofString "octets" then some (.bytes (oct (fO pre)) b) else m₀ y) → News h₀ L h ((dd, listOf v2.toArray n2) :: (cd, listOf v1.toArray n1) :: (ce, oc) :: own) →
      ∀ Qx : Flow → Shared → Prop, (∀ h' tk' m' news' a' b' T' O', Fr h₀ L h' m' → News h₀ L h' news' → (dd, listOf v2.toArray n2) ∈ news' → (cd, listOf v1.toArray n1) ∈ news' → (ce, oc) ∈ news' → (∀ p ∈ own, p ∈ news') →
          m' (Str.ofString "text") = some (.str ⟨T'⟩ a') → m' (Str.ofString "octets") = some (.bytes O' b') → T' = (fT (pre ++ [d])).toArray → O' = oct (fO (pre ++ [d])) →
          (∀ z, z ≠ Str.ofString "deed" → z ≠ Str.ofString "text" → z ≠ Str.ofString "octets" → m' z = m₀ z) → Qx .next { s with heap := h', toks := tk' }) →
        wpAny (model prog w) A (execs body env) Qx E { s with heap := h, toks := tk })
    (done : ∀ (a b : Tok) (u : Str → Option Value) h tk, Fr h₀ L h (fun y => if y = Str.ofString "deed" then u y else if y = Str.ofString "text" then some (.str ⟨(fT ds).toArray⟩ a) else if y = Str.ofString "octets" then some (.bytes (oct (fO ds)) b) else m₀ y) →
      News h₀ L h [(dd, listOf v2.toArray n2), (cd, listOf v1.toArray n1), (ce, oc)] → Q .next { s with heap := h, toks := tk }) :
    wpAny (model prog w) A (pyIter (.ref dd)) (fun it s₂ => LoopAtV prog w A h₀ env (Str.ofString "deed") body Q E it s₂) E s := by
  subst hL
  refine kst_listL (σ := LwS) (fun _ => [(dd, listOf v2.toArray n2), (cd, listOf v1.toArray n1), (ce, oc)]) (fun c => [(Str.ofString "text", .str ⟨c.T.toArray⟩ c.tT), (Str.ofString "octets", .bytes (oct c.O) c.tO)]) (fun _ => True) []
    (fun pre c => ∃ pn : List Nat, pre = casts pn ∧ c.T = fT pn ∧ c.O = fO pn) ⟨fT [], tT, fO [], tO⟩ hh (fun _ => .head _) hi F (fun p hp => N p ?_) trivial ?_ ⟨[], rfl, rfl, rfl⟩ ?_ ?_
  · rcases List.mem_cons.mp hp with rfl | hp
    · exact q1
    rcases List.mem_cons.mp hp with rfl | hp
    · exact q2
    rcases List.mem_cons.mp hp with rfl | hp
    · exact q3
    · exact nomatch hp
  · intro p hp
    rcases List.mem_cons.mp hp with rfl | hp
    · exact e1
    rcases List.mem_cons.mp hp with rfl | hp
    · exact e2
    · exact nomatch hp
  · rintro ⟨T, a, O, b⟩ pre post n t u h₁ tk own e _ hoff _ ⟨pn, rfl, eT, eO⟩ F2 N2
    dsimp only at eT eO
    subst eT eO
    obtain ⟨a1, b1, g1, g2, g3⟩ := List.map_eq_append_iff.mp e
    obtain ⟨n', b', g4, g5, g6⟩ := List.map_eq_cons_iff.mp g3
    have ea : a1 = pn := casts_inj g2
    subst ea g4 g5
    refine turn _ b' n' t a b u h₁ tk own g1 hoff F2 N2 _ ?_
    intro h' tk' m' news' a' b2 T' O' F' N' r1 r2 r3 r4 r5 r6 r7 r8 r9
    subst r7 r8
    refine kst_end ⟨fT (a1 ++ [n']), a', fO (a1 ++ [n']), b2⟩ F' N' (List.forall_mem_cons.mpr ⟨r1, List.forall_mem_cons.mpr ⟨r2, List.forall_mem_cons.mpr ⟨r3, List.forall_mem_nil _⟩⟩⟩) r4 rfl trivial ?_ (fun z z1 z2 _ => r9 z z1 (z2 _ (.head _)) (z2 _ (.tail _ (.head _)))) ⟨a1 ++ [n'], by simp [casts], rfl, rfl⟩
    exact List.forall_mem_cons.mpr ⟨r5, List.forall_mem_cons.mpr ⟨r6, List.forall_mem_nil _⟩⟩
  · rintro ⟨T, a, O, b⟩ u h₁ tk _ ⟨pn, e, eT, eO⟩ F2 N2
    have : ds = pn := casts_inj e
    subst this
    dsimp only at eT eO
    subst eT eO
    exact done a b u h₁ tk F2 N2
theorem lc_stop {M : Model} {A : Around} {env : Env} {elt : Expr} {gs : List Comprehension} {sc : Scope} {pos : Pos} {Q : Value → Shared → Prop} {E : Value → Shared → Prop} {s : Shared}
    (h : Stop (wpAny M A (eval (.ListComp elt gs sc pos) env) Q E s)) : wpAny M A (eval (.ListComp elt gs sc pos) env) Q E s := h
end Mine
end

section
open PySem PySem.W PySem.Spec PySem.Calls PyProof.Rows
namespace Mine
/-! list(octets) and list(text) -/
section
variable {prog : Program} {w : World} {A : Around} {E : Value → Shared → Prop} {s : Shared}
/-- what stands at place i of the list that is made of octets -/
def OctAt (x : Array UInt8) (i : Nat) (v : Value) : Prop := ∃ c u, x[i]? = some c ∧ v = .int (c.toNat : Int) u
/-- list(octets): a new list, its elements told place by place -/
theorem octets_list {Q : Value → Shared → Prop} (hh : A.handled = none) (x : Array UInt8) (t : Tok) (hn : x.size ≤ sizeLine)
    (made : ∀ g k acc c, s.heap.StaysIn g → g.get? s.heap.objs.size = some (listOf acc c) → ItemsOf (OctAt x) acc x.size → Q (.ref s.heap.objs.size) { s with heap := g, toks := k }) :
    wpAny (model prog w) A (call (.type "list") [.bytes x t]) Q E s := by
  refine callType_codes (Q₁ := fun v q => v = .ref s.heap.objs.size ∧ q = { s with heap := s.heap.push (listOf #[] 0) }) F.called_list (F.typeCall_list_1 _) F.entry_list_init (code_list_new _ ⟨rfl, rfl⟩) ?_
  rintro _ _ ⟨rfl, rfl⟩
  have at0 : (s.heap.push (listOf #[] 0)).get? s.heap.objs.size = some (listOf #[] 0) := Heap.get?_push_size _ rfl
  obtain ⟨n1, at1⟩ : ∃ n1, ((s.heap.push (listOf #[] 0)).update s.heap.objs.size (Obj.mapSeq fun _ => (#[] : Array Value))).get? s.heap.objs.size = some (listOf #[] n1) :=
    ⟨_, Heap.get?_update_self (Obj.mapSeq fun _ => (#[] : Array Value)) at0 rfl⟩
  refine ⟨⟨_, at0, rfl⟩, F.args_list_init_2 _ _, ?_⟩
  -- the list is emptied first
  show wpAny _ _ (Builtin.List.listItems _ >>= fun old => Builtin.List.listUpdate _ (fun _ => #[]) >>= fun _ => letGo old.toList.reverse >>= fun _ => Builtin.List.listExtendWith _ _ .none) _ _ _
  refine wpAny_bind (wpAny_bind (wpAny_seqItems at0 rfl (wpAny_pure ?_)))
  refine wpAny_bind (wpAny_updateSeq at0 rfl (wpAny_bind (wpAny_letGo ?_)))
  -- then extended: octets are neither a list nor a tuple, so they are walked
  unfold Builtin.List.listExtendWith
  refine wpAny_bind (wpAny_typeOf (typeIs_bytes _ x t) ?_)
  rw [if_neg (by rw [show Builtin.List.listSameRef (.ref s.heap.objs.size) (.bytes x t) = false from rfl]; decide)]
  refine wpAny_bind (KBw.pyIter_bytes (wpAny_bind (wpAny_holding ?_)))
  have hint : ∀ (q : Shared) (A' : Around) (E' : Value → Shared → Prop) (Q' : Bool → Shared → Prop), Q' false q → wpAny (model prog w) A' (Builtin.List.listLengthHint (.bytes x t)) Q' E' q := by
    intro q A' E' Q' no
    unfold Builtin.List.listLengthHint
    refine wpAny_bind (wpAny_specialOf (typeIs_bytes _ x t) FB.slot_bytes_len.lookup ?_)
    wp_delta
    refine wpAny_bind (wpAny_of_eq KBy.isInstance_eq ?_)
    exact wpAny_bind (wpAny_typeOf (typeIs_bytes _ x t) (wpAny_pure no))
  refine hint _ _ _ _ ?_
  rw [if_neg (by decide)]
  refine wpAny_pure ⟨plainId_quiet F.plain_extend_loop _, ?_⟩
  refine codeAny_extend_loopS ((KBw.walks (A := A.in1.in1) hh _ x t).toS) hn _ ?_ _ _ 0 _ #[] n1 rfl (Nat.zero_le _) ?_ ?_ (ItemsOf.nil _) ?_
  · intro hm; exact absurd (List.mem_singleton.mp hm) (Nat.ne_of_lt (Heap.lt_size at1))
  · exact ⟨_, Heap.get?_push_size _ rfl, rfl, rfl⟩
  · exact Heap.get?_push_of_some _ at1
  · intro q acc c mv atN its
    rw [Moved.eq_with mv]
    refine ⟨rfl, made _ _ acc c (fun a o ha => ?_) atN its⟩
    have la := Heap.lt_size ha
    have l1 := Heap.lt_size at1
    refine mv.heap a o (fun hm => ?_) (Heap.get?_push_of_some _ ((Heap.get?_update_other _ _ (Nat.ne_of_gt la)).trans (Heap.get?_push_of_some _ ha)))
    rcases List.mem_cons.mp hm with q | hm
    · exact absurd q (Nat.ne_of_lt la)
    · exact absurd (List.mem_singleton.mp hm) (Nat.ne_of_lt (Nat.lt_trans la l1))
end
/-- a sign or an octet of the last look -/
def Thing (c : Nat) (v : Value) : Prop := (∃ t, v = .str ⟨#[c]⟩ t) ∨ ∃ t, v = .int (c : Nat) t
theorem each_of_get {α : Type} {G : α → Value → Prop} : ∀ {T : List α} {vs : List Value}, vs.length = T.length → (∀ (i : Nat) v, vs[i]? = some v → ∃ c, T[i]? = some c ∧ G c v) → Each G T vs
  | [], [], _, _ => .nil
  | c :: r, v :: q, e, h => by
    obtain ⟨c', e1, g⟩ := h 0 v rfl
    cases e1
    exact .cons g (each_of_get (by simpa using e) fun i u hu => by simpa using h (i + 1) u (by simpa using hu))
theorem Each.append {α : Type} {G : α → Value → Prop} : ∀ {T T' : List α} {vs vs' : List Value}, Each G T vs → Each G T' vs' → Each G (T ++ T') (vs ++ vs')
  | _, _, _, _, .nil, h => h
  | _, _, _, _, .cons g r, h => .cons g (r.append h)
theorem Each.mono {α : Type} {G G' : α → Value → Prop} (h : ∀ c v, G c v → G' c v) : ∀ {T : List α} {vs : List Value}, Each G T vs → Each G' T vs
  | _, _, .nil => .nil
  | _, _, .cons g r => .cons (h _ _ g) (r.mono h)
section
variable {prog : Program} {w : World} {A : Around} {E : Value → Shared → Prop} {s : Shared} {h₀ : Heap} {L : Addr} {m : Str → Option Value} {news : List (Addr × Obj)} {Q : Value → Shared → Prop}
theorem list_text {T : List Nat} {t : Tok} (hh : A.handled = none) (F : Fr h₀ L s.heap m) (N : News h₀ L s.heap news) (hn : T.length ≤ 1000000)
    (h : ∀ D vs c h' tk, Each Thing T vs → Fr h₀ L h' m → News h₀ L h' ((D, listOf vs.toArray c) :: news) → Q (.ref D) { s with heap := h', toks := tk }) :
    wpAny (model prog w) A (call (.type "list") [.str ⟨T.toArray⟩ t]) Q E s := by
  refine call_list_str hh ⟨T.toArray⟩ t (hn := by rw [PySem.sizeLine_eq]; simp; omega) fun h' tk acc c hk hD hI => ?_
  refine h s.heap.objs.size acc.toList c h' tk (each_of_get (by simpa using hI.1) fun i v hv => ?_) (F.keeps hk) (newsAdd F (N.grown hk) (by rw [Array.toArray_toList]; exact hD) (Heap.get?_none_of_le (Nat.le_refl _)))
  obtain ⟨c, u, hc, rfl⟩ := hI.2 i v (by simpa using hv)
  exact ⟨c, by simpa using hc, .inl ⟨u, rfl⟩⟩
theorem list_oct {T : List Nat} {t : Tok} (hh : A.handled = none) (F : Fr h₀ L s.heap m) (N : News h₀ L s.heap news) (hn : T.length ≤ 1000000) (hT : ∀ c ∈ T, c < 256)
    (h : ∀ D vs c h' tk, Each Thing T vs → Fr h₀ L h' m → News h₀ L h' ((D, listOf vs.toArray c) :: news) → Q (.ref D) { s with heap := h', toks := tk }) :
    wpAny (model prog w) A (call (.type "list") [.bytes (oct T) t]) Q E s := by
  refine octets_list hh (oct T) t (by rw [PySem.sizeLine_eq, oct_size]; omega) fun h' tk acc c hk hD hI => ?_
  refine h s.heap.objs.size acc.toList c h' tk (each_of_get (by rw [← oct_size]; simpa using hI.1) fun i v hv => ?_) (F.keeps hk) (newsAdd F (N.grown hk) (by rw [Array.toArray_toList]; exact hD) (Heap.get?_none_of_le (Nat.le_refl _)))
  obtain ⟨c, u, hc, rfl⟩ := hI.2 i v (by simpa using hv)
  exact ⟨_, oct_get hT hc, .inr ⟨u, rfl⟩⟩
end
end Mine
end

section
open PySem PySem.W PySem.Spec PySem.Calls PyProof.Rows
namespace Mine
open LCg
abbrev tupO (p q : Bool) : Obj := { cls := .type "tuple", data := .seq #[.bool p, .bool q] }
def TupEl {α : Type} (f g : α → Bool) (acc : List (Addr × Obj)) (c : α) (v : Value) : Prop := ∃ a : Addr, v = .ref a ∧ (a, tupO (f c) (g c)) ∈ acc
section
variable {prog : Program} {w : World} {A : Around} {E : Value → Shared → Prop} {s : Shared} {h₀ : Heap} {L : Addr} {m : Str → Option Value} {env : Env} {elt iter : Expr} {x : Str} {px pos : Pos} {scope : Scope} {cl : List (Str × Addr)} {news : List (Addr × Obj)} {Q : Value → Shared → Prop}
theorem news_swap {h : Heap} {a b c : List (Addr × Obj)} (N : News h₀ L h (a ++ (b ++ c))) : News h₀ L h (a ++ (c ++ b)) := fun p hp => N p (by
  simp only [List.mem_append] at hp ⊢
  rcases hp with hp | hp | hp
  · exact .inl hp
  · exact .inr (.inr hp)
  · exact .inr (.inl hp))
theorem lc_restT {α : Type} {S : List (Addr × Obj) → Prop} {P : Nat → Value → Prop} {Fin : List Value → List (Addr × Obj) → Prop} {T : List α} {V : α → Value → Prop} {f g : α → Bool}
    (hP : ∀ i v, i < T.length → P i v → ∃ c, T[i]? = some c ∧ V c v) (hS : ∀ acc, S (acc ++ news))
    (turn : ∀ c v I oI C oC D m₂ ys acc h tk (E' : Value → Shared → Prop), c ∈ T → V c v → NsObj oC m₂ → m₂ x = some v → Fr h₀ L h m → News h₀ L h ((I, oI) :: (C, oC) :: (D, lst ys) :: (news ++ acc)) → Ne3 I C D →
      ∀ Qx : Value → Shared → Prop, (∀ a h' tk', Fr h₀ L h' m → News h₀ L h' ((a, tupO (f c) (g c)) :: (I, oI) :: (C, oC) :: (D, lst ys) :: (news ++ acc)) → ((@Ne Nat a I) ∧ (@Ne Nat a C) ∧ (@Ne Nat a D)) → Qx (.ref a) { s with heap := h', toks := tk' }) →
        wpAny (model prog w) A (eval elt (compEnvC scope cl C env)) Qx E' { s with heap := h, toks := tk })
    (fin : ∀ ys acc, Each (TupEl f g acc) T ys → Fin ys (acc ++ news)) : CompRest prog w A h₀ L m env elt x scope cl s S P Fin T.length 0 [] news := by
  have key : ∀ (j i : Nat) (ys : List Value) (acc : List (Addr × Obj)), i + j = T.length → Each (TupEl f g acc) (T.take i) ys → CompRest prog w A h₀ L m env elt x scope cl s S P Fin j i ys (acc ++ news) := by
    intro j
    induction j with
    | zero =>
      intro i ys acc hi hy
      have e : i = T.length := by omega
      subst e
      rw [List.take_length] at hy
      exact CompRest.zero (fin ys acc hy)
    | succ j ih =>
      intro i ys acc hi hy
      refine CompRest.succ ?_
      intro v I oI C oC D m₂ h tk E' hv hC hx F N off ne
      obtain ⟨c, hc, hV⟩ := hP i v (by omega) hv
      refine turn c v I oI C oC D m₂ ys acc h tk E' (List.mem_of_getElem? hc) hV hC hx F (news_swap (a := [(I, oI), (C, oC), (D, lst ys)]) N) ne _ ?_
      intro a h' tk' F' N' hne
      refine ⟨h', tk', (a, tupO (f c) (g c)) :: (acc ++ news), rfl, F', fun p hp => N' p ?_, ⟨hne, off⟩, hS ((a, _) :: acc), ?_⟩
      · simp only [List.mem_cons, List.mem_append] at hp ⊢
        rcases hp with hp | hp | hp | hp | hp | hp
        · exact .inr (.inl hp)
        · exact .inr (.inr (.inl hp))
        · exact .inr (.inr (.inr (.inl hp)))
        · exact .inl hp
        · exact .inr (.inr (.inr (.inr (.inr hp))))
        · exact .inr (.inr (.inr (.inr (.inl hp))))
      · refine ih (i + 1) _ ((a, tupO (f c) (g c)) :: acc) (by omega) ?_
        rw [List.take_add_one, hc]
        refine Each.snoc (hy.mono fun c v hv => ?_) ⟨a, rfl, .head _⟩
        obtain ⟨b, e, hm⟩ := hv
        exact ⟨b, e, .tail _ hm⟩
  exact key T.length 0 [] [] (by omega) .nil

theorem each_at {α : Type} {V : α → Value → Prop} {T : List α} {vs : List Value} {v : Value} (i : Nat) (hE : Each V T vs) (h : vs[i]? = some v) : ∃ c, T[i]? = some c ∧ V c v := by
  induction hE generalizing i with
  | nil => simp at h
  | cons hc _ ih =>
    cases i with
    | zero => simp at h; subst h; exact ⟨_, rfl, hc⟩
    | succ i => simpa using ih i (by simpa using h)

/-- the source of a comprehension is a list of the ledger: its elements -/
theorem src_list {α : Type} {T : List α} {V G : α → Value → Prop} {vs : List Value} {l : Addr} {k : Nat} {Fin : Shared → List Value → List (Addr × Obj) → Prop} (F : Fr h₀ L s.heap m) (N : News h₀ L s.heap news) (hh : A.handled = none) (hm : (l, listOf vs.toArray k) ∈ news) (hsz : T.length ≤ sizeLine) (hT : Each V T vs)
    (turn : ∀ c v I oI C oC D m₂ ys h tk (E' : Value → Shared → Prop), c ∈ T → V c v → NsObj oC m₂ → m₂ x = some v → Fr h₀ L h m → News h₀ L h ((I, oI) :: (C, oC) :: (D, lst ys) :: news) → Off3 I C D news → Ne3 I C D →
      ∀ Qx : Value → Shared → Prop, (∀ y h' tk', G c y → Fr h₀ L h' m → News h₀ L h' ((I, oI) :: (C, oC) :: (D, lst ys) :: news) → Qx y { s with heap := h', toks := tk' }) →
        wpAny (model prog w) A (eval elt (compEnvC scope cl C env)) Qx E' { s with heap := h, toks := tk })
    (fin : ∀ ys g, Each G T ys → Fin { s with heap := g } ys news) : CompSrc prog w A h₀ L m env elt x scope cl Fin (.ref l) s := by
  refine CompSrc.ledger hh F N hm (by rw [List.size_toArray, hT.length]; exact hsz) fun g => ?_
  have e1 : vs.toArray.size = T.length := by rw [List.size_toArray, hT.length]
  rw [e1]
  refine lc_rest (V := V) (G := G) (fun i v hi hv => each_at i hT (by simpa using hv)) (.inr ⟨_, hm, rfl, _, rfl⟩) ?_ fun ys hy => fin ys g hy
  intro c v I oI C oC D m₂ ys h tk E' hc hv hC hx' F' N' off ne Qx hQ
  exact turn c v I oI C oC D m₂ ys h tk E' hc hv hC hx' F' N' off ne Qx hQ
theorem src_tups {α : Type} {T : List α} {V : α → Value → Prop} (f g : α → Bool) {vs : List Value} {l : Addr} {k : Nat} {Fin : Shared → List Value → List (Addr × Obj) → Prop} (F : Fr h₀ L s.heap m) (N : News h₀ L s.heap news) (hh : A.handled = none) (hm : (l, listOf vs.toArray k) ∈ news) (hsz : T.length ≤ sizeLine) (hT : Each V T vs)
    (turn : ∀ c v I oI C oC D m₂ ys acc h tk (E' : Value → Shared → Prop), c ∈ T → V c v → NsObj oC m₂ → m₂ x = some v → Fr h₀ L h m → News h₀ L h ((I, oI) :: (C, oC) :: (D, lst ys) :: (news ++ acc)) → Ne3 I C D →
      ∀ Qx : Value → Shared → Prop, (∀ a h' tk', Fr h₀ L h' m → News h₀ L h' ((a, tupO (f c) (g c)) :: (I, oI) :: (C, oC) :: (D, lst ys) :: (news ++ acc)) → ((@Ne Nat a I) ∧ (@Ne Nat a C) ∧ (@Ne Nat a D)) → Qx (.ref a) { s with heap := h', toks := tk' }) →
        wpAny (model prog w) A (eval elt (compEnvC scope cl C env)) Qx E' { s with heap := h, toks := tk })
    (fin : ∀ ys acc g', Each (TupEl f g acc) T ys → Fin { s with heap := g' } ys (acc ++ news)) : CompSrc prog w A h₀ L m env elt x scope cl Fin (.ref l) s := by
  refine CompSrc.ledger hh F N hm (by rw [List.size_toArray, hT.length]; exact hsz) fun g' => ?_
  have e1 : vs.toArray.size = T.length := by rw [List.size_toArray, hT.length]
  rw [e1]
  refine lc_restT (V := V) (f := f) (g := g) (fun i v hi hv => each_at i hT (by simpa using hv)) (fun acc => .inr ⟨_, List.mem_append_right _ hm, rfl, _, rfl⟩) ?_ fun ys acc hy => fin ys acc g' hy
  intro c v I oI C oC D m₂ ys acc h tk E' hc hv hC hx' F' N' ne Qx hQ
  exact turn c v I oI C oC D m₂ ys acc h tk E' hc hv hC hx' F' N' ne Qx hQ
theorem cs_stop {Fin : Shared → List Value → List (Addr × Obj) → Prop} {v : Value} (h : Stop (CompSrc prog w A h₀ L m env elt x scope cl Fin v s)) : CompSrc prog w A h₀ L m env elt x scope cl Fin v s := h
end
/-! two lists of pairs of judgements are alike -/
abbrev prD (c : Bool × Bool) : PyData := .tuple [.bool c.1, .bool c.2]
theorem reads_pair {h : Heap} (a b : Bool) : ReadsAll h [Value.bool a, Value.bool b] [PyData.bool a, PyData.bool b] [] := .cons (as := []) (bs := []) (.bool _) (.cons (as := []) (bs := []) (.bool _) .nil)
theorem reads_tups {α : Type} {f g : α → Bool} {h₀ h : Heap} {L : Addr} {acc : List (Addr × Obj)} (N : News h₀ L h acc) : ∀ {T : List α} {ys : List Value}, Each (TupEl f g acc) T ys → ReadsAll h ys ((T.map fun c => (f c, g c)).map prD) []
  | _, _, .nil => .nil
  | _, _, .cons ⟨a, e, hm⟩ r => by
    subst e
    exact .cons (as := []) (bs := []) (.tuple (N _ hm).1 rfl rfl (reads_pair _ _)) (reads_tups N r)
theorem prD_lay : ∀ (l : List (Bool × Bool)), PyData.canLayAll0 (l.map prD) = true
  | [] => rfl
  | c :: r => by
    show (PyData.canLay0 (prD c) && PyData.canLayAll0 (r.map prD)) = true
    rw [prD_lay r]; rfl
theorem prD_depth : ∀ (l : List (Bool × Bool)), PyData.depthAll (l.map prD) ≤ 1
  | [] => Nat.zero_le _
  | c :: r => by
    show max (PyData.depth (prD c)) (PyData.depthAll (r.map prD)) ≤ 1
    have := prD_depth r
    have e : PyData.depth (prD c) = 1 := rfl
    omega
theorem prD_shaped (l : List (Bool × Bool)) : SeqAt.shaped (.list (l.map prD)) = true := by
  have h1 := prD_lay l
  have h2 := prD_depth l
  have e1 : PyData.canLay0 (.list (l.map prD)) = true := h1
  have e2 : PyData.depth (.list (l.map prD)) ≤ 64 := by show PyData.depthAll (l.map prD) + 1 ≤ 64; omega
  rw [SeqAt.shaped, e1, decide_eq_true e2]; rfl
theorem tups_eq {α β : Type} {prog : Program} {w : World} {A : Around} {E : Value → Shared → Prop} {s : Shared} {h₀ : Heap} {L : Addr} {news acc acc' : List (Addr × Obj)} {Q : Value → Shared → Prop} {f g : α → Bool} {f' g' : β → Bool} {T : List α} {T' : List β} {ys ys' : List Value} {D D' : Addr} {k k' : Nat}
    (N : News h₀ L s.heap news) (hm : (D, listOf ys.toArray k) ∈ news) (hm' : (D', listOf ys'.toArray k') ∈ news) (ha : ∀ p ∈ acc, p ∈ news) (ha' : ∀ p ∈ acc', p ∈ news) (h1 : Each (TupEl f g acc) T ys) (h2 : Each (TupEl f' g' acc') T' ys')
    (he : (T.map fun c => (f c, g c)) = T'.map fun c => (f' c, g' c)) (hu : A.units + 64 < cLine) (h : Q (.bool true) s) : wpAny (model prog w) A (compareOp .Eq (.ref D) (.ref D')) Q E s := by
  have r1 : Reads s.heap (.ref D) (.list ((T.map fun c => (f c, g c)).map prD)) [D] := .list (N _ hm).1 rfl rfl (reads_tups (fun p hp => N p (ha p hp)) h1)
  have r2 : Reads s.heap (.ref D') (.list ((T'.map fun c => (f' c, g' c)).map prD)) [D'] := .list (N _ hm').1 rfl rfl (reads_tups (fun p hp => N p (ha' p hp)) h2)
  refine SeqAt.compareEq_shaped r1 r2 (prD_shaped _) (prD_shaped _) hu ?_
  rw [he, SeqAt.eqv_refl (.list _) (show PyData.canLay0 (.list ((T'.map fun c => (f' c, g' c)).map prD)) = true from prD_lay _)]
  exact h
theorem add_each {α : Type} {V : α → Value → Prop} {prog : Program} {w : World} {A : Around} {E : Value → Shared → Prop} {s : Shared} {h₀ : Heap} {L a b : Addr} {m : Str → Option Value} {news : List (Addr × Obj)} {vs ws : List Value} {k k' : Nat} {T1 T2 : List α} {Q : Value → Shared → Prop} (F : Fr h₀ L s.heap m) (N : News h₀ L s.heap news)
    (hm : (a, listOf vs.toArray k) ∈ news) (hm' : (b, listOf ws.toArray k') ∈ news) (h1 : Each V T1 vs) (h2 : Each V T2 ws) (hz : T1.length + T2.length ≤ 1000000)
    (h : ∀ D us h', Each V (T1 ++ T2) us → Fr h₀ L h' m → News h₀ L h' ((D, listOf us.toArray 0) :: news) → Q (.ref D) { s with heap := h' }) : wpAny (model prog w) A (binaryOp .Add (.ref a) (.ref b)) Q E s :=
  add_lists F N (News.isList N hm) (News.isList N hm') (fun h' F' N' => h _ _ h' (h1.append h2) F' N') (by rw [h1.length, h2.length, PySem.sizeLine_eq]; omega)
theorem ctI (c : Nat) : decide ((0 ≤ (c : Int) ∧ (c : Int) ≤ 31) ∨ (c : Int) = 127) = decide (c < 32 ∨ c = 127) := by rw [decide_eq_decide]; omega
theorem mkI (c : Nat) : decide ((33 ≤ (c : Int) ∧ (c : Int) ≤ 126) ∧ ¬ ((65 ≤ (c : Int) ∧ (c : Int) ≤ 90) ∨ (97 ≤ (c : Int) ∧ (c : Int) ≤ 122) ∨ (48 ≤ (c : Int) ∧ (c : Int) ≤ 57))) = isMark c := by rw [isMark, decide_eq_decide]; omega
theorem str_bne (T : List Nat) : ((⟨T.toArray⟩ : Str) != ⟨(T.map id).toArray⟩) = false := by rw [List.map_id]; simp
theorem oct_bne (T : List Nat) : ((oct T).toList != (oct (T.map id)).toList) = false := by rw [List.map_id]; simp
end Mine
end

section
open PySem PySem.W PySem.Spec PySem.Calls PyProof.Rows
namespace Mine
/-! the plain law -/
structure Hidy (hide : Nat → Nat) (ct mr : Bool) : Prop where
  h46 : hide 46 = if mr = true then 46 else 174
  n46 : ∀ c, c ≠ 46 → hide c ≠ 46
  h10 : ct = true → hide 10 = 10
  h13 : ct = true → hide 13 = 13
  n10 : ∀ c, ct = false ∨ c ≠ 10 → hide c ≠ 10
  n13 : ∀ c, ct = false ∨ c ≠ 13 → hide c ≠ 13
def fixS : Bool → List Nat → List Nat
  | _, [] => []
  | p, c :: r => if c = 13 then 13 :: 10 :: fixS true r else if c = 10 then (if p = true then fixS false r else 13 :: 10 :: fixS false r) else c :: fixS false r
theorem fix_S : ∀ l : List Nat, fixGo l = fixS false l
  | [] => rfl
  | [c] => by
    unfold fixGo isEnd
    by_cases h1 : c = 13
    · subst h1; rfl
    · by_cases h2 : c = 10
      · subst h2; rfl
      · simp [fixS, h1, h2]
  | c :: d :: r => by
    have i1 := fix_S r
    have i2 := fix_S (d :: r)
    unfold fixGo
    by_cases h1 : c = 13
    · subst h1
      by_cases h2 : d = 10
      · subst h2
        rw [if_pos ⟨rfl, rfl⟩, i1]; simp [fixS]
      · rw [if_neg (fun q => h2 q.2), if_pos (by decide), i2]
        by_cases h3 : d = 13
        · subst h3; simp [fixS]
        · simp [fixS, h2, h3]
    · rw [if_neg (fun q => h1 q.1)]
      by_cases h2 : c = 10
      · subst h2; rw [if_pos (by decide), i2]; simp [fixS]
      · rw [if_neg (by simp [isEnd, h1, h2]), i2]; simp [fixS, h1, h2]
termination_by l => l.length
theorem dots_no {f : Bool} {c : Nat} {r : List Nat} (h : c ≠ 46) : dotsGo f (c :: r) = c :: dotsGo (c == 10) r := by rw [dotsGo, if_neg (fun q => h q.2)]
theorem dots_off {c : Nat} {r : List Nat} : dotsGo false (c :: r) = c :: dotsGo (c == 10) r := by rw [dotsGo, if_neg (fun q => by cases q.1)]
theorem dots_on {r : List Nat} : dotsGo true (46 :: r) = 46 :: 46 :: dotsGo false r := by rw [dotsGo, if_pos ⟨rfl, rfl⟩]
theorem dots_rep {x : Nat} (hx : x ≠ 10) : ∀ (n : Nat) (r : List Nat), dotsGo false (List.replicate n x ++ r) = List.replicate n x ++ dotsGo false r
  | 0, r => rfl
  | n + 1, r => by
    rw [List.replicate_succ, List.cons_append, dots_off, List.cons_append]
    have : (x == 10) = false := by simp [hx]
    rw [this, dots_rep hx n r]
theorem dots_rep' {x : Nat} (hx : x ≠ 10) (h46 : x ≠ 46) (f : Bool) : ∀ (n : Nat) (r : List Nat), dotsGo f (List.replicate (n + 1) x ++ r) = List.replicate (n + 1) x ++ dotsGo false r := by
  intro n r
  rw [List.replicate_succ, List.cons_append, dots_no h46]
  have : (x == 10) = false := by simp [hx]
  rw [this, dots_rep hx n r]; rfl
theorem rep_snoc (n x : Nat) (r : List Nat) : List.replicate n x ++ x :: r = List.replicate (n + 1) x ++ r := by
  rw [List.replicate_succ']; simp
def flg (two ct : Bool) : Option Nat → Bool
  | none => true
  | some c => ct && isE two c
theorem fix_pass {p : Bool} {c : Nat} {r : List Nat} (h1 : c ≠ 10) (h2 : c ≠ 13) : fixS p (c :: r) = c :: fixS false r := by rw [fixS, if_neg h2, if_neg h1]
theorem fix_rep {x : Nat} (h1 : x ≠ 10) (h2 : x ≠ 13) (p : Bool) : ∀ (n : Nat) (r : List Nat), fixS p (List.replicate (n + 1) x ++ r) = List.replicate (n + 1) x ++ fixS false r
  | 0, r => fix_pass h1 h2
  | n + 1, r => by
    rw [List.replicate_succ, List.cons_append, fix_pass h1 h2, fix_rep h1 h2 false n r]; rfl

def nD (two : Bool) (m b : Nat) (bf : Option Nat) : Nat := if bf = none then m else if bf.any (isE two) = true then b else 0
theorem isE46 (two : Bool) : isE two 46 = false := by cases two <;> rfl
theorem piece46 (two : Bool) (e m b : Nat) (bf : Option Nat) : piece two e m b bf 46 = List.replicate (nD two m b bf) 46 ++ [46] := by
  unfold piece nD
  rw [isE46]
  simp only [true_and, Bool.false_eq_true, false_and, if_false]
  congr 1
  split
  · rfl
  · split <;> rfl
theorem piece_no {two : Bool} {e m b : Nat} {bf : Option Nat} {c : Nat} (h : c ≠ 46) : piece two e m b bf c = if isE two c = true ∧ two = true ∧ 0 < e then (if c = 13 ∨ bf ≠ some 13 then [13, 10] else []) else [c] := by
  unfold piece
  rw [if_neg (fun q => h q.1), if_neg (fun q => h q.1)]
  rfl
theorem beq10 {hide : Nat → Nat} {ct mr : Bool} (H : Hidy hide ct mr) : (hide 10 == 10) = ct := by
  cases ct with
  | true => rw [H.h10 rfl]; rfl
  | false => simpa using H.n10 10 (.inl rfl)
theorem nD_up (two ct : Bool) (m b : Nat) (bf : Option Nat) : nD two (m + 1) (b + ct.toNat) bf = nD two m b bf + (flg two ct bf).toNat := by
  cases bf with
  | none => rfl
  | some x =>
    unfold nD flg
    simp only [reduceCtorEq, if_false, Option.any_some]
    by_cases h : isE two x = true
    · rw [if_pos h, if_pos h, h, Bool.and_true]
    · rw [if_neg h, if_neg h, Bool.eq_false_iff.mpr h, Bool.and_false]; rfl
theorem dots_srv {hide : Nat → Nat} {ct mr : Bool} (H : Hidy hide ct mr) {two : Bool} {e m b : Nat} (he : two = true → ct = true → 0 < e) : ∀ (bf : Option Nat) (l : List Nat),
    dotsGo (flg two ct bf) ((srv two e m b bf l).map hide) = (srv two e (m + mr.toNat) (b + (ct && mr).toNat) bf l).map hide
  | _, [] => by simp [srv, dotsGo]
  | bf, c :: r => by
    have ih := dots_srv H he (m := m) (b := b) (some c) r
    rw [srv, srv, List.map_append, List.map_append]
    by_cases h46 : c = 46
    · subst h46
      have hf : flg two ct (some 46) = false := by rw [flg, isE46, Bool.and_false]
      rw [hf] at ih
      rw [piece46, piece46, List.map_append, List.map_append, List.map_replicate, List.map_replicate, List.map_singleton, List.append_assoc, List.append_assoc, List.singleton_append, List.singleton_append, rep_snoc, rep_snoc]
      have h := H.h46
      cases mr with
      | false =>
        rw [if_neg (by decide)] at h
        rw [h, dots_rep' (by decide) (by decide), ih]
        simp
      | true =>
        rw [if_pos rfl] at h
        have hn : nD two (m + true.toNat) (b + (ct && true).toNat) bf = nD two m b bf + (flg two ct bf).toNat := by rw [Bool.and_true]; exact nD_up two ct m b bf
        rw [h, hn]
        cases flg two ct bf with
        | false => rw [dots_rep (by decide), ih]; rfl
        | true =>
          rw [List.replicate_succ, List.cons_append, dots_on, dots_rep (by decide), ih]
          show _ = List.replicate (nD two m b bf + 1 + 1) 46 ++ _
          rw [List.replicate_succ, List.replicate_succ]; rfl
    · rw [piece_no h46, piece_no h46]
      by_cases hE : isE two c = true ∧ two = true ∧ 0 < e
      · rw [if_pos hE]
        obtain ⟨h1, h2, h3⟩ := hE
        subst h2
        by_cases h5 : c = 13 ∨ bf ≠ some 13
        · rw [if_pos h5]
          simp only [List.map_cons, List.map_nil, List.cons_append, List.nil_append]
          rw [dots_no (H.n46 13 (by decide)), dots_no (H.n46 10 (by decide)), beq10 H]
          have : flg true ct (some c) = ct := by rw [flg, h1, Bool.and_true]
          rw [this] at ih
          rw [ih]
        · rw [if_neg h5]
          have h6 : bf = some 13 := by
            by_cases q : bf = some 13
            · exact q
            · exact absurd (.inr q) h5
          have h7 : flg true ct bf = flg true ct (some c) := by rw [h6, flg, flg, h1]; rfl
          rw [h7]
          simp only [List.map_nil, List.nil_append]
          rw [ih]
      · rw [if_neg hE]
        simp only [List.map_cons, List.map_nil, List.cons_append, List.nil_append]
        rw [dots_no (H.n46 c h46)]
        have h7 : (hide c == 10) = flg two ct (some c) := by
          by_cases h10 : c = 10
          · subst h10
            rw [beq10 H, flg]
            have : isE two 10 = true := rfl
            rw [this, Bool.and_true]
          · have q1 : (hide c == 10) = false := by simpa using H.n10 c (.inr h10)
            rw [q1, flg]
            by_cases h13 : c = 13
            · subst h13
              cases two with
              | false => simp [isE]
              | true =>
                cases ct with
                | false => rfl
                | true => exact absurd ⟨rfl, rfl, he rfl rfl⟩ hE
            · have : isE two c = false := by simp [isE, h10, h13]
              rw [this, Bool.and_false]
        rw [h7, ih]
theorem fix_srv0 {hide : Nat → Nat} {mr : Bool} (H : Hidy hide true mr) {m b : Nat} : ∀ (bf : Option Nat) (l : List Nat),
    fixS (bf == some 13) ((srv true 0 m b bf l).map hide) = (srv true 1 m b bf l).map hide
  | _, [] => by simp [srv, fixS]
  | bf, c :: r => by
    have ih := fix_srv0 H (m := m) (b := b) (some c) r
    have x10 : hide 46 ≠ 10 := H.n10 46 (.inr (by decide))
    have x13 : hide 46 ≠ 13 := H.n13 46 (.inr (by decide))
    rw [srv, srv, List.map_append, List.map_append]
    by_cases h46 : c = 46
    · subst h46
      have e : ((some 46 : Option Nat) == some 13) = false := rfl
      rw [e] at ih
      rw [piece46, piece46, List.map_append, List.map_replicate, List.map_singleton, List.append_assoc, List.singleton_append, rep_snoc, fix_rep x10 x13, ih, List.append_assoc, List.singleton_append, rep_snoc]
    · rw [piece_no h46, piece_no h46, if_neg (fun q => absurd q.2.2 (by decide))]
      by_cases hE : isE true c = true
      · rw [if_pos ⟨hE, rfl, by decide⟩]
        have : c = 10 ∨ c = 13 := by simpa [isE] using hE
        rcases this with rfl | rfl
        · simp only [List.map_cons, List.map_nil, List.cons_append, List.nil_append]
          rw [H.h10 rfl, fixS, if_neg (by decide), if_pos rfl]
          have e : ((some 10 : Option Nat) == some 13) = false := rfl
          rw [e] at ih
          by_cases q : bf = some 13
          · subst q
            rw [if_pos (by rfl), if_neg (by simp), ih]; rfl
          · have : (bf == some 13) = false := by simpa using q
            rw [this, if_neg (by decide), if_pos (.inr q), ih]
            simp only [List.map_cons, List.map_nil, List.cons_append, List.nil_append, H.h10 rfl, H.h13 rfl]
        · simp only [List.map_cons, List.map_nil, List.cons_append, List.nil_append]
          rw [H.h13 rfl, fixS, if_pos rfl, if_pos (.inl (by trivial))]
          have e : ((some 13 : Option Nat) == some 13) = true := rfl
          rw [e] at ih
          rw [ih]
          simp only [List.map_cons, List.map_nil, List.cons_append, List.nil_append, H.h10 rfl, H.h13 rfl]
      · rw [if_neg (fun q => hE q.1)]
        have h10 : c ≠ 10 := fun q => hE (by rw [q]; rfl)
        have h13 : c ≠ 13 := fun q => hE (by rw [q]; rfl)
        simp only [List.map_cons, List.map_nil, List.cons_append, List.nil_append]
        rw [fix_pass (H.n10 c (.inr h10)) (H.n13 c (.inr h13))]
        have e : ((some c : Option Nat) == some 13) = false := by simpa using h13
        rw [e] at ih
        rw [ih]
theorem fix_srv1 {hide : Nat → Nat} {mr : Bool} (H : Hidy hide true mr) {e m b : Nat} : ∀ (bf : Option Nat) (l : List Nat),
    fixS false ((srv true (e + 1) m b bf l).map hide) = (srv true (e + 1 + 1) m b bf l).map hide
  | _, [] => by simp [srv, fixS]
  | bf, c :: r => by
    have ih := fix_srv1 H (e := e) (m := m) (b := b) (some c) r
    have x10 : hide 46 ≠ 10 := H.n10 46 (.inr (by decide))
    have x13 : hide 46 ≠ 13 := H.n13 46 (.inr (by decide))
    rw [srv, srv, List.map_append, List.map_append]
    by_cases h46 : c = 46
    · subst h46
      rw [piece46, piece46, List.map_append, List.map_replicate, List.map_singleton, List.append_assoc, List.singleton_append, rep_snoc, fix_rep x10 x13, ih, List.append_assoc, List.singleton_append, rep_snoc]
    · rw [piece_no h46, piece_no h46]
      by_cases hE : isE true c = true
      · have e1 : isE true c = true ∧ true = true ∧ 0 < e + 1 := ⟨hE, rfl, by omega⟩
        have e2 : isE true c = true ∧ true = true ∧ 0 < e + 1 + 1 := ⟨hE, rfl, by omega⟩
        rw [if_pos e1, if_pos e2]
        by_cases h5 : c = 13 ∨ bf ≠ some 13
        · rw [if_pos h5]
          simp only [List.map_cons, List.map_nil, List.cons_append, List.nil_append]
          rw [H.h10 rfl, H.h13 rfl, fixS, if_pos rfl, fixS, if_neg (by decide), if_pos rfl, if_pos rfl, ih]
        · rw [if_neg h5]
          simp only [List.map_nil, List.nil_append]
          rw [ih]
      · rw [if_neg (fun q => hE q.1), if_neg (fun q => hE q.1)]
        have h10 : c ≠ 10 := fun q => hE (by rw [q]; rfl)
        have h13 : c ≠ 13 := fun q => hE (by rw [q]; rfl)
        simp only [List.map_cons, List.map_nil, List.cons_append, List.nil_append]
        rw [fix_pass (H.n10 c (.inr h10)) (H.n13 c (.inr h13)), ih]
theorem fix_none_seen {hide : Nat → Nat} {mr : Bool} (H : Hidy hide false mr) : ∀ (l : List Nat) (p : Bool), fixS p (l.map hide) = l.map hide
  | [], _ => rfl
  | c :: r, p => by
    rw [List.map_cons, fix_pass (H.n10 c (.inl rfl)) (H.n13 c (.inl rfl)), fix_none_seen H r]
theorem fix_srv {hide : Nat → Nat} {ct mr : Bool} (H : Hidy hide ct mr) (e m b : Nat) (l : List Nat) : fixGo ((srv true e m b none l).map hide) = (srv true (e + ct.toNat) m b none l).map hide := by
  rw [fix_S]
  cases ct with
  | false => exact fix_none_seen H _ _
  | true =>
    cases e with
    | zero => exact fix_srv0 H none l
    | succ e => exact fix_srv1 H none l

/-! what hideN does -/
theorem kind46 : kindN 46 = 1 := by decide
theorem kind10 : kindN 10 = 0 := by decide
theorem kind13 : kindN 13 = 0 := by decide
theorem hide_or (s : Sn) (c : Nat) : hideN s c = c ∨ (hideN s c = c + 128 ∧ c / 128 % 2 = 0) := by
  unfold hideN
  by_cases h : s.sees (kindN c) = true ∨ c / 128 % 2 = 1
  · rw [if_pos h]; exact .inl rfl
  · rw [if_neg h]; exact .inr ⟨rfl, by have := fun q => h (.inr q); omega⟩
theorem hide_dot (s : Sn) : hideN s 46 = if s.mr = true then 46 else 174 := by
  unfold hideN Sn.sees
  rw [kind46]
  cases s.mr <;> rfl
theorem hide_ct (s : Sn) {c : Nat} (hk : kindN c = 0) (hc : c / 128 % 2 = 0) : hideN s c = if s.ct = true then c else c + 128 := by
  unfold hideN Sn.sees
  rw [hk, hc]
  cases s.ct <;> simp
theorem hide_all (s : Sn) : Hidy (hideN s) s.ct s.mr where
  h46 := hide_dot s
  n46 := fun c hc => by rcases hide_or s c with h | ⟨h, _⟩ <;> omega
  h10 := fun h => by rw [hide_ct s kind10 (by decide), if_pos h]
  h13 := fun h => by rw [hide_ct s kind13 (by decide), if_pos h]
  n10 := fun c hc => by
    by_cases q : c = 10
    · subst q
      have h : s.ct = false := hc.resolve_right (fun z => z rfl)
      rw [hide_ct s kind10 (by decide), if_neg (by rw [h]; decide)]; decide
    · rcases hide_or s c with h | ⟨h, _⟩ <;> omega
  n13 := fun c hc => by
    by_cases q : c = 13
    · subst q
      have h : s.ct = false := hc.resolve_right (fun z => z rfl)
      rw [hide_ct s kind13 (by decide), if_neg (by rw [h]; decide)]; decide
    · rcases hide_or s c with h | ⟨h, _⟩ <;> omega
theorem srv_zero (two : Bool) : ∀ (bf : Option Nat) (l : List Nat), srv two 0 0 0 bf l = l
  | _, [] => rfl
  | bf, c :: r => by
    rw [srv, srv_zero two (some c) r]
    by_cases h : c = 46
    · subst h; rw [piece46]; unfold nD; simp
    · rw [piece_no h, if_neg (fun q => absurd q.2.2 (by decide))]; rfl
theorem srv_false (e e' m b : Nat) : ∀ (bf : Option Nat) (l : List Nat), srv false e m b bf l = srv false e' m b bf l
  | _, [] => rfl
  | bf, c :: r => by
    rw [srv, srv, srv_false e e' m b (some c) r]
    congr 1
    by_cases h : c = 46
    · subst h; rw [piece46, piece46]
    · rw [piece_no h, piece_no h, if_neg (fun q => by cases q.2.1), if_neg (fun q => by cases q.2.1)]
end Mine
end

section
open PySem PySem.W PySem.Spec PySem.Calls PyProof.Rows
namespace Mine
def isCt (n : Nat) : Bool := decide (n < 32 ∨ n = 127)
def hidC (c : Nat) : Nat := if isCt c = true then altN c else c
def hidM (c : Nat) : Nat := if isMark c = true then altN c else c
def stepM (d : Nat) (T : List Nat) : List Nat := if d = 3 then T.map (· % 128) else if d = 4 then T.map (· % 32) else if d = 5 then T.map hidC else if d = 6 then T.map hidM else T.map altN
def stepT (d : Nat) (T : List Nat) : List Nat := if d < 2 then dotsGo true (fixGo T) else if d = 2 then fixGo T else stepM d T
def stepO (d : Nat) (T : List Nat) : List Nat := if d < 2 then dotsGo true T else if d = 2 then T else stepM d T
structure SnOk (s : Sn) : Prop where
  two : s.bh ≤ 2
  one : s.bh < 1 → s.k1 = ⟨0, 0, 0⟩
  tw : s.bh < 2 → s.k2 = ⟨0, 0, 0⟩
theorem ok_step {s : Sn} (h : SnOk s) (d : Nat) : SnOk (s.step d) := by
  obtain ⟨bh, k0, k1, k2, ct, mr, ot⟩ := s
  obtain ⟨h1, h2, h3⟩ := h
  dsimp only at h1 h2 h3
  unfold Sn.step
  split
  · have : bh = 0 ∨ bh = 1 ∨ bh = 2 := by omega
    rcases this with rfl | rfl | rfl
    · exact ⟨by show (0 : Nat) ≤ 2; decide, fun _ => h2 (by decide), fun _ => h3 (by decide)⟩
    · exact ⟨by show (1 : Nat) ≤ 2; decide, fun q => absurd (show (1 : Nat) < 1 from q) (by decide), fun _ => h3 (by decide)⟩
    · exact ⟨by show (2 : Nat) ≤ 2; decide, fun q => absurd (show (2 : Nat) < 1 from q) (by decide), fun q => absurd (show (2 : Nat) < 2 from q) (by decide)⟩
  · split
    · exact ⟨by show max bh (d - 2) ≤ 2; omega, fun q => by dsimp only at q; omega, fun q => h3 (by dsimp only at q; omega)⟩
    · split
      · exact ⟨h1, h2, h3⟩
      · split <;> exact ⟨h1, h2, h3⟩
theorem ok_seen (ds : List Nat) : SnOk (seen ds) := by
  have key : ∀ (ds : List Nat) (s : Sn), SnOk s → SnOk (ds.foldl Sn.step s) := by
    intro ds
    induction ds with
    | nil => intro s h; exact h
    | cons d r ih => intro s h; exact ih _ (ok_step h d)
  exact key ds _ ⟨by decide, fun _ => rfl, fun _ => rfl⟩
def base (two : Bool) (s : Sn) (cs : List Nat) : List Nat :=
  if s.bh = 0 then cs else if s.bh = 1 then (srvT two s.k0 cs).map (· % 128) else (srvT two s.k1 ((srvT two s.k0 cs).map (· % 128))).map (· % 32)
theorem srvAll_base {two : Bool} {s : Sn} {cs : List Nat} (h : s.bh ≤ 2) : srvAll two s cs = srvT two s.at (base two s cs) := by
  obtain ⟨bh, k0, k1, k2, ct, mr, ot⟩ := s
  dsimp only at h
  have : bh = 0 ∨ bh = 1 ∨ bh = 2 := by omega
  rcases this with rfl | rfl | rfl <;> rfl
theorem put_left {two : Bool} {s : Sn} {cs : List Nat} (k : Tri) (h : s.bh ≤ 2) : (srvAll two (s.put k) cs).map (hideN (s.put k)) = (srvT two k (base two s cs)).map (hideN s) := by
  obtain ⟨bh, k0, k1, k2, ct, mr, ot⟩ := s
  dsimp only at h
  have : bh = 0 ∨ bh = 1 ∨ bh = 2 := by omega
  rcases this with rfl | rfl | rfl <;> rfl
theorem left_base (two : Bool) (ds cs : List Nat) : leftN two ds cs = (srvT two (seen ds).at (base two (seen ds) cs)).map (hideN (seen ds)) := by
  rw [leftN, srvAll_base (ok_seen ds).two]
theorem left_put {two : Bool} {ds cs : List Nat} {d : Nat} (hd : d < 3) : leftN two (ds ++ [d]) cs =
    (srvT two ((seen ds).at.bump (seen ds).ct ((seen ds).mr && decide (d < 2)) ((seen ds).ct && (seen ds).mr && decide (d < 2))) (base two (seen ds) cs)).map (hideN (seen ds)) := by
  rw [leftN, seen_snoc, Sn.step, if_pos hd, put_left _ (ok_seen ds).two]
theorem hide_id {s : Sn} (h1 : s.ct = true) (h2 : s.mr = true) (h3 : s.ot = true) (c : Nat) : hideN s c = c := by
  unfold hideN Sn.sees
  rw [h1, h2, h3]
  simp
theorem map_hide_id {s : Sn} (h1 : s.ct = true) (h2 : s.mr = true) (h3 : s.ot = true) (l : List Nat) : l.map (hideN s) = l := by
  refine (List.map_congr_left fun c _ => hide_id h1 h2 h3 c).trans (List.map_id _)
theorem srvT_zero {two : Bool} {k : Tri} (h : k = ⟨0, 0, 0⟩) (l : List Nat) : srvT two k l = l := by subst h; exact srv_zero two none l
theorem srv_32 {two : Bool} {e m b : Nat} : ∀ (bf : Option Nat) (l : List Nat), (∀ c ∈ l, c < 32) → ∀ x ∈ srv two e m b bf l, x < 32
  | _, [], _, _, h => nomatch h
  | bf, c :: r, hl, x, h => by
    rw [srv] at h
    have hc := hl c (.head _)
    rcases List.mem_append.mp h with h | h
    · rw [piece_no (by omega)] at h
      split at h
      · split at h
        · simp at h; omega
        · exact nomatch h
      · rw [List.mem_singleton.mp h]; exact hc
    · exact srv_32 (some c) r (fun d hd => hl d (.tail _ hd)) x h
theorem map_small {k : Nat} {l : List Nat} (h : ∀ c ∈ l, c < k) : l.map (· % k) = l := by
  refine (List.map_congr_left fun c hc => Nat.mod_eq_of_lt (h c hc)).trans (List.map_id _)
theorem hide_128 (s : Sn) (l : List Nat) : (l.map (hideN s)).map (· % 128) = l.map (· % 128) := by
  rw [List.map_map]
  refine List.map_congr_left fun c _ => ?_
  show hideN s c % 128 = c % 128
  rcases hide_or s c with h | ⟨h, _⟩ <;> omega
theorem hide_32 (s : Sn) (l : List Nat) : (l.map (hideN s)).map (· % 32) = l.map (· % 32) := by
  rw [List.map_map]
  refine List.map_congr_left fun c _ => ?_
  show hideN s c % 32 = c % 32
  rcases hide_or s c with h | ⟨h, _⟩ <;> omega
theorem mod_lt_all (k : Nat) (hk : 0 < k) (l : List Nat) : ∀ c ∈ l.map (· % k), c < k := by
  intro c hc
  obtain ⟨d, _, rfl⟩ := List.mem_map.mp hc
  exact Nat.mod_lt _ hk
theorem mod_mod (l : List Nat) : (l.map (· % 128)).map (· % 32) = l.map (· % 32) := by
  rw [List.map_map]
  refine List.map_congr_left fun c _ => ?_
  show c % 128 % 32 = c % 32
  omega
theorem left_nil (two : Bool) (cs : List Nat) : leftN two [] cs = cs := by
  rw [leftN, map_hide_id rfl rfl rfl]
  exact srvT_zero rfl cs
theorem strip_left (two : Bool) (ds cs : List Nat) : (leftN two ds cs).map (· % 128) = leftN two (ds ++ [3]) cs := by
  rw [leftN, leftN, seen_snoc, hide_128]
  have ok := ok_seen ds
  generalize seen ds = s at ok
  obtain ⟨bh, k0, k1, k2, ct, mr, ot⟩ := s
  obtain ⟨h1, h2, h3⟩ := ok
  dsimp only at h1 h2 h3
  rw [map_hide_id rfl rfl rfl]
  have : bh = 0 ∨ bh = 1 ∨ bh = 2 := by omega
  rcases this with rfl | rfl | rfl
  · show (srvT two k0 cs).map (· % 128) = srvT two k1 ((srvT two k0 cs).map (· % 128))
    rw [srvT_zero (h2 (by decide))]
  · show (srvT two k1 ((srvT two k0 cs).map (· % 128))).map (· % 128) = srvT two k1 ((srvT two k0 cs).map (· % 128))
    exact map_small (srv_lt (by decide) none _ (mod_lt_all 128 (by decide) _))
  · show (srvT two k2 ((srvT two k1 ((srvT two k0 cs).map (· % 128))).map (· % 32))).map (· % 128) = srvT two k2 ((srvT two k1 ((srvT two k0 cs).map (· % 128))).map (· % 32))
    exact map_small (srv_lt (by decide) none _ fun c hc => Nat.lt_trans (mod_lt_all 32 (by decide) _ c hc) (by decide))
theorem narrow_left (two : Bool) (ds cs : List Nat) : (leftN two ds cs).map (· % 32) = leftN two (ds ++ [4]) cs := by
  rw [leftN, leftN, seen_snoc, hide_32]
  have ok := ok_seen ds
  generalize seen ds = s at ok
  obtain ⟨bh, k0, k1, k2, ct, mr, ot⟩ := s
  obtain ⟨h1, h2, h3⟩ := ok
  dsimp only at h1 h2 h3
  rw [map_hide_id rfl rfl rfl]
  have : bh = 0 ∨ bh = 1 ∨ bh = 2 := by omega
  rcases this with rfl | rfl | rfl
  · show (srvT two k0 cs).map (· % 32) = srvT two k2 ((srvT two k1 ((srvT two k0 cs).map (· % 128))).map (· % 32))
    rw [srvT_zero (h2 (by decide)), srvT_zero (h3 (by decide)), mod_mod]
  · show (srvT two k1 ((srvT two k0 cs).map (· % 128))).map (· % 32) = srvT two k2 ((srvT two k1 ((srvT two k0 cs).map (· % 128))).map (· % 32))
    rw [srvT_zero (h3 (by decide))]
  · show (srvT two k2 ((srvT two k1 ((srvT two k0 cs).map (· % 128))).map (· % 32))).map (· % 32) = srvT two k2 ((srvT two k1 ((srvT two k0 cs).map (· % 128))).map (· % 32))
    exact map_small (srv_32 none _ (mod_lt_all 32 (by decide) _))

theorem ct_kind (c : Nat) : isCt c = true ↔ kindN c = 0 := by
  unfold isCt kindN
  rw [decide_eq_true_eq]
  by_cases h : c < 32 ∨ c = 127
  · simp [h]
  · rw [if_neg h]; constructor
    · intro q; exact absurd q h
    · split <;> intro q <;> cases q
theorem mark_kind (c : Nat) : isMark c = true ↔ kindN c = 1 := by
  unfold kindN
  by_cases h : c < 32 ∨ c = 127
  · rw [if_pos h]
    have : isMark c = false := by rw [isMark, decide_eq_false_iff_not]; omega
    rw [this]; simp
  · rw [if_neg h]; cases isMark c <;> simp
theorem ct_lt {c : Nat} (h : isCt c = true) : c < 128 := by rw [isCt, decide_eq_true_eq] at h; omega
theorem mark_lt {c : Nat} (h : isMark c = true) : c < 128 := by rw [isMark, decide_eq_true_eq] at h; omega
theorem sees_of (s : Sn) (k : Nat) : s.sees k = if k = 0 then s.ct else if k = 1 then s.mr else s.ot := rfl
theorem alt_low {c : Nat} (h : c < 128) : altN c = c + 128 := by unfold altN; rw [if_neg]; omega
theorem hidC_hide (s : Sn) (c : Nat) : hidC (hideN s c) = hideN { s with ct := false } c := by
  by_cases h : isCt c = true
  · have hk := (ct_kind c).mp h
    have hl := ct_lt h
    rw [hide_ct s hk (by omega), hide_ct _ hk (by omega)]
    rw [if_neg (by decide : ¬ (false = true))]
    split
    · rw [hidC, if_pos h, alt_low hl]
    · rw [hidC, if_neg]; rw [isCt, decide_eq_true_eq]; omega
  · have hk : kindN c ≠ 0 := fun q => h ((ct_kind c).mpr q)
    have e : hideN { s with ct := false } c = hideN s c := by
      unfold hideN Sn.sees
      simp only [if_neg hk]
    rw [e, hidC, if_neg]
    rcases hide_or s c with q | ⟨q, _⟩
    · rw [q]; exact h
    · rw [q, isCt, decide_eq_true_eq]; omega
theorem hide_mr (s : Sn) {c : Nat} (hk : kindN c = 1) (hc : c / 128 % 2 = 0) : hideN s c = if s.mr = true then c else c + 128 := by
  unfold hideN Sn.sees
  rw [hk, hc]
  cases s.mr <;> simp
theorem hidM_hide (s : Sn) (c : Nat) : hidM (hideN s c) = hideN { s with mr := false } c := by
  by_cases h : isMark c = true
  · have hk := (mark_kind c).mp h
    have hl := mark_lt h
    rw [hide_mr s hk (by omega), hide_mr _ hk (by omega)]
    rw [if_neg (by decide : ¬ (false = true))]
    split
    · rw [hidM, if_pos h, alt_low hl]
    · rw [hidM, if_neg]; rw [isMark, decide_eq_true_eq]; omega
  · have hk : kindN c ≠ 1 := fun q => h ((mark_kind c).mpr q)
    have e : hideN { s with mr := false } c = hideN s c := by
      unfold hideN Sn.sees
      simp only [if_neg hk]
    rw [e, hidM, if_neg]
    rcases hide_or s c with q | ⟨q, _⟩
    · rw [q]; exact h
    · rw [q, isMark, decide_eq_true_eq]; omega
theorem alt_hide (s : Sn) (c : Nat) : altN (hideN s c) = hideN { s with ct := false, mr := false, ot := false } c := by
  have e : hideN { s with ct := false, mr := false, ot := false } c = altN c := by
    unfold hideN Sn.sees altN
    simp
  rw [e]
  rcases hide_or s c with q | ⟨q, h⟩
  · rw [q]
  · rw [q]; unfold altN; rw [if_pos (by omega), if_neg (by omega)]
theorem map_two {f g : Nat → Nat} {h : Nat → Nat} (e : ∀ c, g (f c) = h c) (l : List Nat) : (l.map f).map g = l.map h := by
  rw [List.map_map]; exact List.map_congr_left fun c _ => e c
theorem hidC_left (two : Bool) (ds cs : List Nat) : (leftN two ds cs).map hidC = leftN two (ds ++ [5]) cs := by
  rw [leftN, leftN, seen_snoc, map_two (hidC_hide (seen ds))]; rfl
theorem hidM_left (two : Bool) (ds cs : List Nat) : (leftN two ds cs).map hidM = leftN two (ds ++ [6]) cs := by
  rw [leftN, leftN, seen_snoc, map_two (hidM_hide (seen ds))]; rfl
theorem alt_left (two : Bool) (ds cs : List Nat) : (leftN two ds cs).map altN = leftN two (ds ++ [7]) cs := by
  rw [leftN, leftN, seen_snoc, map_two (alt_hide (seen ds))]; rfl
theorem stepM_left (two : Bool) {ds cs : List Nat} {d : Nat} (h3 : ¬ d < 3) (hd : d < 8) : stepM d (leftN two ds cs) = leftN two (ds ++ [d]) cs := by
  have : d = 3 ∨ d = 4 ∨ d = 5 ∨ d = 6 ∨ d = 7 := by omega
  rcases this with rfl | rfl | rfl | rfl | rfl
  · exact strip_left two ds cs
  · exact narrow_left two ds cs
  · exact hidC_left two ds cs
  · exact hidM_left two ds cs
  · exact alt_left two ds cs
theorem stepT_left {ds cs : List Nat} {d : Nat} (hc : ∀ c ∈ cs, c < 55296) (hd : d < 8) (h8 : ∀ d ∈ ds, d < 8) : stepT d (leftN true ds cs) = leftN true (ds ++ [d]) cs := by
  unfold stepT
  by_cases h2 : d < 2
  · rw [if_pos h2, left_put (by omega), left_base, srvT, srvT, fix_srv (hide_all _)]
    have hx := dots_srv (hide_all (seen ds)) (two := true) (e := (seen ds).at.e + (seen ds).ct.toNat) (m := (seen ds).at.m) (b := (seen ds).at.b) (fun _ q => by rw [q]; simp) none (base true (seen ds) cs)
    rw [decide_eq_true h2, Bool.and_true, Bool.and_true]
    exact hx
  · rw [if_neg h2]
    by_cases h3 : d = 2
    · subst h3
      rw [if_pos rfl, left_put (by decide), left_base, srvT, srvT, fix_srv (hide_all _)]
      have : decide (2 < 2) = false := rfl
      rw [this, Bool.and_false, Bool.and_false]
      rfl
    · rw [if_neg h3]; exact stepM_left true (by omega) hd
theorem stepO_left {ds cs : List Nat} {d : Nat} (hc : ∀ c ∈ cs, c < 256) (hd : d < 8) (h8 : ∀ d ∈ ds, d < 8) : stepO d (leftN false ds cs) = leftN false (ds ++ [d]) cs := by
  unfold stepO
  by_cases h2 : d < 2
  · rw [if_pos h2, left_put (by omega), left_base, srvT, srvT]
    have hx := dots_srv (hide_all (seen ds)) (two := false) (e := (seen ds).at.e) (m := (seen ds).at.m) (b := (seen ds).at.b) (fun q => by cases q) none (base false (seen ds) cs)
    rw [decide_eq_true h2, Bool.and_true, Bool.and_true]
    refine hx.trans ?_
    exact congrArg (List.map _) (srv_false _ _ _ _ _ _)
  · rw [if_neg h2]
    by_cases h3 : d = 2
    · subst h3
      rw [if_pos rfl, left_put (by decide), left_base, srvT, srvT]
      have : decide (2 < 2) = false := rfl
      rw [this, Bool.and_false, Bool.and_false]
      exact congrArg (List.map _) (srv_false _ _ _ _ _ _)
    · rw [if_neg h3]; exact stepM_left false (by omega) hd
theorem left_len {two : Bool} {ds cs : List Nat} (h1 : ds.length ≤ 6) (h2 : cs.length ≤ 12) : (leftN two ds cs).length ≤ 6144 := by
  have hsl := seen_le ds
  have hk0 : (seen ds).k0.le 6 := ⟨Nat.le_trans hsl.1.1 h1, Nat.le_trans hsl.1.2.1 h1, Nat.le_trans hsl.1.2.2 h1⟩
  have hk1 : (seen ds).k1.le 6 := ⟨Nat.le_trans hsl.2.1.1 h1, Nat.le_trans hsl.2.1.2.1 h1, Nat.le_trans hsl.2.1.2.2 h1⟩
  have hk2 : (seen ds).k2.le 6 := ⟨Nat.le_trans hsl.2.2.1 h1, Nat.le_trans hsl.2.2.2.1 h1, Nat.le_trans hsl.2.2.2.2 h1⟩
  have z0 := srvT_le (two := two) hk0 cs
  have z1 : (if 0 < (seen ds).bh then srvT two (seen ds).k1 ((srvT two (seen ds).k0 cs).map (· % 128)) else srvT two (seen ds).k0 cs).length ≤ 768 := by
    split
    · have := srvT_le (two := two) hk1 ((srvT two (seen ds).k0 cs).map (· % 128))
      rw [List.length_map] at this
      omega
    · omega
  rw [leftN, List.length_map]
  unfold srvAll
  dsimp only
  split
  · have := srvT_le (two := two) hk2 ((if 0 < (seen ds).bh then srvT two (seen ds).k1 ((srvT two (seen ds).k0 cs).map (· % 128)) else srvT two (seen ds).k0 cs).map (· % 32))
    rw [List.length_map] at this
    omega
  · omega
theorem left_lt {two : Bool} {ds cs : List Nat} (hc : ∀ c ∈ cs, c < 55296) : ∀ c ∈ leftN two ds cs, c < 60000 := by
  intro c h
  rw [leftN] at h
  obtain ⟨d, hd, rfl⟩ := List.mem_map.mp h
  have := srvAll_lt hc d hd
  rcases hide_or (seen ds) d with q | ⟨q, _⟩ <;> omega
theorem srvAll_lt2 {two : Bool} {sn : Sn} {cs : List Nat} (hc : ∀ c ∈ cs, c < 256) : ∀ c ∈ srvAll two sn cs, c < 256 := by
  have h0 : ∀ c ∈ srvT two sn.k0 cs, c < 256 := srv_lt (by decide) none cs hc
  have h1 : ∀ c ∈ (if 0 < sn.bh then srvT two sn.k1 ((srvT two sn.k0 cs).map (· % 128)) else srvT two sn.k0 cs), c < 256 := by
    split
    · exact srv_lt (by decide) none _ fun c hc => Nat.lt_trans (mod_lt_all 128 (by decide) _ c hc) (by decide)
    · exact h0
  unfold srvAll
  dsimp only
  split
  · exact srv_lt (by decide) none _ fun c hc => Nat.lt_trans (mod_lt_all 32 (by decide) _ c hc) (by decide)
  · exact h1
theorem left_ltO {two : Bool} {ds cs : List Nat} (hc : ∀ c ∈ cs, c < 256) : ∀ c ∈ leftN two ds cs, c < 256 := by
  intro c h
  rw [leftN] at h
  obtain ⟨d, hd, rfl⟩ := List.mem_map.mp h
  have := srvAll_lt2 hc d hd
  rcases hide_or (seen ds) d with q | ⟨q, _⟩ <;> omega
end Mine
end

section
open PySem PySem.W PySem.Spec PySem.Calls PyProof.Rows
namespace Mine
theorem quote_l (w : World) {T : List Nat} {t : Tok} (hx : T.length ≤ 6144) : Spec w 53 1 (fun _ => True) [.str ⟨T.toArray⟩ t] (fun _ _ r => ∃ t, r = .str ⟨(dotsGo true (fixGo T)).toArray⟩ t) :=
  quotedata_spec w (x := T.toArray) (by rw [List.size_toArray]; omega)
theorem fix_l (w : World) {T : List Nat} {t : Tok} (hx : T.length ≤ 6144) : Spec w 67 1 (fun _ => True) [.str ⟨T.toArray⟩ t] (fun _ _ r => ∃ t, r = .str ⟨(fixGo T).toArray⟩ t) :=
  fix_spec w (x := T.toArray) (by rw [List.size_toArray]; omega)
theorem periods_l (w : World) {T : List Nat} {t : Tok} (hx : T.length ≤ 6144) (hb : ∀ c ∈ T, c < 256) : Spec w 60 1 (fun _ => True) [.bytes (oct T) t] (fun _ _ r => ∃ t, r = .bytes (oct (dotsGo true T)) t) :=
  periods_spec w (x := T.toArray) (by rw [List.size_toArray]; omega) (fun c hc => hb c (by simpa using hc))
theorem fmod_nat (c k : Nat) : ((c : Int).fmod (k : Int)) = ((c % k : Nat) : Int) := by rw [Int.fmod_eq_emod_of_nonneg _ (by omega)]; rfl
theorem far_ctrl (c : Nat) (S : Int) : (((c : Int) + (256 * S + 256)) % 32) = ((c % 32 : Nat) : Int) := by omega
theorem far_alt {c : Nat} (hc : c < 256) (S : Int) : altI ((c : Int) + (256 * S + 256)) - (256 * S + 256) = ((altN c : Nat) : Int) := by
  unfold altI altN
  by_cases h : c / 128 % 2 = 1
  · rw [if_pos h, if_pos (by omega)]; omega
  · rw [if_neg h, if_neg (by omega)]; omega
theorem altN_lt {c : Nat} (h : c < 256) : altN c < 256 := by unfold altN; split <;> omega
theorem hidC_lt {c : Nat} (h : c < 256) : hidC c < 256 := by unfold hidC; split; exact altN_lt h; exact h
theorem hidM_lt {c : Nat} (h : c < 256) : hidM c < 256 := by unfold hidM; split; exact altN_lt h; exact h
theorem hidC_yes {c : Nat} (h : (0 ≤ (c : Int) ∧ (c : Int) ≤ 31) ∨ (c : Int) = 127) : hidC c = altN c := by rw [hidC, if_pos]; rw [isCt, decide_eq_true_eq]; omega
theorem hidC_no {c : Nat} (h : ¬ ((0 ≤ (c : Int) ∧ (c : Int) ≤ 31) ∨ (c : Int) = 127)) : hidC c = c := by rw [hidC, if_neg]; rw [isCt, decide_eq_true_eq]; omega
theorem hidM_yes {c : Nat} (h : (33 ≤ (c : Int) ∧ (c : Int) ≤ 126) ∧ ¬ ((65 ≤ (c : Int) ∧ (c : Int) ≤ 90) ∨ (97 ≤ (c : Int) ∧ (c : Int) ≤ 122) ∨ (48 ≤ (c : Int) ∧ (c : Int) ≤ 57))) : hidM c = altN c := by rw [hidM, if_pos]; rw [isMark, decide_eq_true_eq]; omega
theorem hidM_no {c : Nat} (h : ¬ ((33 ≤ (c : Int) ∧ (c : Int) ≤ 126) ∧ ¬ ((65 ≤ (c : Int) ∧ (c : Int) ≤ 90) ∨ (97 ≤ (c : Int) ∧ (c : Int) ≤ 122) ∨ (48 ≤ (c : Int) ∧ (c : Int) ≤ 57)))) : hidM c = c := by rw [hidM, if_neg]; rw [isMark, decide_eq_true_eq]; omega
theorem beq_zero (n : Nat) : ((n : Int) == 0) = decide (n = 0) := by
  rw [Bool.eq_iff_iff, beq_iff_eq, decide_eq_true_eq]; omega
theorem beq_one (n : Nat) : ((n : Int) == 1) = decide (n = 1) := by
  rw [Bool.eq_iff_iff, beq_iff_eq, decide_eq_true_eq]; omega
theorem kind_pair (c : Nat) : (decide (c < 32 ∨ c = 127), isMark c) = (decide (kindN c = 0), decide (kindN c = 1)) := by
  unfold kindN
  by_cases h : c < 32 ∨ c = 127
  · rw [if_pos h, decide_eq_true h]
    have : isMark c = false := by rw [isMark, decide_eq_false_iff_not]; omega
    rw [this]; rfl
  · rw [if_neg h, decide_eq_false h]
    cases isMark c <;> rfl
section
variable {prog : Program} {w : World} {A : Around} {E : Value → Shared → Prop} {s : Shared} {h₀ : Heap} {L : Addr} {m : Str → Option Value} {news : List (Addr × Obj)} {p : Program} {loose : List Str} {mg mb : Str → Option Value} {Q : Value → Shared → Prop}
theorem left_use (two : Bool) {cs ds : List Nat} {l1 l2 l3 : Addr} {vs us ws : List Value} (F : Fr h₀ L s.heap m) (N : News h₀ L s.heap news) (X : (hd.heap_39 w.params).In h₀) (T : TopRead p loose mg mb h₀) (hh : A.handled = none) (hd : A.depth + 2 < recursionLimit) (hu : A.units + 10 * 2 < 9000)
    (h1 : s.heap.IsList l1 vs.toArray) (h2 : s.heap.IsList l2 us.toArray) (h3 : s.heap.IsList l3 ws.toArray) (hc : ∀ c ∈ cs, c < 55296) (hcl : cs.length ≤ 12) (hd8 : ∀ d ∈ ds, d < 8) (hdl : ds.length ≤ 6) (hvs : IntsAre vs (casts cs)) (hus : IntsAre us (casts (endsOf two))) (hws : IntsAre ws (casts ds))
    (h : ∀ (a : Addr) (xs : List Value) (n : Nat) h' tk, Each (InEl id) (leftN two ds cs) xs → Fr h₀ L h' m → News h₀ L h' ((a, listOf xs.toArray n) :: news) → Q (.ref a) { s with heap := h', toks := tk }) :
    wpAny (model prog w) A (call (.ref 177) [.ref l1, .ref l2, .ref l3]) Q E s := by
  refine (left_spec w hc hcl hd8 hdl hvs hus hws).use F N X T hh hd hu ⟨h1, h2, h3⟩ ?_
  rintro v h' tk ⟨a, xs, n, rfl, q1, q2, q3⟩ st F' N'
  exact h a xs n h' tk (ints_each q3) F' (newsAdd F N' q2 q1)
end
theorem ca_stop {M : Model} {A : Around} {env : Env} {y : List Expr} {elt : Expr} {gs : List Comprehension} {sc : Scope} {pos pos2 : Pos} {Q : Flow → Shared → Prop} {E : Value → Shared → Prop} {s : Shared}
    (h : Stop (wpAny M A (exec (.Assign y (.ListComp elt gs sc pos) pos2) env) Q E s)) : wpAny M A (exec (.Assign y (.ListComp elt gs sc pos) pos2) env) Q E s := h
theorem c151_stop {M : Model} {A : Around} {v : List Value} {Q : Value → Shared → Prop} {E : Value → Shared → Prop} {s : Shared}
    (h : Stop (wpAny M A (call (.ref 151) v) Q E s)) : wpAny M A (call (.ref 151) v) Q E s := h
theorem c177_stop {M : Model} {A : Around} {v : List Value} {Q : Value → Shared → Prop} {E : Value → Shared → Prop} {s : Shared}
    (h : Stop (wpAny M A (call (.ref 177) v) Q E s)) : wpAny M A (call (.ref 177) v) Q E s := h
local macro_rules | `(tactic| ktr_room) => `(tactic| (simp only [depth_deeper]; omega))
local macro_rules | `(tactic| ktr_units) => `(tactic| (simp only [units_deeper]; omega))
local macro_rules | `(tactic| walk_at "call ref") => `(tactic| ((with_reducible show wpAny _ _ (call (Value.ref 151) _) _ _ _); (refine c151_stop ?_)))
local macro_rules | `(tactic| walk_at "call ref") => `(tactic| ((with_reducible show wpAny _ _ (call (Value.ref 53) _) _ _ _); ((k_dflt (refine' Spec.use (quote_l _ (by assumption)) ?F ?N ?X ?T ?hh ?hd ?hu trivial ?_; (case F => k_asm); (case N => k_asm); (case X => k_asm); (case T => k_asm); (case hh => rfl); (case hd => ktr_room); (case hu => ktr_units))); intro v' h' tk' hp' hs' F' N'; (first | (obtain ⟨t', e'⟩ := hp'; subst e') | subst hp'); (clear hs'); (try dsimp only); (try k_sweep))))
local macro_rules | `(tactic| walk_at "call ref") => `(tactic| ((with_reducible show wpAny _ _ (call (Value.ref 67) _) _ _ _); ((k_dflt (refine' Spec.use (fix_l _ (by assumption)) ?F ?N ?X ?T ?hh ?hd ?hu trivial ?_; (case F => k_asm); (case N => k_asm); (case X => k_asm); (case T => k_asm); (case hh => rfl); (case hd => ktr_room); (case hu => ktr_units))); intro v' h' tk' hp' hs' F' N'; (first | (obtain ⟨t', e'⟩ := hp'; subst e') | subst hp'); (clear hs'); (try dsimp only); (try k_sweep))))
local macro_rules | `(tactic| walk_at "call ref") => `(tactic| ((with_reducible show wpAny _ _ (call (Value.ref 60) _) _ _ _); ((k_dflt (refine' Spec.use (periods_l _ (by assumption) (by assumption)) ?F ?N ?X ?T ?hh ?hd ?hu trivial ?_; (case F => k_asm); (case N => k_asm); (case X => k_asm); (case T => k_asm); (case hh => rfl); (case hd => ktr_room); (case hu => ktr_units))); intro v' h' tk' hp' hs' F' N'; (first | (obtain ⟨t', e'⟩ := hp'; subst e') | subst hp'); (clear hs'); (try dsimp only); (try k_sweep))))
local macro_rules | `(tactic| walk_at "call ref") => `(tactic| ((with_reducible show wpAny _ _ (call (Value.ref 137) [Value.str _ _]) _ _ _); ((k_dflt (refine' Spec.use (ctrl_chr _) ?F ?N ?X ?T ?hh ?hd ?hu trivial ?_; (case F => k_asm); (case N => k_asm); (case X => k_asm); (case T => k_asm); (case hh => rfl); (case hd => ktr_room); (case hu => ktr_units))); intro v' h' tk' hp' hs' F' N'; (first | (obtain ⟨t', e'⟩ := hp'; subst e') | subst hp'); (clear hs'); (try dsimp only); (try k_sweep))))
local macro_rules | `(tactic| walk_at "call ref") => `(tactic| ((with_reducible show wpAny _ _ (call (Value.ref 137) [Value.int _ _]) _ _ _); ((k_dflt (refine' Spec.use (ctrl_int _) ?F ?N ?X ?T ?hh ?hd ?hu trivial ?_; (case F => k_asm); (case N => k_asm); (case X => k_asm); (case T => k_asm); (case hh => rfl); (case hd => ktr_room); (case hu => ktr_units))); intro v' h' tk' hp' hs' F' N'; (first | (obtain ⟨t', e'⟩ := hp'; subst e') | subst hp'); (clear hs'); (try dsimp only); (try k_sweep))))
local macro_rules | `(tactic| walk_at "call ref") => `(tactic| ((with_reducible show wpAny _ _ (call (Value.ref 144) [Value.str _ _]) _ _ _); ((k_dflt (refine' Spec.use (alt_chr _ (by omega)) ?F ?N ?X ?T ?hh ?hd ?hu trivial ?_; (case F => k_asm); (case N => k_asm); (case X => k_asm); (case T => k_asm); (case hh => rfl); (case hd => ktr_room); (case hu => ktr_units))); intro v' h' tk' hp' hs' F' N'; (first | (obtain ⟨t', e'⟩ := hp'; subst e') | subst hp'); (clear hs'); (try dsimp only); (try k_sweep))))
local macro_rules | `(tactic| walk_at "call ref") => `(tactic| ((with_reducible show wpAny _ _ (call (Value.ref 144) [Value.int _ _]) _ _ _); ((k_dflt (refine' Spec.use (alt_int _) ?F ?N ?X ?T ?hh ?hd ?hu trivial ?_; (case F => k_asm); (case N => k_asm); (case X => k_asm); (case T => k_asm); (case hh => rfl); (case hd => ktr_room); (case hu => ktr_units))); intro v' h' tk' hp' hs' F' N'; (first | (obtain ⟨t', e'⟩ := hp'; subst e') | subst hp'); (clear hs'); (try dsimp only); (try k_sweep))))
local macro_rules | `(tactic| walk_at "call ref") => `(tactic| ((with_reducible show wpAny _ _ (call (Value.ref 95) [Value.str _ _]) _ _ _); ((k_dflt (refine' Spec.use (iscntrl_spec _ (.chr _ _)) ?F ?N ?X ?T ?hh ?hd ?hu trivial ?_; (case F => k_asm); (case N => k_asm); (case X => k_asm); (case T => k_asm); (case hh => rfl); (case hd => ktr_room); (case hu => ktr_units))); intro v' h' tk' hp' hs' F' N'; (first | (obtain ⟨t', e'⟩ := hp'; subst e') | subst hp'); (clear hs'); (try dsimp only); (try k_sweep))))
local macro_rules | `(tactic| walk_at "call ref") => `(tactic| ((with_reducible show wpAny _ _ (call (Value.ref 95) [Value.int _ _]) _ _ _); ((k_dflt (refine' Spec.use (iscntrl_spec _ (.int _ _)) ?F ?N ?X ?T ?hh ?hd ?hu trivial ?_; (case F => k_asm); (case N => k_asm); (case X => k_asm); (case T => k_asm); (case hh => rfl); (case hd => ktr_room); (case hu => ktr_units))); intro v' h' tk' hp' hs' F' N'; (first | (obtain ⟨t', e'⟩ := hp'; subst e') | subst hp'); (clear hs'); (try dsimp only); (try k_sweep))))
local macro_rules | `(tactic| walk_at "call ref") => `(tactic| ((with_reducible show wpAny _ _ (call (Value.ref 123) [Value.str _ _]) _ _ _); ((k_dflt (refine' Spec.use (ispunct_spec _ (.chr _ _)) ?F ?N ?X ?T ?hh ?hd ?hu trivial ?_; (case F => k_asm); (case N => k_asm); (case X => k_asm); (case T => k_asm); (case hh => rfl); (case hd => ktr_room); (case hu => ktr_units))); intro v' h' tk' hp' hs' F' N'; (first | (obtain ⟨t', e'⟩ := hp'; subst e') | subst hp'); (clear hs'); (try dsimp only); (try k_sweep))))
local macro_rules | `(tactic| walk_at "call ref") => `(tactic| ((with_reducible show wpAny _ _ (call (Value.ref 123) [Value.int _ _]) _ _ _); ((k_dflt (refine' Spec.use (ispunct_spec _ (.int _ _)) ?F ?N ?X ?T ?hh ?hd ?hu trivial ?_; (case F => k_asm); (case N => k_asm); (case X => k_asm); (case T => k_asm); (case hh => rfl); (case hd => ktr_room); (case hu => ktr_units))); intro v' h' tk' hp' hs' F' N'; (first | (obtain ⟨t', e'⟩ := hp'; subst e') | subst hp'); (clear hs'); (try dsimp only); (try k_sweep))))
local macro_rules | `(tactic| walk_at "call ref") => `(tactic| ((with_reducible show wpAny _ _ (call (Value.ref 172) [Value.int _ _]) _ _ _); ((k_dflt (refine' Spec.use (kind_spec _ (by assumption)) ?F ?N ?X ?T ?hh ?hd ?hu trivial ?_; (case F => k_asm); (case N => k_asm); (case X => k_asm); (case T => k_asm); (case hh => rfl); (case hd => ktr_room); (case hu => ktr_units))); intro v' h' tk' hp' hs' F' N'; (first | (obtain ⟨t', e'⟩ := hp'; subst e') | subst hp'); (clear hs'); (try dsimp only); (try k_sweep))))
local macro_rules | `(tactic| walk_at "exec For Name Name cons nil") => `(tactic| refine for_stop ?_)
local macro_rules | `(tactic| walk_at "CompSrc") => `(tactic| refine cs_stop ?_)
local macro_rules | `(tactic| walk_at "binaryOp Add ref ref") => `(tactic| (k_here; (with_reducible show wpAny _ _ (binaryOp _ (Value.ref _) (Value.ref _)) _ _ _); (k_dflt (refine' add_each ?F ?N ?a ?b ?h1 ?h2 ?z ?_; (case F => k_asm); (case N => k_asm); (case a => k_memK); (case b => k_memK); (case h1 => assumption); (case h2 => assumption); (case z => omega))); intro D' us' h' hE' F' N'; (try dsimp only); (try k_sweep)))
local macro_rules | `(tactic| walk_at "call type:list") => `(tactic| (k_here; (with_reducible show wpAny _ _ (call (Value.type "list") [Value.str _ _]) _ _ _); (k_dflt (refine' list_text ?hh ?F ?N ?n ?_; (case hh => rfl); (case F => k_asm); (case N => k_asm); (case n => omega))); intro D' vs' c' h' tk' hE' F' N'; (try dsimp only); (try k_sweep)))
local macro_rules | `(tactic| walk_at "call type:list") => `(tactic| (k_here; (with_reducible show wpAny _ _ (call (Value.type "list") [Value.bytes _ _]) _ _ _); (k_dflt (refine' list_oct ?hh ?F ?N ?n ?t ?_; (case hh => rfl); (case F => k_asm); (case N => k_asm); (case n => omega); (case t => assumption))); intro D' vs' c' h' tk' hE' F' N'; (try dsimp only); (try k_sweep)))
local macro_rules | `(tactic| walk_at "eval ListComp") => `(tactic| refine lc_stop ?_)
local macro_rules | `(tactic| walk_at "exec Assign cons ListComp") => `(tactic| refine ca_stop ?_)
local macro_rules | `(tactic| walk_at "call ref") => `(tactic| ((with_reducible show wpAny _ _ (call (Value.ref 177) _) _ _ _); (refine c177_stop ?_)))
local macro_rules | `(tactic| walk_at "eval Name") => `(tactic| (k_here; (with_reducible show wpAny _ _ (eval (Expr.Name _ _) (compEnvC _ _ _ _)) _ _ _); k_dflt (first
  | refine LCgL.ld_own (by k_asm) (by k_mem) (by assumption) (by assumption) ?_
  | refine name_top (by k_asm) (by k_asm) (by k_asm) (.inl (by k_is)) ?_
  | refine name_top (by k_asm) (by k_asm) (by k_asm) (.inr ⟨by k_is, by boot_by_name, by decide⟩) ?_
  | (refine' lcf_cell ?N ?c ?m ?d ?_ ?a ?b; (case a => rfl); (case b => rfl); (case N => k_asm); (case c => rfl); (case m => k_mem); (case d => k_asm); k_whole)
  | (refine' lcf_free ?N ?c ?m ?d ?_ ?a ?b; (case a => rfl); (case b => rfl); (case N => k_asm); (case c => rfl); (case m => k_mem); (case d => k_asm); k_whole))))
local macro_rules | `(tactic| walk_at "call builtin:str.join") => `(tactic| (k_here; (with_reducible show wpAny _ _ (call (Value.builtin "str.join") [Value.str _ _, Value.ref _]) _ _ _); (with_reducible rename Each (SgEl _) _ _ => ktC); (refine join_each (by first | is_list | exact News.isList (by k_asm) (by k_memK)) ktC (by omega) ?_; intro _ _)))
local macro_rules | `(tactic| walk_at "call type:bytes") => `(tactic| (k_here; (with_reducible show wpAny _ _ (call (Value.type "bytes") [Value.ref _]) _ _ _); (with_reducible rename Each (InEl _) _ _ => ktC); (k_dflt (refine bytes_eachN (by k_asm) (by k_asm) (by first | is_list | exact News.isList (by k_asm) (by k_memK)) ktC (by assumption) (by omega) rfl ?_)); intro _ _ _ _ _; (try dsimp only); (try k_sweep)))
set_option maxHeartbeats 4000000 in
theorem law_code {prog : Program} {w : World} {A : Around} {s : Shared} {R : Result → Shared → Prop} {l : Addr} {vs : List Value} {ns : List Int} (G : Gd w s.heap) (hh : A.handled = none) (hd : A.depth + 9 < recursionLimit) (hu : A.units + 200 < 9000)
    (hl : s.heap.IsList l vs.toArray) (hi : IntsAre vs ns) (hn : ns.length ≤ 63) (h : ∀ h' tk, Heap.StaysIn s.heap h' → R (.ok (.ret (.bool true))) { s with heap := h', toks := tk }) :
    codeAny (model prog w) A (.call (.ref 182) ⟨[.ref l], []⟩) R s := by
  obtain ⟨X, p, loose, mg, mb, T⟩ := G
  obtain ⟨ah, ad, af, ag, au⟩ := A
  dsimp only at hh hd hu
  subst hh
  k_dflt (refine enterC X T.nolimit (by dsimp only; omega) (by k_is) (by k_is) rfl (fun n x hx => .inl (locs rfl x hx)) (by decide) rfl rfl rfl ?_)
  intro L' h' tk' cells F' N' Y'
  obtain ⟨oc, he, hoc⟩ := CellsAre.one Y'
  subst he
  clear Y'
  have hoc' : oc.data = .cell none := hoc
  clear hoc
  try dsimp only
  try dsimp only [envOfC] at F' N'
  k_steps
  rename Fr _ _ _ _ => F0
  rename News _ _ _ _ => N0
  unfold Stop
  refine drawn_use F0 N0 X T rfl (by ktr_room) (by ktr_units) (by is_list) hn hi ?_
  intro a cd dd n1 n2 v1 v2 cs ds h9 tk9 hv1 hv2 hc1 hc2 hd1 hd2 F1 N1
  clear F0 N0
  dsimp only
  k_steps
  rename Fr _ _ _ _ => F1
  rename News _ _ _ _ => N1
  simp only [List.cons_append, List.nil_append] at N1
  unfold Stop
  refine LC_list (T := cs) (V := InEl id) (G := SgEl id) F1 N1 rfl (by with_unfolding_all rfl) (by decide) (by rfl) (by decide) (by rfl) (fun Q' h9 => ?_) (.tail _ (.head _)) (by rw [PySem.sizeLine_eq]; omega) (ints_each hv1) ?_ ?_
  · k_steps
    exact h9
  · intro c v I oI C oC D m₂ ys h tk E' hc hv hC hx F2 N2 off ne Qx hQ
    obtain ⟨u, rfl⟩ := hv
    have hc9 := hc1 c hc
    clear F1 N1 
    dsimp only [id] at hx
    k_steps
    exact hQ _ _ _ ⟨_, rfl⟩ (by assumption) (by assumption)
  · intro ys D h2 tk2 hE F2 N2 o2
    clear F1 N1
    dsimp only
    k_steps
    rename Fr _ _ _ _ => F3
    rename News _ _ _ _ => N3
    unfold Stop
    refine LC_list (T := cs) (V := InEl id) (G := InEl (· % 256)) F3 N3 rfl (by with_unfolding_all rfl) (by decide) (by rfl) (by decide) (by rfl) (fun Q' h9 => ?_) (.tail _ (.tail _ (.head _))) (by rw [PySem.sizeLine_eq]; omega) (ints_each hv1) ?_ ?_
    · k_steps
      exact h9
    · intro c v I oI C oC D m₂ ys h tk E' hc hv hC hx F2 N2 off ne Qx hQ
      obtain ⟨u, rfl⟩ := hv
      have hc9 := hc1 c hc
      clear F3 N3
      dsimp only [id] at hx
      k_steps
      exact hQ _ _ _ ⟨_, congrArg (Value.int · _) (fmod_nat c 256)⟩ (by assumption) (by assumption)
    · intro ys2 D2 h3 tk3 hE2 F4 N4 o4
      clear F3 N3 o2
      dsimp only
      have hm9 : ∀ c ∈ cs, c % 256 < 256 := fun c _ => Nat.mod_lt _ (by decide)
      k_steps
      rename Fr _ _ _ _ => F5
      rename News _ _ _ _ => N5
      unfold Stop
      refine For_invVF F5 rfl rfl ?_ (fun _ => rfl) PassesOwn.never
      have hc6 : ∀ c ∈ cs.map (· % 256), c < 256 := by
        intro c hc
        obtain ⟨d, _, rfl⟩ := List.mem_map.mp hc
        exact Nat.mod_lt _ (by decide)
      have hcl6 : (cs.map (· % 256)).length ≤ 12 := by rw [List.length_map]; exact hc2
      rename _ = Data.cell (some (Value.int (256 * ns.sum + 256) _)) => hcell
      refine nameX_L F5 rfl ?_
      refine law_loop (cd := cd) (ce := L' + 1) (fun pre => leftN true pre cs) (fun pre => leftN false pre (cs.map (· % 256))) rfl rfl hv2 F5 N5 (by k_memK) (by k_memK) (by k_memK) (by simp only [left_nil, List.map_id]; rfl) (by simp only [left_nil]; rfl) ?_ ?_
      · intro pre post d t a1 b1 u h9 tk9 own hds hoff F6 N6 Qx hQ
        have hpre : pre.length ≤ 6 := by rw [hds] at hd2; simp at hd2; omega
        have h8 : ∀ d ∈ pre, d < 8 := fun e he => hd1 e (by rw [hds]; simp [he])
        have hd8 : d < 8 := hd1 d (by rw [hds]; simp)
        have hT := stepT_left hc1 hd8 h8
        have hO := stepO_left hc6 hd8 h8
        have hlT : (leftN true pre cs).length ≤ 6144 := left_len hpre hc2
        have hlO : (leftN false pre (cs.map (· % 256))).length ≤ 6144 := left_len hpre hcl6
        have hbT : ∀ c ∈ leftN true pre cs, c < 60000 := left_lt hc1
        have hbO : ∀ c ∈ leftN false pre (cs.map (· % 256)), c < 256 := left_ltO hc6
        have hbO' : ∀ c ∈ leftN false pre (cs.map (· % 256)), c < 55296 := fun c hc => Nat.lt_trans (hbO c hc) (by decide)
        clear F5 N5 h
        dsimp only [envOfC] at F6 N6
        dsimp only at hQ
        generalize hTT : leftN true pre cs = TT at *
        generalize hOO : leftN false pre (cs.map (· % 256)) = OO at *
        generalize hTN : leftN true (pre ++ [d]) cs = TN at *
        generalize hON : leftN false (pre ++ [d]) (cs.map (· % 256)) = ON at *
        k_steps
        · rename Fr _ _ _ _ => FZ
          rename News _ _ _ _ => NZ
          have ed : d = 0 ∨ d = 1 := by omega
          have hT' : dotsGo true (fixGo TT) = TN := by rcases ed with rfl | rfl <;> exact hT
          have hO' : dotsGo true OO = ON := by rcases ed with rfl | rfl <;> exact hO
          exact hQ _ _ _ _ _ _ _ _ FZ NZ (by k_memK) (by k_memK) (by k_memK) (by (intro p hp; kst_mem)) rfl rfl (congrArg List.toArray hT') (congrArg oct hO') (fun z z1 z2 z3 => by simp only [if_neg z1, if_neg z2, if_neg z3])
        · rename Fr _ _ _ _ => FZ
          rename News _ _ _ _ => NZ
          have ed : d = 2 := by omega
          rw [ed] at hT hO
          exact hQ _ _ _ _ _ _ _ _ FZ NZ (by k_memK) (by k_memK) (by k_memK) (by (intro p hp; kst_mem)) rfl rfl (congrArg List.toArray hT) (congrArg oct hO) (fun z z1 z2 z3 => by simp only [if_neg z1, if_neg z2, if_neg z3])
        · have ed : d = 3 := by omega
          rw [ed] at hT hO
          rename Fr _ _ _ _ => F7
          rename News _ _ _ _ => N7
          unfold Stop
          refine LC_text (T := TT) (G := SgEl (· % 128)) F7 N7 rfl (by with_unfolding_all rfl) (by decide) (by rfl) (by decide) (by rfl) (fun Q' h9 => nameX_L F7 rfl h9) (by rw [PySem.sizeLine_eq]; omega) ?_ ?_
          · intro c v I oI C oC D m₂ ys h tk E' hc hv hC hx F8 N8 off ne Qy hR
            obtain ⟨u, rfl⟩ := hv
            have hc9 := hbT c hc
            clear F7 N7 hQ
            k_steps
            exact hR _ _ _ ⟨_, congrArg (fun n => Value.str ⟨#[n]⟩ _) (congrArg Int.toNat (fmod_nat c 128))⟩ (by assumption) (by assumption)
          · intro ys D h2 tk2 hE F8 N8 o8
            clear F7 N7
            dsimp only
            k_steps
            rename Fr _ _ _ _ => F7
            rename News _ _ _ _ => N7
            unfold Stop
            refine LC_oct (T := OO) (G := InEl (· % 128)) F7 N7 rfl (by with_unfolding_all rfl) (by decide) (by rfl) (by decide) (by rfl) (fun Q' h9 => nameX_L F7 rfl h9) (by rw [PySem.sizeLine_eq]; omega) hbO ?_ ?_
            · intro c v I oI C oC D m₂ ys h tk E' hc hv hC hx F8 N8 off ne Qy hR
              obtain ⟨u, rfl⟩ := hv
              have hc9 := hbO c hc
              clear F7 N7 hQ
              k_steps
              exact hR _ _ _ ⟨_, congrArg (Value.int · _) (fmod_nat c 128)⟩ (by assumption) (by assumption)
            · intro ys D h2 tk2 hE F8 N8 o8
              clear F7 N7
              dsimp only
              have hr9 : ∀ c ∈ OO, (· % 128) c < 256 := by
                intro c hc
                have := hbO c hc
                first | (show c % _ < 256; omega) | exact altN_lt this | exact hidC_lt this | exact hidM_lt this
              k_steps
              rename Fr _ _ _ _ => FZ
              rename News _ _ _ _ => NZ
              exact hQ _ _ _ _ _ _ _ _ FZ NZ (by k_memK) (by k_memK) (by k_memK) (by (intro p hp; kst_mem)) rfl rfl (congrArg List.toArray hT) (congrArg oct hO) (fun z z1 z2 z3 => by simp only [if_neg z1, if_neg z2, if_neg z3])
        · have ed : d = 4 := by omega
          rw [ed] at hT hO
          rename Fr _ _ _ _ => F7
          rename News _ _ _ _ => N7
          unfold Stop
          refine LC_text (T := TT) (G := SgEl (· % 32)) F7 N7 rfl (by with_unfolding_all rfl) (by decide) (by rfl) (by decide) (by rfl) (fun Q' h9 => nameX_L F7 rfl h9) (by rw [PySem.sizeLine_eq]; omega) ?_ ?_
          · intro c v I oI C oC D m₂ ys h tk E' hc hv hC hx F8 N8 off ne Qy hR
            obtain ⟨u, rfl⟩ := hv
            have hc9 := hbT c hc
            clear F7 N7 hQ
            k_steps
            exact hR _ _ _ ⟨_, rfl⟩ (by assumption) (by assumption)
          · intro ys D h2 tk2 hE F8 N8 o8
            clear F7 N7
            dsimp only
            k_steps
            rename Fr _ _ _ _ => F7
            rename News _ _ _ _ => N7
            unfold Stop
            refine LC_oct (T := OO) (G := InEl (· % 32)) F7 N7 rfl (by with_unfolding_all rfl) (by decide) (by rfl) (by decide) (by rfl) (fun Q' h9 => nameX_L F7 rfl h9) (by rw [PySem.sizeLine_eq]; omega) hbO ?_ ?_
            · intro c v I oI C oC D m₂ ys h tk E' hc hv hC hx F8 N8 off ne Qy hR
              obtain ⟨u, rfl⟩ := hv
              have hc9 := hbO c hc
              clear F7 N7 hQ
              k_steps
              exact hR _ _ _ ⟨_, congrArg (Value.int · _) (far_ctrl c _)⟩ (by assumption) (by assumption)
            · intro ys D h2 tk2 hE F8 N8 o8
              clear F7 N7
              dsimp only
              have hr9 : ∀ c ∈ OO, (· % 32) c < 256 := by
                intro c hc
                have := hbO c hc
                first | (show c % _ < 256; omega) | exact altN_lt this | exact hidC_lt this | exact hidM_lt this
              k_steps
              rename Fr _ _ _ _ => FZ
              rename News _ _ _ _ => NZ
              exact hQ _ _ _ _ _ _ _ _ FZ NZ (by k_memK) (by k_memK) (by k_memK) (by (intro p hp; kst_mem)) rfl rfl (congrArg List.toArray hT) (congrArg oct hO) (fun z z1 z2 z3 => by simp only [if_neg z1, if_neg z2, if_neg z3])
        · have ed : d = 5 := by omega
          rw [ed] at hT hO
          rename Fr _ _ _ _ => F7
          rename News _ _ _ _ => N7
          unfold Stop
          refine LC_text (T := TT) (G := SgEl hidC) F7 N7 rfl (by with_unfolding_all rfl) (by decide) (by rfl) (by decide) (by rfl) (fun Q' h9 => nameX_L F7 rfl h9) (by rw [PySem.sizeLine_eq]; omega) ?_ ?_
          · intro c v I oI C oC D m₂ ys h tk E' hc hv hC hx F8 N8 off ne Qy hR
            obtain ⟨u, rfl⟩ := hv
            have hc9 := hbT c hc
            clear F7 N7 hQ
            k_steps
            · exact hR _ _ _ ⟨_, congrArg (fun n => Value.str ⟨#[n]⟩ _) (hidC_yes (by assumption)).symm⟩ (by assumption) (by assumption)
            · exact hR _ _ _ ⟨_, congrArg (fun n => Value.str ⟨#[n]⟩ _) (hidC_no (by assumption)).symm⟩ (by assumption) (by assumption)
          · intro ys D h2 tk2 hE F8 N8 o8
            clear F7 N7
            dsimp only
            k_steps
            rename Fr _ _ _ _ => F7
            rename News _ _ _ _ => N7
            unfold Stop
            refine LC_oct (T := OO) (G := InEl hidC) F7 N7 rfl (by with_unfolding_all rfl) (by decide) (by rfl) (by decide) (by rfl) (fun Q' h9 => nameX_L F7 rfl h9) (by rw [PySem.sizeLine_eq]; omega) hbO ?_ ?_
            · intro c v I oI C oC D m₂ ys h tk E' hc hv hC hx F8 N8 off ne Qy hR
              obtain ⟨u, rfl⟩ := hv
              have hc9 := hbO c hc
              clear F7 N7 hQ
              k_steps
              · exact hR _ _ _ ⟨_, congrArg (Value.int · _) (by rw [hidC_yes (by assumption)]; exact far_alt hc9 _)⟩ (by assumption) (by assumption)
              · exact hR _ _ _ ⟨_, congrArg (Value.int · _) (by rw [hidC_no (by assumption)])⟩ (by assumption) (by assumption)
            · intro ys D h2 tk2 hE F8 N8 o8
              clear F7 N7
              dsimp only
              have hr9 : ∀ c ∈ OO, hidC c < 256 := by
                intro c hc
                have := hbO c hc
                first | (show c % _ < 256; omega) | exact altN_lt this | exact hidC_lt this | exact hidM_lt this
              k_steps
              rename Fr _ _ _ _ => FZ
              rename News _ _ _ _ => NZ
              exact hQ _ _ _ _ _ _ _ _ FZ NZ (by k_memK) (by k_memK) (by k_memK) (by (intro p hp; kst_mem)) rfl rfl (congrArg List.toArray hT) (congrArg oct hO) (fun z z1 z2 z3 => by simp only [if_neg z1, if_neg z2, if_neg z3])
        · have ed : d = 6 := by omega
          rw [ed] at hT hO
          rename Fr _ _ _ _ => F7
          rename News _ _ _ _ => N7
          unfold Stop
          refine LC_text (T := TT) (G := SgEl hidM) F7 N7 rfl (by with_unfolding_all rfl) (by decide) (by rfl) (by decide) (by rfl) (fun Q' h9 => nameX_L F7 rfl h9) (by rw [PySem.sizeLine_eq]; omega) ?_ ?_
          · intro c v I oI C oC D m₂ ys h tk E' hc hv hC hx F8 N8 off ne Qy hR
            obtain ⟨u, rfl⟩ := hv
            have hc9 := hbT c hc
            clear F7 N7 hQ
            k_steps
            · exact hR _ _ _ ⟨_, congrArg (fun n => Value.str ⟨#[n]⟩ _) (hidM_yes (by assumption)).symm⟩ (by assumption) (by assumption)
            · exact hR _ _ _ ⟨_, congrArg (fun n => Value.str ⟨#[n]⟩ _) (hidM_no (by assumption)).symm⟩ (by assumption) (by assumption)
          · intro ys D h2 tk2 hE F8 N8 o8
            clear F7 N7
            dsimp only
            k_steps
            rename Fr _ _ _ _ => F7
            rename News _ _ _ _ => N7
            unfold Stop
            refine LC_oct (T := OO) (G := InEl hidM) F7 N7 rfl (by with_unfolding_all rfl) (by decide) (by rfl) (by decide) (by rfl) (fun Q' h9 => nameX_L F7 rfl h9) (by rw [PySem.sizeLine_eq]; omega) hbO ?_ ?_
            · intro c v I oI C oC D m₂ ys h tk E' hc hv hC hx F8 N8 off ne Qy hR
              obtain ⟨u, rfl⟩ := hv
              have hc9 := hbO c hc
              clear F7 N7 hQ
              k_steps
              · exact hR _ _ _ ⟨_, congrArg (Value.int · _) (by rw [hidM_yes (by assumption)]; exact far_alt hc9 _)⟩ (by assumption) (by assumption)
              · exact hR _ _ _ ⟨_, congrArg (Value.int · _) (by rw [hidM_no (by assumption)])⟩ (by assumption) (by assumption)
            · intro ys D h2 tk2 hE F8 N8 o8
              clear F7 N7
              dsimp only
              have hr9 : ∀ c ∈ OO, hidM c < 256 := by
                intro c hc
                have := hbO c hc
                first | (show c % _ < 256; omega) | exact altN_lt this | exact hidC_lt this | exact hidM_lt this
              k_steps
              rename Fr _ _ _ _ => FZ
              rename News _ _ _ _ => NZ
              exact hQ _ _ _ _ _ _ _ _ FZ NZ (by k_memK) (by k_memK) (by k_memK) (by (intro p hp; kst_mem)) rfl rfl (congrArg List.toArray hT) (congrArg oct hO) (fun z z1 z2 z3 => by simp only [if_neg z1, if_neg z2, if_neg z3])
        · have ed : d = 7 := by omega
          rw [ed] at hT hO
          rename Fr _ _ _ _ => F7
          rename News _ _ _ _ => N7
          unfold Stop
          refine LC_text (T := TT) (G := SgEl altN) F7 N7 rfl (by with_unfolding_all rfl) (by decide) (by rfl) (by decide) (by rfl) (fun Q' h9 => nameX_L F7 rfl h9) (by rw [PySem.sizeLine_eq]; omega) ?_ ?_
          · intro c v I oI C oC D m₂ ys h tk E' hc hv hC hx F8 N8 off ne Qy hR
            obtain ⟨u, rfl⟩ := hv
            have hc9 := hbT c hc
            clear F7 N7 hQ
            k_steps
            exact hR _ _ _ ⟨_, rfl⟩ (by assumption) (by assumption)
          · intro ys D h2 tk2 hE F8 N8 o8
            clear F7 N7
            dsimp only
            k_steps
            rename Fr _ _ _ _ => F7
            rename News _ _ _ _ => N7
            unfold Stop
            refine LC_oct (T := OO) (G := InEl altN) F7 N7 rfl (by with_unfolding_all rfl) (by decide) (by rfl) (by decide) (by rfl) (fun Q' h9 => nameX_L F7 rfl h9) (by rw [PySem.sizeLine_eq]; omega) hbO ?_ ?_
            · intro c v I oI C oC D m₂ ys h tk E' hc hv hC hx F8 N8 off ne Qy hR
              obtain ⟨u, rfl⟩ := hv
              have hc9 := hbO c hc
              clear F7 N7 hQ
              k_steps
              exact hR _ _ _ ⟨_, congrArg (Value.int · _) (far_alt hc9 _)⟩ (by assumption) (by assumption)
            · intro ys D h2 tk2 hE F8 N8 o8
              clear F7 N7
              dsimp only
              have hr9 : ∀ c ∈ OO, altN c < 256 := by
                intro c hc
                have := hbO c hc
                first | (show c % _ < 256; omega) | exact altN_lt this | exact hidC_lt this | exact hidM_lt this
              k_steps
              rename Fr _ _ _ _ => FZ
              rename News _ _ _ _ => NZ
              exact hQ _ _ _ _ _ _ _ _ FZ NZ (by k_memK) (by k_memK) (by k_memK) (by (intro p hp; kst_mem)) rfl rfl (congrArg List.toArray hT) (congrArg oct hO) (fun z z1 z2 z3 => by simp only [if_neg z1, if_neg z2, if_neg z3])
      · intro a1 b1 u h9 tk9 F6 N6
        have hlT : (leftN true ds cs).length ≤ 6144 := left_len hd2 hc2
        have hlO : (leftN false ds (cs.map (· % 256))).length ≤ 6144 := left_len hd2 hcl6
        have hbT : ∀ c ∈ leftN true ds cs, c < 60000 := left_lt hc1
        have hbO : ∀ c ∈ leftN false ds (cs.map (· % 256)), c < 256 := left_ltO hc6
        have hc6' : ∀ c ∈ cs.map (· % 256), c < 55296 := fun c hc => Nat.lt_trans (hc6 c hc) (by decide)
        clear F5 N5
        dsimp only [envOfC] at F6 N6
        dsimp only
        k_steps
        rename Fr _ _ _ _ => F7
        rename News _ _ _ _ => N7
        unfold Stop
        refine left_use true F7 N7 X T rfl (by ktr_room) (by ktr_units) (by first | is_list | exact News.isList N7 (by k_memK)) (by first | is_list | exact News.isList N7 (by k_memK)) (by first | is_list | exact News.isList N7 (by k_memK)) hc1 hc2 hd1 hd2 hv1 (.cons _ _ (.cons _ _ .nil)) hv2 ?_
        intro lf xs nx h10 tk10 hEl F8 N8
        clear F7 N7
        dsimp only
        k_steps
        rename Fr _ _ _ _ => F7
        rename News _ _ _ _ => N7
        unfold Stop
        refine LC_list (T := cs) (V := InEl id) (G := InEl (· % 256)) F7 N7 rfl (by with_unfolding_all rfl) (by decide) (by rfl) (by decide) (by rfl) (fun Q' h9 => nameX_L F7 rfl h9) (k := n1) (vs := v1) (by k_memK) (by rw [PySem.sizeLine_eq]; omega) (ints_each hv1) ?_ ?_
        · intro c v I oI C oC D m₂ ys h tk E' hc hv hC hx F8 N8 off ne Qx hQ
          obtain ⟨u, rfl⟩ := hv
          have hc9 := hc1 c hc
          clear F7 N7
          dsimp only [id] at hx
          k_steps
          exact hQ _ _ _ ⟨_, congrArg (Value.int · _) (fmod_nat c 256)⟩ (by assumption) (by assumption)
        · intro ys3 D3 h11 tk11 hE3 F8 N8 o8
          clear F7 N7
          dsimp only
          k_steps
          rename Fr _ _ _ _ => F7
          rename News _ _ _ _ => N7
          unfold Stop
          refine left_use false F7 N7 X T rfl (by ktr_room) (by ktr_units) (vs := ys3) (by first | is_list | exact News.isList N7 (by k_memK)) (by first | is_list | exact News.isList N7 (by k_memK)) (by first | is_list | exact News.isList N7 (by k_memK)) hc6' hcl6 hd1 hd2 hE3.ints (.cons _ _ .nil) hv2 ?_
          intro bs xb nb h12 tk12 hEb F8 N8
          clear F7 N7 hE3
          dsimp only
          k_steps
          rename Fr _ _ _ _ => F7
          rename News _ _ _ _ => N7
          unfold Stop
          refine LC_list (T := leftN true ds cs) (V := InEl id) (G := SgEl id) F7 N7 rfl (by with_unfolding_all rfl) (by decide) (by rfl) (by decide) (by rfl) (fun Q' h9 => nameX_L F7 rfl h9) (k := nx) (vs := xs) (by k_memK) (by rw [PySem.sizeLine_eq]; omega) hEl ?_ ?_
          · intro c v I oI C oC D m₂ ys h tk E' hc hv hC hx F8 N8 off ne Qx hQ
            obtain ⟨u, rfl⟩ := hv
            have hc9 := hbT c hc
            clear F7 N7
            dsimp only [id] at hx
            k_steps
            exact hQ _ _ _ ⟨_, rfl⟩ (by assumption) (by assumption)
          · intro ys4 D4 h13 tk13 hE4 F8 N8 o9
            clear F7 N7
            have hb9 : ∀ c ∈ leftN false ds (cs.map (· % 256)), id c < 256 := hbO
            dsimp only
            k_steps
            · rename (_ != _) = true => hb
              exact absurd hb (by rw [str_bne]; decide)
            · rename (_ != _) = true => hb
              exact absurd hb (by rw [oct_bne]; decide)
            rename Fr _ _ _ _ => F7
            rename News _ _ _ _ => N7
            unfold Stop
            refine LCg.Assign_ListComp_U (F₀ := F7) rfl (by with_unfolding_all rfl) (by with_unfolding_all rfl) (by decide) (by rfl) (by decide) (by rfl) (by rfl) (by rfl) ?_
            k_steps
            rename Fr _ _ _ _ => F7
            rename News _ _ _ _ => N7
            rename Each Thing (_ ++ _) _ => hET
            unfold Stop
            refine src_tups (V := Thing) (fun c => decide (c < 32 ∨ c = 127)) isMark F7 N7 rfl (by k_memK) (by rw [PySem.sizeLine_eq, List.length_append]; omega) hET ?_ ?_
            · intro c v I oI C oC D m₂ ys acc h tk E' hc hv hC hx F8 N8 ne Qx hQ
              clear F7 N7 hET
              simp only [List.cons_append, List.nil_append] at N8 hQ
              rcases hv with ⟨t, rfl⟩ | ⟨t, rfl⟩
              · k_steps
                rename News _ _ _ _ => NZ
                simp only [ctI, mkI] at NZ
                exact hQ _ _ _ (by assumption) NZ ⟨by k_ne, by k_ne, by k_ne⟩
              · k_steps
                rename News _ _ _ _ => NZ
                simp only [ctI, mkI] at NZ
                exact hQ _ _ _ (by assumption) NZ ⟨by k_ne, by k_ne, by k_ne⟩
            · intro ysJ accJ gJ hJ DJ hJ1 tkJ FJ NJ oJ
              clear F7 N7 hET
              dsimp only
              have NJ2 := news_swap (a := [(DJ, _)]) NJ
              clear NJ
              simp only [List.cons_append, List.nil_append] at NJ2
              k_steps
              rename Fr _ _ _ _ => F7
              rename News _ _ _ _ => N7
              unfold Stop
              refine LCg.ListComp_U (F₀ := F7) (by with_unfolding_all rfl) (by decide) (by rfl) (by decide) (by rfl) ?_
              refine LCg.ListComp_U (F₀ := F7) (by with_unfolding_all rfl) (by decide) (by rfl) (by decide) (by rfl) ?_
              k_steps
              rename Fr _ _ _ _ => F8
              rename News _ _ _ _ => N8
              rename Each (InEl id) (_ ++ _) _ => hEA
              unfold Stop
              have hzA : (leftN true ds cs ++ leftN false ds (cs.map (· % 256))).length ≤ 20000 := by rw [List.length_append]; omega
              have hbA : ∀ c ∈ leftN true ds cs ++ leftN false ds (cs.map (· % 256)), c < 60000 := by
                intro c hc
                rcases List.mem_append.mp hc with hc | hc
                · exact hbT c hc
                · exact Nat.lt_trans (hbO c hc) (by decide)
              generalize leftN true ds cs ++ leftN false ds (cs.map (· % 256)) = TA at hEA hzA hbA hJ
              refine src_list (V := InEl id) (G := InEl kindN) F8 N8 rfl (by k_memK) (by rw [PySem.sizeLine_eq]; omega) hEA ?_ ?_
              · intro c v I oI C oC D m₂ ys h tk E' hc hv hC hx F9 N9 off ne Qx hQ
                obtain ⟨u, rfl⟩ := hv
                have hc9 : c < 1000000 := by have := hbA c hc; omega
                clear F8 N8
                dsimp only [id] at hx
                k_steps
                exact hQ _ _ _ ⟨_, rfl⟩ (by assumption) (by assumption)
              · intro ysK gK hK DK hK1 tkK FK NK oK
                clear F8 N8 hEA
                dsimp only
                refine src_tups (V := InEl kindN) (fun c => decide (kindN c = 0)) (fun c => decide (kindN c = 1)) FK NK rfl (.head _) (by rw [PySem.sizeLine_eq]; omega) hK ?_ ?_
                · intro c v I oI C oC D m₂ ys acc h tk E' hc hv hC hx F8 N8 ne Qx hQ
                  clear FK NK
                  simp only [List.cons_append, List.nil_append] at N8 hQ
                  obtain ⟨u, rfl⟩ := hv
                  k_steps
                  rename News _ _ _ _ => NZ
                  simp only [beq_zero, beq_one] at NZ
                  exact hQ _ _ _ (by assumption) NZ ⟨by k_ne, by k_ne, by k_ne⟩
                · intro ysL accL gL hL DL hL1 tkL FL NL oL
                  dsimp only
                  refine tups_eq (acc := accJ) (acc' := accL) NL (ys := ysJ) (k := ysJ.length) (.tail _ (List.mem_append_right _ (by k_memK))) (.head _) ?_ (fun p hp => .tail _ (List.mem_append_left _ hp)) hJ hL ?_ ?_ ?_
                  · intro p hp
                    refine .tail _ (List.mem_append_right _ ?_)
                    kst_mem
                  · refine List.map_congr_left fun c _ => ?_
                    exact kind_pair c
                  · simp only [units_deeper]; rw [cLine_is]; omega
                  · exact h _ _ (Fr.keep FL)
end Mine
end

open PySem PySem.W PySem.Spec PySem.Calls PyProof.Rows
set_option maxHeartbeats 8000000 in
theorem PySem.Challenge.cw_pk0020_01_holds : PySem.Challenge.rw_pk0020_01.Holds := by
  refine Mine.hd ?_
  intro w s₀ s₁ mg mb G Y fa o pm cd doc dV kV ho hd hcd hD hmg hg args vals as hpre hlay hrd hwl hlo
  have KX := kIn_of Y
  have X := (Ground.X G).1
  have V := (Ground.X G).2
  refine Ground.open G ?_
  intro T B D TE TW
  w_strict (wrow_args hpre hlay hrd hwl hlo)
  refine enter_call ?_
  have e1 : mg (Str.ofString "law") = some (.ref 182) := mg_of KX T.g (by k_is)
  have e2 : fa = 182 := by
    have q : mg (Str.ofString "law") = some (.ref fa) := hmg
    rw [e1] at q
    cases q; rfl
  subst e2
  refine codeAny_mono ?_ (fun _ _ g => GoodW.toG g)
  refine Mine.law_code ⟨KX, _, _, _, _, topRead_of T⟩ rfl (by decide) (by decide) (by assumption) (by assumption) (by omega) ?_
  intro h' tk st
  refine ⟨.inl ⟨.bool true, .bool true, [], rfl, raisesW_false ?_, .bool true, ?_, unshared_nil⟩, st, rfl, hg⟩
  · wrow_none_raised
  · wrow_post
