import PyProof.Rows.All
import Wide.All
import OpenK.AllK
import Wide.FinOn
import PySem.Challenge.RW_ah6016_01
open PySem PySem.W PyProof.Rows
set_option Elab.async false
set_option maxRecDepth 100000
set_option maxHeartbeats 16000000
namespace Mine
open_top lawTop for PySem.Challenge.rw_ah6016_01
/- Base3 -/
noncomputable abbrev LOO : List Str := looseW lawTop.view_39
      [Str.ofString "to_jd_gregorian", Str.ofString "from_jd_gregorian", Str.ofString "to_jd_islamic",
        Str.ofString "from_jd_islamic", Str.ofString "from_jd_julian", Str.ofString "from_jd_armenian",
        Str.ofString "to_jd_coptic", Str.ofString "from_jd_coptic", Str.ofString "to_jd_hebrew",
        Str.ofString "from_jd_hebrew", Str.ofString "from_jd_indian_civil"]
/-- what a call of the def at f does, told to any caller with n frames of room: Rt says what the caller may take for granted behind it -/
def Called (n : Nat) (f : Addr) (pre : Prop) (vs : List Value) (Rt : Heap → Addr → (Str → Option Value) → List (Addr × Obj) → Shared → (Value → Shared → Prop) → Prop) : Prop :=
  ∀ (w : World) (mean : ExcName → Option Value) (mg mb : Str → Option Value) (news : List (Addr × Obj))
    (dp un : Nat) (gd : Option (List Code)) (cn : Str) (cs : Scope) (a : Addr) (ccd : Value) (cl : List (Str × Addr)) (outer : List Env) (A₀ : Around) (base h₀ : Heap) (L : Addr) (m : Str → Option Value) (s : Shared) (Q E : Value → Shared → Prop),
    Below A₀ base outer h₀ → Fr h₀ L s.heap m → (lawTop.heap_39 w.params).In h₀ → News h₀ L s.heap news → Top lawTop.view_39 LOO mean mg mb h₀ → cs.kind = .function → pre → dp + n < recursionLimit → un + 8 * n < cLine →
    Rt h₀ L m news s Q →
      wpAny (model PySem.Challenge.rw_ah6016_01.row.prog w) (ktrTop dp un gd cn cs L a ccd cl outer) (call (.ref f) vs) Q E s
section
variable {n : Nat} {f : Addr} {pre : Prop} {vs : List Value} {Rt : Heap → Addr → (Str → Option Value) → List (Addr × Obj) → Shared → (Value → Shared → Prop) → Prop} {w : World} {mean : ExcName → Option Value} {mg mb : Str → Option Value} {news : List (Addr × Obj)}
    {dp un : Nat} {gd : Option (List Code)} {cn : Str} {cs : Scope} {a : Addr} {ccd : Value} {cl : List (Str × Addr)} {outer : List Env} {A₀ : Around} {base h₀ : Heap} {L : Addr} {m : Str → Option Value} {s : Shared} {Q E : Value → Shared → Prop}
theorem Called.use (c : Called n f pre vs Rt) (B : Below A₀ base outer h₀) (F : Fr h₀ L s.heap m) (X : (lawTop.heap_39 w.params).In h₀) (N : News h₀ L s.heap news) (T : Top lawTop.view_39 LOO mean mg mb h₀) (hk : cs.kind = .function) (hp : pre) (hd : dp + n < recursionLimit) (hu : un + 8 * n < cLine)
    (hR : Rt h₀ L m news s Q) : wpAny (model PySem.Challenge.rw_ah6016_01.row.prog w) (ktrTop dp un gd cn cs L a ccd cl outer) (call (.ref f) vs) Q E s :=
  c _ _ _ _ _ _ _ _ _ _ _ _ _ _ _ _ _ _ _ _ _ _ B F X N T hk hp hd hu hR
end
def RtI (P : Int → Prop) (h₀ : Heap) (L : Addr) (m : Str → Option Value) (news : List (Addr × Obj)) (s : Shared) (Q : Value → Shared → Prop) : Prop :=
  ∀ (r : Int) (t : Tok) (h' : Heap) (tk' : Nat), P r → Fr h₀ L h' m → News h₀ L h' news → Q (.int r t) { s with heap := h', toks := tk' }
def RtB (P : Bool → Prop) (h₀ : Heap) (L : Addr) (m : Str → Option Value) (news : List (Addr × Obj)) (s : Shared) (Q : Value → Shared → Prop) : Prop :=
  ∀ (r : Bool) (h' : Heap) (tk' : Nat), P r → Fr h₀ L h' m → News h₀ L h' news → Q (.bool r) { s with heap := h', toks := tk' }
abbrev tup3 (x y z : Int) (t1 t2 t3 : Tok) (c : Nat) : Obj := { cls := .type "tuple", data := .seq #[.int x t1, .int y t2, .int z t3] c }
/-- a new tuple of three ints -/
def RtT (P : Int → Int → Int → Prop) (h₀ : Heap) (L : Addr) (m : Str → Option Value) (news : List (Addr × Obj)) (s : Shared) (Q : Value → Shared → Prop) : Prop :=
  ∀ (x y z : Int) (t1 t2 t3 : Tok) (c : Nat) (D : Addr) (h' : Heap) (tk' : Nat), P x y z → Fr h₀ L h' m → News h₀ L h' ((D, tup3 x y z t1 t2 t3 c) :: news) → (∀ p ∈ news, p.1 < D) → Q (.ref D) { s with heap := h', toks := tk' }
section
variable {h₀ h' : Heap} {L D : Addr} {m : Str → Option Value} {news : List (Addr × Obj)} {s : Shared} {Q : Value → Shared → Prop} {t t1 t2 t3 : Tok} {tk' c : Nat}
theorem RtI.use {P : Int → Prop} {r : Int} (hret : RtI P h₀ L m news s Q) (hP : P r) (F : Fr h₀ L h' m) (N : News h₀ L h' news) : Q (.int r t) { s with heap := h', toks := tk' } := hret r t h' tk' hP F N
theorem RtB.use {P : Bool → Prop} {r : Bool} (hret : RtB P h₀ L m news s Q) (hP : P r) (F : Fr h₀ L h' m) (N : News h₀ L h' news) : Q (.bool r) { s with heap := h', toks := tk' } := hret r h' tk' hP F N
theorem RtT.use {P : Int → Int → Int → Prop} {x y z : Int} (hret : RtT P h₀ L m news s Q) (F : Fr h₀ L h' m) (N : News h₀ L h' ((D, tup3 x y z t1 t2 t3 c) :: news)) (hl : ∀ p ∈ news, p.1 < D) (hP : P x y z) : Q (.ref D) { s with heap := h', toks := tk' } := hret x y z t1 t2 t3 c D h' tk' hP F N hl
theorem RtI.mk {P : Int → Prop} (h : ∀ (r : Int) (t : Tok) (h' : Heap) (tk' : Nat), P r → Fr h₀ L h' m → News h₀ L h' news → Q (.int r t) { s with heap := h', toks := tk' }) : RtI P h₀ L m news s Q := h
theorem RtB.mk {P : Bool → Prop} (h : ∀ (r : Bool) (h' : Heap) (tk' : Nat), P r → Fr h₀ L h' m → News h₀ L h' news → Q (.bool r) { s with heap := h', toks := tk' }) : RtB P h₀ L m news s Q := h
theorem RtT.mk {P : Int → Int → Int → Prop} (h : ∀ (x y z : Int) (t1 t2 t3 : Tok) (c : Nat) (D : Addr) (h' : Heap) (tk' : Nat), P x y z → Fr h₀ L h' m → News h₀ L h' ((D, tup3 x y z t1 t2 t3 c) :: news) → (∀ p ∈ news, p.1 < D) → Q (.ref D) { s with heap := h', toks := tk' }) : RtT P h₀ L m news s Q := h
end
theorem allLt_all {d : Addr} : ∀ {l : List (Addr × Obj)}, AllLt d l → ∀ p ∈ l, p.1 < d
  | [], _, _, hp => nomatch hp
  | _ :: _, h, p, hp => by
    rcases List.mem_cons.mp hp with rfl | hp
    · exact h.1
    · exact allLt_all h.2 p hp
theorem newsDrop1 {h₀ h : Heap} {L : Addr} {p q : Addr × Obj} {news : List (Addr × Obj)} (N : News h₀ L h (p :: q :: news)) : News h₀ L h (p :: news) := fun x hx => by
  rcases List.mem_cons.mp hx with rfl | hx
  · exact N _ List.mem_cons_self
  · exact N x (List.mem_cons_of_mem _ (List.mem_cons_of_mem _ hx))
section
variable {prog : Program} {w : World} {A : Around} {E : Value → Shared → Prop} {s : Shared} {a b : Int} {t u : Tok} {Q : Value → Shared → Prop}
theorem fdivL (hb : 0 < b) (hp : b.natAbs < 1073741824) (h : Q (.int (a / b) s.toks) { s with toks := s.toks + 1 }) : wpAny (model prog w) A (binaryOp .FloorDiv (.int a t) (.int b u)) Q E s :=
  floordiv_int (by omega) (by rw [Int.fdiv_eq_ediv_of_nonneg _ (by omega)]; exact h) (Or.inl (PyProof.noPylong_small hp))
theorem fmodL (hb : 0 < b) (h : Q (.int (a % b) s.toks) { s with toks := s.toks + 1 }) : wpAny (model prog w) A (binaryOp .Mod (.int a t) (.int b u)) Q E s :=
  mod_int' (by omega) (by rw [Int.fmod_eq_emod_of_nonneg _ (by omega)]; exact h)
theorem inTopTup {K : Frag} {h₀ : Heap} {L d : Addr} {m : Str → Option Value} {n : Nat} {l : List Value} {ns : List Int} {dd : Option Addr} {sl : Array (Option Value)} (F : Fr h₀ L s.heap m) (X₀ : K.In h₀) (hl : K.lookup d = some ⟨.type "tuple", dd, .seq l.toArray n, sl⟩) (hi : IntsAre l ns)
    (h : Q (.bool (ns.any (· == a))) s) : wpAny (model prog w) A (compareOp .In (.int a u) (.ref d)) Q E s :=
  in_tuple_ints (tupK (X₀.keeps F.keep) hl) (by simpa using hi) h
end

/- Mac -/
local macro_rules | `(tactic| walk_at "binaryOp FloorDiv int int") => `(tactic| (with_reducible refine fdivL ?fb ?fp ?_; (case fb => first | decide | omega); (case fp => first | decide | omega)))
local macro_rules | `(tactic| walk_at "binaryOp Mod int int") => `(tactic| (with_reducible refine fmodL ?fb ?_; (case fb => first | decide | omega)))
local macro_rules | `(tactic| walk_at "eval Call") => `(tactic| (k_here; (with_reducible show wpAny _ _ (eval (Expr.Call (Expr.Name _ _) _ [] _) _) _ _ _); k_dflt (refine Call_ ?_)))
local macro_rules | `(tactic| walk_at "compareOp In int ref") => `(tactic| (k_here; k_dflt (refine' inTopTup ?F ?X ?l ?i ?_; (case F => k_asm); (case X => k_asm); (case l => k_is); (case i => repeat constructor))))
local macro_rules | `(tactic| walk_at "execs cons") => `(tactic| (k_here; dsimp only; walk_at "execs cons"))
local macro_rules | `(tactic| walk_at "execs nil") => `(tactic| (k_here; dsimp only; walk_at "execs nil"))
local macro_rules | `(tactic| walk_at "eval Name") => `(tactic| (k_here; k_dflt (first | (refine' nameX_L ?F ?v ?_ ?a ?b; (case F => k_asm); (case a => rfl); (case b => rfl); (case v => rfl); k_whole) | (refine' nameX_K ?F ?X ?T ?e ?_ ?a ?b; (case F => k_asm); (case X => k_asm); (case T => k_asm); (case a => rfl); (case b => rfl); (case e => k_is); k_whole))))
local macro_rules | `(tactic| walk_at "subscriptTail") => `(tactic| (k_here; (with_reducible show wpAny _ _ (subscriptTail _ _ (Value.ref _) (Value.int _ _)) _ _ _); k_dflt (refine' item_tupleT ?t ?a ?b ?c ?d ?_; (case t => exact News.isTup (by k_asm) (by k_mem)); (case a => decide); (case b => decide); (case c => rfl); (case d => rfl); k_whole)))
local macro_rules | `(tactic| walk_at "exec If") => `(tactic| (k_here; k_dflt (refine wpAny_If ?_)))

/- W1 -/
def isleapF (y : Int) : Bool := (y % 4 == 0) && ((y % 100 != 0) || (y % 400 == 0))
theorem c_isleap (y : Int) (t : Tok) : Called 1 21 True [.int y t] (RtB fun r => r = isleapF y) := by
  k_with_none
  (unfold Called; k_fill; intros; refine wpAny_call ?_; (first | k_dflt cell_enter | fail "not entered"))
  k_steps
  all_goals (first | refine RtI.use (by assumption) ?_ (by k_asm) (by first | k_asm | exact cb_drop (by assumption) (fun _ hp => by repeat (first | exact hp | apply List.mem_cons_of_mem))) | refine RtB.use (by assumption) ?_ (by k_asm) (by first | k_asm | exact cb_drop (by assumption) (fun _ hp => by repeat (first | exact hp | apply List.mem_cons_of_mem))) | refine RtT.use (by assumption) (by k_asm) (by first | k_asm | exact newsDrop1 (by assumption)) (by first | assumption | exact allLt_all (And.right (by assumption)) | k_asm) ?_)
  all_goals (simp_all [isleapF])
theorem trunc_end {a b : Int} (h : 0 ≤ a ∧ 0 < b ∧ b < 1000000) : ((if a < 0 then -a else a) / if b < 0 then -b else b) = a / b := by
  rw [if_neg (by omega), if_neg (by omega)]
theorem trunc_not {a b : Int} (h : 0 ≤ a ∧ 0 < b ∧ b < 1000000) (hs : (decide (a < 0) == decide (b < 0)) = false) : False := by
  rw [decide_eq_false (by omega), decide_eq_false (by omega)] at hs
  cases hs
theorem c_trunc (a b : Int) (t u : Tok) : Called 1 28 (0 ≤ a ∧ 0 < b ∧ b < 1000000) [.int a t, .int b u] (RtI fun r => r = a / b) := by
  k_with_none
  (unfold Called; k_fill; intros; refine wpAny_call ?_; (first | k_dflt cell_enter | fail "not entered"))
  k_steps
  all_goals (first | refine RtI.use (by assumption) ?_ (by k_asm) (by first | k_asm | exact cb_drop (by assumption) (fun _ hp => by repeat (first | exact hp | apply List.mem_cons_of_mem))) | refine RtB.use (by assumption) ?_ (by k_asm) (by first | k_asm | exact cb_drop (by assumption) (fun _ hp => by repeat (first | exact hp | apply List.mem_cons_of_mem))) | refine RtT.use (by assumption) (by k_asm) (by first | k_asm | exact newsDrop1 (by assumption)) (by first | assumption | exact allLt_all (And.right (by assumption)) | k_asm) ?_)
  all_goals first | exact trunc_end (by assumption) | exact absurd (by assumption) (trunc_not (by assumption))
theorem c_midnight (a : Int) (t : Tok) : Called 1 35 (0 < a) [.int a t] (RtI fun r => r = a) := by
  k_with_none
  (unfold Called; k_fill; intros; refine wpAny_call ?_; (first | k_dflt cell_enter | fail "not entered"))
  k_steps
  all_goals (first | refine RtI.use (by assumption) ?_ (by k_asm) (by first | k_asm | exact cb_drop (by assumption) (fun _ hp => by repeat (first | exact hp | apply List.mem_cons_of_mem))) | refine RtB.use (by assumption) ?_ (by k_asm) (by first | k_asm | exact cb_drop (by assumption) (fun _ hp => by repeat (first | exact hp | apply List.mem_cons_of_mem))) | refine RtT.use (by assumption) (by k_asm) (by first | k_asm | exact newsDrop1 (by assumption)) (by first | assumption | exact allLt_all (And.right (by assumption)) | k_asm) ?_)
  all_goals first | rfl | omega

/- W2 -/
local macro_rules | `(tactic| walk_at "call ref") => `(tactic| (k_here; (k_dflt (refine' Called.use (c_isleap _ _) ?k1 ?k2 ?k3 ?k4 ?k5 ?kK ?kp ?kd ?ku ?_); (case k1 => k_asm); (case k2 => k_asm); (case k3 => k_asm); (case k4 => k_asm); (case k5 => k_asm); (case kK => first | exact rfl | assumption); (case kp => first | trivial | assumption | omega | ((repeat' apply And.intro) <;> omega) | k_extra "kp"); (case kd => ktr_room); (case ku => ktr_units); first | (refine RtT.mk ?_; intro x9 y9 z9 t9 t8 t7 c9 D9 h9 tk9 hP9 F9 N9 l9; (try dsimp only at hP9); clear l9; (try dsimp only); (try k_fold)) | (refine RtI.mk ?_; intro r9 t9 h9 tk9 hP9 F9 N9; (try dsimp only at hP9); (try dsimp only); (try k_fold)) | (refine RtB.mk ?_; intro r9 h9 tk9 hP9 F9 N9; (try dsimp only at hP9); (try dsimp only); (try k_fold)))))
theorem c_legal (y m : Int) (t u v : Tok) : Called 2 43 True [.int y t, .int m u, .int 1 v] (RtB fun r => r = true) := by
  k_with_none
  (unfold Called; k_fill; intros; refine wpAny_call ?_; (first | k_dflt cell_enter | fail "not entered"))
  k_steps
  all_goals (first | refine RtI.use (by assumption) ?_ (by k_asm) (by first | k_asm | exact cb_drop (by assumption) (fun _ hp => by repeat (first | exact hp | apply List.mem_cons_of_mem))) | refine RtB.use (by assumption) ?_ (by k_asm) (by first | k_asm | exact cb_drop (by assumption) (fun _ hp => by repeat (first | exact hp | apply List.mem_cons_of_mem))) | refine RtT.use (by assumption) (by k_asm) (by first | k_asm | exact newsDrop1 (by assumption)) (by first | assumption | exact allLt_all (And.right (by assumption)) | k_asm) ?_)
  all_goals rfl
theorem c_toJdI (y m d : Int) (t u v : Tok) : Called 1 64 True [.int y t, .int m u, .int d v] (RtI fun r => r = d + -((-59 * (m - 1)) / 2) + (y - 1) * 354 + (3 + 11 * y) / 30 + 1948440 - 1) := by
  k_with_none
  (unfold Called; k_fill; intros; refine wpAny_call ?_; (first | k_dflt cell_enter | fail "not entered"))
  k_steps
  all_goals (first | refine RtI.use (by assumption) ?_ (by k_asm) (by first | k_asm | exact cb_drop (by assumption) (fun _ hp => by repeat (first | exact hp | apply List.mem_cons_of_mem))) | refine RtB.use (by assumption) ?_ (by k_asm) (by first | k_asm | exact cb_drop (by assumption) (fun _ hp => by repeat (first | exact hp | apply List.mem_cons_of_mem))) | refine RtT.use (by assumption) (by k_asm) (by first | k_asm | exact newsDrop1 (by assumption)) (by first | assumption | exact allLt_all (And.right (by assumption)) | k_asm) ?_)
  all_goals rfl
theorem c_toJdC (y m d : Int) (t u v : Tok) : Called 1 93 True [.int y t, .int m u, .int d v] (RtI fun r => r = d + (m - 1) * 30 + (y - 1) * 365 + y / 4 + 1825030 - 1) := by
  k_with_none
  (unfold Called; k_fill; intros; refine wpAny_call ?_; (first | k_dflt cell_enter | fail "not entered"))
  k_steps
  all_goals (first | refine RtI.use (by assumption) ?_ (by k_asm) (by first | k_asm | exact cb_drop (by assumption) (fun _ hp => by repeat (first | exact hp | apply List.mem_cons_of_mem))) | refine RtB.use (by assumption) ?_ (by k_asm) (by first | k_asm | exact cb_drop (by assumption) (fun _ hp => by repeat (first | exact hp | apply List.mem_cons_of_mem))) | refine RtT.use (by assumption) (by k_asm) (by first | k_asm | exact newsDrop1 (by assumption)) (by first | assumption | exact allLt_all (And.right (by assumption)) | k_asm) ?_)
  all_goals rfl

/- W3 -/
def toJdI (y m d : Int) : Int := d + -(-59 * (m - 1) / 2) + (y - 1) * 354 + (3 + 11 * y) / 30 + 1948440 - 1
def yI (n : Int) : Int := (30 * (n - 1948440) + 10646) / 10631
def mI (n : Int) : Int := if -(-2 * (n - (29 + toJdI (yI n) 1 1)) / 59) + 1 < 12 then -(-2 * (n - (29 + toJdI (yI n) 1 1)) / 59) + 1 else 12
def cJ (n : Int) : Int := (20 * (n + 1524) - 2442) / 7305
def bJ (n : Int) : Int := n + 1524 - 1461 * cJ n / 4
def eJ (n : Int) : Int := bJ n * 10000 / 306001
def yJ (n : Int) : Int := if eJ n < 14 then cJ n - 4716 else cJ n - 4715
def mJ (n : Int) : Int := if eJ n < 14 then eJ n - 1 else eJ n - 13
def dJ (n : Int) : Int := bJ n - 306001 * eJ n / 10000
def toJdG (y m d : Int) : Int := 1721426 - 1 + 365 * (y - 1) + (y - 1) / 4 + -((y - 1) / 100) + (y - 1) / 400 + ((367 * m - 362) / 12 + (if m ≤ 2 then 0 else if isleapF y = true then -1 else -2) + d)
theorem toJdG_e1 {y m : Int} (h : m ≤ 2) : 1721426 - 1 + 365 * (y - 1) + (y - 1) / 4 + -((y - 1) / 100) + (y - 1) / 400 + ((367 * m - 362) / 12 + 0 + 1) = toJdG y m 1 := by
  unfold toJdG; rw [if_pos h]
theorem toJdG_e2 {y m : Int} {r : Bool} (h : ¬ m ≤ 2) (e : r = isleapF y) (c : r = true) : 1721426 - 1 + 365 * (y - 1) + (y - 1) / 4 + -((y - 1) / 100) + (y - 1) / 400 + ((367 * m - 362) / 12 + -1 + 1) = toJdG y m 1 := by
  unfold toJdG; rw [if_neg h, if_pos (e ▸ c)]
theorem toJdG_e3 {y m : Int} {r : Bool} (h : ¬ m ≤ 2) (e : r = isleapF y) (c : r = false) : 1721426 - 1 + 365 * (y - 1) + (y - 1) / 4 + -((y - 1) / 100) + (y - 1) / 400 + ((367 * m - 362) / 12 + -2 + 1) = toJdG y m 1 := by
  unfold toJdG; rw [if_neg h, if_neg (by rw [← e, c]; exact Bool.false_ne_true)]
theorem fromI_end {n r1 r2 : Int} (h1 : r1 = toJdI (yI n) 1 1) (h2 : r2 = toJdI (yI n) (if -(-2 * (n - (29 + r1)) / 59) + 1 < 12 then -(-2 * (n - (29 + r1)) / 59) + 1 else 12) 1) :
    yI n = yI n ∧ (if -(-2 * (n - (29 + r1)) / 59) + 1 < 12 then -(-2 * (n - (29 + r1)) / 59) + 1 else 12) = mI n ∧ n - r2 + 1 = n - toJdI (yI n) (if -(-2 * (n - (29 + r1)) / 59) + 1 < 12 then -(-2 * (n - (29 + r1)) / 59) + 1 else 12) 1 + 1 := by
  subst h1; subst h2; exact ⟨rfl, rfl, rfl⟩
local macro_rules | `(tactic| walk_at "call ref") => `(tactic| (k_here; first | (k_dflt (refine' Called.use (c_isleap _ _) ?k1 ?k2 ?k3 ?k4 ?k5 ?kK ?kp ?kd ?ku ?_); (case k1 => k_asm); (case k2 => k_asm); (case k3 => k_asm); (case k4 => k_asm); (case k5 => k_asm); (case kK => first | exact rfl | assumption); (case kp => first | trivial | assumption | omega | ((repeat' apply And.intro) <;> omega) | k_extra "kp"); (case kd => ktr_room); (case ku => ktr_units); first | (refine RtT.mk ?_; intro x9 y9 z9 t9 t8 t7 c9 D9 h9 tk9 hP9 F9 N9 l9; (try dsimp only at hP9); clear l9; (try dsimp only); (try k_fold)) | (refine RtI.mk ?_; intro r9 t9 h9 tk9 hP9 F9 N9; (try dsimp only at hP9); (try dsimp only); (try k_fold)) | (refine RtB.mk ?_; intro r9 h9 tk9 hP9 F9 N9; (try dsimp only at hP9); (try dsimp only); (try k_fold))) | (k_dflt (refine' Called.use (c_legal _ _ _ _ _) ?k1 ?k2 ?k3 ?k4 ?k5 ?kK ?kp ?kd ?ku ?_); (case k1 => k_asm); (case k2 => k_asm); (case k3 => k_asm); (case k4 => k_asm); (case k5 => k_asm); (case kK => first | exact rfl | assumption); (case kp => first | trivial | assumption | omega | ((repeat' apply And.intro) <;> omega) | k_extra "kp"); (case kd => ktr_room); (case ku => ktr_units); first | (refine RtT.mk ?_; intro x9 y9 z9 t9 t8 t7 c9 D9 h9 tk9 hP9 F9 N9 l9; (try dsimp only at hP9); clear l9; (try dsimp only); (try k_fold)) | (refine RtI.mk ?_; intro r9 t9 h9 tk9 hP9 F9 N9; (try dsimp only at hP9); (try dsimp only); (try k_fold)) | (refine RtB.mk ?_; intro r9 h9 tk9 hP9 F9 N9; (try dsimp only at hP9); (try dsimp only); (try k_fold))) | (k_dflt (refine' Called.use (c_toJdI _ _ _ _ _ _) ?k1 ?k2 ?k3 ?k4 ?k5 ?kK ?kp ?kd ?ku ?_); (case k1 => k_asm); (case k2 => k_asm); (case k3 => k_asm); (case k4 => k_asm); (case k5 => k_asm); (case kK => first | exact rfl | assumption); (case kp => first | trivial | assumption | omega | ((repeat' apply And.intro) <;> omega) | k_extra "kp"); (case kd => ktr_room); (case ku => ktr_units); first | (refine RtT.mk ?_; intro x9 y9 z9 t9 t8 t7 c9 D9 h9 tk9 hP9 F9 N9 l9; (try dsimp only at hP9); clear l9; (try dsimp only); (try k_fold)) | (refine RtI.mk ?_; intro r9 t9 h9 tk9 hP9 F9 N9; (try dsimp only at hP9); (try dsimp only); (try k_fold)) | (refine RtB.mk ?_; intro r9 h9 tk9 hP9 F9 N9; (try dsimp only at hP9); (try dsimp only); (try k_fold))) | (k_dflt (refine' Called.use (c_toJdC _ _ _ _ _ _) ?k1 ?k2 ?k3 ?k4 ?k5 ?kK ?kp ?kd ?ku ?_); (case k1 => k_asm); (case k2 => k_asm); (case k3 => k_asm); (case k4 => k_asm); (case k5 => k_asm); (case kK => first | exact rfl | assumption); (case kp => first | trivial | assumption | omega | ((repeat' apply And.intro) <;> omega) | k_extra "kp"); (case kd => ktr_room); (case ku => ktr_units); first | (refine RtT.mk ?_; intro x9 y9 z9 t9 t8 t7 c9 D9 h9 tk9 hP9 F9 N9 l9; (try dsimp only at hP9); clear l9; (try dsimp only); (try k_fold)) | (refine RtI.mk ?_; intro r9 t9 h9 tk9 hP9 F9 N9; (try dsimp only at hP9); (try dsimp only); (try k_fold)) | (refine RtB.mk ?_; intro r9 h9 tk9 hP9 F9 N9; (try dsimp only at hP9); (try dsimp only); (try k_fold)))))
theorem c_fromJ (n : Int) (t : Tok) : Called 1 78 True [.int n t] (RtT fun x y z => x = yJ n ∧ y = mJ n ∧ z = dJ n) := by
  k_with_none
  (unfold Called; k_fill; intros; refine wpAny_call ?_; (first | k_dflt cell_enter | fail "not entered"))
  k_steps
  all_goals (first | refine RtI.use (by assumption) ?_ (by k_asm) (by first | k_asm | exact cb_drop (by assumption) (fun _ hp => by repeat (first | exact hp | apply List.mem_cons_of_mem))) | refine RtB.use (by assumption) ?_ (by k_asm) (by first | k_asm | exact cb_drop (by assumption) (fun _ hp => by repeat (first | exact hp | apply List.mem_cons_of_mem))) | refine RtT.use (by assumption) (by k_asm) (by first | k_asm | exact newsDrop1 (by assumption)) (by first | assumption | exact allLt_all (And.right (by assumption)) | k_asm) ?_)
  all_goals (refine ⟨?_, ?_, rfl⟩)
  all_goals first | exact (if_pos (by assumption)).symm | exact (if_neg (by assumption)).symm
theorem c_toJdG (y m : Int) (t u v : Tok) : Called 3 50 True [.int y t, .int m u, .int 1 v] (RtI fun r => r = toJdG y m 1) := by
  k_with_none
  (unfold Called; k_fill; intros; refine wpAny_call ?_; (first | k_dflt cell_enter | fail "not entered"))
  k_steps
  all_goals (first | refine RtI.use (by assumption) ?_ (by k_asm) (by first | k_asm | exact cb_drop (by assumption) (fun _ hp => by repeat (first | exact hp | apply List.mem_cons_of_mem))) | refine RtB.use (by assumption) ?_ (by k_asm) (by first | k_asm | exact cb_drop (by assumption) (fun _ hp => by repeat (first | exact hp | apply List.mem_cons_of_mem))) | refine RtT.use (by assumption) (by k_asm) (by first | k_asm | exact newsDrop1 (by assumption)) (by first | assumption | exact allLt_all (And.right (by assumption)) | k_asm) ?_)
  all_goals first | exact toJdG_e1 (by assumption) | exact toJdG_e2 (by assumption) (by assumption) (by assumption) | exact toJdG_e3 (by assumption) (by assumption) (by assumption)
theorem c_fromI (n : Int) (t : Tok) : Called 2 71 True [.int n t] (RtT fun x y z => x = yI n ∧ y = mI n ∧ z = n - toJdI x y 1 + 1) := by
  k_with_none
  (unfold Called; k_fill; intros; refine wpAny_call ?_; (first | k_dflt cell_enter | fail "not entered"))
  k_steps
  all_goals (first | refine RtI.use (by assumption) ?_ (by k_asm) (by first | k_asm | exact cb_drop (by assumption) (fun _ hp => by repeat (first | exact hp | apply List.mem_cons_of_mem))) | refine RtB.use (by assumption) ?_ (by k_asm) (by first | k_asm | exact cb_drop (by assumption) (fun _ hp => by repeat (first | exact hp | apply List.mem_cons_of_mem))) | refine RtT.use (by assumption) (by k_asm) (by first | k_asm | exact newsDrop1 (by assumption)) (by first | assumption | exact allLt_all (And.right (by assumption)) | k_asm) ?_)
  all_goals exact fromI_end (by assumption) (by assumption)
theorem c_fromC (n : Int) (t : Tok) : Called 2 100 True [.int n t] (RtT fun x _ _ => x = (4 * (n - 1825030) + 1463) / 1461) := by
  k_with_none
  (unfold Called; k_fill; intros; refine wpAny_call ?_; (first | k_dflt cell_enter | fail "not entered"))
  k_steps
  all_goals (first | refine RtI.use (by assumption) ?_ (by k_asm) (by first | k_asm | exact cb_drop (by assumption) (fun _ hp => by repeat (first | exact hp | apply List.mem_cons_of_mem))) | refine RtB.use (by assumption) ?_ (by k_asm) (by first | k_asm | exact cb_drop (by assumption) (fun _ hp => by repeat (first | exact hp | apply List.mem_cons_of_mem))) | refine RtT.use (by assumption) (by k_asm) (by first | k_asm | exact newsDrop1 (by assumption)) (by first | assumption | exact allLt_all (And.right (by assumption)) | k_asm) ?_)
  all_goals rfl

/- W4 -/
def baseG (n : Int) : Int := (n - 1721426) / 146097 * 400 + (n - 1721426) % 146097 / 36524 * 100 + (n - 1721426) % 146097 % 36524 / 1461 * 4 + (n - 1721426) % 146097 % 36524 % 1461 / 365
def yG (n : Int) : Int := if (n - 1721426) % 146097 / 36524 = 4 ∨ (n - 1721426) % 146097 % 36524 % 1461 / 365 = 4 then baseG n else baseG n + 1
def adjG (n x : Int) : Int := if n - toJdG x 1 1 < 58 + (if isleapF x = true then 1 else 0) then 0 else if isleapF x = true then 1 else 2
def mG (n x : Int) : Int := ((n - toJdG x 1 1 + adjG n x) * 12 + 373) / 367
theorem neT {L : Bool} (h : L = false) : ¬ L = true := by rw [h]; decide
theorem fromG_end {n x r1 r3 adj : Int} {L : Bool} (hx : x = yG n) (h1 : r1 = toJdG x 1 1) (hL : L = isleapF x) (ha : adj = if n - r1 < 58 + (if L = true then 1 else 0) then 0 else if L = true then 1 else 2)
    (h3 : r3 = toJdG x (((n - r1 + adj) * 12 + 373) / 367) 1) : x = yG n ∧ ((n - r1 + adj) * 12 + 373) / 367 = mG n x ∧ n - r3 + 1 = n - toJdG x (((n - r1 + adj) * 12 + 373) / 367) 1 + 1 := by
  subst h1; subst hL; subst ha; subst h3
  exact ⟨hx, rfl, rfl⟩
local macro_rules | `(tactic| walk_at "call ref") => `(tactic| (k_here; first | (k_dflt (refine' Called.use (c_isleap _ _) ?k1 ?k2 ?k3 ?k4 ?k5 ?kK ?kp ?kd ?ku ?_); (case k1 => k_asm); (case k2 => k_asm); (case k3 => k_asm); (case k4 => k_asm); (case k5 => k_asm); (case kK => first | exact rfl | assumption); (case kp => first | trivial | assumption | omega | ((repeat' apply And.intro) <;> omega) | k_extra "kp"); (case kd => ktr_room); (case ku => ktr_units); first | (refine RtT.mk ?_; intro x9 y9 z9 t9 t8 t7 c9 D9 h9 tk9 hP9 F9 N9 l9; (try dsimp only at hP9); clear l9; (try dsimp only); (try k_fold)) | (refine RtI.mk ?_; intro r9 t9 h9 tk9 hP9 F9 N9; (try dsimp only at hP9); (try dsimp only); (try k_fold)) | (refine RtB.mk ?_; intro r9 h9 tk9 hP9 F9 N9; (try dsimp only at hP9); (try dsimp only); (try k_fold))) | (k_dflt (refine' Called.use (c_toJdG _ _ _ _ _) ?k1 ?k2 ?k3 ?k4 ?k5 ?kK ?kp ?kd ?ku ?_); (case k1 => k_asm); (case k2 => k_asm); (case k3 => k_asm); (case k4 => k_asm); (case k5 => k_asm); (case kK => first | exact rfl | assumption); (case kp => first | trivial | assumption | omega | ((repeat' apply And.intro) <;> omega) | k_extra "kp"); (case kd => ktr_room); (case ku => ktr_units); first | (refine RtT.mk ?_; intro x9 y9 z9 t9 t8 t7 c9 D9 h9 tk9 hP9 F9 N9 l9; (try dsimp only at hP9); clear l9; (try dsimp only); (try k_fold)) | (refine RtI.mk ?_; intro r9 t9 h9 tk9 hP9 F9 N9; (try dsimp only at hP9); (try dsimp only); (try k_fold)) | (refine RtB.mk ?_; intro r9 h9 tk9 hP9 F9 N9; (try dsimp only at hP9); (try dsimp only); (try k_fold)))))
theorem c_fromG (n : Int) (t : Tok) : Called 4 57 True [.int n t] (RtT fun x y z => x = yG n ∧ y = mG n x ∧ z = n - toJdG x y 1 + 1) := by
  k_with_none
  (unfold Called; k_fill; intros; refine wpAny_call ?_; (first | k_dflt cell_enter | fail "not entered"))
  k_steps
  all_goals (first | refine RtI.use (by assumption) ?_ (by k_asm) (by first | k_asm | exact cb_drop (by assumption) (fun _ hp => by repeat (first | exact hp | apply List.mem_cons_of_mem))) | refine RtB.use (by assumption) ?_ (by k_asm) (by first | k_asm | exact cb_drop (by assumption) (fun _ hp => by repeat (first | exact hp | apply List.mem_cons_of_mem))) | refine RtT.use (by assumption) (by k_asm) (by first | k_asm | exact newsDrop1 (by assumption)) (by first | assumption | exact allLt_all (And.right (by assumption)) | k_asm) ?_)
  all_goals (
    refine' fromG_end ?ga ?gb ?gc ?gd ?ge
    (case gb => assumption)
    (case gc => assumption)
    (case ge => assumption)
    (case gd => first | exact (if_pos (by assumption)).symm | exact ((if_neg (by assumption)).trans (if_pos (by assumption))).symm | exact ((if_neg (by assumption)).trans (if_neg (neT (by assumption)))).symm)
    (case ga => first | exact (if_pos (.inl (by assumption))).symm | exact (if_pos (.inr (by assumption))).symm | exact (if_neg (not_or.mpr ⟨by assumption, by assumption⟩)).symm))

/- W5 -/
def yS (n : Int) : Int := if n - 2117211 - (365 * (4 * (n - 2117211) / 1461) + 4 * (n - 2117211) / 1461 / 4) = 0 then 4 * (n - 2117211) / 1461 - 1 + 533 else 4 * (n - 2117211) / 1461 + 533
theorem fromS_end1 {n r q : Int} (h : r = 4 * (n - 2117211) / 1461) (k : q = r / 4) (c : n - 2117211 - (365 * r + q) = 0) : r - 1 + 533 = yS n := by
  subst h; subst k; exact (if_pos c).symm
theorem fromS_end2 {n r q : Int} (h : r = 4 * (n - 2117211) / 1461) (k : q = r / 4) (c : n - 2117211 - (365 * r + q) ≠ 0) : r + 533 = yS n := by
  subst h; subst k; exact (if_neg c).symm
local macro_rules | `(tactic| walk_at "call ref") => `(tactic| (k_here; first | (k_dflt (refine' Called.use (c_trunc _ _ _ _) ?k1 ?k2 ?k3 ?k4 ?k5 ?kK ?kp ?kd ?ku ?_); (case k1 => k_asm); (case k2 => k_asm); (case k3 => k_asm); (case k4 => k_asm); (case k5 => k_asm); (case kK => first | exact rfl | assumption); (case kp => first | trivial | assumption | omega | ((repeat' apply And.intro) <;> omega) | k_extra "kp"); (case kd => ktr_room); (case ku => ktr_units); first | (refine RtT.mk ?_; intro x9 y9 z9 t9 t8 t7 c9 D9 h9 tk9 hP9 F9 N9 l9; (try dsimp only at hP9); clear l9; (try dsimp only); (try k_fold)) | (refine RtI.mk ?_; intro r9 t9 h9 tk9 hP9 F9 N9; (try dsimp only at hP9); (try dsimp only); (try k_fold)) | (refine RtB.mk ?_; intro r9 h9 tk9 hP9 F9 N9; (try dsimp only at hP9); (try dsimp only); (try k_fold)))))
theorem c_fromA (n : Int) (t : Tok) : Called 2 86 (1922868 ≤ n) [.int n t] (RtT fun x _ _ => x = (n - 1922502 - 1) / 365) := by
  k_with_none
  (unfold Called; k_fill; intros; refine wpAny_call ?_; k_dflt (refine' code_def ?k1 ?k2 ?k3 ?k4 ?k5 ?kA ?kF ?kK ?k6 ?k7 ?k8 ?k9 ?kB ?_ ?c2 ?c3 ?c4 ?c5; (case kA => exact rfl); (case kF => exact rfl); (case kK => assumption); (case k1 => k_asm); (case k2 => k_asm); (case k3 => k_asm); (case k4 => k_asm); (case k5 => k_asm); (case k6 => k_is); (case k7 => k_is); (case k8 => ktr_room); (case k9 => first | exact binds_K (by k_in) rfl (by k_is) rfl rfl rfl | exact BindsTo.of_eq rfl); (case c5 => decide); (case kB => exact locs rfl); (case c2 => exact rfl); (case c3 => exact rfl); (case c4 => exact rfl); k_whole; intro g' L' h' FG' F' N' B' X' T'; (try dsimp only); (try k_lift B'); (try k_fold)))
  k_steps
  all_goals (first | refine RtI.use (by assumption) ?_ (by k_asm) (by first | k_asm | exact cb_drop (by assumption) (fun _ hp => by repeat (first | exact hp | apply List.mem_cons_of_mem))) | refine RtB.use (by assumption) ?_ (by k_asm) (by first | k_asm | exact cb_drop (by assumption) (fun _ hp => by repeat (first | exact hp | apply List.mem_cons_of_mem))) | refine RtT.use (by assumption) (by k_asm) (by first | k_asm | exact newsDrop1 (by assumption)) (by first | assumption | exact allLt_all (And.right (by assumption)) | k_asm) ?_)
  all_goals assumption
theorem c_fromS (n : Int) (t u : Tok) : Called 2 86 (2117212 ≤ n) [.int n t, .str (Str.ofString "sarkawag") u] (RtT fun x _ _ => x = yS n) := by
  k_with_none
  (unfold Called; k_fill; intros; refine wpAny_call ?_; k_dflt (refine' code_def ?k1 ?k2 ?k3 ?k4 ?k5 ?kA ?kF ?kK ?k6 ?k7 ?k8 ?k9 ?kB ?_ ?c2 ?c3 ?c4 ?c5; (case kA => exact rfl); (case kF => exact rfl); (case kK => assumption); (case k1 => k_asm); (case k2 => k_asm); (case k3 => k_asm); (case k4 => k_asm); (case k5 => k_asm); (case k6 => k_is); (case k7 => k_is); (case k8 => ktr_room); (case k9 => first | exact binds_K (by k_in) rfl (by k_is) rfl rfl rfl | exact BindsTo.of_eq rfl); (case c5 => decide); (case kB => exact locs rfl); (case c2 => exact rfl); (case c3 => exact rfl); (case c4 => exact rfl); k_whole; intro g' L' h' FG' F' N' B' X' T'; (try dsimp only); (try k_lift B'); (try k_fold)))
  k_steps
  all_goals (first | refine RtI.use (by assumption) ?_ (by k_asm) (by first | k_asm | exact cb_drop (by assumption) (fun _ hp => by repeat (first | exact hp | apply List.mem_cons_of_mem))) | refine RtB.use (by assumption) ?_ (by k_asm) (by first | k_asm | exact cb_drop (by assumption) (fun _ hp => by repeat (first | exact hp | apply List.mem_cons_of_mem))) | refine RtT.use (by assumption) (by k_asm) (by first | k_asm | exact newsDrop1 (by assumption)) (by first | assumption | exact allLt_all (And.right (by assumption)) | k_asm) ?_)
  all_goals first | exact fromS_end1 (by assumption) (by assumption) (by assumption) | exact fromS_end2 (by assumption) (by assumption) (by assumption)

/- W6 -/
theorem fromN_end1 {n x y z r : Int} (h : x = yG n ∧ y = mG n x ∧ z = n - toJdG x y 1 + 1) (e : r = toJdG x 1 1) (c : n - r < 80) : x - 78 - 1 = if n - toJdG (yG n) 1 1 < 80 then yG n - 78 - 1 else yG n - 78 := by
  obtain ⟨h, -, -⟩ := h
  subst h; subst e; exact (if_pos c).symm
theorem fromN_end2 {n x y z r : Int} (h : x = yG n ∧ y = mG n x ∧ z = n - toJdG x y 1 + 1) (e : r = toJdG x 1 1) (c : ¬ n - r < 80) : x - 78 = if n - toJdG (yG n) 1 1 < 80 then yG n - 78 - 1 else yG n - 78 := by
  obtain ⟨h, -, -⟩ := h
  subst h; subst e; exact (if_neg c).symm
local macro_rules | `(tactic| walk_at "call ref") => `(tactic| (k_here; first | (k_dflt (refine' Called.use (c_isleap _ _) ?k1 ?k2 ?k3 ?k4 ?k5 ?kK ?kp ?kd ?ku ?_); (case k1 => k_asm); (case k2 => k_asm); (case k3 => k_asm); (case k4 => k_asm); (case k5 => k_asm); (case kK => first | exact rfl | assumption); (case kp => first | trivial | assumption | omega | ((repeat' apply And.intro) <;> omega) | k_extra "kp"); (case kd => ktr_room); (case ku => ktr_units); first | (refine RtT.mk ?_; intro x9 y9 z9 t9 t8 t7 c9 D9 h9 tk9 hP9 F9 N9 l9; (try dsimp only at hP9); clear l9; (try dsimp only); (try k_fold)) | (refine RtI.mk ?_; intro r9 t9 h9 tk9 hP9 F9 N9; (try dsimp only at hP9); (try dsimp only); (try k_fold)) | (refine RtB.mk ?_; intro r9 h9 tk9 hP9 F9 N9; (try dsimp only at hP9); (try dsimp only); (try k_fold))) | (k_dflt (refine' Called.use (c_toJdG _ _ _ _ _) ?k1 ?k2 ?k3 ?k4 ?k5 ?kK ?kp ?kd ?ku ?_); (case k1 => k_asm); (case k2 => k_asm); (case k3 => k_asm); (case k4 => k_asm); (case k5 => k_asm); (case kK => first | exact rfl | assumption); (case kp => first | trivial | assumption | omega | ((repeat' apply And.intro) <;> omega) | k_extra "kp"); (case kd => ktr_room); (case ku => ktr_units); first | (refine RtT.mk ?_; intro x9 y9 z9 t9 t8 t7 c9 D9 h9 tk9 hP9 F9 N9 l9; (try dsimp only at hP9); clear l9; (try dsimp only); (try k_fold)) | (refine RtI.mk ?_; intro r9 t9 h9 tk9 hP9 F9 N9; (try dsimp only at hP9); (try dsimp only); (try k_fold)) | (refine RtB.mk ?_; intro r9 h9 tk9 hP9 F9 N9; (try dsimp only at hP9); (try dsimp only); (try k_fold))) | (k_dflt (refine' Called.use (c_fromG _ _) ?k1 ?k2 ?k3 ?k4 ?k5 ?kK ?kp ?kd ?ku ?_); (case k1 => k_asm); (case k2 => k_asm); (case k3 => k_asm); (case k4 => k_asm); (case k5 => k_asm); (case kK => first | exact rfl | assumption); (case kp => first | trivial | assumption | omega | ((repeat' apply And.intro) <;> omega) | k_extra "kp"); (case kd => ktr_room); (case ku => ktr_units); first | (refine RtT.mk ?_; intro x9 y9 z9 t9 t8 t7 c9 D9 h9 tk9 hP9 F9 N9 l9; (try dsimp only at hP9); clear l9; (try dsimp only); (try k_fold)) | (refine RtI.mk ?_; intro r9 t9 h9 tk9 hP9 F9 N9; (try dsimp only at hP9); (try dsimp only); (try k_fold)) | (refine RtB.mk ?_; intro r9 h9 tk9 hP9 F9 N9; (try dsimp only at hP9); (try dsimp only); (try k_fold)))))
theorem c_fromN (n : Int) (t : Tok) : Called 5 170 True [.int n t] (RtT fun x _ _ => x = if n - toJdG (yG n) 1 1 < 80 then yG n - 78 - 1 else yG n - 78) := by
  k_with_none
  (unfold Called; k_fill; intros; refine wpAny_call ?_; (first | k_dflt cell_enter | fail "not entered"))
  k_steps
  all_goals (first | refine RtI.use (by assumption) ?_ (by k_asm) (by first | k_asm | exact cb_drop (by assumption) (fun _ hp => by repeat (first | exact hp | apply List.mem_cons_of_mem))) | refine RtB.use (by assumption) ?_ (by k_asm) (by first | k_asm | exact cb_drop (by assumption) (fun _ hp => by repeat (first | exact hp | apply List.mem_cons_of_mem))) | refine RtT.use (by assumption) (by k_asm) (by first | k_asm | exact newsDrop1 (by assumption)) (by first | assumption | exact allLt_all (And.right (by assumption)) | k_asm) ?_)
  all_goals first | exact fromN_end1 (by assumption) (by assumption) (by assumption) | exact fromN_end2 (by assumption) (by assumption) (by assumption)

/- H1 -/
/-- the Hebrew calendar, plain -/
abbrev leapH (y : Int) : Prop := (y * 7 + 1) % 19 < 7
def molad (y : Int) : Int := (235 * y - 234) / 19 * 29 + (12084 + 13753 * ((235 * y - 234) / 19)) / 25920
def D1 (y : Int) : Int := if 3 * (molad y + 1) % 7 < 3 then molad y + 1 else molad y
def D2 (y : Int) : Int := if D1 (y + 1) - D1 y = 356 then 2 else if D1 y - D1 (y - 1) = 382 then 1 else 0
def TH (y : Int) : Int := 347996 + D1 y + D2 y + 1 + 1
theorem add_molad {prog : Program} {w : World} {A : Around} {E : Value → Shared → Prop} {s : Shared} {y : Int} {t u : Tok} {Q : Value → Shared → Prop} (h : Q (.int (molad y) s.toks) { s with toks := s.toks + 1 }) :
    wpAny (model prog w) A (binaryOp .Add (.int ((235 * y - 234) / 19 * 29) t) (.int ((12084 + 13753 * ((235 * y - 234) / 19)) / 25920) u)) Q E s := add_int h
theorem D1_ge (y : Int) (h : -100 ≤ y) : -40000 ≤ D1 y := by
  have h1 : -1300 ≤ (235 * y - 234) / 19 := by omega
  have h2 : -38500 ≤ molad y := by unfold molad; omega
  unfold D1; split <;> omega
theorem D1_end {y r : Int} (h : r = D1 y) : r = D1 y ∧ (-100 ≤ y → -40000 ≤ r) := ⟨h, fun q => h ▸ D1_ge y q⟩
theorem c_leap (y : Int) (t : Tok) : Called 1 107 True [.int y t] (RtB fun r => r = decide (leapH y)) := by
  k_with_none
  (unfold Called; k_fill; intros; refine wpAny_call ?_; (first | k_dflt cell_enter | fail "not entered"))
  k_steps
  all_goals (first | refine RtI.use (by assumption) ?_ (by k_asm) (by first | k_asm | exact cb_drop (by assumption) (fun _ hp => by repeat (first | exact hp | apply List.mem_cons_of_mem))) | refine RtB.use (by assumption) ?_ (by k_asm) (by first | k_asm | exact cb_drop (by assumption) (fun _ hp => by repeat (first | exact hp | apply List.mem_cons_of_mem))) | refine RtT.use (by assumption) (by k_asm) (by first | k_asm | exact newsDrop1 (by assumption)) (by first | assumption | exact allLt_all (And.right (by assumption)) | k_asm) ?_)
  all_goals rfl
local macro_rules | `(tactic| walk_at "binaryOp Add int int") => `(tactic| (refine add_molad ?_))
theorem c_delay1 (y : Int) (t : Tok) : Called 1 121 True [.int y t] (RtI fun r => r = D1 y ∧ (-100 ≤ y → -40000 ≤ r)) := by
  k_with_none
  (unfold Called; k_fill; intros; refine wpAny_call ?_; (first | k_dflt cell_enter | fail "not entered"))
  k_steps
  all_goals (first | refine RtI.use (by assumption) ?_ (by k_asm) (by first | k_asm | exact cb_drop (by assumption) (fun _ hp => by repeat (first | exact hp | apply List.mem_cons_of_mem))) | refine RtB.use (by assumption) ?_ (by k_asm) (by first | k_asm | exact cb_drop (by assumption) (fun _ hp => by repeat (first | exact hp | apply List.mem_cons_of_mem))) | refine RtT.use (by assumption) (by k_asm) (by first | k_asm | exact newsDrop1 (by assumption)) (by first | assumption | exact allLt_all (And.right (by assumption)) | k_asm) ?_)
  all_goals (refine D1_end ?_)
  all_goals (unfold D1; first | exact (if_pos (by assumption)).symm | exact (if_neg (by assumption)).symm)
local macro_rules | `(tactic| walk_at "call ref") => `(tactic| (k_here; first | (k_dflt (refine' Called.use (c_leap _ _) ?k1 ?k2 ?k3 ?k4 ?k5 ?kK ?kp ?kd ?ku ?_); (case k1 => k_asm); (case k2 => k_asm); (case k3 => k_asm); (case k4 => k_asm); (case k5 => k_asm); (case kK => first | exact rfl | assumption); (case kp => first | trivial | assumption | omega | ((repeat' apply And.intro) <;> omega) | k_extra "kp"); (case kd => ktr_room); (case ku => ktr_units); first | (refine RtT.mk ?_; intro x9 y9 z9 t9 t8 t7 c9 D9 h9 tk9 hP9 F9 N9 l9; (try dsimp only at hP9); clear l9; (try dsimp only); (try k_fold)) | (refine RtI.mk ?_; intro r9 t9 h9 tk9 hP9 F9 N9; (try dsimp only at hP9); (try dsimp only); (try k_fold)) | (refine RtB.mk ?_; intro r9 h9 tk9 hP9 F9 N9; (try dsimp only at hP9); (try dsimp only); (try k_fold))) | (k_dflt (refine' Called.use (c_delay1 _ _) ?k1 ?k2 ?k3 ?k4 ?k5 ?kK ?kp ?kd ?ku ?_); (case k1 => k_asm); (case k2 => k_asm); (case k3 => k_asm); (case k4 => k_asm); (case k5 => k_asm); (case kK => first | exact rfl | assumption); (case kp => first | trivial | assumption | omega | ((repeat' apply And.intro) <;> omega) | k_extra "kp"); (case kd => ktr_room); (case ku => ktr_units); first | (refine RtT.mk ?_; intro x9 y9 z9 t9 t8 t7 c9 D9 h9 tk9 hP9 F9 N9 l9; (try dsimp only at hP9); clear l9; (try dsimp only); (try k_fold)) | (refine RtI.mk ?_; intro r9 t9 h9 tk9 hP9 F9 N9; (try dsimp only at hP9); (try dsimp only); (try k_fold)) | (refine RtB.mk ?_; intro r9 h9 tk9 hP9 F9 N9; (try dsimp only at hP9); (try dsimp only); (try k_fold)))))
theorem c_months (y : Int) (t : Tok) : Called 2 114 True [.int y t] (RtI fun r => r = if leapH y then 13 else 12) := by
  k_with_none
  (unfold Called; k_fill; intros; refine wpAny_call ?_; (first | k_dflt cell_enter | fail "not entered"))
  k_steps
  all_goals (first | refine RtI.use (by assumption) ?_ (by k_asm) (by first | k_asm | exact cb_drop (by assumption) (fun _ hp => by repeat (first | exact hp | apply List.mem_cons_of_mem))) | refine RtB.use (by assumption) ?_ (by k_asm) (by first | k_asm | exact cb_drop (by assumption) (fun _ hp => by repeat (first | exact hp | apply List.mem_cons_of_mem))) | refine RtT.use (by assumption) (by k_asm) (by first | k_asm | exact newsDrop1 (by assumption)) (by first | assumption | exact allLt_all (And.right (by assumption)) | k_asm) ?_)
  all_goals (simp_all)
theorem c_delay2 (y : Int) (t : Tok) : Called 2 128 True [.int y t] (RtI fun r => r = D2 y ∧ 0 ≤ r ∧ r ≤ 2) := by
  k_with_none
  (unfold Called; k_fill; intros; refine wpAny_call ?_; (first | k_dflt cell_enter | fail "not entered"))
  k_steps
  all_goals (first | refine RtI.use (by assumption) ?_ (by k_asm) (by first | k_asm | exact cb_drop (by assumption) (fun _ hp => by repeat (first | exact hp | apply List.mem_cons_of_mem))) | refine RtB.use (by assumption) ?_ (by k_asm) (by first | k_asm | exact cb_drop (by assumption) (fun _ hp => by repeat (first | exact hp | apply List.mem_cons_of_mem))) | refine RtT.use (by assumption) (by k_asm) (by first | k_asm | exact newsDrop1 (by assumption)) (by first | assumption | exact allLt_all (And.right (by assumption)) | k_asm) ?_)
  all_goals (unfold D2; omega)

/- H2 -/
def LH (y : Int) : Int := TH (y + 1) - TH y
def ML (y m : Int) : Int :=
  if m = 2 ∨ m = 4 ∨ m = 6 ∨ m = 10 ∨ m = 13 then 29 else if m = 12 ∧ ¬ leapH y then 29 else if m = 8 ∧ LH y % 10 ≠ 5 then 29 else if m = 9 ∧ LH y % 10 = 3 then 29 else 30
local macro_rules | `(tactic| walk_at "call ref") => `(tactic| (k_here; first | (k_dflt (refine' Called.use (c_leap _ _) ?k1 ?k2 ?k3 ?k4 ?k5 ?kK ?kp ?kd ?ku ?_); (case k1 => k_asm); (case k2 => k_asm); (case k3 => k_asm); (case k4 => k_asm); (case k5 => k_asm); (case kK => first | exact rfl | assumption); (case kp => first | trivial | assumption | omega | ((repeat' apply And.intro) <;> omega) | k_extra "kp"); (case kd => ktr_room); (case ku => ktr_units); first | (refine RtT.mk ?_; intro x9 y9 z9 t9 t8 t7 c9 D9 h9 tk9 hP9 F9 N9 l9; (try dsimp only at hP9); clear l9; (try dsimp only); (try k_fold)) | (refine RtI.mk ?_; intro r9 t9 h9 tk9 hP9 F9 N9; (try dsimp only at hP9); (try dsimp only); (try k_fold)) | (refine RtB.mk ?_; intro r9 h9 tk9 hP9 F9 N9; (try dsimp only at hP9); (try dsimp only); (try k_fold))) | (k_dflt (refine' Called.use (c_delay1 _ _) ?k1 ?k2 ?k3 ?k4 ?k5 ?kK ?kp ?kd ?ku ?_); (case k1 => k_asm); (case k2 => k_asm); (case k3 => k_asm); (case k4 => k_asm); (case k5 => k_asm); (case kK => first | exact rfl | assumption); (case kp => first | trivial | assumption | omega | ((repeat' apply And.intro) <;> omega) | k_extra "kp"); (case kd => ktr_room); (case ku => ktr_units); first | (refine RtT.mk ?_; intro x9 y9 z9 t9 t8 t7 c9 D9 h9 tk9 hP9 F9 N9 l9; (try dsimp only at hP9); clear l9; (try dsimp only); (try k_fold)) | (refine RtI.mk ?_; intro r9 t9 h9 tk9 hP9 F9 N9; (try dsimp only at hP9); (try dsimp only); (try k_fold)) | (refine RtB.mk ?_; intro r9 h9 tk9 hP9 F9 N9; (try dsimp only at hP9); (try dsimp only); (try k_fold))) | (k_dflt (refine' Called.use (c_delay2 _ _) ?k1 ?k2 ?k3 ?k4 ?k5 ?kK ?kp ?kd ?ku ?_); (case k1 => k_asm); (case k2 => k_asm); (case k3 => k_asm); (case k4 => k_asm); (case k5 => k_asm); (case kK => first | exact rfl | assumption); (case kp => first | trivial | assumption | omega | ((repeat' apply And.intro) <;> omega) | k_extra "kp"); (case kd => ktr_room); (case ku => ktr_units); first | (refine RtT.mk ?_; intro x9 y9 z9 t9 t8 t7 c9 D9 h9 tk9 hP9 F9 N9 l9; (try dsimp only at hP9); clear l9; (try dsimp only); (try k_fold)) | (refine RtI.mk ?_; intro r9 t9 h9 tk9 hP9 F9 N9; (try dsimp only at hP9); (try dsimp only); (try k_fold)) | (refine RtB.mk ?_; intro r9 h9 tk9 hP9 F9 N9; (try dsimp only at hP9); (try dsimp only); (try k_fold))) | (k_dflt (refine' Called.use (c_months _ _) ?k1 ?k2 ?k3 ?k4 ?k5 ?kK ?kp ?kd ?ku ?_); (case k1 => k_asm); (case k2 => k_asm); (case k3 => k_asm); (case k4 => k_asm); (case k5 => k_asm); (case kK => first | exact rfl | assumption); (case kp => first | trivial | assumption | omega | ((repeat' apply And.intro) <;> omega) | k_extra "kp"); (case kd => ktr_room); (case ku => ktr_units); first | (refine RtT.mk ?_; intro x9 y9 z9 t9 t8 t7 c9 D9 h9 tk9 hP9 F9 N9 l9; (try dsimp only at hP9); clear l9; (try dsimp only); (try k_fold)) | (refine RtI.mk ?_; intro r9 t9 h9 tk9 hP9 F9 N9; (try dsimp only at hP9); (try dsimp only); (try k_fold)) | (refine RtB.mk ?_; intro r9 h9 tk9 hP9 F9 N9; (try dsimp only at hP9); (try dsimp only); (try k_fold))) | (k_dflt (refine' Called.use (c_midnight _ _) ?k1 ?k2 ?k3 ?k4 ?k5 ?kK ?kp ?kd ?ku ?_); (case k1 => k_asm); (case k2 => k_asm); (case k3 => k_asm); (case k4 => k_asm); (case k5 => k_asm); (case kK => first | exact rfl | assumption); (case kp => first | trivial | assumption | omega | ((repeat' apply And.intro) <;> omega) | k_extra "kp"); (case kd => ktr_room); (case ku => ktr_units); first | (refine RtT.mk ?_; intro x9 y9 z9 t9 t8 t7 c9 D9 h9 tk9 hP9 F9 N9 l9; (try dsimp only at hP9); clear l9; (try dsimp only); (try k_fold)) | (refine RtI.mk ?_; intro r9 t9 h9 tk9 hP9 F9 N9; (try dsimp only at hP9); (try dsimp only); (try k_fold)) | (refine RtB.mk ?_; intro r9 h9 tk9 hP9 F9 N9; (try dsimp only at hP9); (try dsimp only); (try k_fold)))))
theorem c_toJdH7 (y : Int) (t u v : Tok) : Called 4 156 (-100 ≤ y) [.int y t, .int 7 u, .int 1 v] (RtI fun r => r = TH y) := by
  k_with_none
  (unfold Called; k_fill; intros; refine wpAny_call ?_; (first | k_dflt cell_enter | fail "not entered"))
  k_steps
  all_goals (first | refine RtI.use (by assumption) ?_ (by k_asm) (by first | k_asm | exact cb_drop (by assumption) (fun _ hp => by repeat (first | exact hp | apply List.mem_cons_of_mem))) | refine RtB.use (by assumption) ?_ (by k_asm) (by first | k_asm | exact cb_drop (by assumption) (fun _ hp => by repeat (first | exact hp | apply List.mem_cons_of_mem))) | refine RtT.use (by assumption) (by k_asm) (by first | k_asm | exact newsDrop1 (by assumption)) (by first | assumption | exact allLt_all (And.right (by assumption)) | k_asm) ?_)
  all_goals (unfold TH; omega)
local macro_rules | `(tactic| walk_at "call ref") => `(tactic| (k_here; first | (k_dflt (refine' Called.use (c_leap _ _) ?k1 ?k2 ?k3 ?k4 ?k5 ?kK ?kp ?kd ?ku ?_); (case k1 => k_asm); (case k2 => k_asm); (case k3 => k_asm); (case k4 => k_asm); (case k5 => k_asm); (case kK => first | exact rfl | assumption); (case kp => first | trivial | assumption | omega | ((repeat' apply And.intro) <;> omega) | k_extra "kp"); (case kd => ktr_room); (case ku => ktr_units); first | (refine RtT.mk ?_; intro x9 y9 z9 t9 t8 t7 c9 D9 h9 tk9 hP9 F9 N9 l9; (try dsimp only at hP9); clear l9; (try dsimp only); (try k_fold)) | (refine RtI.mk ?_; intro r9 t9 h9 tk9 hP9 F9 N9; (try dsimp only at hP9); (try dsimp only); (try k_fold)) | (refine RtB.mk ?_; intro r9 h9 tk9 hP9 F9 N9; (try dsimp only at hP9); (try dsimp only); (try k_fold))) | (k_dflt (refine' Called.use (c_toJdH7 _ _ _ _) ?k1 ?k2 ?k3 ?k4 ?k5 ?kK ?kp ?kd ?ku ?_); (case k1 => k_asm); (case k2 => k_asm); (case k3 => k_asm); (case k4 => k_asm); (case k5 => k_asm); (case kK => first | exact rfl | assumption); (case kp => first | trivial | assumption | omega | ((repeat' apply And.intro) <;> omega) | k_extra "kp"); (case kd => ktr_room); (case ku => ktr_units); first | (refine RtT.mk ?_; intro x9 y9 z9 t9 t8 t7 c9 D9 h9 tk9 hP9 F9 N9 l9; (try dsimp only at hP9); clear l9; (try dsimp only); (try k_fold)) | (refine RtI.mk ?_; intro r9 t9 h9 tk9 hP9 F9 N9; (try dsimp only at hP9); (try dsimp only); (try k_fold)) | (refine RtB.mk ?_; intro r9 h9 tk9 hP9 F9 N9; (try dsimp only at hP9); (try dsimp only); (try k_fold)))))
theorem c_yearDays (y : Int) (t : Tok) : Called 5 135 (-100 ≤ y) [.int y t] (RtI fun r => r = LH y) := by
  k_with_none
  (unfold Called; k_fill; intros; refine wpAny_call ?_; (first | k_dflt cell_enter | fail "not entered"))
  k_steps
  all_goals (first | refine RtI.use (by assumption) ?_ (by k_asm) (by first | k_asm | exact cb_drop (by assumption) (fun _ hp => by repeat (first | exact hp | apply List.mem_cons_of_mem))) | refine RtB.use (by assumption) ?_ (by k_asm) (by first | k_asm | exact cb_drop (by assumption) (fun _ hp => by repeat (first | exact hp | apply List.mem_cons_of_mem))) | refine RtT.use (by assumption) (by k_asm) (by first | k_asm | exact newsDrop1 (by assumption)) (by first | assumption | exact allLt_all (And.right (by assumption)) | k_asm) ?_)
  all_goals (unfold LH; omega)
local macro_rules | `(tactic| walk_at "call ref") => `(tactic| (k_here; first | (k_dflt (refine' Called.use (c_leap _ _) ?k1 ?k2 ?k3 ?k4 ?k5 ?kK ?kp ?kd ?ku ?_); (case k1 => k_asm); (case k2 => k_asm); (case k3 => k_asm); (case k4 => k_asm); (case k5 => k_asm); (case kK => first | exact rfl | assumption); (case kp => first | trivial | assumption | omega | ((repeat' apply And.intro) <;> omega) | k_extra "kp"); (case kd => ktr_room); (case ku => ktr_units); first | (refine RtT.mk ?_; intro x9 y9 z9 t9 t8 t7 c9 D9 h9 tk9 hP9 F9 N9 l9; (try dsimp only at hP9); clear l9; (try dsimp only); (try k_fold)) | (refine RtI.mk ?_; intro r9 t9 h9 tk9 hP9 F9 N9; (try dsimp only at hP9); (try dsimp only); (try k_fold)) | (refine RtB.mk ?_; intro r9 h9 tk9 hP9 F9 N9; (try dsimp only at hP9); (try dsimp only); (try k_fold))) | (k_dflt (refine' Called.use (c_yearDays _ _) ?k1 ?k2 ?k3 ?k4 ?k5 ?kK ?kp ?kd ?ku ?_); (case k1 => k_asm); (case k2 => k_asm); (case k3 => k_asm); (case k4 => k_asm); (case k5 => k_asm); (case kK => first | exact rfl | assumption); (case kp => first | trivial | assumption | omega | ((repeat' apply And.intro) <;> omega) | k_extra "kp"); (case kd => ktr_room); (case ku => ktr_units); first | (refine RtT.mk ?_; intro x9 y9 z9 t9 t8 t7 c9 D9 h9 tk9 hP9 F9 N9 l9; (try dsimp only at hP9); clear l9; (try dsimp only); (try k_fold)) | (refine RtI.mk ?_; intro r9 t9 h9 tk9 hP9 F9 N9; (try dsimp only at hP9); (try dsimp only); (try k_fold)) | (refine RtB.mk ?_; intro r9 h9 tk9 hP9 F9 N9; (try dsimp only at hP9); (try dsimp only); (try k_fold)))))
theorem c_mlen (y m : Int) (t u : Tok) : Called 6 142 (-100 ≤ y ∧ 1 ≤ m ∧ m ≤ 13) [.int y t, .int m u] (RtI fun r => r = ML y m) := by
  k_with_none
  (unfold Called; k_fill; intros; refine wpAny_call ?_; (first | k_dflt cell_enter | fail "not entered"))
  k_steps
  all_goals (first | refine RtI.use (by assumption) ?_ (by k_asm) (by first | k_asm | exact cb_drop (by assumption) (fun _ hp => by repeat (first | exact hp | apply List.mem_cons_of_mem))) | refine RtB.use (by assumption) ?_ (by k_asm) (by first | k_asm | exact cb_drop (by assumption) (fun _ hp => by repeat (first | exact hp | apply List.mem_cons_of_mem))) | refine RtT.use (by assumption) (by k_asm) (by first | k_asm | exact newsDrop1 (by assumption)) (by first | assumption | exact allLt_all (And.right (by assumption)) | k_asm) ?_)
  all_goals (first | (exfalso; omega) | (law_clear; unfold ML; simp_all; done) | (law_clear; unfold ML; simp_all; omega))
local macro_rules | `(tactic| walk_at "call ref") => `(tactic| (k_here; first | (k_dflt (refine' Called.use (c_mlen _ _ _ _) ?k1 ?k2 ?k3 ?k4 ?k5 ?kK ?kp ?kd ?ku ?_); (case k1 => k_asm); (case k2 => k_asm); (case k3 => k_asm); (case k4 => k_asm); (case k5 => k_asm); (case kK => first | exact rfl | assumption); (case kp => first | trivial | assumption | omega | ((repeat' apply And.intro) <;> omega) | k_extra "kp"); (case kd => ktr_room); (case ku => ktr_units); first | (refine RtT.mk ?_; intro x9 y9 z9 t9 t8 t7 c9 D9 h9 tk9 hP9 F9 N9 l9; (try dsimp only at hP9); clear l9; (try dsimp only); (try k_fold)) | (refine RtI.mk ?_; intro r9 t9 h9 tk9 hP9 F9 N9; (try dsimp only at hP9); (try dsimp only); (try k_fold)) | (refine RtB.mk ?_; intro r9 h9 tk9 hP9 F9 N9; (try dsimp only at hP9); (try dsimp only); (try k_fold)))))
theorem ML_bd (y m : Int) : 29 ≤ ML y m ∧ ML y m ≤ 30 := by
  unfold ML; repeat' split
  all_goals omega
theorem c_mdays (y m : Int) (t u : Tok) : Called 7 149 (-100 ≤ y ∧ 1 ≤ m ∧ m ≤ 13) [.int y t, .int m u] (RtI fun r => r = ML y m ∧ 29 ≤ r ∧ r ≤ 30) := by
  k_with_none
  (unfold Called; k_fill; intros; refine wpAny_call ?_; (first | k_dflt cell_enter | fail "not entered"))
  k_steps
  all_goals (first | refine RtI.use (by assumption) ?_ (by k_asm) (by first | k_asm | exact cb_drop (by assumption) (fun _ hp => by repeat (first | exact hp | apply List.mem_cons_of_mem))) | refine RtB.use (by assumption) ?_ (by k_asm) (by first | k_asm | exact cb_drop (by assumption) (fun _ hp => by repeat (first | exact hp | apply List.mem_cons_of_mem))) | refine RtT.use (by assumption) (by k_asm) (by first | k_asm | exact newsDrop1 (by assumption)) (by first | assumption | exact allLt_all (And.right (by assumption)) | k_asm) ?_)
  all_goals (exact ⟨by assumption, by rename (_ = ML _ _) => h; rw [h]; exact ML_bd _ _⟩)

/- H3 -/
def sumML (y a : Int) (k : Nat) : Int := (List.map (ML y) (rangeKs a k)).sum
def monthsH (y : Int) : Int := if leapH y then 13 else 12
/-- the days from the year's first one to the first one of month m -/
def SH (y m : Int) : Int := if m < 7 then sumML y 7 (monthsH y + 1 - 7).toNat + sumML y 1 (m - 1).toNat else sumML y 7 (m - 7).toNat
theorem toJdH_end1 {y m d r0 r1 r2 f1 f2 r : Int} (hm : m < 7) (h0 : r0 = if leapH y then 13 else 12) (h1 : r1 = D1 y ∧ (-100 ≤ y → -40000 ≤ r1)) (h2 : r2 = D2 y ∧ 0 ≤ r2 ∧ r2 ≤ 2)
    (k1 : f1 = 347996 + r1 + r2 + d + 1 + (List.map (ML y) (rangeKs 7 (r0 + 1 - 7).toNat)).sum) (k2 : f2 = f1 + (List.map (ML y) (rangeKs 1 (m - 1).toNat)).sum) (e : r = f2) : r = TH y - 1 + d + SH y m := by
  unfold SH TH
  rw [if_pos hm]
  unfold sumML monthsH
  rw [← h0]
  omega
theorem toJdH_end2 {y m d r1 r2 f1 r : Int} (hm : ¬ m < 7) (h1 : r1 = D1 y ∧ (-100 ≤ y → -40000 ≤ r1)) (h2 : r2 = D2 y ∧ 0 ≤ r2 ∧ r2 ≤ 2)
    (k1 : f1 = 347996 + r1 + r2 + d + 1 + (List.map (ML y) (rangeKs 7 (m - 7).toNat)).sum) (e : r = f1) : r = TH y - 1 + d + SH y m := by
  unfold SH TH
  rw [if_neg hm]
  unfold sumML
  omega
local macro_rules | `(tactic| walk_at "call ref") => `(tactic| (k_here; first | (k_dflt (refine' Called.use (c_leap _ _) ?k1 ?k2 ?k3 ?k4 ?k5 ?kK ?kp ?kd ?ku ?_); (case k1 => k_asm); (case k2 => k_asm); (case k3 => k_asm); (case k4 => k_asm); (case k5 => k_asm); (case kK => first | exact rfl | assumption); (case kp => first | trivial | assumption | omega | ((repeat' apply And.intro) <;> omega) | k_extra "kp"); (case kd => ktr_room); (case ku => ktr_units); first | (refine RtT.mk ?_; intro x9 y9 z9 t9 t8 t7 c9 D9 h9 tk9 hP9 F9 N9 l9; (try dsimp only at hP9); clear l9; (try dsimp only); (try k_fold)) | (refine RtI.mk ?_; intro r9 t9 h9 tk9 hP9 F9 N9; (try dsimp only at hP9); (try dsimp only); (try k_fold)) | (refine RtB.mk ?_; intro r9 h9 tk9 hP9 F9 N9; (try dsimp only at hP9); (try dsimp only); (try k_fold))) | (k_dflt (refine' Called.use (c_delay1 _ _) ?k1 ?k2 ?k3 ?k4 ?k5 ?kK ?kp ?kd ?ku ?_); (case k1 => k_asm); (case k2 => k_asm); (case k3 => k_asm); (case k4 => k_asm); (case k5 => k_asm); (case kK => first | exact rfl | assumption); (case kp => first | trivial | assumption | omega | ((repeat' apply And.intro) <;> omega) | k_extra "kp"); (case kd => ktr_room); (case ku => ktr_units); first | (refine RtT.mk ?_; intro x9 y9 z9 t9 t8 t7 c9 D9 h9 tk9 hP9 F9 N9 l9; (try dsimp only at hP9); clear l9; (try dsimp only); (try k_fold)) | (refine RtI.mk ?_; intro r9 t9 h9 tk9 hP9 F9 N9; (try dsimp only at hP9); (try dsimp only); (try k_fold)) | (refine RtB.mk ?_; intro r9 h9 tk9 hP9 F9 N9; (try dsimp only at hP9); (try dsimp only); (try k_fold))) | (k_dflt (refine' Called.use (c_delay2 _ _) ?k1 ?k2 ?k3 ?k4 ?k5 ?kK ?kp ?kd ?ku ?_); (case k1 => k_asm); (case k2 => k_asm); (case k3 => k_asm); (case k4 => k_asm); (case k5 => k_asm); (case kK => first | exact rfl | assumption); (case kp => first | trivial | assumption | omega | ((repeat' apply And.intro) <;> omega) | k_extra "kp"); (case kd => ktr_room); (case ku => ktr_units); first | (refine RtT.mk ?_; intro x9 y9 z9 t9 t8 t7 c9 D9 h9 tk9 hP9 F9 N9 l9; (try dsimp only at hP9); clear l9; (try dsimp only); (try k_fold)) | (refine RtI.mk ?_; intro r9 t9 h9 tk9 hP9 F9 N9; (try dsimp only at hP9); (try dsimp only); (try k_fold)) | (refine RtB.mk ?_; intro r9 h9 tk9 hP9 F9 N9; (try dsimp only at hP9); (try dsimp only); (try k_fold))) | (k_dflt (refine' Called.use (c_months _ _) ?k1 ?k2 ?k3 ?k4 ?k5 ?kK ?kp ?kd ?ku ?_); (case k1 => k_asm); (case k2 => k_asm); (case k3 => k_asm); (case k4 => k_asm); (case k5 => k_asm); (case kK => first | exact rfl | assumption); (case kp => first | trivial | assumption | omega | ((repeat' apply And.intro) <;> omega) | k_extra "kp"); (case kd => ktr_room); (case ku => ktr_units); first | (refine RtT.mk ?_; intro x9 y9 z9 t9 t8 t7 c9 D9 h9 tk9 hP9 F9 N9 l9; (try dsimp only at hP9); clear l9; (try dsimp only); (try k_fold)) | (refine RtI.mk ?_; intro r9 t9 h9 tk9 hP9 F9 N9; (try dsimp only at hP9); (try dsimp only); (try k_fold)) | (refine RtB.mk ?_; intro r9 h9 tk9 hP9 F9 N9; (try dsimp only at hP9); (try dsimp only); (try k_fold))) | (k_dflt (refine' Called.use (c_midnight _ _) ?k1 ?k2 ?k3 ?k4 ?k5 ?kK ?kp ?kd ?ku ?_); (case k1 => k_asm); (case k2 => k_asm); (case k3 => k_asm); (case k4 => k_asm); (case k5 => k_asm); (case kK => first | exact rfl | assumption); (case kp => first | trivial | assumption | omega | ((repeat' apply And.intro) <;> omega) | k_extra "kp"); (case kd => ktr_room); (case ku => ktr_units); first | (refine RtT.mk ?_; intro x9 y9 z9 t9 t8 t7 c9 D9 h9 tk9 hP9 F9 N9 l9; (try dsimp only at hP9); clear l9; (try dsimp only); (try k_fold)) | (refine RtI.mk ?_; intro r9 t9 h9 tk9 hP9 F9 N9; (try dsimp only at hP9); (try dsimp only); (try k_fold)) | (refine RtB.mk ?_; intro r9 h9 tk9 hP9 F9 N9; (try dsimp only at hP9); (try dsimp only); (try k_fold))) | (k_dflt (refine' Called.use (c_mdays _ _ _ _) ?k1 ?k2 ?k3 ?k4 ?k5 ?kK ?kp ?kd ?ku ?_); (case k1 => k_asm); (case k2 => k_asm); (case k3 => k_asm); (case k4 => k_asm); (case k5 => k_asm); (case kK => first | exact rfl | assumption); (case kp => first | trivial | assumption | omega | ((repeat' apply And.intro) <;> omega) | k_extra "kp"); (case kd => ktr_room); (case ku => ktr_units); first | (refine RtT.mk ?_; intro x9 y9 z9 t9 t8 t7 c9 D9 h9 tk9 hP9 F9 N9 l9; (try dsimp only at hP9); clear l9; (try dsimp only); (try k_fold)) | (refine RtI.mk ?_; intro r9 t9 h9 tk9 hP9 F9 N9; (try dsimp only at hP9); (try dsimp only); (try k_fold)) | (refine RtB.mk ?_; intro r9 h9 tk9 hP9 F9 N9; (try dsimp only at hP9); (try dsimp only); (try k_fold)))))
theorem c_toJdH (y m d : Int) (t u v : Tok) : Called 8 156 (-100 ≤ y ∧ 1 ≤ m ∧ m ≤ 13 ∧ 0 ≤ d) [.int y t, .int m u, .int d v] (RtI fun r => r = TH y - 1 + d + SH y m) := by
  k_with_none
  k_with "pyIter ref" => k_state_given ["year", "jd!"] (fun y j₀ pre j => j = j₀ + (pre.map (ML y)).sum ∧ j₀ ≤ j) "jd"
  (unfold Called; k_fill; intros; refine wpAny_call ?_; (first | k_dflt cell_enter | fail "not entered"))
  k_steps
  all_goals (first | refine RtI.use (by assumption) ?_ (by k_asm) (by first | k_asm | exact cb_drop (by assumption) (fun _ hp => by repeat (first | exact hp | apply List.mem_cons_of_mem))) | refine RtB.use (by assumption) ?_ (by k_asm) (by first | k_asm | exact cb_drop (by assumption) (fun _ hp => by repeat (first | exact hp | apply List.mem_cons_of_mem))) | refine RtT.use (by assumption) (by k_asm) (by first | k_asm | exact newsDrop1 (by assumption)) (by first | assumption | exact allLt_all (And.right (by assumption)) | k_asm) ?_)
  all_goals first
    | exact toJdH_end1 (by assumption) (by assumption) (by assumption) (by assumption) (by assumption) (by assumption) (by assumption)
    | exact toJdH_end2 (by assumption) (by assumption) (by assumption) (by assumption) (by assumption)

/- P1 -/
theorem months_is (y : Int) : (235 * y - 234) / 19 = 12 * y - 13 + (7 * y + 13) / 19 := by omega
theorem m19a {z : Int} (h : (z + 1) % 19 < 7) : (z + 20) / 19 = (z + 13) / 19 + 1 := by omega
theorem m19b {z : Int} (h : ¬ (z + 1) % 19 < 7) : (z + 20) / 19 = (z + 13) / 19 := by omega
theorem m19c {z : Int} (h : (z + 1) % 19 < 7) : ¬ (z + 8) % 19 < 7 := by omega
/-- one year on: twelve months or thirteen -/
theorem months_next (y : Int) : (235 * (y + 1) - 234) / 19 = (235 * y - 234) / 19 + (if leapH y then 13 else 12) := by
  rw [months_is, months_is]
  have e : 7 * (y + 1) + 13 = y * 7 + 20 := by omega
  have e2 : 7 * y + 13 = y * 7 + 13 := by omega
  rw [e, e2]
  by_cases h : leapH y
  · rw [if_pos h, m19a h]; omega
  · rw [if_neg h, m19b h]; omega
theorem leap_next {y : Int} (h : leapH y) : ¬ leapH (y + 1) := by
  have := m19c h
  unfold leapH
  rw [show (y + 1) * 7 + 1 = y * 7 + 8 by omega]
  exact this
/-- the molad's whole parts since the first day -/
def parts (y : Int) : Int := 765433 * ((235 * y - 234) / 19) + 12084
theorem molad_parts (y : Int) : molad y = parts y / 25920 := by
  unfold molad parts
  omega
theorem parts_next (y : Int) : parts (y + 1) = parts y + (if leapH y then 9950629 else 9185196) := by
  unfold parts
  rw [months_next]
  by_cases h : leapH y
  · rw [if_pos h, if_pos h]; omega
  · rw [if_neg h, if_neg h]; omega
def rr (y : Int) : Int := parts y % 25920
theorem rr_bd (y : Int) : 0 ≤ rr y ∧ rr y < 25920 := by unfold rr; omega
theorem stepA {y : Int} (h : ¬ leapH y) : (molad (y + 1) = molad y + 354 ∧ rr (y + 1) = rr y + 9516) ∨ (molad (y + 1) = molad y + 355 ∧ rr (y + 1) = rr y - 16404) := by
  have e := parts_next y
  rw [if_neg h] at e
  rw [molad_parts, molad_parts]
  unfold rr
  omega
theorem stepB {y : Int} (h : leapH y) : (molad (y + 1) = molad y + 383 ∧ rr (y + 1) = rr y + 23269) ∨ (molad (y + 1) = molad y + 384 ∧ rr (y + 1) = rr y - 2651) := by
  have e := parts_next y
  rw [if_pos h] at e
  rw [molad_parts, molad_parts]
  unfold rr
  omega
theorem D1_is (y : Int) : (D1 y = molad y + 1 ∧ (molad y % 7 = 2 ∨ molad y % 7 = 4 ∨ molad y % 7 = 6)) ∨ (D1 y = molad y ∧ (molad y % 7 = 0 ∨ molad y % 7 = 1 ∨ molad y % 7 = 3 ∨ molad y % 7 = 5)) := by
  unfold D1
  generalize molad y = q
  have hq : q % 7 = 0 ∨ q % 7 = 1 ∨ q % 7 = 2 ∨ q % 7 = 3 ∨ q % 7 = 4 ∨ q % 7 = 5 ∨ q % 7 = 6 := by omega
  rcases hq with h | h | h | h | h | h | h
  · rw [if_neg (by omega)]; exact .inr ⟨rfl, by omega⟩
  · rw [if_neg (by omega)]; exact .inr ⟨rfl, by omega⟩
  · rw [if_pos (by omega)]; exact .inl ⟨rfl, by omega⟩
  · rw [if_neg (by omega)]; exact .inr ⟨rfl, by omega⟩
  · rw [if_pos (by omega)]; exact .inl ⟨rfl, by omega⟩
  · rw [if_neg (by omega)]; exact .inr ⟨rfl, by omega⟩
  · rw [if_pos (by omega)]; exact .inl ⟨rfl, by omega⟩
theorem f356 {y : Int} (h : D1 (y + 1) - D1 y = 356) : ¬ leapH y ∧ molad y % 7 = 1 ∧ molad (y + 1) = molad y + 355 ∧ 16404 ≤ rr y := by
  have b := rr_bd (y + 1)
  have d0 := D1_is y
  have d1 := D1_is (y + 1)
  by_cases hl : leapH y
  · exfalso
    have s := stepB hl
    omega
  · have s := stepA hl
    refine ⟨hl, ?_⟩
    omega
theorem f382 {y : Int} (h : D1 (y + 1) - D1 y = 382) : leapH y ∧ molad (y + 1) % 7 = 0 ∧ 23269 ≤ rr (y + 1) := by
  have b := rr_bd y
  have d0 := D1_is y
  have d1 := D1_is (y + 1)
  by_cases hl : leapH y
  · have s := stepB hl
    refine ⟨hl, ?_⟩
    omega
  · exfalso
    have s := stepA hl
    omega
theorem D2_is (y : Int) : (D1 (y + 1) - D1 y = 356 ∧ D2 y = 2) ∨ (D1 (y + 1) - D1 y ≠ 356 ∧ D1 y - D1 (y - 1) = 382 ∧ D2 y = 1) ∨ (D1 (y + 1) - D1 y ≠ 356 ∧ D1 y - D1 (y - 1) ≠ 382 ∧ D2 y = 0) := by
  unfold D2; omega
theorem LH_is (y : Int) : LH y = D1 (y + 1) - D1 y + D2 (y + 1) - D2 y := by unfold LH TH; omega
theorem LH_A {y : Int} (h : ¬ leapH y) : LH y = 353 ∨ LH y = 354 ∨ LH y = 355 := by
  have b0 := rr_bd y
  have b1 := rr_bd (y + 1)
  have s := stepA h
  have d0 := D1_is y
  have d1 := D1_is (y + 1)
  have c1 := D2_is (y + 1)
  rw [show y + 1 - 1 = y by omega] at c1
  have l := LH_is y
  rcases D2_is y with ⟨c, e⟩ | ⟨c, c', e⟩ | ⟨c, c', e⟩
  · obtain ⟨_, g1, g2, g3⟩ := f356 c
    have n : ¬ D1 (y + 1 + 1) - D1 (y + 1) = 356 := fun c2 => by
      have := (f356 c2).2.1
      omega
    omega
  · have q := f382 (y := y - 1) (by rw [show y - 1 + 1 = y by omega]; exact c')
    rw [show y - 1 + 1 = y by omega] at q
    obtain ⟨_, g1, g2⟩ := q
    have n : ¬ D1 (y + 1 + 1) - D1 (y + 1) = 356 := fun c2 => by
      have := (f356 c2).2.1
      omega
    omega
  · by_cases c2 : D1 (y + 1 + 1) - D1 (y + 1) = 356
    · obtain ⟨_, g1, g2, g3⟩ := f356 c2
      omega
    · omega
theorem LH_B {y : Int} (h : leapH y) : LH y = 383 ∨ LH y = 384 ∨ LH y = 385 := by
  have b0 := rr_bd y
  have b1 := rr_bd (y + 1)
  have s := stepB h
  have d0 := D1_is y
  have d1 := D1_is (y + 1)
  have c1 := D2_is (y + 1)
  rw [show y + 1 - 1 = y by omega] at c1
  have l := LH_is y
  rcases D2_is y with ⟨c, e⟩ | ⟨c, c', e⟩ | ⟨c, c', e⟩
  · exact absurd h (f356 c).1
  · have q := f382 (y := y - 1) (by rw [show y - 1 + 1 = y by omega]; exact c')
    have := leap_next q.1
    rw [show y - 1 + 1 = y by omega] at this
    exact absurd h this
  · by_cases c2 : D1 (y + 1 + 1) - D1 (y + 1) = 356
    · obtain ⟨_, g1, g2, g3⟩ := f356 c2
      omega
    · omega

/- P2 -/
theorem sumML_succ (y a : Int) (k : Nat) : sumML y a (k + 1) = sumML y a k + ML y (a + k) := by
  unfold sumML rangeKs
  rw [List.range_succ]
  simp
theorem sumML_zero (y a : Int) : sumML y a 0 = 0 := by
  unfold sumML rangeKs
  simp
theorem TH_next (y : Int) : TH y + 353 ≤ TH (y + 1) := by
  have e : LH y = TH (y + 1) - TH y := rfl
  by_cases h : leapH y
  · have := LH_B h
    omega
  · have := LH_A h
    omega
theorem TH_count (n : Int) (h : 347998 ≤ n) : TH ((n - 347996) * 98496 / 35975351 - 1) ≤ n := by
  have hc : 35975351 * ((n - 347996) * 98496 / 35975351) ≤ (n - 347996) * 98496 := by omega
  generalize (n - 347996) * 98496 / 35975351 = c at *
  have d := D1_is (c - 1)
  have d2 := D2_is (c - 1)
  have m1 := molad_parts (c - 1)
  have m2 : parts (c - 1) = 765433 * ((235 * (c - 1) - 234) / 19) + 12084 := rfl
  have m3 : 19 * ((235 * (c - 1) - 234) / 19) ≤ 235 * (c - 1) - 234 := by omega
  generalize (235 * (c - 1) - 234) / 19 = mo at *
  have m4 : 25920 * molad (c - 1) ≤ parts (c - 1) := by omega
  have e : TH (c - 1) = 347996 + D1 (c - 1) + D2 (c - 1) + 1 + 1 := rfl
  have f1 : D1 (c - 1) ≤ molad (c - 1) + 1 := by omega
  have f2 : D2 (c - 1) ≤ 2 := by omega
  clear d d2 m1 
  omega
theorem SH_next (y m : Int) (h1 : 1 ≤ m) (h : m ≤ 5 ∨ (7 ≤ m ∧ m < monthsH y)) : SH y (m + 1) = SH y m + ML y m := by
  unfold SH
  rcases h with h | ⟨h, _⟩
  · rw [if_pos (by omega), if_pos (by omega), show (m + 1 - 1).toNat = (m - 1).toNat + 1 by omega, sumML_succ, show (1 : Int) + ((m - 1).toNat : Int) = m by omega]
    omega
  · rw [if_neg (by omega), if_neg (by omega), show (m + 1 - 7).toNat = (m - 7).toNat + 1 by omega, sumML_succ, show (7 : Int) + ((m - 7).toNat : Int) = m by omega]
theorem SH_last (y : Int) : SH y (monthsH y) + ML y (monthsH y) = SH y 1 := by
  have hm : 12 ≤ monthsH y ∧ monthsH y ≤ 13 := by unfold monthsH; split <;> omega
  unfold SH
  rw [if_neg (by omega), if_pos (by omega), show (monthsH y + 1 - 7).toNat = (monthsH y - 7).toNat + 1 by omega, sumML_succ, show (7 : Int) + ((monthsH y - 7).toNat : Int) = monthsH y by omega,
    show ((1 : Int) - 1).toNat = 0 from rfl, sumML_zero]
  omega
theorem SH_six (y : Int) : SH y 6 + ML y 6 = LH y := by
  have k1 : ML y 1 = 30 := by simp [ML]
  have k2 : ML y 2 = 29 := by simp [ML]
  have k3 : ML y 3 = 30 := by simp [ML]
  have k4 : ML y 4 = 29 := by simp [ML]
  have k5 : ML y 5 = 30 := by simp [ML]
  have k6 : ML y 6 = 29 := by simp [ML]
  have k7 : ML y 7 = 30 := by simp [ML]
  have k8 : ML y 8 = if LH y % 10 ≠ 5 then 29 else 30 := by simp [ML]
  have k9 : ML y 9 = if LH y % 10 = 3 then 29 else 30 := by simp [ML]
  have k10 : ML y 10 = 29 := by simp [ML]
  have k11 : ML y 11 = 30 := by simp [ML]
  have k13 : ML y 13 = 29 := by simp [ML]
  have s5 : sumML y 1 5 = 148 := by
    simp only [sumML_succ, sumML_zero]
    have e : ∀ k : Nat, ML y (1 + (k : Int)) = ML y (1 + (k : Int)) := fun _ => rfl
    show 0 + ML y 1 + ML y 2 + ML y 3 + ML y 4 + ML y 5 = 148
    omega
  have s5' : sumML y 7 5 = 89 + ML y 8 + ML y 9 := by
    simp only [sumML_succ, sumML_zero]
    show 0 + ML y 7 + ML y 8 + ML y 9 + ML y 10 + ML y 11 = 89 + ML y 8 + ML y 9
    omega
  unfold SH
  rw [if_pos (by omega), show ((6 : Int) - 1).toNat = 5 from rfl, s5, k6]
  by_cases h : leapH y
  · have k12 : ML y 12 = 30 := by simp [ML, h]
    have hm : monthsH y = 13 := if_pos h
    rw [hm, show ((13 : Int) + 1 - 7).toNat = 5 + 1 + 1 from rfl, sumML_succ, sumML_succ, s5']
    have e12 : ML y (7 + ((5 : Nat) : Int)) = 30 := k12
    have e13 : ML y (7 + ((5 + 1 : Nat) : Int)) = 29 := k13
    rw [e12, e13, k8, k9]
    rcases LH_B h with e | e | e <;> rw [e] <;> decide
  · have k12 : ML y 12 = 29 := by simp [ML, h]
    have hm : monthsH y = 12 := if_neg h
    rw [hm, show ((12 : Int) + 1 - 7).toNat = 5 + 1 from rfl, sumML_succ, s5']
    have e12 : ML y (7 + ((5 : Nat) : Int)) = 29 := k12
    rw [e12, k8, k9]
    rcases LH_A h with e | e | e <;> rw [e] <;> decide

/- H4 -/
def W1 (n i yr : Int) : Prop := i = yr + 1 ∧ 0 ≤ i ∧ TH yr ≤ n
def W2 (n yr i mo : Int) : Prop := mo = i ∧ TH yr ≤ n ∧ n < TH (yr + 1) ∧ -1 ≤ yr ∧ ((1 ≤ i ∧ i ≤ 6) ∨ (7 ≤ i ∧ i ≤ monthsH yr ∧ n < TH yr + SH yr 1))
theorem months_bd (y : Int) : 12 ≤ monthsH y ∧ monthsH y ≤ 13 := by unfold monthsH; split <;> omega
theorem W1_start {n : Int} (h : 347998 ≤ n) : W1 n ((n - 347996) * 98496 / 35975351) ((n - 347996) * 98496 / 35975351 - 1) := ⟨by omega, by omega, TH_count n h⟩
theorem W1_turn {n i yr r : Int} (h : W1 n i yr) (e : r = TH i) (c : r ≤ n) : W1 n (i + 1) (yr + 1) := by
  obtain ⟨h1, h2, _⟩ := h
  subst h1
  exact ⟨by omega, by omega, by omega⟩
theorem W1_less {n i yr r : Int} (_h : W1 n i yr) (e : r = TH i) (c : r ≤ n) : (n + 400 - TH (i + 1)).toNat < (n + 400 - TH i).toNat := by
  have := TH_next i
  omega
theorem W1_a {n i yr : Int} (h : W1 n i yr) : i = yr + 1 ∧ 0 ≤ i := ⟨h.1, h.2.1⟩
theorem W2_a {n i yr mo : Int} (h : W2 n yr i mo) : mo = i ∧ -1 ≤ yr ∧ 1 ≤ i ∧ i ≤ 13 := by
  have := months_bd yr
  obtain ⟨h1, _, _, h4, h5⟩ := h
  refine ⟨h1, h4, ?_, ?_⟩ <;> omega
theorem W2_start7 {n i yr r r' : Int} (h : W1 n i yr) (e : r = TH i) (c : ¬ r ≤ n) (e' : r' = TH yr - 1 + 1 + SH yr 1) (c' : n < r') : W2 n yr 7 7 := by
  obtain ⟨h1, h2, h3⟩ := h
  subst h1
  have := months_bd yr
  exact ⟨rfl, h3, by omega, by omega, .inr ⟨by omega, by omega, by omega⟩⟩
theorem W2_start1 {n i yr r : Int} (h : W1 n i yr) (e : r = TH i) (c : ¬ r ≤ n) : W2 n yr 1 1 := by
  obtain ⟨h1, h2, h3⟩ := h
  subst h1
  exact ⟨rfl, h3, by omega, by omega, .inl ⟨by omega, by omega⟩⟩
theorem W2_turn {n i yr mo r r' : Int} (h : W2 n yr i mo) (e : r = ML yr i ∧ 29 ≤ r ∧ r ≤ 30) (e' : r' = TH yr - 1 + r + SH yr i) (c : r' < n) : W2 n yr (i + 1) (mo + 1) := by
  obtain ⟨h1, h2, h3, h4, h5⟩ := h
  refine ⟨by omega, h2, h3, h4, ?_⟩
  obtain ⟨e, -, -⟩ := e
  rcases h5 with h5 | h5
  · by_cases h6 : i = 6
    · subst h6
      have := SH_six yr
      unfold LH at this
      omega
    · exact .inl ⟨by omega, by omega⟩
  · by_cases h6 : i = monthsH yr
    · have := SH_last yr
      rw [h6] at e e'
      omega
    · exact .inr ⟨by omega, by omega, by omega⟩
theorem W2_less {n i yr mo : Int} (h : W2 n yr i mo) : (14 - (i + 1)).toNat < (14 - i).toNat := by
  have := W2_a h
  omega
theorem W2_end {n i yr mo : Int} (h : W2 n yr i mo) : TH yr ≤ n ∧ n < TH (yr + 1) := ⟨h.2.1, h.2.2.1⟩
local macro_rules | `(tactic| walk_at "call ref") => `(tactic| (k_here; first | (k_dflt (refine' Called.use (c_toJdH7 _ _ _ _) ?k1 ?k2 ?k3 ?k4 ?k5 ?kK ?kp ?kd ?ku ?_); (case k1 => k_asm); (case k2 => k_asm); (case k3 => k_asm); (case k4 => k_asm); (case k5 => k_asm); (case kK => first | exact rfl | assumption); (case kp => first | trivial | assumption | omega | ((repeat' apply And.intro) <;> omega) | k_extra "kp"); (case kd => ktr_room); (case ku => ktr_units); first | (refine RtT.mk ?_; intro x9 y9 z9 t9 t8 t7 c9 D9 h9 tk9 hP9 F9 N9 l9; (try dsimp only at hP9); clear l9; (try dsimp only); (try k_fold)) | (refine RtI.mk ?_; intro r9 t9 h9 tk9 hP9 F9 N9; (try dsimp only at hP9); (try dsimp only); (try k_fold)) | (refine RtB.mk ?_; intro r9 h9 tk9 hP9 F9 N9; (try dsimp only at hP9); (try dsimp only); (try k_fold))) | (k_dflt (refine' Called.use (c_toJdH _ _ _ _ _ _) ?k1 ?k2 ?k3 ?k4 ?k5 ?kK ?kp ?kd ?ku ?_); (case k1 => k_asm); (case k2 => k_asm); (case k3 => k_asm); (case k4 => k_asm); (case k5 => k_asm); (case kK => first | exact rfl | assumption); (case kp => first | trivial | assumption | omega | ((repeat' apply And.intro) <;> omega) | k_extra "kp"); (case kd => ktr_room); (case ku => ktr_units); first | (refine RtT.mk ?_; intro x9 y9 z9 t9 t8 t7 c9 D9 h9 tk9 hP9 F9 N9 l9; (try dsimp only at hP9); clear l9; (try dsimp only); (try k_fold)) | (refine RtI.mk ?_; intro r9 t9 h9 tk9 hP9 F9 N9; (try dsimp only at hP9); (try dsimp only); (try k_fold)) | (refine RtB.mk ?_; intro r9 h9 tk9 hP9 F9 N9; (try dsimp only at hP9); (try dsimp only); (try k_fold))) | (k_dflt (refine' Called.use (c_mdays _ _ _ _) ?k1 ?k2 ?k3 ?k4 ?k5 ?kK ?kp ?kd ?ku ?_); (case k1 => k_asm); (case k2 => k_asm); (case k3 => k_asm); (case k4 => k_asm); (case k5 => k_asm); (case kK => first | exact rfl | assumption); (case kp => first | trivial | assumption | omega | ((repeat' apply And.intro) <;> omega) | k_extra "kp"); (case kd => ktr_room); (case ku => ktr_units); first | (refine RtT.mk ?_; intro x9 y9 z9 t9 t8 t7 c9 D9 h9 tk9 hP9 F9 N9 l9; (try dsimp only at hP9); clear l9; (try dsimp only); (try k_fold)) | (refine RtI.mk ?_; intro r9 t9 h9 tk9 hP9 F9 N9; (try dsimp only at hP9); (try dsimp only); (try k_fold)) | (refine RtB.mk ?_; intro r9 h9 tk9 hP9 F9 N9; (try dsimp only at hP9); (try dsimp only); (try k_fold)))))
theorem c_fromH (n : Int) (t : Tok) : Called 9 163 (347998 ≤ n) [.int n t] (RtT fun x y z => TH x ≤ n ∧ n < TH (x + 1)) := by
  k_with_none
  k_with "exec While Compare cons nil" => k_while_given ["jd"] (fun n _ i yr => W1 n i yr) (fun n _ i yr => (n + 400 - TH i).toNat) "i" "year"
  k_with "exec While Compare cons nil" => k_while_given ["jd", "year"] (fun n yr _ i mo => W2 n yr i mo) (fun n yr _ i mo => (14 - i).toNat) "i" "month"
  k_with "state" => first
    | exact W1_start (by assumption)
    | exact W1_turn (by assumption) (by assumption) (by assumption)
    | exact W2_start7 (by assumption) (by assumption) (by assumption) (by assumption) (by assumption)
    | exact W2_start1 (by assumption) (by assumption) (by assumption)
    | exact W2_turn (by assumption) (by assumption) (by assumption) (by assumption)
  k_with "measure" => first
    | exact W2_less (by assumption)
    | exact W1_less (by assumption) (by assumption) (by assumption)
  k_with "kp" => ((have q9 := (by first | exact W2_a (by assumption) | exact W1_a (by assumption))); ((repeat' apply And.intro) <;> omega))
  (unfold Called; k_fill; intros; refine wpAny_call ?_; (first | k_dflt cell_enter | fail "not entered"))
  k_steps
  all_goals (first | refine RtI.use (by assumption) ?_ (by k_asm) (by first | k_asm | exact cb_drop (by assumption) (fun _ hp => by repeat (first | exact hp | apply List.mem_cons_of_mem))) | refine RtB.use (by assumption) ?_ (by k_asm) (by first | k_asm | exact cb_drop (by assumption) (fun _ hp => by repeat (first | exact hp | apply List.mem_cons_of_mem))) | refine RtT.use (by assumption) (by k_asm) (by first | k_asm | exact newsDrop1 (by assumption)) (by first | assumption | exact allLt_all (And.right (by assumption)) | k_asm) ?_)
  all_goals exact W2_end (by assumption)

/- L1 -/
def yN (n : Int) : Int := if n - toJdG (yG n) 1 1 < 80 then yG n - 78 - 1 else yG n - 78
/-- o is the other calendar's year number of day n -/
def Other (w n o : Int) : Prop :=
  (w = 0 ∧ o = yG n) ∨ (w = 1 ∧ o = yJ n) ∨ (w = 2 ∧ o = (4 * (n - 1825030) + 1463) / 1461) ∨ (w = 3 ∧ o = yN n) ∨ (w = 4 ∧ o = (n - 1922502 - 1) / 365) ∨ (w = 5 ∧ o = yS n) ∨ (w ≠ 0 ∧ w ≠ 1 ∧ w ≠ 2 ∧ w ≠ 3 ∧ w ≠ 4 ∧ w ≠ 5 ∧ TH o ≤ n ∧ n < TH (o + 1))
def PreO (w n : Int) : Prop := (w = 4 → 1922868 ≤ n) ∧ (w = 5 → 2117212 ≤ n) ∧ (w = 6 → 347998 ≤ n) ∧ 0 ≤ w ∧ w ≤ 6
local macro_rules | `(tactic| walk_at "call ref") => `(tactic| (k_here; first | (k_dflt (refine' Called.use (c_fromI _ _) ?k1 ?k2 ?k3 ?k4 ?k5 ?kK ?kp ?kd ?ku ?_); (case k1 => k_asm); (case k2 => k_asm); (case k3 => k_asm); (case k4 => k_asm); (case k5 => k_asm); (case kK => first | exact rfl | assumption); (case kp => first | trivial | assumption | omega | ((repeat' apply And.intro) <;> omega) | k_extra "kp"); (case kd => ktr_room); (case ku => ktr_units); first | (refine RtT.mk ?_; intro x9 y9 z9 t9 t8 t7 c9 D9 h9 tk9 hP9 F9 N9 l9; (try dsimp only at hP9); clear l9; (try dsimp only); (try k_fold)) | (refine RtI.mk ?_; intro r9 t9 h9 tk9 hP9 F9 N9; (try dsimp only at hP9); (try dsimp only); (try k_fold)) | (refine RtB.mk ?_; intro r9 h9 tk9 hP9 F9 N9; (try dsimp only at hP9); (try dsimp only); (try k_fold))) | (k_dflt (refine' Called.use (c_fromG _ _) ?k1 ?k2 ?k3 ?k4 ?k5 ?kK ?kp ?kd ?ku ?_); (case k1 => k_asm); (case k2 => k_asm); (case k3 => k_asm); (case k4 => k_asm); (case k5 => k_asm); (case kK => first | exact rfl | assumption); (case kp => first | trivial | assumption | omega | ((repeat' apply And.intro) <;> omega) | k_extra "kp"); (case kd => ktr_room); (case ku => ktr_units); first | (refine RtT.mk ?_; intro x9 y9 z9 t9 t8 t7 c9 D9 h9 tk9 hP9 F9 N9 l9; (try dsimp only at hP9); clear l9; (try dsimp only); (try k_fold)) | (refine RtI.mk ?_; intro r9 t9 h9 tk9 hP9 F9 N9; (try dsimp only at hP9); (try dsimp only); (try k_fold)) | (refine RtB.mk ?_; intro r9 h9 tk9 hP9 F9 N9; (try dsimp only at hP9); (try dsimp only); (try k_fold))) | (k_dflt (refine' Called.use (c_fromJ _ _) ?k1 ?k2 ?k3 ?k4 ?k5 ?kK ?kp ?kd ?ku ?_); (case k1 => k_asm); (case k2 => k_asm); (case k3 => k_asm); (case k4 => k_asm); (case k5 => k_asm); (case kK => first | exact rfl | assumption); (case kp => first | trivial | assumption | omega | ((repeat' apply And.intro) <;> omega) | k_extra "kp"); (case kd => ktr_room); (case ku => ktr_units); first | (refine RtT.mk ?_; intro x9 y9 z9 t9 t8 t7 c9 D9 h9 tk9 hP9 F9 N9 l9; (try dsimp only at hP9); clear l9; (try dsimp only); (try k_fold)) | (refine RtI.mk ?_; intro r9 t9 h9 tk9 hP9 F9 N9; (try dsimp only at hP9); (try dsimp only); (try k_fold)) | (refine RtB.mk ?_; intro r9 h9 tk9 hP9 F9 N9; (try dsimp only at hP9); (try dsimp only); (try k_fold))) | (k_dflt (refine' Called.use (c_fromC _ _) ?k1 ?k2 ?k3 ?k4 ?k5 ?kK ?kp ?kd ?ku ?_); (case k1 => k_asm); (case k2 => k_asm); (case k3 => k_asm); (case k4 => k_asm); (case k5 => k_asm); (case kK => first | exact rfl | assumption); (case kp => first | trivial | assumption | omega | ((repeat' apply And.intro) <;> omega) | k_extra "kp"); (case kd => ktr_room); (case ku => ktr_units); first | (refine RtT.mk ?_; intro x9 y9 z9 t9 t8 t7 c9 D9 h9 tk9 hP9 F9 N9 l9; (try dsimp only at hP9); clear l9; (try dsimp only); (try k_fold)) | (refine RtI.mk ?_; intro r9 t9 h9 tk9 hP9 F9 N9; (try dsimp only at hP9); (try dsimp only); (try k_fold)) | (refine RtB.mk ?_; intro r9 h9 tk9 hP9 F9 N9; (try dsimp only at hP9); (try dsimp only); (try k_fold))) | (k_dflt (refine' Called.use (c_fromN _ _) ?k1 ?k2 ?k3 ?k4 ?k5 ?kK ?kp ?kd ?ku ?_); (case k1 => k_asm); (case k2 => k_asm); (case k3 => k_asm); (case k4 => k_asm); (case k5 => k_asm); (case kK => first | exact rfl | assumption); (case kp => first | trivial | assumption | omega | ((repeat' apply And.intro) <;> omega) | k_extra "kp"); (case kd => ktr_room); (case ku => ktr_units); first | (refine RtT.mk ?_; intro x9 y9 z9 t9 t8 t7 c9 D9 h9 tk9 hP9 F9 N9 l9; (try dsimp only at hP9); clear l9; (try dsimp only); (try k_fold)) | (refine RtI.mk ?_; intro r9 t9 h9 tk9 hP9 F9 N9; (try dsimp only at hP9); (try dsimp only); (try k_fold)) | (refine RtB.mk ?_; intro r9 h9 tk9 hP9 F9 N9; (try dsimp only at hP9); (try dsimp only); (try k_fold))) | (k_dflt (refine' Called.use (c_fromA _ _) ?k1 ?k2 ?k3 ?k4 ?k5 ?kK ?kp ?kd ?ku ?_); (case k1 => k_asm); (case k2 => k_asm); (case k3 => k_asm); (case k4 => k_asm); (case k5 => k_asm); (case kK => first | exact rfl | assumption); (case kp => first | trivial | assumption | omega | ((repeat' apply And.intro) <;> omega) | k_extra "kp"); (case kd => ktr_room); (case ku => ktr_units); first | (refine RtT.mk ?_; intro x9 y9 z9 t9 t8 t7 c9 D9 h9 tk9 hP9 F9 N9 l9; (try dsimp only at hP9); clear l9; (try dsimp only); (try k_fold)) | (refine RtI.mk ?_; intro r9 t9 h9 tk9 hP9 F9 N9; (try dsimp only at hP9); (try dsimp only); (try k_fold)) | (refine RtB.mk ?_; intro r9 h9 tk9 hP9 F9 N9; (try dsimp only at hP9); (try dsimp only); (try k_fold))) | (k_dflt (refine' Called.use (c_fromS _ _ _) ?k1 ?k2 ?k3 ?k4 ?k5 ?kK ?kp ?kd ?ku ?_); (case k1 => k_asm); (case k2 => k_asm); (case k3 => k_asm); (case k4 => k_asm); (case k5 => k_asm); (case kK => first | exact rfl | assumption); (case kp => first | trivial | assumption | omega | ((repeat' apply And.intro) <;> omega) | k_extra "kp"); (case kd => ktr_room); (case ku => ktr_units); first | (refine RtT.mk ?_; intro x9 y9 z9 t9 t8 t7 c9 D9 h9 tk9 hP9 F9 N9 l9; (try dsimp only at hP9); clear l9; (try dsimp only); (try k_fold)) | (refine RtI.mk ?_; intro r9 t9 h9 tk9 hP9 F9 N9; (try dsimp only at hP9); (try dsimp only); (try k_fold)) | (refine RtB.mk ?_; intro r9 h9 tk9 hP9 F9 N9; (try dsimp only at hP9); (try dsimp only); (try k_fold))) | (k_dflt (refine' Called.use (c_fromH _ _) ?k1 ?k2 ?k3 ?k4 ?k5 ?kK ?kp ?kd ?ku ?_); (case k1 => k_asm); (case k2 => k_asm); (case k3 => k_asm); (case k4 => k_asm); (case k5 => k_asm); (case kK => first | exact rfl | assumption); (case kp => first | trivial | assumption | omega | ((repeat' apply And.intro) <;> omega) | k_extra "kp"); (case kd => ktr_room); (case ku => ktr_units); first | (refine RtT.mk ?_; intro x9 y9 z9 t9 t8 t7 c9 D9 h9 tk9 hP9 F9 N9 l9; (try dsimp only at hP9); clear l9; (try dsimp only); (try k_fold)) | (refine RtI.mk ?_; intro r9 t9 h9 tk9 hP9 F9 N9; (try dsimp only at hP9); (try dsimp only); (try k_fold)) | (refine RtB.mk ?_; intro r9 h9 tk9 hP9 F9 N9; (try dsimp only at hP9); (try dsimp only); (try k_fold)))))
theorem c_other (w n : Int) (t u : Tok) : Called 10 192 (PreO w n) [.int w t, .int n u] (RtI fun r => Other w n r) := by
  k_with_none
  k_with "kp" => ((rename PreO _ _ => q9); (unfold PreO at q9); omega)
  (unfold Called; k_fill; intros; refine wpAny_call ?_; (first | k_dflt cell_enter | fail "not entered"))
  k_steps
  all_goals (first | refine RtI.use (by assumption) ?_ (by k_asm) (by first | k_asm | exact cb_drop (by assumption) (fun _ hp => by repeat (first | exact hp | apply List.mem_cons_of_mem))) | refine RtB.use (by assumption) ?_ (by k_asm) (by first | k_asm | exact cb_drop (by assumption) (fun _ hp => by repeat (first | exact hp | apply List.mem_cons_of_mem))) | refine RtT.use (by assumption) (by k_asm) (by first | k_asm | exact newsDrop1 (by assumption)) (by first | assumption | exact allLt_all (And.right (by assumption)) | k_asm) ?_)
  all_goals (unfold Other)
  all_goals first
    | exact .inl ⟨by assumption, And.left (by assumption)⟩
    | exact .inr (.inl ⟨by assumption, And.left (by assumption)⟩)
    | exact .inr (.inr (.inl ⟨by assumption, by assumption⟩))
    | exact .inr (.inr (.inr (.inl ⟨by assumption, by assumption⟩)))
    | exact .inr (.inr (.inr (.inr (.inl ⟨by assumption, by assumption⟩))))
    | exact .inr (.inr (.inr (.inr (.inr (.inl ⟨by assumption, by assumption⟩)))))
    | exact .inr (.inr (.inr (.inr (.inr (.inr ⟨by assumption, by assumption, by assumption, by assumption, by assumption, by assumption, by assumption⟩)))))
local macro_rules | `(tactic| walk_at "call ref") => `(tactic| (k_here; first | (k_dflt (refine' Called.use (c_fromI _ _) ?k1 ?k2 ?k3 ?k4 ?k5 ?kK ?kp ?kd ?ku ?_); (case k1 => k_asm); (case k2 => k_asm); (case k3 => k_asm); (case k4 => k_asm); (case k5 => k_asm); (case kK => first | exact rfl | assumption); (case kp => first | trivial | assumption | omega | ((repeat' apply And.intro) <;> omega) | k_extra "kp"); (case kd => ktr_room); (case ku => ktr_units); first | (refine RtT.mk ?_; intro x9 y9 z9 t9 t8 t7 c9 D9 h9 tk9 hP9 F9 N9 l9; (try dsimp only at hP9); clear l9; (try dsimp only); (try k_fold)) | (refine RtI.mk ?_; intro r9 t9 h9 tk9 hP9 F9 N9; (try dsimp only at hP9); (try dsimp only); (try k_fold)) | (refine RtB.mk ?_; intro r9 h9 tk9 hP9 F9 N9; (try dsimp only at hP9); (try dsimp only); (try k_fold))) | (k_dflt (refine' Called.use (c_other _ _ _ _) ?k1 ?k2 ?k3 ?k4 ?k5 ?kK ?kp ?kd ?ku ?_); (case k1 => k_asm); (case k2 => k_asm); (case k3 => k_asm); (case k4 => k_asm); (case k5 => k_asm); (case kK => first | exact rfl | assumption); (case kp => first | trivial | assumption | omega | ((repeat' apply And.intro) <;> omega) | k_extra "kp"); (case kd => ktr_room); (case ku => ktr_units); first | (refine RtT.mk ?_; intro x9 y9 z9 t9 t8 t7 c9 D9 h9 tk9 hP9 F9 N9 l9; (try dsimp only at hP9); clear l9; (try dsimp only); (try k_fold)) | (refine RtI.mk ?_; intro r9 t9 h9 tk9 hP9 F9 N9; (try dsimp only at hP9); (try dsimp only); (try k_fold)) | (refine RtB.mk ?_; intro r9 h9 tk9 hP9 F9 N9; (try dsimp only at hP9); (try dsimp only); (try k_fold)))))
/-- the Islamic year number less the other one -/
def Apart (w n r : Int) : Prop := ∃ o, Other w n o ∧ r = yI n - o
theorem apart_end {w n x y z r : Int} (h : x = yI n ∧ y = mI n ∧ z = n - toJdI x y 1 + 1) (k : Other w n r) : Apart w n (x - r) := ⟨r, k, by rw [h.1]⟩
theorem c_apart (w n : Int) (t u : Tok) : Called 11 199 (PreO w n) [.int w t, .int n u] (RtI fun r => Apart w n r) := by
  k_with_none
  (unfold Called; k_fill; intros; refine wpAny_call ?_; (first | k_dflt cell_enter | fail "not entered"))
  k_steps
  all_goals (first | refine RtI.use (by assumption) ?_ (by k_asm) (by first | k_asm | exact cb_drop (by assumption) (fun _ hp => by repeat (first | exact hp | apply List.mem_cons_of_mem))) | refine RtB.use (by assumption) ?_ (by k_asm) (by first | k_asm | exact cb_drop (by assumption) (fun _ hp => by repeat (first | exact hp | apply List.mem_cons_of_mem))) | refine RtT.use (by assumption) (by k_asm) (by first | k_asm | exact newsDrop1 (by assumption)) (by first | assumption | exact allLt_all (And.right (by assumption)) | k_asm) ?_)
  all_goals exact apart_end (by assumption) (by assumption)

/- P3 -/
/-- the first day of the Islamic year -/
def stI (x : Int) : Int := 1948440 + 354 * (x - 1) + (3 + 11 * x) / 30
theorem yI_bd (n : Int) : stI (yI n) ≤ n ∧ n < stI (yI n + 1) := by
  unfold stI yI
  omega
theorem stI_mono {a b : Int} (h : a ≤ b) : stI a ≤ stI b := by
  unfold stI
  omega
/-- what the law asks of a calendar whose year number is o -/
def Facts (f l n r : Int) : Prop := (n < f → r < 0) ∧ (l < n → 0 < r) ∧ (n = f - 1 → r = -1) ∧ (n = f → r = 0) ∧ (n = l → r = 0) ∧ (n = l + 1 → r = 1)
def Mid (f l n r : Int) : Prop := f ≤ n → n ≤ l → -1 ≤ r ∧ r ≤ 1
theorem facts_of (st : Int → Int) (mono : ∀ a b, a ≤ b → st a ≤ st b) {f l yf yl : Int} (hfl : yf ≤ yl) (hf : stI yf = f) (hl : stI (yl + 1) = l + 1)
    (h1 : ∀ x, x ≤ yf - 1 → st (x + 1) ≤ stI x) (h2 : ∀ x, yl + 1 ≤ x → stI (x + 1) ≤ st x)
    (ef : st yf ≤ f - 1 ∧ f < st (yf + 1)) (el : st yl ≤ l ∧ l + 1 < st (yl + 1)) (n o : Int) (ho : st o ≤ n ∧ n < st (o + 1)) : Facts f l n (yI n - o) := by
  have hx := yI_bd n
  generalize yI n = x at *
  have lt_of : ∀ a b, st a < st b → a < b := fun a b h => by
    rcases Int.lt_or_le a b with q | q
    · exact q
    · have := mono b a q
      omega
  have ltI : ∀ a b, stI a < stI b → a < b := fun a b h => by
    rcases Int.lt_or_le a b with q | q
    · exact q
    · have := stI_mono q
      omega
  refine ⟨fun h => ?_, fun h => ?_, fun h => ?_, fun h => ?_, fun h => ?_, fun h => ?_⟩
  · have a1 := ltI x yf (by omega)
    have a2 := h1 x (by omega)
    have a3 := lt_of (x + 1) (o + 1) (by omega)
    omega
  · have a1 := ltI (yl + 1) (x + 1) (by omega)
    have a2 := h2 x (by omega)
    have a3 := lt_of o x (by omega)
    omega
  · have a1 := ltI x yf (by omega)
    have a2 := ltI (yf - 1) (x + 1) (by have := stI_mono (a := yf - 1) (b := yf) (by omega); unfold stI at *; omega)
    have a3 := lt_of o (yf + 1) (by omega)
    have a4 := lt_of yf (o + 1) (by omega)
    omega
  · have a1 := ltI yf (x + 1) (by omega)
    have a2 := ltI x (yf + 1) (by unfold stI at *; omega)
    have a3 := lt_of o (yf + 1) (by omega)
    have a4 := lt_of yf (o + 1) (by omega)
    omega
  · have a1 := ltI x (yl + 1) (by omega)
    have a2 := ltI yl (x + 1) (by unfold stI at *; omega)
    have a3 := lt_of o (yl + 1) (by omega)
    have a4 := lt_of yl (o + 1) (by omega)
    omega
  · have a1 := ltI (yl + 1) (x + 1) (by omega)
    have a2 := ltI x (yl + 2) (by unfold stI at *; omega)
    have a3 := lt_of o (yl + 1) (by omega)
    have a4 := lt_of yl (o + 1) (by omega)
    omega
theorem mid_of (st : Int → Int) (mono : ∀ a b, a ≤ b → st a ≤ st b) {f l yf yl : Int} (hf : stI yf = f) (hl : stI (yl + 1) = l + 1)
    (h3 : ∀ x, yf ≤ x → x ≤ yl → stI (x + 1) ≤ st (x + 2)) (h4 : ∀ x, yf ≤ x → x ≤ yl → st (x - 1) ≤ stI x) (n o : Int) (ho : st o ≤ n ∧ n < st (o + 1)) : Mid f l n (yI n - o) := by
  intro hn1 hn2
  have hx := yI_bd n
  generalize yI n = x at *
  have lt_of : ∀ a b, st a < st b → a < b := fun a b h => by
    rcases Int.lt_or_le a b with q | q
    · exact q
    · have := mono b a q
      omega
  have ltI : ∀ a b, stI a < stI b → a < b := fun a b h => by
    rcases Int.lt_or_le a b with q | q
    · exact q
    · have := stI_mono q
      omega
  have a1 := ltI yf (x + 1) (by omega)
  have a2 := ltI x (yl + 1) (by omega)
  have a3 := h3 x (by omega) (by omega)
  have a4 := h4 x (by omega) (by omega)
  have a5 := lt_of o (x + 2) (by omega)
  have a6 := lt_of (x - 1) (o + 1) (by omega)
  omega
def stG (o : Int) : Int := 1721426 + 365 * (o - 1) + (o - 1) / 4 - (o - 1) / 100 + (o - 1) / 400
theorem stG_is (o : Int) : toJdG o 1 1 = stG o := by
  unfold toJdG stG
  rw [if_pos (by omega)]
  omega
theorem stG_next (o : Int) : stG o + 365 ≤ stG (o + 1) := by
  unfold stG
  omega
theorem stG_mono (a b : Int) (h : a ≤ b) : stG a ≤ stG b := by
  unfold stG
  omega
theorem yG_core {d q c u v t : Int} (hd : d = 146097 * q + 36524 * c + 1461 * u + t) (hv : v = t / 365) (ht : 0 ≤ t ∧ t < 1461) (hu : 0 ≤ u ∧ 1461 * u + t < 36524) (hc : 0 ≤ c ∧ 36524 * c + 1461 * u + t < 146097) :
    stG (if c = 4 ∨ v = 4 then q * 400 + c * 100 + u * 4 + v else q * 400 + c * 100 + u * 4 + v + 1) ≤ d + 1721426 ∧ d + 1721426 < stG ((if c = 4 ∨ v = 4 then q * 400 + c * 100 + u * 4 + v else q * 400 + c * 100 + u * 4 + v + 1) + 1) := by
  have hv2 : 0 ≤ v ∧ v ≤ 4 := by omega
  have hu2 : u ≤ 24 := by omega
  have hc2 : c ≤ 4 := by omega
  by_cases h4 : c = 4
  · rw [if_pos (.inl h4)]
    subst h4
    have e1 : u = 0 := by omega
    have e2 : t = 0 := by omega
    subst e1; subst e2
    have e3 : v = 0 := by omega
    subst e3
    unfold stG
    omega
  · by_cases h5 : v = 4
    · rw [if_pos (.inr h5)]
      have e2 : t = 1460 := by omega
      have e3 : u ≤ 23 := by omega
      subst h5
      unfold stG
      have k1 : (q * 400 + c * 100 + u * 4 + 4 - 1) / 4 = 100 * q + 25 * c + u := by omega
      have k2 : (q * 400 + c * 100 + u * 4 + 4 - 1) / 100 = 4 * q + c := by omega
      have k3 : (q * 400 + c * 100 + u * 4 + 4 - 1) / 400 = q := by omega
      have k4 : (q * 400 + c * 100 + u * 4 + 4 + 1 - 1) / 4 = 100 * q + 25 * c + u + 1 := by omega
      have k5 : (q * 400 + c * 100 + u * 4 + 4 + 1 - 1) / 100 = 4 * q + c := by omega
      have k6 : (q * 400 + c * 100 + u * 4 + 4 + 1 - 1) / 400 = q := by omega
      rw [k1, k2, k3, k4, k5, k6]
      omega
    · rw [if_neg (by omega)]
      have e : v ≤ 3 := by omega
      have k1 : (q * 400 + c * 100 + u * 4 + v + 1 - 1) / 4 = 100 * q + 25 * c + u := by omega
      have k2 : (q * 400 + c * 100 + u * 4 + v + 1 - 1) / 100 = 4 * q + c := by omega
      have k3 : (q * 400 + c * 100 + u * 4 + v + 1 - 1) / 400 = q := by omega
      unfold stG
      rw [k1, k2, k3]
      refine ⟨by omega, ?_⟩
      rw [show q * 400 + c * 100 + u * 4 + v + 1 + 1 - 1 = q * 400 + c * 100 + u * 4 + (v + 1) by omega]
      by_cases h3 : v = 3
      · subst h3
        have k4 : (q * 400 + c * 100 + u * 4 + (3 + 1)) / 4 = 100 * q + 25 * c + u + 1 := by omega
        rw [k4]
        by_cases h24 : u = 24
        · subst h24
          have k5 : (q * 400 + c * 100 + 24 * 4 + (3 + 1)) / 100 = 4 * q + c + 1 := by omega
          rw [k5]
          omega
        · have k5 : (q * 400 + c * 100 + u * 4 + (3 + 1)) / 100 = 4 * q + c := by omega
          have k6 : (q * 400 + c * 100 + u * 4 + (3 + 1)) / 400 = q := by omega
          rw [k5, k6]
          omega
      · have k4 : (q * 400 + c * 100 + u * 4 + (v + 1)) / 4 = 100 * q + 25 * c + u := by omega
        have k5 : (q * 400 + c * 100 + u * 4 + (v + 1)) / 100 = 4 * q + c := by omega
        have k6 : (q * 400 + c * 100 + u * 4 + (v + 1)) / 400 = q := by omega
        rw [k4, k5, k6]
        omega
theorem yG_bd (n : Int) : stG (yG n) ≤ n ∧ n < stG (yG n + 1) := by
  have h := yG_core (d := n - 1721426) (q := (n - 1721426) / 146097) (c := (n - 1721426) % 146097 / 36524) (u := (n - 1721426) % 146097 % 36524 / 1461) (v := (n - 1721426) % 146097 % 36524 % 1461 / 365) (t := (n - 1721426) % 146097 % 36524 % 1461)
    (by omega) rfl (by omega) (by omega) (by omega)
  rw [show n - 1721426 + 1721426 = n by omega] at h
  exact h

/- P4 -/
def stJ (o : Int) : Int := 1721424 + 365 * (o - 1) + (o - 1) / 4
theorem stJ_mono (a b : Int) (h : a ≤ b) : stJ a ≤ stJ b := by
  unfold stJ
  omega
theorem yJ_bd (n : Int) : stJ (yJ n) ≤ n ∧ n < stJ (yJ n + 1) := by
  unfold yJ eJ bJ
  have hc : 7305 * cJ n ≤ 20 * (n + 1524) - 2442 ∧ 20 * (n + 1524) - 2442 < 7305 * cJ n + 7305 := by unfold cJ; omega
  generalize cJ n = c at *
  have hd : 1461 * c / 4 = 365 * c + c / 4 := by omega
  rw [hd]
  have k1 : 122 ≤ n + 1524 - (365 * c + c / 4) := by omega
  have k2 : n + 1524 - (365 * c + c / 4) ≤ 488 := by omega
  by_cases h : (n + 1524 - (365 * c + c / 4)) * 10000 / 306001 < 14
  · rw [if_pos h]
    have k3 : n + 1524 - (365 * c + c / 4) ≤ 428 := by omega
    clear h hc hd
    unfold stJ
    omega
  · rw [if_neg h]
    have k3 : 429 ≤ n + 1524 - (365 * c + c / 4) := by omega
    clear h hc hd
    unfold stJ
    omega
def stC (o : Int) : Int := 1825030 + 365 * (o - 1) + o / 4
theorem stC_mono (a b : Int) (h : a ≤ b) : stC a ≤ stC b := by
  unfold stC
  omega
theorem yC_bd (n : Int) : stC ((4 * (n - 1825030) + 1463) / 1461) ≤ n ∧ n < stC ((4 * (n - 1825030) + 1463) / 1461 + 1) := by
  unfold stC
  omega
def stN (o : Int) : Int := stG (o + 78) + 80
theorem stN_mono (a b : Int) (h : a ≤ b) : stN a ≤ stN b := by
  have := stG_mono (a + 78) (b + 78) (by omega)
  unfold stN
  omega
theorem yN_bd (n : Int) : stN (yN n) ≤ n ∧ n < stN (yN n + 1) := by
  have h := yG_bd n
  unfold yN stN
  rw [stG_is]
  generalize yG n = g at *
  by_cases c : n - stG g < 80
  · rw [if_pos c, show g - 78 - 1 + 78 = g - 1 by omega, show g - 78 - 1 + 1 + 78 = g by omega]
    have := stG_next (g - 1)
    rw [show g - 1 + 1 = g by omega] at this
    omega
  · rw [if_neg c, show g - 78 + 78 = g by omega, show g - 78 + 1 + 78 = g + 1 by omega]
    omega
def stA (o : Int) : Int := 1922503 + 365 * o
theorem stA_mono (a b : Int) (h : a ≤ b) : stA a ≤ stA b := by
  unfold stA
  omega
theorem yA_bd (n : Int) : stA ((n - 1922502 - 1) / 365) ≤ n ∧ n < stA ((n - 1922502 - 1) / 365 + 1) := by
  unfold stA
  omega
def stS (o : Int) : Int := 2117212 + 365 * (o - 533) + (o - 533) / 4
theorem stS_mono (a b : Int) (h : a ≤ b) : stS a ≤ stS b := by
  unfold stS
  omega
theorem yS_bd (n : Int) : stS (yS n) ≤ n ∧ n < stS (yS n + 1) := by
  unfold yS
  generalize hd : n - 2117211 = d
  have hk : 1461 * (4 * d / 1461) ≤ 4 * d ∧ 4 * d < 1461 * (4 * d / 1461) + 1461 := by omega
  generalize 4 * d / 1461 = k at *
  by_cases c : d - (365 * k + k / 4) = 0
  · rw [if_pos c]
    unfold stS
    rw [show k - 1 + 533 - 533 = k - 1 by omega, show k - 1 + 533 + 1 - 533 = k by omega]
    omega
  · rw [if_neg c]
    unfold stS
    rw [show k + 533 - 533 = k by omega, show k + 533 + 1 - 533 = k + 1 by omega]
    omega
theorem TH_monoN (a : Int) (k : Nat) : TH a ≤ TH (a + k) := by
  induction k with
  | zero => simp
  | succ k ih =>
    have := TH_next (a + k)
    rw [show a + ((k + 1 : Nat) : Int) = a + (k : Int) + 1 by omega]
    omega
theorem TH_mono (a b : Int) (h : a ≤ b) : TH a ≤ TH b := by
  have := TH_monoN a (b - a).toNat
  rw [show a + ((b - a).toNat : Int) = b by omega] at this
  exact this
theorem TH_up (y : Int) : 492480 * TH y ≤ 492480 * 348001 + 765433 * (235 * y - 234) + 229596 := by
  have d := D1_is y
  have d2 := D2_is y
  have m1 := molad_parts y
  have m2 : parts y = 765433 * ((235 * y - 234) / 19) + 12084 := rfl
  have m3 : 19 * ((235 * y - 234) / 19) ≤ 235 * y - 234 := by omega
  have m4 : 25920 * molad y ≤ parts y := by omega
  have e : TH y = 347996 + D1 y + D2 y + 1 + 1 := rfl
  have f1 : D1 y ≤ molad y + 1 := by omega
  have f2 : D2 y ≤ 2 := by omega
  generalize (235 * y - 234) / 19 = mo at *
  clear d d2 m1
  omega
theorem TH_lo (y : Int) : 492480 * 347998 + 765433 * (235 * y - 252) + 229596 - 19 * 25919 ≤ 492480 * TH y := by
  have d := D1_is y
  have d2 := D2_is y
  have m1 := molad_parts y
  have m2 : parts y = 765433 * ((235 * y - 234) / 19) + 12084 := rfl
  have m3 : 235 * y - 252 ≤ 19 * ((235 * y - 234) / 19) := by omega
  have m4 : parts y ≤ 25920 * molad y + 25919 := by omega
  have e : TH y = 347996 + D1 y + D2 y + 1 + 1 := rfl
  have f1 : molad y ≤ D1 y := by omega
  have f2 : 0 ≤ D2 y := by omega
  generalize (235 * y - 234) / 19 = mo at *
  clear d d2 m1
  omega
theorem facts0 (n o : Int) (h : o = yG n) : Facts 9333441 9356829 n (yI n - o) ∧ Mid 9333441 9356829 n (yI n - o) := by
  have ho := yG_bd n
  rw [← h] at ho
  refine ⟨facts_of stG stG_mono (yf := 20841) (yl := 20906) (by decide) (by decide) (by decide) (fun x hx => ?_) (fun x hx => ?_) (by decide) (by decide) n o ho,
    mid_of stG stG_mono (yf := 20841) (yl := 20906) (by decide) (by decide) (fun x hx hy => ?_) (fun x hx hy => ?_) n o ho⟩
  · unfold stG stI; omega
  · rcases (show x = 20907 ∨ 20908 ≤ x by omega) with rfl | h
    · decide
    · unfold stG stI; omega
  · unfold stG stI; omega
  · unfold stG stI; omega
theorem facts1 (n o : Int) (h : o = yJ n) : Facts 9328480 9351867 n (yI n - o) ∧ Mid 9328480 9351867 n (yI n - o) := by
  have ho := yJ_bd n
  rw [← h] at ho
  refine ⟨facts_of stJ stJ_mono (yf := 20827) (yl := 20892) (by decide) (by decide) (by decide) (fun x hx => ?_) (fun x hx => ?_) (by decide) (by decide) n o ho,
    mid_of stJ stJ_mono (yf := 20827) (yl := 20892) (by decide) (by decide) (fun x hx hy => ?_) (fun x hx hy => ?_) n o ho⟩
  · rcases (show x = 20826 ∨ x ≤ 20825 by omega) with rfl | h
    · decide
    · unfold stJ stI; omega
  · rcases (show x = 20893 ∨ 20894 ≤ x by omega) with rfl | h
    · decide
    · unfold stJ stI; omega
  · unfold stJ stI; omega
  · unfold stJ stI; omega
theorem facts2 (n o : Int) (h : o = (4 * (n - 1825030) + 1463) / 1461) : Facts 5954910 5978297 n (yI n - o) ∧ Mid 5954910 5978297 n (yI n - o) := by
  have ho := yC_bd n
  rw [← h] at ho
  refine ⟨facts_of stC stC_mono (yf := 11307) (yl := 11372) (by decide) (by decide) (by decide) (fun x hx => ?_) (fun x hx => ?_) (by decide) (by decide) n o ho,
    mid_of stC stC_mono (yf := 11307) (yl := 11372) (by decide) (by decide) (fun x hx hy => ?_) (fun x hx hy => ?_) n o ho⟩
  · rcases (show x = 11306 ∨ x ≤ 11305 by omega) with rfl | h
    · decide
    · unfold stC stI; omega
  · rcases (show x = 11373 ∨ 11374 ≤ x by omega) with rfl | h
    · decide
    · unfold stC stI; omega
  · unfold stC stI; omega
  · unfold stC stI; omega
theorem facts3 (n o : Int) (h : o = yN n) : Facts 8402520 8426262 n (yI n - o) ∧ Mid 8402520 8426262 n (yI n - o) := by
  have ho := yN_bd n
  rw [← h] at ho
  refine ⟨facts_of stN stN_mono (yf := 18214) (yl := 18280) (by decide) (by decide) (by decide) (fun x hx => ?_) (fun x hx => ?_) (by decide) (by decide) n o ho,
    mid_of stN stN_mono (yf := 18214) (yl := 18280) (by decide) (by decide) (fun x hx hy => ?_) (fun x hx hy => ?_) n o ho⟩
  · rcases (show x = 18213 ∨ x ≤ 18212 by omega) with rfl | h
    · decide
    · unfold stN stG stI; omega
  · rcases (show x = 18281 ∨ 18282 ≤ x by omega) with rfl | h
    · decide
    · unfold stN stG stI; omega
  · unfold stN stG stI; omega
  · unfold stN stG stI; omega
theorem facts4 (n o : Int) (h : o = (n - 1922502 - 1) / 365) : Facts 2788643 2812739 n (yI n - o) ∧ Mid 2788643 2812739 n (yI n - o) := by
  have ho := yA_bd n
  rw [← h] at ho
  refine ⟨facts_of stA stA_mono (yf := 2372) (yl := 2439) (by decide) (by decide) (by decide) (fun x hx => ?_) (fun x hx => ?_) (by decide) (by decide) n o ho,
    mid_of stA stA_mono (yf := 2372) (yl := 2439) (by decide) (by decide) (fun x hx hy => ?_) (fun x hx hy => ?_) n o ho⟩
  · rcases (show x = 2371 ∨ x ≤ 2370 by omega) with rfl | h
    · decide
    · unfold stA stI; omega
  · rcases (show x = 2440 ∨ 2441 ≤ x by omega) with rfl | h
    · decide
    · unfold stA stI; omega
  · unfold stA stI; omega
  · unfold stA stI; omega
theorem facts5 (n o : Int) (h : o = yS n) : Facts 2768444 2791832 n (yI n - o) ∧ Mid 2768444 2791832 n (yI n - o) := by
  have ho := yS_bd n
  rw [← h] at ho
  refine ⟨facts_of stS stS_mono (yf := 2315) (yl := 2380) (by decide) (by decide) (by decide) (fun x hx => ?_) (fun x hx => ?_) (by decide) (by decide) n o ho,
    mid_of stS stS_mono (yf := 2315) (yl := 2380) (by decide) (by decide) (fun x hx hy => ?_) (fun x hx hy => ?_) n o ho⟩
  · rcases (show x = 2314 ∨ x ≤ 2313 by omega) with rfl | h
    · decide
    · unfold stS stI; omega
  · rcases (show x = 2381 ∨ 2382 ≤ x by omega) with rfl | h
    · decide
    · unfold stS stI; omega
  · unfold stS stI; omega
  · unfold stS stI; omega
theorem facts6 (n o : Int) (ho : TH o ≤ n ∧ n < TH (o + 1)) : Facts 54063374 54086761 n (yI n - o) := by
  refine facts_of TH TH_mono (yf := 147066) (yl := 147131) (by decide) (by decide) (by decide) (fun x hx => ?_) (fun x hx => ?_) (by decide) (by decide) n o ho
  · rcases (show x = 147065 ∨ x = 147064 ∨ x = 147063 ∨ x = 147062 ∨ x ≤ 147061 by omega) with rfl | rfl | rfl | rfl | h
    · decide
    · decide
    · decide
    · decide
    · have := TH_up (x + 1)
      unfold stI; omega
  · rcases (show x = 147132 ∨ x = 147133 ∨ x = 147134 ∨ x = 147135 ∨ 147136 ≤ x by omega) with rfl | rfl | rfl | rfl | h
    · decide
    · decide
    · decide
    · decide
    · have := TH_lo x
      unfold stI; omega

/- P5 -/
theorem b3 {x y z x' y' z' : Int} (hx : x = x') (hy : y = y') (hz : z = z') : (x == x' && (y == y' && z == z')) = true := by
  subst hx; subst hy; subst hz; simp
theorem nb3 {x y z x' y' z' : Int} (h : ¬ (x = x' ∧ y = y' ∧ z = z')) : (!(x == x' && (y == y' && z == z'))) = true := by
  cases q : (x == x' && (y == y' && z == z')) with
  | false => rfl
  | true =>
    simp only [Bool.and_eq_true, beq_iff_eq] at q
    exact absurd q h
theorem start_is (x : Int) : toJdI x 1 1 = stI x := by unfold toJdI stI; omega
theorem mI_bd (n : Int) : 1 ≤ mI n ∧ mI n ≤ 12 := by
  have h := yI_bd n
  unfold mI
  rw [start_is]
  generalize yI n = x at *
  generalize stI x = s at *
  generalize stI (x + 1) = s' at *
  split <;> omega
/-- the day within the month -/
theorem dI_bd {n y : Int} (hy : mI n = y) (h : y < 12) : 1 ≤ n - toJdI (yI n) y 1 + 1 ∧ n - toJdI (yI n) y 1 + 1 ≤ if y % 2 = 0 then 29 else 30 := by
  have h1 := yI_bd n
  have h2 : toJdI (yI n) y 1 = stI (yI n) - -(59 * (y - 1) / 2) + (59 * (y - 1)) % 2 := by unfold toJdI stI; omega
  have h3 := mI_bd n
  unfold mI at hy h3
  rw [start_is] at hy h3
  rw [h2]
  generalize yI n = x at *
  generalize stI x = s at *
  generalize stI (x + 1) = s' at *
  split at hy
  · split <;> omega
  · omega
theorem yI_at {n x : Int} (h : stI x ≤ n) (h' : n < stI (x + 1)) : yI n = x := by
  unfold stI yI at *
  omega
/-- 1 to 30 May 20874 -/
theorem in0I {n : Int} (h : 9345253 ≤ n) (h' : n < 9345283) : yI n = 20874 ∧ mI n = 5 := by
  have e : yI n = 20874 := yI_at (by have : stI 20874 = 9345135 := by decide
                                     omega) (by have : stI (20874 + 1) = 9345490 := by decide
                                                omega)
  refine ⟨e, ?_⟩
  unfold mI
  rw [e, show toJdI 20874 1 1 = 9345135 by decide]
  split <;> omega
theorem in0G {n : Int} (h : 9345253 ≤ n) (h' : n < 9345283) : yG n = 20874 ∧ mG n 20874 = 5 := by
  have e : yG n = 20874 := by
    have b := yG_bd n
    rcases Int.lt_trichotomy (yG n) 20874 with q | q | q
    · have := stG_mono (yG n + 1) 20874 (by omega)
      have : stG 20874 = 9345133 := by decide
      omega
    · exact q
    · have := stG_mono 20875 (yG n) (by omega)
      have : stG 20875 = 9345498 := by decide
      omega
  refine ⟨e, ?_⟩
  unfold mG adjG
  rw [show toJdG 20874 1 1 = 9345133 by decide, show isleapF 20874 = false by decide]
  simp only [Bool.false_eq_true, if_false]
  split <;> omega
theorem same0_in {n x y z x' y' z' : Int} (h : 9345253 ≤ n) (h' : n < 9345253 + 30) (hx : x = yI n ∧ y = mI n ∧ z = n - toJdI x y 1 + 1)
    (hd : (0 : Int) = 0 ∧ x' = 20874 ∧ y' = 5 ∧ z' = n - 9345252 ∨ (0 : Int) ≠ 0 ∧ x' = 20860 ∧ n - 9340203 ≤ 29 ∧ y' = 2 ∧ z' = n - 9340203 ∨ (0 : Int) ≠ 0 ∧ x' = 20860 ∧ ¬ n - 9340203 ≤ 29 ∧ y' = 3 ∧ z' = n - 9340203 - 29) :
    (x == x' && (y == y' && z == z')) = true := by
  obtain ⟨e1, e2⟩ := in0I h (by omega)
  obtain ⟨hx, hy, hz⟩ := hx
  rw [hx, hy, e1, e2, show toJdI 20874 5 1 = 9345253 by decide] at hz
  exact b3 (by omega) (by omega) (by omega)
theorem same0_inG {n x y z x' y' z' : Int} (h : 9345253 ≤ n) (h' : n < 9345253 + 30) (hx : x = yG n ∧ y = mG n x ∧ z = n - toJdG x y 1 + 1)
    (hd : (0 : Int) = 0 ∧ x' = 20874 ∧ y' = 5 ∧ z' = n - 9345252 ∨ (0 : Int) ≠ 0 ∧ x' = 20860 ∧ n - 9340203 ≤ 29 ∧ y' = 2 ∧ z' = n - 9340203 ∨ (0 : Int) ≠ 0 ∧ x' = 20860 ∧ ¬ n - 9340203 ≤ 29 ∧ y' = 3 ∧ z' = n - 9340203 - 29) :
    (x == x' && (y == y' && z == z')) = true := by
  obtain ⟨e1, e2⟩ := in0G h (by omega)
  obtain ⟨hx, hy, hz⟩ := hx
  rw [e1] at hx
  rw [hx, e2] at hy
  rw [hx, hy, show toJdG 20874 5 1 = 9345253 by decide] at hz
  exact b3 (by omega) (by omega) (by omega)
theorem only0 : ∀ i : Fin 66, ∀ j : Fin 12, toJdI (20841 + (i.val : Int)) (1 + (j.val : Int)) 1 = toJdG (20841 + (i.val : Int)) (1 + (j.val : Int)) 1 → i.val = 33 ∧ j.val = 4 := by decide +kernel
theorem same0_out {n x y z x' y' z' : Int} (h : ¬ (9345253 ≤ n ∧ n < 9345253 + 30)) (hx : x = yI n ∧ y = mI n ∧ z = n - toJdI x y 1 + 1) (hg : x' = yG n ∧ y' = mG n x' ∧ z' = n - toJdG x' y' 1 + 1) :
    (!(x == x' && (y == y' && z == z'))) = true := by
  refine nb3 fun ⟨qx, qy, qz⟩ => ?_
  subst qx; subst qy; subst qz
  obtain ⟨hx, hy, hz⟩ := hx
  obtain ⟨gx, gy, gz⟩ := hg
  have f := (facts0 n x gx).1
  rw [← hx] at f
  obtain ⟨f1, f2, -⟩ := f
  have n1 : 9333441 ≤ n := by omega
  have n2 : n ≤ 9356829 := by omega
  have b := yI_bd n
  rw [← hx] at b
  have x1 : 20841 ≤ x := by unfold stI at b; omega
  have x2 : x ≤ 20906 := by unfold stI at b; omega
  have m := mI_bd n
  rw [← hy] at m
  have k := only0 ⟨(x - 20841).toNat, by omega⟩ ⟨(y - 1).toNat, by omega⟩ (by
    show toJdI (20841 + ((x - 20841).toNat : Int)) (1 + ((y - 1).toNat : Int)) 1 = toJdG (20841 + ((x - 20841).toNat : Int)) (1 + ((y - 1).toNat : Int)) 1
    rw [show (20841 : Int) + ((x - 20841).toNat : Int) = x by omega, show (1 : Int) + ((y - 1).toNat : Int) = y by omega]
    omega)
  obtain ⟨k1, k2⟩ := k
  dsimp only at k1 k2
  have ex : x = 20874 := by omega
  have ey : y = 5 := by omega
  have d := dI_bd hy.symm (by omega)
  rw [← hx, ex, ey, show toJdI 20874 5 1 = 9345253 by decide] at d
  have : (if (5 : Int) % 2 = 0 then (29 : Int) else 30) = 30 := by decide
  omega
/- Julian -/
def jdJ (x y : Int) : Int := if 2 < y then 1461 * (x + 4716) / 4 - 1524 + 306001 * (y + 1) / 10000 else 1461 * (x + 4715) / 4 - 1524 + 306001 * (y + 13) / 10000
theorem dJ_is (n : Int) : dJ n = n - jdJ (yJ n) (mJ n) := by
  have hc : 7305 * cJ n ≤ 20 * (n + 1524) - 2442 ∧ 20 * (n + 1524) - 2442 < 7305 * cJ n + 7305 := by unfold cJ; omega
  have hb : bJ n = n + 1524 - 1461 * cJ n / 4 := rfl
  have he : eJ n = bJ n * 10000 / 306001 := rfl
  unfold dJ jdJ yJ mJ
  generalize cJ n = c at *
  have k1 : 123 ≤ bJ n ∧ bJ n ≤ 488 := by omega
  have e1 : 4 ≤ eJ n ∧ eJ n ≤ 15 := by omega
  by_cases h : eJ n < 14
  · rw [if_pos h, if_pos h, if_pos (by omega), show c - 4716 + 4716 = c by omega, show eJ n - 1 + 1 = eJ n by omega]
    omega
  · rw [if_neg h, if_neg h, if_neg (by omega), show c - 4715 + 4715 = c by omega, show eJ n - 13 + 13 = eJ n by omega]
    omega
theorem only1 : ∀ i : Fin 66, ∀ j : Fin 12, toJdI (20827 + (i.val : Int)) (1 + (j.val : Int)) 1 - 1 = jdJ (20827 + (i.val : Int)) (1 + (j.val : Int)) → i.val = 33 ∧ (j.val = 1 ∨ j.val = 2) := by decide +kernel
theorem same1_out {n x y z x' y' z' : Int} (h : ¬ (9340204 ≤ n ∧ n < 9340204 + 59)) (hx : x = yI n ∧ y = mI n ∧ z = n - toJdI x y 1 + 1) (hg : x' = yJ n ∧ y' = mJ n ∧ z' = dJ n) :
    (!(x == x' && (y == y' && z == z'))) = true := by
  refine nb3 fun ⟨qx, qy, qz⟩ => ?_
  subst qx; subst qy; subst qz
  obtain ⟨hx, hy, hz⟩ := hx
  obtain ⟨gx, gy, gz⟩ := hg
  have f := (facts1 n x gx).1
  rw [← hx] at f
  obtain ⟨f1, f2, -⟩ := f
  have n1 : 9328480 ≤ n := by omega
  have n2 : n ≤ 9351867 := by omega
  have b := yI_bd n
  rw [← hx] at b
  have x1 : 20827 ≤ x := by unfold stI at b; omega
  have x2 : x ≤ 20892 := by unfold stI at b; omega
  have m := mI_bd n
  rw [← hy] at m
  rw [dJ_is, ← gx, ← gy] at gz
  have k := only1 ⟨(x - 20827).toNat, by omega⟩ ⟨(y - 1).toNat, by omega⟩ (by
    show toJdI (20827 + ((x - 20827).toNat : Int)) (1 + ((y - 1).toNat : Int)) 1 - 1 = jdJ (20827 + ((x - 20827).toNat : Int)) (1 + ((y - 1).toNat : Int))
    rw [show (20827 : Int) + ((x - 20827).toNat : Int) = x by omega, show (1 : Int) + ((y - 1).toNat : Int) = y by omega]
    omega)
  obtain ⟨k1, k2⟩ := k
  dsimp only at k1 k2
  have ex : x = 20860 := by omega
  have d := dI_bd hy.symm (by omega)
  rcases k2 with k2 | k2
  · have ey : y = 2 := by omega
    rw [← hx, ex, ey, show toJdI 20860 2 1 = 9340204 by decide] at d
    have : (if (2 : Int) % 2 = 0 then (29 : Int) else 30) = 29 := by decide
    omega
  · have ey : y = 3 := by omega
    rw [← hx, ex, ey, show toJdI 20860 3 1 = 9340233 by decide] at d
    have : (if (3 : Int) % 2 = 0 then (29 : Int) else 30) = 30 := by decide
    omega
theorem in1I {n : Int} (h : 9340204 ≤ n) (h' : n < 9340263) : yI n = 20860 ∧ mI n = if n - 9340203 ≤ 29 then 2 else 3 := by
  have e : yI n = 20860 := yI_at (by have : stI 20860 = 9340174 := by decide
                                     omega) (by have : stI (20860 + 1) = 9340529 := by decide
                                                omega)
  refine ⟨e, ?_⟩
  unfold mI
  rw [e, show toJdI 20860 1 1 = 9340174 by decide]
  split <;> split <;> omega
theorem in1J {n : Int} (h : 9340204 ≤ n) (h' : n < 9340263) : yJ n = 20860 ∧ mJ n = if n - 9340203 ≤ 29 then 2 else 3 := by
  have c : cJ n = if n - 9340203 ≤ 29 then 25575 else 25576 := by unfold cJ; split <;> omega
  have hb : bJ n = n + 1524 - 1461 * cJ n / 4 := rfl
  have he : eJ n = bJ n * 10000 / 306001 := rfl
  unfold yJ mJ
  by_cases k : n - 9340203 ≤ 29
  · rw [if_pos k] at c ⊢
    rw [c] at hb
    rw [c]
    have k1 : eJ n = 15 := by omega
    rw [k1]
    exact ⟨by decide, by decide⟩
  · rw [if_neg k] at c ⊢
    rw [c] at hb
    rw [c]
    have k1 : eJ n = 4 := by omega
    rw [k1]
    exact ⟨by decide, by decide⟩
theorem same1_in {n x y z x' y' z' : Int} (h : 9340204 ≤ n) (h' : n < 9340204 + 59) (hx : x = yI n ∧ y = mI n ∧ z = n - toJdI x y 1 + 1)
    (hd : (1 : Int) = 0 ∧ x' = 20874 ∧ y' = 5 ∧ z' = n - 9345252 ∨ (1 : Int) ≠ 0 ∧ x' = 20860 ∧ n - 9340203 ≤ 29 ∧ y' = 2 ∧ z' = n - 9340203 ∨ (1 : Int) ≠ 0 ∧ x' = 20860 ∧ ¬ n - 9340203 ≤ 29 ∧ y' = 3 ∧ z' = n - 9340203 - 29) :
    (x == x' && (y == y' && z == z')) = true := by
  obtain ⟨e1, e2⟩ := in1I h (by omega)
  obtain ⟨hx, hy, hz⟩ := hx
  by_cases k : n - 9340203 ≤ 29
  · rw [if_pos k] at e2
    rw [hx, hy, e1, e2, show toJdI 20860 2 1 = 9340204 by decide] at hz
    exact b3 (by omega) (by omega) (by omega)
  · rw [if_neg k] at e2
    rw [hx, hy, e1, e2, show toJdI 20860 3 1 = 9340233 by decide] at hz
    exact b3 (by omega) (by omega) (by omega)
theorem same1_inJ {n x y z x' y' z' : Int} (h : 9340204 ≤ n) (h' : n < 9340204 + 59) (hx : x = yJ n ∧ y = mJ n ∧ z = dJ n)
    (hd : (1 : Int) = 0 ∧ x' = 20874 ∧ y' = 5 ∧ z' = n - 9345252 ∨ (1 : Int) ≠ 0 ∧ x' = 20860 ∧ n - 9340203 ≤ 29 ∧ y' = 2 ∧ z' = n - 9340203 ∨ (1 : Int) ≠ 0 ∧ x' = 20860 ∧ ¬ n - 9340203 ≤ 29 ∧ y' = 3 ∧ z' = n - 9340203 - 29) :
    (x == x' && (y == y' && z == z')) = true := by
  obtain ⟨e1, e2⟩ := in1J h (by omega)
  obtain ⟨hx, hy, hz⟩ := hx
  rw [dJ_is] at hz
  by_cases k : n - 9340203 ≤ 29
  · rw [if_pos k] at e2
    rw [e1, e2, show jdJ 20860 2 = 9340203 by decide] at hz
    exact b3 (by omega) (by omega) (by omega)
  · rw [if_neg k] at e2
    rw [e1, e2, show jdJ 20860 3 = 9340232 by decide] at hz
    exact b3 (by omega) (by omega) (by omega)

/- L2 -/
local macro_rules | `(tactic| walk_at "call ref") => `(tactic| (k_here; first | (k_dflt (refine' Called.use (c_fromI _ _) ?k1 ?k2 ?k3 ?k4 ?k5 ?kK ?kp ?kd ?ku ?_); (case k1 => k_asm); (case k2 => k_asm); (case k3 => k_asm); (case k4 => k_asm); (case k5 => k_asm); (case kK => first | exact rfl | assumption); (case kp => first | trivial | assumption | omega | ((repeat' apply And.intro) <;> omega) | k_extra "kp"); (case kd => ktr_room); (case ku => ktr_units); first | (refine RtT.mk ?_; intro x9 y9 z9 t9 t8 t7 c9 D9 h9 tk9 hP9 F9 N9 l9; (try dsimp only at hP9); clear l9; (try dsimp only); (try k_fold)) | (refine RtI.mk ?_; intro r9 t9 h9 tk9 hP9 F9 N9; (try dsimp only at hP9); (try dsimp only); (try k_fold)) | (refine RtB.mk ?_; intro r9 h9 tk9 hP9 F9 N9; (try dsimp only at hP9); (try dsimp only); (try k_fold))) | (k_dflt (refine' Called.use (c_fromG _ _) ?k1 ?k2 ?k3 ?k4 ?k5 ?kK ?kp ?kd ?ku ?_); (case k1 => k_asm); (case k2 => k_asm); (case k3 => k_asm); (case k4 => k_asm); (case k5 => k_asm); (case kK => first | exact rfl | assumption); (case kp => first | trivial | assumption | omega | ((repeat' apply And.intro) <;> omega) | k_extra "kp"); (case kd => ktr_room); (case ku => ktr_units); first | (refine RtT.mk ?_; intro x9 y9 z9 t9 t8 t7 c9 D9 h9 tk9 hP9 F9 N9 l9; (try dsimp only at hP9); clear l9; (try dsimp only); (try k_fold)) | (refine RtI.mk ?_; intro r9 t9 h9 tk9 hP9 F9 N9; (try dsimp only at hP9); (try dsimp only); (try k_fold)) | (refine RtB.mk ?_; intro r9 h9 tk9 hP9 F9 N9; (try dsimp only at hP9); (try dsimp only); (try k_fold))) | (k_dflt (refine' Called.use (c_fromJ _ _) ?k1 ?k2 ?k3 ?k4 ?k5 ?kK ?kp ?kd ?ku ?_); (case k1 => k_asm); (case k2 => k_asm); (case k3 => k_asm); (case k4 => k_asm); (case k5 => k_asm); (case kK => first | exact rfl | assumption); (case kp => first | trivial | assumption | omega | ((repeat' apply And.intro) <;> omega) | k_extra "kp"); (case kd => ktr_room); (case ku => ktr_units); first | (refine RtT.mk ?_; intro x9 y9 z9 t9 t8 t7 c9 D9 h9 tk9 hP9 F9 N9 l9; (try dsimp only at hP9); clear l9; (try dsimp only); (try k_fold)) | (refine RtI.mk ?_; intro r9 t9 h9 tk9 hP9 F9 N9; (try dsimp only at hP9); (try dsimp only); (try k_fold)) | (refine RtB.mk ?_; intro r9 h9 tk9 hP9 F9 N9; (try dsimp only at hP9); (try dsimp only); (try k_fold)))))
theorem c_due (w n : Int) (t u : Tok) : Called 1 206 True [.int w t, .int n u] (RtT fun x y z => (w = 0 ∧ x = 20874 ∧ y = 5 ∧ z = n - 9345252) ∨ (w ≠ 0 ∧ x = 20860 ∧ n - 9340203 ≤ 29 ∧ y = 2 ∧ z = n - 9340203) ∨ (w ≠ 0 ∧ x = 20860 ∧ ¬ n - 9340203 ≤ 29 ∧ y = 3 ∧ z = n - 9340203 - 29)) := by
  k_with_none
  (unfold Called; k_fill; intros; refine wpAny_call ?_; (first | k_dflt cell_enter | fail "not entered"))
  k_steps
  all_goals (first | refine RtI.use (by assumption) ?_ (by k_asm) (by first | k_asm | exact cb_drop (by assumption) (fun _ hp => by repeat (first | exact hp | apply List.mem_cons_of_mem))) | refine RtB.use (by assumption) ?_ (by k_asm) (by first | k_asm | exact cb_drop (by assumption) (fun _ hp => by repeat (first | exact hp | apply List.mem_cons_of_mem))) | refine RtT.use (by assumption) (by k_asm) (by first | k_asm | exact newsDrop1 (by assumption)) (by first | assumption | exact allLt_all (And.right (by assumption)) | k_asm) ?_)
  all_goals omega
local macro_rules | `(tactic| walk_at "call ref") => `(tactic| (k_here; first | (k_dflt (refine' Called.use (c_fromI _ _) ?k1 ?k2 ?k3 ?k4 ?k5 ?kK ?kp ?kd ?ku ?_); (case k1 => k_asm); (case k2 => k_asm); (case k3 => k_asm); (case k4 => k_asm); (case k5 => k_asm); (case kK => first | exact rfl | assumption); (case kp => first | trivial | assumption | omega | ((repeat' apply And.intro) <;> omega) | k_extra "kp"); (case kd => ktr_room); (case ku => ktr_units); first | (refine RtT.mk ?_; intro x9 y9 z9 t9 t8 t7 c9 D9 h9 tk9 hP9 F9 N9 l9; (try dsimp only at hP9); clear l9; (try dsimp only); (try k_fold)) | (refine RtI.mk ?_; intro r9 t9 h9 tk9 hP9 F9 N9; (try dsimp only at hP9); (try dsimp only); (try k_fold)) | (refine RtB.mk ?_; intro r9 h9 tk9 hP9 F9 N9; (try dsimp only at hP9); (try dsimp only); (try k_fold))) | (k_dflt (refine' Called.use (c_fromG _ _) ?k1 ?k2 ?k3 ?k4 ?k5 ?kK ?kp ?kd ?ku ?_); (case k1 => k_asm); (case k2 => k_asm); (case k3 => k_asm); (case k4 => k_asm); (case k5 => k_asm); (case kK => first | exact rfl | assumption); (case kp => first | trivial | assumption | omega | ((repeat' apply And.intro) <;> omega) | k_extra "kp"); (case kd => ktr_room); (case ku => ktr_units); first | (refine RtT.mk ?_; intro x9 y9 z9 t9 t8 t7 c9 D9 h9 tk9 hP9 F9 N9 l9; (try dsimp only at hP9); clear l9; (try dsimp only); (try k_fold)) | (refine RtI.mk ?_; intro r9 t9 h9 tk9 hP9 F9 N9; (try dsimp only at hP9); (try dsimp only); (try k_fold)) | (refine RtB.mk ?_; intro r9 h9 tk9 hP9 F9 N9; (try dsimp only at hP9); (try dsimp only); (try k_fold))) | (k_dflt (refine' Called.use (c_fromJ _ _) ?k1 ?k2 ?k3 ?k4 ?k5 ?kK ?kp ?kd ?ku ?_); (case k1 => k_asm); (case k2 => k_asm); (case k3 => k_asm); (case k4 => k_asm); (case k5 => k_asm); (case kK => first | exact rfl | assumption); (case kp => first | trivial | assumption | omega | ((repeat' apply And.intro) <;> omega) | k_extra "kp"); (case kd => ktr_room); (case ku => ktr_units); first | (refine RtT.mk ?_; intro x9 y9 z9 t9 t8 t7 c9 D9 h9 tk9 hP9 F9 N9 l9; (try dsimp only at hP9); clear l9; (try dsimp only); (try k_fold)) | (refine RtI.mk ?_; intro r9 t9 h9 tk9 hP9 F9 N9; (try dsimp only at hP9); (try dsimp only); (try k_fold)) | (refine RtB.mk ?_; intro r9 h9 tk9 hP9 F9 N9; (try dsimp only at hP9); (try dsimp only); (try k_fold))) | (k_dflt (refine' Called.use (c_due _ _ _ _) ?k1 ?k2 ?k3 ?k4 ?k5 ?kK ?kp ?kd ?ku ?_); (case k1 => k_asm); (case k2 => k_asm); (case k3 => k_asm); (case k4 => k_asm); (case k5 => k_asm); (case kK => first | exact rfl | assumption); (case kp => first | trivial | assumption | omega | ((repeat' apply And.intro) <;> omega) | k_extra "kp"); (case kd => ktr_room); (case ku => ktr_units); first | (refine RtT.mk ?_; intro x9 y9 z9 t9 t8 t7 c9 D9 h9 tk9 hP9 F9 N9 l9; (try dsimp only at hP9); clear l9; (try dsimp only); (try k_fold)) | (refine RtI.mk ?_; intro r9 t9 h9 tk9 hP9 F9 N9; (try dsimp only at hP9); (try dsimp only); (try k_fold)) | (refine RtB.mk ?_; intro r9 h9 tk9 hP9 F9 N9; (try dsimp only at hP9); (try dsimp only); (try k_fold)))))
local macro_rules | `(tactic| walk_at "newTuple") => `(tactic| (k_here; k_dflt (refine' kup_newTuple ?F ?N ?_ ?z; (case F => k_asm); (case N => k_asm); (case z => kmk_size)); intro D' h' F' N' l1; clear l1; (try k_sweep)))
theorem c_same0 (n : Int) (t u : Tok) : Called 12 213 True [.int 0 t, .int n u] (RtB fun r => r = true) := by
  k_with_none
  (unfold Called; k_fill; intros; refine wpAny_call ?_; (first | k_dflt cell_enter | fail "not entered"))
  k_steps
  all_goals (first | refine RtI.use (by assumption) ?_ (by k_asm) (by first | k_asm | exact cb_drop (by assumption) (fun _ hp => by repeat (first | exact hp | apply List.mem_cons_of_mem))) | refine RtB.use (by assumption) ?_ (by k_asm) (by first | k_asm | exact cb_drop (by assumption) (fun _ hp => by repeat (first | exact hp | apply List.mem_cons_of_mem))) | refine RtT.use (by assumption) (by k_asm) (by first | k_asm | exact newsDrop1 (by assumption)) (by first | assumption | exact allLt_all (And.right (by assumption)) | k_asm) ?_)
  all_goals first
    | exact same0_inG (n := n) (by assumption) (by assumption) (by assumption) (by assumption)
    | exact same0_in (n := n) (by assumption) (by assumption) (by assumption) (by assumption)
    | exact same0_out (n := n) (by omega) (by assumption) (by assumption)
theorem c_same1 (n : Int) (t u : Tok) : Called 12 213 True [.int 1 t, .int n u] (RtB fun r => r = true) := by
  k_with_none
  (unfold Called; k_fill; intros; refine wpAny_call ?_; (first | k_dflt cell_enter | fail "not entered"))
  k_steps
  all_goals (first | refine RtI.use (by assumption) ?_ (by k_asm) (by first | k_asm | exact cb_drop (by assumption) (fun _ hp => by repeat (first | exact hp | apply List.mem_cons_of_mem))) | refine RtB.use (by assumption) ?_ (by k_asm) (by first | k_asm | exact cb_drop (by assumption) (fun _ hp => by repeat (first | exact hp | apply List.mem_cons_of_mem))) | refine RtT.use (by assumption) (by k_asm) (by first | k_asm | exact newsDrop1 (by assumption)) (by first | assumption | exact allLt_all (And.right (by assumption)) | k_asm) ?_)
  all_goals first
    | exact same1_inJ (n := n) (by assumption) (by assumption) (by assumption) (by assumption)
    | exact same1_in (n := n) (by assumption) (by assumption) (by assumption) (by assumption)
    | exact same1_out (n := n) (by omega) (by assumption) (by assumption)
theorem c_same (w n : Int) (t u : Tok) : Called 12 213 (w = 0 ∨ w = 1) [.int w t, .int n u] (RtB fun r => r = true) := by
  unfold Called
  intro _ _ _ _ _ _ _ _ _ _ _ _ _ _ _ _ _ _ _ _ _ _ B F X N T hk hp hd hu hR
  rcases hp with rfl | rfl
  · exact (c_same0 n t u).use B F X N T hk trivial hd hu hR
  · exact (c_same1 n t u).use B F X N T hk trivial hd hu hR
theorem Called.weaken {k : Nat} {f : Addr} {pre pre' : Prop} {vs : List Value} {P P' : Int → Prop} (c : Called k f pre vs (RtI P)) (h : pre' → pre ∧ ∀ r, P r → P' r) : Called k f pre' vs (RtI P') := by
  unfold Called
  intro _ _ _ _ _ _ _ _ _ _ _ _ _ _ _ _ _ _ _ _ _ _ B F X N T hk hp hd hu hR
  exact c.use B F X N T hk (h hp).1 hd hu fun r t h' tk' hP F' N' => hR r t h' tk' ((h hp).2 r hP) F' N'
theorem Called.weakenT {k : Nat} {f : Addr} {pre : Prop} {vs : List Value} {P P' : Int → Int → Int → Prop} (c : Called k f pre vs (RtT P)) (h : ∀ x y z, P x y z → P' x y z) : Called k f pre vs (RtT P') := by
  unfold Called
  intro _ _ _ _ _ _ _ _ _ _ _ _ _ _ _ _ _ _ _ _ _ _ B F X N T hk hp hd hu hR
  exact c.use B F X N T hk hp hd hu fun x y z t1 t2 t3 c D h' tk' hP F' N' hl => hR x y z t1 t2 t3 c D h' tk' (h x y z hP) F' N' hl
theorem c_yearI (n : Int) (t : Tok) : Called 2 71 True [.int n t] (RtT fun x _ _ => x = (30 * (n - 1948440) + 10646) / 10631) :=
  (c_fromI n t).weakenT fun _ _ _ h => h.1
theorem other_at {w n o : Int} (h : Other w n o) : (w = 0 → o = yG n) ∧ (w = 1 → o = yJ n) ∧ (w = 2 → o = (4 * (n - 1825030) + 1463) / 1461) ∧ (w = 3 → o = yN n) ∧ (w = 4 → o = (n - 1922502 - 1) / 365) ∧ (w = 5 → o = yS n) ∧ (w = 6 → TH o ≤ n ∧ n < TH (o + 1)) := by
  unfold Other at h
  rcases h with ⟨h, e⟩ | ⟨h, e⟩ | ⟨h, e⟩ | ⟨h, e⟩ | ⟨h, e⟩ | ⟨h, e⟩ | ⟨h0, h1, h2, h3, h4, h5, e⟩
  all_goals (refine ⟨fun q => ?_, fun q => ?_, fun q => ?_, fun q => ?_, fun q => ?_, fun q => ?_, fun q => ?_⟩ <;> first | assumption | omega)
theorem ap0 (n : Int) (t u : Tok) : Called 11 199 (True) [.int 0 t, .int n u] (RtI fun r => Facts 9333441 9356829 n r ∧ Mid 9333441 9356829 n r) :=
  (c_apart 0 n t u).weaken fun h => ⟨⟨by omega, by omega, by omega, by omega, by omega⟩, fun r ⟨o, ho, e⟩ => by
    rw [e]; exact facts0 n o ((other_at ho).1 rfl)⟩
theorem ap0a (t u : Tok) : Called 11 199 True [.int 0 t, .int (9333441 - 1) u] (RtI fun r => r = -1) :=
  (ap0 _ t u).weaken fun _ => ⟨trivial, fun _ q => q.1.2.2.1 (by decide)⟩
theorem ap0b (t u : Tok) : Called 11 199 True [.int 0 t, .int 9333441 u] (RtI fun r => r = 0) :=
  (ap0 _ t u).weaken fun _ => ⟨trivial, fun _ q => q.1.2.2.2.1 rfl⟩
theorem ap0c (t u : Tok) : Called 11 199 True [.int 0 t, .int 9356829 u] (RtI fun r => r = 0) :=
  (ap0 _ t u).weaken fun _ => ⟨trivial, fun _ q => q.1.2.2.2.2.1 rfl⟩
theorem ap0d (t u : Tok) : Called 11 199 True [.int 0 t, .int (9356829 + 1) u] (RtI fun r => r = 1) :=
  (ap0 _ t u).weaken fun _ => ⟨trivial, fun _ q => q.1.2.2.2.2.2 rfl⟩
theorem ap0l (n : Int) (t u : Tok) : Called 11 199 (n < 9333441) [.int 0 t, .int n u] (RtI fun r => r < 0) :=
  (ap0 n t u).weaken fun h => ⟨trivial, fun _ q => q.1.1 h⟩
theorem ap0h (n : Int) (t u : Tok) : Called 11 199 (9356829 < n) [.int 0 t, .int n u] (RtI fun r => 0 < r) :=
  (ap0 n t u).weaken fun h => ⟨trivial, fun _ q => q.1.2.1 h⟩
theorem ap0m (n : Int) (t u : Tok) : Called 11 199 (9333441 ≤ n ∧ n ≤ 9356829) [.int 0 t, .int n u] (RtI fun r => -1 ≤ r ∧ r ≤ 1) :=
  (ap0 n t u).weaken fun h => ⟨trivial, fun _ q => q.2 h.1 h.2⟩
theorem ap1 (n : Int) (t u : Tok) : Called 11 199 (True) [.int 1 t, .int n u] (RtI fun r => Facts 9328480 9351867 n r ∧ Mid 9328480 9351867 n r) :=
  (c_apart 1 n t u).weaken fun h => ⟨⟨by omega, by omega, by omega, by omega, by omega⟩, fun r ⟨o, ho, e⟩ => by
    rw [e]; exact facts1 n o ((other_at ho).2.1 rfl)⟩
theorem ap1a (t u : Tok) : Called 11 199 True [.int 1 t, .int (9328480 - 1) u] (RtI fun r => r = -1) :=
  (ap1 _ t u).weaken fun _ => ⟨trivial, fun _ q => q.1.2.2.1 (by decide)⟩
theorem ap1b (t u : Tok) : Called 11 199 True [.int 1 t, .int 9328480 u] (RtI fun r => r = 0) :=
  (ap1 _ t u).weaken fun _ => ⟨trivial, fun _ q => q.1.2.2.2.1 rfl⟩
theorem ap1c (t u : Tok) : Called 11 199 True [.int 1 t, .int 9351867 u] (RtI fun r => r = 0) :=
  (ap1 _ t u).weaken fun _ => ⟨trivial, fun _ q => q.1.2.2.2.2.1 rfl⟩
theorem ap1d (t u : Tok) : Called 11 199 True [.int 1 t, .int (9351867 + 1) u] (RtI fun r => r = 1) :=
  (ap1 _ t u).weaken fun _ => ⟨trivial, fun _ q => q.1.2.2.2.2.2 rfl⟩
theorem ap1l (n : Int) (t u : Tok) : Called 11 199 (n < 9328480) [.int 1 t, .int n u] (RtI fun r => r < 0) :=
  (ap1 n t u).weaken fun h => ⟨trivial, fun _ q => q.1.1 h⟩
theorem ap1h (n : Int) (t u : Tok) : Called 11 199 (9351867 < n) [.int 1 t, .int n u] (RtI fun r => 0 < r) :=
  (ap1 n t u).weaken fun h => ⟨trivial, fun _ q => q.1.2.1 h⟩
theorem ap1m (n : Int) (t u : Tok) : Called 11 199 (9328480 ≤ n ∧ n ≤ 9351867) [.int 1 t, .int n u] (RtI fun r => -1 ≤ r ∧ r ≤ 1) :=
  (ap1 n t u).weaken fun h => ⟨trivial, fun _ q => q.2 h.1 h.2⟩
theorem ap2 (n : Int) (t u : Tok) : Called 11 199 (True) [.int 2 t, .int n u] (RtI fun r => Facts 5954910 5978297 n r ∧ Mid 5954910 5978297 n r) :=
  (c_apart 2 n t u).weaken fun h => ⟨⟨by omega, by omega, by omega, by omega, by omega⟩, fun r ⟨o, ho, e⟩ => by
    rw [e]; exact facts2 n o ((other_at ho).2.2.1 rfl)⟩
theorem ap2a (t u : Tok) : Called 11 199 True [.int 2 t, .int (5954910 - 1) u] (RtI fun r => r = -1) :=
  (ap2 _ t u).weaken fun _ => ⟨trivial, fun _ q => q.1.2.2.1 (by decide)⟩
theorem ap2b (t u : Tok) : Called 11 199 True [.int 2 t, .int 5954910 u] (RtI fun r => r = 0) :=
  (ap2 _ t u).weaken fun _ => ⟨trivial, fun _ q => q.1.2.2.2.1 rfl⟩
theorem ap2c (t u : Tok) : Called 11 199 True [.int 2 t, .int 5978297 u] (RtI fun r => r = 0) :=
  (ap2 _ t u).weaken fun _ => ⟨trivial, fun _ q => q.1.2.2.2.2.1 rfl⟩
theorem ap2d (t u : Tok) : Called 11 199 True [.int 2 t, .int (5978297 + 1) u] (RtI fun r => r = 1) :=
  (ap2 _ t u).weaken fun _ => ⟨trivial, fun _ q => q.1.2.2.2.2.2 rfl⟩
theorem ap2l (n : Int) (t u : Tok) : Called 11 199 (n < 5954910) [.int 2 t, .int n u] (RtI fun r => r < 0) :=
  (ap2 n t u).weaken fun h => ⟨trivial, fun _ q => q.1.1 h⟩
theorem ap2h (n : Int) (t u : Tok) : Called 11 199 (5978297 < n) [.int 2 t, .int n u] (RtI fun r => 0 < r) :=
  (ap2 n t u).weaken fun h => ⟨trivial, fun _ q => q.1.2.1 h⟩
theorem ap2m (n : Int) (t u : Tok) : Called 11 199 (5954910 ≤ n ∧ n ≤ 5978297) [.int 2 t, .int n u] (RtI fun r => -1 ≤ r ∧ r ≤ 1) :=
  (ap2 n t u).weaken fun h => ⟨trivial, fun _ q => q.2 h.1 h.2⟩
theorem ap3 (n : Int) (t u : Tok) : Called 11 199 (True) [.int 3 t, .int n u] (RtI fun r => Facts 8402520 8426262 n r ∧ Mid 8402520 8426262 n r) :=
  (c_apart 3 n t u).weaken fun h => ⟨⟨by omega, by omega, by omega, by omega, by omega⟩, fun r ⟨o, ho, e⟩ => by
    rw [e]; exact facts3 n o ((other_at ho).2.2.2.1 rfl)⟩
theorem ap3a (t u : Tok) : Called 11 199 True [.int 3 t, .int (8402520 - 1) u] (RtI fun r => r = -1) :=
  (ap3 _ t u).weaken fun _ => ⟨trivial, fun _ q => q.1.2.2.1 (by decide)⟩
theorem ap3b (t u : Tok) : Called 11 199 True [.int 3 t, .int 8402520 u] (RtI fun r => r = 0) :=
  (ap3 _ t u).weaken fun _ => ⟨trivial, fun _ q => q.1.2.2.2.1 rfl⟩
theorem ap3c (t u : Tok) : Called 11 199 True [.int 3 t, .int 8426262 u] (RtI fun r => r = 0) :=
  (ap3 _ t u).weaken fun _ => ⟨trivial, fun _ q => q.1.2.2.2.2.1 rfl⟩
theorem ap3d (t u : Tok) : Called 11 199 True [.int 3 t, .int (8426262 + 1) u] (RtI fun r => r = 1) :=
  (ap3 _ t u).weaken fun _ => ⟨trivial, fun _ q => q.1.2.2.2.2.2 rfl⟩
theorem ap3l (n : Int) (t u : Tok) : Called 11 199 (n < 8402520) [.int 3 t, .int n u] (RtI fun r => r < 0) :=
  (ap3 n t u).weaken fun h => ⟨trivial, fun _ q => q.1.1 h⟩
theorem ap3h (n : Int) (t u : Tok) : Called 11 199 (8426262 < n) [.int 3 t, .int n u] (RtI fun r => 0 < r) :=
  (ap3 n t u).weaken fun h => ⟨trivial, fun _ q => q.1.2.1 h⟩
theorem ap3m (n : Int) (t u : Tok) : Called 11 199 (8402520 ≤ n ∧ n ≤ 8426262) [.int 3 t, .int n u] (RtI fun r => -1 ≤ r ∧ r ≤ 1) :=
  (ap3 n t u).weaken fun h => ⟨trivial, fun _ q => q.2 h.1 h.2⟩
theorem ap4 (n : Int) (t u : Tok) : Called 11 199 (1922868 ≤ n) [.int 4 t, .int n u] (RtI fun r => Facts 2788643 2812739 n r ∧ Mid 2788643 2812739 n r) :=
  (c_apart 4 n t u).weaken fun h => ⟨⟨by omega, by omega, by omega, by omega, by omega⟩, fun r ⟨o, ho, e⟩ => by
    rw [e]; exact facts4 n o ((other_at ho).2.2.2.2.1 rfl)⟩
theorem ap4a (t u : Tok) : Called 11 199 True [.int 4 t, .int (2788643 - 1) u] (RtI fun r => r = -1) :=
  (ap4 _ t u).weaken fun _ => ⟨(by decide), fun _ q => q.1.2.2.1 (by decide)⟩
theorem ap4b (t u : Tok) : Called 11 199 True [.int 4 t, .int 2788643 u] (RtI fun r => r = 0) :=
  (ap4 _ t u).weaken fun _ => ⟨(by decide), fun _ q => q.1.2.2.2.1 rfl⟩
theorem ap4c (t u : Tok) : Called 11 199 True [.int 4 t, .int 2812739 u] (RtI fun r => r = 0) :=
  (ap4 _ t u).weaken fun _ => ⟨(by decide), fun _ q => q.1.2.2.2.2.1 rfl⟩
theorem ap4d (t u : Tok) : Called 11 199 True [.int 4 t, .int (2812739 + 1) u] (RtI fun r => r = 1) :=
  (ap4 _ t u).weaken fun _ => ⟨(by decide), fun _ q => q.1.2.2.2.2.2 rfl⟩
theorem ap4l (n : Int) (t u : Tok) : Called 11 199 (1922868 ≤ n ∧ n < 2788643) [.int 4 t, .int n u] (RtI fun r => r < 0) :=
  (ap4 n t u).weaken fun h => ⟨h.1, fun _ q => q.1.1 h.2⟩
theorem ap4h (n : Int) (t u : Tok) : Called 11 199 (2812739 < n) [.int 4 t, .int n u] (RtI fun r => 0 < r) :=
  (ap4 n t u).weaken fun h => ⟨by omega, fun _ q => q.1.2.1 h⟩
theorem ap4m (n : Int) (t u : Tok) : Called 11 199 (2788643 ≤ n ∧ n ≤ 2812739) [.int 4 t, .int n u] (RtI fun r => -1 ≤ r ∧ r ≤ 1) :=
  (ap4 n t u).weaken fun h => ⟨by omega, fun _ q => q.2 h.1 h.2⟩
theorem ap5 (n : Int) (t u : Tok) : Called 11 199 (2117212 ≤ n) [.int 5 t, .int n u] (RtI fun r => Facts 2768444 2791832 n r ∧ Mid 2768444 2791832 n r) :=
  (c_apart 5 n t u).weaken fun h => ⟨⟨by omega, by omega, by omega, by omega, by omega⟩, fun r ⟨o, ho, e⟩ => by
    rw [e]; exact facts5 n o ((other_at ho).2.2.2.2.2.1 rfl)⟩
theorem ap5a (t u : Tok) : Called 11 199 True [.int 5 t, .int (2768444 - 1) u] (RtI fun r => r = -1) :=
  (ap5 _ t u).weaken fun _ => ⟨(by decide), fun _ q => q.1.2.2.1 (by decide)⟩
theorem ap5b (t u : Tok) : Called 11 199 True [.int 5 t, .int 2768444 u] (RtI fun r => r = 0) :=
  (ap5 _ t u).weaken fun _ => ⟨(by decide), fun _ q => q.1.2.2.2.1 rfl⟩
theorem ap5c (t u : Tok) : Called 11 199 True [.int 5 t, .int 2791832 u] (RtI fun r => r = 0) :=
  (ap5 _ t u).weaken fun _ => ⟨(by decide), fun _ q => q.1.2.2.2.2.1 rfl⟩
theorem ap5d (t u : Tok) : Called 11 199 True [.int 5 t, .int (2791832 + 1) u] (RtI fun r => r = 1) :=
  (ap5 _ t u).weaken fun _ => ⟨(by decide), fun _ q => q.1.2.2.2.2.2 rfl⟩
theorem ap5l (n : Int) (t u : Tok) : Called 11 199 (2117212 ≤ n ∧ n < 2768444) [.int 5 t, .int n u] (RtI fun r => r < 0) :=
  (ap5 n t u).weaken fun h => ⟨h.1, fun _ q => q.1.1 h.2⟩
theorem ap5h (n : Int) (t u : Tok) : Called 11 199 (2791832 < n) [.int 5 t, .int n u] (RtI fun r => 0 < r) :=
  (ap5 n t u).weaken fun h => ⟨by omega, fun _ q => q.1.2.1 h⟩
theorem ap5m (n : Int) (t u : Tok) : Called 11 199 (2768444 ≤ n ∧ n ≤ 2791832) [.int 5 t, .int n u] (RtI fun r => -1 ≤ r ∧ r ≤ 1) :=
  (ap5 n t u).weaken fun h => ⟨by omega, fun _ q => q.2 h.1 h.2⟩
theorem ap6 (n : Int) (t u : Tok) : Called 11 199 (347998 ≤ n) [.int 6 t, .int n u] (RtI fun r => Facts 54063374 54086761 n r) :=
  (c_apart 6 n t u).weaken fun h => ⟨⟨by omega, by omega, by omega, by omega, by omega⟩, fun r ⟨o, ho, e⟩ => by
    rw [e]; exact facts6 n o ((other_at ho).2.2.2.2.2.2 rfl)⟩
theorem ap6a (t u : Tok) : Called 11 199 True [.int 6 t, .int (54063374 - 1) u] (RtI fun r => r = -1) :=
  (ap6 _ t u).weaken fun _ => ⟨(by decide), fun _ q => q.2.2.1 (by decide)⟩
theorem ap6b (t u : Tok) : Called 11 199 True [.int 6 t, .int 54063374 u] (RtI fun r => r = 0) :=
  (ap6 _ t u).weaken fun _ => ⟨(by decide), fun _ q => q.2.2.2.1 rfl⟩
theorem ap6c (t u : Tok) : Called 11 199 True [.int 6 t, .int 54086761 u] (RtI fun r => r = 0) :=
  (ap6 _ t u).weaken fun _ => ⟨(by decide), fun _ q => q.2.2.2.2.1 rfl⟩
theorem ap6d (t u : Tok) : Called 11 199 True [.int 6 t, .int (54086761 + 1) u] (RtI fun r => r = 1) :=
  (ap6 _ t u).weaken fun _ => ⟨(by decide), fun _ q => q.2.2.2.2.2 rfl⟩
theorem ap6l (n : Int) (t u : Tok) : Called 11 199 (347998 ≤ n ∧ n < 54063374) [.int 6 t, .int n u] (RtI fun r => r < 0) :=
  (ap6 n t u).weaken fun h => ⟨h.1, fun _ q => q.1 h.2⟩
theorem ap6h (n : Int) (t u : Tok) : Called 11 199 (54086761 < n) [.int 6 t, .int n u] (RtI fun r => 0 < r) :=
  (ap6 n t u).weaken fun h => ⟨by omega, fun _ q => q.2.1 h⟩
section
variable {prog : Program} {w : World} {A : Around} {E : Value → Shared → Prop} {s : Shared} {a b : Int} {t u : Tok} {Q : Value → Shared → Prop}
theorem absG (h : ∀ (r : Int) (u : Tok) (tk : Nat), 0 ≤ r → Q (.int r u) { s with toks := tk }) : wpAny (model prog w) A (call (.builtin "abs") [.int a t]) Q E s :=
  call_abs_int fun u tk => h _ u tk (by split <;> omega)
theorem fmodG (hb : 0 < b) (h : ∀ r : Int, 0 ≤ r → r < b → Q (.int r s.toks) { s with toks := s.toks + 1 }) : wpAny (model prog w) A (binaryOp .Mod (.int a t) (.int b u)) Q E s :=
  fmodL hb (h _ (Int.emod_nonneg _ (by omega)) (Int.emod_lt_of_pos _ hb))
theorem fmod7 (h0 : Q (.int 0 s.toks) { s with toks := s.toks + 1 }) (h1 : Q (.int 1 s.toks) { s with toks := s.toks + 1 }) (h2 : Q (.int 2 s.toks) { s with toks := s.toks + 1 }) (h3 : Q (.int 3 s.toks) { s with toks := s.toks + 1 })
    (h4 : Q (.int 4 s.toks) { s with toks := s.toks + 1 }) (h5 : Q (.int 5 s.toks) { s with toks := s.toks + 1 }) (h6 : Q (.int 6 s.toks) { s with toks := s.toks + 1 }) : wpAny (model prog w) A (binaryOp .Mod (.int a t) (.int 7 u)) Q E s :=
  fmodG (by decide) fun r r0 r1 => by
    rcases (show r = 0 ∨ r = 1 ∨ r = 2 ∨ r = 3 ∨ r = 4 ∨ r = 5 ∨ r = 6 by omega) with rfl | rfl | rfl | rfl | rfl | rfl | rfl <;> assumption
end
theorem meet7 {M : Model} {A : Around} {E Q : Value → Shared → Prop} {s : Shared} {value slice : Expr} {a : Addr} {r : Int} {t : Tok} (h0 : 0 ≤ r) (h1 : r < 7)
    (c0 : r = 0 → wpAny M A (subscriptTail value slice (.ref a) (.int r t)) Q E s) (c1 : r = 1 → wpAny M A (subscriptTail value slice (.ref a) (.int r t)) Q E s) (c2 : r = 2 → wpAny M A (subscriptTail value slice (.ref a) (.int r t)) Q E s)
    (c3 : r = 3 → wpAny M A (subscriptTail value slice (.ref a) (.int r t)) Q E s) (c4 : r = 4 → wpAny M A (subscriptTail value slice (.ref a) (.int r t)) Q E s) (c5 : r = 5 → wpAny M A (subscriptTail value slice (.ref a) (.int r t)) Q E s)
    (c6 : r = 6 → wpAny M A (subscriptTail value slice (.ref a) (.int r t)) Q E s) : wpAny M A (subscriptTail value slice (.ref a) (.int r t)) Q E s := by
  rcases (show r = 0 ∨ r = 1 ∨ r = 2 ∨ r = 3 ∨ r = 4 ∨ r = 5 ∨ r = 6 by omega) with h | h | h | h | h | h | h
  · exact c0 h
  · exact c1 h
  · exact c2 h
  · exact c3 h
  · exact c4 h
  · exact c5 h
  · exact c6 h
/-- behind a cut: the names stored may hold anything, the frame's others stand -/
def CutP (h₀ : Heap) (L : Addr) (s : Shared) (stored : List Str) (m₀ : Str → Option Value) (f : Flow) (s' : Shared) : Prop :=
  f = .next ∧ ∃ (h' : Heap) (tk' : Nat) (m' : Str → Option Value), s' = { s with heap := h', toks := tk' } ∧ Fr h₀ L h' m' ∧ ∀ z, stored.contains z = false → m' z = m₀ z
section
variable {M : Model} {A : Around} {E : Value → Shared → Prop} {s : Shared} {env : Env} {h₀ h' : Heap} {L : Addr} {m₀ m' : Str → Option Value} {Q : Flow → Shared → Prop} {tk' : Nat}
theorem cut_end {stored : List Str} (F : Fr h₀ L h' m') (hm : ∀ z, stored.contains z = false → m' z = m₀ z) : CutP h₀ L s stored m₀ .next { s with heap := h', toks := tk' } := ⟨rfl, h', tk', m', rfl, F, hm⟩
theorem cut_on {stored : List Str} {f : Flow} {s' : Shared} {rest : List Stmt} (h2 : ∀ (u : Str → Option Value) (h' : Heap) (tk' : Nat), Fr h₀ L h' (fun z => if stored.contains z then u z else m₀ z) → News h₀ L h' [] → wpAny M A (execs rest env) Q E { s with heap := h', toks := tk' })
    (q : CutP h₀ L s stored m₀ f s') : match (generalizing := false) f with | .next => wpAny M A (execs rest env) Q E s' | f => Q f s' := by
  obtain ⟨hf, h', tk', m', hs, F', hm⟩ := q
  subst hf
  subst hs
  refine h2 m' h' tk' ?_ News.nil
  have e : (fun z => if stored.contains z then m' z else m₀ z) = m' := by
    funext z
    cases q : stored.contains z with
    | true => simp
    | false => simp only [Bool.false_eq_true, if_false]; exact (hm z q).symm
  rw [e]
  exact F'
theorem cut1 {st : Stmt} {rest : List Stmt} (stored : List Str) (F : Fr h₀ L s.heap m₀) (h1 : wpAny M A (exec st env) (CutP h₀ L s stored m₀) E s)
    (h2 : ∀ (u : Str → Option Value) (h' : Heap) (tk' : Nat), Fr h₀ L h' (fun z => if stored.contains z then u z else m₀ z) → News h₀ L h' [] → wpAny M A (execs rest env) Q E { s with heap := h', toks := tk' }) :
    wpAny M A (execs (st :: rest) env) Q E s :=
  wpAny_execs_cons (wpAny_mono h1 (fun _ _ q => cut_on h2 q) fun _ _ h => h)
theorem cut2 {st st' : Stmt} {rest : List Stmt} (stored : List Str) (F : Fr h₀ L s.heap m₀) (h1 : wpAny M A (exec st env) (fun f s' => match f with | .next => wpAny M A (exec st' env) (CutP h₀ L s stored m₀) E s' | _ => False) E s)
    (h2 : ∀ (u : Str → Option Value) (h' : Heap) (tk' : Nat), Fr h₀ L h' (fun z => if stored.contains z then u z else m₀ z) → News h₀ L h' [] → wpAny M A (execs rest env) Q E { s with heap := h', toks := tk' }) :
    wpAny M A (execs (st :: st' :: rest) env) Q E s :=
  wpAny_execs_cons (wpAny_mono h1 (fun f _ q => by
    cases f with
    | next => exact wpAny_execs_cons (wpAny_mono q (fun _ _ q => cut_on h2 q) fun _ _ h => h)
    | brk => exact q.elim
    | cont => exact q.elim
    | ret v => exact q.elim) fun _ _ h => h)
end

/- L3 -/
local macro_rules | `(tactic| walk_at "call ref") => `(tactic| (k_here; first | ((with_reducible show wpAny _ _ (call (Value.ref 185) _) _ _ _); cell_call) | ((with_reducible show wpAny _ _ (call (Value.ref 71) _) _ _ _); (k_dflt (refine' Called.use (c_yearI _ _) ?k1 ?k2 ?k3 ?k4 ?k5 ?kK ?kp ?kd ?ku ?_); (case k1 => k_asm); (case k2 => k_asm); (case k3 => k_asm); (case k4 => k_asm); (case k5 => k_asm); (case kK => first | exact rfl | assumption); (case kp => first | trivial | assumption | omega | ((repeat' apply And.intro) <;> omega) | k_extra "kp"); (case kd => ktr_room); (case ku => ktr_units); first | (refine RtT.mk ?_; intro x9 y9 z9 t9 t8 t7 c9 D9 h9 tk9 hP9 F9 N9 l9; (try dsimp only at hP9); clear l9; (try dsimp only); (try k_fold)) | (refine RtI.mk ?_; intro r9 t9 h9 tk9 hP9 F9 N9; (try dsimp only at hP9); (try dsimp only); (try k_fold)) | (refine RtB.mk ?_; intro r9 h9 tk9 hP9 F9 N9; (try dsimp only at hP9); (try dsimp only); (try k_fold)))) | ((with_reducible show wpAny _ _ (call (Value.ref 199) [Value.int 0 _, Value.int _ _]) _ _ _); first | (k_dflt (refine' Called.use (ap0a _ _) ?k1 ?k2 ?k3 ?k4 ?k5 ?kK ?kp ?kd ?ku ?_); (case k1 => k_asm); (case k2 => k_asm); (case k3 => k_asm); (case k4 => k_asm); (case k5 => k_asm); (case kK => first | exact rfl | assumption); (case kp => first | trivial | assumption | omega | ((repeat' apply And.intro) <;> omega) | k_extra "kp"); (case kd => ktr_room); (case ku => ktr_units); first | (refine RtT.mk ?_; intro x9 y9 z9 t9 t8 t7 c9 D9 h9 tk9 hP9 F9 N9 l9; (try dsimp only at hP9); clear l9; (try dsimp only); (try k_fold)) | (refine RtI.mk ?_; intro r9 t9 h9 tk9 hP9 F9 N9; (try dsimp only at hP9); (try dsimp only); (try k_fold)) | (refine RtB.mk ?_; intro r9 h9 tk9 hP9 F9 N9; (try dsimp only at hP9); (try dsimp only); (try k_fold))) | (k_dflt (refine' Called.use (ap0b _ _) ?k1 ?k2 ?k3 ?k4 ?k5 ?kK ?kp ?kd ?ku ?_); (case k1 => k_asm); (case k2 => k_asm); (case k3 => k_asm); (case k4 => k_asm); (case k5 => k_asm); (case kK => first | exact rfl | assumption); (case kp => first | trivial | assumption | omega | ((repeat' apply And.intro) <;> omega) | k_extra "kp"); (case kd => ktr_room); (case ku => ktr_units); first | (refine RtT.mk ?_; intro x9 y9 z9 t9 t8 t7 c9 D9 h9 tk9 hP9 F9 N9 l9; (try dsimp only at hP9); clear l9; (try dsimp only); (try k_fold)) | (refine RtI.mk ?_; intro r9 t9 h9 tk9 hP9 F9 N9; (try dsimp only at hP9); (try dsimp only); (try k_fold)) | (refine RtB.mk ?_; intro r9 h9 tk9 hP9 F9 N9; (try dsimp only at hP9); (try dsimp only); (try k_fold))) | (k_dflt (refine' Called.use (ap0c _ _) ?k1 ?k2 ?k3 ?k4 ?k5 ?kK ?kp ?kd ?ku ?_); (case k1 => k_asm); (case k2 => k_asm); (case k3 => k_asm); (case k4 => k_asm); (case k5 => k_asm); (case kK => first | exact rfl | assumption); (case kp => first | trivial | assumption | omega | ((repeat' apply And.intro) <;> omega) | k_extra "kp"); (case kd => ktr_room); (case ku => ktr_units); first | (refine RtT.mk ?_; intro x9 y9 z9 t9 t8 t7 c9 D9 h9 tk9 hP9 F9 N9 l9; (try dsimp only at hP9); clear l9; (try dsimp only); (try k_fold)) | (refine RtI.mk ?_; intro r9 t9 h9 tk9 hP9 F9 N9; (try dsimp only at hP9); (try dsimp only); (try k_fold)) | (refine RtB.mk ?_; intro r9 h9 tk9 hP9 F9 N9; (try dsimp only at hP9); (try dsimp only); (try k_fold))) | (k_dflt (refine' Called.use (ap0d _ _) ?k1 ?k2 ?k3 ?k4 ?k5 ?kK ?kp ?kd ?ku ?_); (case k1 => k_asm); (case k2 => k_asm); (case k3 => k_asm); (case k4 => k_asm); (case k5 => k_asm); (case kK => first | exact rfl | assumption); (case kp => first | trivial | assumption | omega | ((repeat' apply And.intro) <;> omega) | k_extra "kp"); (case kd => ktr_room); (case ku => ktr_units); first | (refine RtT.mk ?_; intro x9 y9 z9 t9 t8 t7 c9 D9 h9 tk9 hP9 F9 N9 l9; (try dsimp only at hP9); clear l9; (try dsimp only); (try k_fold)) | (refine RtI.mk ?_; intro r9 t9 h9 tk9 hP9 F9 N9; (try dsimp only at hP9); (try dsimp only); (try k_fold)) | (refine RtB.mk ?_; intro r9 h9 tk9 hP9 F9 N9; (try dsimp only at hP9); (try dsimp only); (try k_fold))) | (k_dflt (refine' Called.use (ap0l _ _ _) ?k1 ?k2 ?k3 ?k4 ?k5 ?kK ?kp ?kd ?ku ?_); (case k1 => k_asm); (case k2 => k_asm); (case k3 => k_asm); (case k4 => k_asm); (case k5 => k_asm); (case kK => first | exact rfl | assumption); (case kp => first | trivial | assumption | omega | ((repeat' apply And.intro) <;> omega) | k_extra "kp"); (case kd => ktr_room); (case ku => ktr_units); first | (refine RtT.mk ?_; intro x9 y9 z9 t9 t8 t7 c9 D9 h9 tk9 hP9 F9 N9 l9; (try dsimp only at hP9); clear l9; (try dsimp only); (try k_fold)) | (refine RtI.mk ?_; intro r9 t9 h9 tk9 hP9 F9 N9; (try dsimp only at hP9); (try dsimp only); (try k_fold)) | (refine RtB.mk ?_; intro r9 h9 tk9 hP9 F9 N9; (try dsimp only at hP9); (try dsimp only); (try k_fold))) | (k_dflt (refine' Called.use (ap0h _ _ _) ?k1 ?k2 ?k3 ?k4 ?k5 ?kK ?kp ?kd ?ku ?_); (case k1 => k_asm); (case k2 => k_asm); (case k3 => k_asm); (case k4 => k_asm); (case k5 => k_asm); (case kK => first | exact rfl | assumption); (case kp => first | trivial | assumption | omega | ((repeat' apply And.intro) <;> omega) | k_extra "kp"); (case kd => ktr_room); (case ku => ktr_units); first | (refine RtT.mk ?_; intro x9 y9 z9 t9 t8 t7 c9 D9 h9 tk9 hP9 F9 N9 l9; (try dsimp only at hP9); clear l9; (try dsimp only); (try k_fold)) | (refine RtI.mk ?_; intro r9 t9 h9 tk9 hP9 F9 N9; (try dsimp only at hP9); (try dsimp only); (try k_fold)) | (refine RtB.mk ?_; intro r9 h9 tk9 hP9 F9 N9; (try dsimp only at hP9); (try dsimp only); (try k_fold))) | (k_dflt (refine' Called.use (ap0m _ _ _) ?k1 ?k2 ?k3 ?k4 ?k5 ?kK ?kp ?kd ?ku ?_); (case k1 => k_asm); (case k2 => k_asm); (case k3 => k_asm); (case k4 => k_asm); (case k5 => k_asm); (case kK => first | exact rfl | assumption); (case kp => first | trivial | assumption | omega | ((repeat' apply And.intro) <;> omega) | k_extra "kp"); (case kd => ktr_room); (case ku => ktr_units); first | (refine RtT.mk ?_; intro x9 y9 z9 t9 t8 t7 c9 D9 h9 tk9 hP9 F9 N9 l9; (try dsimp only at hP9); clear l9; (try dsimp only); (try k_fold)) | (refine RtI.mk ?_; intro r9 t9 h9 tk9 hP9 F9 N9; (try dsimp only at hP9); (try dsimp only); (try k_fold)) | (refine RtB.mk ?_; intro r9 h9 tk9 hP9 F9 N9; (try dsimp only at hP9); (try dsimp only); (try k_fold)))) | ((with_reducible show wpAny _ _ (call (Value.ref 199) [Value.int 1 _, Value.int _ _]) _ _ _); first | (k_dflt (refine' Called.use (ap1a _ _) ?k1 ?k2 ?k3 ?k4 ?k5 ?kK ?kp ?kd ?ku ?_); (case k1 => k_asm); (case k2 => k_asm); (case k3 => k_asm); (case k4 => k_asm); (case k5 => k_asm); (case kK => first | exact rfl | assumption); (case kp => first | trivial | assumption | omega | ((repeat' apply And.intro) <;> omega) | k_extra "kp"); (case kd => ktr_room); (case ku => ktr_units); first | (refine RtT.mk ?_; intro x9 y9 z9 t9 t8 t7 c9 D9 h9 tk9 hP9 F9 N9 l9; (try dsimp only at hP9); clear l9; (try dsimp only); (try k_fold)) | (refine RtI.mk ?_; intro r9 t9 h9 tk9 hP9 F9 N9; (try dsimp only at hP9); (try dsimp only); (try k_fold)) | (refine RtB.mk ?_; intro r9 h9 tk9 hP9 F9 N9; (try dsimp only at hP9); (try dsimp only); (try k_fold))) | (k_dflt (refine' Called.use (ap1b _ _) ?k1 ?k2 ?k3 ?k4 ?k5 ?kK ?kp ?kd ?ku ?_); (case k1 => k_asm); (case k2 => k_asm); (case k3 => k_asm); (case k4 => k_asm); (case k5 => k_asm); (case kK => first | exact rfl | assumption); (case kp => first | trivial | assumption | omega | ((repeat' apply And.intro) <;> omega) | k_extra "kp"); (case kd => ktr_room); (case ku => ktr_units); first | (refine RtT.mk ?_; intro x9 y9 z9 t9 t8 t7 c9 D9 h9 tk9 hP9 F9 N9 l9; (try dsimp only at hP9); clear l9; (try dsimp only); (try k_fold)) | (refine RtI.mk ?_; intro r9 t9 h9 tk9 hP9 F9 N9; (try dsimp only at hP9); (try dsimp only); (try k_fold)) | (refine RtB.mk ?_; intro r9 h9 tk9 hP9 F9 N9; (try dsimp only at hP9); (try dsimp only); (try k_fold))) | (k_dflt (refine' Called.use (ap1c _ _) ?k1 ?k2 ?k3 ?k4 ?k5 ?kK ?kp ?kd ?ku ?_); (case k1 => k_asm); (case k2 => k_asm); (case k3 => k_asm); (case k4 => k_asm); (case k5 => k_asm); (case kK => first | exact rfl | assumption); (case kp => first | trivial | assumption | omega | ((repeat' apply And.intro) <;> omega) | k_extra "kp"); (case kd => ktr_room); (case ku => ktr_units); first | (refine RtT.mk ?_; intro x9 y9 z9 t9 t8 t7 c9 D9 h9 tk9 hP9 F9 N9 l9; (try dsimp only at hP9); clear l9; (try dsimp only); (try k_fold)) | (refine RtI.mk ?_; intro r9 t9 h9 tk9 hP9 F9 N9; (try dsimp only at hP9); (try dsimp only); (try k_fold)) | (refine RtB.mk ?_; intro r9 h9 tk9 hP9 F9 N9; (try dsimp only at hP9); (try dsimp only); (try k_fold))) | (k_dflt (refine' Called.use (ap1d _ _) ?k1 ?k2 ?k3 ?k4 ?k5 ?kK ?kp ?kd ?ku ?_); (case k1 => k_asm); (case k2 => k_asm); (case k3 => k_asm); (case k4 => k_asm); (case k5 => k_asm); (case kK => first | exact rfl | assumption); (case kp => first | trivial | assumption | omega | ((repeat' apply And.intro) <;> omega) | k_extra "kp"); (case kd => ktr_room); (case ku => ktr_units); first | (refine RtT.mk ?_; intro x9 y9 z9 t9 t8 t7 c9 D9 h9 tk9 hP9 F9 N9 l9; (try dsimp only at hP9); clear l9; (try dsimp only); (try k_fold)) | (refine RtI.mk ?_; intro r9 t9 h9 tk9 hP9 F9 N9; (try dsimp only at hP9); (try dsimp only); (try k_fold)) | (refine RtB.mk ?_; intro r9 h9 tk9 hP9 F9 N9; (try dsimp only at hP9); (try dsimp only); (try k_fold))) | (k_dflt (refine' Called.use (ap1l _ _ _) ?k1 ?k2 ?k3 ?k4 ?k5 ?kK ?kp ?kd ?ku ?_); (case k1 => k_asm); (case k2 => k_asm); (case k3 => k_asm); (case k4 => k_asm); (case k5 => k_asm); (case kK => first | exact rfl | assumption); (case kp => first | trivial | assumption | omega | ((repeat' apply And.intro) <;> omega) | k_extra "kp"); (case kd => ktr_room); (case ku => ktr_units); first | (refine RtT.mk ?_; intro x9 y9 z9 t9 t8 t7 c9 D9 h9 tk9 hP9 F9 N9 l9; (try dsimp only at hP9); clear l9; (try dsimp only); (try k_fold)) | (refine RtI.mk ?_; intro r9 t9 h9 tk9 hP9 F9 N9; (try dsimp only at hP9); (try dsimp only); (try k_fold)) | (refine RtB.mk ?_; intro r9 h9 tk9 hP9 F9 N9; (try dsimp only at hP9); (try dsimp only); (try k_fold))) | (k_dflt (refine' Called.use (ap1h _ _ _) ?k1 ?k2 ?k3 ?k4 ?k5 ?kK ?kp ?kd ?ku ?_); (case k1 => k_asm); (case k2 => k_asm); (case k3 => k_asm); (case k4 => k_asm); (case k5 => k_asm); (case kK => first | exact rfl | assumption); (case kp => first | trivial | assumption | omega | ((repeat' apply And.intro) <;> omega) | k_extra "kp"); (case kd => ktr_room); (case ku => ktr_units); first | (refine RtT.mk ?_; intro x9 y9 z9 t9 t8 t7 c9 D9 h9 tk9 hP9 F9 N9 l9; (try dsimp only at hP9); clear l9; (try dsimp only); (try k_fold)) | (refine RtI.mk ?_; intro r9 t9 h9 tk9 hP9 F9 N9; (try dsimp only at hP9); (try dsimp only); (try k_fold)) | (refine RtB.mk ?_; intro r9 h9 tk9 hP9 F9 N9; (try dsimp only at hP9); (try dsimp only); (try k_fold))) | (k_dflt (refine' Called.use (ap1m _ _ _) ?k1 ?k2 ?k3 ?k4 ?k5 ?kK ?kp ?kd ?ku ?_); (case k1 => k_asm); (case k2 => k_asm); (case k3 => k_asm); (case k4 => k_asm); (case k5 => k_asm); (case kK => first | exact rfl | assumption); (case kp => first | trivial | assumption | omega | ((repeat' apply And.intro) <;> omega) | k_extra "kp"); (case kd => ktr_room); (case ku => ktr_units); first | (refine RtT.mk ?_; intro x9 y9 z9 t9 t8 t7 c9 D9 h9 tk9 hP9 F9 N9 l9; (try dsimp only at hP9); clear l9; (try dsimp only); (try k_fold)) | (refine RtI.mk ?_; intro r9 t9 h9 tk9 hP9 F9 N9; (try dsimp only at hP9); (try dsimp only); (try k_fold)) | (refine RtB.mk ?_; intro r9 h9 tk9 hP9 F9 N9; (try dsimp only at hP9); (try dsimp only); (try k_fold)))) | ((with_reducible show wpAny _ _ (call (Value.ref 199) [Value.int 2 _, Value.int _ _]) _ _ _); first | (k_dflt (refine' Called.use (ap2a _ _) ?k1 ?k2 ?k3 ?k4 ?k5 ?kK ?kp ?kd ?ku ?_); (case k1 => k_asm); (case k2 => k_asm); (case k3 => k_asm); (case k4 => k_asm); (case k5 => k_asm); (case kK => first | exact rfl | assumption); (case kp => first | trivial | assumption | omega | ((repeat' apply And.intro) <;> omega) | k_extra "kp"); (case kd => ktr_room); (case ku => ktr_units); first | (refine RtT.mk ?_; intro x9 y9 z9 t9 t8 t7 c9 D9 h9 tk9 hP9 F9 N9 l9; (try dsimp only at hP9); clear l9; (try dsimp only); (try k_fold)) | (refine RtI.mk ?_; intro r9 t9 h9 tk9 hP9 F9 N9; (try dsimp only at hP9); (try dsimp only); (try k_fold)) | (refine RtB.mk ?_; intro r9 h9 tk9 hP9 F9 N9; (try dsimp only at hP9); (try dsimp only); (try k_fold))) | (k_dflt (refine' Called.use (ap2b _ _) ?k1 ?k2 ?k3 ?k4 ?k5 ?kK ?kp ?kd ?ku ?_); (case k1 => k_asm); (case k2 => k_asm); (case k3 => k_asm); (case k4 => k_asm); (case k5 => k_asm); (case kK => first | exact rfl | assumption); (case kp => first | trivial | assumption | omega | ((repeat' apply And.intro) <;> omega) | k_extra "kp"); (case kd => ktr_room); (case ku => ktr_units); first | (refine RtT.mk ?_; intro x9 y9 z9 t9 t8 t7 c9 D9 h9 tk9 hP9 F9 N9 l9; (try dsimp only at hP9); clear l9; (try dsimp only); (try k_fold)) | (refine RtI.mk ?_; intro r9 t9 h9 tk9 hP9 F9 N9; (try dsimp only at hP9); (try dsimp only); (try k_fold)) | (refine RtB.mk ?_; intro r9 h9 tk9 hP9 F9 N9; (try dsimp only at hP9); (try dsimp only); (try k_fold))) | (k_dflt (refine' Called.use (ap2c _ _) ?k1 ?k2 ?k3 ?k4 ?k5 ?kK ?kp ?kd ?ku ?_); (case k1 => k_asm); (case k2 => k_asm); (case k3 => k_asm); (case k4 => k_asm); (case k5 => k_asm); (case kK => first | exact rfl | assumption); (case kp => first | trivial | assumption | omega | ((repeat' apply And.intro) <;> omega) | k_extra "kp"); (case kd => ktr_room); (case ku => ktr_units); first | (refine RtT.mk ?_; intro x9 y9 z9 t9 t8 t7 c9 D9 h9 tk9 hP9 F9 N9 l9; (try dsimp only at hP9); clear l9; (try dsimp only); (try k_fold)) | (refine RtI.mk ?_; intro r9 t9 h9 tk9 hP9 F9 N9; (try dsimp only at hP9); (try dsimp only); (try k_fold)) | (refine RtB.mk ?_; intro r9 h9 tk9 hP9 F9 N9; (try dsimp only at hP9); (try dsimp only); (try k_fold))) | (k_dflt (refine' Called.use (ap2d _ _) ?k1 ?k2 ?k3 ?k4 ?k5 ?kK ?kp ?kd ?ku ?_); (case k1 => k_asm); (case k2 => k_asm); (case k3 => k_asm); (case k4 => k_asm); (case k5 => k_asm); (case kK => first | exact rfl | assumption); (case kp => first | trivial | assumption | omega | ((repeat' apply And.intro) <;> omega) | k_extra "kp"); (case kd => ktr_room); (case ku => ktr_units); first | (refine RtT.mk ?_; intro x9 y9 z9 t9 t8 t7 c9 D9 h9 tk9 hP9 F9 N9 l9; (try dsimp only at hP9); clear l9; (try dsimp only); (try k_fold)) | (refine RtI.mk ?_; intro r9 t9 h9 tk9 hP9 F9 N9; (try dsimp only at hP9); (try dsimp only); (try k_fold)) | (refine RtB.mk ?_; intro r9 h9 tk9 hP9 F9 N9; (try dsimp only at hP9); (try dsimp only); (try k_fold))) | (k_dflt (refine' Called.use (ap2l _ _ _) ?k1 ?k2 ?k3 ?k4 ?k5 ?kK ?kp ?kd ?ku ?_); (case k1 => k_asm); (case k2 => k_asm); (case k3 => k_asm); (case k4 => k_asm); (case k5 => k_asm); (case kK => first | exact rfl | assumption); (case kp => first | trivial | assumption | omega | ((repeat' apply And.intro) <;> omega) | k_extra "kp"); (case kd => ktr_room); (case ku => ktr_units); first | (refine RtT.mk ?_; intro x9 y9 z9 t9 t8 t7 c9 D9 h9 tk9 hP9 F9 N9 l9; (try dsimp only at hP9); clear l9; (try dsimp only); (try k_fold)) | (refine RtI.mk ?_; intro r9 t9 h9 tk9 hP9 F9 N9; (try dsimp only at hP9); (try dsimp only); (try k_fold)) | (refine RtB.mk ?_; intro r9 h9 tk9 hP9 F9 N9; (try dsimp only at hP9); (try dsimp only); (try k_fold))) | (k_dflt (refine' Called.use (ap2h _ _ _) ?k1 ?k2 ?k3 ?k4 ?k5 ?kK ?kp ?kd ?ku ?_); (case k1 => k_asm); (case k2 => k_asm); (case k3 => k_asm); (case k4 => k_asm); (case k5 => k_asm); (case kK => first | exact rfl | assumption); (case kp => first | trivial | assumption | omega | ((repeat' apply And.intro) <;> omega) | k_extra "kp"); (case kd => ktr_room); (case ku => ktr_units); first | (refine RtT.mk ?_; intro x9 y9 z9 t9 t8 t7 c9 D9 h9 tk9 hP9 F9 N9 l9; (try dsimp only at hP9); clear l9; (try dsimp only); (try k_fold)) | (refine RtI.mk ?_; intro r9 t9 h9 tk9 hP9 F9 N9; (try dsimp only at hP9); (try dsimp only); (try k_fold)) | (refine RtB.mk ?_; intro r9 h9 tk9 hP9 F9 N9; (try dsimp only at hP9); (try dsimp only); (try k_fold))) | (k_dflt (refine' Called.use (ap2m _ _ _) ?k1 ?k2 ?k3 ?k4 ?k5 ?kK ?kp ?kd ?ku ?_); (case k1 => k_asm); (case k2 => k_asm); (case k3 => k_asm); (case k4 => k_asm); (case k5 => k_asm); (case kK => first | exact rfl | assumption); (case kp => first | trivial | assumption | omega | ((repeat' apply And.intro) <;> omega) | k_extra "kp"); (case kd => ktr_room); (case ku => ktr_units); first | (refine RtT.mk ?_; intro x9 y9 z9 t9 t8 t7 c9 D9 h9 tk9 hP9 F9 N9 l9; (try dsimp only at hP9); clear l9; (try dsimp only); (try k_fold)) | (refine RtI.mk ?_; intro r9 t9 h9 tk9 hP9 F9 N9; (try dsimp only at hP9); (try dsimp only); (try k_fold)) | (refine RtB.mk ?_; intro r9 h9 tk9 hP9 F9 N9; (try dsimp only at hP9); (try dsimp only); (try k_fold)))) | ((with_reducible show wpAny _ _ (call (Value.ref 199) [Value.int 3 _, Value.int _ _]) _ _ _); first | (k_dflt (refine' Called.use (ap3a _ _) ?k1 ?k2 ?k3 ?k4 ?k5 ?kK ?kp ?kd ?ku ?_); (case k1 => k_asm); (case k2 => k_asm); (case k3 => k_asm); (case k4 => k_asm); (case k5 => k_asm); (case kK => first | exact rfl | assumption); (case kp => first | trivial | assumption | omega | ((repeat' apply And.intro) <;> omega) | k_extra "kp"); (case kd => ktr_room); (case ku => ktr_units); first | (refine RtT.mk ?_; intro x9 y9 z9 t9 t8 t7 c9 D9 h9 tk9 hP9 F9 N9 l9; (try dsimp only at hP9); clear l9; (try dsimp only); (try k_fold)) | (refine RtI.mk ?_; intro r9 t9 h9 tk9 hP9 F9 N9; (try dsimp only at hP9); (try dsimp only); (try k_fold)) | (refine RtB.mk ?_; intro r9 h9 tk9 hP9 F9 N9; (try dsimp only at hP9); (try dsimp only); (try k_fold))) | (k_dflt (refine' Called.use (ap3b _ _) ?k1 ?k2 ?k3 ?k4 ?k5 ?kK ?kp ?kd ?ku ?_); (case k1 => k_asm); (case k2 => k_asm); (case k3 => k_asm); (case k4 => k_asm); (case k5 => k_asm); (case kK => first | exact rfl | assumption); (case kp => first | trivial | assumption | omega | ((repeat' apply And.intro) <;> omega) | k_extra "kp"); (case kd => ktr_room); (case ku => ktr_units); first | (refine RtT.mk ?_; intro x9 y9 z9 t9 t8 t7 c9 D9 h9 tk9 hP9 F9 N9 l9; (try dsimp only at hP9); clear l9; (try dsimp only); (try k_fold)) | (refine RtI.mk ?_; intro r9 t9 h9 tk9 hP9 F9 N9; (try dsimp only at hP9); (try dsimp only); (try k_fold)) | (refine RtB.mk ?_; intro r9 h9 tk9 hP9 F9 N9; (try dsimp only at hP9); (try dsimp only); (try k_fold))) | (k_dflt (refine' Called.use (ap3c _ _) ?k1 ?k2 ?k3 ?k4 ?k5 ?kK ?kp ?kd ?ku ?_); (case k1 => k_asm); (case k2 => k_asm); (case k3 => k_asm); (case k4 => k_asm); (case k5 => k_asm); (case kK => first | exact rfl | assumption); (case kp => first | trivial | assumption | omega | ((repeat' apply And.intro) <;> omega) | k_extra "kp"); (case kd => ktr_room); (case ku => ktr_units); first | (refine RtT.mk ?_; intro x9 y9 z9 t9 t8 t7 c9 D9 h9 tk9 hP9 F9 N9 l9; (try dsimp only at hP9); clear l9; (try dsimp only); (try k_fold)) | (refine RtI.mk ?_; intro r9 t9 h9 tk9 hP9 F9 N9; (try dsimp only at hP9); (try dsimp only); (try k_fold)) | (refine RtB.mk ?_; intro r9 h9 tk9 hP9 F9 N9; (try dsimp only at hP9); (try dsimp only); (try k_fold))) | (k_dflt (refine' Called.use (ap3d _ _) ?k1 ?k2 ?k3 ?k4 ?k5 ?kK ?kp ?kd ?ku ?_); (case k1 => k_asm); (case k2 => k_asm); (case k3 => k_asm); (case k4 => k_asm); (case k5 => k_asm); (case kK => first | exact rfl | assumption); (case kp => first | trivial | assumption | omega | ((repeat' apply And.intro) <;> omega) | k_extra "kp"); (case kd => ktr_room); (case ku => ktr_units); first | (refine RtT.mk ?_; intro x9 y9 z9 t9 t8 t7 c9 D9 h9 tk9 hP9 F9 N9 l9; (try dsimp only at hP9); clear l9; (try dsimp only); (try k_fold)) | (refine RtI.mk ?_; intro r9 t9 h9 tk9 hP9 F9 N9; (try dsimp only at hP9); (try dsimp only); (try k_fold)) | (refine RtB.mk ?_; intro r9 h9 tk9 hP9 F9 N9; (try dsimp only at hP9); (try dsimp only); (try k_fold))) | (k_dflt (refine' Called.use (ap3l _ _ _) ?k1 ?k2 ?k3 ?k4 ?k5 ?kK ?kp ?kd ?ku ?_); (case k1 => k_asm); (case k2 => k_asm); (case k3 => k_asm); (case k4 => k_asm); (case k5 => k_asm); (case kK => first | exact rfl | assumption); (case kp => first | trivial | assumption | omega | ((repeat' apply And.intro) <;> omega) | k_extra "kp"); (case kd => ktr_room); (case ku => ktr_units); first | (refine RtT.mk ?_; intro x9 y9 z9 t9 t8 t7 c9 D9 h9 tk9 hP9 F9 N9 l9; (try dsimp only at hP9); clear l9; (try dsimp only); (try k_fold)) | (refine RtI.mk ?_; intro r9 t9 h9 tk9 hP9 F9 N9; (try dsimp only at hP9); (try dsimp only); (try k_fold)) | (refine RtB.mk ?_; intro r9 h9 tk9 hP9 F9 N9; (try dsimp only at hP9); (try dsimp only); (try k_fold))) | (k_dflt (refine' Called.use (ap3h _ _ _) ?k1 ?k2 ?k3 ?k4 ?k5 ?kK ?kp ?kd ?ku ?_); (case k1 => k_asm); (case k2 => k_asm); (case k3 => k_asm); (case k4 => k_asm); (case k5 => k_asm); (case kK => first | exact rfl | assumption); (case kp => first | trivial | assumption | omega | ((repeat' apply And.intro) <;> omega) | k_extra "kp"); (case kd => ktr_room); (case ku => ktr_units); first | (refine RtT.mk ?_; intro x9 y9 z9 t9 t8 t7 c9 D9 h9 tk9 hP9 F9 N9 l9; (try dsimp only at hP9); clear l9; (try dsimp only); (try k_fold)) | (refine RtI.mk ?_; intro r9 t9 h9 tk9 hP9 F9 N9; (try dsimp only at hP9); (try dsimp only); (try k_fold)) | (refine RtB.mk ?_; intro r9 h9 tk9 hP9 F9 N9; (try dsimp only at hP9); (try dsimp only); (try k_fold))) | (k_dflt (refine' Called.use (ap3m _ _ _) ?k1 ?k2 ?k3 ?k4 ?k5 ?kK ?kp ?kd ?ku ?_); (case k1 => k_asm); (case k2 => k_asm); (case k3 => k_asm); (case k4 => k_asm); (case k5 => k_asm); (case kK => first | exact rfl | assumption); (case kp => first | trivial | assumption | omega | ((repeat' apply And.intro) <;> omega) | k_extra "kp"); (case kd => ktr_room); (case ku => ktr_units); first | (refine RtT.mk ?_; intro x9 y9 z9 t9 t8 t7 c9 D9 h9 tk9 hP9 F9 N9 l9; (try dsimp only at hP9); clear l9; (try dsimp only); (try k_fold)) | (refine RtI.mk ?_; intro r9 t9 h9 tk9 hP9 F9 N9; (try dsimp only at hP9); (try dsimp only); (try k_fold)) | (refine RtB.mk ?_; intro r9 h9 tk9 hP9 F9 N9; (try dsimp only at hP9); (try dsimp only); (try k_fold)))) | ((with_reducible show wpAny _ _ (call (Value.ref 199) [Value.int 4 _, Value.int _ _]) _ _ _); first | (k_dflt (refine' Called.use (ap4a _ _) ?k1 ?k2 ?k3 ?k4 ?k5 ?kK ?kp ?kd ?ku ?_); (case k1 => k_asm); (case k2 => k_asm); (case k3 => k_asm); (case k4 => k_asm); (case k5 => k_asm); (case kK => first | exact rfl | assumption); (case kp => first | trivial | assumption | omega | ((repeat' apply And.intro) <;> omega) | k_extra "kp"); (case kd => ktr_room); (case ku => ktr_units); first | (refine RtT.mk ?_; intro x9 y9 z9 t9 t8 t7 c9 D9 h9 tk9 hP9 F9 N9 l9; (try dsimp only at hP9); clear l9; (try dsimp only); (try k_fold)) | (refine RtI.mk ?_; intro r9 t9 h9 tk9 hP9 F9 N9; (try dsimp only at hP9); (try dsimp only); (try k_fold)) | (refine RtB.mk ?_; intro r9 h9 tk9 hP9 F9 N9; (try dsimp only at hP9); (try dsimp only); (try k_fold))) | (k_dflt (refine' Called.use (ap4b _ _) ?k1 ?k2 ?k3 ?k4 ?k5 ?kK ?kp ?kd ?ku ?_); (case k1 => k_asm); (case k2 => k_asm); (case k3 => k_asm); (case k4 => k_asm); (case k5 => k_asm); (case kK => first | exact rfl | assumption); (case kp => first | trivial | assumption | omega | ((repeat' apply And.intro) <;> omega) | k_extra "kp"); (case kd => ktr_room); (case ku => ktr_units); first | (refine RtT.mk ?_; intro x9 y9 z9 t9 t8 t7 c9 D9 h9 tk9 hP9 F9 N9 l9; (try dsimp only at hP9); clear l9; (try dsimp only); (try k_fold)) | (refine RtI.mk ?_; intro r9 t9 h9 tk9 hP9 F9 N9; (try dsimp only at hP9); (try dsimp only); (try k_fold)) | (refine RtB.mk ?_; intro r9 h9 tk9 hP9 F9 N9; (try dsimp only at hP9); (try dsimp only); (try k_fold))) | (k_dflt (refine' Called.use (ap4c _ _) ?k1 ?k2 ?k3 ?k4 ?k5 ?kK ?kp ?kd ?ku ?_); (case k1 => k_asm); (case k2 => k_asm); (case k3 => k_asm); (case k4 => k_asm); (case k5 => k_asm); (case kK => first | exact rfl | assumption); (case kp => first | trivial | assumption | omega | ((repeat' apply And.intro) <;> omega) | k_extra "kp"); (case kd => ktr_room); (case ku => ktr_units); first | (refine RtT.mk ?_; intro x9 y9 z9 t9 t8 t7 c9 D9 h9 tk9 hP9 F9 N9 l9; (try dsimp only at hP9); clear l9; (try dsimp only); (try k_fold)) | (refine RtI.mk ?_; intro r9 t9 h9 tk9 hP9 F9 N9; (try dsimp only at hP9); (try dsimp only); (try k_fold)) | (refine RtB.mk ?_; intro r9 h9 tk9 hP9 F9 N9; (try dsimp only at hP9); (try dsimp only); (try k_fold))) | (k_dflt (refine' Called.use (ap4d _ _) ?k1 ?k2 ?k3 ?k4 ?k5 ?kK ?kp ?kd ?ku ?_); (case k1 => k_asm); (case k2 => k_asm); (case k3 => k_asm); (case k4 => k_asm); (case k5 => k_asm); (case kK => first | exact rfl | assumption); (case kp => first | trivial | assumption | omega | ((repeat' apply And.intro) <;> omega) | k_extra "kp"); (case kd => ktr_room); (case ku => ktr_units); first | (refine RtT.mk ?_; intro x9 y9 z9 t9 t8 t7 c9 D9 h9 tk9 hP9 F9 N9 l9; (try dsimp only at hP9); clear l9; (try dsimp only); (try k_fold)) | (refine RtI.mk ?_; intro r9 t9 h9 tk9 hP9 F9 N9; (try dsimp only at hP9); (try dsimp only); (try k_fold)) | (refine RtB.mk ?_; intro r9 h9 tk9 hP9 F9 N9; (try dsimp only at hP9); (try dsimp only); (try k_fold))) | (k_dflt (refine' Called.use (ap4l _ _ _) ?k1 ?k2 ?k3 ?k4 ?k5 ?kK ?kp ?kd ?ku ?_); (case k1 => k_asm); (case k2 => k_asm); (case k3 => k_asm); (case k4 => k_asm); (case k5 => k_asm); (case kK => first | exact rfl | assumption); (case kp => first | trivial | assumption | omega | ((repeat' apply And.intro) <;> omega) | k_extra "kp"); (case kd => ktr_room); (case ku => ktr_units); first | (refine RtT.mk ?_; intro x9 y9 z9 t9 t8 t7 c9 D9 h9 tk9 hP9 F9 N9 l9; (try dsimp only at hP9); clear l9; (try dsimp only); (try k_fold)) | (refine RtI.mk ?_; intro r9 t9 h9 tk9 hP9 F9 N9; (try dsimp only at hP9); (try dsimp only); (try k_fold)) | (refine RtB.mk ?_; intro r9 h9 tk9 hP9 F9 N9; (try dsimp only at hP9); (try dsimp only); (try k_fold))) | (k_dflt (refine' Called.use (ap4h _ _ _) ?k1 ?k2 ?k3 ?k4 ?k5 ?kK ?kp ?kd ?ku ?_); (case k1 => k_asm); (case k2 => k_asm); (case k3 => k_asm); (case k4 => k_asm); (case k5 => k_asm); (case kK => first | exact rfl | assumption); (case kp => first | trivial | assumption | omega | ((repeat' apply And.intro) <;> omega) | k_extra "kp"); (case kd => ktr_room); (case ku => ktr_units); first | (refine RtT.mk ?_; intro x9 y9 z9 t9 t8 t7 c9 D9 h9 tk9 hP9 F9 N9 l9; (try dsimp only at hP9); clear l9; (try dsimp only); (try k_fold)) | (refine RtI.mk ?_; intro r9 t9 h9 tk9 hP9 F9 N9; (try dsimp only at hP9); (try dsimp only); (try k_fold)) | (refine RtB.mk ?_; intro r9 h9 tk9 hP9 F9 N9; (try dsimp only at hP9); (try dsimp only); (try k_fold))) | (k_dflt (refine' Called.use (ap4m _ _ _) ?k1 ?k2 ?k3 ?k4 ?k5 ?kK ?kp ?kd ?ku ?_); (case k1 => k_asm); (case k2 => k_asm); (case k3 => k_asm); (case k4 => k_asm); (case k5 => k_asm); (case kK => first | exact rfl | assumption); (case kp => first | trivial | assumption | omega | ((repeat' apply And.intro) <;> omega) | k_extra "kp"); (case kd => ktr_room); (case ku => ktr_units); first | (refine RtT.mk ?_; intro x9 y9 z9 t9 t8 t7 c9 D9 h9 tk9 hP9 F9 N9 l9; (try dsimp only at hP9); clear l9; (try dsimp only); (try k_fold)) | (refine RtI.mk ?_; intro r9 t9 h9 tk9 hP9 F9 N9; (try dsimp only at hP9); (try dsimp only); (try k_fold)) | (refine RtB.mk ?_; intro r9 h9 tk9 hP9 F9 N9; (try dsimp only at hP9); (try dsimp only); (try k_fold)))) | ((with_reducible show wpAny _ _ (call (Value.ref 199) [Value.int 5 _, Value.int _ _]) _ _ _); first | (k_dflt (refine' Called.use (ap5a _ _) ?k1 ?k2 ?k3 ?k4 ?k5 ?kK ?kp ?kd ?ku ?_); (case k1 => k_asm); (case k2 => k_asm); (case k3 => k_asm); (case k4 => k_asm); (case k5 => k_asm); (case kK => first | exact rfl | assumption); (case kp => first | trivial | assumption | omega | ((repeat' apply And.intro) <;> omega) | k_extra "kp"); (case kd => ktr_room); (case ku => ktr_units); first | (refine RtT.mk ?_; intro x9 y9 z9 t9 t8 t7 c9 D9 h9 tk9 hP9 F9 N9 l9; (try dsimp only at hP9); clear l9; (try dsimp only); (try k_fold)) | (refine RtI.mk ?_; intro r9 t9 h9 tk9 hP9 F9 N9; (try dsimp only at hP9); (try dsimp only); (try k_fold)) | (refine RtB.mk ?_; intro r9 h9 tk9 hP9 F9 N9; (try dsimp only at hP9); (try dsimp only); (try k_fold))) | (k_dflt (refine' Called.use (ap5b _ _) ?k1 ?k2 ?k3 ?k4 ?k5 ?kK ?kp ?kd ?ku ?_); (case k1 => k_asm); (case k2 => k_asm); (case k3 => k_asm); (case k4 => k_asm); (case k5 => k_asm); (case kK => first | exact rfl | assumption); (case kp => first | trivial | assumption | omega | ((repeat' apply And.intro) <;> omega) | k_extra "kp"); (case kd => ktr_room); (case ku => ktr_units); first | (refine RtT.mk ?_; intro x9 y9 z9 t9 t8 t7 c9 D9 h9 tk9 hP9 F9 N9 l9; (try dsimp only at hP9); clear l9; (try dsimp only); (try k_fold)) | (refine RtI.mk ?_; intro r9 t9 h9 tk9 hP9 F9 N9; (try dsimp only at hP9); (try dsimp only); (try k_fold)) | (refine RtB.mk ?_; intro r9 h9 tk9 hP9 F9 N9; (try dsimp only at hP9); (try dsimp only); (try k_fold))) | (k_dflt (refine' Called.use (ap5c _ _) ?k1 ?k2 ?k3 ?k4 ?k5 ?kK ?kp ?kd ?ku ?_); (case k1 => k_asm); (case k2 => k_asm); (case k3 => k_asm); (case k4 => k_asm); (case k5 => k_asm); (case kK => first | exact rfl | assumption); (case kp => first | trivial | assumption | omega | ((repeat' apply And.intro) <;> omega) | k_extra "kp"); (case kd => ktr_room); (case ku => ktr_units); first | (refine RtT.mk ?_; intro x9 y9 z9 t9 t8 t7 c9 D9 h9 tk9 hP9 F9 N9 l9; (try dsimp only at hP9); clear l9; (try dsimp only); (try k_fold)) | (refine RtI.mk ?_; intro r9 t9 h9 tk9 hP9 F9 N9; (try dsimp only at hP9); (try dsimp only); (try k_fold)) | (refine RtB.mk ?_; intro r9 h9 tk9 hP9 F9 N9; (try dsimp only at hP9); (try dsimp only); (try k_fold))) | (k_dflt (refine' Called.use (ap5d _ _) ?k1 ?k2 ?k3 ?k4 ?k5 ?kK ?kp ?kd ?ku ?_); (case k1 => k_asm); (case k2 => k_asm); (case k3 => k_asm); (case k4 => k_asm); (case k5 => k_asm); (case kK => first | exact rfl | assumption); (case kp => first | trivial | assumption | omega | ((repeat' apply And.intro) <;> omega) | k_extra "kp"); (case kd => ktr_room); (case ku => ktr_units); first | (refine RtT.mk ?_; intro x9 y9 z9 t9 t8 t7 c9 D9 h9 tk9 hP9 F9 N9 l9; (try dsimp only at hP9); clear l9; (try dsimp only); (try k_fold)) | (refine RtI.mk ?_; intro r9 t9 h9 tk9 hP9 F9 N9; (try dsimp only at hP9); (try dsimp only); (try k_fold)) | (refine RtB.mk ?_; intro r9 h9 tk9 hP9 F9 N9; (try dsimp only at hP9); (try dsimp only); (try k_fold))) | (k_dflt (refine' Called.use (ap5l _ _ _) ?k1 ?k2 ?k3 ?k4 ?k5 ?kK ?kp ?kd ?ku ?_); (case k1 => k_asm); (case k2 => k_asm); (case k3 => k_asm); (case k4 => k_asm); (case k5 => k_asm); (case kK => first | exact rfl | assumption); (case kp => first | trivial | assumption | omega | ((repeat' apply And.intro) <;> omega) | k_extra "kp"); (case kd => ktr_room); (case ku => ktr_units); first | (refine RtT.mk ?_; intro x9 y9 z9 t9 t8 t7 c9 D9 h9 tk9 hP9 F9 N9 l9; (try dsimp only at hP9); clear l9; (try dsimp only); (try k_fold)) | (refine RtI.mk ?_; intro r9 t9 h9 tk9 hP9 F9 N9; (try dsimp only at hP9); (try dsimp only); (try k_fold)) | (refine RtB.mk ?_; intro r9 h9 tk9 hP9 F9 N9; (try dsimp only at hP9); (try dsimp only); (try k_fold))) | (k_dflt (refine' Called.use (ap5h _ _ _) ?k1 ?k2 ?k3 ?k4 ?k5 ?kK ?kp ?kd ?ku ?_); (case k1 => k_asm); (case k2 => k_asm); (case k3 => k_asm); (case k4 => k_asm); (case k5 => k_asm); (case kK => first | exact rfl | assumption); (case kp => first | trivial | assumption | omega | ((repeat' apply And.intro) <;> omega) | k_extra "kp"); (case kd => ktr_room); (case ku => ktr_units); first | (refine RtT.mk ?_; intro x9 y9 z9 t9 t8 t7 c9 D9 h9 tk9 hP9 F9 N9 l9; (try dsimp only at hP9); clear l9; (try dsimp only); (try k_fold)) | (refine RtI.mk ?_; intro r9 t9 h9 tk9 hP9 F9 N9; (try dsimp only at hP9); (try dsimp only); (try k_fold)) | (refine RtB.mk ?_; intro r9 h9 tk9 hP9 F9 N9; (try dsimp only at hP9); (try dsimp only); (try k_fold))) | (k_dflt (refine' Called.use (ap5m _ _ _) ?k1 ?k2 ?k3 ?k4 ?k5 ?kK ?kp ?kd ?ku ?_); (case k1 => k_asm); (case k2 => k_asm); (case k3 => k_asm); (case k4 => k_asm); (case k5 => k_asm); (case kK => first | exact rfl | assumption); (case kp => first | trivial | assumption | omega | ((repeat' apply And.intro) <;> omega) | k_extra "kp"); (case kd => ktr_room); (case ku => ktr_units); first | (refine RtT.mk ?_; intro x9 y9 z9 t9 t8 t7 c9 D9 h9 tk9 hP9 F9 N9 l9; (try dsimp only at hP9); clear l9; (try dsimp only); (try k_fold)) | (refine RtI.mk ?_; intro r9 t9 h9 tk9 hP9 F9 N9; (try dsimp only at hP9); (try dsimp only); (try k_fold)) | (refine RtB.mk ?_; intro r9 h9 tk9 hP9 F9 N9; (try dsimp only at hP9); (try dsimp only); (try k_fold)))) | ((with_reducible show wpAny _ _ (call (Value.ref 199) [Value.int 6 _, Value.int _ _]) _ _ _); first | (k_dflt (refine' Called.use (ap6a _ _) ?k1 ?k2 ?k3 ?k4 ?k5 ?kK ?kp ?kd ?ku ?_); (case k1 => k_asm); (case k2 => k_asm); (case k3 => k_asm); (case k4 => k_asm); (case k5 => k_asm); (case kK => first | exact rfl | assumption); (case kp => first | trivial | assumption | omega | ((repeat' apply And.intro) <;> omega) | k_extra "kp"); (case kd => ktr_room); (case ku => ktr_units); first | (refine RtT.mk ?_; intro x9 y9 z9 t9 t8 t7 c9 D9 h9 tk9 hP9 F9 N9 l9; (try dsimp only at hP9); clear l9; (try dsimp only); (try k_fold)) | (refine RtI.mk ?_; intro r9 t9 h9 tk9 hP9 F9 N9; (try dsimp only at hP9); (try dsimp only); (try k_fold)) | (refine RtB.mk ?_; intro r9 h9 tk9 hP9 F9 N9; (try dsimp only at hP9); (try dsimp only); (try k_fold))) | (k_dflt (refine' Called.use (ap6b _ _) ?k1 ?k2 ?k3 ?k4 ?k5 ?kK ?kp ?kd ?ku ?_); (case k1 => k_asm); (case k2 => k_asm); (case k3 => k_asm); (case k4 => k_asm); (case k5 => k_asm); (case kK => first | exact rfl | assumption); (case kp => first | trivial | assumption | omega | ((repeat' apply And.intro) <;> omega) | k_extra "kp"); (case kd => ktr_room); (case ku => ktr_units); first | (refine RtT.mk ?_; intro x9 y9 z9 t9 t8 t7 c9 D9 h9 tk9 hP9 F9 N9 l9; (try dsimp only at hP9); clear l9; (try dsimp only); (try k_fold)) | (refine RtI.mk ?_; intro r9 t9 h9 tk9 hP9 F9 N9; (try dsimp only at hP9); (try dsimp only); (try k_fold)) | (refine RtB.mk ?_; intro r9 h9 tk9 hP9 F9 N9; (try dsimp only at hP9); (try dsimp only); (try k_fold))) | (k_dflt (refine' Called.use (ap6c _ _) ?k1 ?k2 ?k3 ?k4 ?k5 ?kK ?kp ?kd ?ku ?_); (case k1 => k_asm); (case k2 => k_asm); (case k3 => k_asm); (case k4 => k_asm); (case k5 => k_asm); (case kK => first | exact rfl | assumption); (case kp => first | trivial | assumption | omega | ((repeat' apply And.intro) <;> omega) | k_extra "kp"); (case kd => ktr_room); (case ku => ktr_units); first | (refine RtT.mk ?_; intro x9 y9 z9 t9 t8 t7 c9 D9 h9 tk9 hP9 F9 N9 l9; (try dsimp only at hP9); clear l9; (try dsimp only); (try k_fold)) | (refine RtI.mk ?_; intro r9 t9 h9 tk9 hP9 F9 N9; (try dsimp only at hP9); (try dsimp only); (try k_fold)) | (refine RtB.mk ?_; intro r9 h9 tk9 hP9 F9 N9; (try dsimp only at hP9); (try dsimp only); (try k_fold))) | (k_dflt (refine' Called.use (ap6d _ _) ?k1 ?k2 ?k3 ?k4 ?k5 ?kK ?kp ?kd ?ku ?_); (case k1 => k_asm); (case k2 => k_asm); (case k3 => k_asm); (case k4 => k_asm); (case k5 => k_asm); (case kK => first | exact rfl | assumption); (case kp => first | trivial | assumption | omega | ((repeat' apply And.intro) <;> omega) | k_extra "kp"); (case kd => ktr_room); (case ku => ktr_units); first | (refine RtT.mk ?_; intro x9 y9 z9 t9 t8 t7 c9 D9 h9 tk9 hP9 F9 N9 l9; (try dsimp only at hP9); clear l9; (try dsimp only); (try k_fold)) | (refine RtI.mk ?_; intro r9 t9 h9 tk9 hP9 F9 N9; (try dsimp only at hP9); (try dsimp only); (try k_fold)) | (refine RtB.mk ?_; intro r9 h9 tk9 hP9 F9 N9; (try dsimp only at hP9); (try dsimp only); (try k_fold))) | (k_dflt (refine' Called.use (ap6l _ _ _) ?k1 ?k2 ?k3 ?k4 ?k5 ?kK ?kp ?kd ?ku ?_); (case k1 => k_asm); (case k2 => k_asm); (case k3 => k_asm); (case k4 => k_asm); (case k5 => k_asm); (case kK => first | exact rfl | assumption); (case kp => first | trivial | assumption | omega | ((repeat' apply And.intro) <;> omega) | k_extra "kp"); (case kd => ktr_room); (case ku => ktr_units); first | (refine RtT.mk ?_; intro x9 y9 z9 t9 t8 t7 c9 D9 h9 tk9 hP9 F9 N9 l9; (try dsimp only at hP9); clear l9; (try dsimp only); (try k_fold)) | (refine RtI.mk ?_; intro r9 t9 h9 tk9 hP9 F9 N9; (try dsimp only at hP9); (try dsimp only); (try k_fold)) | (refine RtB.mk ?_; intro r9 h9 tk9 hP9 F9 N9; (try dsimp only at hP9); (try dsimp only); (try k_fold))) | (k_dflt (refine' Called.use (ap6h _ _ _) ?k1 ?k2 ?k3 ?k4 ?k5 ?kK ?kp ?kd ?ku ?_); (case k1 => k_asm); (case k2 => k_asm); (case k3 => k_asm); (case k4 => k_asm); (case k5 => k_asm); (case kK => first | exact rfl | assumption); (case kp => first | trivial | assumption | omega | ((repeat' apply And.intro) <;> omega) | k_extra "kp"); (case kd => ktr_room); (case ku => ktr_units); first | (refine RtT.mk ?_; intro x9 y9 z9 t9 t8 t7 c9 D9 h9 tk9 hP9 F9 N9 l9; (try dsimp only at hP9); clear l9; (try dsimp only); (try k_fold)) | (refine RtI.mk ?_; intro r9 t9 h9 tk9 hP9 F9 N9; (try dsimp only at hP9); (try dsimp only); (try k_fold)) | (refine RtB.mk ?_; intro r9 h9 tk9 hP9 F9 N9; (try dsimp only at hP9); (try dsimp only); (try k_fold)))) | ((with_reducible show wpAny _ _ (call (Value.ref 213) _) _ _ _); first | (k_dflt (refine' Called.use (c_same0 _ _ _) ?k1 ?k2 ?k3 ?k4 ?k5 ?kK ?kp ?kd ?ku ?_); (case k1 => k_asm); (case k2 => k_asm); (case k3 => k_asm); (case k4 => k_asm); (case k5 => k_asm); (case kK => first | exact rfl | assumption); (case kp => first | trivial | assumption | omega | ((repeat' apply And.intro) <;> omega) | k_extra "kp"); (case kd => ktr_room); (case ku => ktr_units); first | (refine RtT.mk ?_; intro x9 y9 z9 t9 t8 t7 c9 D9 h9 tk9 hP9 F9 N9 l9; (try dsimp only at hP9); clear l9; (try dsimp only); (try k_fold)) | (refine RtI.mk ?_; intro r9 t9 h9 tk9 hP9 F9 N9; (try dsimp only at hP9); (try dsimp only); (try k_fold)) | (refine RtB.mk ?_; intro r9 h9 tk9 hP9 F9 N9; (try dsimp only at hP9); (try dsimp only); (try k_fold))) | (k_dflt (refine' Called.use (c_same1 _ _ _) ?k1 ?k2 ?k3 ?k4 ?k5 ?kK ?kp ?kd ?ku ?_); (case k1 => k_asm); (case k2 => k_asm); (case k3 => k_asm); (case k4 => k_asm); (case k5 => k_asm); (case kK => first | exact rfl | assumption); (case kp => first | trivial | assumption | omega | ((repeat' apply And.intro) <;> omega) | k_extra "kp"); (case kd => ktr_room); (case ku => ktr_units); first | (refine RtT.mk ?_; intro x9 y9 z9 t9 t8 t7 c9 D9 h9 tk9 hP9 F9 N9 l9; (try dsimp only at hP9); clear l9; (try dsimp only); (try k_fold)) | (refine RtI.mk ?_; intro r9 t9 h9 tk9 hP9 F9 N9; (try dsimp only at hP9); (try dsimp only); (try k_fold)) | (refine RtB.mk ?_; intro r9 h9 tk9 hP9 F9 N9; (try dsimp only at hP9); (try dsimp only); (try k_fold))))))
local macro_rules | `(tactic| walk_at "newTuple") => `(tactic| (k_here; k_dflt (refine' kup_newTuple ?F ?N ?_ ?z; (case F => k_asm); (case N => k_asm); (case z => kmk_size)); intro D' h' F' N' l1; clear l1; (try k_sweep)))
local macro_rules | `(tactic| walk_at "CutP") => `(tactic| (k_dflt (refine' cut_end ?kF ?kS; (case kF => k_asm)); (case kS => (intro z h3; first | rfl | ((simp only [List.contains_cons, List.contains_nil, Bool.or_false, Bool.or_eq_false_iff, beq_eq_false_iff_ne, ne_eq] at h3); (simp [h3]; done))))))
local macro_rules | `(tactic| walk_at "execs cons If") => `(tactic| (k_here; (with_reducible show wpAny _ _ (execs (Stmt.If _ _ _ _ :: Stmt.Assign _ _ _ :: _) _) _ _ _); (try dsimp only); k_dflt (refine' cut1 [Str.ofString "number"] ?kF ?_ ?_; (case kF => k_asm)); rotate_left; (intro u9 h9 tk9 F9 N9; (try dsimp only); (try k_sweep); (try k_fold)); rotate_right; (try k_fold)))
local macro_rules | `(tactic| walk_at "execs cons If") => `(tactic| (k_here; (with_reducible show wpAny _ _ (execs (Stmt.If _ _ _ _ :: Stmt.For _ _ _ _ _ :: _) _) _ _ _); (try dsimp only); k_dflt (refine' cut2 [Str.ofString "edges", Str.ofString "edge"] ?kF ?_ ?_; (case kF => k_asm)); rotate_left; (intro u9 h9 tk9 F9 N9; (try dsimp only); (try k_sweep); (try k_fold)); rotate_right; (try k_fold)))
local macro_rules | `(tactic| walk_at "call builtin:abs") => `(tactic| (with_reducible refine absG ?_; intro r9 u9 k9 hP9))
local macro_rules | `(tactic| walk_at "binaryOp Mod int int") => `(tactic| (with_reducible refine fmodG ?fb ?_; (case fb => first | decide | omega); intro r9 hA9 hB9))
local macro_rules | `(tactic| walk_at "subscriptTail") => `(tactic| (k_here; (with_reducible show wpAny _ _ (subscriptTail _ _ (Value.ref 178) (Value.int _ _)) _ _ _); (with_reducible rename ((_ : Int) < 7) => hB9); (refine meet7 (by assumption) hB9 ?_ ?_ ?_ ?_ ?_ ?_ ?_ <;> (intro e9; clear hB9; subst e9))))
theorem lawHolds : PySem.Challenge.rw_ah6016_01.Holds := lawTop (by
  k_with_none
  k_go0
  all_goals try k_fold
  k_steps
  all_goals (exfalso; omega))
end Mine
theorem PySem.Challenge.cw_ah6016_01_holds : PySem.Challenge.rw_ah6016_01.Holds :=
  Mine.lawHolds
