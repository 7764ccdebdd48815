import PyProof.Rows.All
import Wide.All
import OpenK.AllK
import Wide.FinOn
import Lean
import PySem.Challenge.RW_ja0019_02
open PySem PySem.W PyProof.Rows
set_option Elab.async false
set_option maxRecDepth 100000
set_option maxHeartbeats 8000000
set_option rowWalk.seconds 0
namespace Mine
open_top hd02 for PySem.Challenge.rw_ja0019_02
end Mine
namespace Mine

abbrev RetI (x : Int) (news : List (Addr × Obj)) (h₀ : Heap) (L : Addr) (m : Str → Option Value) (s : Shared) (Q : Value → Shared → Prop) : Prop :=
  ∀ (t : Tok) (h' : Heap) (tk' : Nat), Fr h₀ L h' m → News h₀ L h' news → Q (.int x t) { s with heap := h', toks := tk' }
abbrev RetB (x : Bool) (news : List (Addr × Obj)) (h₀ : Heap) (L : Addr) (m : Str → Option Value) (s : Shared) (Q : Value → Shared → Prop) : Prop :=
  ∀ (h' : Heap) (tk' : Nat), Fr h₀ L h' m → News h₀ L h' news → Q (.bool x) { s with heap := h', toks := tk' }

/-- what a call of the def at f with the values vs does -/
abbrev Claim (prog : Program) (w : World) (K : Frag) (p : Program) (loose : List Str) (mean : ExcName → Option Value) (mg mb : Str → Option Value) (d : Nat) (f : Addr) (vs : List Value) (news : List (Addr × Obj))
    (C : List (Addr × Obj) → Heap → Addr → (Str → Option Value) → Shared → (Value → Shared → Prop) → Prop) : Prop :=
  ∀ (dp un : Nat) (gd : Option (List Code)) (cn : Str) (cs : Scope) (a : Addr) (ccd : Value) (cl : List (Str × Addr)) (outer : List Env) (A₀ : Around) (base h₀ : Heap) (L : Addr) (m : Str → Option Value) (s : Shared) (Q E : Value → Shared → Prop),
    Below A₀ base outer h₀ → Fr h₀ L s.heap m → K.In h₀ → News h₀ L s.heap news → Top p loose mean mg mb h₀ → cs.kind = .function →
    dp + d < recursionLimit → un + 8 * d < cLine → C news h₀ L m s Q →
      wpAny (model prog w) (ktrTop dp un gd cn cs L a ccd cl outer) (call (.ref f) vs) Q E s

theorem useI {prog : Program} {w : World} {K : Frag} {p : Program} {loose : List Str} {mean : ExcName → Option Value} {mg mb : Str → Option Value} {d : Nat} {f : Addr} {vs : List Value} {news : List (Addr × Obj)} {x : Int}
    {dp un : Nat} {gd : Option (List Code)} {cn : Str} {cs : Scope} {a : Addr} {ccd : Value} {cl : List (Str × Addr)} {outer : List Env} {A₀ : Around} {base h₀ : Heap} {L : Addr} {m : Str → Option Value} {s : Shared} {Q E : Value → Shared → Prop}
    (C : Claim prog w K p loose mean mg mb d f vs news (RetI x))
    (B : Below A₀ base outer h₀) (F : Fr h₀ L s.heap m) (X : K.In h₀) (N : News h₀ L s.heap news) (T : Top p loose mean mg mb h₀) (hk : cs.kind = .function) (hd : dp + d < recursionLimit) (hu : un + 8 * d < cLine)
    (h : RetI x news h₀ L m s Q) : wpAny (model prog w) (ktrTop dp un gd cn cs L a ccd cl outer) (call (.ref f) vs) Q E s :=
  C _ _ _ _ _ _ _ _ _ _ _ _ _ _ _ _ _ B F X N T hk hd hu h
theorem useB {prog : Program} {w : World} {K : Frag} {p : Program} {loose : List Str} {mean : ExcName → Option Value} {mg mb : Str → Option Value} {d : Nat} {f : Addr} {vs : List Value} {news : List (Addr × Obj)} {x : Bool}
    {dp un : Nat} {gd : Option (List Code)} {cn : Str} {cs : Scope} {a : Addr} {ccd : Value} {cl : List (Str × Addr)} {outer : List Env} {A₀ : Around} {base h₀ : Heap} {L : Addr} {m : Str → Option Value} {s : Shared} {Q E : Value → Shared → Prop}
    (C : Claim prog w K p loose mean mg mb d f vs news (RetB x))
    (B : Below A₀ base outer h₀) (F : Fr h₀ L s.heap m) (X : K.In h₀) (N : News h₀ L s.heap news) (T : Top p loose mean mg mb h₀) (hk : cs.kind = .function) (hd : dp + d < recursionLimit) (hu : un + 8 * d < cLine)
    (h : RetB x news h₀ L m s Q) : wpAny (model prog w) (ktrTop dp un gd cn cs L a ccd cl outer) (call (.ref f) vs) Q E s :=
  C _ _ _ _ _ _ _ _ _ _ _ _ _ _ _ _ _ B F X N T hk hd hu h

theorem retI {news news' : List (Addr × Obj)} {h₀ h' : Heap} {L : Addr} {m : Str → Option Value} {s : Shared} {Q : Value → Shared → Prop} {x y : Int} {t : Tok} {tk' : Nat}
    (h : RetI x news h₀ L m s Q) (e : y = x) (F : Fr h₀ L h' m) (N : News h₀ L h' news') (hs : ∀ p ∈ news, p ∈ news') : Q (.int y t) { s with heap := h', toks := tk' } := by
  subst e; exact h _ _ _ F (cb_drop N hs)
theorem retB {news news' : List (Addr × Obj)} {h₀ h' : Heap} {L : Addr} {m : Str → Option Value} {s : Shared} {Q : Value → Shared → Prop} {x y : Bool} {tk' : Nat}
    (h : RetB x news h₀ L m s Q) (e : y = x) (F : Fr h₀ L h' m) (N : News h₀ L h' news') (hs : ∀ p ∈ news, p ∈ news') : Q (.bool y) { s with heap := h', toks := tk' } := by
  subst e; exact h _ _ F (cb_drop N hs)
end Mine
namespace Mine
section
variable (w : World) (loose : List Str) (mean : ExcName → Option Value) (mg mb : Str → Option Value) (news : List (Addr × Obj))
abbrev Cl (w : World) (loose : List Str) (mean : ExcName → Option Value) (mg mb : Str → Option Value) := Claim PySem.Challenge.rw_ja0019_02.row.prog w (hd02.heap_39 w.params) hd02.view_39 loose mean mg mb

def leapB (y : Int) : Bool := decide (Int.fmod (y*7+1) 19 < 7)
def midI (x : Int) : Int := if 0 < x then x else x + 1
def ymI (y : Int) : Int := if leapB y = true then 13 else 12
def d1d (y : Int) : Int := Int.fdiv (235 * y - 234) 19 * 29 + Int.fdiv (12084 + 13753 * Int.fdiv (235 * y - 234) 19) 25920
def d1 (y : Int) : Int := if Int.fmod (3 * (d1d y + 1)) 7 < 3 then d1d y + 1 else d1d y
def d2 (y : Int) : Int := if (d1 (y + 1) - d1 y == 356) = true then 2 else if (d1 y - d1 (y - 1) == 382) = true then 1 else 0
def longB (y : Int) : Bool := [0, 3, 6, 8, 11, 14, 17].any fun x => x == Int.fmod y 19
def tj7 (y d : Int) : Int := midI (347996 + d1 y + d2 y + d + 1)
def ydI (y : Int) : Int := tj7 (y + 1) 1 - tj7 y 1
def mlI (y m : Int) : Int := if ([2, 4, 6, 10, 13].any fun x => x == m) = true then 29 else if (m == 12) = true ∧ (!leapB y) = true then 29 else if (m == 8) = true ∧ (Int.fmod (ydI y) 10 != 5) = true then 29 else if (m == 9) = true ∧ (Int.fmod (ydI y) 10 == 3) = true then 29 else 30
theorem ite_dpos {c : Prop} [Decidable c] {a b : Prop} (hc : c) (h : a) : if decide c = true then a else b := by rw [if_pos (decide_eq_true hc)]; exact h
theorem ite_dneg {c : Prop} [Decidable c] {a b : Prop} (hc : ¬ c) (h : b) : if decide c = true then a else b := by rw [if_neg (by rw [decide_eq_true_eq]; exact hc)]; exact h
local macro_rules | `(tactic| walk_at "ite") => `(tactic| (k_here; k_openite; first
  | (with_reducible refine ite_pos (by with_reducible assumption) ?_)
  | (with_reducible refine ite_neg (by with_reducible assumption) ?_)
  | (with_reducible refine ite_isFalse (by with_reducible assumption) ?_)
  | (with_reducible refine ite_dpos (by with_reducible assumption) ?_)
  | (with_reducible refine ite_dneg (by with_reducible assumption) ?_)
  | (with_reducible refine split_dec ?_ ?_ <;> intro _) | (with_reducible refine split_bool ?_ ?_ <;> intro _)))
theorem gen_store {M : Model} {A : Around} {E : Value → Shared → Prop} {s : Shared} {env : Env} {n : Str} {e : Int} {t : Tok} {Q : Unit → Shared → Prop} (h : ∀ z : Int, z = e → wpAny M A (storeName env n (.int z t)) Q E s) : wpAny M A (storeName env n (.int e t)) Q E s := h e rfl
local macro_rules | `(tactic| walk_at "storeName") => `(tactic| (k_here; (first | (with_reducible show wpAny _ _ (storeName _ _ (Value.int (_ + _) _)) _ _ _) | (with_reducible show wpAny _ _ (storeName _ _ (Value.int (_ - _) _)) _ _ _) | (with_reducible show wpAny _ _ (storeName _ _ (Value.int (_ * _) _)) _ _ _) | (with_reducible show wpAny _ _ (storeName _ _ (Value.int (Int.fdiv _ _) _)) _ _ _) | (with_reducible show wpAny _ _ (storeName _ _ (Value.int (Int.fmod _ _) _)) _ _ _)); k_dflt (refine gen_store ?_; intro z hz; refine' storeX_L ?F ?N ?_ ?a ?b; (case F => k_asm); (case N => k_asm); (case a => rfl); (case b => rfl); k_whole; intro h' F' N'; (try k_sweep))))
theorem c_mid (y : Int) (t : Tok) : Cl w loose mean mg mb 1 21 [.int y t] news (RetI (midI y)) := by
  w_on
  unfold Cl Claim
  k_fill
  intros; rename_i hret
  refine wpAny_call ?_
  k_dflt cell_enter
  repeat' (first | (k_unfold; (try dsimp only)) | (walk1; (try dsimp only)) | fail "no step")
  all_goals (refine retI hret ?_ (by k_asm) (by k_asm) (by (intro p hp; repeat (first | with_reducible assumption | refine List.mem_cons_of_mem _ ?_))))
  all_goals (unfold midI; split <;> first | rfl | omega)
local macro_rules | `(tactic| walk_at "call ref") => `(tactic| (k_here; (with_reducible show wpAny _ _ (PySem.call (Value.ref 21) _ _) _ _ _); k_dflt (refine' useI (c_mid _ _ _ _ _ _ _ _) ?k1 ?k2 ?k3 ?k4 ?k5 ?kK ?kd ?ku ?_; (case k1 => k_asm); (case k2 => k_asm); (case k3 => k_asm); (case k4 => k_asm); (case k5 => k_asm); (case kK => first | exact rfl | assumption); (case kd => ktr_room); (case ku => ktr_units); k_whole; intro t9 h9 tk9 F9 N9; (try dsimp only); (try k_fold))))
theorem c_leap (y : Int) (t : Tok) : Cl w loose mean mg mb 1 28 [.int y t] news (RetB (leapB y)) := by
  w_on
  unfold Cl Claim
  k_fill
  intros; rename_i hret
  refine wpAny_call ?_
  k_dflt cell_enter
  repeat' (first | (k_unfold; (try dsimp only)) | (walk1; (try dsimp only)) | fail "no step")
  all_goals (refine retB hret ?_ (by k_asm) (by k_asm) (by (intro p hp; repeat (first | with_reducible assumption | refine List.mem_cons_of_mem _ ?_))))
  all_goals rfl
local macro_rules | `(tactic| walk_at "call ref") => `(tactic| (k_here; (with_reducible show wpAny _ _ (PySem.call (Value.ref 28) _ _) _ _ _); k_dflt (refine' useB (c_leap _ _ _ _ _ _ _ _) ?k1 ?k2 ?k3 ?k4 ?k5 ?kK ?kd ?ku ?_; (case k1 => k_asm); (case k2 => k_asm); (case k3 => k_asm); (case k4 => k_asm); (case k5 => k_asm); (case kK => first | exact rfl | assumption); (case kd => ktr_room); (case ku => ktr_units); k_whole; intro h9 tk9 F9 N9; (try dsimp only); (try k_fold))))
theorem c_ym (y : Int) (t : Tok) : Cl w loose mean mg mb 2 35 [.int y t] news (RetI (ymI y)) := by
  w_on
  unfold Cl Claim
  k_fill
  intros; rename_i hret
  refine wpAny_call ?_
  k_dflt cell_enter
  repeat' (first | (k_unfold; (try dsimp only)) | (walk1; (try dsimp only)) | fail "no step")
  all_goals (refine retI hret ?_ (by k_asm) (by k_asm) (by (intro p hp; repeat (first | with_reducible assumption | refine List.mem_cons_of_mem _ ?_))))
  all_goals (unfold ymI; first | rw [if_pos (by assumption)] | (rw [if_neg (by simp_all)]))
local macro_rules | `(tactic| walk_at "call ref") => `(tactic| (k_here; (with_reducible show wpAny _ _ (PySem.call (Value.ref 35) _ _) _ _ _); k_dflt (refine' useI (c_ym _ _ _ _ _ _ _ _) ?k1 ?k2 ?k3 ?k4 ?k5 ?kK ?kd ?ku ?_; (case k1 => k_asm); (case k2 => k_asm); (case k3 => k_asm); (case k4 => k_asm); (case k5 => k_asm); (case kK => first | exact rfl | assumption); (case kd => ktr_room); (case ku => ktr_units); k_whole; intro t9 h9 tk9 F9 N9; (try dsimp only); (try k_fold))))
theorem c_d1 (y : Int) (t : Tok) : Cl w loose mean mg mb 1 42 [.int y t] news (RetI (d1 y)) := by
  w_on
  unfold Cl Claim
  k_fill
  intros; rename_i hret
  refine wpAny_call ?_
  k_dflt cell_enter
  repeat' (first | (k_unfold; (try dsimp only)) | (walk1; (try dsimp only)) | fail "no step")
  all_goals (refine retI hret ?_ (by k_asm) (by k_asm) (by (intro p hp; repeat (first | with_reducible assumption | refine List.mem_cons_of_mem _ ?_))))
  all_goals (subst_vars; first | exact (if_pos (by assumption)).symm | exact (if_neg (by assumption)).symm)
local macro_rules | `(tactic| walk_at "call ref") => `(tactic| (k_here; (with_reducible show wpAny _ _ (PySem.call (Value.ref 42) _ _) _ _ _); k_dflt (refine' useI (c_d1 _ _ _ _ _ _ _ _) ?k1 ?k2 ?k3 ?k4 ?k5 ?kK ?kd ?ku ?_; (case k1 => k_asm); (case k2 => k_asm); (case k3 => k_asm); (case k4 => k_asm); (case k5 => k_asm); (case kK => first | exact rfl | assumption); (case kd => ktr_room); (case ku => ktr_units); k_whole; intro t9 h9 tk9 F9 N9; (try dsimp only); (try k_fold))))
theorem c_d2 (y : Int) (t : Tok) : Cl w loose mean mg mb 2 49 [.int y t] news (RetI (d2 y)) := by
  w_on
  unfold Cl Claim
  k_fill
  intros; rename_i hret
  refine wpAny_call ?_
  k_dflt cell_enter
  repeat' (first | (k_unfold; (try dsimp only)) | (walk1; (try dsimp only)) | fail "no step")
  all_goals (refine retI hret ?_ (by k_asm) (by k_asm) (by (intro p hp; repeat (first | with_reducible assumption | refine List.mem_cons_of_mem _ ?_))))
  all_goals (unfold d2; simp only [*, if_true, if_false, Bool.false_eq_true])
local macro_rules | `(tactic| walk_at "call ref") => `(tactic| (k_here; (with_reducible show wpAny _ _ (PySem.call (Value.ref 49) _ _) _ _ _); k_dflt (refine' useI (c_d2 _ _ _ _ _ _ _ _) ?k1 ?k2 ?k3 ?k4 ?k5 ?kK ?kd ?ku ?_; (case k1 => k_asm); (case k2 => k_asm); (case k3 => k_asm); (case k4 => k_asm); (case k5 => k_asm); (case kK => first | exact rfl | assumption); (case kd => ktr_room); (case ku => ktr_units); k_whole; intro t9 h9 tk9 F9 N9; (try dsimp only); (try k_fold))))
theorem c_long (y : Int) (t : Tok) : Cl w loose mean mg mb 1 91 [.int y t] news (RetB (longB y)) := by
  w_on
  unfold Cl Claim
  k_fill
  intros; rename_i hret
  refine wpAny_call ?_
  k_dflt cell_enter
  repeat' (first | (k_unfold; (try dsimp only)) | (walk1; (try dsimp only)) | fail "no step")
  all_goals (refine retB hret ?_ (by k_asm) (by k_asm) (by (intro p hp; repeat (first | with_reducible assumption | refine List.mem_cons_of_mem _ ?_))))
  all_goals rfl
local macro_rules | `(tactic| walk_at "call ref") => `(tactic| (k_here; (with_reducible show wpAny _ _ (PySem.call (Value.ref 91) _ _) _ _ _); k_dflt (refine' useB (c_long _ _ _ _ _ _ _ _) ?k1 ?k2 ?k3 ?k4 ?k5 ?kK ?kd ?ku ?_; (case k1 => k_asm); (case k2 => k_asm); (case k3 => k_asm); (case k4 => k_asm); (case k5 => k_asm); (case kK => first | exact rfl | assumption); (case kd => ktr_room); (case ku => ktr_units); k_whole; intro h9 tk9 F9 N9; (try dsimp only); (try k_fold))))
theorem c_tj7 (y d : Int) (t t2 t3 : Tok) : Cl w loose mean mg mb 4 77 [.int y t, .int 7 t2, .int d t3] news (RetI (tj7 y d)) := by
  w_on
  unfold Cl Claim
  k_fill
  intros; rename_i hret
  refine wpAny_call ?_
  k_dflt cell_enter
  repeat' (first | (k_unfold; (try dsimp only)) | (walk1; (try dsimp only)) | fail "no step")
  all_goals (refine retI hret ?_ (by k_asm) (by k_asm) (by (intro p hp; repeat (first | with_reducible assumption | refine List.mem_cons_of_mem _ ?_))))
  all_goals (subst_vars; rfl)
local macro_rules | `(tactic| walk_at "call ref") => `(tactic| (k_here; (with_reducible show wpAny _ _ (PySem.call (Value.ref 77) [Value.int _ _, Value.int 7 _, Value.int _ _] _) _ _ _); k_dflt (refine' useI (c_tj7 _ _ _ _ _ _ _ _ _ _ _) ?k1 ?k2 ?k3 ?k4 ?k5 ?kK ?kd ?ku ?_; (case k1 => k_asm); (case k2 => k_asm); (case k3 => k_asm); (case k4 => k_asm); (case k5 => k_asm); (case kK => first | exact rfl | assumption); (case kd => ktr_room); (case ku => ktr_units); k_whole; intro t9 h9 tk9 F9 N9; (try dsimp only); (try k_fold))))
theorem c_yd (y : Int) (t : Tok) : Cl w loose mean mg mb 5 56 [.int y t] news (RetI (ydI y)) := by
  w_on
  unfold Cl Claim
  k_fill
  intros; rename_i hret
  refine wpAny_call ?_
  k_dflt cell_enter
  repeat' (first | (k_unfold; (try dsimp only)) | (walk1; (try dsimp only)) | fail "no step")
  all_goals (refine retI hret ?_ (by k_asm) (by k_asm) (by (intro p hp; repeat (first | with_reducible assumption | refine List.mem_cons_of_mem _ ?_))))
  all_goals (subst_vars; rfl)
local macro_rules | `(tactic| walk_at "call ref") => `(tactic| (k_here; (with_reducible show wpAny _ _ (PySem.call (Value.ref 56) _ _) _ _ _); k_dflt (refine' useI (c_yd _ _ _ _ _ _ _ _) ?k1 ?k2 ?k3 ?k4 ?k5 ?kK ?kd ?ku ?_; (case k1 => k_asm); (case k2 => k_asm); (case k3 => k_asm); (case k4 => k_asm); (case k5 => k_asm); (case kK => first | exact rfl | assumption); (case kd => ktr_room); (case ku => ktr_units); k_whole; intro t9 h9 tk9 F9 N9; (try dsimp only); (try k_fold))))
theorem c_ml (y m : Int) (t t2 : Tok) (hm : ¬ 13 < m) : Cl w loose mean mg mb 6 63 [.int y t, .int m t2] news (RetI (mlI y m)) := by
  w_on
  unfold Cl Claim
  k_fill
  intros; rename_i hret
  refine wpAny_call ?_
  k_dflt cell_enter
  repeat' (first | (k_unfold; (try dsimp only)) | (walk1; (try dsimp only)) | fail "no step")
  all_goals (refine retI hret ?_ (by k_asm) (by k_asm) (by (intro p hp; repeat (first | with_reducible assumption | refine List.mem_cons_of_mem _ ?_))))
  all_goals (unfold mlI; simp only [*, if_true, if_false, Bool.false_eq_true, true_and, false_and, and_true, and_false, and_self, Bool.true_eq_false])
end
end Mine
namespace Mine
section
local macro_rules | `(tactic| walk_at "none of mine") => `(tactic| fail "none")
variable (w : World) (loose : List Str) (mean : ExcName → Option Value) (mg mb : Str → Option Value) (news : List (Addr × Obj))
-- abbrev Cl (w : World) (loose : List Str) (mean : ExcName → Option Value) (mg mb : Str → Option Value) := Claim PySem.Challenge.rw_ja0019_02.row.prog w (hd02.heap_39 w.params) hd02.view_39 loose mean mg mb
-- theorem ite_dpos {c : Prop} [Decidable c] {a b : Prop} (hc : c) (h : a) : if decide c = true then a else b := by rw [if_pos (decide_eq_true hc)]; exact h
-- theorem ite_dneg {c : Prop} [Decidable c] {a b : Prop} (hc : ¬ c) (h : b) : if decide c = true then a else b := by rw [if_neg (by rw [decide_eq_true_eq]; exact hc)]; exact h
local macro_rules | `(tactic| walk_at "ite") => `(tactic| (k_here; k_openite; first
  | (with_reducible refine ite_pos (by with_reducible assumption) ?_)
  | (with_reducible refine ite_neg (by with_reducible assumption) ?_)
  | (with_reducible refine ite_isFalse (by with_reducible assumption) ?_)
  | (with_reducible refine ite_dpos (by with_reducible assumption) ?_)
  | (with_reducible refine ite_dneg (by with_reducible assumption) ?_)
  | (with_reducible refine split_dec ?_ ?_ <;> intro _) | (with_reducible refine split_bool ?_ ?_ <;> intro _)))
local macro_rules | `(tactic| walk_at "call ref") => `(tactic| (k_here; (with_reducible show wpAny _ _ (PySem.call (Value.ref 21) _ _) _ _ _); k_dflt (refine' useI (c_mid _ _ _ _ _ _ _ _) ?k1 ?k2 ?k3 ?k4 ?k5 ?kK ?kd ?ku ?_; (case k1 => k_asm); (case k2 => k_asm); (case k3 => k_asm); (case k4 => k_asm); (case k5 => k_asm); (case kK => first | exact rfl | assumption); (case kd => ktr_room); (case ku => ktr_units); k_whole; intro t9 h9 tk9 F9 N9; (try dsimp only); (try k_fold))))
local macro_rules | `(tactic| walk_at "call ref") => `(tactic| (k_here; (with_reducible show wpAny _ _ (PySem.call (Value.ref 28) _ _) _ _ _); k_dflt (refine' useB (c_leap _ _ _ _ _ _ _ _) ?k1 ?k2 ?k3 ?k4 ?k5 ?kK ?kd ?ku ?_; (case k1 => k_asm); (case k2 => k_asm); (case k3 => k_asm); (case k4 => k_asm); (case k5 => k_asm); (case kK => first | exact rfl | assumption); (case kd => ktr_room); (case ku => ktr_units); k_whole; intro h9 tk9 F9 N9; (try dsimp only); (try k_fold))))
local macro_rules | `(tactic| walk_at "call ref") => `(tactic| (k_here; (with_reducible show wpAny _ _ (PySem.call (Value.ref 35) _ _) _ _ _); k_dflt (refine' useI (c_ym _ _ _ _ _ _ _ _) ?k1 ?k2 ?k3 ?k4 ?k5 ?kK ?kd ?ku ?_; (case k1 => k_asm); (case k2 => k_asm); (case k3 => k_asm); (case k4 => k_asm); (case k5 => k_asm); (case kK => first | exact rfl | assumption); (case kd => ktr_room); (case ku => ktr_units); k_whole; intro t9 h9 tk9 F9 N9; (try dsimp only); (try k_fold))))
local macro_rules | `(tactic| walk_at "call ref") => `(tactic| (k_here; (with_reducible show wpAny _ _ (PySem.call (Value.ref 42) _ _) _ _ _); k_dflt (refine' useI (c_d1 _ _ _ _ _ _ _ _) ?k1 ?k2 ?k3 ?k4 ?k5 ?kK ?kd ?ku ?_; (case k1 => k_asm); (case k2 => k_asm); (case k3 => k_asm); (case k4 => k_asm); (case k5 => k_asm); (case kK => first | exact rfl | assumption); (case kd => ktr_room); (case ku => ktr_units); k_whole; intro t9 h9 tk9 F9 N9; (try dsimp only); (try k_fold))))
local macro_rules | `(tactic| walk_at "call ref") => `(tactic| (k_here; (with_reducible show wpAny _ _ (PySem.call (Value.ref 49) _ _) _ _ _); k_dflt (refine' useI (c_d2 _ _ _ _ _ _ _ _) ?k1 ?k2 ?k3 ?k4 ?k5 ?kK ?kd ?ku ?_; (case k1 => k_asm); (case k2 => k_asm); (case k3 => k_asm); (case k4 => k_asm); (case k5 => k_asm); (case kK => first | exact rfl | assumption); (case kd => ktr_room); (case ku => ktr_units); k_whole; intro t9 h9 tk9 F9 N9; (try dsimp only); (try k_fold))))
local macro_rules | `(tactic| walk_at "call ref") => `(tactic| (k_here; (with_reducible show wpAny _ _ (PySem.call (Value.ref 91) _ _) _ _ _); k_dflt (refine' useB (c_long _ _ _ _ _ _ _ _) ?k1 ?k2 ?k3 ?k4 ?k5 ?kK ?kd ?ku ?_; (case k1 => k_asm); (case k2 => k_asm); (case k3 => k_asm); (case k4 => k_asm); (case k5 => k_asm); (case kK => first | exact rfl | assumption); (case kd => ktr_room); (case ku => ktr_units); k_whole; intro h9 tk9 F9 N9; (try dsimp only); (try k_fold))))
local macro_rules | `(tactic| walk_at "call ref") => `(tactic| (k_here; (with_reducible show wpAny _ _ (PySem.call (Value.ref 77) [Value.int _ _, Value.int 7 _, Value.int _ _] _) _ _ _); k_dflt (refine' useI (c_tj7 _ _ _ _ _ _ _ _ _ _ _) ?k1 ?k2 ?k3 ?k4 ?k5 ?kK ?kd ?ku ?_; (case k1 => k_asm); (case k2 => k_asm); (case k3 => k_asm); (case k4 => k_asm); (case k5 => k_asm); (case kK => first | exact rfl | assumption); (case kd => ktr_room); (case ku => ktr_units); k_whole; intro t9 h9 tk9 F9 N9; (try dsimp only); (try k_fold))))
local macro_rules | `(tactic| walk_at "call ref") => `(tactic| (k_here; (with_reducible show wpAny _ _ (PySem.call (Value.ref 56) _ _) _ _ _); k_dflt (refine' useI (c_yd _ _ _ _ _ _ _ _) ?k1 ?k2 ?k3 ?k4 ?k5 ?kK ?kd ?ku ?_; (case k1 => k_asm); (case k2 => k_asm); (case k3 => k_asm); (case k4 => k_asm); (case k5 => k_asm); (case kK => first | exact rfl | assumption); (case kd => ktr_room); (case ku => ktr_units); k_whole; intro t9 h9 tk9 F9 N9; (try dsimp only); (try k_fold))))
local macro_rules | `(tactic| walk_at "call ref") => `(tactic| (k_here; (with_reducible show wpAny _ _ (PySem.call (Value.ref 63) _ _) _ _ _); k_dflt (refine' useI (c_ml _ _ _ _ _ _ _ _ _ _ ?kp) ?k1 ?k2 ?k3 ?k4 ?k5 ?kK ?kd ?ku ?_; (case k1 => k_asm); (case k2 => k_asm); (case k3 => k_asm); (case k4 => k_asm); (case k5 => k_asm); (case kK => first | exact rfl | assumption); (case kp => first | with_reducible assumption | decide | omega); (case kd => ktr_room); (case ku => ktr_units); k_whole; intro t9 h9 tk9 F9 N9; (try dsimp only); (try k_fold))))
theorem c_md (y m : Int) (t t2 : Tok) (hm : ¬ 13 < m) : Cl w loose mean mg mb 7 70 [.int y t, .int m t2] news (RetI (mlI y m)) := by
  w_on
  unfold Cl Claim
  k_fill
  intros; rename_i hret
  refine wpAny_call ?_
  k_dflt cell_enter
  repeat' (first | (k_unfold; (try dsimp only)) | (walk1; (try dsimp only)) | fail "no step")
  all_goals (refine retI hret ?_ (by k_asm) (by k_asm) (by (intro p hp; repeat (first | with_reducible assumption | refine List.mem_cons_of_mem _ ?_))))
  all_goals rfl
local macro_rules | `(tactic| walk_at "call ref") => `(tactic| (k_here; (with_reducible show wpAny _ _ (PySem.call (Value.ref 70) _ _) _ _ _); k_dflt (refine' useI (c_md _ _ _ _ _ _ _ _ _ _ ?kp) ?k1 ?k2 ?k3 ?k4 ?k5 ?kK ?kd ?ku ?_; (case k1 => k_asm); (case k2 => k_asm); (case k3 => k_asm); (case k4 => k_asm); (case k5 => k_asm); (case kK => first | exact rfl | assumption); (case kp => first | with_reducible assumption | decide | omega); (case kd => ktr_room); (case ku => ktr_units); k_whole; intro t9 h9 tk9 F9 N9; (try dsimp only); (try k_fold))))

theorem c_ym13 (y : Int) (t : Tok) (h : leapB y = true) : Cl w loose mean mg mb 2 35 [.int y t] news (RetI 13) := by
  have q := c_ym w loose mean mg mb news y t
  rw [show ymI y = 13 from if_pos h] at q; exact q
theorem c_ym12 (y : Int) (t : Tok) (h : leapB y = false) : Cl w loose mean mg mb 2 35 [.int y t] news (RetI 12) := by
  have q := c_ym w loose mean mg mb news y t
  rw [show ymI y = 12 from if_neg (by rw [h]; decide)] at q; exact q
local macro_rules | `(tactic| walk_at "call ref") => `(tactic| (k_here; (with_reducible show wpAny _ _ (PySem.call (Value.ref 35) _ _) _ _ _); k_dflt (refine' useI (c_ym13 _ _ _ _ _ _ _ _ ?kp) ?k1 ?k2 ?k3 ?k4 ?k5 ?kK ?kd ?ku ?_; (case k1 => k_asm); (case k2 => k_asm); (case k3 => k_asm); (case k4 => k_asm); (case k5 => k_asm); (case kK => first | exact rfl | assumption); (case kp => with_reducible assumption); (case kd => ktr_room); (case ku => ktr_units); k_whole; intro t9 h9 tk9 F9 N9; (try dsimp only); (try k_fold))))
local macro_rules | `(tactic| walk_at "call ref") => `(tactic| (k_here; (with_reducible show wpAny _ _ (PySem.call (Value.ref 35) _ _) _ _ _); k_dflt (refine' useI (c_ym12 _ _ _ _ _ _ _ _ ?kp) ?k1 ?k2 ?k3 ?k4 ?k5 ?kK ?kd ?ku ?_; (case k1 => k_asm); (case k2 => k_asm); (case k3 => k_asm); (case k4 => k_asm); (case k5 => k_asm); (case kK => first | exact rfl | assumption); (case kp => with_reducible assumption); (case kd => ktr_room); (case ku => ktr_units); k_whole; intro t9 h9 tk9 F9 N9; (try dsimp only); (try k_fold))))

def tjF (y init lo : Int) (n : Nat) : Int := List.foldl (fun a' k' => a' + mlI y k') init (rangeKs lo n)
def tjI (y m d : Int) : Int := midI (if m < 7 then tjF y (tjF y (347996 + d1 y + d2 y + d + 1) 7 (ymI y + 1 - 7).toNat) 1 (m - 1).toNat else tjF y (347996 + d1 y + d2 y + d + 1) 7 (m - 7).toNat)
theorem c_tj_true (y m d : Int) (t t2 t3 : Tok) (hm : ¬ 13 < m) (hm0 : 0 < m) (hl : leapB y = true) : Cl w loose mean mg mb 8 77 [.int y t, .int m t2, .int d t3] news (RetI (tjI y m d)) := by
  w_on
  unfold Cl Claim
  k_fill
  intros; rename_i hret
  refine wpAny_call ?_
  k_dflt cell_enter
  repeat' (first | (k_unfold; (try dsimp only)) | (walk1; (try dsimp only)) | fail "no step")
  all_goals (refine retI hret ?_ (by k_asm) (by k_asm) (by (intro p hp; repeat (first | with_reducible assumption | refine List.mem_cons_of_mem _ ?_))))
  all_goals (have hy : ymI y = 13 := (by unfold ymI; rw [hl]; rfl); unfold tjI tjF; rw [hy]; first | rw [if_pos (by assumption)] | rw [if_neg (by assumption)])
theorem c_tj_false (y m d : Int) (t t2 t3 : Tok) (hm : ¬ 13 < m) (hm0 : 0 < m) (hl : leapB y = false) : Cl w loose mean mg mb 8 77 [.int y t, .int m t2, .int d t3] news (RetI (tjI y m d)) := by
  w_on
  unfold Cl Claim
  k_fill
  intros; rename_i hret
  refine wpAny_call ?_
  k_dflt cell_enter
  repeat' (first | (k_unfold; (try dsimp only)) | (walk1; (try dsimp only)) | fail "no step")
  all_goals (refine retI hret ?_ (by k_asm) (by k_asm) (by (intro p hp; repeat (first | with_reducible assumption | refine List.mem_cons_of_mem _ ?_))))
  all_goals (have hy : ymI y = 12 := (by unfold ymI; rw [hl]; rfl); unfold tjI tjF; rw [hy]; first | rw [if_pos (by assumption)] | rw [if_neg (by assumption)])

theorem c_tj (y m d : Int) (t t2 t3 : Tok) (hm : ¬ 13 < m) (hm0 : 0 < m) : Cl w loose mean mg mb 8 77 [.int y t, .int m t2, .int d t3] news (RetI (tjI y m d)) := by
  cases hl : leapB y
  · exact c_tj_false w loose mean mg mb news y m d t t2 t3 hm hm0 hl
  · exact c_tj_true w loose mean mg mb news y m d t t2 t3 hm hm0 hl
end
end Mine
namespace Mine
section
variable (w : World) (loose : List Str) (mean : ExcName → Option Value) (mg mb : Str → Option Value) (news : List (Addr × Obj))
-- abbrev Cl (w : World) (loose : List Str) (mean : ExcName → Option Value) (mg mb : Str → Option Value) := Claim PySem.Challenge.rw_ja0019_02.row.prog w (hd02.heap_39 w.params) hd02.view_39 loose mean mg mb
-- theorem ite_dpos {c : Prop} [Decidable c] {a b : Prop} (hc : c) (h : a) : if decide c = true then a else b := by rw [if_pos (decide_eq_true hc)]; exact h
-- theorem ite_dneg {c : Prop} [Decidable c] {a b : Prop} (hc : ¬ c) (h : b) : if decide c = true then a else b := by rw [if_neg (by rw [decide_eq_true_eq]; exact hc)]; exact h
local macro_rules | `(tactic| walk_at "ite") => `(tactic| (k_here; k_openite; first
  | (with_reducible refine ite_pos (by with_reducible assumption) ?_)
  | (with_reducible refine ite_neg (by with_reducible assumption) ?_)
  | (with_reducible refine ite_isFalse (by with_reducible assumption) ?_)
  | (with_reducible refine ite_dpos (by with_reducible assumption) ?_)
  | (with_reducible refine ite_dneg (by with_reducible assumption) ?_)
  | (with_reducible refine split_dec ?_ ?_ <;> intro _) | (with_reducible refine split_bool ?_ ?_ <;> intro _)))
local macro_rules | `(tactic| walk_at "CompEnd") => `(tactic| (k_here; refine' LCg.CompEnd.intro ?cF ?cN _ ?csub ?coff ?cS ?kel; (case kel => (kpf_tidy; first | ((refine kci_el ?kce (by with_unfolding_all rfl) (by with_unfolding_all rfl)); (case kce => kpf_eq)) | ((refine kci_no ?kce (by with_unfolding_all rfl)); (case kce => kpf_eq)))); (case cF => k_asm); (case cN => k_asm); (case csub => kcf_all); (case coff => first | assumption | (simp only [LCg.Off3, and_true]; done) | (simp only [LCg.Off3, and_true]; assumption)); (case cS => first | lcg_src | assumption)))
local macro_rules | `(tactic| walk_at "storeName") => `(tactic| (k_here; (with_reducible show wpAny _ _ (storeName _ _ (Value.int (_ + _) _)) _ _ _); k_dflt (refine gen_store ?_; intro z hz; refine' storeX_L ?F ?N ?_ ?a ?b; (case F => k_asm); (case N => k_asm); (case a => rfl); (case b => rfl); k_whole; intro h' F' N'; (try k_sweep))))
local macro_rules | `(tactic| walk_at "call ref") => `(tactic| (k_here; (with_reducible show wpAny _ _ (PySem.call (Value.ref 21) _ _) _ _ _); k_dflt (refine' useI (c_mid _ _ _ _ _ _ _ _) ?k1 ?k2 ?k3 ?k4 ?k5 ?kK ?kd ?ku ?_; (case k1 => k_asm); (case k2 => k_asm); (case k3 => k_asm); (case k4 => k_asm); (case k5 => k_asm); (case kK => first | exact rfl | assumption); (case kd => ktr_room); (case ku => ktr_units); k_whole; intro t9 h9 tk9 F9 N9; (try dsimp only); (try k_fold))))
local macro_rules | `(tactic| walk_at "call ref") => `(tactic| (k_here; (with_reducible show wpAny _ _ (PySem.call (Value.ref 28) _ _) _ _ _); k_dflt (refine' useB (c_leap _ _ _ _ _ _ _ _) ?k1 ?k2 ?k3 ?k4 ?k5 ?kK ?kd ?ku ?_; (case k1 => k_asm); (case k2 => k_asm); (case k3 => k_asm); (case k4 => k_asm); (case k5 => k_asm); (case kK => first | exact rfl | assumption); (case kd => ktr_room); (case ku => ktr_units); k_whole; intro h9 tk9 F9 N9; (try dsimp only); (try k_fold))))
local macro_rules | `(tactic| walk_at "call ref") => `(tactic| (k_here; (with_reducible show wpAny _ _ (PySem.call (Value.ref 35) _ _) _ _ _); k_dflt (refine' useI (c_ym _ _ _ _ _ _ _ _) ?k1 ?k2 ?k3 ?k4 ?k5 ?kK ?kd ?ku ?_; (case k1 => k_asm); (case k2 => k_asm); (case k3 => k_asm); (case k4 => k_asm); (case k5 => k_asm); (case kK => first | exact rfl | assumption); (case kd => ktr_room); (case ku => ktr_units); k_whole; intro t9 h9 tk9 F9 N9; (try dsimp only); (try k_fold))))
local macro_rules | `(tactic| walk_at "call ref") => `(tactic| (k_here; (with_reducible show wpAny _ _ (PySem.call (Value.ref 42) _ _) _ _ _); k_dflt (refine' useI (c_d1 _ _ _ _ _ _ _ _) ?k1 ?k2 ?k3 ?k4 ?k5 ?kK ?kd ?ku ?_; (case k1 => k_asm); (case k2 => k_asm); (case k3 => k_asm); (case k4 => k_asm); (case k5 => k_asm); (case kK => first | exact rfl | assumption); (case kd => ktr_room); (case ku => ktr_units); k_whole; intro t9 h9 tk9 F9 N9; (try dsimp only); (try k_fold))))
local macro_rules | `(tactic| walk_at "call ref") => `(tactic| (k_here; (with_reducible show wpAny _ _ (PySem.call (Value.ref 49) _ _) _ _ _); k_dflt (refine' useI (c_d2 _ _ _ _ _ _ _ _) ?k1 ?k2 ?k3 ?k4 ?k5 ?kK ?kd ?ku ?_; (case k1 => k_asm); (case k2 => k_asm); (case k3 => k_asm); (case k4 => k_asm); (case k5 => k_asm); (case kK => first | exact rfl | assumption); (case kd => ktr_room); (case ku => ktr_units); k_whole; intro t9 h9 tk9 F9 N9; (try dsimp only); (try k_fold))))
local macro_rules | `(tactic| walk_at "call ref") => `(tactic| (k_here; (with_reducible show wpAny _ _ (PySem.call (Value.ref 91) _ _) _ _ _); k_dflt (refine' useB (c_long _ _ _ _ _ _ _ _) ?k1 ?k2 ?k3 ?k4 ?k5 ?kK ?kd ?ku ?_; (case k1 => k_asm); (case k2 => k_asm); (case k3 => k_asm); (case k4 => k_asm); (case k5 => k_asm); (case kK => first | exact rfl | assumption); (case kd => ktr_room); (case ku => ktr_units); k_whole; intro h9 tk9 F9 N9; (try dsimp only); (try k_fold))))
local macro_rules | `(tactic| walk_at "call ref") => `(tactic| (k_here; (with_reducible show wpAny _ _ (PySem.call (Value.ref 77) [Value.int _ _, Value.int 7 _, Value.int _ _] _) _ _ _); k_dflt (refine' useI (c_tj7 _ _ _ _ _ _ _ _ _ _ _) ?k1 ?k2 ?k3 ?k4 ?k5 ?kK ?kd ?ku ?_; (case k1 => k_asm); (case k2 => k_asm); (case k3 => k_asm); (case k4 => k_asm); (case k5 => k_asm); (case kK => first | exact rfl | assumption); (case kd => ktr_room); (case ku => ktr_units); k_whole; intro t9 h9 tk9 F9 N9; (try dsimp only); (try k_fold))))
local macro_rules | `(tactic| walk_at "call ref") => `(tactic| (k_here; (with_reducible show wpAny _ _ (PySem.call (Value.ref 56) _ _) _ _ _); k_dflt (refine' useI (c_yd _ _ _ _ _ _ _ _) ?k1 ?k2 ?k3 ?k4 ?k5 ?kK ?kd ?ku ?_; (case k1 => k_asm); (case k2 => k_asm); (case k3 => k_asm); (case k4 => k_asm); (case k5 => k_asm); (case kK => first | exact rfl | assumption); (case kd => ktr_room); (case ku => ktr_units); k_whole; intro t9 h9 tk9 F9 N9; (try dsimp only); (try k_fold))))
local macro_rules | `(tactic| walk_at "call ref") => `(tactic| (k_here; (with_reducible show wpAny _ _ (PySem.call (Value.ref 63) _ _) _ _ _); k_dflt (refine' useI (c_ml _ _ _ _ _ _ _ _ _ _ ?kp) ?k1 ?k2 ?k3 ?k4 ?k5 ?kK ?kd ?ku ?_; (case k1 => k_asm); (case k2 => k_asm); (case k3 => k_asm); (case k4 => k_asm); (case k5 => k_asm); (case kK => first | exact rfl | assumption); (case kp => first | with_reducible assumption | decide | omega); (case kd => ktr_room); (case ku => ktr_units); k_whole; intro t9 h9 tk9 F9 N9; (try dsimp only); (try k_fold))))
local macro_rules | `(tactic| walk_at "call ref") => `(tactic| (k_here; (with_reducible show wpAny _ _ (PySem.call (Value.ref 70) _ _) _ _ _); k_dflt (refine' useI (c_md _ _ _ _ _ _ _ _ _ _ ?kp) ?k1 ?k2 ?k3 ?k4 ?k5 ?kK ?kd ?ku ?_; (case k1 => k_asm); (case k2 => k_asm); (case k3 => k_asm); (case k4 => k_asm); (case k5 => k_asm); (case kK => first | exact rfl | assumption); (case kp => first | with_reducible assumption | decide | omega); (case kd => ktr_room); (case ku => ktr_units); k_whole; intro t9 h9 tk9 F9 N9; (try dsimp only); (try k_fold))))
local macro_rules | `(tactic| walk_at "call ref") => `(tactic| (k_here; (with_reducible show wpAny _ _ (PySem.call (Value.ref 77) _ _) _ _ _); k_dflt (refine' useI (c_tj _ _ _ _ _ _ _ _ _ _ _ _ ?kp ?kp2) ?k1 ?k2 ?k3 ?k4 ?k5 ?kK ?kd ?ku ?_; (case k1 => k_asm); (case k2 => k_asm); (case k3 => k_asm); (case k4 => k_asm); (case k5 => k_asm); (case kK => first | exact rfl | assumption); (case kp2 => first | with_reducible assumption | decide | omega); (case kp => first | with_reducible assumption | decide | omega); (case kd => ktr_room); (case ku => ktr_units); k_whole; intro t9 h9 tk9 F9 N9; (try dsimp only); (try k_fold))))
local macro_rules | `(tactic| walk_at "call ref") => `(tactic| (k_here; (with_reducible show wpAny _ _ (PySem.call (Value.ref 77) [Value.int _ _, Value.int 7 _, Value.int _ _] _) _ _ _); k_dflt (refine' useI (c_tj7 _ _ _ _ _ _ _ _ _ _ _) ?k1 ?k2 ?k3 ?k4 ?k5 ?kK ?kd ?ku ?_; (case k1 => k_asm); (case k2 => k_asm); (case k3 => k_asm); (case k4 => k_asm); (case k5 => k_asm); (case kK => first | exact rfl | assumption); (case kd => ktr_room); (case ku => ktr_units); k_whole; intro t9 h9 tk9 F9 N9; (try dsimp only); (try k_fold))))

def longN (n : Nat) : Int := ((List.foldl (fun l' k' => if longB k' = true then l' ++ [k'] else if longB k' = false then l' else l') ([] : List Int) (rangeKs 1 n)).length : Int)
def nyE2 (y q p : Int) : Int := if longB (y - 1) = true then if (Int.fmod q 7 == 1) = true then if 15 * 1080 + 589 ≤ p then q + 1 else q else q else q
def nyE (y q p : Int) : Int := if 18 * 1080 ≤ p then q + 1 else if (!longB y) = true then if (Int.fmod q 7 == 2) = true then if 9 * 1080 + 204 ≤ p then q + 1 else nyE2 y q p else nyE2 y q p else nyE2 y q p
def nyF (d : Int) : Int := 347997 + if ([0, 3, 5].any fun x => x == Int.fmod d 7) = true then d + 1 else d
def nyG (y n : Int) : Int := nyF (nyE y (Int.fdiv (31524 + 765433 * (235 * Int.fdiv (y - 1) 19 + 12 * Int.fmod (y - 1) 19 + n)) 25920) (Int.fmod (31524 + 765433 * (235 * Int.fdiv (y - 1) 19 + 12 * Int.fmod (y - 1) 19 + n)) 25920))
def nyI (y : Int) : Int := nyG y (longN (Int.fmod (y - 1) 19 + 1 - 1).toNat)

/-- a statement went by: the name n holds an int of which P is known; else frame and ledger stand -/
def CutS (n : Str) (P : Int → Prop) (h₀ : Heap) (L : Addr) (m : Str → Option Value) (news : List (Addr × Obj)) (s : Shared) (fl : Flow) (s' : Shared) : Prop :=
  ∃ (z : Int) (t : Tok) (h' : Heap) (tk' : Nat), P z ∧ fl = .next ∧ s' = { s with heap := h', toks := tk' } ∧ Fr h₀ L h' (fun x => if x = n then some (.int z t) else m x) ∧ News h₀ L h' news
theorem cutS (n : Str) (P : Int → Prop) {M : Model} {A : Around} {E : Value → Shared → Prop} {Q : Flow → Shared → Prop} {s : Shared} {h₀ : Heap} {L : Addr} {m : Str → Option Value} {news : List (Addr × Obj)} {cm : Sem Flow}
    (_F : Fr h₀ L s.heap m) (_N : News h₀ L s.heap news) (h : wpAny M A cm (fun fl s' => CutS n P h₀ L m news s fl s') E s)
    (k : ∀ (z : Int) (t : Tok) (h' : Heap) (tk' : Nat), P z → Fr h₀ L h' (fun x => if x = n then some (.int z t) else m x) → News h₀ L h' news → Q .next { s with heap := h', toks := tk' }) : wpAny M A cm Q E s := by
  refine wpAny_mono h (fun v s' hq => ?_) fun _ _ e => e
  obtain ⟨z, t, h', tk', hP, hv, hs, F, N⟩ := hq
  subst hv; subst hs; exact k z t h' tk' hP F N
theorem CutS.intro {n : Str} {P : Int → Prop} {h₀ h' : Heap} {L : Addr} {m m' : Str → Option Value} {news : List (Addr × Obj)} {s : Shared} {z : Int} {t : Tok} {tk' : Nat}
    (F : Fr h₀ L h' m') (N : News h₀ L h' news) (hm : m' n = some (.int z t)) (hs : ∀ x, x ≠ n → m' x = m x) (hP : P z) : CutS n P h₀ L m news s .next { s with heap := h', toks := tk' } := by
  refine ⟨z, t, h', tk', hP, rfl, rfl, ?_, N⟩
  rw [show (fun x => if x = n then some (.int z t) else m x) = m' from funext fun x => by
    by_cases e : x = n
    · rw [if_pos e, e, hm]
    · rw [if_neg e, hs x e]]
  exact F
theorem cutNy {y q p : Int} {t1 t2 t3 : Tok} {M : Model} {A : Around} {E : Value → Shared → Prop} {Q : Flow → Shared → Prop} {s : Shared} {h₀ : Heap} {L : Addr} {m : Str → Option Value} {news : List (Addr × Obj)} {cm : Sem Flow}
    (F : Fr h₀ L s.heap m) (N : News h₀ L s.heap news) (_hy : m (Str.ofString "year") = some (.int y t1)) (_hq : m (Str.ofString "day") = some (.int q t2)) (_hp : m (Str.ofString "part") = some (.int p t3))
    (h : wpAny M A cm (fun fl s' => CutS (Str.ofString "day") (fun z => z = nyE y q p) h₀ L m news s fl s') E s)
    (k : ∀ (z : Int) (t : Tok) (h' : Heap) (tk' : Nat), z = nyE y q p → Fr h₀ L h' (fun x => if x = Str.ofString "day" then some (.int z t) else m x) → News h₀ L h' news → Q .next { s with heap := h', toks := tk' }) : wpAny M A cm Q E s := cutS _ _ F N h k
local macro_rules | `(tactic| walk_at "exec If") => `(tactic| (k_here; (fail_if_success (with_reducible show wpAny _ _ _ (fun v s' => CutS _ _ _ _ _ _ _ v s') _ _)); (with_reducible show wpAny _ _ (exec (Stmt.If (Expr.Compare _ [CmpOp.GtE] _ _) _ (_ :: _) _) _) _ _ _); (rename Fr _ _ _ _ => cF'); (rename News _ _ _ _ => cN'); (k_dflt (refine cutNy cF' cN' rfl rfl rfl ?_ ?_)); rotate_left; (intro z' t' h' tk' hz' F' N'; (try k_sweep); (try dsimp only); (try k_fold)); rotate_left))
local macro_rules | `(tactic| walk_at "CutS") => `(tactic| (k_here; k_dflt (refine' CutS.intro ?sF ?sN ?sm ?ss ?sP; (case sF => k_asm); (case sN => k_asm); (case sm => rfl); (case ss => (intro x hx; first | rfl | (simp only [if_neg hx]; done))); (case sP => ((try dsimp only); subst_vars; unfold nyE nyE2; set_option simprocs false in simp only [*, if_true, if_false, Bool.false_eq_true, Bool.true_eq_false, eq_self])))))
theorem c_ny (y : Int) (t : Tok) : Cl w loose mean mg mb 3 96 [.int y t] news (RetI (nyI y)) := by
  w_on
  unfold Cl Claim
  k_fill
  intros; rename_i hret
  refine wpAny_call ?_
  k_dflt cell_enter
  repeat' (first | (k_unfold; (try dsimp only)) | (walk1; (try dsimp only)) | fail "no step")
  all_goals (refine retI hret ?_ (by k_asm) (by k_asm) (by (intro p hp; repeat (first | with_reducible assumption | refine List.mem_cons_of_mem _ ?_))))
  all_goals (subst_vars; (rename (List.length _ = List.length _) => hL); (show _ = nyG _ (longN _)); (rw [show longN (Int.fmod (y - 1) 19 + 1 - 1).toNat = _ from (congrArg Nat.cast hL).symm]); unfold nyG nyF; set_option simprocs false in simp only [*, if_true, if_false, Bool.false_eq_true, Bool.true_eq_false, eq_self])
end
end Mine
namespace Mine
theorem my_inplace_iconcat {M : Model} {A : Around} {E : Value → Shared → Prop} {s : Shared} {a b : Value} {T id : String} {Q : Value → Shared → Prop} (ha : s.TypeIs a T) (hb : s.TypeIs b T)
    (hi : typeLookup (.type T) (dunderI "add") = pure (some (.builtin id))) (hs : isSeqSlot (some (.builtin id)) = true) (hfill : fillsNumberSlot (.type T) "add" = pure false)
    (hc : wpAny M A (PySem.call (.builtin id) [a, b]) Q E s) : wpAny M A (inplaceOp .Add a b) Q E s := by
  unfold inplaceOp
  refine wpAny_holding ?_
  have hfi : fillsInplaceSlot (.type T) "add" (Operator.Add == .Add) = pure false := by
    unfold fillsInplaceSlot
    show (typeLookup (.type T) (dunderI "add") >>= fun fi => pure (fi.isSome && !isSeqSlot fi)) = pure false
    rw [hi, pure_bind, hs]; rfl
  have hsi : seqSlot? (.type T) (dunderI "add") = pure (some (.builtin id)) := PySem.seqSlot_of hi hs
  refine wpAny_bind (wpAny_typeOf ha (wpAny_bind (wpAny_of_eq hfi ?_)))
  show wpAny M A (if false = true then _ else _) Q E s
  rw [if_neg Bool.false_ne_true]
  refine wpAny_bind (wpAny_binaryOp1_none (nm := "add") ha hb hfill ?_)
  refine wpAny_bind (wpAny_of_eq hsi ?_)
  exact wpAny_bind (wpAny_rule hc)
theorem my_iadd {prog : Program} {w : World} {A : Around} {E : Value → Shared → Prop} {s : Shared} {h₀ : Heap} {L D b : Addr} {m : Str → Option Value} {news news' : List (Addr × Obj)} {its its2 : Array Value} {n n2 : Nat} {l : List Value} {Q : Value → Shared → Prop}
    (F : Fr h₀ L s.heap m) (N : News h₀ L s.heap news) (hb : (b, W.listOf its2 n2) ∈ news) (e : its.toList ++ its2.toList = l) (hne : its2.toList.length ≠ 0)
    (U : Upd D (W.listOf its n) (W.listOf l.toArray (n + 1)) news news') (hd : ¬(!its.isEmpty && Builtin.List.listTooLong (its.size + its2.size)) = true) (hz : its.toList.length ≤ sizeLine) (hz2 : its.size + its2.size ≤ sizeLine + 1)
    (h : ∀ h', Fr h₀ L h' m → News h₀ L h' news' → Q (.ref D) { s with heap := h' }) : wpAny (model prog w) A (inplaceOp .Add (.ref D) (.ref b)) Q E s := by
  obtain ⟨pre, post, rfl, rfl, a, c⟩ := U.split
  have z := N (D, W.listOf its n) (List.mem_append.mpr (.inr (.head _)))
  refine my_inplace_iconcat (T := "list") ⟨_, z.1, rfl⟩ ⟨_, (N _ hb).1, rfl⟩ PySem.F.slot_list_iadd.lookup (by decide +kernel) noFill_list_add ?_
  refine PySem.call_meets PySem.F.slot_list_iadd ⟨_, z.1, rfl⟩ PySem.F.entry_list_iadd (PySem.F.args_list_iadd_2 _ _) (PySem.AutoSeq1.list___iadd___list_list_0 D its n b its2 n2 hd (by simpa using hz) hz2) ⟨z.1, (N _ hb).1, h _ (F.change (Heap.SameBut.update ..) z.2.1 z.2.2) (kl_turn _ N a c ?_ ?_)⟩
  · subst e
    apply Array.toList_inj.mp
    simp
  · subst e
    simp at hne ⊢
    exact hne
end Mine
namespace Mine
section Plain
set_option maxHeartbeats 8000000
theorem fdv (a b : Int) (h : 0 ≤ b) : Int.fdiv a b = a / b := Int.fdiv_eq_ediv_of_nonneg a h
theorem fmd (a b : Int) (h : 0 ≤ b) : Int.fmod a b = a % b := Int.fmod_eq_emod_of_nonneg a h
def sev (r : Int) : Int := if r = 0 ∨ r = 3 ∨ r = 5 then 1 else 0
def dl (q : Int) : Int := q + sev ((q + 1) % 7)
def ny0 (L Lp : Bool) (q p : Int) : Int :=
  let e : Int := if L = false ∧ (q + 1) % 7 = 2 ∧ 16404 ≤ p then 1 else if Lp = true ∧ (q + 1) % 7 = 1 ∧ 23269 ≤ p then 1 else 0
  347998 + q + e + sev ((q + 1 + e) % 7)
/-- the same, the two comparisons told -/
def nyb (L Lp : Bool) (q : Int) (s t : Bool) : Int :=
  let e : Int := if L = false ∧ (q + 1) % 7 = 2 ∧ s = true then 1 else if Lp = true ∧ (q + 1) % 7 = 1 ∧ t = true then 1 else 0
  347998 + q + e + sev ((q + 1 + e) % 7)
def moons (L : Bool) : Int := if L = true then 9950629 else 9185196
theorem ny0_b (L Lp : Bool) (q p : Int) : ny0 L Lp q p = nyb L Lp q (decide (16404 ≤ p)) (decide (23269 ≤ p)) := by
  unfold ny0 nyb; simp only [decide_eq_true_eq]
theorem md7 (k x : Int) : (7 * k + x) % 7 = x % 7 := Int.mul_add_emod_self_left 7 k x
theorem md19 (k x : Int) : (19 * k + x) % 19 = x % 19 := Int.mul_add_emod_self_left 19 k x
theorem seven (q : Int) : ∃ (k : Int) (r : Fin 7), q = 7 * k + ((r.val : Nat) : Int) := ⟨q / 7, ⟨(q % 7).toNat, by omega⟩, by dsimp only; omega⟩
theorem nineteen (q : Int) : ∃ (k : Int) (r : Fin 19), q = 19 * k + ((r.val : Nat) : Int) := ⟨q / 19, ⟨(q % 19).toNat, by omega⟩, by dsimp only; omega⟩
theorem dl_shift (k x : Int) : dl (7 * k + x) = 7 * k + dl x := by
  unfold dl; rw [Int.add_assoc (7 * k) x 1, md7, Int.add_assoc]
theorem nyb_shift (L Lp : Bool) (k x : Int) (s t : Bool) : nyb L Lp (7 * k + x) s t = 7 * k + nyb L Lp x s t := by
  unfold nyb; dsimp only; rw [Int.add_assoc (7 * k) x 1, md7]
  generalize (if L = false ∧ (x + 1) % 7 = 2 ∧ s = true then (1 : Int) else if Lp = true ∧ (x + 1) % 7 = 1 ∧ t = true then 1 else 0) = e
  rw [Int.add_assoc (7 * k) (x + 1) e, md7]
  generalize sev ((x + 1 + e) % 7) = z
  omega
def aN (L b1 s : Bool) : Int := if L = true then (if b1 = true then 383 else 384) else (if s = true then 355 else 354)
def aP (Lp b2 t : Bool) : Int := if Lp = true then (if t = true then 383 else 384) else (if b2 = true then 354 else 355)
theorem coreD : ∀ (L Lp b1 b2 s t : Bool), ((!b1 || !b2) && (!s || b2) && (!t || s) && !(L && Lp)) = true → ∀ r : Fin 7,
    347998 + dl ((r.val : Nat) : Int) + (if dl (((r.val : Nat) : Int) + aN L b1 s) - dl ((r.val : Nat) : Int) = 356 then 2 else if dl ((r.val : Nat) : Int) - dl (((r.val : Nat) : Int) - aP Lp b2 t) = 382 then 1 else 0) = nyb L Lp ((r.val : Nat) : Int) s t := by decide +kernel
theorem core (L Lp : Bool) (q p W : Int) (hW : W = 25920 * q + p) (h0 : 0 ≤ p) (h1 : p < 25920) (hc : ¬ (L = true ∧ Lp = true)) :
    347998 + dl q + (if dl ((W + moons L) / 25920) - dl q = 356 then 2 else if dl q - dl ((W - moons Lp) / 25920) = 382 then 1 else 0) = ny0 L Lp q p := by
  have hn : (W + moons L) / 25920 = q + aN L (decide (p < 2651)) (decide (16404 ≤ p)) := by
    unfold moons aN; simp only [decide_eq_true_eq]; cases L <;> simp only [if_true, if_false, Bool.false_eq_true] <;> split <;> omega
  have hp : (W - moons Lp) / 25920 = q - aP Lp (decide (9516 ≤ p)) (decide (23269 ≤ p)) := by
    unfold moons aP; simp only [decide_eq_true_eq]; cases Lp <;> simp only [if_true, if_false, Bool.false_eq_true] <;> split <;> omega
  rw [hn, hp]
  obtain ⟨k, r, hq⟩ := seven q
  subst hq
  have key := coreD L Lp (decide (p < 2651)) (decide (9516 ≤ p)) (decide (16404 ≤ p)) (decide (23269 ≤ p)) (by
    simp only [Bool.and_eq_true, Bool.or_eq_true, Bool.not_eq_true', decide_eq_true_eq, decide_eq_false_iff_not]
    refine ⟨by omega, ?_⟩
    cases L <;> cases Lp <;> first | rfl | exact absurd ⟨rfl, rfl⟩ hc) r
  rw [ny0_b, nyb_shift, ← key, Int.add_assoc (7 * k), Int.add_sub_assoc (7 * k), dl_shift, dl_shift, dl_shift, Int.add_sub_add_left, Int.add_sub_add_left]
  generalize (if _ = (356 : Int) then (2 : Int) else _) = z
  generalize dl _ = z'
  omega
theorem core2T : ∀ (Lp L1 b1 u s t : Bool), ((!b1 || !s) && (!u || s) && (!t || u) && !Lp && !L1) = true → ∀ r : Fin 7,
    let D := nyb L1 true (((r.val : Nat) : Int) + aN true b1 s) (b1 || u) b1 - nyb true Lp ((r.val : Nat) : Int) s t
    D = 383 ∨ D = 384 ∨ D = 385 := by decide +kernel
theorem core2F : ∀ (Lp L1 u2 u3 s t : Bool), ((!s || u3) && (!u3 || u2) && (!t || s)) = true → ∀ r : Fin 7,
    let D := nyb L1 false (((r.val : Nat) : Int) + aN false false s) (!s && u2) (!s && u3) - nyb false Lp ((r.val : Nat) : Int) s t
    D = 353 ∨ D = 354 ∨ D = 355 := by decide +kernel
theorem core2 (L1 L0 Lp : Bool) (q p q' p' : Int) (h0 : 0 ≤ p) (h1 : p < 25920) (h0' : 0 ≤ p') (h1' : p' < 25920) (hW : 25920 * q' + p' = 25920 * q + p + moons L0) (hc : ¬ (L0 = true ∧ Lp = true)) (hc' : ¬ (L1 = true ∧ L0 = true)) :
    (L0 = false → ny0 L1 L0 q' p' - ny0 L0 Lp q p = 353 ∨ ny0 L1 L0 q' p' - ny0 L0 Lp q p = 354 ∨ ny0 L1 L0 q' p' - ny0 L0 Lp q p = 355) ∧
    (L0 = true → ny0 L1 L0 q' p' - ny0 L0 Lp q p = 383 ∨ ny0 L1 L0 q' p' - ny0 L0 Lp q p = 384 ∨ ny0 L1 L0 q' p' - ny0 L0 Lp q p = 385) := by
  obtain ⟨k, r, hq⟩ := seven q
  rw [ny0_b, ny0_b]
  constructor
  · intro e; subst e
    have hq' : q' = q + aN false false (decide (16404 ≤ p)) := by
      unfold moons at hW; unfold aN; simp only [decide_eq_true_eq, if_false, Bool.false_eq_true] at hW ⊢; split <;> omega
    have es : decide (16404 ≤ p') = (!decide (16404 ≤ p) && decide (6888 ≤ p)) := by
      unfold moons at hW; simp only [if_false, Bool.false_eq_true] at hW
      rw [Bool.eq_iff_iff]; simp only [Bool.and_eq_true, Bool.not_eq_true', decide_eq_true_eq, decide_eq_false_iff_not]; omega
    have et : decide (23269 ≤ p') = (!decide (16404 ≤ p) && decide (13753 ≤ p)) := by
      unfold moons at hW; simp only [if_false, Bool.false_eq_true] at hW
      rw [Bool.eq_iff_iff]; simp only [Bool.and_eq_true, Bool.not_eq_true', decide_eq_true_eq, decide_eq_false_iff_not]; omega
    have key := core2F Lp L1 (decide (6888 ≤ p)) (decide (13753 ≤ p)) (decide (16404 ≤ p)) (decide (23269 ≤ p)) (by
      simp only [Bool.and_eq_true, Bool.or_eq_true, Bool.not_eq_true', decide_eq_true_eq, decide_eq_false_iff_not]; omega) r
    rw [es, et, hq', hq, Int.add_assoc (7 * k), nyb_shift, nyb_shift, Int.add_sub_add_left]
    exact key
  · intro e; subst e
    have hq' : q' = q + aN true (decide (p < 2651)) (decide (16404 ≤ p)) := by
      unfold moons at hW; unfold aN; simp only [decide_eq_true_eq, if_true] at hW ⊢; split <;> omega
    have es : decide (16404 ≤ p') = (decide (p < 2651) || decide (19055 ≤ p)) := by
      unfold moons at hW; simp only [if_true] at hW
      rw [Bool.eq_iff_iff]; simp only [Bool.or_eq_true, decide_eq_true_eq]; omega
    have et : decide (23269 ≤ p') = decide (p < 2651) := by
      unfold moons at hW; simp only [if_true] at hW
      rw [Bool.eq_iff_iff]; simp only [decide_eq_true_eq]; omega
    have key := core2T Lp L1 (decide (p < 2651)) (decide (19055 ≤ p)) (decide (16404 ≤ p)) (decide (23269 ≤ p)) (by
      simp only [Bool.and_eq_true, Bool.or_eq_true, Bool.not_eq_true', decide_eq_true_eq, decide_eq_false_iff_not]
      refine ⟨⟨by omega, ?_⟩, ?_⟩
      · cases Lp <;> first | rfl | exact absurd ⟨rfl, rfl⟩ hc
      · cases L1 <;> first | rfl | exact absurd ⟨rfl, rfl⟩ hc') r
    rw [es, et, hq', hq, Int.add_assoc (7 * k), nyb_shift, nyb_shift, Int.add_sub_add_left]
    exact key

def mo (y : Int) : Int := (235 * y - 234) / 19
def WW (y : Int) : Int := 12084 + 765433 * mo y
def qq (y : Int) : Int := WW y / 25920
def pp (y : Int) : Int := WW y % 25920
theorem leap_iff (y : Int) : leapB y = true ↔ (y * 7 + 1) % 19 < 7 := by
  unfold leapB; rw [decide_eq_true_eq, fmd _ _ (by decide)]
theorem leap_iff_f (y : Int) : leapB y = false ↔ ¬ (y * 7 + 1) % 19 < 7 := by
  rw [← leap_iff, Bool.not_eq_true]
theorem leap_shift (k x : Int) : leapB (19 * k + x) = leapB x := by
  unfold leapB; rw [fmd _ _ (by decide), fmd _ _ (by decide), show (19 * k + x) * 7 + 1 = 19 * (7 * k) + (x * 7 + 1) by omega, md19]
theorem leap_not2D : ∀ r : Fin 19, ¬ (leapB ((r.val : Nat) : Int) = true ∧ leapB (((r.val : Nat) : Int) - 1) = true) := by decide +kernel
theorem leap_not2 (y : Int) : ¬ (leapB y = true ∧ leapB (y - 1) = true) := by
  obtain ⟨k, r, hy⟩ := nineteen y
  rw [hy, Int.add_sub_assoc, leap_shift, leap_shift]; exact leap_not2D r
theorem mo_shift (k x : Int) : mo (19 * k + x) = 235 * k + mo x := by unfold mo; omega
theorem mo_succD : ∀ r : Fin 19, mo (((r.val : Nat) : Int) + 1) = mo ((r.val : Nat) : Int) + (if leapB ((r.val : Nat) : Int) = true then 13 else 12) := by decide +kernel
theorem mo_succ (y : Int) : mo (y + 1) = mo y + (if leapB y = true then 13 else 12) := by
  obtain ⟨k, r, hy⟩ := nineteen y
  rw [hy, Int.add_assoc, mo_shift, mo_shift, leap_shift, mo_succD r, Int.add_assoc]
theorem WW_succ (y : Int) : WW (y + 1) = WW y + moons (leapB y) := by
  unfold WW moons
  rw [mo_succ]
  cases leapB y
  · simp only [if_false, Bool.false_eq_true]; omega
  · simp only [if_true]; omega
theorem WW_pred (y : Int) : WW (y - 1) = WW y - moons (leapB (y - 1)) := by
  have := WW_succ (y - 1)
  rw [show y - 1 + 1 = y by omega] at this; omega
theorem dlD : ∀ r : Fin 7, (if (3 * (((r.val : Nat) : Int) + 1)) % 7 < 3 then ((r.val : Nat) : Int) + 1 else ((r.val : Nat) : Int)) = dl ((r.val : Nat) : Int) := by decide +kernel
theorem d1_eq (y : Int) : d1 y = dl (qq y) := by
  unfold d1 d1d qq WW mo
  simp only [fdv _ _ (show (0:Int) ≤ 19 by decide), fdv _ _ (show (0:Int) ≤ 25920 by decide), fmd _ _ (show (0:Int) ≤ 7 by decide)]
  generalize (235 * y - 234) / 19 = M
  have e : (12084 + 765433 * M) / 25920 = M * 29 + (12084 + 13753 * M) / 25920 := by omega
  rw [e]
  generalize M * 29 + (12084 + 13753 * M) / 25920 = q
  obtain ⟨k, r, hy⟩ := seven q
  rw [hy, dl_shift, ← dlD r, show 3 * (7 * k + ((r.val : Nat) : Int) + 1) = 7 * (3 * k) + 3 * (((r.val : Nat) : Int) + 1) by omega, md7]
  split <;> omega
theorem d12_eq (y : Int) : 347998 + d1 y + d2 y = ny0 (leapB y) (leapB (y - 1)) (qq y) (pp y) := by
  rw [← core (leapB y) (leapB (y - 1)) (qq y) (pp y) (WW y) (by unfold qq pp; omega) (by unfold pp; omega) (by unfold pp; omega) (leap_not2 y)]
  rw [← WW_succ, ← WW_pred]
  show _ = 347998 + dl (qq y) + (if dl (qq (y + 1)) - dl (qq y) = 356 then 2 else if dl (qq y) - dl (qq (y - 1)) = 382 then 1 else 0)
  unfold d2
  simp only [d1_eq, beq_iff_eq]
theorem longD : ∀ r : Fin 19, longB ((r.val : Nat) : Int) = leapB ((r.val : Nat) : Int) := by decide +kernel
theorem longB_eq (y : Int) : longB y = leapB y := by
  obtain ⟨k, r, hy⟩ := nineteen y
  rw [hy, leap_shift, ← longD r]
  unfold longB
  rw [fmd _ _ (by decide), md19, fmd _ _ (by decide)]
theorem longND : ∀ n : Fin 19, longN n.val = (7 * ((n.val : Nat) : Int) + 1) / 19 := by decide +kernel
theorem longN_eq (n : Nat) (h : n < 19) : longN n = (7 * (n : Int) + 1) / 19 := longND ⟨n, h⟩
theorem nyF_eq (d : Int) : nyF d = 347997 + d + sev (d % 7) := by
  unfold nyF sev
  simp only [fmd _ _ (show (0:Int) ≤ 7 by decide), List.any_cons, List.any_nil, Bool.or_false, Bool.or_eq_true, beq_iff_eq]
  by_cases h : 0 = d % 7 ∨ 3 = d % 7 ∨ 5 = d % 7
  · rw [if_pos h, if_pos (h.imp Eq.symm (Or.imp Eq.symm Eq.symm))]; omega
  · rw [if_neg h, if_neg (fun q => h (q.imp Eq.symm (Or.imp Eq.symm Eq.symm)))]; omega
theorem if3 {a b c : Prop} [Decidable a] [Decidable b] [Decidable c] {A B : Int} : (if a then if b then if c then A else B else B else B) = if a ∧ b ∧ c then A else B := by
  by_cases ha : a <;> by_cases hb : b <;> by_cases hc : c <;> simp only [ha, hb, hc, if_true, if_false, and_self, and_true, true_and, and_false, false_and]
theorem nyE_hi (y q P : Int) (h : 19440 ≤ P) : nyE y q P = q + 1 := if_pos h
theorem nyE_lo (y q p : Int) (h0 : 6480 ≤ p) (h1 : p < 25920) : nyE y (q + 1) (p - 6480) = q + 1 + (if leapB y = false ∧ (q + 1) % 7 = 2 ∧ 16404 ≤ p then 1 else if leapB (y - 1) = true ∧ (q + 1) % 7 = 1 ∧ 23269 ≤ p then 1 else 0) := by
  unfold nyE
  rw [if_neg (by omega)]
  unfold nyE2
  rw [longB_eq, longB_eq, fmd _ _ (by decide)]
  have e1 : (9 * 1080 + 204 ≤ p - 6480) = (16404 ≤ p) := propext (by omega)
  have e2 : (15 * 1080 + 589 ≤ p - 6480) = (23269 ≤ p) := propext (by omega)
  simp only [e1, e2, Bool.not_eq_true', beq_iff_eq]
  rw [if3, if3]
  split
  · rfl
  · split
    · rfl
    · exact (Int.add_zero _).symm
theorem ny_eq (y : Int) : nyI y = ny0 (leapB y) (leapB (y - 1)) (qq y) (pp y) := by
  have hm : 235 * Int.fdiv (y - 1) 19 + 12 * Int.fmod (y - 1) 19 + longN (Int.fmod (y - 1) 19 + 1 - 1).toNat = mo y := by
    rw [fdv _ _ (by decide), fmd _ _ (by decide), longN_eq _ (by omega)]
    unfold mo; omega
  unfold nyI nyG
  rw [hm]
  have hW : 31524 + 765433 * mo y = WW y + 19440 := by unfold WW; omega
  rw [hW, fdv _ _ (by decide), fmd _ _ (by decide)]
  have h0 : WW y = 25920 * qq y + pp y := by unfold qq pp; omega
  have h1 : 0 ≤ pp y := by unfold pp; omega
  have h2 : pp y < 25920 := by unfold pp; omega
  rw [h0]
  generalize qq y = q at *
  generalize pp y = p at *
  by_cases hp : p < 6480
  · have e1 : (25920 * q + p + 19440) / 25920 = q := by omega
    have e2 : (25920 * q + p + 19440) % 25920 = p + 19440 := by omega
    rw [e1, e2, nyE_hi _ _ _ (by omega), nyF_eq]
    unfold ny0
    rw [if_neg (by omega), if_neg (by omega)]
    dsimp only
    rw [Int.add_zero, Int.add_zero]
    omega
  · have e1 : (25920 * q + p + 19440) / 25920 = q + 1 := by omega
    have e2 : (25920 * q + p + 19440) % 25920 = p - 6480 := by omega
    rw [e1, e2, nyE_lo y q p (by omega) h2, nyF_eq]
    unfold ny0
    dsimp only
    omega
theorem qq_pos (y : Int) (h : 0 ≤ y) : -400 ≤ qq y := by unfold qq WW mo; omega
theorem ny_pos (y : Int) (h : 0 ≤ y) : 300000 ≤ nyI y := by
  rw [ny_eq]; have := qq_pos y h; unfold ny0 sev; dsimp only; omega
theorem d12_ny (y : Int) : 347998 + d1 y + d2 y = nyI y := by rw [d12_eq, ny_eq]
theorem tj7_ny (y d : Int) (h : 0 ≤ y) (hd : 0 < d) : tj7 y d = nyI y + d - 1 := by
  have := ny_pos y h
  rw [← d12_ny] at *
  unfold tj7 midI
  rw [if_pos (by omega)]; omega
theorem len_ny (y : Int) : (leapB y = false → nyI (y + 1) - nyI y = 353 ∨ nyI (y + 1) - nyI y = 354 ∨ nyI (y + 1) - nyI y = 355) ∧
    (leapB y = true → nyI (y + 1) - nyI y = 383 ∨ nyI (y + 1) - nyI y = 384 ∨ nyI (y + 1) - nyI y = 385) := by
  rw [ny_eq, ny_eq, show y + 1 - 1 = y by omega]
  refine core2 (leapB (y + 1)) (leapB y) (leapB (y - 1)) (qq y) (pp y) (qq (y + 1)) (pp (y + 1)) ?_ ?_ ?_ ?_ ?_ (leap_not2 y) ?_
  · unfold pp; omega
  · unfold pp; omega
  · unfold pp; omega
  · unfold pp; omega
  · have := WW_succ y; unfold qq pp; omega
  · have := leap_not2 (y + 1); rwa [show y + 1 - 1 = y by omega] at this
theorem yd_ny (y : Int) (h : 0 ≤ y) : ydI y = nyI (y + 1) - nyI y := by
  unfold ydI; rw [tj7_ny _ _ h (by decide), tj7_ny _ _ (by omega) (by decide)]; omega
end Plain
end Mine
namespace Mine
section PlainB
set_option maxHeartbeats 8000000
theorem ml_lit (y m : Int) (h : ([2, 4, 6, 10, 13].any fun x => x == m) = true) : mlI y m = 29 := by unfold mlI; rw [if_pos h]
theorem ml_thirty (y m : Int) (h : ([2, 4, 6, 10, 13].any fun x => x == m) = false) (h1 : (m == 12) = false) (h2 : (m == 8) = false) (h3 : (m == 9) = false) : mlI y m = 30 := by
  unfold mlI; simp only [h, h1, h2, h3, Bool.false_eq_true, if_false, false_and]
theorem ml12t (y : Int) (h : leapB y = true) : mlI y 12 = 30 := by unfold mlI; rw [h]; simp
theorem ml12f (y : Int) (h : leapB y = false) : mlI y 12 = 29 := by unfold mlI; rw [h]; simp
theorem sz (y : Int) : ∃ k : Int, nyI (y + 1) - nyI y = k ∧ (k = 353 ∨ k = 354 ∨ k = 355 ∨ k = 383 ∨ k = 384 ∨ k = 385) := by
  refine ⟨_, rfl, ?_⟩
  have := len_ny y
  cases h : leapB y
  · have := this.1 h; omega
  · have := this.2 h; omega
theorem row8t (y : Int) (hy : 0 ≤ y) (h : ([355, 385].any fun x => x == nyI (y + 1) - nyI y) = true) : mlI y 8 = 30 := by
  obtain ⟨k, e, hk⟩ := sz y
  unfold mlI; rw [yd_ny y hy]; rw [e] at h ⊢
  rcases hk with q | q | q | q | q | q <;> subst q <;> first | (exfalso; revert h; decide) | rfl
theorem row8f (y : Int) (hy : 0 ≤ y) (h : ([355, 385].any fun x => x == nyI (y + 1) - nyI y) = false) : mlI y 8 = 29 := by
  obtain ⟨k, e, hk⟩ := sz y
  unfold mlI; rw [yd_ny y hy]; rw [e] at h ⊢
  rcases hk with q | q | q | q | q | q <;> subst q <;> first | (exfalso; revert h; decide) | rfl
theorem row9t (y : Int) (hy : 0 ≤ y) (h : ([353, 383].any fun x => x == nyI (y + 1) - nyI y) = true) : mlI y 9 = 29 := by
  obtain ⟨k, e, hk⟩ := sz y
  unfold mlI; rw [yd_ny y hy]; rw [e] at h ⊢
  rcases hk with q | q | q | q | q | q <;> subst q <;> first | (exfalso; revert h; decide) | rfl
theorem row9f (y : Int) (hy : 0 ≤ y) (h : ([353, 383].any fun x => x == nyI (y + 1) - nyI y) = false) : mlI y 9 = 30 := by
  obtain ⟨k, e, hk⟩ := sz y
  unfold mlI; rw [yd_ny y hy]; rw [e] at h ⊢
  rcases hk with q | q | q | q | q | q <;> subst q <;> first | (exfalso; revert h; decide) | rfl
theorem ml_range (y m : Int) : mlI y m = 29 ∨ mlI y m = 30 := by
  unfold mlI; (repeat' split) <;> first | exact .inl rfl | exact .inr rfl
/-- the whole year -/
theorem ml_sum (y : Int) (hy : 0 ≤ y) : mlI y 8 + mlI y 9 + 266 + (if leapB y = true then 59 else 29) = nyI (y + 1) - nyI y := by
  obtain ⟨k, e, hk⟩ := sz y
  have hl := len_ny y
  have a8 : mlI y 8 = if ([355, 385].any fun x => x == k) = true then 30 else 29 := by
    rw [← e]
    cases h : ([355, 385].any fun x => x == nyI (y + 1) - nyI y)
    · rw [row8f y hy h]; rfl
    · rw [row8t y hy h]; rfl
  have a9 : mlI y 9 = if ([353, 383].any fun x => x == k) = true then 29 else 30 := by
    rw [← e]
    cases h : ([353, 383].any fun x => x == nyI (y + 1) - nyI y)
    · rw [row9f y hy h]; rfl
    · rw [row9t y hy h]; rfl
  rw [a8, a9, e]; rw [e] at hl
  cases hb : leapB y
  · have := hl.1 hb
    rcases this with q | q | q <;> subst q <;> decide
  · have := hl.2 hb
    rcases this with q | q | q <;> subst q <;> decide
theorem tjF_add (y init lo : Int) (n : Nat) : tjF y init lo n = init + tjF y 0 lo n := by
  unfold tjF
  suffices H : ∀ (l : List Int) (a : Int), List.foldl (fun a' k' => a' + mlI y k') a l = a + List.foldl (fun a' k' => a' + mlI y k') 0 l from H _ _
  intro l
  induction l with
  | nil => intro a; simp
  | cons x r ih => intro a; rw [List.foldl_cons, ih, List.foldl_cons, ih (0 + mlI y x)]; omega
/-- the days of the year ahead of the month -/
def off (y m : Int) : Int := if m < 7 then tjF y 0 7 (ymI y + 1 - 7).toNat + tjF y 0 1 (m - 1).toNat else tjF y 0 7 (m - 7).toNat
theorem tjF_nonneg (y lo : Int) (n : Nat) : 0 ≤ tjF y 0 lo n := by
  unfold tjF
  suffices H : ∀ (l : List Int) (a : Int), 0 ≤ a → 0 ≤ List.foldl (fun a' k' => a' + mlI y k') a l from H _ _ (by decide)
  intro l
  induction l with
  | nil => intro a h; exact h
  | cons x r ih => intro a h; rw [List.foldl_cons]; refine ih _ ?_; have := ml_range y x; omega
theorem off_nonneg (y m : Int) : 0 ≤ off y m := by
  unfold off
  have h1 := tjF_nonneg y 7 (ymI y + 1 - 7).toNat
  have h2 := tjF_nonneg y 1 (m - 1).toNat
  have h3 := tjF_nonneg y 7 (m - 7).toNat
  split <;> omega
theorem tj_off (y m d : Int) (h : 0 ≤ y) (hd : 0 < d) : tjI y m d = nyI y + off y m + d - 1 := by
  have h1 := ny_pos y h
  have h2 := off_nonneg y m
  have e : tjI y m d = midI (nyI y + off y m + d - 1) := by
    unfold tjI
    congr 1
    have := d12_ny y
    unfold off
    split
    · rw [tjF_add y _ 1, tjF_add y _ 7]; omega
    · rw [tjF_add]; omega
  rw [e]; unfold midI; rw [if_pos (by omega)]
end PlainB
end Mine
namespace Mine
section PlainC
set_option maxHeartbeats 8000000
theorem ml_pos (y m : Int) : 0 < mlI y m := by have := ml_range y m; omega
theorem off7 (y : Int) : off y 7 = 0 := by
  unfold off; rw [if_neg (by decide)]; show tjF y 0 7 0 = _; simp [tjF, rangeKs, List.range, List.range.loop]
theorem off8 (y : Int) : off y 8 = mlI y 7 := by
  unfold off; rw [if_neg (by decide)]; show tjF y 0 7 1 = _; simp [tjF, rangeKs, List.range, List.range.loop]
theorem off9 (y : Int) : off y 9 = mlI y 7 + mlI y 8 := by
  unfold off; rw [if_neg (by decide)]; show tjF y 0 7 2 = _; simp [tjF, rangeKs, List.range, List.range.loop]
theorem off10 (y : Int) : off y 10 = mlI y 7 + mlI y 8 + mlI y 9 := by
  unfold off; rw [if_neg (by decide)]; show tjF y 0 7 3 = _; simp [tjF, rangeKs, List.range, List.range.loop]
theorem off11 (y : Int) : off y 11 = mlI y 7 + mlI y 8 + mlI y 9 + mlI y 10 := by
  unfold off; rw [if_neg (by decide)]; show tjF y 0 7 4 = _; simp [tjF, rangeKs, List.range, List.range.loop]
theorem off12 (y : Int) : off y 12 = mlI y 7 + mlI y 8 + mlI y 9 + mlI y 10 + mlI y 11 := by
  unfold off; rw [if_neg (by decide)]; show tjF y 0 7 5 = _; simp [tjF, rangeKs, List.range, List.range.loop]
theorem off13 (y : Int) : off y 13 = mlI y 7 + mlI y 8 + mlI y 9 + mlI y 10 + mlI y 11 + mlI y 12 := by
  unfold off; rw [if_neg (by decide)]; show tjF y 0 7 6 = _; simp [tjF, rangeKs, List.range, List.range.loop]
theorem off1t (y : Int) (h : leapB y = true) : off y 1 = mlI y 7 + mlI y 8 + mlI y 9 + mlI y 10 + mlI y 11 + mlI y 12 + mlI y 13 := by
  unfold off; rw [if_pos (by decide), show ymI y = 13 by unfold ymI; rw [h]; rfl]; show tjF y 0 7 7 + tjF y 0 1 0 = _; simp [tjF, rangeKs, List.range, List.range.loop]
theorem off2t (y : Int) (h : leapB y = true) : off y 2 = mlI y 7 + mlI y 8 + mlI y 9 + mlI y 10 + mlI y 11 + mlI y 12 + mlI y 13 + mlI y 1 := by
  unfold off; rw [if_pos (by decide), show ymI y = 13 by unfold ymI; rw [h]; rfl]; show tjF y 0 7 7 + tjF y 0 1 1 = _; simp [tjF, rangeKs, List.range, List.range.loop] <;> omega
theorem off3t (y : Int) (h : leapB y = true) : off y 3 = mlI y 7 + mlI y 8 + mlI y 9 + mlI y 10 + mlI y 11 + mlI y 12 + mlI y 13 + mlI y 1 + mlI y 2 := by
  unfold off; rw [if_pos (by decide), show ymI y = 13 by unfold ymI; rw [h]; rfl]; show tjF y 0 7 7 + tjF y 0 1 2 = _; simp [tjF, rangeKs, List.range, List.range.loop] <;> omega
theorem off4t (y : Int) (h : leapB y = true) : off y 4 = mlI y 7 + mlI y 8 + mlI y 9 + mlI y 10 + mlI y 11 + mlI y 12 + mlI y 13 + mlI y 1 + mlI y 2 + mlI y 3 := by
  unfold off; rw [if_pos (by decide), show ymI y = 13 by unfold ymI; rw [h]; rfl]; show tjF y 0 7 7 + tjF y 0 1 3 = _; simp [tjF, rangeKs, List.range, List.range.loop] <;> omega
theorem off5t (y : Int) (h : leapB y = true) : off y 5 = mlI y 7 + mlI y 8 + mlI y 9 + mlI y 10 + mlI y 11 + mlI y 12 + mlI y 13 + mlI y 1 + mlI y 2 + mlI y 3 + mlI y 4 := by
  unfold off; rw [if_pos (by decide), show ymI y = 13 by unfold ymI; rw [h]; rfl]; show tjF y 0 7 7 + tjF y 0 1 4 = _; simp [tjF, rangeKs, List.range, List.range.loop] <;> omega
theorem off6t (y : Int) (h : leapB y = true) : off y 6 = mlI y 7 + mlI y 8 + mlI y 9 + mlI y 10 + mlI y 11 + mlI y 12 + mlI y 13 + mlI y 1 + mlI y 2 + mlI y 3 + mlI y 4 + mlI y 5 := by
  unfold off; rw [if_pos (by decide), show ymI y = 13 by unfold ymI; rw [h]; rfl]; show tjF y 0 7 7 + tjF y 0 1 5 = _; simp [tjF, rangeKs, List.range, List.range.loop] <;> omega
theorem nyst (y : Int) (hy : 0 ≤ y) (h : leapB y = true) : nyI (y + 1) = nyI y + (mlI y 7 + mlI y 8 + mlI y 9 + mlI y 10 + mlI y 11 + mlI y 12 + mlI y 13 + mlI y 1 + mlI y 2 + mlI y 3 + mlI y 4 + mlI y 5 + mlI y 6) := by
  have := ml_sum y hy
  have e7 : mlI y 7 = 30 := ml_thirty y 7 rfl rfl rfl rfl
  have e10 : mlI y 10 = 29 := ml_lit y 10 rfl
  have e11 : mlI y 11 = 30 := ml_thirty y 11 rfl rfl rfl rfl
  have e12 := ml12t y h
  have e13 : mlI y 13 = 29 := ml_lit y 13 rfl
  have e1 : mlI y 1 = 30 := ml_thirty y 1 rfl rfl rfl rfl
  have e2 : mlI y 2 = 29 := ml_lit y 2 rfl
  have e3 : mlI y 3 = 30 := ml_thirty y 3 rfl rfl rfl rfl
  have e4 : mlI y 4 = 29 := ml_lit y 4 rfl
  have e5 : mlI y 5 = 30 := ml_thirty y 5 rfl rfl rfl rfl
  have e6 : mlI y 6 = 29 := ml_lit y 6 rfl
  rw [h] at this; simp at this; omega
theorem off1f (y : Int) (h : leapB y = false) : off y 1 = mlI y 7 + mlI y 8 + mlI y 9 + mlI y 10 + mlI y 11 + mlI y 12 := by
  unfold off; rw [if_pos (by decide), show ymI y = 12 by unfold ymI; rw [h]; rfl]; show tjF y 0 7 6 + tjF y 0 1 0 = _; simp [tjF, rangeKs, List.range, List.range.loop]
theorem off2f (y : Int) (h : leapB y = false) : off y 2 = mlI y 7 + mlI y 8 + mlI y 9 + mlI y 10 + mlI y 11 + mlI y 12 + mlI y 1 := by
  unfold off; rw [if_pos (by decide), show ymI y = 12 by unfold ymI; rw [h]; rfl]; show tjF y 0 7 6 + tjF y 0 1 1 = _; simp [tjF, rangeKs, List.range, List.range.loop] <;> omega
theorem off3f (y : Int) (h : leapB y = false) : off y 3 = mlI y 7 + mlI y 8 + mlI y 9 + mlI y 10 + mlI y 11 + mlI y 12 + mlI y 1 + mlI y 2 := by
  unfold off; rw [if_pos (by decide), show ymI y = 12 by unfold ymI; rw [h]; rfl]; show tjF y 0 7 6 + tjF y 0 1 2 = _; simp [tjF, rangeKs, List.range, List.range.loop] <;> omega
theorem off4f (y : Int) (h : leapB y = false) : off y 4 = mlI y 7 + mlI y 8 + mlI y 9 + mlI y 10 + mlI y 11 + mlI y 12 + mlI y 1 + mlI y 2 + mlI y 3 := by
  unfold off; rw [if_pos (by decide), show ymI y = 12 by unfold ymI; rw [h]; rfl]; show tjF y 0 7 6 + tjF y 0 1 3 = _; simp [tjF, rangeKs, List.range, List.range.loop] <;> omega
theorem off5f (y : Int) (h : leapB y = false) : off y 5 = mlI y 7 + mlI y 8 + mlI y 9 + mlI y 10 + mlI y 11 + mlI y 12 + mlI y 1 + mlI y 2 + mlI y 3 + mlI y 4 := by
  unfold off; rw [if_pos (by decide), show ymI y = 12 by unfold ymI; rw [h]; rfl]; show tjF y 0 7 6 + tjF y 0 1 4 = _; simp [tjF, rangeKs, List.range, List.range.loop] <;> omega
theorem off6f (y : Int) (h : leapB y = false) : off y 6 = mlI y 7 + mlI y 8 + mlI y 9 + mlI y 10 + mlI y 11 + mlI y 12 + mlI y 1 + mlI y 2 + mlI y 3 + mlI y 4 + mlI y 5 := by
  unfold off; rw [if_pos (by decide), show ymI y = 12 by unfold ymI; rw [h]; rfl]; show tjF y 0 7 6 + tjF y 0 1 5 = _; simp [tjF, rangeKs, List.range, List.range.loop] <;> omega
theorem nysf (y : Int) (hy : 0 ≤ y) (h : leapB y = false) : nyI (y + 1) = nyI y + (mlI y 7 + mlI y 8 + mlI y 9 + mlI y 10 + mlI y 11 + mlI y 12 + mlI y 1 + mlI y 2 + mlI y 3 + mlI y 4 + mlI y 5 + mlI y 6) := by
  have := ml_sum y hy
  have e7 : mlI y 7 = 30 := ml_thirty y 7 rfl rfl rfl rfl
  have e10 : mlI y 10 = 29 := ml_lit y 10 rfl
  have e11 : mlI y 11 = 30 := ml_thirty y 11 rfl rfl rfl rfl
  have e12 := ml12f y h
  have e13 : mlI y 13 = 29 := ml_lit y 13 rfl
  have e1 : mlI y 1 = 30 := ml_thirty y 1 rfl rfl rfl rfl
  have e2 : mlI y 2 = 29 := ml_lit y 2 rfl
  have e3 : mlI y 3 = 30 := ml_thirty y 3 rfl rfl rfl rfl
  have e4 : mlI y 4 = 29 := ml_lit y 4 rfl
  have e5 : mlI y 5 = 30 := ml_thirty y 5 rfl rfl rfl rfl
  have e6 : mlI y 6 = 29 := ml_lit y 6 rfl
  rw [h] at this; simp at this; omega
theorem szin (y : Int) : ([353, 354, 355, 383, 384, 385].any fun x => x == nyI (y + 1) - nyI y) = true := by
  obtain ⟨k, e, hk⟩ := sz y
  rw [e]
  rcases hk with q | q | q | q | q | q <;> subst q <;> rfl
end PlainC
end Mine
namespace Mine
section
local macro_rules | `(tactic| walk_at "none of mine") => `(tactic| fail "none")
variable (w : World) (loose : List Str) (mean : ExcName → Option Value) (mg mb : Str → Option Value) (news : List (Addr × Obj))
-- abbrev Cl (w : World) (loose : List Str) (mean : ExcName → Option Value) (mg mb : Str → Option Value) := Claim PySem.Challenge.rw_ja0019_02.row.prog w (hd02.heap_39 w.params) hd02.view_39 loose mean mg mb
-- theorem ite_dpos {c : Prop} [Decidable c] {a b : Prop} (hc : c) (h : a) : if decide c = true then a else b := by rw [if_pos (decide_eq_true hc)]; exact h
-- theorem ite_dneg {c : Prop} [Decidable c] {a b : Prop} (hc : ¬ c) (h : b) : if decide c = true then a else b := by rw [if_neg (by rw [decide_eq_true_eq]; exact hc)]; exact h
local macro_rules | `(tactic| walk_at "ite") => `(tactic| (k_here; k_openite; first
  | (with_reducible refine ite_pos (by with_reducible assumption) ?_)
  | (with_reducible refine ite_neg (by with_reducible assumption) ?_)
  | (with_reducible refine ite_isFalse (by with_reducible assumption) ?_)
  | (with_reducible refine ite_dpos (by with_reducible assumption) ?_)
  | (with_reducible refine ite_dneg (by with_reducible assumption) ?_)
  | (with_reducible refine split_dec ?_ ?_ <;> intro _) | (with_reducible refine split_bool ?_ ?_ <;> intro _)))
/-- an int comes, of which P is known; the frame and the ledger stand -/
def CutI (P : Int → Prop) (h₀ : Heap) (L : Addr) (m : Str → Option Value) (news : List (Addr × Obj)) (s : Shared) (v : Value) (s' : Shared) : Prop :=
  ∃ (z : Int) (t : Tok) (h' : Heap) (tk' : Nat), P z ∧ v = .int z t ∧ s' = { s with heap := h', toks := tk' } ∧ Fr h₀ L h' m ∧ News h₀ L h' news
theorem cutI (P : Int → Prop) {M : Model} {A : Around} {E Q : Value → Shared → Prop} {s : Shared} {h₀ : Heap} {L : Addr} {m : Str → Option Value} {news : List (Addr × Obj)} {cm : Sem Value}
    (_F : Fr h₀ L s.heap m) (_N : News h₀ L s.heap news) (h : wpAny M A cm (fun v s' => CutI P h₀ L m news s v s') E s)
    (k : ∀ (z : Int) (t : Tok) (h' : Heap) (tk' : Nat), P z → Fr h₀ L h' m → News h₀ L h' news → Q (.int z t) { s with heap := h', toks := tk' }) : wpAny M A cm Q E s := by
  refine wpAny_mono h (fun v s' hq => ?_) fun _ _ e => e
  obtain ⟨z, t, h', tk', hP, hv, hs, F, N⟩ := hq
  subst hv; subst hs; exact k z t h' tk' hP F N
theorem CutI.intro {P : Int → Prop} {h₀ h' : Heap} {L : Addr} {m : Str → Option Value} {news : List (Addr × Obj)} {s : Shared} {z : Int} {t : Tok} {tk' : Nat}
    (hP : P z) (F : Fr h₀ L h' m) (N : News h₀ L h' news) : CutI P h₀ L m news s (.int z t) { s with heap := h', toks := tk' } := ⟨z, t, h', tk', hP, rfl, rfl, F, N⟩
theorem gen_store2 {M : Model} {A : Around} {E : Value → Shared → Prop} {s : Shared} {env : Env} {n : Str} {e : Int} {t : Tok} {Q : Unit → Shared → Prop} (ht : leapB e = true → wpAny M A (storeName env n (.int e t)) Q E s) (hf : leapB e = false → wpAny M A (storeName env n (.int e t)) Q E s) : wpAny M A (storeName env n (.int e t)) Q E s := by
  cases h : leapB e
  · exact hf h
  · exact ht h
theorem ite_bne_eq {x y : Int} {a b : Prop} (h : x = y) (hb : b) : if (x != y) = true then a else b := by rw [if_neg (by rw [h, bne_self_eq_false]; decide)]; exact hb
theorem ite_bne_eqB {x y : Bool} {a b : Prop} (h : x = y) (hb : b) : if (x != y) = true then a else b := by rw [if_neg (by rw [h, bne_self_eq_false]; decide)]; exact hb
theorem ite_notT {x : Bool} {a b : Prop} (h : x = true) (hb : b) : if (!x) = true then a else b := by rw [h]; exact hb
theorem cutYm {y : Int} {ty : Tok} {M : Model} {A : Around} {E Q : Value → Shared → Prop} {s : Shared} {h₀ : Heap} {L : Addr} {m : Str → Option Value} {news : List (Addr × Obj)} {cm : Sem Value} (_hy : m (Str.ofString "year") = some (.int y ty))
    (F : Fr h₀ L s.heap m) (N : News h₀ L s.heap news) (h : wpAny M A cm (fun v s' => CutI (fun z => z = ymI y) h₀ L m news s v s') E s)
    (k : ∀ (t : Tok) (h' : Heap) (tk' : Nat), Fr h₀ L h' m → News h₀ L h' news → Q (.int (ymI y) t) { s with heap := h', toks := tk' }) : wpAny M A cm Q E s :=
  cutI _ F N h fun z t h' tk' hP F N => by subst hP; exact k t h' tk' F N
local macro_rules | `(tactic| walk_at "inplaceOp") => `(tactic| (k_here; (with_reducible show wpAny _ _ (inplaceOp _ (Value.ref _) (Value.ref _)) _ _ _); k_dflt (refine' my_iadd ?F ?N ?b ?e ?ne ?U ?d ?z ?y ?_; (case F => k_asm); (case N => k_asm); (case b => k_mem); (case U => k_upd); (case e => kl_lit); (case ne => kl_some); (case d => kl_no); (case z => kl_room); (case y => kl_room)); kl_rest))
local macro_rules | `(tactic| walk_at "call ref") => `(tactic| (k_here; (with_reducible show wpAny _ _ (PySem.call (Value.ref 21) _ _) _ _ _); k_dflt (refine' useI (c_mid _ _ _ _ _ _ _ _) ?k1 ?k2 ?k3 ?k4 ?k5 ?kK ?kd ?ku ?_; (case k1 => k_asm); (case k2 => k_asm); (case k3 => k_asm); (case k4 => k_asm); (case k5 => k_asm); (case kK => first | exact rfl | assumption); (case kd => ktr_room); (case ku => ktr_units); k_whole; intro t9 h9 tk9 F9 N9; (try dsimp only); (try k_fold))))
local macro_rules | `(tactic| walk_at "call ref") => `(tactic| (k_here; (with_reducible show wpAny _ _ (PySem.call (Value.ref 28) _ _) _ _ _); k_dflt (refine' useB (c_leap _ _ _ _ _ _ _ _) ?k1 ?k2 ?k3 ?k4 ?k5 ?kK ?kd ?ku ?_; (case k1 => k_asm); (case k2 => k_asm); (case k3 => k_asm); (case k4 => k_asm); (case k5 => k_asm); (case kK => first | exact rfl | assumption); (case kd => ktr_room); (case ku => ktr_units); k_whole; intro h9 tk9 F9 N9; (try dsimp only); (try k_fold))))
local macro_rules | `(tactic| walk_at "call ref") => `(tactic| (k_here; (with_reducible show wpAny _ _ (PySem.call (Value.ref 35) _ _) _ _ _); k_dflt (refine' useI (c_ym _ _ _ _ _ _ _ _) ?k1 ?k2 ?k3 ?k4 ?k5 ?kK ?kd ?ku ?_; (case k1 => k_asm); (case k2 => k_asm); (case k3 => k_asm); (case k4 => k_asm); (case k5 => k_asm); (case kK => first | exact rfl | assumption); (case kd => ktr_room); (case ku => ktr_units); k_whole; intro t9 h9 tk9 F9 N9; (try dsimp only); (try k_fold))))
local macro_rules | `(tactic| walk_at "call ref") => `(tactic| (k_here; (with_reducible show wpAny _ _ (PySem.call (Value.ref 42) _ _) _ _ _); k_dflt (refine' useI (c_d1 _ _ _ _ _ _ _ _) ?k1 ?k2 ?k3 ?k4 ?k5 ?kK ?kd ?ku ?_; (case k1 => k_asm); (case k2 => k_asm); (case k3 => k_asm); (case k4 => k_asm); (case k5 => k_asm); (case kK => first | exact rfl | assumption); (case kd => ktr_room); (case ku => ktr_units); k_whole; intro t9 h9 tk9 F9 N9; (try dsimp only); (try k_fold))))
local macro_rules | `(tactic| walk_at "call ref") => `(tactic| (k_here; (with_reducible show wpAny _ _ (PySem.call (Value.ref 49) _ _) _ _ _); k_dflt (refine' useI (c_d2 _ _ _ _ _ _ _ _) ?k1 ?k2 ?k3 ?k4 ?k5 ?kK ?kd ?ku ?_; (case k1 => k_asm); (case k2 => k_asm); (case k3 => k_asm); (case k4 => k_asm); (case k5 => k_asm); (case kK => first | exact rfl | assumption); (case kd => ktr_room); (case ku => ktr_units); k_whole; intro t9 h9 tk9 F9 N9; (try dsimp only); (try k_fold))))
local macro_rules | `(tactic| walk_at "call ref") => `(tactic| (k_here; (with_reducible show wpAny _ _ (PySem.call (Value.ref 91) _ _) _ _ _); k_dflt (refine' useB (c_long _ _ _ _ _ _ _ _) ?k1 ?k2 ?k3 ?k4 ?k5 ?kK ?kd ?ku ?_; (case k1 => k_asm); (case k2 => k_asm); (case k3 => k_asm); (case k4 => k_asm); (case k5 => k_asm); (case kK => first | exact rfl | assumption); (case kd => ktr_room); (case ku => ktr_units); k_whole; intro h9 tk9 F9 N9; (try dsimp only); (try k_fold))))
local macro_rules | `(tactic| walk_at "call ref") => `(tactic| (k_here; (with_reducible show wpAny _ _ (PySem.call (Value.ref 77) [Value.int _ _, Value.int 7 _, Value.int _ _] _) _ _ _); k_dflt (refine' useI (c_tj7 _ _ _ _ _ _ _ _ _ _ _) ?k1 ?k2 ?k3 ?k4 ?k5 ?kK ?kd ?ku ?_; (case k1 => k_asm); (case k2 => k_asm); (case k3 => k_asm); (case k4 => k_asm); (case k5 => k_asm); (case kK => first | exact rfl | assumption); (case kd => ktr_room); (case ku => ktr_units); k_whole; intro t9 h9 tk9 F9 N9; (try dsimp only); (try k_fold))))
local macro_rules | `(tactic| walk_at "call ref") => `(tactic| (k_here; (with_reducible show wpAny _ _ (PySem.call (Value.ref 56) _ _) _ _ _); k_dflt (refine' useI (c_yd _ _ _ _ _ _ _ _) ?k1 ?k2 ?k3 ?k4 ?k5 ?kK ?kd ?ku ?_; (case k1 => k_asm); (case k2 => k_asm); (case k3 => k_asm); (case k4 => k_asm); (case k5 => k_asm); (case kK => first | exact rfl | assumption); (case kd => ktr_room); (case ku => ktr_units); k_whole; intro t9 h9 tk9 F9 N9; (try dsimp only); (try k_fold))))
local macro_rules | `(tactic| walk_at "call ref") => `(tactic| (k_here; (with_reducible show wpAny _ _ (PySem.call (Value.ref 63) _ _) _ _ _); k_dflt (refine' useI (c_ml _ _ _ _ _ _ _ _ _ _ ?kp) ?k1 ?k2 ?k3 ?k4 ?k5 ?kK ?kd ?ku ?_; (case k1 => k_asm); (case k2 => k_asm); (case k3 => k_asm); (case k4 => k_asm); (case k5 => k_asm); (case kK => first | exact rfl | assumption); (case kp => first | with_reducible assumption | decide | omega); (case kd => ktr_room); (case ku => ktr_units); k_whole; intro t9 h9 tk9 F9 N9; (try dsimp only); (try k_fold))))
local macro_rules | `(tactic| walk_at "call ref") => `(tactic| (k_here; (with_reducible show wpAny _ _ (PySem.call (Value.ref 70) _ _) _ _ _); k_dflt (refine' useI (c_md _ _ _ _ _ _ _ _ _ _ ?kp) ?k1 ?k2 ?k3 ?k4 ?k5 ?kK ?kd ?ku ?_; (case k1 => k_asm); (case k2 => k_asm); (case k3 => k_asm); (case k4 => k_asm); (case k5 => k_asm); (case kK => first | exact rfl | assumption); (case kp => first | with_reducible assumption | decide | omega); (case kd => ktr_room); (case ku => ktr_units); k_whole; intro t9 h9 tk9 F9 N9; (try dsimp only); (try k_fold))))
local macro_rules | `(tactic| walk_at "call ref") => `(tactic| (k_here; (with_reducible show wpAny _ _ (PySem.call (Value.ref 77) _ _) _ _ _); k_dflt (refine' useI (c_tj _ _ _ _ _ _ _ _ _ _ _ _ ?kp ?kp2) ?k1 ?k2 ?k3 ?k4 ?k5 ?kK ?kd ?ku ?_; (case k1 => k_asm); (case k2 => k_asm); (case k3 => k_asm); (case k4 => k_asm); (case k5 => k_asm); (case kK => first | exact rfl | assumption); (case kp2 => first | with_reducible assumption | decide | omega); (case kp => first | with_reducible assumption | decide | omega); (case kd => ktr_room); (case ku => ktr_units); k_whole; intro t9 h9 tk9 F9 N9; (try dsimp only); (try k_fold))))
local macro_rules | `(tactic| walk_at "call ref") => `(tactic| (k_here; (with_reducible show wpAny _ _ (PySem.call (Value.ref 77) [Value.int _ _, Value.int 7 _, Value.int _ _] _) _ _ _); k_dflt (refine' useI (c_tj7 _ _ _ _ _ _ _ _ _ _ _) ?k1 ?k2 ?k3 ?k4 ?k5 ?kK ?kd ?ku ?_; (case k1 => k_asm); (case k2 => k_asm); (case k3 => k_asm); (case k4 => k_asm); (case k5 => k_asm); (case kK => first | exact rfl | assumption); (case kd => ktr_room); (case ku => ktr_units); k_whole; intro t9 h9 tk9 F9 N9; (try dsimp only); (try k_fold))))
local macro_rules | `(tactic| walk_at "call ref") => `(tactic| (k_here; (with_reducible show wpAny _ _ (PySem.call (Value.ref 96) _ _) _ _ _); k_dflt (refine' useI (c_ny _ _ _ _ _ _ _ _) ?k1 ?k2 ?k3 ?k4 ?k5 ?kK ?kd ?ku ?_; (case k1 => k_asm); (case k2 => k_asm); (case k3 => k_asm); (case k4 => k_asm); (case k5 => k_asm); (case kK => first | exact rfl | assumption); (case kd => ktr_room); (case ku => ktr_units); k_whole; intro t9 h9 tk9 F9 N9; (try dsimp only); (try k_fold))))
abbrev tup2 (a b : Value) : Obj := { cls := .type "tuple", data := .seq #[a, b] }
abbrev RetRow13 (r : Int → Int) (news : List (Addr × Obj)) (h₀ : Heap) (L : Addr) (m : Str → Option Value) (s : Shared) (Q : Value → Shared → Prop) : Prop :=
  ∀ (D : Addr) (n : Nat) (a7 a8 a9 a10 a11 a12 a13 a1 a2 a3 a4 a5 a6 : Addr) (t7 u7 t8 u8 t9 u9 t10 u10 t11 u11 t12 u12 t13 u13 t1 u1 t2 u2 t3 u3 t4 u4 t5 u5 t6 u6 : Tok) (h' : Heap) (tk' : Nat), Fr h₀ L h' m → News h₀ L h' ((D, W.listOf #[.ref a7, .ref a8, .ref a9, .ref a10, .ref a11, .ref a12, .ref a13, .ref a1, .ref a2, .ref a3, .ref a4, .ref a5, .ref a6] n) :: (a7, tup2 (.int 7 t7) (.int (r 7) u7)) :: (a8, tup2 (.int 8 t8) (.int (r 8) u8)) :: (a9, tup2 (.int 9 t9) (.int (r 9) u9)) :: (a10, tup2 (.int 10 t10) (.int (r 10) u10)) :: (a11, tup2 (.int 11 t11) (.int (r 11) u11)) :: (a12, tup2 (.int 12 t12) (.int (r 12) u12)) :: (a13, tup2 (.int 13 t13) (.int (r 13) u13)) :: (a1, tup2 (.int 1 t1) (.int (r 1) u1)) :: (a2, tup2 (.int 2 t2) (.int (r 2) u2)) :: (a3, tup2 (.int 3 t3) (.int (r 3) u3)) :: (a4, tup2 (.int 4 t4) (.int (r 4) u4)) :: (a5, tup2 (.int 5 t5) (.int (r 5) u5)) :: (a6, tup2 (.int 6 t6) (.int (r 6) u6)) :: news) → Q (.ref D) { s with heap := h', toks := tk' }
abbrev RetRow12 (r : Int → Int) (news : List (Addr × Obj)) (h₀ : Heap) (L : Addr) (m : Str → Option Value) (s : Shared) (Q : Value → Shared → Prop) : Prop :=
  ∀ (D : Addr) (n : Nat) (a7 a8 a9 a10 a11 a12 a1 a2 a3 a4 a5 a6 : Addr) (t7 u7 t8 u8 t9 u9 t10 u10 t11 u11 t12 u12 t1 u1 t2 u2 t3 u3 t4 u4 t5 u5 t6 u6 : Tok) (h' : Heap) (tk' : Nat), Fr h₀ L h' m → News h₀ L h' ((D, W.listOf #[.ref a7, .ref a8, .ref a9, .ref a10, .ref a11, .ref a12, .ref a1, .ref a2, .ref a3, .ref a4, .ref a5, .ref a6] n) :: (a7, tup2 (.int 7 t7) (.int (r 7) u7)) :: (a8, tup2 (.int 8 t8) (.int (r 8) u8)) :: (a9, tup2 (.int 9 t9) (.int (r 9) u9)) :: (a10, tup2 (.int 10 t10) (.int (r 10) u10)) :: (a11, tup2 (.int 11 t11) (.int (r 11) u11)) :: (a12, tup2 (.int 12 t12) (.int (r 12) u12)) :: (a1, tup2 (.int 1 t1) (.int (r 1) u1)) :: (a2, tup2 (.int 2 t2) (.int (r 2) u2)) :: (a3, tup2 (.int 3 t3) (.int (r 3) u3)) :: (a4, tup2 (.int 4 t4) (.int (r 4) u4)) :: (a5, tup2 (.int 5 t5) (.int (r 5) u5)) :: (a6, tup2 (.int 6 t6) (.int (r 6) u6)) :: news) → Q (.ref D) { s with heap := h', toks := tk' }

theorem newsTail {h₀ h : Heap} {L : Addr} {x : Addr × Obj} {l : List (Addr × Obj)} (N : News h₀ L h (x :: l)) : News h₀ L h l := fun p hp => N p (List.mem_cons_of_mem _ hp)
theorem cutM {y : Int} {b : Bool} (_hl : longB y = b) (i : Int) {M : Model} {A : Around} {E Q : Value → Shared → Prop} {s : Shared} {h₀ : Heap} {L : Addr} {m : Str → Option Value} {news : List (Addr × Obj)} {cm : Sem Value}
    (F : Fr h₀ L s.heap m) (N : News h₀ L s.heap news) (h : wpAny M A cm (fun v s' => CutI (fun z => z = mlI y i) h₀ L m news s v s') E s)
    (k : ∀ (t : Tok) (h' : Heap) (tk' : Nat), (∃ z, z = mlI y i) → Fr h₀ L h' m → News h₀ L h' news → Q (.int (mlI y i) t) { s with heap := h', toks := tk' }) : wpAny M A cm Q E s :=
  cutI _ F N h fun z t h' tk' hP F N => hP ▸ k t h' tk' ⟨z, hP⟩ F N
local macro_rules | `(tactic| walk_at "eval IfExp") => `(tactic| (k_here; (fail_if_success (with_reducible show wpAny _ _ _ (fun v s' => CutI _ _ _ _ _ _ v s') _ _)); (fail_if_success (fail_if_success (with_reducible show wpAny _ _ (eval (Expr.IfExp (Expr.Compare _ [CmpOp.In] _ _) _ _ _) _) _ _ _))); (rename Fr _ _ _ _ => cF'); (rename News _ _ _ _ => cN'); (first | ((fail_if_success (rename ∃ z, z = mlI _ 8 => q)); (refine cutM (by assumption) 8 cF' cN' ?_ ?_)) | (refine cutM (by assumption) 9 cF' cN' ?_ ?_)); rotate_left; (intro t' h' tk' hz' F' N'; (try dsimp only); (try k_fold)); rotate_left))
local macro_rules | `(tactic| walk_at "CutI") => `(tactic| (k_dflt (refine CutI.intro ?_ (by k_asm) (by first | assumption | exact newsTail (by assumption)); first | exact (row8t _ (by assumption) (by with_reducible assumption)).symm | exact (row8f _ (by assumption) (by with_reducible assumption)).symm | exact (row9t _ (by assumption) (by with_reducible assumption)).symm | exact (row9f _ (by assumption) (by with_reducible assumption)).symm)))
theorem c_row13 (y : Int) (t : Tok) (hy : 0 ≤ y) (hl : longB y = true) : Cl w loose mean mg mb 5 103 [.int y t] news (RetRow13 (mlI y)) := by
  w_on
  unfold Cl Claim
  k_fill
  intros; rename_i hret
  refine wpAny_call ?_
  k_dflt cell_enter
  repeat' (first | (k_unfold; (try dsimp only)) | (walk1; (try dsimp only)) | fail "no step")
  all_goals (
    have hll : leapB y = true := (longB_eq y).symm.trans hl
    have e7 : mlI y 7 = 30 := ml_thirty y 7 rfl rfl rfl rfl
    have e10 : mlI y 10 = 29 := ml_lit y 10 rfl
    have e11 : mlI y 11 = 30 := ml_thirty y 11 rfl rfl rfl rfl
    have e12 : mlI y 12 = 30 := ml12t y hll
    have e13 : mlI y 13 = 29 := ml_lit y 13 rfl
    have e1 : mlI y 1 = 30 := ml_thirty y 1 rfl rfl rfl rfl
    have e2 : mlI y 2 = 29 := ml_lit y 2 rfl
    have e3 : mlI y 3 = 30 := ml_thirty y 3 rfl rfl rfl rfl
    have e4 : mlI y 4 = 29 := ml_lit y 4 rfl
    have e5 : mlI y 5 = 30 := ml_thirty y 5 rfl rfl rfl rfl
    have e6 : mlI y 6 = 29 := ml_lit y 6 rfl
    simp only [RetRow13, e1, e2, e3, e4, e5, e6, e7, e10, e11, e12, e13] at hret
    refine' hret _ _ _ _ _ _ _ _ _ _ _ _ _ _ _ _ _ _ _ _ _ _ _ _ _ _ _ _ _ _ _ _ _ _ _ _ _ _ _ _ _ _ _ ?hF ?hN
    (case hF => k_asm)
    (case hN =>
      refine' cb_drop ?cbN ?cbS
      (case cbN => k_asm)
      (case cbS =>
        refine' List.forall_mem_cons.mpr ⟨(by k_mem), ?_⟩; refine' List.forall_mem_cons.mpr ⟨(by k_mem), ?_⟩; refine' List.forall_mem_cons.mpr ⟨(by k_mem), ?_⟩; refine' List.forall_mem_cons.mpr ⟨(by k_mem), ?_⟩; refine' List.forall_mem_cons.mpr ⟨(by k_mem), ?_⟩; refine' List.forall_mem_cons.mpr ⟨(by k_mem), ?_⟩; refine' List.forall_mem_cons.mpr ⟨(by k_mem), ?_⟩; refine' List.forall_mem_cons.mpr ⟨(by k_mem), ?_⟩; refine' List.forall_mem_cons.mpr ⟨(by k_mem), ?_⟩; refine' List.forall_mem_cons.mpr ⟨(by k_mem), ?_⟩; refine' List.forall_mem_cons.mpr ⟨(by k_mem), ?_⟩; refine' List.forall_mem_cons.mpr ⟨(by k_mem), ?_⟩; refine' List.forall_mem_cons.mpr ⟨(by k_mem), ?_⟩; refine' List.forall_mem_cons.mpr ⟨(by k_mem), ?_⟩;
        (intro p hp; repeat (first | with_reducible assumption | refine List.mem_cons_of_mem _ ?_)))))
theorem c_row12 (y : Int) (t : Tok) (hy : 0 ≤ y) (hl : longB y = false) : Cl w loose mean mg mb 5 103 [.int y t] news (RetRow12 (mlI y)) := by
  w_on
  unfold Cl Claim
  k_fill
  intros; rename_i hret
  refine wpAny_call ?_
  k_dflt cell_enter
  repeat' (first | (k_unfold; (try dsimp only)) | (walk1; (try dsimp only)) | fail "no step")
  all_goals (
    have hll : leapB y = false := (longB_eq y).symm.trans hl
    have e7 : mlI y 7 = 30 := ml_thirty y 7 rfl rfl rfl rfl
    have e10 : mlI y 10 = 29 := ml_lit y 10 rfl
    have e11 : mlI y 11 = 30 := ml_thirty y 11 rfl rfl rfl rfl
    have e12 : mlI y 12 = 29 := ml12f y hll
    have e13 : mlI y 13 = 29 := ml_lit y 13 rfl
    have e1 : mlI y 1 = 30 := ml_thirty y 1 rfl rfl rfl rfl
    have e2 : mlI y 2 = 29 := ml_lit y 2 rfl
    have e3 : mlI y 3 = 30 := ml_thirty y 3 rfl rfl rfl rfl
    have e4 : mlI y 4 = 29 := ml_lit y 4 rfl
    have e5 : mlI y 5 = 30 := ml_thirty y 5 rfl rfl rfl rfl
    have e6 : mlI y 6 = 29 := ml_lit y 6 rfl
    simp only [RetRow12, e1, e2, e3, e4, e5, e6, e7, e10, e11, e12, e13] at hret
    refine' hret _ _ _ _ _ _ _ _ _ _ _ _ _ _ _ _ _ _ _ _ _ _ _ _ _ _ _ _ _ _ _ _ _ _ _ _ _ _ _ _ ?hF ?hN
    (case hF => k_asm)
    (case hN =>
      refine' cb_drop ?cbN ?cbS
      (case cbN => k_asm)
      (case cbS =>
        refine' List.forall_mem_cons.mpr ⟨(by k_mem), ?_⟩; refine' List.forall_mem_cons.mpr ⟨(by k_mem), ?_⟩; refine' List.forall_mem_cons.mpr ⟨(by k_mem), ?_⟩; refine' List.forall_mem_cons.mpr ⟨(by k_mem), ?_⟩; refine' List.forall_mem_cons.mpr ⟨(by k_mem), ?_⟩; refine' List.forall_mem_cons.mpr ⟨(by k_mem), ?_⟩; refine' List.forall_mem_cons.mpr ⟨(by k_mem), ?_⟩; refine' List.forall_mem_cons.mpr ⟨(by k_mem), ?_⟩; refine' List.forall_mem_cons.mpr ⟨(by k_mem), ?_⟩; refine' List.forall_mem_cons.mpr ⟨(by k_mem), ?_⟩; refine' List.forall_mem_cons.mpr ⟨(by k_mem), ?_⟩; refine' List.forall_mem_cons.mpr ⟨(by k_mem), ?_⟩; refine' List.forall_mem_cons.mpr ⟨(by k_mem), ?_⟩;
        (intro p hp; repeat (first | with_reducible assumption | refine List.mem_cons_of_mem _ ?_)))))
end
end Mine
namespace Mine
section
local macro_rules | `(tactic| walk_at "none of mine") => `(tactic| fail "none")
local macro_rules | `(tactic| walk_at "none of mine") => `(tactic| fail "none")
local macro_rules | `(tactic| walk_at "none of mine") => `(tactic| fail "none")
local macro_rules | `(tactic| walk_at "none of mine") => `(tactic| fail "none")
local macro_rules | `(tactic| walk_at "none of mine") => `(tactic| fail "none")
local macro_rules | `(tactic| walk_at "none of mine") => `(tactic| fail "none")
local macro_rules | `(tactic| walk_at "none of mine") => `(tactic| fail "none")
local macro_rules | `(tactic| walk_at "none of mine") => `(tactic| fail "none")
local macro_rules | `(tactic| walk_at "none of mine") => `(tactic| fail "none")
local macro_rules | `(tactic| walk_at "none of mine") => `(tactic| fail "none")
local macro_rules | `(tactic| walk_at "none of mine") => `(tactic| fail "none")
local macro_rules | `(tactic| walk_at "none of mine") => `(tactic| fail "none")
local macro_rules | `(tactic| walk_at "none of mine") => `(tactic| fail "none")
local macro_rules | `(tactic| walk_at "none of mine") => `(tactic| fail "none")
local macro_rules | `(tactic| walk_at "none of mine") => `(tactic| fail "none")
local macro_rules | `(tactic| walk_at "none of mine") => `(tactic| fail "none")
local macro_rules | `(tactic| walk_at "none of mine") => `(tactic| fail "none")
local macro_rules | `(tactic| walk_at "none of mine") => `(tactic| fail "none")
variable (w : World) (loose : List Str) (mean : ExcName → Option Value) (mg mb : Str → Option Value) (news : List (Addr × Obj))
-- abbrev Cl (w : World) (loose : List Str) (mean : ExcName → Option Value) (mg mb : Str → Option Value) := Claim PySem.Challenge.rw_ja0019_02.row.prog w (hd02.heap_39 w.params) hd02.view_39 loose mean mg mb
-- theorem ite_dpos {c : Prop} [Decidable c] {a b : Prop} (hc : c) (h : a) : if decide c = true then a else b := by rw [if_pos (decide_eq_true hc)]; exact h
-- theorem ite_dneg {c : Prop} [Decidable c] {a b : Prop} (hc : ¬ c) (h : b) : if decide c = true then a else b := by rw [if_neg (by rw [decide_eq_true_eq]; exact hc)]; exact h
local macro_rules | `(tactic| walk_at "ite") => `(tactic| (k_here; k_openite; first
  | (with_reducible refine ite_pos (by with_reducible assumption) ?_)
  | (with_reducible refine ite_neg (by with_reducible assumption) ?_)
  | (with_reducible refine ite_isFalse (by with_reducible assumption) ?_)
  | (with_reducible refine ite_dpos (by with_reducible assumption) ?_)
  | (with_reducible refine ite_dneg (by with_reducible assumption) ?_)
  | (with_reducible refine split_dec ?_ ?_ <;> intro _) | (with_reducible refine split_bool ?_ ?_ <;> intro _)))

theorem c_refused (y m : Int) (t t2 : Tok) (hm : 13 < m) : ∀ (cn : Str) (cs : Scope) (a : Addr) (ccd : Value) (h₀ : Heap) (L : Addr) (lm : Str → Option Value) (s : Shared) (Q E : Value → Shared → Prop)
    (_hB : Below callerA h₀ [] h₀) (_hF : Fr h₀ L s.heap lm) (_hX : (hd02.heap_39 w.params).In h₀) (_hN : News h₀ L s.heap news) (_hT : Top hd02.view_39 loose mean mg mb h₀) (_hk : cs.kind = .function)
    (_hret : RetB true news h₀ L lm s Q), wpAny (model PySem.Challenge.rw_ja0019_02.row.prog w) (callerA.deeper (envOf cn cs L a ccd)) (call (.ref 110) [.int y t, .int m t2]) Q E s := by
  w_on
  k_fill
  intro cn cs a ccd h₀ L lm s Q E hB hF hX hN hT hk hret
  refine wpAny_call ?_
  k_dflt (refine' code_defS0 ?k1 ?k2 ?k3 ?k4 ?k5 ?kA ?k6 ?k7 ?k8 ?k9 ?kB ?_ ?cK ?c2 ?c3 ?c4 ?c5; (case kA => exact rfl); (case k2 => k_asm); (case k1 => k_asm); (case k3 => k_asm); (case k4 => k_asm); (case k5 => k_asm); (case k6 => k_is); (case k7 => k_is); (case k8 => k_room); (case k9 => exact BindsTo.of_eq rfl); (case kB => exact locs rfl); (case cK => assumption); (case c2 => exact rfl); (case c3 => exact rfl); (case c4 => exact rfl); (case c5 => decide); k_whole; intro g' L' h' FG' F' N' B' X' T' D'; (try dsimp only); (try k_lift B'); (try k_fold))
  repeat' (first | (k_unfold; (try dsimp only)) | (walk1; (try dsimp only)) | fail "no step")
  all_goals (first | (refine retB hret ?_ (by k_asm) (by k_asm) (by (intro p hp; repeat (first | with_reducible assumption | refine List.mem_cons_of_mem _ ?_))); rfl) | trace_state)
end
end Mine
namespace Mine
section Turns
variable {prog : Program} {w : World} {A : Around} {E : Value → Shared → Prop} {h₀ : Heap} {env : Env} {target : Expr} {body : List Stmt} {Q : Flow → Shared → Prop} {s : Shared}
theorem fr3 {m m' : Str → Option Value} {n1 n2 n3 : Str} (hm : ∀ x, x ≠ n1 → x ≠ n2 → x ≠ n3 → m' x = m x) : m' = fun x => if x = n1 then m' n1 else if x = n2 then m' n2 else if x = n3 then m' n3 else m x := by
  funext x
  by_cases h1 : x = n1
  · rw [if_pos h1, h1]
  · rw [if_neg h1]
    by_cases h2 : x = n2
    · rw [if_pos h2, h2]
    · rw [if_neg h2]
      by_cases h3 : x = n3
      · rw [if_pos h3, h3]
      · rw [if_neg h3, hm x h1 h2 h3]
theorem subl1 {p : Addr × Obj} {l : List (Addr × Obj)} : SubL [p] (p :: l) := ⟨List.Mem.head _, trivial⟩
/-- a loop over a list of the ledger, its body walked once: J tells of the items ahead and of three names -/
theorem turns3 (n1 n2 n3 : Str) {m : Str → Option Value} {newsW keep : List (Addr × Obj)} {I : Addr} {cls : String} (J : List Value → Option Value → Option Value → Option Value → Prop) (hk : SubL keep newsW) (hl : ∀ p ∈ newsW, p.1 < I)
    {l₀ : List Value} (h0 : J l₀ (m n1) (m n2) (m n3))
    (turn : ∀ (v : Value) (r : List Value) (v1 v2 v3 : Option Value) (R : (Str → Option Value) → List (Addr × Obj) → Prop), J (v :: r) v1 v2 v3 → (∀ m', (∀ x, x ≠ n1 → x ≠ n2 → x ≠ n3 → m' x = m x) → J r (m' n1) (m' n2) (m' n3) → R m' newsW) → ∀ (h : Heap) (tk : Nat) (o : Obj), o.cls = .type cls →
      Fr h₀ env.locals h (fun x => if x = n1 then v1 else if x = n2 then v2 else if x = n3 then v3 else m x) → News h₀ env.locals h ((I, o) :: newsW) →
      wpAny (model prog w) A (assign target env v) (fun _ s₂ => wpAny (model prog w) A (execs body env) (UnrPostW h₀ env.locals { s with heap := h, toks := tk } [(I, o)] (fun m' n' => SubL keep n' ∧ R m' n') Q) E s₂) E { s with heap := h, toks := tk })
    (done : ∀ (v1 v2 v3 : Option Value), J [] v1 v2 v3 → ∀ (h : Heap) (tk : Nat), Fr h₀ env.locals h (fun x => if x = n1 then v1 else if x = n2 then v2 else if x = n3 then v3 else m x) → News h₀ env.locals h newsW → Q .next { s with heap := h, toks := tk }) :
    ItemsRest prog w A E h₀ env target body Q s [(I, cls)] keep (l₀.map .val) m newsW := by
  have key : ∀ (l : List Value) (m' : Str → Option Value), (∀ x, x ≠ n1 → x ≠ n2 → x ≠ n3 → m' x = m x) → J l (m' n1) (m' n2) (m' n3) → ItemsRest prog w A E h₀ env target body Q s [(I, cls)] keep (l.map .val) m' newsW := by
    intro l
    induction l with
    | nil =>
      intro m' hm hJ
      refine ItemsRest.zero fun h tk F N => ?_
      rw [fr3 hm] at F
      exact done _ _ _ hJ h tk F N
    | cons v r ih =>
      intro m' hm hJ
      refine ItemsRest.val fun h tk F => AllObj.cons fun o ho => AllObj.nil fun N => ?_
      rw [fr3 hm] at F
      exact turn v r _ _ _ (fun m' n' => ItemsRest prog w A E h₀ env target body Q s [(I, cls)] keep (r.map .val) m' n') hJ (fun m₂ h2 hJ2 => ih m₂ h2 hJ2) h tk o ho F N
  exact key l₀ m (fun _ _ _ _ => rfl) h0
theorem turnEnd {L I : Addr} {o : Obj} {keep newsW : List (Addr × Obj)} {R : (Str → Option Value) → List (Addr × Obj) → Prop} {s₁ : Shared} {h' : Heap} {tk : Nat} {m m' : Str → Option Value} {n1 n2 n3 : Str} {J : Option Value → Option Value → Option Value → Prop}
    (hR : ∀ m', (∀ x, x ≠ n1 → x ≠ n2 → x ≠ n3 → m' x = m x) → J (m' n1) (m' n2) (m' n3) → R m' newsW) (hk : SubL keep newsW) (hl : ∀ p ∈ newsW, p.1 < I)
    (F : Fr h₀ L h' m') (N : News h₀ L h' ((I, o) :: newsW)) (hs : ∀ x, x ≠ n1 → x ≠ n2 → x ≠ n3 → m' x = m x) (hJ : J (m' n1) (m' n2) (m' n3)) :
    UnrEndW h₀ L s₁ [(I, o)] (fun m' n' => SubL keep n' ∧ R m' n') { s₁ with heap := h', toks := tk } :=
  ⟨h', tk, m', newsW, rfl, F, N, fun p hp q hq e => by
    rw [List.mem_singleton.1 hq] at e
    exact Nat.lt_irrefl _ (e ▸ hl p hp), hk, hR m' hs hJ⟩
end Turns
end Mine
namespace Mine
section RowsX
set_option maxHeartbeats 4000000
/-- what stands at the place c of the year's row -/
def RowIt (y mo c : Int) : Prop := 1 ≤ mo ∧ mo ≤ ymI y ∧ off y mo = c
/-- the list l tells the months from the day c of the year on -/
def RF (y : Int) (W : List (Addr × Obj)) : Int → List Value → Prop
  | c, [] => nyI (y + 1) = nyI y + c
  | c, v :: r => ∃ (a : Addr) (mo : Int) (t u : Tok), v = .ref a ∧ (a, tup2 (.int mo t) (.int (mlI y mo) u)) ∈ W ∧ RowIt y mo c ∧ RF y W (c + mlI y mo) r
theorem RF.cons {y mo c c' : Int} {W : List (Addr × Obj)} {a : Addr} {t u : Tok} {r : List Value} (hm : (a, tup2 (.int mo t) (.int (mlI y mo) u)) ∈ W) (h1 : 1 ≤ mo) (h2 : mo ≤ ymI y) (h3 : off y mo = c) (e : c' = c + mlI y mo) (h : RF y W c' r) : RF y W c (.ref a :: r) :=
  ⟨a, mo, t, u, rfl, hm, ⟨h1, h2, h3⟩, e ▸ h⟩
abbrev RetRowG (y : Int) (news : List (Addr × Obj)) (h₀ : Heap) (L : Addr) (m : Str → Option Value) (s : Shared) (Q : Value → Shared → Prop) : Prop :=
  ∀ (D : Addr) (n : Nat) (l : List Value) (nw : List (Addr × Obj)) (h' : Heap) (tk' : Nat), RF y ((D, W.listOf l.toArray n) :: nw) 0 l → Fr h₀ L h' m → News h₀ L h' ((D, W.listOf l.toArray n) :: nw) → (∀ p ∈ news, p ∈ nw) → Q (.ref D) { s with heap := h', toks := tk' }
section
variable {prog : Program} {w : World} {A : Around} {E : Value → Shared → Prop} {h₀ : Heap} {env : Env} {target : Expr} {body : List Stmt} {Q : Flow → Shared → Prop} {s : Shared}
/-- a loop over the year's row: the body once, for any month; S tells of the place and of the int that goes on -/
theorem turnsRow (n1 n2 n3 : Str) (S : Int → Int → Prop) {y c0 z0 : Int} {t0 : Tok} {m : Str → Option Value} {W0 : List (Addr × Obj)} {p0 : Addr × Obj} {I : Addr} {cls : String} {l₀ : List Value}
    (hRF : RF y (p0 :: W0) c0 l₀) (hz0 : m n1 = some (.int z0 t0)) (hS0 : S c0 z0) (hl : ∀ p ∈ p0 :: W0, p.1 < I)
    (turn : ∀ (W : List (Addr × Obj)) (_hW : ∀ p ∈ W0, p ∈ W) (_hl : ∀ p ∈ W, p.1 < I) (_hk : SubL [p0] W) (a : Addr) (mo c z : Int) (t u tz : Tok) (w2 w3 : Option Value) (R : (Str → Option Value) → List (Addr × Obj) → Prop), S c z → RowIt y mo c →
      (∀ m' z' tz', (∀ x, x ≠ n1 → x ≠ n2 → x ≠ n3 → m' x = m x) → m' n1 = some (.int z' tz') → S (c + mlI y mo) z' → R m' W) → ∀ (h : Heap) (tk : Nat) (o : Obj),
      Fr h₀ env.locals h (fun x => if x = n1 then some (.int z tz) else if x = n2 then w2 else if x = n3 then w3 else m x) → News h₀ env.locals h ((I, o) :: (a, tup2 (.int mo t) (.int (mlI y mo) u)) :: W) →
      wpAny (model prog w) A (assign target env (.ref a)) (fun _ s₂ => wpAny (model prog w) A (execs body env) (UnrPostW h₀ env.locals { s with heap := h, toks := tk } [(I, o)] (fun m' n' => SubL [p0] n' ∧ R m' n') Q) E s₂) E { s with heap := h, toks := tk })
    (done : ∀ (c z : Int) (tz : Tok) (w2 w3 : Option Value), S c z → nyI (y + 1) = nyI y + c → ∀ (h : Heap) (tk : Nat), Fr h₀ env.locals h (fun x => if x = n1 then some (.int z tz) else if x = n2 then w2 else if x = n3 then w3 else m x) → News h₀ env.locals h (p0 :: W0) → Q .next { s with heap := h, toks := tk }) :
    ItemsRest prog w A E h₀ env target body Q s [(I, cls)] [p0] (l₀.map .val) m (p0 :: W0) := by
  refine turns3 n1 n2 n3 (fun l v1 _ _ => ∃ c z t, v1 = some (.int z t) ∧ S c z ∧ RF y (p0 :: W0) c l) subl1 hl ⟨c0, z0, t0, hz0, hS0, hRF⟩ ?_ ?_
  · rintro v r v1 v2 v3 R ⟨c, z, tz, e, hS, a, mo, t, u, e2, hm, hI, hr⟩ hR h tk o ho F N
    subst e; subst e2
    refine turn (p0 :: W0) (fun p hp => List.mem_cons_of_mem _ hp) hl subl1 a mo c z t u tz v2 v3 R hS hI (fun m' z' tz' hm' hz' hS' => hR m' hm' ⟨_, z', tz', hz', hS', hr⟩) h tk o F (fun p hp => ?_)
    rcases List.mem_cons.1 hp with hp | hp
    · exact N p (hp ▸ List.Mem.head _)
    · rcases List.mem_cons.1 hp with hp | hp
      · exact N p (List.mem_cons_of_mem _ (hp ▸ hm))
      · exact N p (List.mem_cons_of_mem _ hp)
  · rintro v1 v2 v3 ⟨c, z, tz, e, hS, hr⟩ h tk F N
    subst e
    exact done c z tz v2 v3 hS hr h tk F N
theorem turnEndR {L I : Addr} {o : Obj} {keep W all : List (Addr × Obj)} {R : (Str → Option Value) → List (Addr × Obj) → Prop} {s₁ : Shared} {h' : Heap} {tk : Nat} {m m' : Str → Option Value} {n1 n2 n3 : Str} {S : Int → Int → Prop} {c z' : Int} {tz' : Tok}
    (hR : ∀ m' z' tz', (∀ x, x ≠ n1 → x ≠ n2 → x ≠ n3 → m' x = m x) → m' n1 = some (.int z' tz') → S c z' → R m' W) (hk : SubL keep W) (hl : ∀ p ∈ W, p.1 < I)
    (F : Fr h₀ L h' m') (N : News h₀ L h' all) (hI : (I, o) ∈ all) (hW : ∀ p ∈ W, p ∈ all) (hs : ∀ x, x ≠ n1 → x ≠ n2 → x ≠ n3 → m' x = m x) (hz : m' n1 = some (.int z' tz')) (hS : S c z') :
    UnrEndW h₀ L s₁ [(I, o)] (fun m' n' => SubL keep n' ∧ R m' n') { s₁ with heap := h', toks := tk } :=
  ⟨h', tk, m', W, rfl, F, fun p hp => by
    rcases List.mem_cons.1 hp with hp | hp
    · exact N p (hp ▸ hI)
    · exact N p (hW p hp), fun p hp q hq e => by
    rw [List.mem_singleton.1 hq] at e
    exact Nat.lt_irrefl _ (e ▸ hl p hp), hk, hR m' z' tz' hs hz hS⟩
end
end RowsX
section RowsJ
set_option maxHeartbeats 4000000
def SJ (y c z : Int) : Prop := z = nyI y + c
theorem RowIt.ge {y mo c : Int} (H : RowIt y mo c) : 0 < mo := by have := H.1; omega
theorem RowIt.le {y mo c : Int} (H : RowIt y mo c) : ¬ 13 < mo := by
  have := H.2.1; unfold ymI at this; split at this <;> omega
theorem SJ.first {y c z mo : Int} (hy : 0 ≤ y) (S : SJ y c z) (H : RowIt y mo c) : tjI y mo 1 = z := by
  rw [tj_off y mo 1 hy (by decide), H.2.2]; unfold SJ at S; omega
theorem SJ.last {y c z mo : Int} (hy : 0 ≤ y) (S : SJ y c z) (H : RowIt y mo c) : tjI y mo (mlI y mo) = z + mlI y mo - 1 := by
  rw [tj_off y mo _ hy (ml_pos y mo), H.2.2]; unfold SJ at S; omega
theorem SJ.next {y c z k : Int} (S : SJ y c z) : SJ y (c + k) (z + k) := by unfold SJ at *; omega
section
variable {prog : Program} {w : World} {A : Around} {E : Value → Shared → Prop} {h₀ : Heap} {env : Env} {target : Expr} {body : List Stmt} {Q : Flow → Shared → Prop} {s : Shared}
theorem turnsJ (n1 n2 n3 : Str) {y : Int} {t0 : Tok} {m : Str → Option Value} {W0 : List (Addr × Obj)} {p0 : Addr × Obj} {I : Addr} {cls : String} {l₀ : List Value}
    (hy : 0 ≤ y) (hRF : RF y (p0 :: W0) 0 l₀) (hz0 : m n1 = some (.int (nyI y) t0)) (hl : ∀ p ∈ p0 :: W0, p.1 < I)
    (turn : ∀ (W : List (Addr × Obj)) (_hl : ∀ p ∈ W, p.1 < I) (_hk : SubL [p0] W) (a : Addr) (mo c z : Int) (t u tz : Tok) (w2 w3 : Option Value) (R : (Str → Option Value) → List (Addr × Obj) → Prop), ¬ 13 < mo → 0 < mo → tjI y mo 1 = z → tjI y mo (mlI y mo) = z + mlI y mo - 1 → SJ y (c + mlI y mo) (z + mlI y mo) →
      (∀ m' z' tz', (∀ x, x ≠ n1 → x ≠ n2 → x ≠ n3 → m' x = m x) → m' n1 = some (.int z' tz') → SJ y (c + mlI y mo) z' → R m' W) → ∀ (h : Heap) (tk : Nat) (o : Obj),
      Fr h₀ env.locals h (fun x => if x = n1 then some (.int z tz) else if x = n2 then w2 else if x = n3 then w3 else m x) → News h₀ env.locals h ((I, o) :: (a, tup2 (.int mo t) (.int (mlI y mo) u)) :: W) →
      wpAny (model prog w) A (assign target env (.ref a)) (fun _ s₂ => wpAny (model prog w) A (execs body env) (UnrPostW h₀ env.locals { s with heap := h, toks := tk } [(I, o)] (fun m' n' => SubL [p0] n' ∧ R m' n') Q) E s₂) E { s with heap := h, toks := tk })
    (done : ∀ (tz : Tok) (w2 w3 : Option Value) (h : Heap) (tk : Nat), Fr h₀ env.locals h (fun x => if x = n1 then some (.int (nyI (y + 1)) tz) else if x = n2 then w2 else if x = n3 then w3 else m x) → News h₀ env.locals h (p0 :: W0) → Q .next { s with heap := h, toks := tk }) :
    ItemsRest prog w A E h₀ env target body Q s [(I, cls)] [p0] (l₀.map .val) m (p0 :: W0) := by
  refine turnsRow n1 n2 n3 (SJ y) hRF hz0 (by unfold SJ; omega) hl ?_ ?_
  · intro W _ hl' hk' a mo c z t u tz w2 w3 R hS hI hR h tk o F N
    exact turn W hl' hk' a mo c z t u tz w2 w3 R hI.le hI.ge (hS.first hy hI) (hS.last hy hI) hS.next hR h tk o F N
  · intro c z tz w2 w3 hS he h tk F N
    have e : z = nyI (y + 1) := by unfold SJ at hS; omega
    subst e
    exact done tz w2 w3 h tk F N
end
end RowsJ
section
variable (w : World) (loose : List Str) (mean : ExcName → Option Value) (mg mb : Str → Option Value) (news : List (Addr × Obj))
-- abbrev Cl (w : World) (loose : List Str) (mean : ExcName → Option Value) (mg mb : Str → Option Value) := Claim PySem.Challenge.rw_ja0019_02.row.prog w (hd02.heap_39 w.params) hd02.view_39 loose mean mg mb
-- theorem ite_dpos {c : Prop} [Decidable c] {a b : Prop} (hc : c) (h : a) : if decide c = true then a else b := by rw [if_pos (decide_eq_true hc)]; exact h
-- theorem ite_dneg {c : Prop} [Decidable c] {a b : Prop} (hc : ¬ c) (h : b) : if decide c = true then a else b := by rw [if_neg (by rw [decide_eq_true_eq]; exact hc)]; exact h
local macro_rules | `(tactic| walk_at "ite") => `(tactic| (k_here; k_openite; first
  | (with_reducible refine ite_pos (by with_reducible assumption) ?_)
  | (with_reducible refine ite_neg (by with_reducible assumption) ?_)
  | (with_reducible refine ite_isFalse (by with_reducible assumption) ?_)
  | (with_reducible refine ite_dpos (by with_reducible assumption) ?_)
  | (with_reducible refine ite_dneg (by with_reducible assumption) ?_)
  | (with_reducible refine split_dec ?_ ?_ <;> intro _) | (with_reducible refine split_bool ?_ ?_ <;> intro _)))
set_option maxHeartbeats 8000000

theorem c_rowG (y : Int) (t : Tok) (hy : 0 ≤ y) : Cl w loose mean mg mb 5 103 [.int y t] news (RetRowG y) := by
  cases hl : leapB y
  ·
    have C := c_row12 w loose mean mg mb news y t hy ((longB_eq y).trans hl)
    intro dp un gd cn cs ad ccd cl outer A₀ base h₀ L m s Q E B F X N T hk hd hu hret
    refine C dp un gd cn cs ad ccd cl outer A₀ base h₀ L m s Q E B F X N T hk hd hu ?_
    intro D n a7 a8 a9 a10 a11 a12 a1 a2 a3 a4 a5 a6 t7 u7 t8 u8 t9 u9 t10 u10 t11 u11 t12 u12 t1 u1 t2 u2 t3 u3 t4 u4 t5 u5 t6 u6 h' tk' F' N'
    have hym : ymI y = 12 := by unfold ymI; rw [hl]; rfl
    have o7 := off7 y
    have o8 := off8 y
    have o9 := off9 y
    have o10 := off10 y
    have o11 := off11 y
    have o12 := off12 y
    have o1 := off1f y hl
    have o2 := off2f y hl
    have o3 := off3f y hl
    have o4 := off4f y hl
    have o5 := off5f y hl
    have o6 := off6f y hl
    have oe := nysf y hy hl
    refine hret D n _ _ h' tk' (RF.cons (t := t7) (u := u7) (c' := off y 8) (by repeat (first | exact List.Mem.head _ | apply List.Mem.tail)) (by decide) (by rw [hym]; decide) o7 (by omega) (RF.cons (t := t8) (u := u8) (c' := off y 9) (by repeat (first | exact List.Mem.head _ | apply List.Mem.tail)) (by decide) (by rw [hym]; decide) rfl (by omega) (RF.cons (t := t9) (u := u9) (c' := off y 10) (by repeat (first | exact List.Mem.head _ | apply List.Mem.tail)) (by decide) (by rw [hym]; decide) rfl (by omega) (RF.cons (t := t10) (u := u10) (c' := off y 11) (by repeat (first | exact List.Mem.head _ | apply List.Mem.tail)) (by decide) (by rw [hym]; decide) rfl (by omega) (RF.cons (t := t11) (u := u11) (c' := off y 12) (by repeat (first | exact List.Mem.head _ | apply List.Mem.tail)) (by decide) (by rw [hym]; decide) rfl (by omega) (RF.cons (t := t12) (u := u12) (c' := off y 1) (by repeat (first | exact List.Mem.head _ | apply List.Mem.tail)) (by decide) (by rw [hym]; decide) rfl (by omega) (RF.cons (t := t1) (u := u1) (c' := off y 2) (by repeat (first | exact List.Mem.head _ | apply List.Mem.tail)) (by decide) (by rw [hym]; decide) rfl (by omega) (RF.cons (t := t2) (u := u2) (c' := off y 3) (by repeat (first | exact List.Mem.head _ | apply List.Mem.tail)) (by decide) (by rw [hym]; decide) rfl (by omega) (RF.cons (t := t3) (u := u3) (c' := off y 4) (by repeat (first | exact List.Mem.head _ | apply List.Mem.tail)) (by decide) (by rw [hym]; decide) rfl (by omega) (RF.cons (t := t4) (u := u4) (c' := off y 5) (by repeat (first | exact List.Mem.head _ | apply List.Mem.tail)) (by decide) (by rw [hym]; decide) rfl (by omega) (RF.cons (t := t5) (u := u5) (c' := off y 6) (by repeat (first | exact List.Mem.head _ | apply List.Mem.tail)) (by decide) (by rw [hym]; decide) rfl (by omega) (RF.cons (t := t6) (u := u6) (c' := off y 6 + mlI y 6) (by repeat (first | exact List.Mem.head _ | apply List.Mem.tail)) (by decide) (by rw [hym]; decide) rfl (by omega) (by show nyI (y + 1) = _; omega))))))))))))) F' N' (fun p hp => ?_)
    exact List.mem_cons_of_mem _ (List.mem_cons_of_mem _ (List.mem_cons_of_mem _ (List.mem_cons_of_mem _ (List.mem_cons_of_mem _ (List.mem_cons_of_mem _ (List.mem_cons_of_mem _ (List.mem_cons_of_mem _ (List.mem_cons_of_mem _ (List.mem_cons_of_mem _ (List.mem_cons_of_mem _ (List.mem_cons_of_mem _ (hp))))))))))))
  ·
    have C := c_row13 w loose mean mg mb news y t hy ((longB_eq y).trans hl)
    intro dp un gd cn cs ad ccd cl outer A₀ base h₀ L m s Q E B F X N T hk hd hu hret
    refine C dp un gd cn cs ad ccd cl outer A₀ base h₀ L m s Q E B F X N T hk hd hu ?_
    intro D n a7 a8 a9 a10 a11 a12 a13 a1 a2 a3 a4 a5 a6 t7 u7 t8 u8 t9 u9 t10 u10 t11 u11 t12 u12 t13 u13 t1 u1 t2 u2 t3 u3 t4 u4 t5 u5 t6 u6 h' tk' F' N'
    have hym : ymI y = 13 := by unfold ymI; rw [hl]; rfl
    have o7 := off7 y
    have o8 := off8 y
    have o9 := off9 y
    have o10 := off10 y
    have o11 := off11 y
    have o12 := off12 y
    have o13 := off13 y
    have o1 := off1t y hl
    have o2 := off2t y hl
    have o3 := off3t y hl
    have o4 := off4t y hl
    have o5 := off5t y hl
    have o6 := off6t y hl
    have oe := nyst y hy hl
    refine hret D n _ _ h' tk' (RF.cons (t := t7) (u := u7) (c' := off y 8) (by repeat (first | exact List.Mem.head _ | apply List.Mem.tail)) (by decide) (by rw [hym]; decide) o7 (by omega) (RF.cons (t := t8) (u := u8) (c' := off y 9) (by repeat (first | exact List.Mem.head _ | apply List.Mem.tail)) (by decide) (by rw [hym]; decide) rfl (by omega) (RF.cons (t := t9) (u := u9) (c' := off y 10) (by repeat (first | exact List.Mem.head _ | apply List.Mem.tail)) (by decide) (by rw [hym]; decide) rfl (by omega) (RF.cons (t := t10) (u := u10) (c' := off y 11) (by repeat (first | exact List.Mem.head _ | apply List.Mem.tail)) (by decide) (by rw [hym]; decide) rfl (by omega) (RF.cons (t := t11) (u := u11) (c' := off y 12) (by repeat (first | exact List.Mem.head _ | apply List.Mem.tail)) (by decide) (by rw [hym]; decide) rfl (by omega) (RF.cons (t := t12) (u := u12) (c' := off y 13) (by repeat (first | exact List.Mem.head _ | apply List.Mem.tail)) (by decide) (by rw [hym]; decide) rfl (by omega) (RF.cons (t := t13) (u := u13) (c' := off y 1) (by repeat (first | exact List.Mem.head _ | apply List.Mem.tail)) (by decide) (by rw [hym]; decide) rfl (by omega) (RF.cons (t := t1) (u := u1) (c' := off y 2) (by repeat (first | exact List.Mem.head _ | apply List.Mem.tail)) (by decide) (by rw [hym]; decide) rfl (by omega) (RF.cons (t := t2) (u := u2) (c' := off y 3) (by repeat (first | exact List.Mem.head _ | apply List.Mem.tail)) (by decide) (by rw [hym]; decide) rfl (by omega) (RF.cons (t := t3) (u := u3) (c' := off y 4) (by repeat (first | exact List.Mem.head _ | apply List.Mem.tail)) (by decide) (by rw [hym]; decide) rfl (by omega) (RF.cons (t := t4) (u := u4) (c' := off y 5) (by repeat (first | exact List.Mem.head _ | apply List.Mem.tail)) (by decide) (by rw [hym]; decide) rfl (by omega) (RF.cons (t := t5) (u := u5) (c' := off y 6) (by repeat (first | exact List.Mem.head _ | apply List.Mem.tail)) (by decide) (by rw [hym]; decide) rfl (by omega) (RF.cons (t := t6) (u := u6) (c' := off y 6 + mlI y 6) (by repeat (first | exact List.Mem.head _ | apply List.Mem.tail)) (by decide) (by rw [hym]; decide) rfl (by omega) (by show nyI (y + 1) = _; omega)))))))))))))) F' N' (fun p hp => ?_)
    exact List.mem_cons_of_mem _ (List.mem_cons_of_mem _ (List.mem_cons_of_mem _ (List.mem_cons_of_mem _ (List.mem_cons_of_mem _ (List.mem_cons_of_mem _ (List.mem_cons_of_mem _ (List.mem_cons_of_mem _ (List.mem_cons_of_mem _ (List.mem_cons_of_mem _ (List.mem_cons_of_mem _ (List.mem_cons_of_mem _ (List.mem_cons_of_mem _ (hp)))))))))))))
end
end Mine
namespace Mine
section
variable (w : World) (loose : List Str) (mean : ExcName → Option Value) (mg mb : Str → Option Value) (news : List (Addr × Obj))
-- abbrev Cl (w : World) (loose : List Str) (mean : ExcName → Option Value) (mg mb : Str → Option Value) := Claim PySem.Challenge.rw_ja0019_02.row.prog w (hd02.heap_39 w.params) hd02.view_39 loose mean mg mb
-- theorem ite_dpos {c : Prop} [Decidable c] {a b : Prop} (hc : c) (h : a) : if decide c = true then a else b := by rw [if_pos (decide_eq_true hc)]; exact h
-- theorem ite_dneg {c : Prop} [Decidable c] {a b : Prop} (hc : ¬ c) (h : b) : if decide c = true then a else b := by rw [if_neg (by rw [decide_eq_true_eq]; exact hc)]; exact h
local macro_rules | `(tactic| walk_at "ite") => `(tactic| (k_here; k_openite; first
  | (with_reducible refine ite_pos (by with_reducible assumption) ?_)
  | (with_reducible refine ite_neg (by with_reducible assumption) ?_)
  | (with_reducible refine ite_isFalse (by with_reducible assumption) ?_)
  | (with_reducible refine ite_dpos (by with_reducible assumption) ?_)
  | (with_reducible refine ite_dneg (by with_reducible assumption) ?_)
  | (with_reducible refine split_dec ?_ ?_ <;> intro _) | (with_reducible refine split_bool ?_ ?_ <;> intro _)))
local macro_rules | `(tactic| walk_at "inplaceOp") => `(tactic| (k_here; (with_reducible show wpAny _ _ (inplaceOp _ (Value.ref _) (Value.ref _)) _ _ _); k_dflt (refine' my_iadd ?F ?N ?b ?e ?ne ?U ?d ?z ?y ?_; (case F => k_asm); (case N => k_asm); (case b => k_mem); (case U => k_upd); (case e => kl_lit); (case ne => kl_some); (case d => kl_no); (case z => kl_room); (case y => kl_room)); kl_rest))
local macro_rules | `(tactic| walk_at "exec For Tuple Call cons nil") => `(tactic| (k_here; (rename Fr _ _ _ _ => lF'); (with_unfolding_all refine' For_turns lF' ?_; k_whole)))
theorem useG {prog : Program} {w : World} {K : Frag} {p : Program} {loose : List Str} {mean : ExcName → Option Value} {mg mb : Str → Option Value} {d : Nat} {f : Addr} {vs : List Value} {news : List (Addr × Obj)}
    {R : List (Addr × Obj) → Heap → Addr → (Str → Option Value) → Shared → (Value → Shared → Prop) → Prop}
    {dp un : Nat} {gd : Option (List Code)} {cn : Str} {cs : Scope} {a : Addr} {ccd : Value} {cl : List (Str × Addr)} {outer : List Env} {A₀ : Around} {base h₀ : Heap} {L : Addr} {m : Str → Option Value} {s : Shared} {Q E : Value → Shared → Prop}
    (C : Claim prog w K p loose mean mg mb d f vs news R)
    (B : Below A₀ base outer h₀) (F : Fr h₀ L s.heap m) (X : K.In h₀) (N : News h₀ L s.heap news) (T : Top p loose mean mg mb h₀) (hk : cs.kind = .function) (hd : dp + d < recursionLimit) (hu : un + 8 * d < cLine)
    (h : R news h₀ L m s Q) : wpAny (model prog w) (ktrTop dp un gd cn cs L a ccd cl outer) (call (.ref f) vs) Q E s :=
  C _ _ _ _ _ _ _ _ _ _ _ _ _ _ _ _ _ B F X N T hk hd hu h
local macro_rules | `(tactic| walk_at "call ref") => `(tactic| (k_here; (with_reducible show wpAny _ _ (PySem.call (Value.ref 21) _ _) _ _ _); k_dflt (refine' useI (c_mid _ _ _ _ _ _ _ _) ?k1 ?k2 ?k3 ?k4 ?k5 ?kK ?kd ?ku ?_; (case k1 => k_asm); (case k2 => k_asm); (case k3 => k_asm); (case k4 => k_asm); (case k5 => k_asm); (case kK => first | exact rfl | assumption); (case kd => ktr_room); (case ku => ktr_units); k_whole; intro t9 h9 tk9 F9 N9; (try dsimp only); (try k_fold))))
local macro_rules | `(tactic| walk_at "call ref") => `(tactic| (k_here; (with_reducible show wpAny _ _ (PySem.call (Value.ref 28) _ _) _ _ _); k_dflt (refine' useB (c_leap _ _ _ _ _ _ _ _) ?k1 ?k2 ?k3 ?k4 ?k5 ?kK ?kd ?ku ?_; (case k1 => k_asm); (case k2 => k_asm); (case k3 => k_asm); (case k4 => k_asm); (case k5 => k_asm); (case kK => first | exact rfl | assumption); (case kd => ktr_room); (case ku => ktr_units); k_whole; intro h9 tk9 F9 N9; (try dsimp only); (try k_fold))))
local macro_rules | `(tactic| walk_at "call ref") => `(tactic| (k_here; (with_reducible show wpAny _ _ (PySem.call (Value.ref 35) _ _) _ _ _); k_dflt (refine' useI (c_ym _ _ _ _ _ _ _ _) ?k1 ?k2 ?k3 ?k4 ?k5 ?kK ?kd ?ku ?_; (case k1 => k_asm); (case k2 => k_asm); (case k3 => k_asm); (case k4 => k_asm); (case k5 => k_asm); (case kK => first | exact rfl | assumption); (case kd => ktr_room); (case ku => ktr_units); k_whole; intro t9 h9 tk9 F9 N9; (try dsimp only); (try k_fold))))
local macro_rules | `(tactic| walk_at "call ref") => `(tactic| (k_here; (with_reducible show wpAny _ _ (PySem.call (Value.ref 42) _ _) _ _ _); k_dflt (refine' useI (c_d1 _ _ _ _ _ _ _ _) ?k1 ?k2 ?k3 ?k4 ?k5 ?kK ?kd ?ku ?_; (case k1 => k_asm); (case k2 => k_asm); (case k3 => k_asm); (case k4 => k_asm); (case k5 => k_asm); (case kK => first | exact rfl | assumption); (case kd => ktr_room); (case ku => ktr_units); k_whole; intro t9 h9 tk9 F9 N9; (try dsimp only); (try k_fold))))
local macro_rules | `(tactic| walk_at "call ref") => `(tactic| (k_here; (with_reducible show wpAny _ _ (PySem.call (Value.ref 49) _ _) _ _ _); k_dflt (refine' useI (c_d2 _ _ _ _ _ _ _ _) ?k1 ?k2 ?k3 ?k4 ?k5 ?kK ?kd ?ku ?_; (case k1 => k_asm); (case k2 => k_asm); (case k3 => k_asm); (case k4 => k_asm); (case k5 => k_asm); (case kK => first | exact rfl | assumption); (case kd => ktr_room); (case ku => ktr_units); k_whole; intro t9 h9 tk9 F9 N9; (try dsimp only); (try k_fold))))
local macro_rules | `(tactic| walk_at "call ref") => `(tactic| (k_here; (with_reducible show wpAny _ _ (PySem.call (Value.ref 91) _ _) _ _ _); k_dflt (refine' useB (c_long _ _ _ _ _ _ _ _) ?k1 ?k2 ?k3 ?k4 ?k5 ?kK ?kd ?ku ?_; (case k1 => k_asm); (case k2 => k_asm); (case k3 => k_asm); (case k4 => k_asm); (case k5 => k_asm); (case kK => first | exact rfl | assumption); (case kd => ktr_room); (case ku => ktr_units); k_whole; intro h9 tk9 F9 N9; (try dsimp only); (try k_fold))))
local macro_rules | `(tactic| walk_at "call ref") => `(tactic| (k_here; (with_reducible show wpAny _ _ (PySem.call (Value.ref 77) [Value.int _ _, Value.int 7 _, Value.int _ _] _) _ _ _); k_dflt (refine' useI (c_tj7 _ _ _ _ _ _ _ _ _ _ _) ?k1 ?k2 ?k3 ?k4 ?k5 ?kK ?kd ?ku ?_; (case k1 => k_asm); (case k2 => k_asm); (case k3 => k_asm); (case k4 => k_asm); (case k5 => k_asm); (case kK => first | exact rfl | assumption); (case kd => ktr_room); (case ku => ktr_units); k_whole; intro t9 h9 tk9 F9 N9; (try dsimp only); (try k_fold))))
local macro_rules | `(tactic| walk_at "call ref") => `(tactic| (k_here; (with_reducible show wpAny _ _ (PySem.call (Value.ref 56) _ _) _ _ _); k_dflt (refine' useI (c_yd _ _ _ _ _ _ _ _) ?k1 ?k2 ?k3 ?k4 ?k5 ?kK ?kd ?ku ?_; (case k1 => k_asm); (case k2 => k_asm); (case k3 => k_asm); (case k4 => k_asm); (case k5 => k_asm); (case kK => first | exact rfl | assumption); (case kd => ktr_room); (case ku => ktr_units); k_whole; intro t9 h9 tk9 F9 N9; (try dsimp only); (try k_fold))))
local macro_rules | `(tactic| walk_at "call ref") => `(tactic| (k_here; (with_reducible show wpAny _ _ (PySem.call (Value.ref 63) _ _) _ _ _); k_dflt (refine' useI (c_ml _ _ _ _ _ _ _ _ _ _ ?kp) ?k1 ?k2 ?k3 ?k4 ?k5 ?kK ?kd ?ku ?_; (case k1 => k_asm); (case k2 => k_asm); (case k3 => k_asm); (case k4 => k_asm); (case k5 => k_asm); (case kK => first | exact rfl | assumption); (case kp => first | with_reducible assumption | decide | omega); (case kd => ktr_room); (case ku => ktr_units); k_whole; intro t9 h9 tk9 F9 N9; (try dsimp only); (try k_fold))))
local macro_rules | `(tactic| walk_at "call ref") => `(tactic| (k_here; (with_reducible show wpAny _ _ (PySem.call (Value.ref 70) _ _) _ _ _); k_dflt (refine' useI (c_md _ _ _ _ _ _ _ _ _ _ ?kp) ?k1 ?k2 ?k3 ?k4 ?k5 ?kK ?kd ?ku ?_; (case k1 => k_asm); (case k2 => k_asm); (case k3 => k_asm); (case k4 => k_asm); (case k5 => k_asm); (case kK => first | exact rfl | assumption); (case kp => first | with_reducible assumption | decide | omega); (case kd => ktr_room); (case ku => ktr_units); k_whole; intro t9 h9 tk9 F9 N9; (try dsimp only); (try k_fold))))
local macro_rules | `(tactic| walk_at "call ref") => `(tactic| (k_here; (with_reducible show wpAny _ _ (PySem.call (Value.ref 77) _ _) _ _ _); k_dflt (refine' useI (c_tj _ _ _ _ _ _ _ _ _ _ _ _ ?kp ?kp2) ?k1 ?k2 ?k3 ?k4 ?k5 ?kK ?kd ?ku ?_; (case k1 => k_asm); (case k2 => k_asm); (case k3 => k_asm); (case k4 => k_asm); (case k5 => k_asm); (case kK => first | exact rfl | assumption); (case kp2 => first | with_reducible assumption | decide | omega); (case kp => first | with_reducible assumption | decide | omega); (case kd => ktr_room); (case ku => ktr_units); k_whole; intro t9 h9 tk9 F9 N9; (try dsimp only); (try k_fold))))
local macro_rules | `(tactic| walk_at "call ref") => `(tactic| (k_here; (with_reducible show wpAny _ _ (PySem.call (Value.ref 77) [Value.int _ _, Value.int 7 _, Value.int _ _] _) _ _ _); k_dflt (refine' useI (c_tj7 _ _ _ _ _ _ _ _ _ _ _) ?k1 ?k2 ?k3 ?k4 ?k5 ?kK ?kd ?ku ?_; (case k1 => k_asm); (case k2 => k_asm); (case k3 => k_asm); (case k4 => k_asm); (case k5 => k_asm); (case kK => first | exact rfl | assumption); (case kd => ktr_room); (case ku => ktr_units); k_whole; intro t9 h9 tk9 F9 N9; (try dsimp only); (try k_fold))))
local macro_rules | `(tactic| walk_at "call ref") => `(tactic| (k_here; (with_reducible show wpAny _ _ (PySem.call (Value.ref 96) _ _) _ _ _); k_dflt (refine' useI (c_ny _ _ _ _ _ _ _ _) ?k1 ?k2 ?k3 ?k4 ?k5 ?kK ?kd ?ku ?_; (case k1 => k_asm); (case k2 => k_asm); (case k3 => k_asm); (case k4 => k_asm); (case k5 => k_asm); (case kK => first | exact rfl | assumption); (case kd => ktr_room); (case ku => ktr_units); k_whole; intro t9 h9 tk9 F9 N9; (try dsimp only); (try k_fold))))

theorem c_long' (y : Int) (t : Tok) : Cl w loose mean mg mb 1 91 [.int y t] news (RetB (leapB y)) := by
  rw [← longB_eq]; exact c_long w loose mean mg mb news y t
local macro_rules | `(tactic| walk_at "call ref") => `(tactic| (k_here; (with_reducible show wpAny _ _ (PySem.call (Value.ref 91) _ _) _ _ _); k_dflt (refine' useB (c_long' _ _ _ _ _ _ _ _) ?k1 ?k2 ?k3 ?k4 ?k5 ?kK ?kd ?ku ?_; (case k1 => k_asm); (case k2 => k_asm); (case k3 => k_asm); (case k4 => k_asm); (case k5 => k_asm); (case kK => first | exact rfl | assumption); (case kd => ktr_room); (case ku => ktr_units); k_whole; intro h9 tk9 F9 N9; (try dsimp only); (try k_fold))))
local macro_rules | `(tactic| walk_at "call ref") => `(tactic| (k_here; (fail_if_success (fail_if_success (with_reducible show wpAny _ _ (PySem.call (Value.ref 103) _ _) _ _ _))); k_dflt (refine' useG (c_rowG _ _ _ _ _ _ _ _ ?kp) ?k1 ?k2 ?k3 ?k4 ?k5 ?kK ?kd ?ku ?_; (case k1 => k_asm); (case k2 => k_asm); (case k3 => k_asm); (case k4 => k_asm); (case k5 => k_asm); (case kK => first | exact rfl | assumption); (case kp => first | with_reducible assumption | omega); (case kd => ktr_room); (case ku => ktr_units); k_whole; intro D9 n9 l9 nw9 h9 tk9 hRF9 F9 N9 hs9; (try dsimp only); (try k_fold))))
local macro_rules | `(tactic| walk_at "pyIter ref") => `(tactic| (k_here; (fail_if_success (fail_if_success (with_reducible show wpAny _ _ (pyIter (Value.ref _)) (fun it s₂ => TurnsAt _ _ _ _ _ _ _ _ _ it s₂) _ _))); (rename Fr _ _ _ _ => lF'); (rename News _ _ _ _ => lN'); (rename RF _ _ _ _ => lR'); (with_unfolding_all refine iter_listTurns (by rfl) lF' lN' (List.Mem.head _) (by rfl) (by rfl) ?_); clear lF'; intro i' l1; (k_dflt (refine turnsJ (Str.ofString "jd") (Str.ofString "month") (Str.ofString "days") (by first | assumption | omega) lR' rfl l1 (fun W' hl' hk' a' mo' c' z' t' u' tz' w2' w3' R' q1' q2' q3' q4' q5' hR' h' tk' o' F' N' => ?_) (fun tz' w2' w3' h' tk' F' N' => ?_))); (all_goals ((try dsimp only); (try k_fold)))))
local macro_rules | `(tactic| walk_at "UnrEndW") => `(tactic| (k_here; k_dflt (refine turnEndR (S := SJ _) (by assumption) (by assumption) (by assumption) (by assumption) (by assumption) (by repeat (first | exact List.Mem.head _ | apply List.Mem.tail)) (by intro p hp; repeat (first | exact hp | refine List.mem_cons_of_mem _ ?_)) (by (intro x h1 h2 h3; simp only [if_neg h1, if_neg h2, if_neg h3])) rfl (by assumption))))
theorem yr2 (a : Int) : 1 ≤ 1 + Int.fmod a (10 ^ Int.toNat 15) := by
  rw [fmd _ _ (by decide)]
  have := Int.emod_nonneg a (show (10 : Int) ^ Int.toNat 15 ≠ 0 by decide)
  omega
theorem good_end {cl : Str → Option Addr} {mean : ExcName → Option Value} {args : List WData} {s₁ s' : Shared} {L : Addr} {m : Str → Option Value} (F : Fr s₁.heap L s'.heap m) (hg : s'.gens = #[]) (hos : s'.os = s₁.os) :
    GoodW PySem.Challenge.rw_ja0019_02.row.claim cl mean args s₁ (.ok (.ret (.bool true))) s' := by
  refine goodW_bool F hg (fun cls => ?_) ?_ hos
  · rfl
  · wrow_post
end
end Mine
section
open Mine
local macro_rules | `(tactic| walk_at "ite") => `(tactic| (k_here; k_openite; first
  | (with_reducible refine ite_pos (by with_reducible assumption) ?_)
  | (with_reducible refine ite_neg (by with_reducible assumption) ?_)
  | (with_reducible refine ite_isFalse (by with_reducible assumption) ?_)
  | (with_reducible refine ite_dpos (by with_reducible assumption) ?_)
  | (with_reducible refine ite_dneg (by with_reducible assumption) ?_)
  | (with_reducible refine split_dec ?_ ?_ <;> intro _) | (with_reducible refine split_bool ?_ ?_ <;> intro _)))
local macro_rules | `(tactic| walk_at "inplaceOp") => `(tactic| (k_here; (with_reducible show wpAny _ _ (inplaceOp _ (Value.ref _) (Value.ref _)) _ _ _); k_dflt (refine' my_iadd ?F ?N ?b ?e ?ne ?U ?d ?z ?y ?_; (case F => k_asm); (case N => k_asm); (case b => k_mem); (case U => k_upd); (case e => kl_lit); (case ne => kl_some); (case d => kl_no); (case z => kl_room); (case y => kl_room)); kl_rest))
local macro_rules | `(tactic| walk_at "exec For Tuple Call cons nil") => `(tactic| (k_here; (rename Fr _ _ _ _ => lF'); (with_unfolding_all refine' For_turns lF' ?_; k_whole)))
local macro_rules | `(tactic| walk_at "call ref") => `(tactic| (k_here; (with_reducible show wpAny _ _ (PySem.call (Value.ref 21) _ _) _ _ _); k_dflt (refine' useI (c_mid _ _ _ _ _ _ _ _) ?k1 ?k2 ?k3 ?k4 ?k5 ?kK ?kd ?ku ?_; (case k1 => k_asm); (case k2 => k_asm); (case k3 => k_asm); (case k4 => k_asm); (case k5 => k_asm); (case kK => first | exact rfl | assumption); (case kd => ktr_room); (case ku => ktr_units); k_whole; intro t9 h9 tk9 F9 N9; (try dsimp only); (try k_fold))))
local macro_rules | `(tactic| walk_at "call ref") => `(tactic| (k_here; (with_reducible show wpAny _ _ (PySem.call (Value.ref 28) _ _) _ _ _); k_dflt (refine' useB (c_leap _ _ _ _ _ _ _ _) ?k1 ?k2 ?k3 ?k4 ?k5 ?kK ?kd ?ku ?_; (case k1 => k_asm); (case k2 => k_asm); (case k3 => k_asm); (case k4 => k_asm); (case k5 => k_asm); (case kK => first | exact rfl | assumption); (case kd => ktr_room); (case ku => ktr_units); k_whole; intro h9 tk9 F9 N9; (try dsimp only); (try k_fold))))
local macro_rules | `(tactic| walk_at "call ref") => `(tactic| (k_here; (with_reducible show wpAny _ _ (PySem.call (Value.ref 35) _ _) _ _ _); k_dflt (refine' useI (c_ym _ _ _ _ _ _ _ _) ?k1 ?k2 ?k3 ?k4 ?k5 ?kK ?kd ?ku ?_; (case k1 => k_asm); (case k2 => k_asm); (case k3 => k_asm); (case k4 => k_asm); (case k5 => k_asm); (case kK => first | exact rfl | assumption); (case kd => ktr_room); (case ku => ktr_units); k_whole; intro t9 h9 tk9 F9 N9; (try dsimp only); (try k_fold))))
local macro_rules | `(tactic| walk_at "call ref") => `(tactic| (k_here; (with_reducible show wpAny _ _ (PySem.call (Value.ref 42) _ _) _ _ _); k_dflt (refine' useI (c_d1 _ _ _ _ _ _ _ _) ?k1 ?k2 ?k3 ?k4 ?k5 ?kK ?kd ?ku ?_; (case k1 => k_asm); (case k2 => k_asm); (case k3 => k_asm); (case k4 => k_asm); (case k5 => k_asm); (case kK => first | exact rfl | assumption); (case kd => ktr_room); (case ku => ktr_units); k_whole; intro t9 h9 tk9 F9 N9; (try dsimp only); (try k_fold))))
local macro_rules | `(tactic| walk_at "call ref") => `(tactic| (k_here; (with_reducible show wpAny _ _ (PySem.call (Value.ref 49) _ _) _ _ _); k_dflt (refine' useI (c_d2 _ _ _ _ _ _ _ _) ?k1 ?k2 ?k3 ?k4 ?k5 ?kK ?kd ?ku ?_; (case k1 => k_asm); (case k2 => k_asm); (case k3 => k_asm); (case k4 => k_asm); (case k5 => k_asm); (case kK => first | exact rfl | assumption); (case kd => ktr_room); (case ku => ktr_units); k_whole; intro t9 h9 tk9 F9 N9; (try dsimp only); (try k_fold))))
local macro_rules | `(tactic| walk_at "call ref") => `(tactic| (k_here; (with_reducible show wpAny _ _ (PySem.call (Value.ref 91) _ _) _ _ _); k_dflt (refine' useB (c_long _ _ _ _ _ _ _ _) ?k1 ?k2 ?k3 ?k4 ?k5 ?kK ?kd ?ku ?_; (case k1 => k_asm); (case k2 => k_asm); (case k3 => k_asm); (case k4 => k_asm); (case k5 => k_asm); (case kK => first | exact rfl | assumption); (case kd => ktr_room); (case ku => ktr_units); k_whole; intro h9 tk9 F9 N9; (try dsimp only); (try k_fold))))
local macro_rules | `(tactic| walk_at "call ref") => `(tactic| (k_here; (with_reducible show wpAny _ _ (PySem.call (Value.ref 77) [Value.int _ _, Value.int 7 _, Value.int _ _] _) _ _ _); k_dflt (refine' useI (c_tj7 _ _ _ _ _ _ _ _ _ _ _) ?k1 ?k2 ?k3 ?k4 ?k5 ?kK ?kd ?ku ?_; (case k1 => k_asm); (case k2 => k_asm); (case k3 => k_asm); (case k4 => k_asm); (case k5 => k_asm); (case kK => first | exact rfl | assumption); (case kd => ktr_room); (case ku => ktr_units); k_whole; intro t9 h9 tk9 F9 N9; (try dsimp only); (try k_fold))))
local macro_rules | `(tactic| walk_at "call ref") => `(tactic| (k_here; (with_reducible show wpAny _ _ (PySem.call (Value.ref 56) _ _) _ _ _); k_dflt (refine' useI (c_yd _ _ _ _ _ _ _ _) ?k1 ?k2 ?k3 ?k4 ?k5 ?kK ?kd ?ku ?_; (case k1 => k_asm); (case k2 => k_asm); (case k3 => k_asm); (case k4 => k_asm); (case k5 => k_asm); (case kK => first | exact rfl | assumption); (case kd => ktr_room); (case ku => ktr_units); k_whole; intro t9 h9 tk9 F9 N9; (try dsimp only); (try k_fold))))
local macro_rules | `(tactic| walk_at "call ref") => `(tactic| (k_here; (with_reducible show wpAny _ _ (PySem.call (Value.ref 63) _ _) _ _ _); k_dflt (refine' useI (c_ml _ _ _ _ _ _ _ _ _ _ ?kp) ?k1 ?k2 ?k3 ?k4 ?k5 ?kK ?kd ?ku ?_; (case k1 => k_asm); (case k2 => k_asm); (case k3 => k_asm); (case k4 => k_asm); (case k5 => k_asm); (case kK => first | exact rfl | assumption); (case kp => first | with_reducible assumption | decide | omega); (case kd => ktr_room); (case ku => ktr_units); k_whole; intro t9 h9 tk9 F9 N9; (try dsimp only); (try k_fold))))
local macro_rules | `(tactic| walk_at "call ref") => `(tactic| (k_here; (with_reducible show wpAny _ _ (PySem.call (Value.ref 70) _ _) _ _ _); k_dflt (refine' useI (c_md _ _ _ _ _ _ _ _ _ _ ?kp) ?k1 ?k2 ?k3 ?k4 ?k5 ?kK ?kd ?ku ?_; (case k1 => k_asm); (case k2 => k_asm); (case k3 => k_asm); (case k4 => k_asm); (case k5 => k_asm); (case kK => first | exact rfl | assumption); (case kp => first | with_reducible assumption | decide | omega); (case kd => ktr_room); (case ku => ktr_units); k_whole; intro t9 h9 tk9 F9 N9; (try dsimp only); (try k_fold))))
local macro_rules | `(tactic| walk_at "call ref") => `(tactic| (k_here; (with_reducible show wpAny _ _ (PySem.call (Value.ref 77) _ _) _ _ _); k_dflt (refine' useI (c_tj _ _ _ _ _ _ _ _ _ _ _ _ ?kp ?kp2) ?k1 ?k2 ?k3 ?k4 ?k5 ?kK ?kd ?ku ?_; (case k1 => k_asm); (case k2 => k_asm); (case k3 => k_asm); (case k4 => k_asm); (case k5 => k_asm); (case kK => first | exact rfl | assumption); (case kp2 => first | with_reducible assumption | decide | omega); (case kp => first | with_reducible assumption | decide | omega); (case kd => ktr_room); (case ku => ktr_units); k_whole; intro t9 h9 tk9 F9 N9; (try dsimp only); (try k_fold))))
local macro_rules | `(tactic| walk_at "call ref") => `(tactic| (k_here; (with_reducible show wpAny _ _ (PySem.call (Value.ref 77) [Value.int _ _, Value.int 7 _, Value.int _ _] _) _ _ _); k_dflt (refine' useI (c_tj7 _ _ _ _ _ _ _ _ _ _ _) ?k1 ?k2 ?k3 ?k4 ?k5 ?kK ?kd ?ku ?_; (case k1 => k_asm); (case k2 => k_asm); (case k3 => k_asm); (case k4 => k_asm); (case k5 => k_asm); (case kK => first | exact rfl | assumption); (case kd => ktr_room); (case ku => ktr_units); k_whole; intro t9 h9 tk9 F9 N9; (try dsimp only); (try k_fold))))
local macro_rules | `(tactic| walk_at "call ref") => `(tactic| (k_here; (with_reducible show wpAny _ _ (PySem.call (Value.ref 96) _ _) _ _ _); k_dflt (refine' useI (c_ny _ _ _ _ _ _ _ _) ?k1 ?k2 ?k3 ?k4 ?k5 ?kK ?kd ?ku ?_; (case k1 => k_asm); (case k2 => k_asm); (case k3 => k_asm); (case k4 => k_asm); (case k5 => k_asm); (case kK => first | exact rfl | assumption); (case kd => ktr_room); (case ku => ktr_units); k_whole; intro t9 h9 tk9 F9 N9; (try dsimp only); (try k_fold))))

local macro_rules | `(tactic| walk_at "call ref") => `(tactic| (k_here; (with_reducible show wpAny _ _ (PySem.call (Value.ref 91) _ _) _ _ _); k_dflt (refine' useB (c_long' _ _ _ _ _ _ _ _) ?k1 ?k2 ?k3 ?k4 ?k5 ?kK ?kd ?ku ?_; (case k1 => k_asm); (case k2 => k_asm); (case k3 => k_asm); (case k4 => k_asm); (case k5 => k_asm); (case kK => first | exact rfl | assumption); (case kd => ktr_room); (case ku => ktr_units); k_whole; intro h9 tk9 F9 N9; (try dsimp only); (try k_fold))))
local macro_rules | `(tactic| walk_at "call ref") => `(tactic| (k_here; (fail_if_success (fail_if_success (with_reducible show wpAny _ _ (PySem.call (Value.ref 103) _ _) _ _ _))); k_dflt (refine' useG (c_rowG _ _ _ _ _ _ _ _ ?kp) ?k1 ?k2 ?k3 ?k4 ?k5 ?kK ?kd ?ku ?_; (case k1 => k_asm); (case k2 => k_asm); (case k3 => k_asm); (case k4 => k_asm); (case k5 => k_asm); (case kK => first | exact rfl | assumption); (case kp => first | with_reducible assumption | omega); (case kd => ktr_room); (case ku => ktr_units); k_whole; intro D9 n9 l9 nw9 h9 tk9 hRF9 F9 N9 hs9; (try dsimp only); (try k_fold))))
local macro_rules | `(tactic| walk_at "pyIter ref") => `(tactic| (k_here; (fail_if_success (fail_if_success (with_reducible show wpAny _ _ (pyIter (Value.ref _)) (fun it s₂ => TurnsAt _ _ _ _ _ _ _ _ _ it s₂) _ _))); (rename Fr _ _ _ _ => lF'); (rename News _ _ _ _ => lN'); (rename RF _ _ _ _ => lR'); (with_unfolding_all refine iter_listTurns (by rfl) lF' lN' (List.Mem.head _) (by rfl) (by rfl) ?_); clear lF'; intro i' l1; (k_dflt (refine turnsJ (Str.ofString "jd") (Str.ofString "month") (Str.ofString "days") (by first | assumption | omega) lR' rfl l1 (fun W' hl' hk' a' mo' c' z' t' u' tz' w2' w3' R' q1' q2' q3' q4' q5' hR' h' tk' o' F' N' => ?_) (fun tz' w2' w3' h' tk' F' N' => ?_))); (all_goals ((try dsimp only); (try k_fold)))))
local macro_rules | `(tactic| walk_at "UnrEndW") => `(tactic| (k_here; k_dflt (refine turnEndR (S := SJ _) (by assumption) (by assumption) (by assumption) (by assumption) (by assumption) (by repeat (first | exact List.Mem.head _ | apply List.Mem.tail)) (by intro p hp; repeat (first | exact hp | refine List.mem_cons_of_mem _ ?_)) (by (intro x h1 h2 h3; simp only [if_neg h1, if_neg h2, if_neg h3])) rfl (by assumption))))
-- THE LAW
local macro_rules | `(tactic| walk_at "ite") => `(tactic| (k_here; k_openite; first
  | ((with_reducible refine ite_bne_eq ?hmy ?_); (case hmy => first
    | with_reducible rfl
    | with_reducible assumption
    | ((rw [tj_off _ _ _ (by with_reducible assumption) (by first | decide | exact ml_pos _ _)]; (first | rw [off7] | rw [off8] | rw [off9] | rw [off10] | rw [off11] | rw [off12] | rw [off13] | rw [off1t _ (by with_reducible assumption)] | rw [off2t _ (by with_reducible assumption)] | rw [off3t _ (by with_reducible assumption)] | rw [off4t _ (by with_reducible assumption)] | rw [off5t _ (by with_reducible assumption)] | rw [off6t _ (by with_reducible assumption)] | rw [off1f _ (by with_reducible assumption)] | rw [off2f _ (by with_reducible assumption)] | rw [off3f _ (by with_reducible assumption)] | rw [off4f _ (by with_reducible assumption)] | rw [off5f _ (by with_reducible assumption)] | rw [off6f _ (by with_reducible assumption)])) <;> omega)
    | ((rw [tj7_ny _ _ (by first | with_reducible assumption | omega) (by first | decide | exact ml_pos _ _)]) <;> first | omega | ((rw [nyst _ (by with_reducible assumption) (by with_reducible assumption)]) <;> omega) | ((rw [nysf _ (by with_reducible assumption) (by with_reducible assumption)]) <;> omega))
    | exact yd_ny _ (by with_reducible assumption)
    | (unfold ymI; rw [if_pos (by with_reducible assumption)])
    | (unfold ymI; rw [if_neg (by rw [show leapB _ = false by with_reducible assumption]; decide)])))
  | ((with_reducible refine ite_bne_eqB ?hmy ?_); (case hmy => with_reducible rfl))
  | ((with_reducible refine ite_notT ?hmy ?_); (case hmy => exact szin _))))
local macro_rules | `(tactic| walk_at "eval IfExp") => `(tactic| (k_here; (fail_if_success (with_reducible show wpAny _ _ _ (fun v s' => CutI _ _ _ _ _ _ v s') _ _)); (with_reducible show wpAny _ _ (eval (Expr.IfExp (Expr.Compare _ [CmpOp.Lt, CmpOp.Lt] _ _) _ _ _) _) _ _ _); (rename Fr _ _ _ _ => cF'); (rename News _ _ _ _ => cN'); (refine cutI (fun z => 1 ≤ z) cF' cN' ?_ ?_); rotate_left; (intro z' t' h' tk' hz' F' N'; (have hz0' : 0 ≤ z' := (by omega)); (try dsimp only); (try k_fold)); rotate_left))
local macro_rules | `(tactic| walk_at "CutI") => `(tactic| (refine CutI.intro ?_ (by k_asm) (by k_asm); first | exact True.intro | omega | exact yr2 _ | (dsimp only; omega)))
local macro_rules | `(tactic| walk_at "eval IfExp") => `(tactic| (k_here; (fail_if_success (with_reducible show wpAny _ _ _ (fun v s' => CutI _ _ _ _ _ _ v s') _ _)); (with_reducible show wpAny _ _ (eval (Expr.IfExp (Expr.Call _ _ _ _) _ _ _) _) _ _ _); (rename Fr _ _ _ _ => cF'); (rename News _ _ _ _ => cN'); (k_dflt (refine cutYm rfl cF' cN' ?_ ?_)); rotate_left; (intro t' h' tk' F' N'; (try dsimp only); (try k_fold)); rotate_left))
local macro_rules | `(tactic| walk_at "CutI") => `(tactic| (refine CutI.intro ?_ (by k_asm) (by k_asm); unfold ymI; first | (rw [if_pos (by with_reducible assumption)]; done) | (rw [if_neg (by rw [show leapB _ = false by with_reducible assumption]; decide)]; done)))
local macro_rules | `(tactic| walk_at "eval Call") => `(tactic| (k_here; (fail_if_success (with_reducible show wpAny _ _ _ (fun v s' => CutI _ _ _ _ _ _ v s') _ _)); (fail_if_success (with_reducible show wpAny _ _ _ (fun v s' => KCj _ _ _ _ _ _ _ v s') _ _)); (with_reducible show wpAny _ _ (eval (Expr.Call (Expr.Name (Str.ofString "_law_cell") _) _ _ _) _) _ _ _); (rename Fr _ _ _ _ => cF'); (rename News _ _ _ _ => cN'); (refine cutI (fun _ => True) cF' cN' ?_ ?_); rotate_left; (intro z' t' h' tk' hz' F' N'; clear hz'; (try dsimp only); (try k_fold)); rotate_left))
theorem Mine.rb (x : Int) : 13 < 14 + Int.fmod x 1000 := by rw [fmd _ _ (by decide)]; omega
local macro_rules | `(tactic| walk_at "call ref") => `(tactic| (k_here; (with_reducible show wpAny _ _ (PySem.call (Value.ref 110) _ _) _ _ _); k_dflt (refine' c_refused _ _ _ _ _ _ _ _ _ _ ?kp _ _ _ _ _ _ _ _ _ _ ?k1 ?k2 ?k3 ?k4 ?k5 ?kK ?_; (case k1 => k_asm); (case k2 => k_asm); (case k3 => k_asm); (case k4 => k_asm); (case k5 => k_asm); (case kK => first | exact rfl | assumption); (case kp => exact rb _); k_whole; intro h9 tk9 F9 N9; (try dsimp only); (try k_fold))))

set_option maxHeartbeats 8000000
theorem PySem.Challenge.cw_ja0019_02_holds : PySem.Challenge.rw_ja0019_02.Holds := by
  refine hd02 ?_
  k_go0
  all_goals try k_fold
  repeat' (first | (k_unfold; (try dsimp only)) | ((with_reducible show GoodW _ _ _ _ _ _ _); exact good_end (by k_asm) (by k_asm) rfl) | (walk1; (try dsimp only)) | fail "no step")
end
