import PyProof.Rows.All
import Wide.All
import OpenK.AllK
import Wide.FinOn
import Lean
import PySem.Challenge.RW_ja0019_01
open PySem PySem.W PyProof.Rows
set_option Elab.async false
set_option maxRecDepth 100000
set_option maxHeartbeats 8000000
set_option rowWalk.seconds 0
namespace Mine
open_top hd01 for PySem.Challenge.rw_ja0019_01
end Mine
open Mine
abbrev Mine.RetI (x : Int) (news : List (Addr × Obj)) (h₀ : Heap) (L : Addr) (m : Str → Option Value) (s : Shared) (Q : Value → Shared → Prop) : Prop :=
  ∀ (t : Tok) (h' : Heap) (tk' : Nat), Fr h₀ L h' m → News h₀ L h' news → Q (.int x t) { s with heap := h', toks := tk' }
abbrev Mine.RetB (x : Bool) (news : List (Addr × Obj)) (h₀ : Heap) (L : Addr) (m : Str → Option Value) (s : Shared) (Q : Value → Shared → Prop) : Prop :=
  ∀ (h' : Heap) (tk' : Nat), Fr h₀ L h' m → News h₀ L h' news → Q (.bool x) { s with heap := h', toks := tk' }
/-- what a call of the def at f with the values vs does -/
abbrev Mine.Claim (prog : Program) (w : World) (K : Frag) (p : Program) (loose : List Str) (mean : ExcName → Option Value) (mg mb : Str → Option Value) (d : Nat) (f : Addr) (vs : List Value) (news : List (Addr × Obj))
    (C : List (Addr × Obj) → Heap → Addr → (Str → Option Value) → Shared → (Value → Shared → Prop) → Prop) : Prop :=
  ∀ (dp un : Nat) (gd : Option (List Code)) (cn : Str) (cs : Scope) (a : Addr) (ccd : Value) (cl : List (Str × Addr)) (outer : List Env) (A₀ : Around) (base h₀ : Heap) (L : Addr) (m : Str → Option Value) (s : Shared) (Q E : Value → Shared → Prop),
    Below A₀ base outer h₀ → Fr h₀ L s.heap m → K.In h₀ → News h₀ L s.heap news → Top p loose mean mg mb h₀ → cs.kind = .function →
    dp + d < recursionLimit → un + 8 * d < cLine → C news h₀ L m s Q →
      wpAny (model prog w) (ktrTop dp un gd cn cs L a ccd cl outer) (call (.ref f) vs) Q E s
theorem Mine.retI {news news' : List (Addr × Obj)} {h₀ h' : Heap} {L : Addr} {m : Str → Option Value} {s : Shared} {Q : Value → Shared → Prop} {x y : Int} {t : Tok} {tk' : Nat}
    (h : RetI x news h₀ L m s Q) (e : y = x) (F : Fr h₀ L h' m) (N : News h₀ L h' news') (hs : ∀ p ∈ news, p ∈ news') : Q (.int y t) { s with heap := h', toks := tk' } := by
  subst e; exact h _ _ _ F (cb_drop N hs)
theorem Mine.retB {news news' : List (Addr × Obj)} {h₀ h' : Heap} {L : Addr} {m : Str → Option Value} {s : Shared} {Q : Value → Shared → Prop} {x y : Bool} {tk' : Nat}
    (h : RetB x news h₀ L m s Q) (e : y = x) (F : Fr h₀ L h' m) (N : News h₀ L h' news') (hs : ∀ p ∈ news, p ∈ news') : Q (.bool y) { s with heap := h', toks := tk' } := by
  subst e; exact h _ _ F (cb_drop N hs)
theorem Mine.use2 {prog : Program} {w : World} {K : Frag} {p : Program} {loose : List Str} {mean : ExcName → Option Value} {mg mb : Str → Option Value} {d : Nat} {f : Addr} {vs : List Value} {news : List (Addr × Obj)}
    {R : List (Addr × Obj) → Heap → Addr → (Str → Option Value) → Shared → (Value → Shared → Prop) → Prop}
    {dp un : Nat} {gd : Option (List Code)} {cn : Str} {cs : Scope} {a : Addr} {ccd : Value} {cl : List (Str × Addr)} {outer : List Env} {A₀ : Around} {base h₀ : Heap} {L : Addr} {m : Str → Option Value} {s : Shared} {Q E : Value → Shared → Prop}
    (C : Claim prog w K p loose mean mg mb d f vs news R) (h : R news h₀ L m s Q)
    (B : Below A₀ base outer h₀ := by k_asm) (F : Fr h₀ L s.heap m := by k_asm) (X : K.In h₀ := by k_asm) (N : News h₀ L s.heap news := by k_asm) (T : Top p loose mean mg mb h₀ := by k_asm) (hk : cs.kind = .function := by first | exact rfl | assumption) (hd : dp + d < recursionLimit := by ktr_room) (hu : un + 8 * d < cLine := by ktr_units) :
    wpAny (model prog w) (ktrTop dp un gd cn cs L a ccd cl outer) (call (.ref f) vs) Q E s :=
  C _ _ _ _ _ _ _ _ _ _ _ _ _ _ _ _ _ B F X N T hk hd hu h
abbrev Mine.Cl (w : World) (loose : List Str) (mean : ExcName → Option Value) (mg mb : Str → Option Value) := Claim PySem.Challenge.rw_ja0019_01.row.prog w (hd01.heap_39 w.params) hd01.view_39 loose mean mg mb
noncomputable def Mine.leapB (y : Int) : Bool := decide (Int.fmod (y*7+1) 19 < 7)
noncomputable def Mine.midI (x : Int) : Int := if 0 < x then x else x + 1
noncomputable def Mine.ymI (y : Int) : Int := if leapB y = true then 13 else 12
noncomputable def Mine.d1d (y : Int) : Int := Int.fdiv (235 * y - 234) 19 * 29 + Int.fdiv (12084 + 13753 * Int.fdiv (235 * y - 234) 19) 25920
noncomputable def Mine.d1 (y : Int) : Int := if Int.fmod (3 * (d1d y + 1)) 7 < 3 then d1d y + 1 else d1d y
noncomputable def Mine.d2 (y : Int) : Int := if (d1 (y + 1) - d1 y == 356) = true then 2 else if (d1 y - d1 (y - 1) == 382) = true then 1 else 0
noncomputable def Mine.longB (y : Int) : Bool := [0, 3, 6, 8, 11, 14, 17].any fun x => x == Int.fmod y 19
noncomputable def Mine.tj7 (y d : Int) : Int := midI (347996 + d1 y + d2 y + d + 1)
noncomputable def Mine.ydI (y : Int) : Int := tj7 (y + 1) 1 - tj7 y 1
noncomputable def Mine.mlI (y m : Int) : Int := if ([2, 4, 6, 10, 13].any fun x => x == m) = true then 29 else if (m == 12) = true ∧ (!leapB y) = true then 29 else if (m == 8) = true ∧ (Int.fmod (ydI y) 10 != 5) = true then 29 else if (m == 9) = true ∧ (Int.fmod (ydI y) 10 == 3) = true then 29 else 30
theorem Mine.ite_dpos {c : Prop} [Decidable c] {a b : Prop} (hc : c) (h : a) : if decide c = true then a else b := by rw [if_pos (decide_eq_true hc)]; exact h
theorem Mine.ite_dneg {c : Prop} [Decidable c] {a b : Prop} (hc : ¬ c) (h : b) : if decide c = true then a else b := by rw [if_neg (by rw [decide_eq_true_eq]; exact hc)]; exact h
theorem Mine.gen_store {M : Model} {A : Around} {E : Value → Shared → Prop} {s : Shared} {env : Env} {n : Str} {e : Int} {t : Tok} {Q : Unit → Shared → Prop} (h : ∀ z : Int, z = e → wpAny M A (storeName env n (.int z t)) Q E s) : wpAny M A (storeName env n (.int e t)) Q E s := h e rfl
theorem Mine.c_mid (w : World) (loose : List Str) (mean : ExcName → Option Value) (mg mb : Str → Option Value) (news : List (Addr × Obj)) (y : Int) (t : Tok) : Cl w loose mean mg mb 1 28 [.int y t] news (RetI (midI y)) := by
  w_on
  unfold Cl Claim
  k_fill
  intros; rename_i hret
  refine wpAny_call ?_
  k_dflt cell_enter
  repeat' (first
    | (k_unfold; (try dsimp only))
    | ((first
    | ((fail_if_success (fail_if_success (with_reducible show @ite _ _ _ _ _))); (first
      | (k_here; k_openite; first
  | (with_reducible refine ite_pos (by with_reducible assumption) ?_)
  | (with_reducible refine ite_neg (by with_reducible assumption) ?_)
  | (with_reducible refine ite_isFalse (by with_reducible assumption) ?_)
  | (with_reducible refine ite_dpos (by with_reducible assumption) ?_)
  | (with_reducible refine ite_dneg (by with_reducible assumption) ?_)
  | (with_reducible refine split_dec ?_ ?_ <;> intro _) | (with_reducible refine split_bool ?_ ?_ <;> intro _))))
    | ((fail_if_success (fail_if_success (with_reducible show wpAny _ _ (storeName _ _ _) _ _ _))); (first
      | (k_here; (first | (with_reducible show wpAny _ _ (storeName _ _ (Value.int (_ + _) _)) _ _ _) | (with_reducible show wpAny _ _ (storeName _ _ (Value.int (_ - _) _)) _ _ _) | (with_reducible show wpAny _ _ (storeName _ _ (Value.int (_ * _) _)) _ _ _) | (with_reducible show wpAny _ _ (storeName _ _ (Value.int (Int.fdiv _ _) _)) _ _ _) | (with_reducible show wpAny _ _ (storeName _ _ (Value.int (Int.fmod _ _) _)) _ _ _)); k_dflt (refine gen_store ?_; intro z hz; refine' storeX_L ?F ?N ?_ ?a ?b; (case F => k_asm); (case N => k_asm); (case a => rfl); (case b => rfl); k_whole; intro h' F' N'; (try k_sweep)))))); (try dsimp only))
    | (walk1; (try dsimp only)) | fail "no step")
  all_goals (refine retI hret ?_ (by k_asm) (by k_asm) (by (intro p hp; repeat (first | with_reducible assumption | refine List.mem_cons_of_mem _ ?_))))
  all_goals (unfold midI; split <;> first | rfl | omega)
theorem Mine.c_leap (w : World) (loose : List Str) (mean : ExcName → Option Value) (mg mb : Str → Option Value) (news : List (Addr × Obj)) (y : Int) (t : Tok) : Cl w loose mean mg mb 1 57 [.int y t] news (RetB (leapB y)) := by
  w_on
  unfold Cl Claim
  k_fill
  intros; rename_i hret
  refine wpAny_call ?_
  k_dflt cell_enter
  repeat' (first
    | (k_unfold; (try dsimp only))
    | ((first
    | ((fail_if_success (fail_if_success (with_reducible show @ite _ _ _ _ _))); (first
      | (k_here; k_openite; first
  | (with_reducible refine ite_pos (by with_reducible assumption) ?_)
  | (with_reducible refine ite_neg (by with_reducible assumption) ?_)
  | (with_reducible refine ite_isFalse (by with_reducible assumption) ?_)
  | (with_reducible refine ite_dpos (by with_reducible assumption) ?_)
  | (with_reducible refine ite_dneg (by with_reducible assumption) ?_)
  | (with_reducible refine split_dec ?_ ?_ <;> intro _) | (with_reducible refine split_bool ?_ ?_ <;> intro _))))
    | ((fail_if_success (fail_if_success (with_reducible show wpAny _ _ (PySem.call (Value.ref _) _ _) _ _ _))); (first
      | (k_here; (fail_if_success (fail_if_success (with_reducible show wpAny _ _ (PySem.call (Value.ref 28) _ _) _ _ _))); k_dflt (refine use2 (c_mid _ _ _ _ _ _ _ _) ?_); k_whole; intro t9 h9 tk9 F9 N9; (try dsimp only); (try k_fold))))
    | ((fail_if_success (fail_if_success (with_reducible show wpAny _ _ (storeName _ _ _) _ _ _))); (first
      | (k_here; (first | (with_reducible show wpAny _ _ (storeName _ _ (Value.int (_ + _) _)) _ _ _) | (with_reducible show wpAny _ _ (storeName _ _ (Value.int (_ - _) _)) _ _ _) | (with_reducible show wpAny _ _ (storeName _ _ (Value.int (_ * _) _)) _ _ _) | (with_reducible show wpAny _ _ (storeName _ _ (Value.int (Int.fdiv _ _) _)) _ _ _) | (with_reducible show wpAny _ _ (storeName _ _ (Value.int (Int.fmod _ _) _)) _ _ _)); k_dflt (refine gen_store ?_; intro z hz; refine' storeX_L ?F ?N ?_ ?a ?b; (case F => k_asm); (case N => k_asm); (case a => rfl); (case b => rfl); k_whole; intro h' F' N'; (try k_sweep)))))); (try dsimp only))
    | (walk1; (try dsimp only)) | fail "no step")
  all_goals (refine retB hret ?_ (by k_asm) (by k_asm) (by (intro p hp; repeat (first | with_reducible assumption | refine List.mem_cons_of_mem _ ?_))))
  all_goals rfl
theorem Mine.c_ym (w : World) (loose : List Str) (mean : ExcName → Option Value) (mg mb : Str → Option Value) (news : List (Addr × Obj)) (y : Int) (t : Tok) : Cl w loose mean mg mb 2 64 [.int y t] news (RetI (ymI y)) := by
  w_on
  unfold Cl Claim
  k_fill
  intros; rename_i hret
  refine wpAny_call ?_
  k_dflt cell_enter
  repeat' (first
    | (k_unfold; (try dsimp only))
    | ((first
    | ((fail_if_success (fail_if_success (with_reducible show @ite _ _ _ _ _))); (first
      | (k_here; k_openite; first
  | (with_reducible refine ite_pos (by with_reducible assumption) ?_)
  | (with_reducible refine ite_neg (by with_reducible assumption) ?_)
  | (with_reducible refine ite_isFalse (by with_reducible assumption) ?_)
  | (with_reducible refine ite_dpos (by with_reducible assumption) ?_)
  | (with_reducible refine ite_dneg (by with_reducible assumption) ?_)
  | (with_reducible refine split_dec ?_ ?_ <;> intro _) | (with_reducible refine split_bool ?_ ?_ <;> intro _))))
    | ((fail_if_success (fail_if_success (with_reducible show wpAny _ _ (PySem.call (Value.ref _) _ _) _ _ _))); (first
      | (k_here; (fail_if_success (fail_if_success (with_reducible show wpAny _ _ (PySem.call (Value.ref 57) _ _) _ _ _))); k_dflt (refine use2 (c_leap _ _ _ _ _ _ _ _) ?_); k_whole; intro h9 tk9 F9 N9; (try dsimp only); (try k_fold))
      | (k_here; (fail_if_success (fail_if_success (with_reducible show wpAny _ _ (PySem.call (Value.ref 28) _ _) _ _ _))); k_dflt (refine use2 (c_mid _ _ _ _ _ _ _ _) ?_); k_whole; intro t9 h9 tk9 F9 N9; (try dsimp only); (try k_fold))))
    | ((fail_if_success (fail_if_success (with_reducible show wpAny _ _ (storeName _ _ _) _ _ _))); (first
      | (k_here; (first | (with_reducible show wpAny _ _ (storeName _ _ (Value.int (_ + _) _)) _ _ _) | (with_reducible show wpAny _ _ (storeName _ _ (Value.int (_ - _) _)) _ _ _) | (with_reducible show wpAny _ _ (storeName _ _ (Value.int (_ * _) _)) _ _ _) | (with_reducible show wpAny _ _ (storeName _ _ (Value.int (Int.fdiv _ _) _)) _ _ _) | (with_reducible show wpAny _ _ (storeName _ _ (Value.int (Int.fmod _ _) _)) _ _ _)); k_dflt (refine gen_store ?_; intro z hz; refine' storeX_L ?F ?N ?_ ?a ?b; (case F => k_asm); (case N => k_asm); (case a => rfl); (case b => rfl); k_whole; intro h' F' N'; (try k_sweep)))))); (try dsimp only))
    | (walk1; (try dsimp only)) | fail "no step")
  all_goals (refine retI hret ?_ (by k_asm) (by k_asm) (by (intro p hp; repeat (first | with_reducible assumption | refine List.mem_cons_of_mem _ ?_))))
  all_goals (unfold ymI; first | rw [if_pos (by assumption)] | (rw [if_neg (by simp_all)]))
theorem Mine.c_d1 (w : World) (loose : List Str) (mean : ExcName → Option Value) (mg mb : Str → Option Value) (news : List (Addr × Obj)) (y : Int) (t : Tok) : Cl w loose mean mg mb 1 71 [.int y t] news (RetI (d1 y)) := by
  w_on
  unfold Cl Claim
  k_fill
  intros; rename_i hret
  refine wpAny_call ?_
  k_dflt cell_enter
  repeat' (first
    | (k_unfold; (try dsimp only))
    | ((first
    | ((fail_if_success (fail_if_success (with_reducible show @ite _ _ _ _ _))); (first
      | (k_here; k_openite; first
  | (with_reducible refine ite_pos (by with_reducible assumption) ?_)
  | (with_reducible refine ite_neg (by with_reducible assumption) ?_)
  | (with_reducible refine ite_isFalse (by with_reducible assumption) ?_)
  | (with_reducible refine ite_dpos (by with_reducible assumption) ?_)
  | (with_reducible refine ite_dneg (by with_reducible assumption) ?_)
  | (with_reducible refine split_dec ?_ ?_ <;> intro _) | (with_reducible refine split_bool ?_ ?_ <;> intro _))))
    | ((fail_if_success (fail_if_success (with_reducible show wpAny _ _ (PySem.call (Value.ref _) _ _) _ _ _))); (first
      | (k_here; (fail_if_success (fail_if_success (with_reducible show wpAny _ _ (PySem.call (Value.ref 64) _ _) _ _ _))); k_dflt (refine use2 (c_ym _ _ _ _ _ _ _ _) ?_); k_whole; intro t9 h9 tk9 F9 N9; (try dsimp only); (try k_fold))
      | (k_here; (fail_if_success (fail_if_success (with_reducible show wpAny _ _ (PySem.call (Value.ref 57) _ _) _ _ _))); k_dflt (refine use2 (c_leap _ _ _ _ _ _ _ _) ?_); k_whole; intro h9 tk9 F9 N9; (try dsimp only); (try k_fold))
      | (k_here; (fail_if_success (fail_if_success (with_reducible show wpAny _ _ (PySem.call (Value.ref 28) _ _) _ _ _))); k_dflt (refine use2 (c_mid _ _ _ _ _ _ _ _) ?_); k_whole; intro t9 h9 tk9 F9 N9; (try dsimp only); (try k_fold))))
    | ((fail_if_success (fail_if_success (with_reducible show wpAny _ _ (storeName _ _ _) _ _ _))); (first
      | (k_here; (first | (with_reducible show wpAny _ _ (storeName _ _ (Value.int (_ + _) _)) _ _ _) | (with_reducible show wpAny _ _ (storeName _ _ (Value.int (_ - _) _)) _ _ _) | (with_reducible show wpAny _ _ (storeName _ _ (Value.int (_ * _) _)) _ _ _) | (with_reducible show wpAny _ _ (storeName _ _ (Value.int (Int.fdiv _ _) _)) _ _ _) | (with_reducible show wpAny _ _ (storeName _ _ (Value.int (Int.fmod _ _) _)) _ _ _)); k_dflt (refine gen_store ?_; intro z hz; refine' storeX_L ?F ?N ?_ ?a ?b; (case F => k_asm); (case N => k_asm); (case a => rfl); (case b => rfl); k_whole; intro h' F' N'; (try k_sweep)))))); (try dsimp only))
    | (walk1; (try dsimp only)) | fail "no step")
  all_goals (refine retI hret ?_ (by k_asm) (by k_asm) (by (intro p hp; repeat (first | with_reducible assumption | refine List.mem_cons_of_mem _ ?_))))
  all_goals (subst_vars; first | exact (if_pos (by assumption)).symm | exact (if_neg (by assumption)).symm)
theorem Mine.c_d2 (w : World) (loose : List Str) (mean : ExcName → Option Value) (mg mb : Str → Option Value) (news : List (Addr × Obj)) (y : Int) (t : Tok) : Cl w loose mean mg mb 2 78 [.int y t] news (RetI (d2 y)) := by
  w_on
  unfold Cl Claim
  k_fill
  intros; rename_i hret
  refine wpAny_call ?_
  k_dflt cell_enter
  repeat' (first
    | (k_unfold; (try dsimp only))
    | ((first
    | ((fail_if_success (fail_if_success (with_reducible show @ite _ _ _ _ _))); (first
      | (k_here; k_openite; first
  | (with_reducible refine ite_pos (by with_reducible assumption) ?_)
  | (with_reducible refine ite_neg (by with_reducible assumption) ?_)
  | (with_reducible refine ite_isFalse (by with_reducible assumption) ?_)
  | (with_reducible refine ite_dpos (by with_reducible assumption) ?_)
  | (with_reducible refine ite_dneg (by with_reducible assumption) ?_)
  | (with_reducible refine split_dec ?_ ?_ <;> intro _) | (with_reducible refine split_bool ?_ ?_ <;> intro _))))
    | ((fail_if_success (fail_if_success (with_reducible show wpAny _ _ (PySem.call (Value.ref _) _ _) _ _ _))); (first
      | (k_here; (fail_if_success (fail_if_success (with_reducible show wpAny _ _ (PySem.call (Value.ref 71) _ _) _ _ _))); k_dflt (refine use2 (c_d1 _ _ _ _ _ _ _ _) ?_); k_whole; intro t9 h9 tk9 F9 N9; (try dsimp only); (try k_fold))
      | (k_here; (fail_if_success (fail_if_success (with_reducible show wpAny _ _ (PySem.call (Value.ref 64) _ _) _ _ _))); k_dflt (refine use2 (c_ym _ _ _ _ _ _ _ _) ?_); k_whole; intro t9 h9 tk9 F9 N9; (try dsimp only); (try k_fold))
      | (k_here; (fail_if_success (fail_if_success (with_reducible show wpAny _ _ (PySem.call (Value.ref 57) _ _) _ _ _))); k_dflt (refine use2 (c_leap _ _ _ _ _ _ _ _) ?_); k_whole; intro h9 tk9 F9 N9; (try dsimp only); (try k_fold))
      | (k_here; (fail_if_success (fail_if_success (with_reducible show wpAny _ _ (PySem.call (Value.ref 28) _ _) _ _ _))); k_dflt (refine use2 (c_mid _ _ _ _ _ _ _ _) ?_); k_whole; intro t9 h9 tk9 F9 N9; (try dsimp only); (try k_fold))))
    | ((fail_if_success (fail_if_success (with_reducible show wpAny _ _ (storeName _ _ _) _ _ _))); (first
      | (k_here; (first | (with_reducible show wpAny _ _ (storeName _ _ (Value.int (_ + _) _)) _ _ _) | (with_reducible show wpAny _ _ (storeName _ _ (Value.int (_ - _) _)) _ _ _) | (with_reducible show wpAny _ _ (storeName _ _ (Value.int (_ * _) _)) _ _ _) | (with_reducible show wpAny _ _ (storeName _ _ (Value.int (Int.fdiv _ _) _)) _ _ _) | (with_reducible show wpAny _ _ (storeName _ _ (Value.int (Int.fmod _ _) _)) _ _ _)); k_dflt (refine gen_store ?_; intro z hz; refine' storeX_L ?F ?N ?_ ?a ?b; (case F => k_asm); (case N => k_asm); (case a => rfl); (case b => rfl); k_whole; intro h' F' N'; (try k_sweep)))))); (try dsimp only))
    | (walk1; (try dsimp only)) | fail "no step")
  all_goals (refine retI hret ?_ (by k_asm) (by k_asm) (by (intro p hp; repeat (first | with_reducible assumption | refine List.mem_cons_of_mem _ ?_))))
  all_goals (unfold d2; simp only [*, if_true, if_false, Bool.false_eq_true])
theorem Mine.c_long (w : World) (loose : List Str) (mean : ExcName → Option Value) (mg mb : Str → Option Value) (news : List (Addr × Obj)) (y : Int) (t : Tok) : Cl w loose mean mg mb 1 169 [.int y t] news (RetB (longB y)) := by
  w_on
  unfold Cl Claim
  k_fill
  intros; rename_i hret
  refine wpAny_call ?_
  k_dflt cell_enter
  repeat' (first
    | (k_unfold; (try dsimp only))
    | ((first
    | ((fail_if_success (fail_if_success (with_reducible show @ite _ _ _ _ _))); (first
      | (k_here; k_openite; first
  | (with_reducible refine ite_pos (by with_reducible assumption) ?_)
  | (with_reducible refine ite_neg (by with_reducible assumption) ?_)
  | (with_reducible refine ite_isFalse (by with_reducible assumption) ?_)
  | (with_reducible refine ite_dpos (by with_reducible assumption) ?_)
  | (with_reducible refine ite_dneg (by with_reducible assumption) ?_)
  | (with_reducible refine split_dec ?_ ?_ <;> intro _) | (with_reducible refine split_bool ?_ ?_ <;> intro _))))
    | ((fail_if_success (fail_if_success (with_reducible show wpAny _ _ (PySem.call (Value.ref _) _ _) _ _ _))); (first
      | (k_here; (fail_if_success (fail_if_success (with_reducible show wpAny _ _ (PySem.call (Value.ref 78) _ _) _ _ _))); k_dflt (refine use2 (c_d2 _ _ _ _ _ _ _ _) ?_); k_whole; intro t9 h9 tk9 F9 N9; (try dsimp only); (try k_fold))
      | (k_here; (fail_if_success (fail_if_success (with_reducible show wpAny _ _ (PySem.call (Value.ref 71) _ _) _ _ _))); k_dflt (refine use2 (c_d1 _ _ _ _ _ _ _ _) ?_); k_whole; intro t9 h9 tk9 F9 N9; (try dsimp only); (try k_fold))
      | (k_here; (fail_if_success (fail_if_success (with_reducible show wpAny _ _ (PySem.call (Value.ref 64) _ _) _ _ _))); k_dflt (refine use2 (c_ym _ _ _ _ _ _ _ _) ?_); k_whole; intro t9 h9 tk9 F9 N9; (try dsimp only); (try k_fold))
      | (k_here; (fail_if_success (fail_if_success (with_reducible show wpAny _ _ (PySem.call (Value.ref 57) _ _) _ _ _))); k_dflt (refine use2 (c_leap _ _ _ _ _ _ _ _) ?_); k_whole; intro h9 tk9 F9 N9; (try dsimp only); (try k_fold))
      | (k_here; (fail_if_success (fail_if_success (with_reducible show wpAny _ _ (PySem.call (Value.ref 28) _ _) _ _ _))); k_dflt (refine use2 (c_mid _ _ _ _ _ _ _ _) ?_); k_whole; intro t9 h9 tk9 F9 N9; (try dsimp only); (try k_fold))))
    | ((fail_if_success (fail_if_success (with_reducible show wpAny _ _ (storeName _ _ _) _ _ _))); (first
      | (k_here; (first | (with_reducible show wpAny _ _ (storeName _ _ (Value.int (_ + _) _)) _ _ _) | (with_reducible show wpAny _ _ (storeName _ _ (Value.int (_ - _) _)) _ _ _) | (with_reducible show wpAny _ _ (storeName _ _ (Value.int (_ * _) _)) _ _ _) | (with_reducible show wpAny _ _ (storeName _ _ (Value.int (Int.fdiv _ _) _)) _ _ _) | (with_reducible show wpAny _ _ (storeName _ _ (Value.int (Int.fmod _ _) _)) _ _ _)); k_dflt (refine gen_store ?_; intro z hz; refine' storeX_L ?F ?N ?_ ?a ?b; (case F => k_asm); (case N => k_asm); (case a => rfl); (case b => rfl); k_whole; intro h' F' N'; (try k_sweep)))))); (try dsimp only))
    | (walk1; (try dsimp only)) | fail "no step")
  all_goals (refine retB hret ?_ (by k_asm) (by k_asm) (by (intro p hp; repeat (first | with_reducible assumption | refine List.mem_cons_of_mem _ ?_))))
  all_goals rfl
theorem Mine.c_tj7 (w : World) (loose : List Str) (mean : ExcName → Option Value) (mg mb : Str → Option Value) (news : List (Addr × Obj)) (y d : Int) (t t2 t3 : Tok) : Cl w loose mean mg mb 4 106 [.int y t, .int 7 t2, .int d t3] news (RetI (tj7 y d)) := by
  w_on
  unfold Cl Claim
  k_fill
  intros; rename_i hret
  refine wpAny_call ?_
  k_dflt cell_enter
  repeat' (first
    | (k_unfold; (try dsimp only))
    | ((first
    | ((fail_if_success (fail_if_success (with_reducible show @ite _ _ _ _ _))); (first
      | (k_here; k_openite; first
  | (with_reducible refine ite_pos (by with_reducible assumption) ?_)
  | (with_reducible refine ite_neg (by with_reducible assumption) ?_)
  | (with_reducible refine ite_isFalse (by with_reducible assumption) ?_)
  | (with_reducible refine ite_dpos (by with_reducible assumption) ?_)
  | (with_reducible refine ite_dneg (by with_reducible assumption) ?_)
  | (with_reducible refine split_dec ?_ ?_ <;> intro _) | (with_reducible refine split_bool ?_ ?_ <;> intro _))))
    | ((fail_if_success (fail_if_success (with_reducible show wpAny _ _ (PySem.call (Value.ref _) _ _) _ _ _))); (first
      | (k_here; (fail_if_success (fail_if_success (with_reducible show wpAny _ _ (PySem.call (Value.ref 169) _ _) _ _ _))); k_dflt (refine use2 (c_long _ _ _ _ _ _ _ _) ?_); k_whole; intro h9 tk9 F9 N9; (try dsimp only); (try k_fold))
      | (k_here; (fail_if_success (fail_if_success (with_reducible show wpAny _ _ (PySem.call (Value.ref 78) _ _) _ _ _))); k_dflt (refine use2 (c_d2 _ _ _ _ _ _ _ _) ?_); k_whole; intro t9 h9 tk9 F9 N9; (try dsimp only); (try k_fold))
      | (k_here; (fail_if_success (fail_if_success (with_reducible show wpAny _ _ (PySem.call (Value.ref 71) _ _) _ _ _))); k_dflt (refine use2 (c_d1 _ _ _ _ _ _ _ _) ?_); k_whole; intro t9 h9 tk9 F9 N9; (try dsimp only); (try k_fold))
      | (k_here; (fail_if_success (fail_if_success (with_reducible show wpAny _ _ (PySem.call (Value.ref 64) _ _) _ _ _))); k_dflt (refine use2 (c_ym _ _ _ _ _ _ _ _) ?_); k_whole; intro t9 h9 tk9 F9 N9; (try dsimp only); (try k_fold))
      | (k_here; (fail_if_success (fail_if_success (with_reducible show wpAny _ _ (PySem.call (Value.ref 57) _ _) _ _ _))); k_dflt (refine use2 (c_leap _ _ _ _ _ _ _ _) ?_); k_whole; intro h9 tk9 F9 N9; (try dsimp only); (try k_fold))
      | (k_here; (fail_if_success (fail_if_success (with_reducible show wpAny _ _ (PySem.call (Value.ref 28) _ _) _ _ _))); k_dflt (refine use2 (c_mid _ _ _ _ _ _ _ _) ?_); k_whole; intro t9 h9 tk9 F9 N9; (try dsimp only); (try k_fold))))
    | ((fail_if_success (fail_if_success (with_reducible show wpAny _ _ (storeName _ _ _) _ _ _))); (first
      | (k_here; (first | (with_reducible show wpAny _ _ (storeName _ _ (Value.int (_ + _) _)) _ _ _) | (with_reducible show wpAny _ _ (storeName _ _ (Value.int (_ - _) _)) _ _ _) | (with_reducible show wpAny _ _ (storeName _ _ (Value.int (_ * _) _)) _ _ _) | (with_reducible show wpAny _ _ (storeName _ _ (Value.int (Int.fdiv _ _) _)) _ _ _) | (with_reducible show wpAny _ _ (storeName _ _ (Value.int (Int.fmod _ _) _)) _ _ _)); k_dflt (refine gen_store ?_; intro z hz; refine' storeX_L ?F ?N ?_ ?a ?b; (case F => k_asm); (case N => k_asm); (case a => rfl); (case b => rfl); k_whole; intro h' F' N'; (try k_sweep)))))); (try dsimp only))
    | (walk1; (try dsimp only)) | fail "no step")
  all_goals (refine retI hret ?_ (by k_asm) (by k_asm) (by (intro p hp; repeat (first | with_reducible assumption | refine List.mem_cons_of_mem _ ?_))))
  all_goals (subst_vars; rfl)
theorem Mine.c_yd (w : World) (loose : List Str) (mean : ExcName → Option Value) (mg mb : Str → Option Value) (news : List (Addr × Obj)) (y : Int) (t : Tok) : Cl w loose mean mg mb 5 85 [.int y t] news (RetI (ydI y)) := by
  w_on
  unfold Cl Claim
  k_fill
  intros; rename_i hret
  refine wpAny_call ?_
  k_dflt cell_enter
  repeat' (first
    | (k_unfold; (try dsimp only))
    | ((first
    | ((fail_if_success (fail_if_success (with_reducible show @ite _ _ _ _ _))); (first
      | (k_here; k_openite; first
  | (with_reducible refine ite_pos (by with_reducible assumption) ?_)
  | (with_reducible refine ite_neg (by with_reducible assumption) ?_)
  | (with_reducible refine ite_isFalse (by with_reducible assumption) ?_)
  | (with_reducible refine ite_dpos (by with_reducible assumption) ?_)
  | (with_reducible refine ite_dneg (by with_reducible assumption) ?_)
  | (with_reducible refine split_dec ?_ ?_ <;> intro _) | (with_reducible refine split_bool ?_ ?_ <;> intro _))))
    | ((fail_if_success (fail_if_success (with_reducible show wpAny _ _ (PySem.call (Value.ref _) _ _) _ _ _))); (first
      | (k_here; (fail_if_success (fail_if_success (with_reducible show wpAny _ _ (PySem.call (Value.ref 106) [Value.int _ _, Value.int 7 _, Value.int _ _] _) _ _ _))); k_dflt (refine use2 (c_tj7 _ _ _ _ _ _ _ _ _ _ _ ) ?_); k_whole; intro t9 h9 tk9 F9 N9; (try dsimp only); (try k_fold))
      | (k_here; (fail_if_success (fail_if_success (with_reducible show wpAny _ _ (PySem.call (Value.ref 169) _ _) _ _ _))); k_dflt (refine use2 (c_long _ _ _ _ _ _ _ _) ?_); k_whole; intro h9 tk9 F9 N9; (try dsimp only); (try k_fold))
      | (k_here; (fail_if_success (fail_if_success (with_reducible show wpAny _ _ (PySem.call (Value.ref 78) _ _) _ _ _))); k_dflt (refine use2 (c_d2 _ _ _ _ _ _ _ _) ?_); k_whole; intro t9 h9 tk9 F9 N9; (try dsimp only); (try k_fold))
      | (k_here; (fail_if_success (fail_if_success (with_reducible show wpAny _ _ (PySem.call (Value.ref 71) _ _) _ _ _))); k_dflt (refine use2 (c_d1 _ _ _ _ _ _ _ _) ?_); k_whole; intro t9 h9 tk9 F9 N9; (try dsimp only); (try k_fold))
      | (k_here; (fail_if_success (fail_if_success (with_reducible show wpAny _ _ (PySem.call (Value.ref 64) _ _) _ _ _))); k_dflt (refine use2 (c_ym _ _ _ _ _ _ _ _) ?_); k_whole; intro t9 h9 tk9 F9 N9; (try dsimp only); (try k_fold))
      | (k_here; (fail_if_success (fail_if_success (with_reducible show wpAny _ _ (PySem.call (Value.ref 57) _ _) _ _ _))); k_dflt (refine use2 (c_leap _ _ _ _ _ _ _ _) ?_); k_whole; intro h9 tk9 F9 N9; (try dsimp only); (try k_fold))
      | (k_here; (fail_if_success (fail_if_success (with_reducible show wpAny _ _ (PySem.call (Value.ref 28) _ _) _ _ _))); k_dflt (refine use2 (c_mid _ _ _ _ _ _ _ _) ?_); k_whole; intro t9 h9 tk9 F9 N9; (try dsimp only); (try k_fold))))
    | ((fail_if_success (fail_if_success (with_reducible show wpAny _ _ (storeName _ _ _) _ _ _))); (first
      | (k_here; (first | (with_reducible show wpAny _ _ (storeName _ _ (Value.int (_ + _) _)) _ _ _) | (with_reducible show wpAny _ _ (storeName _ _ (Value.int (_ - _) _)) _ _ _) | (with_reducible show wpAny _ _ (storeName _ _ (Value.int (_ * _) _)) _ _ _) | (with_reducible show wpAny _ _ (storeName _ _ (Value.int (Int.fdiv _ _) _)) _ _ _) | (with_reducible show wpAny _ _ (storeName _ _ (Value.int (Int.fmod _ _) _)) _ _ _)); k_dflt (refine gen_store ?_; intro z hz; refine' storeX_L ?F ?N ?_ ?a ?b; (case F => k_asm); (case N => k_asm); (case a => rfl); (case b => rfl); k_whole; intro h' F' N'; (try k_sweep)))))); (try dsimp only))
    | (walk1; (try dsimp only)) | fail "no step")
  all_goals (refine retI hret ?_ (by k_asm) (by k_asm) (by (intro p hp; repeat (first | with_reducible assumption | refine List.mem_cons_of_mem _ ?_))))
  all_goals (subst_vars; rfl)
theorem Mine.c_ml (w : World) (loose : List Str) (mean : ExcName → Option Value) (mg mb : Str → Option Value) (news : List (Addr × Obj)) (y m : Int) (t t2 : Tok) (hm : ¬ 13 < m) : Cl w loose mean mg mb 6 92 [.int y t, .int m t2] news (RetI (mlI y m)) := by
  w_on
  unfold Cl Claim
  k_fill
  intros; rename_i hret
  refine wpAny_call ?_
  k_dflt cell_enter
  repeat' (first
    | (k_unfold; (try dsimp only))
    | ((first
    | ((fail_if_success (fail_if_success (with_reducible show @ite _ _ _ _ _))); (first
      | (k_here; k_openite; first
  | (with_reducible refine ite_pos (by with_reducible assumption) ?_)
  | (with_reducible refine ite_neg (by with_reducible assumption) ?_)
  | (with_reducible refine ite_isFalse (by with_reducible assumption) ?_)
  | (with_reducible refine ite_dpos (by with_reducible assumption) ?_)
  | (with_reducible refine ite_dneg (by with_reducible assumption) ?_)
  | (with_reducible refine split_dec ?_ ?_ <;> intro _) | (with_reducible refine split_bool ?_ ?_ <;> intro _))))
    | ((fail_if_success (fail_if_success (with_reducible show wpAny _ _ (PySem.call (Value.ref _) _ _) _ _ _))); (first
      | (k_here; (fail_if_success (fail_if_success (with_reducible show wpAny _ _ (PySem.call (Value.ref 106) [Value.int _ _, Value.int 7 _, Value.int _ _] _) _ _ _))); k_dflt (refine use2 (c_tj7 _ _ _ _ _ _ _ _ _ _ _ ) ?_); k_whole; intro t9 h9 tk9 F9 N9; (try dsimp only); (try k_fold))
      | (k_here; (fail_if_success (fail_if_success (with_reducible show wpAny _ _ (PySem.call (Value.ref 85) _ _) _ _ _))); k_dflt (refine use2 (c_yd _ _ _ _ _ _ _ _) ?_); k_whole; intro t9 h9 tk9 F9 N9; (try dsimp only); (try k_fold))
      | (k_here; (fail_if_success (fail_if_success (with_reducible show wpAny _ _ (PySem.call (Value.ref 169) _ _) _ _ _))); k_dflt (refine use2 (c_long _ _ _ _ _ _ _ _) ?_); k_whole; intro h9 tk9 F9 N9; (try dsimp only); (try k_fold))
      | (k_here; (fail_if_success (fail_if_success (with_reducible show wpAny _ _ (PySem.call (Value.ref 78) _ _) _ _ _))); k_dflt (refine use2 (c_d2 _ _ _ _ _ _ _ _) ?_); k_whole; intro t9 h9 tk9 F9 N9; (try dsimp only); (try k_fold))
      | (k_here; (fail_if_success (fail_if_success (with_reducible show wpAny _ _ (PySem.call (Value.ref 71) _ _) _ _ _))); k_dflt (refine use2 (c_d1 _ _ _ _ _ _ _ _) ?_); k_whole; intro t9 h9 tk9 F9 N9; (try dsimp only); (try k_fold))
      | (k_here; (fail_if_success (fail_if_success (with_reducible show wpAny _ _ (PySem.call (Value.ref 64) _ _) _ _ _))); k_dflt (refine use2 (c_ym _ _ _ _ _ _ _ _) ?_); k_whole; intro t9 h9 tk9 F9 N9; (try dsimp only); (try k_fold))
      | (k_here; (fail_if_success (fail_if_success (with_reducible show wpAny _ _ (PySem.call (Value.ref 57) _ _) _ _ _))); k_dflt (refine use2 (c_leap _ _ _ _ _ _ _ _) ?_); k_whole; intro h9 tk9 F9 N9; (try dsimp only); (try k_fold))
      | (k_here; (fail_if_success (fail_if_success (with_reducible show wpAny _ _ (PySem.call (Value.ref 28) _ _) _ _ _))); k_dflt (refine use2 (c_mid _ _ _ _ _ _ _ _) ?_); k_whole; intro t9 h9 tk9 F9 N9; (try dsimp only); (try k_fold))))
    | ((fail_if_success (fail_if_success (with_reducible show wpAny _ _ (storeName _ _ _) _ _ _))); (first
      | (k_here; (first | (with_reducible show wpAny _ _ (storeName _ _ (Value.int (_ + _) _)) _ _ _) | (with_reducible show wpAny _ _ (storeName _ _ (Value.int (_ - _) _)) _ _ _) | (with_reducible show wpAny _ _ (storeName _ _ (Value.int (_ * _) _)) _ _ _) | (with_reducible show wpAny _ _ (storeName _ _ (Value.int (Int.fdiv _ _) _)) _ _ _) | (with_reducible show wpAny _ _ (storeName _ _ (Value.int (Int.fmod _ _) _)) _ _ _)); k_dflt (refine gen_store ?_; intro z hz; refine' storeX_L ?F ?N ?_ ?a ?b; (case F => k_asm); (case N => k_asm); (case a => rfl); (case b => rfl); k_whole; intro h' F' N'; (try k_sweep)))))); (try dsimp only))
    | (walk1; (try dsimp only)) | fail "no step")
  all_goals (refine retI hret ?_ (by k_asm) (by k_asm) (by (intro p hp; repeat (first | with_reducible assumption | refine List.mem_cons_of_mem _ ?_))))
  all_goals (unfold mlI; simp only [*, if_true, if_false, Bool.false_eq_true, true_and, false_and, and_true, and_false, and_self, Bool.true_eq_false])
-- theorem ite_dpos {c : Prop} [Decidable c] {a b : Prop} (hc : c) (h : a) : if decide c = true then a else b := by rw [if_pos (decide_eq_true hc)]; exact h
-- theorem ite_dneg {c : Prop} [Decidable c] {a b : Prop} (hc : ¬ c) (h : b) : if decide c = true then a else b := by rw [if_neg (by rw [decide_eq_true_eq]; exact hc)]; exact h
theorem Mine.c_md (w : World) (loose : List Str) (mean : ExcName → Option Value) (mg mb : Str → Option Value) (news : List (Addr × Obj)) (y m : Int) (t t2 : Tok) (hm : ¬ 13 < m) : Cl w loose mean mg mb 7 99 [.int y t, .int m t2] news (RetI (mlI y m)) := by
  w_on
  unfold Cl Claim
  k_fill
  intros; rename_i hret
  refine wpAny_call ?_
  k_dflt cell_enter
  repeat' (first
    | (k_unfold; (try dsimp only))
    | ((first
    | ((fail_if_success (fail_if_success (with_reducible show @ite _ _ _ _ _))); (first
      | (k_here; k_openite; first
  | (with_reducible refine ite_pos (by with_reducible assumption) ?_)
  | (with_reducible refine ite_neg (by with_reducible assumption) ?_)
  | (with_reducible refine ite_isFalse (by with_reducible assumption) ?_)
  | (with_reducible refine ite_dpos (by with_reducible assumption) ?_)
  | (with_reducible refine ite_dneg (by with_reducible assumption) ?_)
  | (with_reducible refine split_dec ?_ ?_ <;> intro _) | (with_reducible refine split_bool ?_ ?_ <;> intro _))))
    | ((fail_if_success (fail_if_success (with_reducible show wpAny _ _ (PySem.call (Value.ref _) _ _) _ _ _))); (first
      | (k_here; (fail_if_success (fail_if_success (with_reducible show wpAny _ _ (PySem.call (Value.ref 106) [Value.int _ _, Value.int 7 _, Value.int _ _] _) _ _ _))); k_dflt (refine use2 (c_tj7 _ _ _ _ _ _ _ _ _ _ _ ) ?_); k_whole; intro t9 h9 tk9 F9 N9; (try dsimp only); (try k_fold))
      | (k_here; (fail_if_success (fail_if_success (with_reducible show wpAny _ _ (PySem.call (Value.ref 92) _ _) _ _ _))); k_dflt (refine use2 (c_ml _ _ _ _ _ _ _ _ _ _ (by first | with_reducible assumption | decide | omega)) ?_); k_whole; intro t9 h9 tk9 F9 N9; (try dsimp only); (try k_fold))
      | (k_here; (fail_if_success (fail_if_success (with_reducible show wpAny _ _ (PySem.call (Value.ref 85) _ _) _ _ _))); k_dflt (refine use2 (c_yd _ _ _ _ _ _ _ _) ?_); k_whole; intro t9 h9 tk9 F9 N9; (try dsimp only); (try k_fold))
      | (k_here; (fail_if_success (fail_if_success (with_reducible show wpAny _ _ (PySem.call (Value.ref 169) _ _) _ _ _))); k_dflt (refine use2 (c_long _ _ _ _ _ _ _ _) ?_); k_whole; intro h9 tk9 F9 N9; (try dsimp only); (try k_fold))
      | (k_here; (fail_if_success (fail_if_success (with_reducible show wpAny _ _ (PySem.call (Value.ref 78) _ _) _ _ _))); k_dflt (refine use2 (c_d2 _ _ _ _ _ _ _ _) ?_); k_whole; intro t9 h9 tk9 F9 N9; (try dsimp only); (try k_fold))
      | (k_here; (fail_if_success (fail_if_success (with_reducible show wpAny _ _ (PySem.call (Value.ref 71) _ _) _ _ _))); k_dflt (refine use2 (c_d1 _ _ _ _ _ _ _ _) ?_); k_whole; intro t9 h9 tk9 F9 N9; (try dsimp only); (try k_fold))
      | (k_here; (fail_if_success (fail_if_success (with_reducible show wpAny _ _ (PySem.call (Value.ref 64) _ _) _ _ _))); k_dflt (refine use2 (c_ym _ _ _ _ _ _ _ _) ?_); k_whole; intro t9 h9 tk9 F9 N9; (try dsimp only); (try k_fold))
      | (k_here; (fail_if_success (fail_if_success (with_reducible show wpAny _ _ (PySem.call (Value.ref 57) _ _) _ _ _))); k_dflt (refine use2 (c_leap _ _ _ _ _ _ _ _) ?_); k_whole; intro h9 tk9 F9 N9; (try dsimp only); (try k_fold))
      | (k_here; (fail_if_success (fail_if_success (with_reducible show wpAny _ _ (PySem.call (Value.ref 28) _ _) _ _ _))); k_dflt (refine use2 (c_mid _ _ _ _ _ _ _ _) ?_); k_whole; intro t9 h9 tk9 F9 N9; (try dsimp only); (try k_fold))))); (try dsimp only))
    | (walk1; (try dsimp only)) | fail "no step")
  all_goals (refine retI hret ?_ (by k_asm) (by k_asm) (by (intro p hp; repeat (first | with_reducible assumption | refine List.mem_cons_of_mem _ ?_))))
  all_goals rfl
theorem Mine.ymX (y : Int) : 12 ≤ ymI y ∧ ymI y ≤ 13 := by unfold ymI; split <;> decide
noncomputable def Mine.tjF (y init lo : Int) (n : Nat) : Int := List.foldl (fun a' k' => a' + mlI y k') init (rangeKs lo n)
noncomputable def Mine.tjI (y m d : Int) : Int := midI (if m < 7 then tjF y (tjF y (347996 + d1 y + d2 y + d + 1) 7 (ymI y + 1 - 7).toNat) 1 (m - 1).toNat else tjF y (347996 + d1 y + d2 y + d + 1) 7 (m - 7).toNat)
abbrev Mine.RetYm (x : Int) (news : List (Addr × Obj)) (h₀ : Heap) (L : Addr) (m : Str → Option Value) (s : Shared) (Q : Value → Shared → Prop) : Prop :=
  ∀ (n : Int) (t : Tok) (h' : Heap) (tk' : Nat), x = n → 12 ≤ n → n ≤ 13 → Fr h₀ L h' m → News h₀ L h' news → Q (.int n t) { s with heap := h', toks := tk' }
theorem Mine.c_ymN (w : World) (loose : List Str) (mean : ExcName → Option Value) (mg mb : Str → Option Value) (news : List (Addr × Obj)) (y : Int) (t : Tok) : Cl w loose mean mg mb 2 64 [.int y t] news (RetYm (ymI y)) := by
  intro dp un gd cn cs ad ccd cl outer A₀ base h₀ L m s Q E B F X N T hk hd hu hret
  exact c_ym w loose mean mg mb news y t dp un gd cn cs ad ccd cl outer A₀ base h₀ L m s Q E B F X N T hk hd hu fun t h' tk' F N => hret _ t h' tk' rfl (ymX y).1 (ymX y).2 F N
theorem Mine.c_tj (w : World) (loose : List Str) (mean : ExcName → Option Value) (mg mb : Str → Option Value) (news : List (Addr × Obj)) (y m d : Int) (t t2 t3 : Tok) (hm : ¬ 13 < m) (hm0 : 0 < m) : Cl w loose mean mg mb 8 106 [.int y t, .int m t2, .int d t3] news (RetI (tjI y m d)) := by
  w_on
  unfold Cl Claim
  k_fill
  intros; rename_i hret
  refine wpAny_call ?_
  k_dflt cell_enter
  repeat' (first
    | (k_unfold; (try dsimp only))
    | ((first
    | ((fail_if_success (fail_if_success (with_reducible show @ite _ _ _ _ _))); (first
      | (k_here; k_openite; first
  | (with_reducible refine ite_pos (by with_reducible assumption) ?_)
  | (with_reducible refine ite_neg (by with_reducible assumption) ?_)
  | (with_reducible refine ite_isFalse (by with_reducible assumption) ?_)
  | (with_reducible refine ite_dpos (by with_reducible assumption) ?_)
  | (with_reducible refine ite_dneg (by with_reducible assumption) ?_)
  | (with_reducible refine split_dec ?_ ?_ <;> intro _) | (with_reducible refine split_bool ?_ ?_ <;> intro _))))
    | ((fail_if_success (fail_if_success (with_reducible show wpAny _ _ (PySem.call (Value.ref _) _ _) _ _ _))); (first
      | (k_here; (fail_if_success (fail_if_success (with_reducible show wpAny _ _ (PySem.call (Value.ref 106) [Value.int _ _, Value.int 7 _, Value.int _ _] _) _ _ _))); k_dflt (refine use2 (c_tj7 _ _ _ _ _ _ _ _ _ _ _ ) ?_); k_whole; intro t9 h9 tk9 F9 N9; (try dsimp only); (try k_fold))
      | (k_here; (fail_if_success (fail_if_success (with_reducible show wpAny _ _ (PySem.call (Value.ref 64) _ _) _ _ _))); k_dflt (refine use2 (c_ymN _ _ _ _ _ _ _ _ ) ?_); k_whole; intro n9 t9 h9 tk9 hn9 hl9 hu9 F9 N9; (try dsimp only); (try k_fold))
      | (k_here; (fail_if_success (fail_if_success (with_reducible show wpAny _ _ (PySem.call (Value.ref 99) _ _) _ _ _))); k_dflt (refine use2 (c_md _ _ _ _ _ _ _ _ _ _ (by first | with_reducible assumption | decide | omega)) ?_); k_whole; intro t9 h9 tk9 F9 N9; (try dsimp only); (try k_fold))
      | (k_here; (fail_if_success (fail_if_success (with_reducible show wpAny _ _ (PySem.call (Value.ref 92) _ _) _ _ _))); k_dflt (refine use2 (c_ml _ _ _ _ _ _ _ _ _ _ (by first | with_reducible assumption | decide | omega)) ?_); k_whole; intro t9 h9 tk9 F9 N9; (try dsimp only); (try k_fold))
      | (k_here; (fail_if_success (fail_if_success (with_reducible show wpAny _ _ (PySem.call (Value.ref 85) _ _) _ _ _))); k_dflt (refine use2 (c_yd _ _ _ _ _ _ _ _) ?_); k_whole; intro t9 h9 tk9 F9 N9; (try dsimp only); (try k_fold))
      | (k_here; (fail_if_success (fail_if_success (with_reducible show wpAny _ _ (PySem.call (Value.ref 169) _ _) _ _ _))); k_dflt (refine use2 (c_long _ _ _ _ _ _ _ _) ?_); k_whole; intro h9 tk9 F9 N9; (try dsimp only); (try k_fold))
      | (k_here; (fail_if_success (fail_if_success (with_reducible show wpAny _ _ (PySem.call (Value.ref 78) _ _) _ _ _))); k_dflt (refine use2 (c_d2 _ _ _ _ _ _ _ _) ?_); k_whole; intro t9 h9 tk9 F9 N9; (try dsimp only); (try k_fold))
      | (k_here; (fail_if_success (fail_if_success (with_reducible show wpAny _ _ (PySem.call (Value.ref 71) _ _) _ _ _))); k_dflt (refine use2 (c_d1 _ _ _ _ _ _ _ _) ?_); k_whole; intro t9 h9 tk9 F9 N9; (try dsimp only); (try k_fold))
      | (k_here; (fail_if_success (fail_if_success (with_reducible show wpAny _ _ (PySem.call (Value.ref 64) _ _) _ _ _))); k_dflt (refine use2 (c_ym _ _ _ _ _ _ _ _) ?_); k_whole; intro t9 h9 tk9 F9 N9; (try dsimp only); (try k_fold))
      | (k_here; (fail_if_success (fail_if_success (with_reducible show wpAny _ _ (PySem.call (Value.ref 57) _ _) _ _ _))); k_dflt (refine use2 (c_leap _ _ _ _ _ _ _ _) ?_); k_whole; intro h9 tk9 F9 N9; (try dsimp only); (try k_fold))
      | (k_here; (fail_if_success (fail_if_success (with_reducible show wpAny _ _ (PySem.call (Value.ref 28) _ _) _ _ _))); k_dflt (refine use2 (c_mid _ _ _ _ _ _ _ _) ?_); k_whole; intro t9 h9 tk9 F9 N9; (try dsimp only); (try k_fold))))); (try dsimp only))
    | (walk1; (try dsimp only)) | fail "no step")
  all_goals (refine retI hret ?_ (by k_asm) (by k_asm) (by (intro p hp; repeat (first | with_reducible assumption | refine List.mem_cons_of_mem _ ?_))))
  all_goals (subst_vars; unfold tjI tjF; first | rw [if_pos (by assumption)] | rw [if_neg (by assumption)])
-- theorem ite_dpos {c : Prop} [Decidable c] {a b : Prop} (hc : c) (h : a) : if decide c = true then a else b := by rw [if_pos (decide_eq_true hc)]; exact h
-- theorem ite_dneg {c : Prop} [Decidable c] {a b : Prop} (hc : ¬ c) (h : b) : if decide c = true then a else b := by rw [if_neg (by rw [decide_eq_true_eq]; exact hc)]; exact h
noncomputable def Mine.longN (n : Nat) : Int := ((List.foldl (fun l' k' => if longB k' = true then l' ++ [k'] else if longB k' = false then l' else l') ([] : List Int) (rangeKs 1 n)).length : Int)
noncomputable def Mine.nyE2 (y q p : Int) : Int := if longB (y - 1) = true then if (Int.fmod q 7 == 1) = true then if 15 * 1080 + 589 ≤ p then q + 1 else q else q else q
noncomputable def Mine.nyE (y q p : Int) : Int := if 18 * 1080 ≤ p then q + 1 else if (!longB y) = true then if (Int.fmod q 7 == 2) = true then if 9 * 1080 + 204 ≤ p then q + 1 else nyE2 y q p else nyE2 y q p else nyE2 y q p
noncomputable def Mine.nyF (d : Int) : Int := 347997 + if ([0, 3, 5].any fun x => x == Int.fmod d 7) = true then d + 1 else d
noncomputable def Mine.nyG (y n : Int) : Int := nyF (nyE y (Int.fdiv (31524 + 765433 * (235 * Int.fdiv (y - 1) 19 + 12 * Int.fmod (y - 1) 19 + n)) 25920) (Int.fmod (31524 + 765433 * (235 * Int.fdiv (y - 1) 19 + 12 * Int.fmod (y - 1) 19 + n)) 25920))
noncomputable def Mine.nyI (y : Int) : Int := nyG y (longN (Int.fmod (y - 1) 19 + 1 - 1).toNat)
/-- a test went by: its answer is b0; frame and ledger stand -/
def Mine.CutB (b0 : Bool) (h₀ : Heap) (L : Addr) (m : Str → Option Value) (news : List (Addr × Obj)) (s : Shared) (b : Bool) (s' : Shared) : Prop :=
  ∃ (h' : Heap) (tk' : Nat), b = b0 ∧ s' = { s with heap := h', toks := tk' } ∧ Fr h₀ L h' m ∧ News h₀ L h' news
theorem Mine.cutB (b0 : Bool) {M : Model} {A : Around} {E : Value → Shared → Prop} {Q : Bool → Shared → Prop} {s : Shared} {h₀ : Heap} {L : Addr} {m : Str → Option Value} {news : List (Addr × Obj)} {cm : Sem Bool}
    (_F : Fr h₀ L s.heap m) (_N : News h₀ L s.heap news) (h : wpAny M A cm (fun b s' => CutB b0 h₀ L m news s b s') E s)
    (k : ∀ (h' : Heap) (tk' : Nat), Fr h₀ L h' m → News h₀ L h' news → Q b0 { s with heap := h', toks := tk' }) : wpAny M A cm Q E s := by
  refine wpAny_mono h (fun v s' hq => ?_) fun _ _ e => e
  obtain ⟨h', tk', hv, hs, F, N⟩ := hq
  subst hv; subst hs; exact k h' tk' F N
theorem Mine.CutB.intro {b0 b : Bool} {h₀ h' : Heap} {L : Addr} {m : Str → Option Value} {news : List (Addr × Obj)} {s : Shared} {tk' : Nat} (hb : b = b0) (F : Fr h₀ L h' m) (N : News h₀ L h' news) : CutB b0 h₀ L m news s b { s with heap := h', toks := tk' } := ⟨h', tk', hb, rfl, F, N⟩
noncomputable def Mine.ny1B (y q p : Int) : Bool := !longB y && (Int.fmod q 7 == 2) && decide (9 * 1080 + 204 ≤ p)
noncomputable def Mine.ny2B (y q p : Int) : Bool := longB (y - 1) && (Int.fmod q 7 == 1) && decide (15 * 1080 + 589 ≤ p)
theorem Mine.nyE_b (y q p : Int) : nyE y q p = if 18 * 1080 ≤ p then q + 1 else if ny1B y q p = true then q + 1 else if ny2B y q p = true then q + 1 else q := by
  unfold nyE nyE2 ny1B ny2B
  cases longB y <;> cases longB (y - 1) <;> cases (Int.fmod q 7 == 2) <;> cases (Int.fmod q 7 == 1) <;> simp
theorem Mine.cutNy1 {y q p : Int} {t1 t2 t3 : Tok} {M : Model} {A : Around} {E : Value → Shared → Prop} {Q : Bool → Shared → Prop} {s : Shared} {h₀ : Heap} {L : Addr} {m : Str → Option Value} {news : List (Addr × Obj)} {cm : Sem Bool}
    (F : Fr h₀ L s.heap m) (N : News h₀ L s.heap news) (_hy : m (Str.ofString "year") = some (.int y t1)) (_hq : m (Str.ofString "day") = some (.int q t2)) (_hp : m (Str.ofString "part") = some (.int p t3))
    (h : wpAny M A cm (fun b s' => CutB (ny1B y q p) h₀ L m news s b s') E s)
    (k : ∀ (h' : Heap) (tk' : Nat), Fr h₀ L h' m → News h₀ L h' news → Q (ny1B y q p) { s with heap := h', toks := tk' }) : wpAny M A cm Q E s := cutB _ F N h k
theorem Mine.cutNy2 {y q p : Int} {t1 t2 t3 : Tok} {M : Model} {A : Around} {E : Value → Shared → Prop} {Q : Bool → Shared → Prop} {s : Shared} {h₀ : Heap} {L : Addr} {m : Str → Option Value} {news : List (Addr × Obj)} {cm : Sem Bool}
    (F : Fr h₀ L s.heap m) (N : News h₀ L s.heap news) (_hy : m (Str.ofString "year") = some (.int y t1)) (_hq : m (Str.ofString "day") = some (.int q t2)) (_hp : m (Str.ofString "part") = some (.int p t3))
    (h : wpAny M A cm (fun b s' => CutB (ny2B y q p) h₀ L m news s b s') E s)
    (k : ∀ (h' : Heap) (tk' : Nat), Fr h₀ L h' m → News h₀ L h' news → Q (ny2B y q p) { s with heap := h', toks := tk' }) : wpAny M A cm Q E s := cutB _ F N h k
theorem Mine.ny1B_t {y q p : Int} (h1 : (!longB y) = true) (h2 : (Int.fmod q 7 == 2) = true) (h3 : 9 * 1080 + 204 ≤ p) : true = ny1B y q p := by unfold ny1B; rw [h1, h2, decide_eq_true h3]; rfl
theorem Mine.ny1B_f {y q p : Int} (h1 : (!longB y) = true) (h2 : (Int.fmod q 7 == 2) = true) (h3 : ¬ 9 * 1080 + 204 ≤ p) : false = ny1B y q p := by unfold ny1B; rw [h1, h2, decide_eq_false h3]; rfl
theorem Mine.ny1B_g {y q p : Int} (h1 : (!longB y) = true) (h2 : (Int.fmod q 7 == 2) = false) : false = ny1B y q p := by unfold ny1B; rw [h1, h2]; rfl
theorem Mine.ny1B_h {y q p : Int} (h1 : (!longB y) = false) : false = ny1B y q p := by unfold ny1B; rw [h1]; rfl
theorem Mine.ny2B_t {y q p : Int} (h1 : longB (y - 1) = true) (h2 : (Int.fmod q 7 == 1) = true) (h3 : 15 * 1080 + 589 ≤ p) : true = ny2B y q p := by unfold ny2B; rw [h1, h2, decide_eq_true h3]; rfl
theorem Mine.ny2B_f {y q p : Int} (h1 : longB (y - 1) = true) (h2 : (Int.fmod q 7 == 1) = true) (h3 : ¬ 15 * 1080 + 589 ≤ p) : false = ny2B y q p := by unfold ny2B; rw [h1, h2, decide_eq_false h3]; rfl
theorem Mine.ny2B_g {y q p : Int} (h1 : longB (y - 1) = true) (h2 : (Int.fmod q 7 == 1) = false) : false = ny2B y q p := by unfold ny2B; rw [h1, h2]; rfl
theorem Mine.ny2B_h {y q p : Int} (h1 : longB (y - 1) = false) : false = ny2B y q p := by unfold ny2B; rw [h1]; rfl
theorem Mine.ne_of_false {b : Bool} (h : b = false) : ¬ b = true := by rw [h]; decide
/-- a statement went by: the name n holds an int of which P is known; else frame and ledger stand -/
def Mine.CutS (n : Str) (P : Int → Prop) (h₀ : Heap) (L : Addr) (m : Str → Option Value) (news : List (Addr × Obj)) (s : Shared) (fl : Flow) (s' : Shared) : Prop :=
  ∃ (z : Int) (t : Tok) (h' : Heap) (tk' : Nat), P z ∧ fl = .next ∧ s' = { s with heap := h', toks := tk' } ∧ Fr h₀ L h' (fun x => if x = n then some (.int z t) else m x) ∧ News h₀ L h' news
theorem Mine.cutS (n : Str) (P : Int → Prop) {M : Model} {A : Around} {E : Value → Shared → Prop} {Q : Flow → Shared → Prop} {s : Shared} {h₀ : Heap} {L : Addr} {m : Str → Option Value} {news : List (Addr × Obj)} {cm : Sem Flow}
    (_F : Fr h₀ L s.heap m) (_N : News h₀ L s.heap news) (h : wpAny M A cm (fun fl s' => CutS n P h₀ L m news s fl s') E s)
    (k : ∀ (z : Int) (t : Tok) (h' : Heap) (tk' : Nat), P z → Fr h₀ L h' (fun x => if x = n then some (.int z t) else m x) → News h₀ L h' news → Q .next { s with heap := h', toks := tk' }) : wpAny M A cm Q E s := by
  refine wpAny_mono h (fun v s' hq => ?_) fun _ _ e => e
  obtain ⟨z, t, h', tk', hP, hv, hs, F, N⟩ := hq
  subst hv; subst hs; exact k z t h' tk' hP F N
theorem Mine.CutS.intro {n : Str} {P : Int → Prop} {h₀ h' : Heap} {L : Addr} {m m' : Str → Option Value} {news : List (Addr × Obj)} {s : Shared} {z : Int} {t : Tok} {tk' : Nat}
    (F : Fr h₀ L h' m') (N : News h₀ L h' news) (hm : m' n = some (.int z t)) (hs : ∀ x, x ≠ n → m' x = m x) (hP : P z) : CutS n P h₀ L m news s .next { s with heap := h', toks := tk' } := by
  refine ⟨z, t, h', tk', hP, rfl, rfl, ?_, N⟩
  rw [show (fun x => if x = n then some (.int z t) else m x) = m' from funext fun x => by
    by_cases e : x = n
    · rw [if_pos e, e, hm]
    · rw [if_neg e, hs x e]]
  exact F
theorem Mine.cutNy {y q p : Int} {t1 t2 t3 : Tok} {M : Model} {A : Around} {E : Value → Shared → Prop} {Q : Flow → Shared → Prop} {s : Shared} {h₀ : Heap} {L : Addr} {m : Str → Option Value} {news : List (Addr × Obj)} {cm : Sem Flow}
    (F : Fr h₀ L s.heap m) (N : News h₀ L s.heap news) (_hy : m (Str.ofString "year") = some (.int y t1)) (_hq : m (Str.ofString "day") = some (.int q t2)) (_hp : m (Str.ofString "part") = some (.int p t3))
    (h : wpAny M A cm (fun fl s' => CutS (Str.ofString "day") (fun z => z = nyE y q p) h₀ L m news s fl s') E s)
    (k : ∀ (z : Int) (t : Tok) (h' : Heap) (tk' : Nat), z = nyE y q p → Fr h₀ L h' (fun x => if x = Str.ofString "day" then some (.int z t) else m x) → News h₀ L h' news → Q .next { s with heap := h', toks := tk' }) : wpAny M A cm Q E s := cutS _ _ F N h k
theorem Mine.c_ny (w : World) (loose : List Str) (mean : ExcName → Option Value) (mg mb : Str → Option Value) (news : List (Addr × Obj)) (y : Int) (t : Tok) : Cl w loose mean mg mb 3 174 [.int y t] news (RetI (nyI y)) := by
  w_on
  unfold Cl Claim
  k_fill
  intros; rename_i hret
  refine wpAny_call ?_
  k_dflt cell_enter
  repeat' (first
    | (k_unfold; (try dsimp only))
    | ((first
    | ((fail_if_success (fail_if_success (with_reducible show @ite _ _ _ _ _))); (first
      | (k_here; k_openite; first
  | (with_reducible refine ite_pos (by with_reducible assumption) ?_)
  | (with_reducible refine ite_neg (by with_reducible assumption) ?_)
  | (with_reducible refine ite_isFalse (by with_reducible assumption) ?_)
  | (with_reducible refine ite_dpos (by with_reducible assumption) ?_)
  | (with_reducible refine ite_dneg (by with_reducible assumption) ?_)
  | (with_reducible refine split_dec ?_ ?_ <;> intro _) | (with_reducible refine split_bool ?_ ?_ <;> intro _))))
    | ((fail_if_success (fail_if_success (with_reducible show wpAny _ _ (PySem.call (Value.ref _) _ _) _ _ _))); (first
      | (k_here; (fail_if_success (fail_if_success (with_reducible show wpAny _ _ (PySem.call (Value.ref 106) [Value.int _ _, Value.int 7 _, Value.int _ _] _) _ _ _))); k_dflt (refine use2 (c_tj7 _ _ _ _ _ _ _ _ _ _ _ ) ?_); k_whole; intro t9 h9 tk9 F9 N9; (try dsimp only); (try k_fold))
      | (k_here; (fail_if_success (fail_if_success (with_reducible show wpAny _ _ (PySem.call (Value.ref 106) _ _) _ _ _))); k_dflt (refine use2 (c_tj _ _ _ _ _ _ _ _ _ _ _ _ (by first | with_reducible assumption | decide | omega) (by first | with_reducible assumption | decide | omega)) ?_); k_whole; intro t9 h9 tk9 F9 N9; (try dsimp only); (try k_fold))
      | (k_here; (fail_if_success (fail_if_success (with_reducible show wpAny _ _ (PySem.call (Value.ref 99) _ _) _ _ _))); k_dflt (refine use2 (c_md _ _ _ _ _ _ _ _ _ _ (by first | with_reducible assumption | decide | omega)) ?_); k_whole; intro t9 h9 tk9 F9 N9; (try dsimp only); (try k_fold))
      | (k_here; (fail_if_success (fail_if_success (with_reducible show wpAny _ _ (PySem.call (Value.ref 92) _ _) _ _ _))); k_dflt (refine use2 (c_ml _ _ _ _ _ _ _ _ _ _ (by first | with_reducible assumption | decide | omega)) ?_); k_whole; intro t9 h9 tk9 F9 N9; (try dsimp only); (try k_fold))
      | (k_here; (fail_if_success (fail_if_success (with_reducible show wpAny _ _ (PySem.call (Value.ref 85) _ _) _ _ _))); k_dflt (refine use2 (c_yd _ _ _ _ _ _ _ _) ?_); k_whole; intro t9 h9 tk9 F9 N9; (try dsimp only); (try k_fold))
      | (k_here; (fail_if_success (fail_if_success (with_reducible show wpAny _ _ (PySem.call (Value.ref 169) _ _) _ _ _))); k_dflt (refine use2 (c_long _ _ _ _ _ _ _ _) ?_); k_whole; intro h9 tk9 F9 N9; (try dsimp only); (try k_fold))
      | (k_here; (fail_if_success (fail_if_success (with_reducible show wpAny _ _ (PySem.call (Value.ref 78) _ _) _ _ _))); k_dflt (refine use2 (c_d2 _ _ _ _ _ _ _ _) ?_); k_whole; intro t9 h9 tk9 F9 N9; (try dsimp only); (try k_fold))
      | (k_here; (fail_if_success (fail_if_success (with_reducible show wpAny _ _ (PySem.call (Value.ref 71) _ _) _ _ _))); k_dflt (refine use2 (c_d1 _ _ _ _ _ _ _ _) ?_); k_whole; intro t9 h9 tk9 F9 N9; (try dsimp only); (try k_fold))
      | (k_here; (fail_if_success (fail_if_success (with_reducible show wpAny _ _ (PySem.call (Value.ref 64) _ _) _ _ _))); k_dflt (refine use2 (c_ym _ _ _ _ _ _ _ _) ?_); k_whole; intro t9 h9 tk9 F9 N9; (try dsimp only); (try k_fold))
      | (k_here; (fail_if_success (fail_if_success (with_reducible show wpAny _ _ (PySem.call (Value.ref 57) _ _) _ _ _))); k_dflt (refine use2 (c_leap _ _ _ _ _ _ _ _) ?_); k_whole; intro h9 tk9 F9 N9; (try dsimp only); (try k_fold))
      | (k_here; (fail_if_success (fail_if_success (with_reducible show wpAny _ _ (PySem.call (Value.ref 28) _ _) _ _ _))); k_dflt (refine use2 (c_mid _ _ _ _ _ _ _ _) ?_); k_whole; intro t9 h9 tk9 F9 N9; (try dsimp only); (try k_fold))
      | (k_here; (fail_if_success (fail_if_success (with_reducible show wpAny _ _ (PySem.call (Value.ref 64) _ _) _ _ _))); k_dflt (refine use2 (c_ymN _ _ _ _ _ _ _ _ ) ?_); k_whole; intro n9 t9 h9 tk9 hn9 hl9 hu9 F9 N9; (try dsimp only); (try k_fold))))
    | ((fail_if_success (fail_if_success (with_reducible show LCg.CompEnd ..))); (first
      | (k_here; refine' LCg.CompEnd.intro ?cF ?cN _ ?csub ?coff ?cS ?kel; (case kel => (kpf_tidy; first | ((refine kci_el ?kce (by with_unfolding_all rfl) (by with_unfolding_all rfl)); (case kce => kpf_eq)) | ((refine kci_no ?kce (by with_unfolding_all rfl)); (case kce => kpf_eq)))); (case cF => k_asm); (case cN => k_asm); (case csub => kcf_all); (case coff => first | assumption | (simp only [LCg.Off3, and_true]; done) | (simp only [LCg.Off3, and_true]; assumption)); (case cS => first | lcg_src | assumption))))
    | ((fail_if_success (fail_if_success (with_reducible show wpAny _ _ (storeName _ _ _) _ _ _))); (first
      | (k_here; (with_reducible show wpAny _ _ (storeName _ _ (Value.int (_ + _) _)) _ _ _); k_dflt (refine gen_store ?_; intro z hz; refine' storeX_L ?F ?N ?_ ?a ?b; (case F => k_asm); (case N => k_asm); (case a => rfl); (case b => rfl); k_whole; intro h' F' N'; (try k_sweep)))))
    | ((fail_if_success (fail_if_success (with_reducible show wpAny _ _ (isTrue (Expr.BoolOp _ _ _) _ _) _ _ _))); (first
      | (k_here; (fail_if_success (with_reducible show wpAny _ _ _ (fun v s' => CutB _ _ _ _ _ _ v s') _ _)); (fail_if_success (fail_if_success (with_reducible show wpAny _ _ (isTrue (Expr.BoolOp _ (Expr.Call _ _ _ _ :: _) _) _ _) _ _ _))); (rename Fr _ _ _ _ => cF'); (rename News _ _ _ _ => cN'); (k_dflt (refine cutNy2 cF' cN' rfl rfl rfl ?_ (fun h' tk' F' N' => ?_))); (all_goals ((try dsimp only); (try k_fold))))
      | (k_here; (fail_if_success (with_reducible show wpAny _ _ _ (fun v s' => CutB _ _ _ _ _ _ v s') _ _)); (fail_if_success (fail_if_success (with_reducible show wpAny _ _ (isTrue (Expr.BoolOp _ (Expr.UnaryOp _ _ _ :: _) _) _ _) _ _ _))); (rename Fr _ _ _ _ => cF'); (rename News _ _ _ _ => cN'); (k_dflt (refine cutNy1 cF' cN' rfl rfl rfl ?_ (fun h' tk' F' N' => ?_))); (all_goals ((try dsimp only); (try k_fold))))))
    | ((fail_if_success (fail_if_success (with_reducible show CutB ..))); (first
      | (k_here; k_dflt (refine CutB.intro ?_ (by k_asm) (by k_asm)); k_dflt (first | exact ny1B_t (by assumption) (by assumption) (by assumption) | exact ny1B_f (by assumption) (by assumption) (by assumption) | exact ny1B_g (by assumption) (by assumption) | exact ny1B_h (by assumption) | exact ny2B_t (by assumption) (by assumption) (by assumption) | exact ny2B_f (by assumption) (by assumption) (by assumption) | exact ny2B_g (by assumption) (by assumption) | exact ny2B_h (by assumption)))))
    | ((fail_if_success (fail_if_success (with_reducible show wpAny _ _ (exec (Stmt.If _ _ _ _) _) _ _ _))); (first
      | (k_here; (fail_if_success (with_reducible show wpAny _ _ _ (fun v s' => CutS _ _ _ _ _ _ _ v s') _ _)); (with_reducible show wpAny _ _ (exec (Stmt.If (Expr.Compare _ [CmpOp.GtE] _ _) _ (_ :: _) _) _) _ _ _); (rename Fr _ _ _ _ => cF'); (rename News _ _ _ _ => cN'); (k_dflt (refine cutNy cF' cN' rfl rfl rfl ?_ ?_)); rotate_left; (intro z' t' h' tk' hz' F' N'; (try k_sweep); (try dsimp only); (try k_fold)); rotate_left)))
    | ((fail_if_success (fail_if_success (with_reducible show CutS ..))); (first
      | (k_here; k_dflt (refine' CutS.intro ?sF ?sN ?sm ?ss ?sP; (case sF => k_asm); (case sN => k_asm); (case sm => rfl); (case ss => (intro x hx; first | rfl | (simp only [if_neg hx]; done))); (case sP => ((try dsimp only); subst_vars; rw [nyE_b]; first | exact (if_pos (by assumption)).symm | exact ((if_neg (by assumption)).trans (if_pos (by assumption))).symm | exact ((if_neg (by assumption)).trans ((if_neg (ne_of_false (by assumption))).trans (if_pos (by assumption)))).symm | exact ((if_neg (by assumption)).trans ((if_neg (ne_of_false (by assumption))).trans (if_neg (ne_of_false (by assumption))))).symm))))))); (try dsimp only))
    | (walk1; (try dsimp only)) | fail "no step")
  all_goals (refine retI hret ?_ (by k_asm) (by k_asm) (by (intro p hp; repeat (first | with_reducible assumption | refine List.mem_cons_of_mem _ ?_))))
  all_goals (subst_vars; (rename (List.length _ = List.length _) => hL); (show _ = nyG _ (longN _)); (rw [show longN (Int.fmod (y - 1) 19 + 1 - 1).toNat = _ from (congrArg Nat.cast hL).symm]); unfold nyG nyF; set_option simprocs false in simp only [*, if_true, if_false, Bool.false_eq_true, Bool.true_eq_false, eq_self])
theorem Mine.my_inplace_iconcat {M : Model} {A : Around} {E : Value → Shared → Prop} {s : Shared} {a b : Value} {T id : String} {Q : Value → Shared → Prop} (ha : s.TypeIs a T) (hb : s.TypeIs b T)
    (hi : typeLookup (.type T) (dunderI "add") = pure (some (.builtin id))) (hs : isSeqSlot (some (.builtin id)) = true) (hfill : fillsNumberSlot (.type T) "add" = pure false)
    (hc : wpAny M A (PySem.call (.builtin id) [a, b]) Q E s) : wpAny M A (inplaceOp .Add a b) Q E s := by
  unfold inplaceOp
  refine wpAny_holding ?_
  have hfi : fillsInplaceSlot (.type T) "add" (Operator.Add == .Add) = pure false := by
    unfold fillsInplaceSlot
    show (typeLookup (.type T) (dunderI "add") >>= fun fi => pure (fi.isSome && !isSeqSlot fi)) = pure false
    rw [hi, pure_bind, hs]; rfl
  have hsi : seqSlot? (.type T) (dunderI "add") = pure (some (.builtin id)) := PySem.seqSlot_of hi hs
  refine wpAny_bind (wpAny_typeOf ha (wpAny_bind (wpAny_of_eq hfi ?_)))
  show wpAny M A (if false = true then _ else _) Q E s
  rw [if_neg Bool.false_ne_true]
  refine wpAny_bind (wpAny_binaryOp1_none (nm := "add") ha hb hfill ?_)
  refine wpAny_bind (wpAny_of_eq hsi ?_)
  exact wpAny_bind (wpAny_rule hc)
theorem Mine.my_iadd {prog : Program} {w : World} {A : Around} {E : Value → Shared → Prop} {s : Shared} {h₀ : Heap} {L D b : Addr} {m : Str → Option Value} {news news' : List (Addr × Obj)} {its its2 : Array Value} {n n2 : Nat} {l : List Value} {Q : Value → Shared → Prop}
    (F : Fr h₀ L s.heap m) (N : News h₀ L s.heap news) (hb : (b, W.listOf its2 n2) ∈ news) (e : its.toList ++ its2.toList = l) (hne : its2.toList.length ≠ 0)
    (U : Upd D (W.listOf its n) (W.listOf l.toArray (n + 1)) news news') (hd : ¬(!its.isEmpty && Builtin.List.listTooLong (its.size + its2.size)) = true) (hz : its.toList.length ≤ sizeLine) (hz2 : its.size + its2.size ≤ sizeLine + 1)
    (h : ∀ h', Fr h₀ L h' m → News h₀ L h' news' → Q (.ref D) { s with heap := h' }) : wpAny (model prog w) A (inplaceOp .Add (.ref D) (.ref b)) Q E s := by
  obtain ⟨pre, post, rfl, rfl, a, c⟩ := U.split
  have z := N (D, W.listOf its n) (List.mem_append.mpr (.inr (.head _)))
  refine my_inplace_iconcat (T := "list") ⟨_, z.1, rfl⟩ ⟨_, (N _ hb).1, rfl⟩ PySem.F.slot_list_iadd.lookup (by decide +kernel) noFill_list_add ?_
  refine PySem.call_meets PySem.F.slot_list_iadd ⟨_, z.1, rfl⟩ PySem.F.entry_list_iadd (PySem.F.args_list_iadd_2 _ _) (PySem.AutoSeq1.list___iadd___list_list_0 D its n b its2 n2 hd (by simpa using hz) hz2) ⟨z.1, (N _ hb).1, h _ (F.change (Heap.SameBut.update ..) z.2.1 z.2.2) (kl_turn _ N a c ?_ ?_)⟩
  · subst e
    apply Array.toList_inj.mp
    simp
  · subst e
    simp at hne ⊢
    exact hne
section Plain
set_option maxHeartbeats 8000000
theorem Mine.fdv (a b : Int) (h : 0 ≤ b) : Int.fdiv a b = a / b := Int.fdiv_eq_ediv_of_nonneg a h
theorem Mine.fmd (a b : Int) (h : 0 ≤ b) : Int.fmod a b = a % b := Int.fmod_eq_emod_of_nonneg a h
noncomputable def Mine.sev (r : Int) : Int := if r = 0 ∨ r = 3 ∨ r = 5 then 1 else 0
noncomputable def Mine.dl (q : Int) : Int := q + sev ((q + 1) % 7)
noncomputable def Mine.ny0 (L Lp : Bool) (q p : Int) : Int :=
  let e : Int := if L = false ∧ (q + 1) % 7 = 2 ∧ 16404 ≤ p then 1 else if Lp = true ∧ (q + 1) % 7 = 1 ∧ 23269 ≤ p then 1 else 0
  347998 + q + e + sev ((q + 1 + e) % 7)
/-- the same, the two comparisons told -/
noncomputable def Mine.nyb (L Lp : Bool) (q : Int) (s t : Bool) : Int :=
  let e : Int := if L = false ∧ (q + 1) % 7 = 2 ∧ s = true then 1 else if Lp = true ∧ (q + 1) % 7 = 1 ∧ t = true then 1 else 0
  347998 + q + e + sev ((q + 1 + e) % 7)
noncomputable def Mine.moons (L : Bool) : Int := if L = true then 9950629 else 9185196
theorem Mine.ny0_b (L Lp : Bool) (q p : Int) : ny0 L Lp q p = nyb L Lp q (decide (16404 ≤ p)) (decide (23269 ≤ p)) := by
  unfold ny0 nyb; simp only [decide_eq_true_eq]
theorem Mine.md7 (k x : Int) : (7 * k + x) % 7 = x % 7 := Int.mul_add_emod_self_left 7 k x
theorem Mine.md19 (k x : Int) : (19 * k + x) % 19 = x % 19 := Int.mul_add_emod_self_left 19 k x
theorem Mine.seven (q : Int) : ∃ (k : Int) (r : Fin 7), q = 7 * k + ((r.val : Nat) : Int) := ⟨q / 7, ⟨(q % 7).toNat, by omega⟩, by dsimp only; omega⟩
theorem Mine.nineteen (q : Int) : ∃ (k : Int) (r : Fin 19), q = 19 * k + ((r.val : Nat) : Int) := ⟨q / 19, ⟨(q % 19).toNat, by omega⟩, by dsimp only; omega⟩
theorem Mine.dl_shift (k x : Int) : dl (7 * k + x) = 7 * k + dl x := by
  unfold dl; rw [Int.add_assoc (7 * k) x 1, md7, Int.add_assoc]
theorem Mine.nyb_shift (L Lp : Bool) (k x : Int) (s t : Bool) : nyb L Lp (7 * k + x) s t = 7 * k + nyb L Lp x s t := by
  unfold nyb; dsimp only; rw [Int.add_assoc (7 * k) x 1, md7]
  generalize (if L = false ∧ (x + 1) % 7 = 2 ∧ s = true then (1 : Int) else if Lp = true ∧ (x + 1) % 7 = 1 ∧ t = true then 1 else 0) = e
  rw [Int.add_assoc (7 * k) (x + 1) e, md7]
  generalize sev ((x + 1 + e) % 7) = z
  omega
noncomputable def Mine.aN (L b1 s : Bool) : Int := if L = true then (if b1 = true then 383 else 384) else (if s = true then 355 else 354)
noncomputable def Mine.aP (Lp b2 t : Bool) : Int := if Lp = true then (if t = true then 383 else 384) else (if b2 = true then 354 else 355)
theorem Mine.coreD : ∀ (L Lp b1 b2 s t : Bool), ((!b1 || !b2) && (!s || b2) && (!t || s) && !(L && Lp)) = true → ∀ r : Fin 7,
    347998 + dl ((r.val : Nat) : Int) + (if dl (((r.val : Nat) : Int) + aN L b1 s) - dl ((r.val : Nat) : Int) = 356 then 2 else if dl ((r.val : Nat) : Int) - dl (((r.val : Nat) : Int) - aP Lp b2 t) = 382 then 1 else 0) = nyb L Lp ((r.val : Nat) : Int) s t := by decide +kernel
theorem Mine.core (L Lp : Bool) (q p W : Int) (hW : W = 25920 * q + p) (h0 : 0 ≤ p) (h1 : p < 25920) (hc : ¬ (L = true ∧ Lp = true)) :
    347998 + dl q + (if dl ((W + moons L) / 25920) - dl q = 356 then 2 else if dl q - dl ((W - moons Lp) / 25920) = 382 then 1 else 0) = ny0 L Lp q p := by
  have hn : (W + moons L) / 25920 = q + aN L (decide (p < 2651)) (decide (16404 ≤ p)) := by
    unfold moons aN; simp only [decide_eq_true_eq]; cases L <;> simp only [if_true, if_false, Bool.false_eq_true] <;> split <;> omega
  have hp : (W - moons Lp) / 25920 = q - aP Lp (decide (9516 ≤ p)) (decide (23269 ≤ p)) := by
    unfold moons aP; simp only [decide_eq_true_eq]; cases Lp <;> simp only [if_true, if_false, Bool.false_eq_true] <;> split <;> omega
  rw [hn, hp]
  obtain ⟨k, r, hq⟩ := seven q
  subst hq
  have key := coreD L Lp (decide (p < 2651)) (decide (9516 ≤ p)) (decide (16404 ≤ p)) (decide (23269 ≤ p)) (by
    simp only [Bool.and_eq_true, Bool.or_eq_true, Bool.not_eq_true', decide_eq_true_eq, decide_eq_false_iff_not]
    refine ⟨by omega, ?_⟩
    cases L <;> cases Lp <;> first | rfl | exact absurd ⟨rfl, rfl⟩ hc) r
  rw [ny0_b, nyb_shift, ← key, Int.add_assoc (7 * k), Int.add_sub_assoc (7 * k), dl_shift, dl_shift, dl_shift, Int.add_sub_add_left, Int.add_sub_add_left]
  generalize (if _ = (356 : Int) then (2 : Int) else _) = z
  generalize dl _ = z'
  omega
theorem Mine.core2T : ∀ (Lp L1 b1 u s t : Bool), ((!b1 || !s) && (!u || s) && (!t || u) && !Lp && !L1) = true → ∀ r : Fin 7,
    let D := nyb L1 true (((r.val : Nat) : Int) + aN true b1 s) (b1 || u) b1 - nyb true Lp ((r.val : Nat) : Int) s t
    D = 383 ∨ D = 384 ∨ D = 385 := by decide +kernel
theorem Mine.core2F : ∀ (Lp L1 u2 u3 s t : Bool), ((!s || u3) && (!u3 || u2) && (!t || s)) = true → ∀ r : Fin 7,
    let D := nyb L1 false (((r.val : Nat) : Int) + aN false false s) (!s && u2) (!s && u3) - nyb false Lp ((r.val : Nat) : Int) s t
    D = 353 ∨ D = 354 ∨ D = 355 := by decide +kernel
theorem Mine.core2 (L1 L0 Lp : Bool) (q p q' p' : Int) (h0 : 0 ≤ p) (h1 : p < 25920) (h0' : 0 ≤ p') (h1' : p' < 25920) (hW : 25920 * q' + p' = 25920 * q + p + moons L0) (hc : ¬ (L0 = true ∧ Lp = true)) (hc' : ¬ (L1 = true ∧ L0 = true)) :
    (L0 = false → ny0 L1 L0 q' p' - ny0 L0 Lp q p = 353 ∨ ny0 L1 L0 q' p' - ny0 L0 Lp q p = 354 ∨ ny0 L1 L0 q' p' - ny0 L0 Lp q p = 355) ∧
    (L0 = true → ny0 L1 L0 q' p' - ny0 L0 Lp q p = 383 ∨ ny0 L1 L0 q' p' - ny0 L0 Lp q p = 384 ∨ ny0 L1 L0 q' p' - ny0 L0 Lp q p = 385) := by
  obtain ⟨k, r, hq⟩ := seven q
  rw [ny0_b, ny0_b]
  constructor
  · intro e; subst e
    have hq' : q' = q + aN false false (decide (16404 ≤ p)) := by
      unfold moons at hW; unfold aN; simp only [decide_eq_true_eq, if_false, Bool.false_eq_true] at hW ⊢; split <;> omega
    have es : decide (16404 ≤ p') = (!decide (16404 ≤ p) && decide (6888 ≤ p)) := by
      unfold moons at hW; simp only [if_false, Bool.false_eq_true] at hW
      rw [Bool.eq_iff_iff]; simp only [Bool.and_eq_true, Bool.not_eq_true', decide_eq_true_eq, decide_eq_false_iff_not]; omega
    have et : decide (23269 ≤ p') = (!decide (16404 ≤ p) && decide (13753 ≤ p)) := by
      unfold moons at hW; simp only [if_false, Bool.false_eq_true] at hW
      rw [Bool.eq_iff_iff]; simp only [Bool.and_eq_true, Bool.not_eq_true', decide_eq_true_eq, decide_eq_false_iff_not]; omega
    have key := core2F Lp L1 (decide (6888 ≤ p)) (decide (13753 ≤ p)) (decide (16404 ≤ p)) (decide (23269 ≤ p)) (by
      simp only [Bool.and_eq_true, Bool.or_eq_true, Bool.not_eq_true', decide_eq_true_eq, decide_eq_false_iff_not]; omega) r
    rw [es, et, hq', hq, Int.add_assoc (7 * k), nyb_shift, nyb_shift, Int.add_sub_add_left]
    exact key
  · intro e; subst e
    have hq' : q' = q + aN true (decide (p < 2651)) (decide (16404 ≤ p)) := by
      unfold moons at hW; unfold aN; simp only [decide_eq_true_eq, if_true] at hW ⊢; split <;> omega
    have es : decide (16404 ≤ p') = (decide (p < 2651) || decide (19055 ≤ p)) := by
      unfold moons at hW; simp only [if_true] at hW
      rw [Bool.eq_iff_iff]; simp only [Bool.or_eq_true, decide_eq_true_eq]; omega
    have et : decide (23269 ≤ p') = decide (p < 2651) := by
      unfold moons at hW; simp only [if_true] at hW
      rw [Bool.eq_iff_iff]; simp only [decide_eq_true_eq]; omega
    have key := core2T Lp L1 (decide (p < 2651)) (decide (19055 ≤ p)) (decide (16404 ≤ p)) (decide (23269 ≤ p)) (by
      simp only [Bool.and_eq_true, Bool.or_eq_true, Bool.not_eq_true', decide_eq_true_eq, decide_eq_false_iff_not]
      refine ⟨⟨by omega, ?_⟩, ?_⟩
      · cases Lp <;> first | rfl | exact absurd ⟨rfl, rfl⟩ hc
      · cases L1 <;> first | rfl | exact absurd ⟨rfl, rfl⟩ hc') r
    rw [es, et, hq', hq, Int.add_assoc (7 * k), nyb_shift, nyb_shift, Int.add_sub_add_left]
    exact key
noncomputable def Mine.mo (y : Int) : Int := (235 * y - 234) / 19
noncomputable def Mine.WW (y : Int) : Int := 12084 + 765433 * mo y
noncomputable def Mine.qq (y : Int) : Int := WW y / 25920
noncomputable def Mine.pp (y : Int) : Int := WW y % 25920
theorem Mine.leap_shift (k x : Int) : leapB (19 * k + x) = leapB x := by
  unfold leapB; rw [fmd _ _ (by decide), fmd _ _ (by decide), show (19 * k + x) * 7 + 1 = 19 * (7 * k) + (x * 7 + 1) by omega, md19]
theorem Mine.leap_not2D : ∀ r : Fin 19, ¬ (leapB ((r.val : Nat) : Int) = true ∧ leapB (((r.val : Nat) : Int) - 1) = true) := by decide +kernel
theorem Mine.leap_not2 (y : Int) : ¬ (leapB y = true ∧ leapB (y - 1) = true) := by
  obtain ⟨k, r, hy⟩ := nineteen y
  rw [hy, Int.add_sub_assoc, leap_shift, leap_shift]; exact leap_not2D r
theorem Mine.mo_shift (k x : Int) : mo (19 * k + x) = 235 * k + mo x := by unfold mo; omega
theorem Mine.mo_succD : ∀ r : Fin 19, mo (((r.val : Nat) : Int) + 1) = mo ((r.val : Nat) : Int) + (if leapB ((r.val : Nat) : Int) = true then 13 else 12) := by decide +kernel
theorem Mine.mo_succ (y : Int) : mo (y + 1) = mo y + (if leapB y = true then 13 else 12) := by
  obtain ⟨k, r, hy⟩ := nineteen y
  rw [hy, Int.add_assoc, mo_shift, mo_shift, leap_shift, mo_succD r, Int.add_assoc]
theorem Mine.WW_succ (y : Int) : WW (y + 1) = WW y + moons (leapB y) := by
  unfold WW moons
  rw [mo_succ]
  cases leapB y
  · simp only [if_false, Bool.false_eq_true]; omega
  · simp only [if_true]; omega
theorem Mine.WW_pred (y : Int) : WW (y - 1) = WW y - moons (leapB (y - 1)) := by
  have := WW_succ (y - 1)
  rw [show y - 1 + 1 = y by omega] at this; omega
theorem Mine.dlD : ∀ r : Fin 7, (if (3 * (((r.val : Nat) : Int) + 1)) % 7 < 3 then ((r.val : Nat) : Int) + 1 else ((r.val : Nat) : Int)) = dl ((r.val : Nat) : Int) := by decide +kernel
theorem Mine.d1_eq (y : Int) : d1 y = dl (qq y) := by
  unfold d1 d1d qq WW mo
  simp only [fdv _ _ (show (0:Int) ≤ 19 by decide), fdv _ _ (show (0:Int) ≤ 25920 by decide), fmd _ _ (show (0:Int) ≤ 7 by decide)]
  generalize (235 * y - 234) / 19 = M
  have e : (12084 + 765433 * M) / 25920 = M * 29 + (12084 + 13753 * M) / 25920 := by omega
  rw [e]
  generalize M * 29 + (12084 + 13753 * M) / 25920 = q
  obtain ⟨k, r, hy⟩ := seven q
  rw [hy, dl_shift, ← dlD r, show 3 * (7 * k + ((r.val : Nat) : Int) + 1) = 7 * (3 * k) + 3 * (((r.val : Nat) : Int) + 1) by omega, md7]
  split <;> omega
theorem Mine.d12_eq (y : Int) : 347998 + d1 y + d2 y = ny0 (leapB y) (leapB (y - 1)) (qq y) (pp y) := by
  rw [← core (leapB y) (leapB (y - 1)) (qq y) (pp y) (WW y) (by unfold qq pp; omega) (by unfold pp; omega) (by unfold pp; omega) (leap_not2 y)]
  rw [← WW_succ, ← WW_pred]
  show _ = 347998 + dl (qq y) + (if dl (qq (y + 1)) - dl (qq y) = 356 then 2 else if dl (qq y) - dl (qq (y - 1)) = 382 then 1 else 0)
  unfold d2
  simp only [d1_eq, beq_iff_eq]
theorem Mine.longD : ∀ r : Fin 19, longB ((r.val : Nat) : Int) = leapB ((r.val : Nat) : Int) := by decide +kernel
theorem Mine.longB_eq (y : Int) : longB y = leapB y := by
  obtain ⟨k, r, hy⟩ := nineteen y
  rw [hy, leap_shift, ← longD r]
  unfold longB
  rw [fmd _ _ (by decide), md19, fmd _ _ (by decide)]
theorem Mine.longND : ∀ n : Fin 19, longN n.val = (7 * ((n.val : Nat) : Int) + 1) / 19 := by decide +kernel
theorem Mine.longN_eq (n : Nat) (h : n < 19) : longN n = (7 * (n : Int) + 1) / 19 := longND ⟨n, h⟩
theorem Mine.nyF_eq (d : Int) : nyF d = 347997 + d + sev (d % 7) := by
  unfold nyF sev
  simp only [fmd _ _ (show (0:Int) ≤ 7 by decide), List.any_cons, List.any_nil, Bool.or_false, Bool.or_eq_true, beq_iff_eq]
  by_cases h : 0 = d % 7 ∨ 3 = d % 7 ∨ 5 = d % 7
  · rw [if_pos h, if_pos (h.imp Eq.symm (Or.imp Eq.symm Eq.symm))]; omega
  · rw [if_neg h, if_neg (fun q => h (q.imp Eq.symm (Or.imp Eq.symm Eq.symm)))]; omega
theorem Mine.if3 {a b c : Prop} [Decidable a] [Decidable b] [Decidable c] {A B : Int} : (if a then if b then if c then A else B else B else B) = if a ∧ b ∧ c then A else B := by
  by_cases ha : a <;> by_cases hb : b <;> by_cases hc : c <;> simp only [ha, hb, hc, if_true, if_false, and_self, and_true, true_and, and_false, false_and]
theorem Mine.nyE_hi (y q P : Int) (h : 19440 ≤ P) : nyE y q P = q + 1 := if_pos h
theorem Mine.nyE_lo (y q p : Int) (h0 : 6480 ≤ p) (h1 : p < 25920) : nyE y (q + 1) (p - 6480) = q + 1 + (if leapB y = false ∧ (q + 1) % 7 = 2 ∧ 16404 ≤ p then 1 else if leapB (y - 1) = true ∧ (q + 1) % 7 = 1 ∧ 23269 ≤ p then 1 else 0) := by
  unfold nyE
  rw [if_neg (by omega)]
  unfold nyE2
  rw [longB_eq, longB_eq, fmd _ _ (by decide)]
  have e1 : (9 * 1080 + 204 ≤ p - 6480) = (16404 ≤ p) := propext (by omega)
  have e2 : (15 * 1080 + 589 ≤ p - 6480) = (23269 ≤ p) := propext (by omega)
  simp only [e1, e2, Bool.not_eq_true', beq_iff_eq]
  rw [if3, if3]
  split
  · rfl
  · split
    · rfl
    · exact (Int.add_zero _).symm
theorem Mine.ny_eq (y : Int) : nyI y = ny0 (leapB y) (leapB (y - 1)) (qq y) (pp y) := by
  have hm : 235 * Int.fdiv (y - 1) 19 + 12 * Int.fmod (y - 1) 19 + longN (Int.fmod (y - 1) 19 + 1 - 1).toNat = mo y := by
    rw [fdv _ _ (by decide), fmd _ _ (by decide), longN_eq _ (by omega)]
    unfold mo; omega
  unfold nyI nyG
  rw [hm]
  have hW : 31524 + 765433 * mo y = WW y + 19440 := by unfold WW; omega
  rw [hW, fdv _ _ (by decide), fmd _ _ (by decide)]
  have h0 : WW y = 25920 * qq y + pp y := by unfold qq pp; omega
  have h1 : 0 ≤ pp y := by unfold pp; omega
  have h2 : pp y < 25920 := by unfold pp; omega
  rw [h0]
  generalize qq y = q at *
  generalize pp y = p at *
  by_cases hp : p < 6480
  · have e1 : (25920 * q + p + 19440) / 25920 = q := by omega
    have e2 : (25920 * q + p + 19440) % 25920 = p + 19440 := by omega
    rw [e1, e2, nyE_hi _ _ _ (by omega), nyF_eq]
    unfold ny0
    rw [if_neg (by omega), if_neg (by omega)]
    dsimp only
    rw [Int.add_zero, Int.add_zero]
    omega
  · have e1 : (25920 * q + p + 19440) / 25920 = q + 1 := by omega
    have e2 : (25920 * q + p + 19440) % 25920 = p - 6480 := by omega
    rw [e1, e2, nyE_lo y q p (by omega) h2, nyF_eq]
    unfold ny0
    dsimp only
    omega
theorem Mine.qq_pos (y : Int) (h : 0 ≤ y) : -400 ≤ qq y := by unfold qq WW mo; omega
theorem Mine.ny0_in (L Lp : Bool) (q p : Int) : 347998 + q ≤ ny0 L Lp q p ∧ ny0 L Lp q p ≤ 348000 + q := by
  unfold ny0; dsimp only
  generalize he : (if L = false ∧ (q + 1) % 7 = 2 ∧ 16404 ≤ p then (1 : Int) else if Lp = true ∧ (q + 1) % 7 = 1 ∧ 23269 ≤ p then 1 else 0) = e
  have h1 : e = 0 ∨ e = 1 := by
    rw [← he]; split
    · exact .inr rfl
    · split
      · exact .inr rfl
      · exact .inl rfl
  have h2 : sev ((q + 1 + e) % 7) = 0 ∨ sev ((q + 1 + e) % 7) = 1 := by
    unfold sev; split
    · exact .inr rfl
    · exact .inl rfl
  clear he
  generalize sev ((q + 1 + e) % 7) = z at *
  omega
theorem Mine.ny_pos (y : Int) (h : 0 ≤ y) : 300000 ≤ nyI y := by
  rw [ny_eq]
  exact Int.le_trans (by have := qq_pos y h; omega) (ny0_in _ _ _ _).1
theorem Mine.d12_ny (y : Int) : 347998 + d1 y + d2 y = nyI y := by rw [d12_eq, ny_eq]
theorem Mine.tj7_ny (y d : Int) (h : 0 ≤ y) (hd : 0 < d) : tj7 y d = nyI y + d - 1 := by
  have := ny_pos y h
  rw [← d12_ny] at *
  unfold tj7 midI
  rw [if_pos (by omega)]; omega
theorem Mine.len_ny (y : Int) : (leapB y = false → nyI (y + 1) - nyI y = 353 ∨ nyI (y + 1) - nyI y = 354 ∨ nyI (y + 1) - nyI y = 355) ∧
    (leapB y = true → nyI (y + 1) - nyI y = 383 ∨ nyI (y + 1) - nyI y = 384 ∨ nyI (y + 1) - nyI y = 385) := by
  rw [ny_eq, ny_eq, show y + 1 - 1 = y by omega]
  refine core2 (leapB (y + 1)) (leapB y) (leapB (y - 1)) (qq y) (pp y) (qq (y + 1)) (pp (y + 1)) ?_ ?_ ?_ ?_ ?_ (leap_not2 y) ?_
  · unfold pp; omega
  · unfold pp; omega
  · unfold pp; omega
  · unfold pp; omega
  · have := WW_succ y; unfold qq pp; omega
  · have := leap_not2 (y + 1); rwa [show y + 1 - 1 = y by omega] at this
theorem Mine.yd_ny (y : Int) (h : 0 ≤ y) : ydI y = nyI (y + 1) - nyI y := by
  unfold ydI; rw [tj7_ny _ _ h (by decide), tj7_ny _ _ (by omega) (by decide)]; omega
end Plain
section PlainB
set_option maxHeartbeats 8000000
theorem Mine.ml_lit (y m : Int) (h : ([2, 4, 6, 10, 13].any fun x => x == m) = true) : mlI y m = 29 := by unfold mlI; rw [if_pos h]
theorem Mine.ml_thirty (y m : Int) (h : ([2, 4, 6, 10, 13].any fun x => x == m) = false) (h1 : (m == 12) = false) (h2 : (m == 8) = false) (h3 : (m == 9) = false) : mlI y m = 30 := by
  unfold mlI; simp only [h, h1, h2, h3, Bool.false_eq_true, if_false, false_and]
theorem Mine.ml12t (y : Int) (h : leapB y = true) : mlI y 12 = 30 := by unfold mlI; rw [h]; simp
theorem Mine.ml12f (y : Int) (h : leapB y = false) : mlI y 12 = 29 := by unfold mlI; rw [h]; simp
theorem Mine.sz (y : Int) : ∃ k : Int, nyI (y + 1) - nyI y = k ∧ (k = 353 ∨ k = 354 ∨ k = 355 ∨ k = 383 ∨ k = 384 ∨ k = 385) := by
  refine ⟨_, rfl, ?_⟩
  have := len_ny y
  cases h : leapB y
  · exact (this.1 h).elim .inl fun q => q.elim (fun q => .inr (.inl q)) fun q => .inr (.inr (.inl q))
  · exact .inr (.inr (.inr (this.2 h)))
theorem Mine.row8t (y : Int) (hy : 0 ≤ y) (h : ([355, 385].any fun x => x == nyI (y + 1) - nyI y) = true) : mlI y 8 = 30 := by
  obtain ⟨k, e, hk⟩ := sz y
  unfold mlI; rw [yd_ny y hy]; rw [e] at h ⊢
  rcases hk with q | q | q | q | q | q <;> subst q <;> first | (exfalso; revert h; decide) | rfl
theorem Mine.row8f (y : Int) (hy : 0 ≤ y) (h : ([355, 385].any fun x => x == nyI (y + 1) - nyI y) = false) : mlI y 8 = 29 := by
  obtain ⟨k, e, hk⟩ := sz y
  unfold mlI; rw [yd_ny y hy]; rw [e] at h ⊢
  rcases hk with q | q | q | q | q | q <;> subst q <;> first | (exfalso; revert h; decide) | rfl
theorem Mine.row9t (y : Int) (hy : 0 ≤ y) (h : ([353, 383].any fun x => x == nyI (y + 1) - nyI y) = true) : mlI y 9 = 29 := by
  obtain ⟨k, e, hk⟩ := sz y
  unfold mlI; rw [yd_ny y hy]; rw [e] at h ⊢
  rcases hk with q | q | q | q | q | q <;> subst q <;> first | (exfalso; revert h; decide) | rfl
theorem Mine.row9f (y : Int) (hy : 0 ≤ y) (h : ([353, 383].any fun x => x == nyI (y + 1) - nyI y) = false) : mlI y 9 = 30 := by
  obtain ⟨k, e, hk⟩ := sz y
  unfold mlI; rw [yd_ny y hy]; rw [e] at h ⊢
  rcases hk with q | q | q | q | q | q <;> subst q <;> first | (exfalso; revert h; decide) | rfl
theorem Mine.ml_range (y m : Int) : mlI y m = 29 ∨ mlI y m = 30 := by
  unfold mlI; (repeat' split) <;> first | exact .inl rfl | exact .inr rfl
/-- the whole year -/
theorem Mine.ml_sum (y : Int) (hy : 0 ≤ y) : mlI y 8 + mlI y 9 + 266 + (if leapB y = true then 59 else 29) = nyI (y + 1) - nyI y := by
  obtain ⟨k, e, hk⟩ := sz y
  have hl := len_ny y
  have a8 : mlI y 8 = if ([355, 385].any fun x => x == k) = true then 30 else 29 := by
    rw [← e]
    cases h : ([355, 385].any fun x => x == nyI (y + 1) - nyI y)
    · rw [row8f y hy h]; rfl
    · rw [row8t y hy h]; rfl
  have a9 : mlI y 9 = if ([353, 383].any fun x => x == k) = true then 29 else 30 := by
    rw [← e]
    cases h : ([353, 383].any fun x => x == nyI (y + 1) - nyI y)
    · rw [row9f y hy h]; rfl
    · rw [row9t y hy h]; rfl
  rw [a8, a9, e]; rw [e] at hl
  cases hb : leapB y
  · have := hl.1 hb
    rcases this with q | q | q <;> subst q <;> decide
  · have := hl.2 hb
    rcases this with q | q | q <;> subst q <;> decide
theorem Mine.tjF_add (y init lo : Int) (n : Nat) : tjF y init lo n = init + tjF y 0 lo n := by
  unfold tjF
  suffices H : ∀ (l : List Int) (a : Int), List.foldl (fun a' k' => a' + mlI y k') a l = a + List.foldl (fun a' k' => a' + mlI y k') 0 l from H _ _
  intro l
  induction l with
  | nil => intro a; simp
  | cons x r ih => intro a; rw [List.foldl_cons, ih, List.foldl_cons, ih (0 + mlI y x)]; omega
/-- the days of the year ahead of the month -/
noncomputable def Mine.off (y m : Int) : Int := if m < 7 then tjF y 0 7 (ymI y + 1 - 7).toNat + tjF y 0 1 (m - 1).toNat else tjF y 0 7 (m - 7).toNat
theorem Mine.tjF_nonneg (y lo : Int) (n : Nat) : 0 ≤ tjF y 0 lo n := by
  unfold tjF
  suffices H : ∀ (l : List Int) (a : Int), 0 ≤ a → 0 ≤ List.foldl (fun a' k' => a' + mlI y k') a l from H _ _ (by decide)
  intro l
  induction l with
  | nil => intro a h; exact h
  | cons x r ih => intro a h; rw [List.foldl_cons]; refine ih _ ?_; have := ml_range y x; omega
theorem Mine.off_nonneg (y m : Int) : 0 ≤ off y m := by
  unfold off
  have h1 := tjF_nonneg y 7 (ymI y + 1 - 7).toNat
  have h2 := tjF_nonneg y 1 (m - 1).toNat
  have h3 := tjF_nonneg y 7 (m - 7).toNat
  split <;> omega
theorem Mine.tj_off (y m d : Int) (h : 0 ≤ y) (hd : 0 < d) : tjI y m d = nyI y + off y m + d - 1 := by
  have h1 := ny_pos y h
  have h2 := off_nonneg y m
  have e : tjI y m d = midI (nyI y + off y m + d - 1) := by
    unfold tjI
    congr 1
    have := d12_ny y
    unfold off
    split
    · rw [tjF_add y _ 1, tjF_add y _ 7]; omega
    · rw [tjF_add]; omega
  rw [e]; unfold midI; rw [if_pos (by omega)]
end PlainB
section PlainS
set_option maxHeartbeats 4000000
theorem Mine.ml_pos (y m : Int) : 0 < mlI y m := by have := ml_range y m; omega
theorem Mine.rk_snoc (n : Nat) : ∀ a : Int, rangeKs a (n + 1) = rangeKs a n ++ [a + (n : Int)] := by
  induction n with
  | zero => intro a; rw [kll_cons]; show [a] = [a + 0]; rw [Int.add_zero]
  | succ n ih => intro a; rw [kll_cons, ih (a + 1), kll_cons a n, List.cons_append, show a + 1 + (n : Int) = a + ((n + 1 : Nat) : Int) by omega]
theorem Mine.tjF_succ (y init lo : Int) (n : Nat) : tjF y init lo (n + 1) = tjF y init lo n + mlI y (lo + (n : Int)) := by
  unfold tjF; rw [rk_snoc, List.foldl_append]; rfl
theorem Mine.off7 (y : Int) : off y 7 = 0 := rfl
theorem Mine.off_hs {y m : Int} (h : 7 ≤ m) : off y (m + 1) = off y m + mlI y m := by
  unfold off
  rw [if_neg (by omega), if_neg (by omega), show (m + 1 - 7).toNat = (m - 7).toNat + 1 by omega, tjF_succ, show (7 : Int) + ((m - 7).toNat : Int) = m by omega]
theorem Mine.off_ls {y m : Int} (h : 1 ≤ m) (h6 : m < 6) : off y (m + 1) = off y m + mlI y m := by
  unfold off
  rw [if_pos (by omega), if_pos (by omega), show (m + 1 - 1).toNat = (m - 1).toNat + 1 by omega, tjF_succ, show (1 : Int) + ((m - 1).toNat : Int) = m by omega, Int.add_assoc]
theorem Mine.ym_range (y : Int) : (ymI y = 13 ∧ leapB y = true) ∨ (ymI y = 12 ∧ leapB y = false) := by
  unfold ymI; cases leapB y <;> simp
theorem Mine.off_wrap (y : Int) : off y 1 = off y (ymI y) + mlI y (ymI y) := by
  have hy : 12 ≤ ymI y := by rcases ym_range y with ⟨q, _⟩ | ⟨q, _⟩ <;> rw [q] <;> decide
  unfold off
  rw [if_pos (by decide), if_neg (by omega), show (ymI y + 1 - 7).toNat = (ymI y - 7).toNat + 1 by omega, tjF_succ, show (7 : Int) + ((ymI y - 7).toNat : Int) = ymI y by omega]
  exact Int.add_zero _
theorem Mine.off_all (y : Int) (hy : 0 ≤ y) : off y 6 + mlI y 6 = nyI (y + 1) - nyI y := by
  have hs := ml_sum y hy
  have e6 : mlI y 6 = 29 := ml_lit y 6 rfl
  have a5 : off y 6 = off y 5 + 30 := (off_ls (m := 5) (by decide) (by decide)).trans (congrArg _ (ml_thirty y 5 rfl rfl rfl rfl))
  have a4 : off y 5 = off y 4 + 29 := (off_ls (m := 4) (by decide) (by decide)).trans (congrArg _ (ml_lit y 4 rfl))
  have a3 : off y 4 = off y 3 + 30 := (off_ls (m := 3) (by decide) (by decide)).trans (congrArg _ (ml_thirty y 3 rfl rfl rfl rfl))
  have a2 : off y 3 = off y 2 + 29 := (off_ls (m := 2) (by decide) (by decide)).trans (congrArg _ (ml_lit y 2 rfl))
  have a1 : off y 2 = off y 1 + 30 := (off_ls (m := 1) (by decide) (by decide)).trans (congrArg _ (ml_thirty y 1 rfl rfl rfl rfl))
  have b7 : off y 8 = 0 + 30 := (off_hs (m := 7) (by decide)).trans (congrArg _ (ml_thirty y 7 rfl rfl rfl rfl))
  have b8 : off y 9 = off y 8 + mlI y 8 := off_hs (m := 8) (by decide)
  have b9 : off y 10 = off y 9 + mlI y 9 := off_hs (m := 9) (by decide)
  have b10 : off y 11 = off y 10 + 29 := (off_hs (m := 10) (by decide)).trans (congrArg _ (ml_lit y 10 rfl))
  have b11 : off y 12 = off y 11 + 30 := (off_hs (m := 11) (by decide)).trans (congrArg _ (ml_thirty y 11 rfl rfl rfl rfl))
  have w := off_wrap y
  rcases ym_range y with ⟨q, l⟩ | ⟨q, l⟩
  · have b12 : off y 13 = off y 12 + 30 := (off_hs (m := 12) (by decide)).trans (congrArg _ (ml12t y l))
    have e13 : mlI y 13 = 29 := ml_lit y 13 rfl
    rw [q, e13] at w; rw [if_pos l] at hs; rw [e6]
    clear q l e13 e6; omega
  · have e12 : mlI y 12 = 29 := ml12f y l
    rw [q, e12] at w; rw [if_neg (by rw [l]; decide)] at hs; rw [e6]
    clear q l e12 e6; omega
theorem Mine.szin (y : Int) : ([353, 354, 355, 383, 384, 385].any fun x => x == nyI (y + 1) - nyI y) = true := by
  obtain ⟨k, e, hk⟩ := sz y
  rw [e]
  rcases hk with q | q | q | q | q | q <;> subst q <;> rfl
end PlainS
section Turns
variable {prog : Program} {w : World} {A : Around} {E : Value → Shared → Prop} {h₀ : Heap} {env : Env} {target : Expr} {body : List Stmt} {Q : Flow → Shared → Prop} {s : Shared}
theorem Mine.fr3 {m m' : Str → Option Value} {n1 n2 n3 : Str} (hm : ∀ x, x ≠ n1 → x ≠ n2 → x ≠ n3 → m' x = m x) : m' = fun x => if x = n1 then m' n1 else if x = n2 then m' n2 else if x = n3 then m' n3 else m x := by
  funext x
  by_cases h1 : x = n1
  · rw [if_pos h1, h1]
  · rw [if_neg h1]
    by_cases h2 : x = n2
    · rw [if_pos h2, h2]
    · rw [if_neg h2]
      by_cases h3 : x = n3
      · rw [if_pos h3, h3]
      · rw [if_neg h3, hm x h1 h2 h3]
theorem Mine.subl1 {p : Addr × Obj} {l : List (Addr × Obj)} : SubL [p] (p :: l) := ⟨List.Mem.head _, trivial⟩
/-- a loop over a list of the ledger, its body walked once: J tells of the items ahead and of three names -/
theorem Mine.turns3 (n1 n2 n3 : Str) {m : Str → Option Value} {newsW keep : List (Addr × Obj)} {I : Addr} {cls : String} (J : List Value → Option Value → Option Value → Option Value → Prop) (hk : SubL keep newsW) (hl : ∀ p ∈ newsW, p.1 < I)
    {l₀ : List Value} (h0 : J l₀ (m n1) (m n2) (m n3))
    (turn : ∀ (v : Value) (r : List Value) (v1 v2 v3 : Option Value) (R : (Str → Option Value) → List (Addr × Obj) → Prop), J (v :: r) v1 v2 v3 → (∀ m', (∀ x, x ≠ n1 → x ≠ n2 → x ≠ n3 → m' x = m x) → J r (m' n1) (m' n2) (m' n3) → R m' newsW) → ∀ (h : Heap) (tk : Nat) (o : Obj), o.cls = .type cls →
      Fr h₀ env.locals h (fun x => if x = n1 then v1 else if x = n2 then v2 else if x = n3 then v3 else m x) → News h₀ env.locals h ((I, o) :: newsW) →
      wpAny (model prog w) A (assign target env v) (fun _ s₂ => wpAny (model prog w) A (execs body env) (UnrPostW h₀ env.locals { s with heap := h, toks := tk } [(I, o)] (fun m' n' => SubL keep n' ∧ R m' n') Q) E s₂) E { s with heap := h, toks := tk })
    (done : ∀ (v1 v2 v3 : Option Value), J [] v1 v2 v3 → ∀ (h : Heap) (tk : Nat), Fr h₀ env.locals h (fun x => if x = n1 then v1 else if x = n2 then v2 else if x = n3 then v3 else m x) → News h₀ env.locals h newsW → Q .next { s with heap := h, toks := tk }) :
    ItemsRest prog w A E h₀ env target body Q s [(I, cls)] keep (l₀.map .val) m newsW := by
  have key : ∀ (l : List Value) (m' : Str → Option Value), (∀ x, x ≠ n1 → x ≠ n2 → x ≠ n3 → m' x = m x) → J l (m' n1) (m' n2) (m' n3) → ItemsRest prog w A E h₀ env target body Q s [(I, cls)] keep (l.map .val) m' newsW := by
    intro l
    induction l with
    | nil =>
      intro m' hm hJ
      refine ItemsRest.zero fun h tk F N => ?_
      rw [fr3 hm] at F
      exact done _ _ _ hJ h tk F N
    | cons v r ih =>
      intro m' hm hJ
      refine ItemsRest.val fun h tk F => AllObj.cons fun o ho => AllObj.nil fun N => ?_
      rw [fr3 hm] at F
      exact turn v r _ _ _ (fun m' n' => ItemsRest prog w A E h₀ env target body Q s [(I, cls)] keep (r.map .val) m' n') hJ (fun m₂ h2 hJ2 => ih m₂ h2 hJ2) h tk o ho F N
  exact key l₀ m (fun _ _ _ _ => rfl) h0
theorem Mine.turnEnd {L I : Addr} {o : Obj} {keep newsW : List (Addr × Obj)} {R : (Str → Option Value) → List (Addr × Obj) → Prop} {s₁ : Shared} {h' : Heap} {tk : Nat} {m m' : Str → Option Value} {n1 n2 n3 : Str} {J : Option Value → Option Value → Option Value → Prop}
    (hR : ∀ m', (∀ x, x ≠ n1 → x ≠ n2 → x ≠ n3 → m' x = m x) → J (m' n1) (m' n2) (m' n3) → R m' newsW) (hk : SubL keep newsW) (hl : ∀ p ∈ newsW, p.1 < I)
    (F : Fr h₀ L h' m') (N : News h₀ L h' ((I, o) :: newsW)) (hs : ∀ x, x ≠ n1 → x ≠ n2 → x ≠ n3 → m' x = m x) (hJ : J (m' n1) (m' n2) (m' n3)) :
    UnrEndW h₀ L s₁ [(I, o)] (fun m' n' => SubL keep n' ∧ R m' n') { s₁ with heap := h', toks := tk } :=
  ⟨h', tk, m', newsW, rfl, F, N, fun p hp q hq e => by
    rw [List.mem_singleton.1 hq] at e
    exact Nat.lt_irrefl _ (e ▸ hl p hp), hk, hR m' hs hJ⟩
end Turns
noncomputable abbrev Mine.tup2 (a b : Value) : Obj := { cls := .type "tuple", data := .seq #[a, b] }
section RowsX
set_option maxHeartbeats 4000000
/-- what stands at the place c of the year's row -/
def Mine.RowIt (y mo c : Int) : Prop := 1 ≤ mo ∧ mo ≤ ymI y ∧ off y mo = c
/-- the list l tells the months from the day c of the year on -/
def Mine.RF (y : Int) (W : List (Addr × Obj)) : Int → List Value → Prop
  | c, [] => nyI (y + 1) = nyI y + c
  | c, v :: r => ∃ (a : Addr) (mo : Int) (t u : Tok), v = .ref a ∧ (a, tup2 (.int mo t) (.int (mlI y mo) u)) ∈ W ∧ RowIt y mo c ∧ RF y W (c + mlI y mo) r
theorem Mine.RF.cons {y mo c c' : Int} {W : List (Addr × Obj)} {a : Addr} {t u : Tok} {r : List Value} (hm : (a, tup2 (.int mo t) (.int (mlI y mo) u)) ∈ W) (h1 : 1 ≤ mo) (h2 : mo ≤ ymI y) (h3 : off y mo = c) (e : c' = c + mlI y mo) (h : RF y W c' r) : RF y W c (.ref a :: r) :=
  ⟨a, mo, t, u, rfl, hm, ⟨h1, h2, h3⟩, e ▸ h⟩
abbrev Mine.RetRowG (y : Int) (news : List (Addr × Obj)) (h₀ : Heap) (L : Addr) (m : Str → Option Value) (s : Shared) (Q : Value → Shared → Prop) : Prop :=
  ∀ (D : Addr) (n : Nat) (l : List Value) (nw : List (Addr × Obj)) (h' : Heap) (tk' : Nat), RF y ((D, W.listOf l.toArray n) :: nw) 0 l → 2 ≤ l.length ∧ l.length ≤ 13 → Fr h₀ L h' m → News h₀ L h' ((D, W.listOf l.toArray n) :: nw) → (∀ p ∈ news, p ∈ nw) → Q (.ref D) { s with heap := h', toks := tk' }
section
variable {prog : Program} {w : World} {A : Around} {E : Value → Shared → Prop} {h₀ : Heap} {env : Env} {target : Expr} {body : List Stmt} {Q : Flow → Shared → Prop} {s : Shared}
/-- a loop over the year's row: the body once, for any month; S tells of the place and of the int that goes on -/
theorem Mine.turnsRow (n1 n2 n3 : Str) (S : Int → Int → Prop) {y c0 z0 : Int} {t0 : Tok} {m : Str → Option Value} {W0 : List (Addr × Obj)} {p0 : Addr × Obj} {I : Addr} {cls : String} {l₀ : List Value}
    (hRF : RF y (p0 :: W0) c0 l₀) (hz0 : m n1 = some (.int z0 t0)) (hS0 : S c0 z0) (hl : ∀ p ∈ p0 :: W0, p.1 < I)
    (turn : ∀ (W : List (Addr × Obj)) (_hW : ∀ p ∈ W0, p ∈ W) (_hl : ∀ p ∈ W, p.1 < I) (_hk : SubL [p0] W) (a : Addr) (mo c z : Int) (t u tz : Tok) (w2 w3 : Option Value) (R : (Str → Option Value) → List (Addr × Obj) → Prop), S c z → RowIt y mo c →
      (∀ m' z' tz', (∀ x, x ≠ n1 → x ≠ n2 → x ≠ n3 → m' x = m x) → m' n1 = some (.int z' tz') → S (c + mlI y mo) z' → R m' W) → ∀ (h : Heap) (tk : Nat) (o : Obj),
      Fr h₀ env.locals h (fun x => if x = n1 then some (.int z tz) else if x = n2 then w2 else if x = n3 then w3 else m x) → News h₀ env.locals h ((I, o) :: (a, tup2 (.int mo t) (.int (mlI y mo) u)) :: W) →
      wpAny (model prog w) A (assign target env (.ref a)) (fun _ s₂ => wpAny (model prog w) A (execs body env) (UnrPostW h₀ env.locals { s with heap := h, toks := tk } [(I, o)] (fun m' n' => SubL [p0] n' ∧ R m' n') Q) E s₂) E { s with heap := h, toks := tk })
    (done : ∀ (c z : Int) (tz : Tok) (w2 w3 : Option Value), S c z → nyI (y + 1) = nyI y + c → ∀ (h : Heap) (tk : Nat), Fr h₀ env.locals h (fun x => if x = n1 then some (.int z tz) else if x = n2 then w2 else if x = n3 then w3 else m x) → News h₀ env.locals h (p0 :: W0) → Q .next { s with heap := h, toks := tk }) :
    ItemsRest prog w A E h₀ env target body Q s [(I, cls)] [p0] (l₀.map .val) m (p0 :: W0) := by
  refine turns3 n1 n2 n3 (fun l v1 _ _ => ∃ c z t, v1 = some (.int z t) ∧ S c z ∧ RF y (p0 :: W0) c l) subl1 hl ⟨c0, z0, t0, hz0, hS0, hRF⟩ ?_ ?_
  · rintro v r v1 v2 v3 R ⟨c, z, tz, e, hS, a, mo, t, u, e2, hm, hI, hr⟩ hR h tk o ho F N
    subst e; subst e2
    refine turn (p0 :: W0) (fun p hp => List.mem_cons_of_mem _ hp) hl subl1 a mo c z t u tz v2 v3 R hS hI (fun m' z' tz' hm' hz' hS' => hR m' hm' ⟨_, z', tz', hz', hS', hr⟩) h tk o F (fun p hp => ?_)
    rcases List.mem_cons.1 hp with hp | hp
    · exact N p (hp ▸ List.Mem.head _)
    · rcases List.mem_cons.1 hp with hp | hp
      · exact N p (List.mem_cons_of_mem _ (hp ▸ hm))
      · exact N p (List.mem_cons_of_mem _ hp)
  · rintro v1 v2 v3 ⟨c, z, tz, e, hS, hr⟩ h tk F N
    subst e
    exact done c z tz v2 v3 hS hr h tk F N
theorem Mine.turnEndR {L I : Addr} {o : Obj} {keep W all : List (Addr × Obj)} {R : (Str → Option Value) → List (Addr × Obj) → Prop} {s₁ : Shared} {h' : Heap} {tk : Nat} {m m' : Str → Option Value} {n1 n2 n3 : Str} {S : Int → Int → Prop} {c z' : Int} {tz' : Tok}
    (hR : ∀ m' z' tz', (∀ x, x ≠ n1 → x ≠ n2 → x ≠ n3 → m' x = m x) → m' n1 = some (.int z' tz') → S c z' → R m' W) (hk : SubL keep W) (hl : ∀ p ∈ W, p.1 < I)
    (F : Fr h₀ L h' m') (N : News h₀ L h' all) (hI : (I, o) ∈ all) (hW : ∀ p ∈ W, p ∈ all) (hs : ∀ x, x ≠ n1 → x ≠ n2 → x ≠ n3 → m' x = m x) (hz : m' n1 = some (.int z' tz')) (hS : S c z') :
    UnrEndW h₀ L s₁ [(I, o)] (fun m' n' => SubL keep n' ∧ R m' n') { s₁ with heap := h', toks := tk } :=
  ⟨h', tk, m', W, rfl, F, fun p hp => by
    rcases List.mem_cons.1 hp with hp | hp
    · exact N p (hp ▸ hI)
    · exact N p (hW p hp), fun p hp q hq e => by
    rw [List.mem_singleton.1 hq] at e
    exact Nat.lt_irrefl _ (e ▸ hl p hp), hk, hR m' z' tz' hs hz hS⟩
end
end RowsX
theorem Mine.mem_tup {W : List (Addr × Obj)} {a : Addr} {mo x x' : Int} {t u : Tok} (e : x = x') (h : (a, tup2 (.int mo t) (.int x' u)) ∈ W) : (a, tup2 (.int mo t) (.int x u)) ∈ W := e ▸ h
theorem Mine.le_ym {y k n : Int} (h : ymI y = n) (hk : k ≤ n) : k ≤ ymI y := h ▸ hk
-- theorem ite_dpos {c : Prop} [Decidable c] {a b : Prop} (hc : c) (h : a) : if decide c = true then a else b := by rw [if_pos (decide_eq_true hc)]; exact h
-- theorem ite_dneg {c : Prop} [Decidable c] {a b : Prop} (hc : ¬ c) (h : b) : if decide c = true then a else b := by rw [if_neg (by rw [decide_eq_true_eq]; exact hc)]; exact h
/-- an int comes, of which P is known; the frame and the ledger stand -/
def Mine.CutI (P : Int → Prop) (h₀ : Heap) (L : Addr) (m : Str → Option Value) (news : List (Addr × Obj)) (s : Shared) (v : Value) (s' : Shared) : Prop :=
  ∃ (z : Int) (t : Tok) (h' : Heap) (tk' : Nat), P z ∧ v = .int z t ∧ s' = { s with heap := h', toks := tk' } ∧ Fr h₀ L h' m ∧ News h₀ L h' news
theorem Mine.cutI (P : Int → Prop) {M : Model} {A : Around} {E Q : Value → Shared → Prop} {s : Shared} {h₀ : Heap} {L : Addr} {m : Str → Option Value} {news : List (Addr × Obj)} {cm : Sem Value}
    (_F : Fr h₀ L s.heap m) (_N : News h₀ L s.heap news) (h : wpAny M A cm (fun v s' => CutI P h₀ L m news s v s') E s)
    (k : ∀ (z : Int) (t : Tok) (h' : Heap) (tk' : Nat), P z → Fr h₀ L h' m → News h₀ L h' news → Q (.int z t) { s with heap := h', toks := tk' }) : wpAny M A cm Q E s := by
  refine wpAny_mono h (fun v s' hq => ?_) fun _ _ e => e
  obtain ⟨z, t, h', tk', hP, hv, hs, F, N⟩ := hq
  subst hv; subst hs; exact k z t h' tk' hP F N
theorem Mine.CutI.intro {P : Int → Prop} {h₀ h' : Heap} {L : Addr} {m : Str → Option Value} {news : List (Addr × Obj)} {s : Shared} {z : Int} {t : Tok} {tk' : Nat}
    (hP : P z) (F : Fr h₀ L h' m) (N : News h₀ L h' news) : CutI P h₀ L m news s (.int z t) { s with heap := h', toks := tk' } := ⟨z, t, h', tk', hP, rfl, rfl, F, N⟩
theorem Mine.ite_bne_eq {x y : Int} {a b : Prop} (h : x = y) (hb : b) : if (x != y) = true then a else b := by rw [if_neg (by rw [h, bne_self_eq_false]; decide)]; exact hb
theorem Mine.ite_bne_eqB {x y : Bool} {a b : Prop} (h : x = y) (hb : b) : if (x != y) = true then a else b := by rw [if_neg (by rw [h, bne_self_eq_false]; decide)]; exact hb
theorem Mine.ite_notT {x : Bool} {a b : Prop} (h : x = true) (hb : b) : if (!x) = true then a else b := by rw [h]; exact hb
theorem Mine.c_long' (w : World) (loose : List Str) (mean : ExcName → Option Value) (mg mb : Str → Option Value) (news : List (Addr × Obj)) (y : Int) (t : Tok) : Cl w loose mean mg mb 1 169 [.int y t] news (RetB (leapB y)) := by
  rw [← longB_eq]; exact c_long w loose mean mg mb news y t
theorem Mine.newsTail {h₀ h : Heap} {L : Addr} {x : Addr × Obj} {l : List (Addr × Obj)} (N : News h₀ L h (x :: l)) : News h₀ L h l := fun p hp => N p (List.mem_cons_of_mem _ hp)
theorem Mine.cutM {y : Int} (_hl : 0 ≤ y) (i : Int) {M : Model} {A : Around} {E Q : Value → Shared → Prop} {s : Shared} {h₀ : Heap} {L : Addr} {m : Str → Option Value} {news : List (Addr × Obj)} {cm : Sem Value}
    (F : Fr h₀ L s.heap m) (N : News h₀ L s.heap news) (h : wpAny M A cm (fun v s' => CutI (fun z => z = mlI y i) h₀ L m news s v s') E s)
    (k : ∀ (t : Tok) (h' : Heap) (tk' : Nat), (∃ z, z = mlI y i) → Fr h₀ L h' m → News h₀ L h' news → Q (.int (mlI y i) t) { s with heap := h', toks := tk' }) : wpAny M A cm Q E s :=
  cutI _ F N h fun z t h' tk' hP F N => hP ▸ k t h' tk' ⟨z, hP⟩ F N
set_option maxHeartbeats 8000000
theorem Mine.c_rowG (w : World) (loose : List Str) (mean : ExcName → Option Value) (mg mb : Str → Option Value) (news : List (Addr × Obj)) (y : Int) (t : Tok) (hy : 0 ≤ y) : Cl w loose mean mg mb 5 181 [.int y t] news (RetRowG y) := by
  w_on
  unfold Cl Claim
  k_fill
  intros; rename_i hret
  refine wpAny_call ?_
  k_dflt cell_enter
  repeat' (first
    | (k_unfold; (try dsimp only))
    | ((first
    | ((fail_if_success (fail_if_success (with_reducible show @ite _ _ _ _ _))); (first
      | (k_here; k_openite; first
  | (with_reducible refine ite_pos (by with_reducible assumption) ?_)
  | (with_reducible refine ite_neg (by with_reducible assumption) ?_)
  | (with_reducible refine ite_isFalse (by with_reducible assumption) ?_)
  | (with_reducible refine ite_dpos (by with_reducible assumption) ?_)
  | (with_reducible refine ite_dneg (by with_reducible assumption) ?_)
  | (with_reducible refine split_dec ?_ ?_ <;> intro _) | (with_reducible refine split_bool ?_ ?_ <;> intro _))))
    | ((fail_if_success (fail_if_success (with_reducible show wpAny _ _ (PySem.call (Value.ref _) _ _) _ _ _))); (first
      | (k_here; (fail_if_success (fail_if_success (with_reducible show wpAny _ _ (PySem.call (Value.ref 106) [Value.int _ _, Value.int 7 _, Value.int _ _] _) _ _ _))); k_dflt (refine use2 (c_tj7 _ _ _ _ _ _ _ _ _ _ _ ) ?_); k_whole; intro t9 h9 tk9 F9 N9; (try dsimp only); (try k_fold))
      | (k_here; (fail_if_success (fail_if_success (with_reducible show wpAny _ _ (PySem.call (Value.ref 169) _ _) _ _ _))); k_dflt (refine use2 (c_long' _ _ _ _ _ _ _ _) ?_); k_whole; intro h9 tk9 F9 N9; (try dsimp only); (try k_fold))
      | (k_here; (fail_if_success (fail_if_success (with_reducible show wpAny _ _ (PySem.call (Value.ref 174) _ _) _ _ _))); k_dflt (refine use2 (c_ny _ _ _ _ _ _ _ _) ?_); k_whole; intro t9 h9 tk9 F9 N9; (try dsimp only); (try k_fold))
      | (k_here; (fail_if_success (fail_if_success (with_reducible show wpAny _ _ (PySem.call (Value.ref 106) _ _) _ _ _))); k_dflt (refine use2 (c_tj _ _ _ _ _ _ _ _ _ _ _ _ (by first | with_reducible assumption | decide | omega) (by first | with_reducible assumption | decide | omega)) ?_); k_whole; intro t9 h9 tk9 F9 N9; (try dsimp only); (try k_fold))
      | (k_here; (fail_if_success (fail_if_success (with_reducible show wpAny _ _ (PySem.call (Value.ref 99) _ _) _ _ _))); k_dflt (refine use2 (c_md _ _ _ _ _ _ _ _ _ _ (by first | with_reducible assumption | decide | omega)) ?_); k_whole; intro t9 h9 tk9 F9 N9; (try dsimp only); (try k_fold))
      | (k_here; (fail_if_success (fail_if_success (with_reducible show wpAny _ _ (PySem.call (Value.ref 92) _ _) _ _ _))); k_dflt (refine use2 (c_ml _ _ _ _ _ _ _ _ _ _ (by first | with_reducible assumption | decide | omega)) ?_); k_whole; intro t9 h9 tk9 F9 N9; (try dsimp only); (try k_fold))
      | (k_here; (fail_if_success (fail_if_success (with_reducible show wpAny _ _ (PySem.call (Value.ref 85) _ _) _ _ _))); k_dflt (refine use2 (c_yd _ _ _ _ _ _ _ _) ?_); k_whole; intro t9 h9 tk9 F9 N9; (try dsimp only); (try k_fold))
      | (k_here; (fail_if_success (fail_if_success (with_reducible show wpAny _ _ (PySem.call (Value.ref 169) _ _) _ _ _))); k_dflt (refine use2 (c_long _ _ _ _ _ _ _ _) ?_); k_whole; intro h9 tk9 F9 N9; (try dsimp only); (try k_fold))
      | (k_here; (fail_if_success (fail_if_success (with_reducible show wpAny _ _ (PySem.call (Value.ref 78) _ _) _ _ _))); k_dflt (refine use2 (c_d2 _ _ _ _ _ _ _ _) ?_); k_whole; intro t9 h9 tk9 F9 N9; (try dsimp only); (try k_fold))
      | (k_here; (fail_if_success (fail_if_success (with_reducible show wpAny _ _ (PySem.call (Value.ref 71) _ _) _ _ _))); k_dflt (refine use2 (c_d1 _ _ _ _ _ _ _ _) ?_); k_whole; intro t9 h9 tk9 F9 N9; (try dsimp only); (try k_fold))
      | (k_here; (fail_if_success (fail_if_success (with_reducible show wpAny _ _ (PySem.call (Value.ref 64) _ _) _ _ _))); k_dflt (refine use2 (c_ym _ _ _ _ _ _ _ _) ?_); k_whole; intro t9 h9 tk9 F9 N9; (try dsimp only); (try k_fold))
      | (k_here; (fail_if_success (fail_if_success (with_reducible show wpAny _ _ (PySem.call (Value.ref 57) _ _) _ _ _))); k_dflt (refine use2 (c_leap _ _ _ _ _ _ _ _) ?_); k_whole; intro h9 tk9 F9 N9; (try dsimp only); (try k_fold))
      | (k_here; (fail_if_success (fail_if_success (with_reducible show wpAny _ _ (PySem.call (Value.ref 28) _ _) _ _ _))); k_dflt (refine use2 (c_mid _ _ _ _ _ _ _ _) ?_); k_whole; intro t9 h9 tk9 F9 N9; (try dsimp only); (try k_fold))
      | (k_here; (fail_if_success (fail_if_success (with_reducible show wpAny _ _ (PySem.call (Value.ref 64) _ _) _ _ _))); k_dflt (refine use2 (c_ymN _ _ _ _ _ _ _ _ ) ?_); k_whole; intro n9 t9 h9 tk9 hn9 hl9 hu9 F9 N9; (try dsimp only); (try k_fold))))
    | ((fail_if_success (fail_if_success (with_reducible show wpAny _ _ (inplaceOp _ _ _) _ _ _))); (first
      | (k_here; (with_reducible show wpAny _ _ (inplaceOp _ (Value.ref _) (Value.ref _)) _ _ _); k_dflt (refine' my_iadd ?F ?N ?b ?e ?ne ?U ?d ?z ?y ?_; (case F => k_asm); (case N => k_asm); (case b => k_mem); (case U => k_upd); (case e => kl_lit); (case ne => kl_some); (case d => kl_no); (case z => kl_room); (case y => kl_room)); kl_rest)))
    | ((fail_if_success (fail_if_success (with_reducible show wpAny _ _ (eval (Expr.IfExp _ _ _ _) _) _ _ _))); (first
      | (k_here; (fail_if_success (with_reducible show wpAny _ _ _ (fun v s' => CutI _ _ _ _ _ _ v s') _ _)); (fail_if_success (fail_if_success (with_reducible show wpAny _ _ (eval (Expr.IfExp (Expr.Compare _ [CmpOp.In] _ _) _ _ _) _) _ _ _))); (rename Fr _ _ _ _ => cF'); (rename News _ _ _ _ => cN'); (first | ((fail_if_success (rename ∃ z, z = mlI _ 8 => q)); (refine cutM (by assumption) 8 cF' cN' ?_ ?_)) | (refine cutM (by assumption) 9 cF' cN' ?_ ?_)); rotate_left; (intro t' h' tk' hz' F' N'; (try dsimp only); (try k_fold)); rotate_left)))
    | ((fail_if_success (fail_if_success (with_reducible show CutI ..))); (first
      | (k_dflt (refine CutI.intro ?_ (by k_asm) (by first | assumption | exact newsTail (by assumption)); first | exact (row8t _ (by assumption) (by with_reducible assumption)).symm | exact (row8f _ (by assumption) (by with_reducible assumption)).symm | exact (row9t _ (by assumption) (by with_reducible assumption)).symm | exact (row9f _ (by assumption) (by with_reducible assumption)).symm))))); (try dsimp only))
    | (walk1; (try dsimp only)) | fail "no step")
  all_goals first
    | (
    have hl : leapB y = true := by assumption
    have hym : ymI y = 13 := by unfold ymI; rw [hl]; rfl
    have hw : off y 1 = off y 13 + mlI y 13 := by have := off_wrap y; rwa [hym] at this
    refine' hret _ _ _ _ _ _ ?hRF ?hln ?hF ?hN ?hs
    (case hN => k_asm)
    (case hF => k_asm)
    (case hln => exact ⟨Nat.le_of_ble_eq_true rfl, Nat.le_of_ble_eq_true rfl⟩)
    (case hs => (intro p hp; repeat (first | with_reducible assumption | refine List.mem_cons_of_mem _ ?_)))
    (case hRF => exact RF.cons (y := y) (mo := 7) (c := 0) (c' := off y 8) (mem_tup (ml_thirty y 7 rfl rfl rfl rfl) (by repeat (first | exact List.Mem.head _ | apply List.Mem.tail))) (by decide) (le_ym hym (by decide)) (off7 y) (off_hs (m := 7) (by decide) : off y 8 = off y 7 + mlI y 7) (RF.cons (y := y) (mo := 8) (c := off y 8) (c' := off y 9) (by repeat (first | exact List.Mem.head _ | apply List.Mem.tail)) (by decide) (le_ym hym (by decide)) rfl (off_hs (m := 8) (by decide) : off y 9 = off y 8 + mlI y 8) (RF.cons (y := y) (mo := 9) (c := off y 9) (c' := off y 10) (by repeat (first | exact List.Mem.head _ | apply List.Mem.tail)) (by decide) (le_ym hym (by decide)) rfl (off_hs (m := 9) (by decide) : off y 10 = off y 9 + mlI y 9) (RF.cons (y := y) (mo := 10) (c := off y 10) (c' := off y 11) (mem_tup (ml_lit y 10 rfl) (by repeat (first | exact List.Mem.head _ | apply List.Mem.tail))) (by decide) (le_ym hym (by decide)) rfl (off_hs (m := 10) (by decide) : off y 11 = off y 10 + mlI y 10) (RF.cons (y := y) (mo := 11) (c := off y 11) (c' := off y 12) (mem_tup (ml_thirty y 11 rfl rfl rfl rfl) (by repeat (first | exact List.Mem.head _ | apply List.Mem.tail))) (by decide) (le_ym hym (by decide)) rfl (off_hs (m := 11) (by decide) : off y 12 = off y 11 + mlI y 11) (RF.cons (y := y) (mo := 12) (c := off y 12) (c' := off y 13) (mem_tup (ml12t y hl) (by repeat (first | exact List.Mem.head _ | apply List.Mem.tail))) (by decide) (le_ym hym (by decide)) rfl (off_hs (m := 12) (by decide) : off y 13 = off y 12 + mlI y 12) (RF.cons (y := y) (mo := 13) (c := off y 13) (c' := off y 1) (mem_tup (ml_lit y 13 rfl) (by repeat (first | exact List.Mem.head _ | apply List.Mem.tail))) (by decide) (le_ym hym (by decide)) rfl hw (RF.cons (y := y) (mo := 1) (c := off y 1) (c' := off y 2) (mem_tup (ml_thirty y 1 rfl rfl rfl rfl) (by repeat (first | exact List.Mem.head _ | apply List.Mem.tail))) (by decide) (le_ym hym (by decide)) rfl (off_ls (m := 1) (by decide) (by decide) : off y 2 = off y 1 + mlI y 1) (RF.cons (y := y) (mo := 2) (c := off y 2) (c' := off y 3) (mem_tup (ml_lit y 2 rfl) (by repeat (first | exact List.Mem.head _ | apply List.Mem.tail))) (by decide) (le_ym hym (by decide)) rfl (off_ls (m := 2) (by decide) (by decide) : off y 3 = off y 2 + mlI y 2) (RF.cons (y := y) (mo := 3) (c := off y 3) (c' := off y 4) (mem_tup (ml_thirty y 3 rfl rfl rfl rfl) (by repeat (first | exact List.Mem.head _ | apply List.Mem.tail))) (by decide) (le_ym hym (by decide)) rfl (off_ls (m := 3) (by decide) (by decide) : off y 4 = off y 3 + mlI y 3) (RF.cons (y := y) (mo := 4) (c := off y 4) (c' := off y 5) (mem_tup (ml_lit y 4 rfl) (by repeat (first | exact List.Mem.head _ | apply List.Mem.tail))) (by decide) (le_ym hym (by decide)) rfl (off_ls (m := 4) (by decide) (by decide) : off y 5 = off y 4 + mlI y 4) (RF.cons (y := y) (mo := 5) (c := off y 5) (c' := off y 6) (mem_tup (ml_thirty y 5 rfl rfl rfl rfl) (by repeat (first | exact List.Mem.head _ | apply List.Mem.tail))) (by decide) (le_ym hym (by decide)) rfl (off_ls (m := 5) (by decide) (by decide) : off y 6 = off y 5 + mlI y 5) (RF.cons (y := y) (mo := 6) (c := off y 6) (c' := off y 6 + mlI y 6) (mem_tup (ml_lit y 6 rfl) (by repeat (first | exact List.Mem.head _ | apply List.Mem.tail))) (by decide) (le_ym hym (by decide)) rfl rfl (by show nyI (y + 1) = _; have := off_all y hy; omega)))))))))))))))
    | (
    have hl : leapB y = false := by assumption
    have hym : ymI y = 12 := by unfold ymI; rw [hl]; rfl
    have hw : off y 1 = off y 12 + mlI y 12 := by have := off_wrap y; rwa [hym] at this
    refine' hret _ _ _ _ _ _ ?hRF ?hln ?hF ?hN ?hs
    (case hN => k_asm)
    (case hF => k_asm)
    (case hln => exact ⟨Nat.le_of_ble_eq_true rfl, Nat.le_of_ble_eq_true rfl⟩)
    (case hs => (intro p hp; repeat (first | with_reducible assumption | refine List.mem_cons_of_mem _ ?_)))
    (case hRF => exact RF.cons (y := y) (mo := 7) (c := 0) (c' := off y 8) (mem_tup (ml_thirty y 7 rfl rfl rfl rfl) (by repeat (first | exact List.Mem.head _ | apply List.Mem.tail))) (by decide) (le_ym hym (by decide)) (off7 y) (off_hs (m := 7) (by decide) : off y 8 = off y 7 + mlI y 7) (RF.cons (y := y) (mo := 8) (c := off y 8) (c' := off y 9) (by repeat (first | exact List.Mem.head _ | apply List.Mem.tail)) (by decide) (le_ym hym (by decide)) rfl (off_hs (m := 8) (by decide) : off y 9 = off y 8 + mlI y 8) (RF.cons (y := y) (mo := 9) (c := off y 9) (c' := off y 10) (by repeat (first | exact List.Mem.head _ | apply List.Mem.tail)) (by decide) (le_ym hym (by decide)) rfl (off_hs (m := 9) (by decide) : off y 10 = off y 9 + mlI y 9) (RF.cons (y := y) (mo := 10) (c := off y 10) (c' := off y 11) (mem_tup (ml_lit y 10 rfl) (by repeat (first | exact List.Mem.head _ | apply List.Mem.tail))) (by decide) (le_ym hym (by decide)) rfl (off_hs (m := 10) (by decide) : off y 11 = off y 10 + mlI y 10) (RF.cons (y := y) (mo := 11) (c := off y 11) (c' := off y 12) (mem_tup (ml_thirty y 11 rfl rfl rfl rfl) (by repeat (first | exact List.Mem.head _ | apply List.Mem.tail))) (by decide) (le_ym hym (by decide)) rfl (off_hs (m := 11) (by decide) : off y 12 = off y 11 + mlI y 11) (RF.cons (y := y) (mo := 12) (c := off y 12) (c' := off y 1) (mem_tup (ml12f y hl) (by repeat (first | exact List.Mem.head _ | apply List.Mem.tail))) (by decide) (le_ym hym (by decide)) rfl hw (RF.cons (y := y) (mo := 1) (c := off y 1) (c' := off y 2) (mem_tup (ml_thirty y 1 rfl rfl rfl rfl) (by repeat (first | exact List.Mem.head _ | apply List.Mem.tail))) (by decide) (le_ym hym (by decide)) rfl (off_ls (m := 1) (by decide) (by decide) : off y 2 = off y 1 + mlI y 1) (RF.cons (y := y) (mo := 2) (c := off y 2) (c' := off y 3) (mem_tup (ml_lit y 2 rfl) (by repeat (first | exact List.Mem.head _ | apply List.Mem.tail))) (by decide) (le_ym hym (by decide)) rfl (off_ls (m := 2) (by decide) (by decide) : off y 3 = off y 2 + mlI y 2) (RF.cons (y := y) (mo := 3) (c := off y 3) (c' := off y 4) (mem_tup (ml_thirty y 3 rfl rfl rfl rfl) (by repeat (first | exact List.Mem.head _ | apply List.Mem.tail))) (by decide) (le_ym hym (by decide)) rfl (off_ls (m := 3) (by decide) (by decide) : off y 4 = off y 3 + mlI y 3) (RF.cons (y := y) (mo := 4) (c := off y 4) (c' := off y 5) (mem_tup (ml_lit y 4 rfl) (by repeat (first | exact List.Mem.head _ | apply List.Mem.tail))) (by decide) (le_ym hym (by decide)) rfl (off_ls (m := 4) (by decide) (by decide) : off y 5 = off y 4 + mlI y 4) (RF.cons (y := y) (mo := 5) (c := off y 5) (c' := off y 6) (mem_tup (ml_thirty y 5 rfl rfl rfl rfl) (by repeat (first | exact List.Mem.head _ | apply List.Mem.tail))) (by decide) (le_ym hym (by decide)) rfl (off_ls (m := 5) (by decide) (by decide) : off y 6 = off y 5 + mlI y 5) (RF.cons (y := y) (mo := 6) (c := off y 6) (c' := off y 6 + mlI y 6) (mem_tup (ml_lit y 6 rfl) (by repeat (first | exact List.Mem.head _ | apply List.Mem.tail))) (by decide) (le_ym hym (by decide)) rfl rfl (by show nyI (y + 1) = _; have := off_all y hy; omega))))))))))))))
-- theorem ite_dpos {c : Prop} [Decidable c] {a b : Prop} (hc : c) (h : a) : if decide c = true then a else b := by rw [if_pos (decide_eq_true hc)]; exact h
-- theorem ite_dneg {c : Prop} [Decidable c] {a b : Prop} (hc : ¬ c) (h : b) : if decide c = true then a else b := by rw [if_neg (by rw [decide_eq_true_eq]; exact hc)]; exact h
noncomputable def Mine.islB (y : Int) : Bool := (Int.fmod y 4 == 0) && ((Int.fmod y 100 != 0) || (Int.fmod y 400 == 0))
noncomputable def Mine.dimI (y m : Int) : Int := if (m == 2) = true then (if islB y = true then 29 else 28) else if ([4, 6, 9, 11].any fun x => x == m) = true then 30 else 31
noncomputable def Mine.adjI (y m : Int) : Int := if m ≤ 2 then 0 else if islB y = true then -1 else -2
noncomputable def Mine.gj (y m d : Int) : Int := 1721426 - 1 + 365 * (y - 1) + Int.fdiv (y - 1) 4 + -(Int.fdiv (y - 1) 100) + Int.fdiv (y - 1) 400 + (Int.fdiv (367 * m - 362) 12 + adjI y m + d)
theorem Mine.c_isl (w : World) (loose : List Str) (mean : ExcName → Option Value) (mg mb : Str → Option Value) (news : List (Addr × Obj)) (y : Int) (t : Tok) : Cl w loose mean mg mb 1 21 [.int y t] news (RetB (islB y)) := by
  w_on
  unfold Cl Claim
  k_fill
  intros; rename_i hret
  refine wpAny_call ?_
  k_dflt cell_enter
  repeat' (first
    | (k_unfold; (try dsimp only))
    | ((first
    | ((fail_if_success (fail_if_success (with_reducible show @ite _ _ _ _ _))); (first
      | (k_here; k_openite; first
  | (with_reducible refine ite_pos (by with_reducible assumption) ?_)
  | (with_reducible refine ite_neg (by with_reducible assumption) ?_)
  | (with_reducible refine ite_isFalse (by with_reducible assumption) ?_)
  | (with_reducible refine ite_dpos (by with_reducible assumption) ?_)
  | (with_reducible refine ite_dneg (by with_reducible assumption) ?_)
  | (with_reducible refine split_dec ?_ ?_ <;> intro _) | (with_reducible refine split_bool ?_ ?_ <;> intro _))))
    | ((fail_if_success (fail_if_success (with_reducible show wpAny _ _ (PySem.call (Value.ref _) _ _) _ _ _))); (first
      | (k_here; (fail_if_success (fail_if_success (with_reducible show wpAny _ _ (PySem.call (Value.ref 106) [Value.int _ _, Value.int 7 _, Value.int _ _] _) _ _ _))); k_dflt (refine use2 (c_tj7 _ _ _ _ _ _ _ _ _ _ _ ) ?_); k_whole; intro t9 h9 tk9 F9 N9; (try dsimp only); (try k_fold))
      | (k_here; (fail_if_success (fail_if_success (with_reducible show wpAny _ _ (PySem.call (Value.ref 169) _ _) _ _ _))); k_dflt (refine use2 (c_long' _ _ _ _ _ _ _ _) ?_); k_whole; intro h9 tk9 F9 N9; (try dsimp only); (try k_fold))
      | (k_here; (fail_if_success (fail_if_success (with_reducible show wpAny _ _ (PySem.call (Value.ref 174) _ _) _ _ _))); k_dflt (refine use2 (c_ny _ _ _ _ _ _ _ _) ?_); k_whole; intro t9 h9 tk9 F9 N9; (try dsimp only); (try k_fold))
      | (k_here; (fail_if_success (fail_if_success (with_reducible show wpAny _ _ (PySem.call (Value.ref 106) _ _) _ _ _))); k_dflt (refine use2 (c_tj _ _ _ _ _ _ _ _ _ _ _ _ (by first | with_reducible assumption | decide | omega) (by first | with_reducible assumption | decide | omega)) ?_); k_whole; intro t9 h9 tk9 F9 N9; (try dsimp only); (try k_fold))
      | (k_here; (fail_if_success (fail_if_success (with_reducible show wpAny _ _ (PySem.call (Value.ref 64) _ _) _ _ _))); k_dflt (refine use2 (c_ymN _ _ _ _ _ _ _ _ ) ?_); k_whole; intro n9 t9 h9 tk9 hn9 hl9 hu9 F9 N9; (try dsimp only); (try k_fold))
      | (k_here; (fail_if_success (fail_if_success (with_reducible show wpAny _ _ (PySem.call (Value.ref 99) _ _) _ _ _))); k_dflt (refine use2 (c_md _ _ _ _ _ _ _ _ _ _ (by first | with_reducible assumption | decide | omega)) ?_); k_whole; intro t9 h9 tk9 F9 N9; (try dsimp only); (try k_fold))
      | (k_here; (fail_if_success (fail_if_success (with_reducible show wpAny _ _ (PySem.call (Value.ref 92) _ _) _ _ _))); k_dflt (refine use2 (c_ml _ _ _ _ _ _ _ _ _ _ (by first | with_reducible assumption | decide | omega)) ?_); k_whole; intro t9 h9 tk9 F9 N9; (try dsimp only); (try k_fold))
      | (k_here; (fail_if_success (fail_if_success (with_reducible show wpAny _ _ (PySem.call (Value.ref 85) _ _) _ _ _))); k_dflt (refine use2 (c_yd _ _ _ _ _ _ _ _) ?_); k_whole; intro t9 h9 tk9 F9 N9; (try dsimp only); (try k_fold))
      | (k_here; (fail_if_success (fail_if_success (with_reducible show wpAny _ _ (PySem.call (Value.ref 169) _ _) _ _ _))); k_dflt (refine use2 (c_long _ _ _ _ _ _ _ _) ?_); k_whole; intro h9 tk9 F9 N9; (try dsimp only); (try k_fold))
      | (k_here; (fail_if_success (fail_if_success (with_reducible show wpAny _ _ (PySem.call (Value.ref 78) _ _) _ _ _))); k_dflt (refine use2 (c_d2 _ _ _ _ _ _ _ _) ?_); k_whole; intro t9 h9 tk9 F9 N9; (try dsimp only); (try k_fold))
      | (k_here; (fail_if_success (fail_if_success (with_reducible show wpAny _ _ (PySem.call (Value.ref 71) _ _) _ _ _))); k_dflt (refine use2 (c_d1 _ _ _ _ _ _ _ _) ?_); k_whole; intro t9 h9 tk9 F9 N9; (try dsimp only); (try k_fold))
      | (k_here; (fail_if_success (fail_if_success (with_reducible show wpAny _ _ (PySem.call (Value.ref 64) _ _) _ _ _))); k_dflt (refine use2 (c_ym _ _ _ _ _ _ _ _) ?_); k_whole; intro t9 h9 tk9 F9 N9; (try dsimp only); (try k_fold))
      | (k_here; (fail_if_success (fail_if_success (with_reducible show wpAny _ _ (PySem.call (Value.ref 57) _ _) _ _ _))); k_dflt (refine use2 (c_leap _ _ _ _ _ _ _ _) ?_); k_whole; intro h9 tk9 F9 N9; (try dsimp only); (try k_fold))
      | (k_here; (fail_if_success (fail_if_success (with_reducible show wpAny _ _ (PySem.call (Value.ref 28) _ _) _ _ _))); k_dflt (refine use2 (c_mid _ _ _ _ _ _ _ _) ?_); k_whole; intro t9 h9 tk9 F9 N9; (try dsimp only); (try k_fold))))); (try dsimp only))
    | (walk1; (try dsimp only)) | fail "no step")
  all_goals (refine retB hret ?_ (by k_asm) (by k_asm) (by (intro p hp; repeat (first | with_reducible assumption | refine List.mem_cons_of_mem _ ?_))))
  all_goals (unfold islB; simp only [*, Bool.true_and, Bool.false_and, Bool.true_or, Bool.false_or])
theorem Mine.ite_ndec {c : Prop} [Decidable c] {a b : Prop} (hc : c) (h : b) : if (!decide c) = true then a else b := by rw [decide_eq_true hc]; exact h
theorem Mine.my_in_K {prog : Program} {w : World} {A : Around} {E : Value → Shared → Prop} {s : Shared} {K : Frag} {h₀ : Heap} {L a : Addr} {m : Str → Option Value} {l : List Value} {dd : Option Addr} {n : Nat} {sl : Array (Option Value)} {ns : List Int} {x : Int} {u : Tok} {Q : Value → Shared → Prop}
    (F : Fr h₀ L s.heap m) (X₀ : K.In h₀) (hl : K.lookup a = some ⟨.type "tuple", dd, .seq l.toArray n, sl⟩) (hi : IntsAre l ns) (h : Q (.bool (ns.any (· == x))) s) : wpAny (model prog w) A (compareOp .In (.int x u) (.ref a)) Q E s :=
  in_tuple_ints (tupK (X₀.keeps F.keep) hl) (by simpa using hi) h
theorem Mine.cutDim {y mo : Int} {t1 t2 : Tok} {M : Model} {A : Around} {E : Value → Shared → Prop} {Q : Flow → Shared → Prop} {s : Shared} {h₀ : Heap} {L : Addr} {m : Str → Option Value} {news : List (Addr × Obj)} {cm : Sem Flow}
    (F : Fr h₀ L s.heap m) (N : News h₀ L s.heap news) (_hy : m (Str.ofString "year") = some (.int y t1)) (_hm : m (Str.ofString "month") = some (.int mo t2))
    (h : wpAny M A cm (fun fl s' => CutS (Str.ofString "daysinmonth") (fun z => z = dimI y mo) h₀ L m news s fl s') E s)
    (k : ∀ (t : Tok) (h' : Heap) (tk' : Nat), Fr h₀ L h' (fun x => if x = Str.ofString "daysinmonth" then some (.int (dimI y mo) t) else m x) → News h₀ L h' news → Q .next { s with heap := h', toks := tk' }) : wpAny M A cm Q E s :=
  cutS _ _ F N h fun z t h' tk' e F N => by subst e; exact k t h' tk' F N
theorem Mine.cutAdjG {y mo : Int} {t1 t2 : Tok} {M : Model} {A : Around} {E : Value → Shared → Prop} {Q : Flow → Shared → Prop} {s : Shared} {h₀ : Heap} {L : Addr} {m : Str → Option Value} {news : List (Addr × Obj)} {cm : Sem Flow}
    (F : Fr h₀ L s.heap m) (N : News h₀ L s.heap news) (_hy : m (Str.ofString "year") = some (.int y t1)) (_hm : m (Str.ofString "month") = some (.int mo t2))
    (h : wpAny M A cm (fun fl s' => CutS (Str.ofString "leap_adj") (fun z => z = adjI y mo) h₀ L m news s fl s') E s)
    (k : ∀ (t : Tok) (h' : Heap) (tk' : Nat), Fr h₀ L h' (fun x => if x = Str.ofString "leap_adj" then some (.int (adjI y mo) t) else m x) → News h₀ L h' news → Q .next { s with heap := h', toks := tk' }) : wpAny M A cm Q E s :=
  cutS _ _ F N h fun z t h' tk' e F N => by subst e; exact k t h' tk' F N
theorem Mine.c_legal (w : World) (loose : List Str) (mean : ExcName → Option Value) (mg mb : Str → Option Value) (news : List (Addr × Obj)) (y m d : Int) (t t2 t3 : Tok) (hd : 0 < d) (hd2 : d ≤ dimI y m) : Cl w loose mean mg mb 2 36 [.int y t, .int m t2, .int d t3] news (RetB (true)) := by
  w_on
  unfold Cl Claim
  k_fill
  intros; rename_i hret
  refine wpAny_call ?_
  k_dflt cell_enter
  repeat' (first
    | (k_unfold; (try dsimp only))
    | ((first
    | ((fail_if_success (fail_if_success (with_reducible show @ite _ _ _ _ _))); (first
      | (k_here; k_openite; (with_reducible refine ite_ndec ?hq ?_); (case hq => first | with_reducible assumption | ((rename (_ ≤ dimI _ _) => qd'); unfold dimI at qd'; simp only [*, if_true, if_false, Bool.false_eq_true] at qd'; first | assumption | exact qd' | omega)))
      | (k_here; k_openite; first
  | (with_reducible refine ite_pos (by with_reducible assumption) ?_)
  | (with_reducible refine ite_neg (by with_reducible assumption) ?_)
  | (with_reducible refine ite_isFalse (by with_reducible assumption) ?_)
  | (with_reducible refine ite_dpos (by with_reducible assumption) ?_)
  | (with_reducible refine ite_dneg (by with_reducible assumption) ?_)
  | (with_reducible refine split_dec ?_ ?_ <;> intro _) | (with_reducible refine split_bool ?_ ?_ <;> intro _))))
    | ((fail_if_success (fail_if_success (with_reducible show wpAny _ _ (PySem.call (Value.ref _) _ _) _ _ _))); (first
      | (k_here; (fail_if_success (fail_if_success (with_reducible show wpAny _ _ (PySem.call (Value.ref 106) [Value.int _ _, Value.int 7 _, Value.int _ _] _) _ _ _))); k_dflt (refine use2 (c_tj7 _ _ _ _ _ _ _ _ _ _ _ ) ?_); k_whole; intro t9 h9 tk9 F9 N9; (try dsimp only); (try k_fold))
      | (k_here; (fail_if_success (fail_if_success (with_reducible show wpAny _ _ (PySem.call (Value.ref 21) _ _) _ _ _))); k_dflt (refine use2 (c_isl _ _ _ _ _ _ _ _) ?_); k_whole; intro h9 tk9 F9 N9; (try dsimp only); (try k_fold))
      | (k_here; (fail_if_success (fail_if_success (with_reducible show wpAny _ _ (PySem.call (Value.ref 169) _ _) _ _ _))); k_dflt (refine use2 (c_long' _ _ _ _ _ _ _ _) ?_); k_whole; intro h9 tk9 F9 N9; (try dsimp only); (try k_fold))
      | (k_here; (fail_if_success (fail_if_success (with_reducible show wpAny _ _ (PySem.call (Value.ref 174) _ _) _ _ _))); k_dflt (refine use2 (c_ny _ _ _ _ _ _ _ _) ?_); k_whole; intro t9 h9 tk9 F9 N9; (try dsimp only); (try k_fold))
      | (k_here; (fail_if_success (fail_if_success (with_reducible show wpAny _ _ (PySem.call (Value.ref 106) _ _) _ _ _))); k_dflt (refine use2 (c_tj _ _ _ _ _ _ _ _ _ _ _ _ (by first | with_reducible assumption | decide | omega) (by first | with_reducible assumption | decide | omega)) ?_); k_whole; intro t9 h9 tk9 F9 N9; (try dsimp only); (try k_fold))
      | (k_here; (fail_if_success (fail_if_success (with_reducible show wpAny _ _ (PySem.call (Value.ref 64) _ _) _ _ _))); k_dflt (refine use2 (c_ymN _ _ _ _ _ _ _ _ ) ?_); k_whole; intro n9 t9 h9 tk9 hn9 hl9 hu9 F9 N9; (try dsimp only); (try k_fold))
      | (k_here; (fail_if_success (fail_if_success (with_reducible show wpAny _ _ (PySem.call (Value.ref 99) _ _) _ _ _))); k_dflt (refine use2 (c_md _ _ _ _ _ _ _ _ _ _ (by first | with_reducible assumption | decide | omega)) ?_); k_whole; intro t9 h9 tk9 F9 N9; (try dsimp only); (try k_fold))
      | (k_here; (fail_if_success (fail_if_success (with_reducible show wpAny _ _ (PySem.call (Value.ref 92) _ _) _ _ _))); k_dflt (refine use2 (c_ml _ _ _ _ _ _ _ _ _ _ (by first | with_reducible assumption | decide | omega)) ?_); k_whole; intro t9 h9 tk9 F9 N9; (try dsimp only); (try k_fold))
      | (k_here; (fail_if_success (fail_if_success (with_reducible show wpAny _ _ (PySem.call (Value.ref 85) _ _) _ _ _))); k_dflt (refine use2 (c_yd _ _ _ _ _ _ _ _) ?_); k_whole; intro t9 h9 tk9 F9 N9; (try dsimp only); (try k_fold))
      | (k_here; (fail_if_success (fail_if_success (with_reducible show wpAny _ _ (PySem.call (Value.ref 169) _ _) _ _ _))); k_dflt (refine use2 (c_long _ _ _ _ _ _ _ _) ?_); k_whole; intro h9 tk9 F9 N9; (try dsimp only); (try k_fold))
      | (k_here; (fail_if_success (fail_if_success (with_reducible show wpAny _ _ (PySem.call (Value.ref 78) _ _) _ _ _))); k_dflt (refine use2 (c_d2 _ _ _ _ _ _ _ _) ?_); k_whole; intro t9 h9 tk9 F9 N9; (try dsimp only); (try k_fold))
      | (k_here; (fail_if_success (fail_if_success (with_reducible show wpAny _ _ (PySem.call (Value.ref 71) _ _) _ _ _))); k_dflt (refine use2 (c_d1 _ _ _ _ _ _ _ _) ?_); k_whole; intro t9 h9 tk9 F9 N9; (try dsimp only); (try k_fold))
      | (k_here; (fail_if_success (fail_if_success (with_reducible show wpAny _ _ (PySem.call (Value.ref 64) _ _) _ _ _))); k_dflt (refine use2 (c_ym _ _ _ _ _ _ _ _) ?_); k_whole; intro t9 h9 tk9 F9 N9; (try dsimp only); (try k_fold))
      | (k_here; (fail_if_success (fail_if_success (with_reducible show wpAny _ _ (PySem.call (Value.ref 57) _ _) _ _ _))); k_dflt (refine use2 (c_leap _ _ _ _ _ _ _ _) ?_); k_whole; intro h9 tk9 F9 N9; (try dsimp only); (try k_fold))
      | (k_here; (fail_if_success (fail_if_success (with_reducible show wpAny _ _ (PySem.call (Value.ref 28) _ _) _ _ _))); k_dflt (refine use2 (c_mid _ _ _ _ _ _ _ _) ?_); k_whole; intro t9 h9 tk9 F9 N9; (try dsimp only); (try k_fold))))
    | ((fail_if_success (fail_if_success (with_reducible show wpAny _ _ (compareOp _ (Value.int _ _) (Value.ref _)) _ _ _))); (first
      | (k_here; k_dflt (refine' my_in_K ?F ?X ?l ?i ?_; (case F => k_asm); (case X => k_asm); (case l => k_is); (case i => repeat constructor); k_whole))))
    | ((fail_if_success (fail_if_success (with_reducible show wpAny _ _ (exec (Stmt.If _ _ _ _) _) _ _ _))); (first
      | (k_here; (fail_if_success (with_reducible show wpAny _ _ _ (fun v s' => CutS _ _ _ _ _ _ _ v s') _ _)); (fail_if_success (fail_if_success (with_reducible show wpAny _ _ (exec (Stmt.If (Expr.Compare (Expr.Name (Str.ofString "month") _) [CmpOp.LtE] _ _) _ (_ :: _) _) _) _ _ _))); (rename Fr _ _ _ _ => cF'); (rename News _ _ _ _ => cN'); (k_dflt (refine cutAdjG cF' cN' rfl rfl ?_ (fun t' h' tk' F' N' => ?_))); (all_goals ((try k_sweep); (try dsimp only); (try k_fold))))
      | (k_here; (fail_if_success (with_reducible show wpAny _ _ _ (fun v s' => CutS _ _ _ _ _ _ _ v s') _ _)); (fail_if_success (fail_if_success (with_reducible show wpAny _ _ (exec (Stmt.If (Expr.Compare (Expr.Name (Str.ofString "month") _) [CmpOp.Eq] _ _) _ (_ :: _) _) _) _ _ _))); (rename Fr _ _ _ _ => cF'); (rename News _ _ _ _ => cN'); (k_dflt (refine cutDim cF' cN' rfl rfl ?_ (fun t' h' tk' F' N' => ?_))); (all_goals ((try k_sweep); (try dsimp only); (try k_fold))))))
    | ((fail_if_success (fail_if_success (with_reducible show CutS ..))); (first
      | (k_here; k_dflt (refine' CutS.intro ?sF ?sN ?sm ?ss ?sP; (case sF => k_asm); (case sN => k_asm); (case sm => rfl); (case ss => (intro x hx; first | rfl | (simp only [if_neg hx]; done))); (case sP => ((try dsimp only); (first | unfold dimI | unfold adjI); simp only [*, if_true, if_false, Bool.false_eq_true]))))))); (try dsimp only))
    | (walk1; (try dsimp only)) | fail "no step")
  all_goals (refine retB hret ?_ (by k_asm) (by k_asm) (by (intro p hp; repeat (first | with_reducible assumption | refine List.mem_cons_of_mem _ ?_))))
  all_goals rfl
theorem Mine.c_gj (w : World) (loose : List Str) (mean : ExcName → Option Value) (mg mb : Str → Option Value) (news : List (Addr × Obj)) (y m d : Int) (t t2 t3 : Tok) (hd : 0 < d) (hd2 : d ≤ dimI y m) : Cl w loose mean mg mb 3 43 [.int y t, .int m t2, .int d t3] news (RetI (gj y m d)) := by
  w_on
  unfold Cl Claim
  k_fill
  intros; rename_i hret
  refine wpAny_call ?_
  k_dflt cell_enter
  repeat' (first
    | (k_unfold; (try dsimp only))
    | ((first
    | ((fail_if_success (fail_if_success (with_reducible show @ite _ _ _ _ _))); (first
      | (k_here; k_openite; (with_reducible refine ite_ndec ?hq ?_); (case hq => first | with_reducible assumption | ((rename (_ ≤ dimI _ _) => qd'); unfold dimI at qd'; simp only [*, if_true, if_false, Bool.false_eq_true] at qd'; first | assumption | exact qd' | omega)))
      | (k_here; k_openite; first
  | (with_reducible refine ite_pos (by with_reducible assumption) ?_)
  | (with_reducible refine ite_neg (by with_reducible assumption) ?_)
  | (with_reducible refine ite_isFalse (by with_reducible assumption) ?_)
  | (with_reducible refine ite_dpos (by with_reducible assumption) ?_)
  | (with_reducible refine ite_dneg (by with_reducible assumption) ?_)
  | (with_reducible refine split_dec ?_ ?_ <;> intro _) | (with_reducible refine split_bool ?_ ?_ <;> intro _))))
    | ((fail_if_success (fail_if_success (with_reducible show wpAny _ _ (PySem.call (Value.ref _) _ _) _ _ _))); (first
      | (k_here; (fail_if_success (fail_if_success (with_reducible show wpAny _ _ (PySem.call (Value.ref 106) [Value.int _ _, Value.int 7 _, Value.int _ _] _) _ _ _))); k_dflt (refine use2 (c_tj7 _ _ _ _ _ _ _ _ _ _ _ ) ?_); k_whole; intro t9 h9 tk9 F9 N9; (try dsimp only); (try k_fold))
      | (k_here; (fail_if_success (fail_if_success (with_reducible show wpAny _ _ (PySem.call (Value.ref 36) _ _) _ _ _))); k_dflt (refine use2 (c_legal _ _ _ _ _ _ _ _ _ _ _ _ (by assumption) (by assumption)) ?_); k_whole; intro h9 tk9 F9 N9; (try dsimp only); (try k_fold))
      | (k_here; (fail_if_success (fail_if_success (with_reducible show wpAny _ _ (PySem.call (Value.ref 21) _ _) _ _ _))); k_dflt (refine use2 (c_isl _ _ _ _ _ _ _ _) ?_); k_whole; intro h9 tk9 F9 N9; (try dsimp only); (try k_fold))
      | (k_here; (fail_if_success (fail_if_success (with_reducible show wpAny _ _ (PySem.call (Value.ref 169) _ _) _ _ _))); k_dflt (refine use2 (c_long' _ _ _ _ _ _ _ _) ?_); k_whole; intro h9 tk9 F9 N9; (try dsimp only); (try k_fold))
      | (k_here; (fail_if_success (fail_if_success (with_reducible show wpAny _ _ (PySem.call (Value.ref 174) _ _) _ _ _))); k_dflt (refine use2 (c_ny _ _ _ _ _ _ _ _) ?_); k_whole; intro t9 h9 tk9 F9 N9; (try dsimp only); (try k_fold))
      | (k_here; (fail_if_success (fail_if_success (with_reducible show wpAny _ _ (PySem.call (Value.ref 106) _ _) _ _ _))); k_dflt (refine use2 (c_tj _ _ _ _ _ _ _ _ _ _ _ _ (by first | with_reducible assumption | decide | omega) (by first | with_reducible assumption | decide | omega)) ?_); k_whole; intro t9 h9 tk9 F9 N9; (try dsimp only); (try k_fold))
      | (k_here; (fail_if_success (fail_if_success (with_reducible show wpAny _ _ (PySem.call (Value.ref 64) _ _) _ _ _))); k_dflt (refine use2 (c_ymN _ _ _ _ _ _ _ _ ) ?_); k_whole; intro n9 t9 h9 tk9 hn9 hl9 hu9 F9 N9; (try dsimp only); (try k_fold))
      | (k_here; (fail_if_success (fail_if_success (with_reducible show wpAny _ _ (PySem.call (Value.ref 99) _ _) _ _ _))); k_dflt (refine use2 (c_md _ _ _ _ _ _ _ _ _ _ (by first | with_reducible assumption | decide | omega)) ?_); k_whole; intro t9 h9 tk9 F9 N9; (try dsimp only); (try k_fold))
      | (k_here; (fail_if_success (fail_if_success (with_reducible show wpAny _ _ (PySem.call (Value.ref 92) _ _) _ _ _))); k_dflt (refine use2 (c_ml _ _ _ _ _ _ _ _ _ _ (by first | with_reducible assumption | decide | omega)) ?_); k_whole; intro t9 h9 tk9 F9 N9; (try dsimp only); (try k_fold))
      | (k_here; (fail_if_success (fail_if_success (with_reducible show wpAny _ _ (PySem.call (Value.ref 85) _ _) _ _ _))); k_dflt (refine use2 (c_yd _ _ _ _ _ _ _ _) ?_); k_whole; intro t9 h9 tk9 F9 N9; (try dsimp only); (try k_fold))
      | (k_here; (fail_if_success (fail_if_success (with_reducible show wpAny _ _ (PySem.call (Value.ref 169) _ _) _ _ _))); k_dflt (refine use2 (c_long _ _ _ _ _ _ _ _) ?_); k_whole; intro h9 tk9 F9 N9; (try dsimp only); (try k_fold))
      | (k_here; (fail_if_success (fail_if_success (with_reducible show wpAny _ _ (PySem.call (Value.ref 78) _ _) _ _ _))); k_dflt (refine use2 (c_d2 _ _ _ _ _ _ _ _) ?_); k_whole; intro t9 h9 tk9 F9 N9; (try dsimp only); (try k_fold))
      | (k_here; (fail_if_success (fail_if_success (with_reducible show wpAny _ _ (PySem.call (Value.ref 71) _ _) _ _ _))); k_dflt (refine use2 (c_d1 _ _ _ _ _ _ _ _) ?_); k_whole; intro t9 h9 tk9 F9 N9; (try dsimp only); (try k_fold))
      | (k_here; (fail_if_success (fail_if_success (with_reducible show wpAny _ _ (PySem.call (Value.ref 64) _ _) _ _ _))); k_dflt (refine use2 (c_ym _ _ _ _ _ _ _ _) ?_); k_whole; intro t9 h9 tk9 F9 N9; (try dsimp only); (try k_fold))
      | (k_here; (fail_if_success (fail_if_success (with_reducible show wpAny _ _ (PySem.call (Value.ref 57) _ _) _ _ _))); k_dflt (refine use2 (c_leap _ _ _ _ _ _ _ _) ?_); k_whole; intro h9 tk9 F9 N9; (try dsimp only); (try k_fold))
      | (k_here; (fail_if_success (fail_if_success (with_reducible show wpAny _ _ (PySem.call (Value.ref 28) _ _) _ _ _))); k_dflt (refine use2 (c_mid _ _ _ _ _ _ _ _) ?_); k_whole; intro t9 h9 tk9 F9 N9; (try dsimp only); (try k_fold))))
    | ((fail_if_success (fail_if_success (with_reducible show wpAny _ _ (compareOp _ (Value.int _ _) (Value.ref _)) _ _ _))); (first
      | (k_here; k_dflt (refine' my_in_K ?F ?X ?l ?i ?_; (case F => k_asm); (case X => k_asm); (case l => k_is); (case i => repeat constructor); k_whole))))
    | ((fail_if_success (fail_if_success (with_reducible show wpAny _ _ (exec (Stmt.If _ _ _ _) _) _ _ _))); (first
      | (k_here; (fail_if_success (with_reducible show wpAny _ _ _ (fun v s' => CutS _ _ _ _ _ _ _ v s') _ _)); (fail_if_success (fail_if_success (with_reducible show wpAny _ _ (exec (Stmt.If (Expr.Compare (Expr.Name (Str.ofString "month") _) [CmpOp.LtE] _ _) _ (_ :: _) _) _) _ _ _))); (rename Fr _ _ _ _ => cF'); (rename News _ _ _ _ => cN'); (k_dflt (refine cutAdjG cF' cN' rfl rfl ?_ (fun t' h' tk' F' N' => ?_))); (all_goals ((try k_sweep); (try dsimp only); (try k_fold))))
      | (k_here; (fail_if_success (with_reducible show wpAny _ _ _ (fun v s' => CutS _ _ _ _ _ _ _ v s') _ _)); (fail_if_success (fail_if_success (with_reducible show wpAny _ _ (exec (Stmt.If (Expr.Compare (Expr.Name (Str.ofString "month") _) [CmpOp.Eq] _ _) _ (_ :: _) _) _) _ _ _))); (rename Fr _ _ _ _ => cF'); (rename News _ _ _ _ => cN'); (k_dflt (refine cutDim cF' cN' rfl rfl ?_ (fun t' h' tk' F' N' => ?_))); (all_goals ((try k_sweep); (try dsimp only); (try k_fold))))))
    | ((fail_if_success (fail_if_success (with_reducible show CutS ..))); (first
      | (k_here; k_dflt (refine' CutS.intro ?sF ?sN ?sm ?ss ?sP; (case sF => k_asm); (case sN => k_asm); (case sm => rfl); (case ss => (intro x hx; first | rfl | (simp only [if_neg hx]; done))); (case sP => ((try dsimp only); (first | unfold dimI | unfold adjI); simp only [*, if_true, if_false, Bool.false_eq_true]))))))); (try dsimp only))
    | (walk1; (try dsimp only)) | fail "no step")
  all_goals (refine retI hret ?_ (by k_asm) (by k_asm) (by (intro p hp; repeat (first | with_reducible assumption | refine List.mem_cons_of_mem _ ?_))))
  all_goals rfl
section PlainG
set_option maxHeartbeats 8000000
/-- y, m, d is the date of the day number jd -/
def Mine.Gd (y m d jd : Int) : Prop := 1 ≤ m ∧ m ≤ 12 ∧ 1 ≤ d ∧ d ≤ dimI y m ∧ gj y m d = jd
noncomputable def Mine.gb (y : Int) : Int := 1721425 + 365 * (y - 1) + (y - 1) / 4 - (y - 1) / 100 + (y - 1) / 400
theorem Mine.gj_eq (y m d : Int) : gj y m d = gb y + ((367 * m - 362) / 12 + adjI y m + d) := by
  unfold gj gb; simp only [fdv _ _ (show (0:Int) ≤ 4 by decide), fdv _ _ (show (0:Int) ≤ 100 by decide), fdv _ _ (show (0:Int) ≤ 400 by decide), fdv _ _ (show (0:Int) ≤ 12 by decide)]; omega
theorem Mine.isl_iff (y : Int) : islB y = true ↔ (y % 4 = 0 ∧ (y % 100 ≠ 0 ∨ y % 400 = 0)) := by
  unfold islB; simp only [fmd _ _ (show (0:Int) ≤ 4 by decide), fmd _ _ (show (0:Int) ≤ 100 by decide), fmd _ _ (show (0:Int) ≤ 400 by decide), Bool.and_eq_true, Bool.or_eq_true, beq_iff_eq, bne_iff_ne]
end PlainG
section PlainG2
set_option maxHeartbeats 8000000
noncomputable def Mine.lpI (y : Int) : Int := if islB y = true then 1 else 0
theorem Mine.gb_shift (a x : Int) : gb (400 * a + x) = 146097 * a + gb x := by
  unfold gb
  have e1 : (400 * a + x - 1) / 4 = 100 * a + (x - 1) / 4 := by rw [show 400 * a + x - 1 = (x - 1) + 4 * (100 * a) by omega, Int.add_mul_ediv_left _ _ (by decide)]; omega
  have e2 : (400 * a + x - 1) / 100 = 4 * a + (x - 1) / 100 := by rw [show 400 * a + x - 1 = (x - 1) + 100 * (4 * a) by omega, Int.add_mul_ediv_left _ _ (by decide)]; omega
  have e3 : (400 * a + x - 1) / 400 = a + (x - 1) / 400 := by rw [show 400 * a + x - 1 = (x - 1) + 400 * a by omega, Int.add_mul_ediv_left _ _ (by decide)]; omega
  rw [e1, e2, e3]
  generalize (x - 1) / 4 = p; generalize (x - 1) / 100 = q; generalize (x - 1) / 400 = r
  omega
theorem Mine.lp_shift (a x : Int) : lpI (400 * a + x) = lpI x := by
  unfold lpI islB
  rw [fmd _ _ (by decide), fmd _ _ (by decide), fmd _ _ (by decide), fmd _ _ (by decide), fmd _ _ (by decide), fmd _ _ (by decide)]
  rw [show (400 * a + x) % 4 = x % 4 by rw [show 400 * a + x = 4 * (100 * a) + x by omega, Int.mul_add_emod_self_left], show (400 * a + x) % 100 = x % 100 by rw [show 400 * a + x = 100 * (4 * a) + x by omega, Int.mul_add_emod_self_left], Int.mul_add_emod_self_left]
theorem Mine.gb_D : ∀ n : Fin 400, gb (((n.val : Nat) : Int) + 1) = gb ((n.val : Nat) : Int) + 365 + lpI ((n.val : Nat) : Int) := by decide +kernel
theorem Mine.gb_succ (y : Int) : gb (y + 1) = gb y + 365 + lpI y := by
  obtain ⟨a, n, h⟩ : ∃ (a : Int) (n : Fin 400), y = 400 * a + ((n.val : Nat) : Int) := ⟨y / 400, ⟨(y % 400).toNat, by omega⟩, by dsimp only; omega⟩
  rw [h, Int.add_assoc, gb_shift, gb_shift, lp_shift, gb_D n]; omega
theorem Mine.lp_range (y : Int) : (lpI y = 0 ∧ islB y = false) ∨ (lpI y = 1 ∧ islB y = true) := by
  unfold lpI; cases islB y <;> simp
theorem Mine.gb_mono {i j : Int} (h : i ≤ j) : gb i ≤ gb j := by
  obtain ⟨n, hn⟩ : ∃ n : Nat, j = i + n := ⟨(j - i).toNat, by omega⟩
  subst hn
  clear h
  induction n with
  | zero => simp
  | succ n ih => have := gb_succ (i + n); have := lp_range (i + n); rw [show i + ((n + 1 : Nat) : Int) = i + n + 1 by omega]; omega
/-- the days ahead of month m -/
noncomputable def Mine.offG (y m : Int) : Int := (367 * m - 362) / 12 + adjI y m
/-- the same by the leap year's bool -/
noncomputable def Mine.offT (b : Bool) (m : Int) : Int := (367 * m - 362) / 12 + (if m ≤ 2 then 0 else if b = true then -1 else -2)
noncomputable def Mine.dimT (b : Bool) (m : Int) : Int := if (m == 2) = true then (if b = true then 29 else 28) else if ([4, 6, 9, 11].any fun x => x == m) = true then 30 else 31
noncomputable def Mine.lpT (b : Bool) : Int := if b = true then 1 else 0
theorem Mine.month12 {m : Int} (h1 : 1 ≤ m) (h12 : m ≤ 12) : ∃ k : Fin 12, m = ((k.val : Nat) : Int) + 1 := ⟨⟨(m - 1).toNat, by omega⟩, by dsimp only; omega⟩
theorem Mine.offT_lt : ∀ (b : Bool) (i j : Fin 12), i < j → offT b (((i.val : Nat) : Int) + 1) + dimT b (((i.val : Nat) : Int) + 1) ≤ offT b (((j.val : Nat) : Int) + 1) := by decide +kernel
theorem Mine.offT_end : ∀ (b : Bool) (i : Fin 12), 0 ≤ offT b (((i.val : Nat) : Int) + 1) ∧ offT b (((i.val : Nat) : Int) + 1) + dimT b (((i.val : Nat) : Int) + 1) ≤ 365 + lpT b := by decide +kernel
theorem Mine.offT_step : ∀ (b : Bool) (i : Fin 12), offT b (((i.val : Nat) : Int) + 1 + 1) = offT b (((i.val : Nat) : Int) + 1) + dimT b (((i.val : Nat) : Int) + 1) := by decide +kernel
theorem Mine.offT_ends : ∀ b : Bool, offT b 1 = 0 ∧ offT b 13 = 365 + lpT b := by decide +kernel
theorem Mine.dim_tab (y : Int) : dimI y 1 = 31 ∧ dimI y 2 = 28 + lpI y ∧ dimI y 3 = 31 ∧ dimI y 4 = 30 ∧ dimI y 5 = 31 ∧ dimI y 6 = 30 ∧ dimI y 7 = 31 ∧ dimI y 8 = 31 ∧ dimI y 9 = 30 ∧ dimI y 10 = 31 ∧ dimI y 11 = 30 ∧ dimI y 12 = 31 := by
  unfold dimI lpI
  cases islB y <;> decide
theorem Mine.off_step {y m : Int} (h1 : 1 ≤ m) (h12 : m ≤ 12) : offG y (m + 1) = offG y m + dimI y m := by
  obtain ⟨k, e⟩ := month12 h1 h12
  subst e; exact offT_step (islB y) k
theorem Mine.off_ends (y : Int) : offG y 1 = 0 ∧ offG y 13 = 365 + lpI y := offT_ends (islB y)
theorem Mine.gj_off (y m d : Int) : gj y m d = gb y + offG y m + d := by rw [gj_eq]; unfold offG; omega
theorem Mine.offG_lt (y m m' : Int) (h1 : 1 ≤ m) (h : m < m') (h12 : m' ≤ 12) : offG y m + dimI y m ≤ offG y m' := by
  obtain ⟨i, ei⟩ := month12 h1 (by omega)
  obtain ⟨j, ej⟩ := month12 (show 1 ≤ m' by omega) h12
  subst ei; subst ej
  exact offT_lt (islB y) i j (by show i.val < j.val; omega)
theorem Mine.offG_end (y m : Int) (h1 : 1 ≤ m) (h12 : m ≤ 12) : 0 ≤ offG y m ∧ offG y m + dimI y m ≤ 365 + lpI y := by
  obtain ⟨i, ei⟩ := month12 h1 h12
  subst ei; exact offT_end (islB y) i
theorem Mine.Gd.year {y m d jd : Int} (H : Gd y m d jd) : gb y + 1 ≤ jd ∧ jd < gb (y + 1) + 1 := by
  obtain ⟨h1, h2, h3, h4, h5⟩ := H
  rw [gj_off] at h5
  have := offG_end y m h1 h2
  have := gb_succ y
  omega
theorem Mine.Gd.uniq {y m d y' m' d' jd : Int} (H : Gd y m d jd) (H' : Gd y' m' d' jd) : y = y' ∧ m = m' ∧ d = d' := by
  have a := H.year; have b := H'.year
  have hy : y = y' := by
    by_cases q : y < y'
    · have := gb_mono (show y + 1 ≤ y' by omega); omega
    · by_cases q' : y' < y
      · have := gb_mono (show y' + 1 ≤ y by omega); omega
      · omega
  subst hy
  obtain ⟨h1, h2, h3, h4, h5⟩ := H
  obtain ⟨g1, g2, g3, g4, g5⟩ := H'
  rw [gj_off] at h5 g5
  have hm : m = m' := by
    by_cases q : m < m'
    · have := offG_lt y m m' h1 q g2; omega
    · by_cases q' : m' < m
      · have := offG_lt y m' m g1 q' h2; omega
      · omega
  subst hm
  exact ⟨rfl, rfl, by omega⟩
/-- a day of the year y: r days behind the first of January -/
def Mine.Yd (y r jd : Int) : Prop := 0 ≤ r ∧ r < 365 + lpI y ∧ gb y + 1 + r = jd
theorem Mine.Yd.date {y r jd : Int} (H : Yd y r jd) (m d : Int) (h1 : 1 ≤ m) (h12 : m ≤ 12) (hd : d = r - offG y m + 1) (ha : offG y m ≤ r) (hb : r < offG y m + dimI y m) : Gd y m d jd := by
  obtain ⟨g1, g2, g3⟩ := H
  refine ⟨h1, h12, by omega, by omega, ?_⟩
  rw [gj_off]; omega
/-- n turns: as often as c goes into the rest, c is taken from it and e laid to the year -/
def Mine.Dn (c e R Y : Int) (i : Nat) (a b : Int) : Prop := ∃ j : Int, 0 ≤ j ∧ j ≤ i ∧ a = R - c * j ∧ b = Y + e * j ∧ 0 ≤ a ∧ (j < i → a < c)
theorem Mine.Dn.start {c e R Y : Int} (h : 0 ≤ R) : Dn c e R Y 0 R Y := ⟨0, by omega, by omega, by simp, by simp, h, fun q => by omega⟩
theorem Mine.Dn.on {c e R Y : Int} {i : Nat} {a b : Int} (H : Dn c e R Y i a b) (h : c ≤ a) : Dn c e R Y (i + 1) (a - c) (b + e) := by
  obtain ⟨j, h0, h1, ha, hb, hp, hj⟩ := H
  have : j = i := by
    by_cases q : j < i
    · have := hj q; omega
    · omega
  refine ⟨j + 1, by omega, by omega, by rw [ha, Int.mul_add]; omega, by rw [hb, Int.mul_add]; omega, by omega, fun q => ?_⟩
  omega
theorem Mine.Dn.off {c e R Y : Int} {i : Nat} {a b : Int} (H : Dn c e R Y i a b) (h : ¬ c ≤ a) : Dn c e R Y (i + 1) a b := by
  obtain ⟨j, h0, h1, ha, hb, hp, hj⟩ := H
  exact ⟨j, h0, by omega, ha, hb, hp, fun _ => by omega⟩
theorem Mine.yc1 (q i j k : Int) (k0 : 0 ≤ k) (k3 : k ≤ 3) : (400 * q + 100 * i + 4 * j + k + 1 - 1) / 4 = 100 * q + 25 * i + j := by omega
theorem Mine.yc2 (q i s : Int) (k0 : 0 ≤ s) (k3 : s < 100) : (400 * q + 100 * i + s) / 100 = 4 * q + i := by omega
theorem Mine.yc3 (q s : Int) (k0 : 0 ≤ s) (k3 : s < 400) : (400 * q + s) / 400 = q := by omega
theorem Mine.yc4 (q i j k : Int) : 400 * q + 100 * i + 4 * j + k + 1 - 1 = 400 * q + 100 * i + (4 * j + k) := by omega
theorem Mine.yc5 (q i j k : Int) : 400 * q + 100 * i + 4 * j + k + 1 - 1 = 400 * q + (100 * i + 4 * j + k) := by omega
theorem Mine.yc6 {jd q i j k r : Int} (hq : jd - 1721426 = 146097 * q + 36524 * i + 1461 * j + 365 * k + r) : 1721425 + 365 * (400 * q + 100 * i + 4 * j + k + 1 - 1) + (100 * q + 25 * i + j) - (4 * q + i) + q + 1 + r = jd := by omega
theorem Mine.yc7 {j k : Int} (j0 : 0 ≤ j) (j24 : j ≤ 24) (k0 : 0 ≤ k) (k3 : k ≤ 3) : 0 ≤ 4 * j + k ∧ 4 * j + k < 100 := by omega
theorem Mine.yc8 {i j k : Int} (i0 : 0 ≤ i) (i3 : i ≤ 3) (j0 : 0 ≤ j) (j24 : j ≤ 24) (k0 : 0 ≤ k) (k3 : k ≤ 3) : 0 ≤ 100 * i + 4 * j + k ∧ 100 * i + 4 * j + k < 400 := by omega
theorem Mine.yl1 (q i j : Int) : 400 * q + 100 * i + 4 * j + 3 + 1 = 4 * (100 * q + 25 * i + (j + 1)) := by omega
theorem Mine.yl2 (q i j : Int) : 400 * q + 100 * i + 4 * j + 3 + 1 = 100 * (4 * q + i) + (4 * j + 4) := by omega
theorem Mine.yl3 {j : Int} (j0 : 0 ≤ j) (h : j < 24) : (4 * j + 4) % 100 ≠ 0 := by omega
theorem Mine.yl4 (q : Int) : (400 * q + 100 * 3 + 4 * 24 + 3 + 1) % 400 = 0 := by omega
theorem Mine.ydlp {q i j : Int} (j0 : 0 ≤ j) (j24 : j ≤ 24) (h3 : j < 24 ∨ i = 3) : islB (400 * q + 100 * i + 4 * j + 3 + 1) = true := by
  rw [isl_iff]
  refine ⟨by rw [yl1]; exact Int.mul_emod_right 4 _, ?_⟩
  by_cases c : j < 24
  · left; rw [yl2, Int.mul_add_emod_self_left]; exact yl3 j0 c
  · right
    have e : j = 24 := by omega
    have e2 : i = 3 := h3.resolve_left c
    subst e; subst e2; exact yl4 q
theorem Mine.ydcore (jd q i j k r : Int) (hq : jd - 1721426 = 146097 * q + 36524 * i + 1461 * j + 365 * k + r) (i0 : 0 ≤ i) (i3 : i ≤ 3) (j0 : 0 ≤ j) (j24 : j ≤ 24) (k0 : 0 ≤ k) (k3 : k ≤ 3) (r0 : 0 ≤ r) (hr : r < 365 ∨ (k = 3 ∧ r = 365 ∧ (j < 24 ∨ i = 3))) : Yd (400 * q + 100 * i + 4 * j + k + 1) r jd := by
  refine ⟨r0, ?_, ?_⟩
  · rcases hr with h | ⟨h, h2, h3⟩
    · rcases lp_range (400 * q + 100 * i + 4 * j + k + 1) with ⟨e, _⟩ | ⟨e, _⟩ <;> rw [e]
      · exact h
      · exact Int.lt_trans h (by decide)
    · subst h; subst h2
      unfold lpI; rw [if_pos (ydlp j0 j24 h3)]; decide
  · unfold gb
    have s7 := yc7 j0 j24 k0 k3
    have s8 := yc8 i0 i3 j0 j24 k0 k3
    have f2 : (400 * q + 100 * i + 4 * j + k + 1 - 1) / 100 = 4 * q + i := by rw [yc4]; exact yc2 q i _ s7.1 s7.2
    have f3 : (400 * q + 100 * i + 4 * j + k + 1 - 1) / 400 = q := by rw [yc5]; exact yc3 q _ s8.1 s8.2
    rw [yc1 q i j k k0 k3, f2, f3]; exact yc6 hq
theorem Mine.lg_year (jd r1 y1 r2 y2 r3 y3 : Int) (H1 : Dn 36524 100 (Int.fmod (jd - 1721426) 146097) (400 * Int.fdiv (jd - 1721426) 146097 + 1) 3 r1 y1) (H2 : Dn 1461 4 r1 y1 24 r2 y2) (H3 : Dn 365 1 r2 y2 3 r3 y3) : Yd y3 r3 jd := by
  rw [fmd _ _ (by decide), fdv _ _ (by decide)] at H1
  obtain ⟨i, i0, i1, ia, ib, ip, ij⟩ := H1
  obtain ⟨j, j0, j1, ja, jb, jp, jj⟩ := H2
  obtain ⟨k, k0, k1, ka, kb, kp, kj⟩ := H3
  have hjd := Int.mul_ediv_add_emod (jd - 1721426) 146097
  have hlt := Int.emod_lt_of_pos (jd - 1721426) (show (0 : Int) < 146097 by decide)
  generalize (jd - 1721426) / 146097 = q at *
  generalize (jd - 1721426) % 146097 = r at *
  have ey : y3 = 400 * q + 100 * i + 4 * j + k + 1 := by clear ij jj kj hlt hjd ia ja ka; omega
  have i3 : i ≤ 3 := i1
  have j24 : j ≤ 24 := j1
  have k3 : k ≤ 3 := k1
  subst ey
  refine ydcore jd q i j k r3 (by clear ij jj kj hlt ib jb kb; omega) i0 i3 j0 j24 k0 k3 kp ?_
  by_cases c3 : r3 < 365
  · exact .inl c3
  · have k3' : k = 3 := by
      by_cases q' : k < 3
      · exact absurd (kj q') c3
      · omega
    refine .inr ⟨k3', ?_⟩
    clear kj ib jb kb hjd
    by_cases c24 : j < 24
    · have := jj c24; omega
    · by_cases ci : i < 3
      · have := ij ci; omega
      · omega
theorem Mine.fj_monthD : ∀ (L : Bool) (n : Fin 366), ((n.val : Nat) : Int) < 365 + lpT L →
    let yd : Int := ((n.val : Nat) : Int)
    let M : Int := ((yd + (if yd < 58 + (if L = true then 1 else 0) then 0 else if L = true then 1 else 2)) * 12 + 373) / 367
    1 ≤ M ∧ M ≤ 12 ∧ offT L M ≤ yd ∧ yd < offT L M + dimT L M := by decide +kernel
theorem Mine.Yd.month {Y yd jd adj M Dd : Int} (H : Yd Y yd jd) (ha : adj = if yd < 58 + (if islB Y = true then 1 else 0) then 0 else if islB Y = true then 1 else 2) (hM : M = ((yd + adj) * 12 + 373) / 367) (hD : Dd = jd - gj Y M 1 + 1) : Gd Y M Dd jd := by
  obtain ⟨n, hn⟩ : ∃ n : Fin 366, yd = ((n.val : Nat) : Int) := ⟨⟨yd.toNat, by have := H.1; have := H.2.1; have := lp_range Y; omega⟩, by have := H.1; dsimp only; omega⟩
  have k := fj_monthD (islB Y) n (by have := H.2.1; rw [hn] at this; exact this)
  dsimp only at k
  rw [← hn, ← ha, ← hM] at k
  obtain ⟨h1, h12, h3, h4⟩ := k
  have h3 : offG Y M ≤ yd := h3
  have h4 : yd < offG Y M + dimI Y M := h4
  refine H.date M Dd h1 h12 ?_ h3 h4
  have e := gj_off Y M 1
  have := H.2.2
  rw [hD, e]; omega
theorem Mine.fu1 {r c r2 : Int} (a2 : 36524 * c + r2 = r) (b1 : 0 ≤ r) (c1 : r < 146097) (b2 : 0 ≤ r2) (c2 : r2 < 36524) (h : c ≠ 4) : 0 ≤ c ∧ c ≤ 3 := by omega
theorem Mine.fu2 {r2 k r3 : Int} (a3 : 1461 * k + r3 = r2) (b2 : 0 ≤ r2) (c2 : r2 < 36524) (b3 : 0 ≤ r3) (c3 : r3 < 1461) : 0 ≤ k ∧ k ≤ 24 := by omega
theorem Mine.fu3 {r3 i rr : Int} (a4 : 365 * i + rr = r3) (b3 : 0 ≤ r3) (c3 : r3 < 1461) (b4 : 0 ≤ rr) (c4 : rr < 365) (h : i ≠ 4) : 0 ≤ i ∧ i ≤ 3 := by omega
theorem Mine.fv1 {r r2 : Int} (a : 36524 * 4 + r2 = r) (b : 0 ≤ r2) (c : r < 146097) : r2 = 0 ∧ r = 146096 := by omega
theorem Mine.fv2 {k r3 : Int} (a : 1461 * k + r3 = 0) (b : 0 ≤ r3) (c : r3 < 1461) : k = 0 ∧ r3 = 0 := by omega
theorem Mine.fv3 {i rr : Int} (a : 365 * i + rr = 0) (b : 0 ≤ rr) (c : rr < 365) : i = 0 := by omega
theorem Mine.fw1 {r3 rr : Int} (a : 365 * 4 + rr = r3) (b : 0 ≤ rr) (c : r3 < 1461) : rr = 0 ∧ r3 = 1460 := by omega
theorem Mine.fw2 {k r3 r2 : Int} (a : 1461 * k + r3 = r2) (e : r3 = 1460) (c : r2 < 36524) (b : 0 ≤ r2) : 0 ≤ k ∧ k < 24 := by omega
theorem Mine.fw3 {c k r3 r2 r : Int} (a2 : 36524 * c + r2 = r) (a3 : 1461 * k + r3 = r2) (e : r3 = 1460) (e3 : 0 ≤ k) (c1 : r < 146097) (b1 : 0 ≤ r) (c2 : r2 < 36524) : 0 ≤ c ∧ c ≤ 3 := by omega
theorem Mine.fe1 (q : Int) : 146097 * q + 146096 = 146097 * q + 36524 * 3 + 1461 * 24 + 365 * 3 + 365 := by omega
theorem Mine.fe2 (q : Int) : 400 * q + 100 * 3 + 4 * 24 + 3 + 1 = q * 400 + 4 * 100 + 0 * 4 + 0 := by omega
theorem Mine.fe3 (q c k : Int) : 146097 * q + (36524 * c + (1461 * k + 1460)) = 146097 * q + 36524 * c + 1461 * k + 365 * 3 + 365 := by omega
theorem Mine.fe4 (q c k : Int) : 400 * q + 100 * c + 4 * k + 3 + 1 = q * 400 + c * 100 + k * 4 + 4 := by omega
theorem Mine.fe5 (q c k i rr : Int) : 146097 * q + (36524 * c + (1461 * k + (365 * i + rr))) = 146097 * q + 36524 * c + 1461 * k + 365 * i + rr := by omega
theorem Mine.fe6 (q c k i : Int) : 400 * q + 100 * c + 4 * k + i + 1 = q * 400 + c * 100 + k * 4 + i + 1 := by omega
theorem Mine.fe7 {jd g t : Int} (h : g + 1 + t = jd) : jd - (g + 0 + 1) = t := by omega
theorem Mine.fj_ok (jd D q r c r2 k r3 i y0 Y yd adj M Dd : Int) (h1 : D = jd - 1721426) (h2 : q = Int.fdiv D 146097) (h3 : r = Int.fmod D 146097) (h4 : c = Int.fdiv r 36524) (h5 : r2 = Int.fmod r 36524)
    (h6 : k = Int.fdiv r2 1461) (h7 : r3 = Int.fmod r2 1461) (h8 : i = Int.fdiv r3 365) (h9 : y0 = q * 400 + c * 100 + k * 4 + i)
    (hY : ((c = 4 ∨ i = 4) ∧ Y = y0) ∨ (c ≠ 4 ∧ i ≠ 4 ∧ Y = y0 + 1)) (h10 : yd = jd - gj Y 1 1)
    (ha : adj = if yd < 58 + (if islB Y = true then 1 else 0) then 0 else if islB Y = true then 1 else 2) (hM : M = Int.fdiv ((yd + adj) * 12 + 373) 367) (hD : Dd = jd - gj Y M 1 + 1) : Gd Y M Dd jd := by
  rw [fdv _ _ (by decide)] at h2 h4 h6 h8 hM
  rw [fmd _ _ (by decide)] at h3 h5 h7
  have g1 : gj Y 1 1 = gb Y + 0 + 1 := by rw [gj_off, (off_ends Y).1]
  have a1 := Int.mul_ediv_add_emod D 146097
  have b1 := Int.emod_nonneg D (show (146097 : Int) ≠ 0 by decide)
  have c1 := Int.emod_lt_of_pos D (show (0 : Int) < 146097 by decide)
  have a2 := Int.mul_ediv_add_emod r 36524
  have b2 := Int.emod_nonneg r (show (36524 : Int) ≠ 0 by decide)
  have c2 := Int.emod_lt_of_pos r (show (0 : Int) < 36524 by decide)
  have a3 := Int.mul_ediv_add_emod r2 1461
  have b3 := Int.emod_nonneg r2 (show (1461 : Int) ≠ 0 by decide)
  have c3 := Int.emod_lt_of_pos r2 (show (0 : Int) < 1461 by decide)
  have a4 := Int.mul_ediv_add_emod r3 365
  have b4 := Int.emod_nonneg r3 (show (365 : Int) ≠ 0 by decide)
  have c4 := Int.emod_lt_of_pos r3 (show (0 : Int) < 365 by decide)
  rw [← h2, ← h3] at a1; rw [← h3] at b1 c1
  rw [← h4, ← h5] at a2; rw [← h5] at b2 c2
  rw [← h6, ← h7] at a3; rw [← h7] at b3 c3
  rw [← h8] at a4
  generalize r3 % 365 = rr at *
  clear h2 h3 h4 h5 h6 h7 h8
  have done : ∀ t : Int, Yd Y t jd → Gd Y M Dd jd := fun t H => by
    have e : yd = t := by rw [h10, g1]; exact fe7 H.2.2
    rw [← e] at H
    exact H.month ha hM hD
  clear ha hM hD g1 h10
  rw [h1] at a1
  rcases hY with ⟨hc4 | hi4, hY⟩ | ⟨hn1, hn2, hY⟩
  · subst hc4
    obtain ⟨e1, e2⟩ := fv1 a2 b2 c1
    subst e1
    obtain ⟨e3, e4⟩ := fv2 a3 b3 c3
    subst e3; subst e4
    have e5 := fv3 a4 b4 c4
    subst e5
    have H := ydcore jd q 3 24 3 365 (by rw [← a1, e2]; exact fe1 q) (by decide) (by decide) (by decide) (by decide) (by decide) (by decide) (by decide) (.inr ⟨rfl, rfl, .inr rfl⟩)
    rw [fe2, ← h9, ← hY] at H
    exact done _ H
  · subst hi4
    obtain ⟨e1, e2⟩ := fw1 a4 b4 c3
    have e3 := fw2 a3 e2 c2 b2
    have e4 := fw3 a2 a3 e2 e3.1 c1 b1 c2
    have H := ydcore jd q c k 3 365 (by rw [← a1, ← a2, ← a3, e2]; exact fe3 q c k) e4.1 e4.2 e3.1 (Int.le_of_lt e3.2) (by decide) (by decide) (by decide) (.inr ⟨rfl, rfl, .inl e3.2⟩)
    rw [fe4, ← h9, ← hY] at H
    exact done _ H
  · have e3 := fu2 a3 b2 c2 b3 c3
    have e4 := fu1 a2 b1 c1 b2 c2 hn1
    have e5 := fu3 a4 b3 c3 b4 c4 hn2
    have H := ydcore jd q c k i rr (by rw [← a1, ← a2, ← a3, ← a4]; exact fe5 q c k i rr) e4.1 e4.2 e3.1 e3.2 e5.1 e5.2 b4 (.inl c4)
    rw [fe6, ← h9, ← hY] at H
    exact done _ H
end PlainG2
section PlainH
set_option maxHeartbeats 8000000
/-- y, m, d is the Hebrew date of the day number jd -/
def Mine.Hd (y m d jd : Int) : Prop := 1 ≤ m ∧ m ≤ ymI y ∧ 1 ≤ d ∧ d ≤ mlI y m ∧ tjI y m d = jd
theorem Mine.ny_step (y : Int) : nyI y < nyI (y + 1) := by
  have := len_ny y
  cases h : leapB y
  · have := this.1 h; omega
  · have := this.2 h; omega
theorem Mine.ny_mono {i j : Int} (h : i ≤ j) : nyI i ≤ nyI j := by
  obtain ⟨n, hn⟩ : ∃ n : Nat, j = i + n := ⟨(j - i).toNat, by omega⟩
  subst hn
  clear h
  induction n with
  | zero => simp
  | succ n ih => have := ny_step (i + n); rw [show i + ((n + 1 : Nat) : Int) = i + n + 1 by omega]; omega
theorem Mine.count_le (y jd : Int) (h : jd < nyI (y + 1)) : Int.fdiv ((jd - 347996) * 98496) 35975351 ≤ y + 1 := by
  rw [fdv _ _ (by decide)]
  have hq : nyI (y + 1) ≤ qq (y + 1) + 348000 := by rw [ny_eq]; have := (ny0_in (leapB (y + 1)) (leapB (y + 1 - 1)) (qq (y + 1)) (pp (y + 1))).2; omega
  have hw : 25920 * qq (y + 1) ≤ WW (y + 1) := by unfold qq; omega
  have hm : 19 * mo (y + 1) ≤ 235 * y + 1 := by unfold mo; omega
  unfold WW at hw
  omega
theorem Mine.count_nonneg (y jd : Int) (hy : 1 ≤ y) (h : nyI y ≤ jd) : 0 ≤ Int.fdiv ((jd - 347996) * 98496) 35975351 := by
  rw [fdv _ _ (by decide)]
  have h1 : nyI 1 ≤ nyI y := ny_mono hy
  have h2 : nyI 1 = 347998 := by decide +kernel
  omega
theorem Mine.off_hn (y i : Int) (h7 : 7 ≤ i) (n : Nat) : off y i + mlI y i ≤ off y (i + (n : Int) + 1) := by
  induction n with
  | zero => rw [show i + ((0 : Nat) : Int) + 1 = i + 1 by omega, off_hs h7]; exact Int.le_refl _
  | succ n ih => rw [show i + ((n + 1 : Nat) : Int) + 1 = i + (n : Int) + 1 + 1 by omega, off_hs (by omega)]; have := ml_pos y (i + (n : Int) + 1); omega
theorem Mine.off_hi (y i m : Int) (h7 : 7 ≤ i) (h : i < m) : off y i + mlI y i ≤ off y m := by
  have := off_hn y i h7 (m - i - 1).toNat
  rwa [show i + ((m - i - 1).toNat : Int) + 1 = m by omega] at this
theorem Mine.off_ln (y i : Int) (h1 : 1 ≤ i) (n : Nat) (h6 : i + (n : Int) < 6) : off y i + mlI y i ≤ off y (i + (n : Int) + 1) := by
  induction n with
  | zero => rw [show i + ((0 : Nat) : Int) + 1 = i + 1 by omega, off_ls h1 (by omega)]; exact Int.le_refl _
  | succ n ih => have := ih (by omega); rw [show i + ((n + 1 : Nat) : Int) + 1 = i + (n : Int) + 1 + 1 by omega, off_ls (by omega) (by omega)]; have := ml_pos y (i + (n : Int) + 1); omega
theorem Mine.off_lo (y i m : Int) (h1 : 1 ≤ i) (h : i < m) (h6 : m ≤ 6) : off y i + mlI y i ≤ off y m := by
  have := off_ln y i h1 (m - i - 1).toNat (by omega)
  rwa [show i + ((m - i - 1).toNat : Int) + 1 = m by omega] at this
/-- the months from Tishri on stand ahead of Nisan -/
theorem Mine.off_half (y m : Int) (h7 : 7 ≤ m) (hm : m ≤ ymI y) : off y m + mlI y m ≤ off y 1 := by
  rw [off_wrap]
  by_cases h : m = ymI y
  · rw [h]; exact Int.le_refl _
  · have := off_hi y m (ymI y) h7 (by omega); have := ml_pos y (ymI y); omega
theorem Mine.off_one (y m : Int) (h1 : 1 ≤ m) (h6 : m < 7) : off y 1 ≤ off y m := by
  by_cases h : m = 1
  · rw [h]; exact Int.le_refl _
  · have := off_lo y 1 m (by omega) (by omega) (by omega); have := ml_pos y 1; omega
theorem Mine.off_end (y m : Int) (hy : 0 ≤ y) (h1 : 1 ≤ m) (hm : m ≤ ymI y) : off y m + mlI y m ≤ nyI (y + 1) - nyI y := by
  have key := off_all y hy
  by_cases h7 : 7 ≤ m
  · have := off_half y m h7 hm
    have := off_one y 6 (by omega) (by omega)
    have := ml_pos y 6
    omega
  · by_cases h6 : m = 6
    · rw [h6]; omega
    · have := off_lo y m 6 h1 (by omega) (by omega); have := ml_pos y 6; omega
theorem Mine.Hd.year {y m d jd : Int} (hy : 0 ≤ y) (H : Hd y m d jd) : nyI y ≤ jd ∧ jd < nyI (y + 1) := by
  obtain ⟨h1, h2, h3, h4, h5⟩ := H
  have := tj_off y m d hy (by omega)
  have := off_nonneg y m
  have := off_end y m hy h1 h2
  omega
theorem Mine.Hd.half {y m d jd : Int} (hy : 0 ≤ y) (H : Hd y m d jd) : jd < tjI y 1 1 ↔ 7 ≤ m := by
  obtain ⟨h1, h2, h3, h4, h5⟩ := H
  have e := tj_off y m d hy (by omega)
  have e1 := tj_off y 1 1 hy (by omega)
  constructor
  · intro h
    by_cases h7 : 7 ≤ m
    · exact h7
    · have := off_one y m h1 (by omega); omega
  · intro h
    have := off_half y m h h2; omega
/-- the search of the month: on at i, it goes on till m -/
theorem Mine.Hd.seek {y m d jd i : Int} (hy : 0 ≤ y) (H : Hd y m d jd) (hi : (7 ≤ i ∧ i ≤ m) ∨ (1 ≤ i ∧ i ≤ m ∧ m < 7)) : tjI y i (mlI y i) < jd ↔ i < m := by
  obtain ⟨h1, h2, h3, h4, h5⟩ := H
  have e := tj_off y m d hy (by omega)
  have ei := tj_off y i (mlI y i) hy (ml_pos y i)
  have hm13 : m ≤ 13 := by rcases ym_range y with ⟨q, _⟩ | ⟨q, _⟩ <;> omega
  constructor
  · intro h
    by_cases q : i < m
    · exact q
    · have : i = m := by omega
      subst this; omega
  · intro h
    rcases hi with ⟨h7, _⟩ | ⟨g1, _, g6⟩
    · have := off_hi y i m h7 h; omega
    · have := off_lo y i m g1 h (by omega); omega
theorem Mine.Hd.day {y m d jd : Int} (hy : 0 ≤ y) (H : Hd y m d jd) : jd - tjI y m 1 + 1 = d := by
  obtain ⟨h1, h2, h3, h4, h5⟩ := H
  have e := tj_off y m d hy (by omega)
  have e1 := tj_off y m 1 hy (by omega)
  omega
end PlainH
-- theorem ite_dpos {c : Prop} [Decidable c] {a b : Prop} (hc : c) (h : a) : if decide c = true then a else b := by rw [if_pos (decide_eq_true hc)]; exact h
-- theorem ite_dneg {c : Prop} [Decidable c] {a b : Prop} (hc : ¬ c) (h : b) : if decide c = true then a else b := by rw [if_neg (by rw [decide_eq_true_eq]; exact hc)]; exact h
theorem Mine.dim_pos (y m : Int) : 1 ≤ dimI y m := by unfold dimI; (repeat' split) <;> decide
noncomputable abbrev Mine.tup3 (a b c : Value) : Obj := { cls := .type "tuple", data := .seq #[a, b, c] }
abbrev Mine.RetT3 (a b c : Int) (news : List (Addr × Obj)) (h₀ : Heap) (L : Addr) (m : Str → Option Value) (s : Shared) (Q : Value → Shared → Prop) : Prop :=
  ∀ (D : Addr) (t1 t2 t3 : Tok) (h' : Heap) (tk' : Nat), Fr h₀ L h' m → News h₀ L h' ((D, tup3 (.int a t1) (.int b t2) (.int c t3)) :: news) → Q (.ref D) { s with heap := h', toks := tk' }
abbrev Mine.RetG (jd : Int) (news : List (Addr × Obj)) (h₀ : Heap) (L : Addr) (m : Str → Option Value) (s : Shared) (Q : Value → Shared → Prop) : Prop :=
  ∀ (y mo d : Int), Gd y mo d jd → ∀ (D : Addr) (t1 t2 t3 : Tok) (h' : Heap) (tk' : Nat), Fr h₀ L h' m → News h₀ L h' ((D, tup3 (.int y t1) (.int mo t2) (.int d t3)) :: news) → Q (.ref D) { s with heap := h', toks := tk' }
theorem Mine.cutYr {c i y0 : Int} {t1 t2 t3 : Tok} {M : Model} {A : Around} {E : Value → Shared → Prop} {Q : Flow → Shared → Prop} {s : Shared} {h₀ : Heap} {L : Addr} {m : Str → Option Value} {news : List (Addr × Obj)} {cm : Sem Flow}
    (F : Fr h₀ L s.heap m) (N : News h₀ L s.heap news) (_hc : m (Str.ofString "cent") = some (.int c t1)) (_hi : m (Str.ofString "yindex") = some (.int i t2)) (_hy : m (Str.ofString "year") = some (.int y0 t3))
    (h : wpAny M A cm (fun fl s' => CutS (Str.ofString "year") (fun z => ((c = 4 ∨ i = 4) ∧ z = y0) ∨ (c ≠ 4 ∧ i ≠ 4 ∧ z = y0 + 1)) h₀ L m news s fl s') E s)
    (k : ∀ (z : Int) (t : Tok) (h' : Heap) (tk' : Nat), (((c = 4 ∨ i = 4) ∧ z = y0) ∨ (c ≠ 4 ∧ i ≠ 4 ∧ z = y0 + 1)) → Fr h₀ L h' (fun x => if x = Str.ofString "year" then some (.int z t) else m x) → News h₀ L h' news → Q .next { s with heap := h', toks := tk' }) : wpAny M A cm Q E s := cutS _ _ F N h k
theorem Mine.cutAdj {yd Y : Int} {t1 t2 : Tok} {M : Model} {A : Around} {E : Value → Shared → Prop} {Q : Flow → Shared → Prop} {s : Shared} {h₀ : Heap} {L : Addr} {m : Str → Option Value} {news : List (Addr × Obj)} {cm : Sem Flow}
    (F : Fr h₀ L s.heap m) (N : News h₀ L s.heap news) (_hc : m (Str.ofString "yearday") = some (.int yd t1)) (_hy : m (Str.ofString "year") = some (.int Y t2))
    (h : wpAny M A cm (fun fl s' => CutS (Str.ofString "leap_adj") (fun z => z = if yd < 58 + (if islB Y = true then 1 else 0) then 0 else if islB Y = true then 1 else 2) h₀ L m news s fl s') E s)
    (k : ∀ (z : Int) (t : Tok) (h' : Heap) (tk' : Nat), (z = if yd < 58 + (if islB Y = true then 1 else 0) then 0 else if islB Y = true then 1 else 2) → Fr h₀ L h' (fun x => if x = Str.ofString "leap_adj" then some (.int z t) else m x) → News h₀ L h' news → Q .next { s with heap := h', toks := tk' }) : wpAny M A cm Q E s := cutS _ _ F N h k
theorem Mine.c_fj (w : World) (loose : List Str) (mean : ExcName → Option Value) (mg mb : Str → Option Value) (news : List (Addr × Obj)) (jd : Int) (t : Tok) : Cl w loose mean mg mb 4 50 [.int jd t] news (RetG jd) := by
  w_on
  unfold Cl Claim
  k_fill
  intros; rename_i hret
  refine wpAny_call ?_
  k_dflt cell_enter
  repeat' (first
    | (k_unfold; (try dsimp only))
    | ((first
    | ((fail_if_success (fail_if_success (with_reducible show @ite _ _ _ _ _))); (first
      | (k_here; k_openite; first
  | (with_reducible refine ite_pos (by with_reducible assumption) ?_)
  | (with_reducible refine ite_neg (by with_reducible assumption) ?_)
  | (with_reducible refine ite_isFalse (by with_reducible assumption) ?_)
  | (with_reducible refine ite_dpos (by with_reducible assumption) ?_)
  | (with_reducible refine ite_dneg (by with_reducible assumption) ?_)
  | (with_reducible refine split_dec ?_ ?_ <;> intro _) | (with_reducible refine split_bool ?_ ?_ <;> intro _))))
    | ((fail_if_success (fail_if_success (with_reducible show wpAny _ _ (PySem.call (Value.ref _) _ _) _ _ _))); (first
      | (k_here; (fail_if_success (fail_if_success (with_reducible show wpAny _ _ (PySem.call (Value.ref 106) [Value.int _ _, Value.int 7 _, Value.int _ _] _) _ _ _))); k_dflt (refine use2 (c_tj7 _ _ _ _ _ _ _ _ _ _ _ ) ?_); k_whole; intro t9 h9 tk9 F9 N9; (try dsimp only); (try k_fold))
      | (k_here; (fail_if_success (fail_if_success (with_reducible show wpAny _ _ (PySem.call (Value.ref 43) _ _) _ _ _))); k_dflt (refine use2 (c_gj _ _ _ _ _ _ _ _ _ _ _ _ (by first | decide | with_reducible assumption) (by first | exact dim_pos _ _ | with_reducible assumption)) ?_); k_whole; intro t9 h9 tk9 F9 N9; (try dsimp only); (try k_fold))
      | (k_here; (fail_if_success (fail_if_success (with_reducible show wpAny _ _ (PySem.call (Value.ref 21) _ _) _ _ _))); k_dflt (refine use2 (c_isl _ _ _ _ _ _ _ _) ?_); k_whole; intro h9 tk9 F9 N9; (try dsimp only); (try k_fold))
      | (k_here; (fail_if_success (fail_if_success (with_reducible show wpAny _ _ (PySem.call (Value.ref 36) _ _) _ _ _))); k_dflt (refine use2 (c_legal _ _ _ _ _ _ _ _ _ _ _ _ (by assumption) (by assumption)) ?_); k_whole; intro h9 tk9 F9 N9; (try dsimp only); (try k_fold))
      | (k_here; (fail_if_success (fail_if_success (with_reducible show wpAny _ _ (PySem.call (Value.ref 169) _ _) _ _ _))); k_dflt (refine use2 (c_long' _ _ _ _ _ _ _ _) ?_); k_whole; intro h9 tk9 F9 N9; (try dsimp only); (try k_fold))
      | (k_here; (fail_if_success (fail_if_success (with_reducible show wpAny _ _ (PySem.call (Value.ref 174) _ _) _ _ _))); k_dflt (refine use2 (c_ny _ _ _ _ _ _ _ _) ?_); k_whole; intro t9 h9 tk9 F9 N9; (try dsimp only); (try k_fold))
      | (k_here; (fail_if_success (fail_if_success (with_reducible show wpAny _ _ (PySem.call (Value.ref 106) _ _) _ _ _))); k_dflt (refine use2 (c_tj _ _ _ _ _ _ _ _ _ _ _ _ (by first | with_reducible assumption | decide | omega) (by first | with_reducible assumption | decide | omega)) ?_); k_whole; intro t9 h9 tk9 F9 N9; (try dsimp only); (try k_fold))
      | (k_here; (fail_if_success (fail_if_success (with_reducible show wpAny _ _ (PySem.call (Value.ref 64) _ _) _ _ _))); k_dflt (refine use2 (c_ymN _ _ _ _ _ _ _ _ ) ?_); k_whole; intro n9 t9 h9 tk9 hn9 hl9 hu9 F9 N9; (try dsimp only); (try k_fold))
      | (k_here; (fail_if_success (fail_if_success (with_reducible show wpAny _ _ (PySem.call (Value.ref 99) _ _) _ _ _))); k_dflt (refine use2 (c_md _ _ _ _ _ _ _ _ _ _ (by first | with_reducible assumption | decide | omega)) ?_); k_whole; intro t9 h9 tk9 F9 N9; (try dsimp only); (try k_fold))
      | (k_here; (fail_if_success (fail_if_success (with_reducible show wpAny _ _ (PySem.call (Value.ref 92) _ _) _ _ _))); k_dflt (refine use2 (c_ml _ _ _ _ _ _ _ _ _ _ (by first | with_reducible assumption | decide | omega)) ?_); k_whole; intro t9 h9 tk9 F9 N9; (try dsimp only); (try k_fold))
      | (k_here; (fail_if_success (fail_if_success (with_reducible show wpAny _ _ (PySem.call (Value.ref 85) _ _) _ _ _))); k_dflt (refine use2 (c_yd _ _ _ _ _ _ _ _) ?_); k_whole; intro t9 h9 tk9 F9 N9; (try dsimp only); (try k_fold))
      | (k_here; (fail_if_success (fail_if_success (with_reducible show wpAny _ _ (PySem.call (Value.ref 169) _ _) _ _ _))); k_dflt (refine use2 (c_long _ _ _ _ _ _ _ _) ?_); k_whole; intro h9 tk9 F9 N9; (try dsimp only); (try k_fold))
      | (k_here; (fail_if_success (fail_if_success (with_reducible show wpAny _ _ (PySem.call (Value.ref 78) _ _) _ _ _))); k_dflt (refine use2 (c_d2 _ _ _ _ _ _ _ _) ?_); k_whole; intro t9 h9 tk9 F9 N9; (try dsimp only); (try k_fold))
      | (k_here; (fail_if_success (fail_if_success (with_reducible show wpAny _ _ (PySem.call (Value.ref 71) _ _) _ _ _))); k_dflt (refine use2 (c_d1 _ _ _ _ _ _ _ _) ?_); k_whole; intro t9 h9 tk9 F9 N9; (try dsimp only); (try k_fold))
      | (k_here; (fail_if_success (fail_if_success (with_reducible show wpAny _ _ (PySem.call (Value.ref 64) _ _) _ _ _))); k_dflt (refine use2 (c_ym _ _ _ _ _ _ _ _) ?_); k_whole; intro t9 h9 tk9 F9 N9; (try dsimp only); (try k_fold))
      | (k_here; (fail_if_success (fail_if_success (with_reducible show wpAny _ _ (PySem.call (Value.ref 57) _ _) _ _ _))); k_dflt (refine use2 (c_leap _ _ _ _ _ _ _ _) ?_); k_whole; intro h9 tk9 F9 N9; (try dsimp only); (try k_fold))
      | (k_here; (fail_if_success (fail_if_success (with_reducible show wpAny _ _ (PySem.call (Value.ref 28) _ _) _ _ _))); k_dflt (refine use2 (c_mid _ _ _ _ _ _ _ _) ?_); k_whole; intro t9 h9 tk9 F9 N9; (try dsimp only); (try k_fold))))
    | ((fail_if_success (fail_if_success (with_reducible show wpAny _ _ (eval (Expr.Call _ _ _ _) _) _ _ _))); (first
      | (k_here; (fail_if_success (fail_if_success (with_reducible show wpAny _ _ (eval (Expr.Call (Expr.Name _ _) _ [] _) _) _ _ _))); with_reducible refine Call_ ?_)))
    | ((fail_if_success (fail_if_success (with_reducible show wpAny _ _ (storeName _ _ _) _ _ _))); (first
      | (k_here; (first | (with_reducible show wpAny _ _ (storeName _ _ (Value.int (_ + _) _)) _ _ _) | (with_reducible show wpAny _ _ (storeName _ _ (Value.int (_ - _) _)) _ _ _) | (with_reducible show wpAny _ _ (storeName _ _ (Value.int (_ * _) _)) _ _ _) | (with_reducible show wpAny _ _ (storeName _ _ (Value.int (Int.fdiv _ _) _)) _ _ _) | (with_reducible show wpAny _ _ (storeName _ _ (Value.int (Int.fmod _ _) _)) _ _ _)); k_dflt (refine gen_store ?_; intro z hz; refine' storeX_L ?F ?N ?_ ?a ?b; (case F => k_asm); (case N => k_asm); (case a => rfl); (case b => rfl); k_whole; intro h' F' N'; (try k_sweep)))))
    | ((fail_if_success (fail_if_success (with_reducible show wpAny _ _ (exec (Stmt.If _ _ _ _) _) _ _ _))); (first
      | (k_here; (fail_if_success (with_reducible show wpAny _ _ _ (fun v s' => CutS _ _ _ _ _ _ _ v s') _ _)); (fail_if_success (fail_if_success (with_reducible show wpAny _ _ (exec (Stmt.If (Expr.Compare (Expr.Name (Str.ofString "yearday") _) [CmpOp.Lt] _ _) _ (_ :: _) _) _) _ _ _))); (rename Fr _ _ _ _ => cF'); (rename News _ _ _ _ => cN'); (k_dflt (refine cutAdj cF' cN' rfl rfl ?_ (fun z' t' h' tk' hz' F' N' => ?_))); (all_goals ((try k_sweep); (try dsimp only); (try k_fold))))
      | (k_here; (fail_if_success (with_reducible show wpAny _ _ _ (fun v s' => CutS _ _ _ _ _ _ _ v s') _ _)); (fail_if_success (fail_if_success (with_reducible show wpAny _ _ (exec (Stmt.If (Expr.UnaryOp _ _ _) _ _ _) _) _ _ _))); (rename Fr _ _ _ _ => cF'); (rename News _ _ _ _ => cN'); (k_dflt (refine cutYr cF' cN' rfl rfl rfl ?_ (fun z' t' h' tk' hz' F' N' => ?_))); (all_goals ((try k_sweep); (try dsimp only); (try k_fold))))))
    | ((fail_if_success (fail_if_success (with_reducible show CutS ..))); (first
      | (k_here; k_dflt (refine' CutS.intro ?sF ?sN ?sm ?ss ?sP; (case sF => k_asm); (case sN => k_asm); (case sm => rfl); (case ss => (intro x hx; first | rfl | (simp only [if_neg hx]; done))); (case sP => first | exact .inl ⟨.inl (eq_of_beq (by assumption)), rfl⟩ | exact .inl ⟨.inr (eq_of_beq (by assumption)), rfl⟩ | exact .inr ⟨ne_of_beq_false (by assumption), ne_of_beq_false (by assumption), by assumption⟩ | exact (if_pos (by assumption)).symm | exact ((if_neg (by assumption)).trans (if_pos (by assumption))).symm | exact ((if_neg (by assumption)).trans (if_neg (by rw [show islB _ = false by assumption]; decide))).symm)))))); (try dsimp only))
    | (walk1; (try dsimp only)) | fail "no step")
  all_goals (
    refine' hret _ _ _ ?gd _ _ _ _ _ _ ?hF ?hN
    (case hF => k_asm)
    (case hN =>
      refine' cb_drop ?cbN ?cbS
      (case cbN => k_asm)
      (case cbS => (refine' List.forall_mem_cons.mpr ⟨(by k_mem), ?_⟩; (intro p hp; repeat (first | with_reducible assumption | refine List.mem_cons_of_mem _ ?_)))))
    (case gd =>
      refine' fj_ok jd _ _ _ _ _ _ _ _ _ _ _ _ _ _ ?h1 ?h2 ?h3 ?h4 ?h5 ?h6 ?h7 ?h8 ?h9 ?hY ?h10 ?ha ?hM ?hD
      (case hD => assumption)
      (case hM => assumption)
      (case h10 => assumption)
      (case h1 => assumption)
      (case h2 => assumption)
      (case h3 => assumption)
      (case h4 => assumption)
      (case h5 => assumption)
      (case h6 => assumption)
      (case h7 => assumption)
      (case h8 => assumption)
      (case h9 => assumption)
      (case hY => assumption)
      (case ha => assumption)))
-- theorem ite_dpos {c : Prop} [Decidable c] {a b : Prop} (hc : c) (h : a) : if decide c = true then a else b := by rw [if_pos (decide_eq_true hc)]; exact h
-- theorem ite_dneg {c : Prop} [Decidable c] {a b : Prop} (hc : ¬ c) (h : b) : if decide c = true then a else b := by rw [if_neg (by rw [decide_eq_true_eq]; exact hc)]; exact h
def Mine.YrIs (z i : Int) : Prop := z = i - 1
def Mine.MoIs (z i : Int) : Prop := z = i
def Mine.InJ1 (y i : Int) : Prop := 0 ≤ i ∧ i ≤ y + 1
def Mine.InJ3 (mo f i : Int) : Prop := f ≤ i ∧ i ≤ mo
def Mine.J1 (y : Int) (m : Str → Option Value) (news : List (Addr × Obj)) (n : Nat) (m₁ : Str → Option Value) (news₁ : List (Addr × Obj)) : Prop :=
  news₁ = news ∧ ∃ (i z : Int) (ti tz : Tok), InJ1 y i ∧ n = (y + 1 - i).toNat ∧ YrIs z i ∧ m₁ = fun x => if x = Str.ofString "year" then some (.int z tz) else if x = Str.ofString "i" then some (.int i ti) else m x
def Mine.J3 (mo f : Int) (m : Str → Option Value) (news : List (Addr × Obj)) (n : Nat) (m₁ : Str → Option Value) (news₁ : List (Addr × Obj)) : Prop :=
  news₁ = news ∧ ∃ (i z : Int) (ti tz : Tok), InJ3 mo f i ∧ n = (mo - i).toNat ∧ MoIs z i ∧ m₁ = fun x => if x = Str.ofString "month" then some (.int z tz) else if x = Str.ofString "i" then some (.int i ti) else m x
theorem Mine.J1.start {y i z : Int} {m : Str → Option Value} {news : List (Addr × Obj)} {ti tz : Tok} (h0 : 0 ≤ i) (h1 : i ≤ y + 1) (hz : z = i - 1) (hy : m (Str.ofString "year") = some (.int z tz)) (hi : m (Str.ofString "i") = some (.int i ti)) : J1 y m news (y + 1 - i).toNat m news := by
  refine ⟨rfl, i, z, ti, tz, ⟨h0, h1⟩, rfl, hz, funext fun x => ?_⟩
  by_cases e1 : x = Str.ofString "year"
  · rw [if_pos e1, e1]; exact hy
  · rw [if_neg e1]
    by_cases e2 : x = Str.ofString "i"
    · rw [if_pos e2, e2]; exact hi
    · rw [if_neg e2]
theorem Mine.J3.start {y d jd mo f i z : Int} {m : Str → Option Value} {news : List (Addr × Obj)} {ti tz : Tok} (_H : Hd y mo d jd) (h0 : f ≤ i) (h1 : i ≤ mo) (hz : z = i) (hy : m (Str.ofString "month") = some (.int z tz)) (hi : m (Str.ofString "i") = some (.int i ti)) : J3 mo f m news (mo - i).toNat m news := by
  refine ⟨rfl, i, z, ti, tz, ⟨h0, h1⟩, rfl, hz, funext fun x => ?_⟩
  by_cases e1 : x = Str.ofString "month"
  · rw [if_pos e1, e1]; exact hy
  · rw [if_neg e1]
    by_cases e2 : x = Str.ofString "i"
    · rw [if_pos e2, e2]; exact hi
    · rw [if_neg e2]
theorem Mine.over2 {a b x : Str} {p q r s : Option Value} {m : Str → Option Value} (h : a ≠ b) : (if x = a then p else if x = b then q else if x = a then r else if x = b then s else m x) = if x = a then p else if x = b then q else m x := by
  by_cases e1 : x = a
  · simp [e1]
  · by_cases e2 : x = b
    · simp [e1, e2]
    · simp [e1, e2]
theorem Mine.J1.next {y i z : Int} {m m₂ : Str → Option Value} {news : List (Addr × Obj)} {ti tz : Tok} {r s : Option Value} (hi : InJ1 y i) (h1 : i ≤ y) (hz : YrIs z i)
    (hm : m₂ = fun x => if x = Str.ofString "year" then some (.int (z + 1) tz) else if x = Str.ofString "i" then some (.int (i + 1) ti) else if x = Str.ofString "year" then r else if x = Str.ofString "i" then s else m x) : J1 y m news (y + 1 - (i + 1)).toNat m₂ news := by
  refine ⟨rfl, i + 1, z + 1, ti, tz, ⟨by have := hi.1; omega, by omega⟩, rfl, by unfold YrIs at *; omega, ?_⟩
  rw [hm]; funext x; exact over2 (by decide)
theorem Mine.J3.next {mo f i z : Int} {m m₂ : Str → Option Value} {news : List (Addr × Obj)} {ti tz : Tok} {r s : Option Value} (hi : InJ3 mo f i) (h1 : i < mo) (hz : MoIs z i)
    (hm : m₂ = fun x => if x = Str.ofString "month" then some (.int (z + 1) tz) else if x = Str.ofString "i" then some (.int (i + 1) ti) else if x = Str.ofString "month" then r else if x = Str.ofString "i" then s else m x) : J3 mo f m news (mo - (i + 1)).toNat m₂ news := by
  refine ⟨rfl, i + 1, z + 1, ti, tz, ⟨by have := hi.1; omega, by omega⟩, rfl, by unfold MoIs at *; omega, ?_⟩
  rw [hm]; funext x; exact over2 (by decide)
/-- a turn of the search of the year is on -/
theorem Mine.j1_on {y mo d jd i : Int} (hy : 1 ≤ y) (H : Hd y mo d jd) (hi : InJ1 y i) (h : tj7 i 1 ≤ jd) : i ≤ y := by
  have e := tj7_ny i 1 hi.1 (by decide)
  have hb := (H.year (by omega)).2
  by_cases q : i ≤ y
  · exact q
  · have := ny_mono (show y + 1 ≤ i by omega); omega
theorem Mine.j1_off {y mo d jd i z : Int} (hy : 1 ≤ y) (H : Hd y mo d jd) (hi : InJ1 y i) (hz : YrIs z i) (h : ¬ tj7 i 1 ≤ jd) : z = y := by
  have e := tj7_ny i 1 hi.1 (by decide)
  have hb := (H.year (by omega)).1
  have h2 := hi.2
  unfold YrIs at hz
  by_cases q : i ≤ y
  · have := ny_mono q; omega
  · omega
theorem Mine.j3_on7 {y mo d jd i : Int} (hy : 1 ≤ y) (H : Hd y mo d jd) (hi : InJ3 mo 7 i) (h : tjI y i (mlI y i) < jd) : i < mo := (H.seek (by omega) (.inl hi)).1 h
theorem Mine.j3_off7 {y mo d jd i z : Int} (hy : 1 ≤ y) (H : Hd y mo d jd) (hi : InJ3 mo 7 i) (hz : MoIs z i) (h : ¬ tjI y i (mlI y i) < jd) : z = mo := by
  have h2 : ¬ i < mo := fun q => h ((H.seek (by omega) (.inl hi)).2 q)
  have := hi.2; unfold MoIs at hz; omega
theorem Mine.j3_on1 {y mo d jd i : Int} (hy : 1 ≤ y) (H : Hd y mo d jd) (h7 : ¬ 7 ≤ mo) (hi : InJ3 mo 1 i) (h : tjI y i (mlI y i) < jd) : i < mo := (H.seek (by omega) (.inr ⟨hi.1, hi.2, by omega⟩)).1 h
theorem Mine.j3_off1 {y mo d jd i z : Int} (hy : 1 ≤ y) (H : Hd y mo d jd) (h7 : ¬ 7 ≤ mo) (hi : InJ3 mo 1 i) (hz : MoIs z i) (h : ¬ tjI y i (mlI y i) < jd) : z = mo := by
  have h2 : ¬ i < mo := fun q => h ((H.seek (by omega) (.inr ⟨hi.1, hi.2, by omega⟩)).2 q)
  have := hi.2; unfold MoIs at hz; omega
theorem Mine.Hd.one {y m d jd : Int} (H : Hd y m d jd) : 1 ≤ m := H.1
theorem Mine.j3_pos {mo f i : Int} (hf : 1 ≤ f) (hi : InJ3 mo f i) : 0 < i := by have := hi.1; omega
theorem Mine.j3_13 {y mo d jd f i : Int} (H : Hd y mo d jd) (hi : InJ3 mo f i) : ¬ 13 < i := by
  have := hi.2; have := H.2.1; rcases ym_range y with ⟨q, _⟩ | ⟨q, _⟩ <;> omega
theorem Mine.ite_on {c : Prop} [Decidable c] {a b : Prop} (ht : c → a) (hf : ¬ c → b) : if decide c = true then a else b := by
  by_cases h : c
  · rw [if_pos (decide_eq_true h)]; exact ht h
  · rw [if_neg (by rw [decide_eq_true_eq]; exact h)]; exact hf h
theorem Mine.j1_ite {y mo d jd i z : Int} {a b : Prop} (hy : 1 ≤ y) (H : Hd y mo d jd) (hi : InJ1 y i) (hz : YrIs z i) (ht : tj7 i 1 ≤ jd → i ≤ y → a) (hf : ¬ tj7 i 1 ≤ jd → z = y → b) : if decide (tj7 i 1 ≤ jd) = true then a else b :=
  ite_on (fun h => ht h (j1_on hy H hi h)) (fun h => hf h (j1_off hy H hi hz h))
theorem Mine.half_ite {y mo d jd : Int} {a b : Prop} (hy : 1 ≤ y) (H : Hd y mo d jd) (ht : jd < tjI y 1 1 → 7 ≤ mo → ¬ 13 < mo → a) (hf : ¬ jd < tjI y 1 1 → ¬ 7 ≤ mo → 1 ≤ mo → b) : if decide (jd < tjI y 1 1) = true then a else b :=
  ite_on (fun h => ht h ((Hd.half (by omega) H).1 h) (by have := H.2.1; rcases ym_range y with ⟨q, _⟩ | ⟨q, _⟩ <;> omega)) (fun h => hf h (mt (Hd.half (by omega) H).2 h) H.1)
theorem Mine.j3_ite7 {y mo d jd i z : Int} {a b : Prop} (hy : 1 ≤ y) (H : Hd y mo d jd) (hi : InJ3 mo 7 i) (hz : MoIs z i) (ht : tjI y i (mlI y i) < jd → i < mo → a) (hf : ¬ tjI y i (mlI y i) < jd → z = mo → b) : if decide (tjI y i (mlI y i) < jd) = true then a else b :=
  ite_on (fun h => ht h (j3_on7 hy H hi h)) (fun h => hf h (j3_off7 hy H hi hz h))
theorem Mine.j3_ite1 {y mo d jd i z : Int} {a b : Prop} (hy : 1 ≤ y) (H : Hd y mo d jd) (h7 : ¬ 7 ≤ mo) (hi : InJ3 mo 1 i) (hz : MoIs z i) (ht : tjI y i (mlI y i) < jd → i < mo → a) (hf : ¬ tjI y i (mlI y i) < jd → z = mo → b) : if decide (tjI y i (mlI y i) < jd) = true then a else b :=
  ite_on (fun h => ht h (j3_on1 hy H h7 hi h)) (fun h => hf h (j3_off1 hy H h7 hi hz h))
def Mine.FirstOk (mo f : Int) : Prop := (f = 7 ∧ 7 ≤ mo) ∨ (f = 1 ∧ ¬ 7 ≤ mo ∧ 1 ≤ mo)
theorem Mine.FirstOk.le {mo f : Int} (h : FirstOk mo f) : f ≤ mo := by rcases h with ⟨e, q⟩ | ⟨e, _, q⟩ <;> rw [e] <;> exact q
theorem Mine.FirstOk.ge {mo f : Int} (h : FirstOk mo f) : 1 ≤ f := by rcases h with ⟨e, q⟩ | ⟨e, _, q⟩ <;> rw [e] <;> decide
theorem Mine.FirstOk.mo0 {y mo d jd : Int} (H : Hd y mo d jd) : 0 < mo := by have := H.1; omega
theorem Mine.FirstOk.mo13 {y mo d jd : Int} (H : Hd y mo d jd) : ¬ 13 < mo := by have := H.2.1; rcases ym_range y with ⟨q, _⟩ | ⟨q, _⟩ <;> omega
theorem Mine.j3_iteF {y mo d jd f i z : Int} {a b : Prop} (hy : 1 ≤ y) (H : Hd y mo d jd) (hf : FirstOk mo f) (hi : InJ3 mo f i) (hz : MoIs z i) (ht : tjI y i (mlI y i) < jd → i < mo → a) (hff : ¬ tjI y i (mlI y i) < jd → z = mo → b) : if decide (tjI y i (mlI y i) < jd) = true then a else b := by
  rcases hf with ⟨e, q⟩ | ⟨e, q, _⟩
  · subst e; exact j3_ite7 hy H hi hz ht hff
  · subst e; exact j3_ite1 hy H q hi hz ht hff
theorem Mine.cutFirst {y mo d jd : Int} (_H : Hd y mo d jd) {M : Model} {A : Around} {E : Value → Shared → Prop} {Q : Flow → Shared → Prop} {s : Shared} {h₀ : Heap} {L : Addr} {m : Str → Option Value} {news : List (Addr × Obj)} {cm : Sem Flow}
    (F : Fr h₀ L s.heap m) (N : News h₀ L s.heap news)
    (h : wpAny M A cm (fun fl s' => CutS (Str.ofString "first") (FirstOk mo) h₀ L m news s fl s') E s)
    (k : ∀ (z : Int) (t : Tok) (h' : Heap) (tk' : Nat), FirstOk mo z → Fr h₀ L h' (fun x => if x = Str.ofString "first" then some (.int z t) else m x) → News h₀ L h' news → Q .next { s with heap := h', toks := tk' }) : wpAny M A cm Q E s := cutS _ _ F N h k
theorem Mine.c_fjh (w : World) (loose : List Str) (mean : ExcName → Option Value) (mg mb : Str → Option Value) (news : List (Addr × Obj)) (jd y mo d : Int) (t : Tok) (H : Hd y mo d jd) (hy : 1 ≤ y) : Cl w loose mean mg mb 10 113 [.int jd t] news (RetT3 y mo d) := by
  w_on
  unfold Cl Claim
  k_fill
  intros; rename_i hret
  refine wpAny_call ?_
  k_dflt cell_enter
  repeat' (first
    | (k_unfold; (try dsimp only))
    | ((first
    | ((fail_if_success (fail_if_success (with_reducible show @ite _ _ _ _ _))); (first
      | (k_here; (with_reducible show (if decide (tjI _ _ (mlI _ _) < _) = true then _ else _)); (with_reducible refine j3_iteF (by assumption) (by assumption) (by assumption) (by assumption) (by assumption) (fun hc' hle' => ?_) (fun hc' he' => ?_)); (all_goals (try subst he')))
      | (k_here; (with_reducible show (if decide (_ < tjI _ 1 1) = true then _ else _)); (with_reducible refine half_ite (by assumption) (by assumption) (fun hc' h7' h13' => ?_) (fun hc' h7' h1' => ?_)))
      | (k_here; (with_reducible show (if decide (tj7 _ 1 ≤ _) = true then _ else _)); (with_reducible refine j1_ite (by assumption) (by assumption) (by assumption) (by assumption) (fun hc' hle' => ?_) (fun hc' he' => ?_)); (all_goals (try subst he')))
      | (k_here; k_openite; first
  | (with_reducible refine ite_pos (by with_reducible assumption) ?_)
  | (with_reducible refine ite_neg (by with_reducible assumption) ?_)
  | (with_reducible refine ite_isFalse (by with_reducible assumption) ?_)
  | (with_reducible refine ite_dpos (by with_reducible assumption) ?_)
  | (with_reducible refine ite_dneg (by with_reducible assumption) ?_)
  | (with_reducible refine split_dec ?_ ?_ <;> intro _) | (with_reducible refine split_bool ?_ ?_ <;> intro _))))
    | ((fail_if_success (fail_if_success (with_reducible show wpAny _ _ (PySem.call (Value.ref _) _ _) _ _ _))); (first
      | (k_here; (fail_if_success (fail_if_success (with_reducible show wpAny _ _ (PySem.call (Value.ref 106) [Value.int _ _, Value.int 7 _, Value.int _ _] _) _ _ _))); k_dflt (refine use2 (c_tj7 _ _ _ _ _ _ _ _ _ _ _ ) ?_); k_whole; intro t9 h9 tk9 F9 N9; (try dsimp only); (try k_fold))
      | (k_here; (fail_if_success (fail_if_success (with_reducible show wpAny _ _ (PySem.call (Value.ref 106) _ _) _ _ _))); k_dflt (refine use2 (c_tj _ _ _ _ _ _ _ _ _ _ _ _ (by first | with_reducible assumption | decide | omega) (by first | with_reducible assumption | decide | omega)) ?_); k_whole; intro t9 h9 tk9 F9 N9; (try dsimp only); (try k_fold))
      | (k_here; (fail_if_success (fail_if_success (with_reducible show wpAny _ _ (PySem.call (Value.ref 99) _ _) _ _ _))); k_dflt (refine use2 (c_md _ _ _ _ _ _ _ _ _ _ (by first | with_reducible assumption | decide | omega)) ?_); k_whole; intro t9 h9 tk9 F9 N9; (try dsimp only); (try k_fold))
      | (k_here; (fail_if_success (fail_if_success (with_reducible show wpAny _ _ (PySem.call (Value.ref 92) _ _) _ _ _))); k_dflt (refine use2 (c_ml _ _ _ _ _ _ _ _ _ _ (by first | with_reducible assumption | decide | omega)) ?_); k_whole; intro t9 h9 tk9 F9 N9; (try dsimp only); (try k_fold))
      | (k_here; (fail_if_success (fail_if_success (with_reducible show wpAny _ _ (PySem.call (Value.ref 85) _ _) _ _ _))); k_dflt (refine use2 (c_yd _ _ _ _ _ _ _ _) ?_); k_whole; intro t9 h9 tk9 F9 N9; (try dsimp only); (try k_fold))
      | (k_here; (fail_if_success (fail_if_success (with_reducible show wpAny _ _ (PySem.call (Value.ref 169) _ _) _ _ _))); k_dflt (refine use2 (c_long _ _ _ _ _ _ _ _) ?_); k_whole; intro h9 tk9 F9 N9; (try dsimp only); (try k_fold))
      | (k_here; (fail_if_success (fail_if_success (with_reducible show wpAny _ _ (PySem.call (Value.ref 78) _ _) _ _ _))); k_dflt (refine use2 (c_d2 _ _ _ _ _ _ _ _) ?_); k_whole; intro t9 h9 tk9 F9 N9; (try dsimp only); (try k_fold))
      | (k_here; (fail_if_success (fail_if_success (with_reducible show wpAny _ _ (PySem.call (Value.ref 71) _ _) _ _ _))); k_dflt (refine use2 (c_d1 _ _ _ _ _ _ _ _) ?_); k_whole; intro t9 h9 tk9 F9 N9; (try dsimp only); (try k_fold))
      | (k_here; (fail_if_success (fail_if_success (with_reducible show wpAny _ _ (PySem.call (Value.ref 64) _ _) _ _ _))); k_dflt (refine use2 (c_ym _ _ _ _ _ _ _ _) ?_); k_whole; intro t9 h9 tk9 F9 N9; (try dsimp only); (try k_fold))
      | (k_here; (fail_if_success (fail_if_success (with_reducible show wpAny _ _ (PySem.call (Value.ref 57) _ _) _ _ _))); k_dflt (refine use2 (c_leap _ _ _ _ _ _ _ _) ?_); k_whole; intro h9 tk9 F9 N9; (try dsimp only); (try k_fold))
      | (k_here; (fail_if_success (fail_if_success (with_reducible show wpAny _ _ (PySem.call (Value.ref 28) _ _) _ _ _))); k_dflt (refine use2 (c_mid _ _ _ _ _ _ _ _) ?_); k_whole; intro t9 h9 tk9 F9 N9; (try dsimp only); (try k_fold))
      | (k_here; (fail_if_success (fail_if_success (with_reducible show wpAny _ _ (PySem.call (Value.ref 43) _ _) _ _ _))); k_dflt (refine use2 (c_gj _ _ _ _ _ _ _ _ _ _ _ _ (by first | decide | with_reducible assumption) (by first | exact dim_pos _ _ | with_reducible assumption)) ?_); k_whole; intro t9 h9 tk9 F9 N9; (try dsimp only); (try k_fold))
      | (k_here; (fail_if_success (fail_if_success (with_reducible show wpAny _ _ (PySem.call (Value.ref 36) _ _) _ _ _))); k_dflt (refine use2 (c_legal _ _ _ _ _ _ _ _ _ _ _ _ (by assumption) (by assumption)) ?_); k_whole; intro h9 tk9 F9 N9; (try dsimp only); (try k_fold))
      | (k_here; (fail_if_success (fail_if_success (with_reducible show wpAny _ _ (PySem.call (Value.ref 21) _ _) _ _ _))); k_dflt (refine use2 (c_isl _ _ _ _ _ _ _ _) ?_); k_whole; intro h9 tk9 F9 N9; (try dsimp only); (try k_fold))
      | (k_here; (fail_if_success (fail_if_success (with_reducible show wpAny _ _ (PySem.call (Value.ref 169) _ _) _ _ _))); k_dflt (refine use2 (c_long' _ _ _ _ _ _ _ _) ?_); k_whole; intro h9 tk9 F9 N9; (try dsimp only); (try k_fold))
      | (k_here; (fail_if_success (fail_if_success (with_reducible show wpAny _ _ (PySem.call (Value.ref 174) _ _) _ _ _))); k_dflt (refine use2 (c_ny _ _ _ _ _ _ _ _) ?_); k_whole; intro t9 h9 tk9 F9 N9; (try dsimp only); (try k_fold))
      | (k_here; (fail_if_success (fail_if_success (with_reducible show wpAny _ _ (PySem.call (Value.ref 64) _ _) _ _ _))); k_dflt (refine use2 (c_ymN _ _ _ _ _ _ _ _ ) ?_); k_whole; intro n9 t9 h9 tk9 hn9 hl9 hu9 F9 N9; (try dsimp only); (try k_fold))))
    | ((fail_if_success (fail_if_success (with_reducible show wpAny _ _ (eval (Expr.Call _ _ _ _) _) _ _ _))); (first
      | (k_here; (with_reducible show wpAny _ _ (eval (Expr.Call (Expr.Name _ _) _ [] _) _) _ _ _); with_reducible refine Call_ ?_)))
    | ((fail_if_success (fail_if_success (with_reducible show wpAny _ _ (exec (Stmt.While _ _ _ _) _) _ _ _))); (first
      | (k_here; (with_reducible show wpAny _ _ (exec (Stmt.While (Expr.Compare _ [CmpOp.Gt] _ _) _ _ _) _) _ _ _); (rename Fr _ _ _ _ => wF'); (rename News _ _ _ _ => wN'); (rename Hd _ _ _ _ => wH'); k_dflt (refine While_inv (J3 _ _ _ _) wF' wN' (J3.start wH' (Int.le_refl _) (FirstOk.le (by assumption)) rfl rfl rfl) ?_); clear wF' wN'; intro n' m' news' h' tk' F' N' J'; obtain ⟨e1', i', z', ti', tz', hi', hn', hz', e2'⟩ := J'; subst e1'; subst e2'; (have hp' := j3_pos (FirstOk.ge (by assumption)) hi'); (have h13' := j3_13 wH' hi'); (have h14' := FirstOk.mo13 wH'); (have h15' := FirstOk.mo0 wH'); (try dsimp only); (try k_fold))
      | (k_here; (with_reducible show wpAny _ _ (exec (Stmt.While (Expr.Compare _ [CmpOp.GtE] _ _) _ _ _) _) _ _ _); (rename Fr _ _ _ _ => wF'); (rename News _ _ _ _ => wN'); (rename Hd _ _ _ _ => wH'); k_dflt (refine While_inv (J1 _ _ _) wF' wN' (J1.start (count_nonneg _ _ (by assumption) (Hd.year (by omega) wH').1) (count_le _ _ (Hd.year (by omega) wH').2) rfl rfl rfl) ?_); clear wF' wN'; intro n' m' news' h' tk' F' N' J'; obtain ⟨e1', i', z', ti', tz', hi', hn', hz', e2'⟩ := J'; subst e1'; subst e2'; (try dsimp only); (try k_fold))))
    | ((fail_if_success (fail_if_success (with_reducible show wpAny _ _ (exec (Stmt.If _ _ _ _) _) _ _ _))); (first
      | (k_here; (fail_if_success (with_reducible show wpAny _ _ _ (fun v s' => CutS _ _ _ _ _ _ _ v s') _ _)); (fail_if_success (fail_if_success (with_reducible show wpAny _ _ (exec (Stmt.If _ _ _ _) _) _ _ _))); (rename Fr _ _ _ _ => cF'); (rename News _ _ _ _ => cN'); (rename Hd _ _ _ _ => wH'); (k_dflt (refine cutFirst wH' cF' cN' ?_ (fun z' t' h' tk' hz' F' N' => ?_))); (all_goals ((try k_sweep); (try dsimp only); (try k_fold))))))
    | ((fail_if_success (fail_if_success (with_reducible show CutS ..))); (first
      | (k_here; k_dflt (refine' CutS.intro ?sF ?sN ?sm ?ss ?sP; (case sF => k_asm); (case sN => k_asm); (case sm => rfl); (case ss => (intro x hx; first | rfl | (simp only [if_neg hx]; done))); (case sP => first | exact .inl ⟨rfl, by assumption⟩ | exact .inr ⟨rfl, by assumption, by assumption⟩)))))
    | ((fail_if_success (fail_if_success (with_reducible show WhileStep ..))); (first
      | (k_here; k_dflt (first
  | (refine' WhileStep.intro ?wF ?wN ?wn (J1.next ?wi ?wl ?wz ?wm); (case wF => k_asm); (case wN => k_asm); (case wm => exact rfl); (case wi => assumption); (case wl => assumption); (case wz => assumption); (case wn => (rename InJ1 _ _ => wq'; have := wq'.1; have := wq'.2; omega)))
  | (refine' WhileStep.intro ?wF ?wN ?wn (J3.next ?wi ?wl ?wz ?wm); (case wF => k_asm); (case wN => k_asm); (case wm => exact rfl); (case wi => assumption); (case wl => assumption); (case wz => assumption); (case wn => (rename InJ3 _ _ _ => wq'; have := wq'.1; have := wq'.2; omega)))))))); (try dsimp only))
    | (walk1; (try dsimp only)) | fail "no step")
  all_goals (
    (rename Hd _ _ _ _ => wH')
    have e := Hd.day (by omega) wH'
    subst e
    refine' hret _ _ _ _ _ _ ?hF ?hN
    (case hF => k_asm)
    (case hN => k_asm))
-- theorem ite_dpos {c : Prop} [Decidable c] {a b : Prop} (hc : c) (h : a) : if decide c = true then a else b := by rw [if_pos (decide_eq_true hc)]; exact h
-- theorem ite_dneg {c : Prop} [Decidable c] {a b : Prop} (hc : ¬ c) (h : b) : if decide c = true then a else b := by rw [if_neg (by rw [decide_eq_true_eq]; exact hc)]; exact h
noncomputable def Mine.glB (y : Int) : Bool := (Int.fmod y 400 == 0) || ((Int.fmod y 4 == 0) && (Int.fmod y 100 != 0))
noncomputable def Mine.febI (b : Bool) : Int := if b = true then 29 else 28
theorem Mine.gl_lp (y : Int) : febI (glB y) = 28 + lpI y := by
  have e : glB y = islB y := by
    unfold glB islB
    rw [fmd _ _ (by decide), fmd _ _ (by decide), fmd _ _ (by decide)]
    have h : y % 400 = 0 → y % 4 = 0 := fun h => by omega
    cases c : (y % 400 == 0)
    · rw [Bool.false_or, Bool.or_false]
    · rw [show (y % 4 == 0) = true from beq_iff_eq.2 (h (eq_of_beq c)), Bool.true_or, Bool.or_true, Bool.true_and]
  rw [e]; unfold febI lpI; cases islB y <;> decide
abbrev Mine.RetSizes (b : Bool) (news : List (Addr × Obj)) (h₀ : Heap) (L : Addr) (m : Str → Option Value) (s : Shared) (Q : Value → Shared → Prop) : Prop :=
  ∀ (D : Addr) (n : Nat) (t1 t2 t3 t4 t5 t6 t7 t8 t9 t10 t11 t12 : Tok) (h' : Heap) (tk' : Nat), Fr h₀ L h' m → News h₀ L h' ((D, W.listOf #[.int 31 t1, .int (febI b) t2, .int 31 t3, .int 30 t4, .int 31 t5, .int 30 t6, .int 31 t7, .int 31 t8, .int 30 t9, .int 31 t10, .int 30 t11, .int 31 t12] n) :: news) → Q (.ref D) { s with heap := h', toks := tk' }
theorem Mine.Dn.nn {c e R Y : Int} {i : Nat} {a b : Int} (H : Dn c e R Y i a b) : 0 ≤ a := by
  obtain ⟨j, h0, h1, ha, hb, hp, hj⟩ := H; exact hp
theorem Mine.sub_app {α : Type} {x : α} {l own : List α} : ∀ p ∈ x :: l, p ∈ x :: (l ++ own) := fun p hp => by
  rcases List.mem_cons.1 hp with h | h
  · exact List.mem_cons.2 (.inl h)
  · exact List.mem_cons_of_mem _ (List.mem_append_left _ h)
theorem Mine.own_app {α : Type} {x : α} {l own : List α} : ∀ p ∈ own, p ∈ x :: (l ++ own) := fun p hp => List.mem_cons_of_mem _ (List.mem_append_right _ hp)
theorem Mine.dnEnd {h₀ : Heap} {L : Addr} {x y y' : Str} {c e R Y : Int} {i : Nat} {m₀ m' : Str → Option Value} {news newsX own : List (Addr × Obj)} {a' b' : Int} {t' u' : Tok} {s₁ : Shared} {h' : Heap} {tk : Nat} (F : Fr h₀ L h' m') (N : News h₀ L h' newsX)
    (ha : m' y = some (.int a' t')) (hb : m' y' = some (.int b' u')) (hI : Dn c e R Y (i + 1) a' b') (hs : ∀ z, z ≠ x → z ≠ y → z ≠ y' → m' z = m₀ z) (hn : ∀ p ∈ news, p ∈ newsX) (ho : ∀ p ∈ own, p ∈ newsX) :
    InvEndN h₀ L (fun m' nx => nx = news ∧ (∃ a' t' b' u', m' y = some (.int a' t') ∧ m' y' = some (.int b' u') ∧ Dn c e R Y (i + 1) a' b') ∧ ∀ z, z ≠ x → z ≠ y → z ≠ y' → m' z = m₀ z) own (news.map (·.1)) s₁ { s₁ with heap := h', toks := tk } :=
  InvEndN.intro F N ⟨rfl, ⟨_, _, _, _, ha, hb, hI⟩, hs⟩ rfl hn ho
theorem Mine.fm_nn (a : Int) : 0 ≤ Int.fmod a 146097 := by rw [fmd _ _ (by decide)]; omega
theorem Mine.iterRange_inv2 {prog : Program} {w : World} {A : Around} {E : Value → Shared → Prop} {s : Shared} {env : Env} {h₀ : Heap} {x : Str} {body : List Stmt} {Q : Flow → Shared → Prop} {r : Addr} {b₀ : Int} {t₀ u₀ v₀ : Tok} {n : Nat} {m₀ : Str → Option Value} {news : List (Addr × Obj)} (y y' : Str) {c₀ c₁ : Int} {tc td : Tok} (Inv : Nat → Int → Int → Prop)
    (hh : A.handled = none) (hr : IsRange s.heap r 0 b₀ 1 t₀ u₀ v₀) (hsmall : Builtin.Range.small 0 b₀ 1 = true) (hn : Builtin.Range.rangeSize 0 b₀ 1 = (n : Int)) (F : Fr h₀ env.locals s.heap m₀) (N : News h₀ env.locals s.heap news) (hy : m₀ y = some (.int c₀ tc)) (hy' : m₀ y' = some (.int c₁ td)) (h0 : Inv 0 c₀ c₁)
    (turn : ∀ i k t a ta b tb h tk own, Inv i a b → OwnOff own (news.map (·.1)) → Fr h₀ env.locals h (fun z => if z = x then some (.int k t) else if z = y then some (.int a ta) else if z = y' then some (.int b tb) else m₀ z) → News h₀ env.locals h (news ++ own) →
      wpAny (model prog w) A (execs body env) (InvPostN h₀ env.locals (fun m' nx => nx = news ∧ (∃ a' t' b' u', m' y = some (.int a' t') ∧ m' y' = some (.int b' u') ∧ Inv (i + 1) a' b') ∧ ∀ z, z ≠ x → z ≠ y → z ≠ y' → m' z = m₀ z) own (news.map (·.1)) { s with heap := h, toks := tk } Q) E { s with heap := h, toks := tk })
    (done : ∀ (u : Str → Option Value) a b t t' h tk, Inv n a b → Fr h₀ env.locals h (fun z => if z = x then u z else if z = y then some (.int a t) else if z = y' then some (.int b t') else m₀ z) → News h₀ env.locals h news → Q .next { s with heap := h, toks := tk }) :
    wpAny (model prog w) A (pyIter (.ref r)) (fun it s₂ => LoopAtV prog w A h₀ env x body Q E it s₂) E s := by
  refine iter_rangeS (σ := Nat) (fun i m nx => nx = news ∧ (∃ a t b u, m y = some (.int a t) ∧ m y' = some (.int b u) ∧ Inv i a b) ∧ ∀ z, z ≠ x → z ≠ y → z ≠ y' → m z = m₀ z) (fun i _ => i + 1) 0 hh hr hsmall hn F N ⟨rfl, ⟨c₀, tc, c₁, td, hy, hy', h0⟩, fun _ _ _ _ => rfl⟩ ?_ ?_
  · rintro k t i m₁ nx h tk own _ hoff ⟨rfl, ⟨a, ta, b, tb, ha, hb, hI⟩, hm⟩ F₁ N₁
    rw [map_two ha hb hm] at F₁
    exact turn i k t a ta b tb h tk own hI hoff F₁ N₁
  · rintro m₁ nx h tk ⟨rfl, ⟨a, t, b, t', ha, hb, hI⟩, hm⟩ F₁ N₁
    have e : ∀ (l : List Int) (z : Nat), l.foldl (fun i _ => i + 1) z = z + l.length := by
      intro l; induction l with
      | nil => intro z; rfl
      | cons q l ih => intro z; simp only [List.foldl_cons, List.length_cons]; rw [ih]; omega
    rw [e, rangeKs_length] at hI
    refine done m₁ a b t t' h tk (by simpa using hI) ?_ N₁
    rw [done_two ha hb hm]; exact F₁
theorem Mine.c_glong (w : World) (loose : List Str) (mean : ExcName → Option Value) (mg mb : Str → Option Value) (news : List (Addr × Obj)) (y : Int) (t : Tok) : Cl w loose mean mg mb 1 155 [.int y t] news (RetB (glB y)) := by
  w_on
  unfold Cl Claim
  k_fill
  intros; rename_i hret
  refine wpAny_call ?_
  k_dflt cell_enter
  repeat' (first
    | (k_unfold; (try dsimp only))
    | ((first
    | ((fail_if_success (fail_if_success (with_reducible show @ite _ _ _ _ _))); (first
      | (k_here; k_openite; first
  | (with_reducible refine ite_pos (by with_reducible assumption) ?_)
  | (with_reducible refine ite_neg (by with_reducible assumption) ?_)
  | (with_reducible refine ite_isFalse (by with_reducible assumption) ?_)
  | (with_reducible refine ite_dpos (by with_reducible assumption) ?_)
  | (with_reducible refine ite_dneg (by with_reducible assumption) ?_)
  | (with_reducible refine split_dec ?_ ?_ <;> intro _) | (with_reducible refine split_bool ?_ ?_ <;> intro _))))
    | ((fail_if_success (fail_if_success (with_reducible show wpAny _ _ (PySem.call (Value.ref _) _ _) _ _ _))); (first
      | (k_here; (fail_if_success (fail_if_success (with_reducible show wpAny _ _ (PySem.call (Value.ref 106) [Value.int _ _, Value.int 7 _, Value.int _ _] _) _ _ _))); k_dflt (refine use2 (c_tj7 _ _ _ _ _ _ _ _ _ _ _ ) ?_); k_whole; intro t9 h9 tk9 F9 N9; (try dsimp only); (try k_fold))
      | (k_here; (fail_if_success (fail_if_success (with_reducible show wpAny _ _ (PySem.call (Value.ref 43) _ _) _ _ _))); k_dflt (refine use2 (c_gj _ _ _ _ _ _ _ _ _ _ _ _ (by first | decide | with_reducible assumption) (by first | exact dim_pos _ _ | with_reducible assumption)) ?_); k_whole; intro t9 h9 tk9 F9 N9; (try dsimp only); (try k_fold))
      | (k_here; (fail_if_success (fail_if_success (with_reducible show wpAny _ _ (PySem.call (Value.ref 36) _ _) _ _ _))); k_dflt (refine use2 (c_legal _ _ _ _ _ _ _ _ _ _ _ _ (by assumption) (by assumption)) ?_); k_whole; intro h9 tk9 F9 N9; (try dsimp only); (try k_fold))
      | (k_here; (fail_if_success (fail_if_success (with_reducible show wpAny _ _ (PySem.call (Value.ref 21) _ _) _ _ _))); k_dflt (refine use2 (c_isl _ _ _ _ _ _ _ _) ?_); k_whole; intro h9 tk9 F9 N9; (try dsimp only); (try k_fold))
      | (k_here; (fail_if_success (fail_if_success (with_reducible show wpAny _ _ (PySem.call (Value.ref 169) _ _) _ _ _))); k_dflt (refine use2 (c_long' _ _ _ _ _ _ _ _) ?_); k_whole; intro h9 tk9 F9 N9; (try dsimp only); (try k_fold))
      | (k_here; (fail_if_success (fail_if_success (with_reducible show wpAny _ _ (PySem.call (Value.ref 174) _ _) _ _ _))); k_dflt (refine use2 (c_ny _ _ _ _ _ _ _ _) ?_); k_whole; intro t9 h9 tk9 F9 N9; (try dsimp only); (try k_fold))
      | (k_here; (fail_if_success (fail_if_success (with_reducible show wpAny _ _ (PySem.call (Value.ref 106) _ _) _ _ _))); k_dflt (refine use2 (c_tj _ _ _ _ _ _ _ _ _ _ _ _ (by first | with_reducible assumption | decide | omega) (by first | with_reducible assumption | decide | omega)) ?_); k_whole; intro t9 h9 tk9 F9 N9; (try dsimp only); (try k_fold))
      | (k_here; (fail_if_success (fail_if_success (with_reducible show wpAny _ _ (PySem.call (Value.ref 64) _ _) _ _ _))); k_dflt (refine use2 (c_ymN _ _ _ _ _ _ _ _ ) ?_); k_whole; intro n9 t9 h9 tk9 hn9 hl9 hu9 F9 N9; (try dsimp only); (try k_fold))
      | (k_here; (fail_if_success (fail_if_success (with_reducible show wpAny _ _ (PySem.call (Value.ref 99) _ _) _ _ _))); k_dflt (refine use2 (c_md _ _ _ _ _ _ _ _ _ _ (by first | with_reducible assumption | decide | omega)) ?_); k_whole; intro t9 h9 tk9 F9 N9; (try dsimp only); (try k_fold))
      | (k_here; (fail_if_success (fail_if_success (with_reducible show wpAny _ _ (PySem.call (Value.ref 92) _ _) _ _ _))); k_dflt (refine use2 (c_ml _ _ _ _ _ _ _ _ _ _ (by first | with_reducible assumption | decide | omega)) ?_); k_whole; intro t9 h9 tk9 F9 N9; (try dsimp only); (try k_fold))
      | (k_here; (fail_if_success (fail_if_success (with_reducible show wpAny _ _ (PySem.call (Value.ref 85) _ _) _ _ _))); k_dflt (refine use2 (c_yd _ _ _ _ _ _ _ _) ?_); k_whole; intro t9 h9 tk9 F9 N9; (try dsimp only); (try k_fold))
      | (k_here; (fail_if_success (fail_if_success (with_reducible show wpAny _ _ (PySem.call (Value.ref 169) _ _) _ _ _))); k_dflt (refine use2 (c_long _ _ _ _ _ _ _ _) ?_); k_whole; intro h9 tk9 F9 N9; (try dsimp only); (try k_fold))
      | (k_here; (fail_if_success (fail_if_success (with_reducible show wpAny _ _ (PySem.call (Value.ref 78) _ _) _ _ _))); k_dflt (refine use2 (c_d2 _ _ _ _ _ _ _ _) ?_); k_whole; intro t9 h9 tk9 F9 N9; (try dsimp only); (try k_fold))
      | (k_here; (fail_if_success (fail_if_success (with_reducible show wpAny _ _ (PySem.call (Value.ref 71) _ _) _ _ _))); k_dflt (refine use2 (c_d1 _ _ _ _ _ _ _ _) ?_); k_whole; intro t9 h9 tk9 F9 N9; (try dsimp only); (try k_fold))
      | (k_here; (fail_if_success (fail_if_success (with_reducible show wpAny _ _ (PySem.call (Value.ref 64) _ _) _ _ _))); k_dflt (refine use2 (c_ym _ _ _ _ _ _ _ _) ?_); k_whole; intro t9 h9 tk9 F9 N9; (try dsimp only); (try k_fold))
      | (k_here; (fail_if_success (fail_if_success (with_reducible show wpAny _ _ (PySem.call (Value.ref 57) _ _) _ _ _))); k_dflt (refine use2 (c_leap _ _ _ _ _ _ _ _) ?_); k_whole; intro h9 tk9 F9 N9; (try dsimp only); (try k_fold))
      | (k_here; (fail_if_success (fail_if_success (with_reducible show wpAny _ _ (PySem.call (Value.ref 28) _ _) _ _ _))); k_dflt (refine use2 (c_mid _ _ _ _ _ _ _ _) ?_); k_whole; intro t9 h9 tk9 F9 N9; (try dsimp only); (try k_fold))))); (try dsimp only))
    | (walk1; (try dsimp only)) | fail "no step")
  all_goals (refine retB hret ?_ (by k_asm) (by k_asm) (by (intro p hp; repeat (first | with_reducible assumption | refine List.mem_cons_of_mem _ ?_))))
  all_goals (unfold glB; simp only [*, Bool.true_and, Bool.false_and, Bool.true_or, Bool.false_or])
theorem Mine.c_sizes (w : World) (loose : List Str) (mean : ExcName → Option Value) (mg mb : Str → Option Value) (news : List (Addr × Obj)) (b : Bool) : Cl w loose mean mg mb 2 162 [.bool b] news (RetSizes b) := by
  w_on
  unfold Cl Claim
  k_fill
  intros; rename_i hret
  refine wpAny_call ?_
  k_dflt cell_enter
  repeat' (first
    | (k_unfold; (try dsimp only))
    | ((first
    | ((fail_if_success (fail_if_success (with_reducible show @ite _ _ _ _ _))); (first
      | (k_here; k_openite; first
  | (with_reducible refine ite_pos (by with_reducible assumption) ?_)
  | (with_reducible refine ite_neg (by with_reducible assumption) ?_)
  | (with_reducible refine ite_isFalse (by with_reducible assumption) ?_)
  | (with_reducible refine ite_dpos (by with_reducible assumption) ?_)
  | (with_reducible refine ite_dneg (by with_reducible assumption) ?_)
  | (with_reducible refine split_dec ?_ ?_ <;> intro _) | (with_reducible refine split_bool ?_ ?_ <;> intro _))))
    | ((fail_if_success (fail_if_success (with_reducible show wpAny _ _ (PySem.call (Value.ref _) _ _) _ _ _))); (first
      | (k_here; (fail_if_success (fail_if_success (with_reducible show wpAny _ _ (PySem.call (Value.ref 106) [Value.int _ _, Value.int 7 _, Value.int _ _] _) _ _ _))); k_dflt (refine use2 (c_tj7 _ _ _ _ _ _ _ _ _ _ _ ) ?_); k_whole; intro t9 h9 tk9 F9 N9; (try dsimp only); (try k_fold))
      | (k_here; (fail_if_success (fail_if_success (with_reducible show wpAny _ _ (PySem.call (Value.ref 155) _ _) _ _ _))); k_dflt (refine use2 (c_glong _ _ _ _ _ _ _ _) ?_); k_whole; intro h9 tk9 F9 N9; (try dsimp only); (try k_fold))
      | (k_here; (fail_if_success (fail_if_success (with_reducible show wpAny _ _ (PySem.call (Value.ref 43) _ _) _ _ _))); k_dflt (refine use2 (c_gj _ _ _ _ _ _ _ _ _ _ _ _ (by first | decide | with_reducible assumption) (by first | exact dim_pos _ _ | with_reducible assumption)) ?_); k_whole; intro t9 h9 tk9 F9 N9; (try dsimp only); (try k_fold))
      | (k_here; (fail_if_success (fail_if_success (with_reducible show wpAny _ _ (PySem.call (Value.ref 36) _ _) _ _ _))); k_dflt (refine use2 (c_legal _ _ _ _ _ _ _ _ _ _ _ _ (by assumption) (by assumption)) ?_); k_whole; intro h9 tk9 F9 N9; (try dsimp only); (try k_fold))
      | (k_here; (fail_if_success (fail_if_success (with_reducible show wpAny _ _ (PySem.call (Value.ref 21) _ _) _ _ _))); k_dflt (refine use2 (c_isl _ _ _ _ _ _ _ _) ?_); k_whole; intro h9 tk9 F9 N9; (try dsimp only); (try k_fold))
      | (k_here; (fail_if_success (fail_if_success (with_reducible show wpAny _ _ (PySem.call (Value.ref 169) _ _) _ _ _))); k_dflt (refine use2 (c_long' _ _ _ _ _ _ _ _) ?_); k_whole; intro h9 tk9 F9 N9; (try dsimp only); (try k_fold))
      | (k_here; (fail_if_success (fail_if_success (with_reducible show wpAny _ _ (PySem.call (Value.ref 174) _ _) _ _ _))); k_dflt (refine use2 (c_ny _ _ _ _ _ _ _ _) ?_); k_whole; intro t9 h9 tk9 F9 N9; (try dsimp only); (try k_fold))
      | (k_here; (fail_if_success (fail_if_success (with_reducible show wpAny _ _ (PySem.call (Value.ref 106) _ _) _ _ _))); k_dflt (refine use2 (c_tj _ _ _ _ _ _ _ _ _ _ _ _ (by first | with_reducible assumption | decide | omega) (by first | with_reducible assumption | decide | omega)) ?_); k_whole; intro t9 h9 tk9 F9 N9; (try dsimp only); (try k_fold))
      | (k_here; (fail_if_success (fail_if_success (with_reducible show wpAny _ _ (PySem.call (Value.ref 64) _ _) _ _ _))); k_dflt (refine use2 (c_ymN _ _ _ _ _ _ _ _ ) ?_); k_whole; intro n9 t9 h9 tk9 hn9 hl9 hu9 F9 N9; (try dsimp only); (try k_fold))
      | (k_here; (fail_if_success (fail_if_success (with_reducible show wpAny _ _ (PySem.call (Value.ref 99) _ _) _ _ _))); k_dflt (refine use2 (c_md _ _ _ _ _ _ _ _ _ _ (by first | with_reducible assumption | decide | omega)) ?_); k_whole; intro t9 h9 tk9 F9 N9; (try dsimp only); (try k_fold))
      | (k_here; (fail_if_success (fail_if_success (with_reducible show wpAny _ _ (PySem.call (Value.ref 92) _ _) _ _ _))); k_dflt (refine use2 (c_ml _ _ _ _ _ _ _ _ _ _ (by first | with_reducible assumption | decide | omega)) ?_); k_whole; intro t9 h9 tk9 F9 N9; (try dsimp only); (try k_fold))
      | (k_here; (fail_if_success (fail_if_success (with_reducible show wpAny _ _ (PySem.call (Value.ref 85) _ _) _ _ _))); k_dflt (refine use2 (c_yd _ _ _ _ _ _ _ _) ?_); k_whole; intro t9 h9 tk9 F9 N9; (try dsimp only); (try k_fold))
      | (k_here; (fail_if_success (fail_if_success (with_reducible show wpAny _ _ (PySem.call (Value.ref 169) _ _) _ _ _))); k_dflt (refine use2 (c_long _ _ _ _ _ _ _ _) ?_); k_whole; intro h9 tk9 F9 N9; (try dsimp only); (try k_fold))
      | (k_here; (fail_if_success (fail_if_success (with_reducible show wpAny _ _ (PySem.call (Value.ref 78) _ _) _ _ _))); k_dflt (refine use2 (c_d2 _ _ _ _ _ _ _ _) ?_); k_whole; intro t9 h9 tk9 F9 N9; (try dsimp only); (try k_fold))
      | (k_here; (fail_if_success (fail_if_success (with_reducible show wpAny _ _ (PySem.call (Value.ref 71) _ _) _ _ _))); k_dflt (refine use2 (c_d1 _ _ _ _ _ _ _ _) ?_); k_whole; intro t9 h9 tk9 F9 N9; (try dsimp only); (try k_fold))
      | (k_here; (fail_if_success (fail_if_success (with_reducible show wpAny _ _ (PySem.call (Value.ref 64) _ _) _ _ _))); k_dflt (refine use2 (c_ym _ _ _ _ _ _ _ _) ?_); k_whole; intro t9 h9 tk9 F9 N9; (try dsimp only); (try k_fold))
      | (k_here; (fail_if_success (fail_if_success (with_reducible show wpAny _ _ (PySem.call (Value.ref 57) _ _) _ _ _))); k_dflt (refine use2 (c_leap _ _ _ _ _ _ _ _) ?_); k_whole; intro h9 tk9 F9 N9; (try dsimp only); (try k_fold))
      | (k_here; (fail_if_success (fail_if_success (with_reducible show wpAny _ _ (PySem.call (Value.ref 28) _ _) _ _ _))); k_dflt (refine use2 (c_mid _ _ _ _ _ _ _ _) ?_); k_whole; intro t9 h9 tk9 F9 N9; (try dsimp only); (try k_fold))))); (try dsimp only))
    | (walk1; (try dsimp only)) | fail "no step")
  all_goals (
    (first | (rw [show b = true by assumption] at hret) | (rw [show b = false by assumption] at hret))
    refine' hret _ _ _ _ _ _ _ _ _ _ _ _ _ _ _ _ ?hF ?hN
    (case hF => k_asm)
    (case hN => k_asm))
def Mine.MF (y k : Int) : List Value → Prop
  | [] => k = 13
  | v :: r => (∃ t, v = .int (dimI y k) t) ∧ k ≤ 12 ∧ MF y (k + 1) r
def Mine.InG (y r0 k b : Int) (r : List Value) : Prop := 1 ≤ k ∧ k ≤ 12 ∧ b = r0 - offG y k ∧ 0 ≤ b ∧ MF y (k + 1) r
/-- the months ahead, the month and the days left -/
def Mine.JG (y r0 : Int) (l : List Value) (v1 v2 _v3 : Option Value) : Prop :=
  ∃ (k b : Int) (t1 t2 : Tok), v1 = some (.int k t1) ∧ v2 = some (.int b t2) ∧ 1 ≤ k ∧ b = r0 - offG y k ∧ 0 ≤ b ∧ MF y k l
theorem Mine.JG.start {y r0 jd : Int} (Y : Yd y r0 jd) {v1 v2 v3 : Option Value} {s1 s2 t1 t2 t3 t4 t5 t6 t7 t8 t9 t10 t11 t12 : Tok} (h1 : v1 = some (.int 1 s1)) (h2 : v2 = some (.int r0 s2)) : JG y r0 [.int 31 t1, .int (febI (glB y)) t2, .int 31 t3, .int 30 t4, .int 31 t5, .int 30 t6, .int 31 t7, .int 31 t8, .int 30 t9, .int 31 t10, .int 30 t11, .int 31 t12] v1 v2 v3 := by
  obtain ⟨a1, a2, a3, a4, a5, a6, a7, a8, a9, a10, a11, a12⟩ := dim_tab y
  refine ⟨1, r0, s1, s2, h1, h2, by decide, by rw [(off_ends y).1]; omega, Y.1, ?_⟩
  refine ⟨⟨_, by rw [a1]⟩, by decide, ⟨_, by rw [gl_lp]; exact congrArg (Value.int · _) a2.symm⟩, by decide, ⟨_, congrArg (Value.int · _) a3.symm⟩, by decide, ⟨_, congrArg (Value.int · _) a4.symm⟩, by decide, ⟨_, congrArg (Value.int · _) a5.symm⟩, by decide, ⟨_, congrArg (Value.int · _) a6.symm⟩, by decide, ⟨_, congrArg (Value.int · _) a7.symm⟩, by decide, ⟨_, congrArg (Value.int · _) a8.symm⟩, by decide, ⟨_, congrArg (Value.int · _) a9.symm⟩, by decide, ⟨_, congrArg (Value.int · _) a10.symm⟩, by decide, ⟨_, congrArg (Value.int · _) a11.symm⟩, by decide, ⟨_, congrArg (Value.int · _) a12.symm⟩, by decide, rfl⟩
theorem Mine.JG.cons {y r0 : Int} {v : Value} {r : List Value} {v1 v2 v3 : Option Value} (H : JG y r0 (v :: r) v1 v2 v3) : ∃ (k b : Int) (t t1 t2 : Tok), v = .int (dimI y k) t ∧ v1 = some (.int k t1) ∧ v2 = some (.int b t2) ∧ InG y r0 k b r := by
  obtain ⟨k, b, t1, t2, h1, h2, h3, h4, h5, ⟨t, e⟩, h6, h7⟩ := H
  exact ⟨k, b, t, t1, t2, e, h1, h2, h3, h6, h4, h5, h7⟩
theorem Mine.JG.nil {y r0 jd : Int} (Y : Yd y r0 jd) {v1 v2 v3 : Option Value} (H : JG y r0 [] v1 v2 v3) : False := by
  obtain ⟨k, b, t1, t2, h1, h2, h3, h4, h5, h6⟩ := H
  have e : k = 13 := h6
  subst e
  have := Y.2.1
  have a := (off_ends y).2
  omega
theorem Mine.InG.step {y r0 k b : Int} {r : List Value} (H : InG y r0 k b r) : offG y (k + 1) = offG y k + dimI y k := off_step H.1 H.2.1
theorem Mine.JG.next {y r0 k b : Int} {r : List Value} {v1 v2 v3 : Option Value} {t1 t2 : Tok} (H : InG y r0 k b r) (h : ¬ b < dimI y k) (h1 : v1 = some (.int (k + 1) t1)) (h2 : v2 = some (.int (b - dimI y k) t2)) : JG y r0 r v1 v2 v3 := by
  have e := H.step
  obtain ⟨g1, g2, g3, g4, g5⟩ := H
  exact ⟨k + 1, b - dimI y k, t1, t2, h1, h2, by omega, by omega, by omega, g5⟩
theorem Mine.InG.gd {y r0 jd k b : Int} {r : List Value} (Y : Yd y r0 jd) (H : InG y r0 k b r) (h : b < dimI y k) : Gd y k (b + 1) jd := by
  obtain ⟨g1, g2, g3, g4, g5⟩ := H
  exact Y.date k _ g1 g2 (by omega) (by omega) (by omega)
set_option maxHeartbeats 8000000
theorem Mine.c_lg (w : World) (loose : List Str) (mean : ExcName → Option Value) (mg mb : Str → Option Value) (news : List (Addr × Obj)) (jd : Int) (t : Tok) : Cl w loose mean mg mb 6 148 [.int jd t] news (RetG jd) := by
  w_on
  unfold Cl Claim
  k_fill
  intros; rename_i hret
  refine wpAny_call ?_
  k_dflt cell_enter
  repeat' (first
    | (k_unfold; (try dsimp only))
    | ((first
    | ((fail_if_success (fail_if_success (with_reducible show @ite _ _ _ _ _))); (first
      | (k_here; k_openite; first
  | (with_reducible refine ite_pos (by with_reducible assumption) ?_)
  | (with_reducible refine ite_neg (by with_reducible assumption) ?_)
  | (with_reducible refine ite_isFalse (by with_reducible assumption) ?_)
  | (with_reducible refine ite_dpos (by with_reducible assumption) ?_)
  | (with_reducible refine ite_dneg (by with_reducible assumption) ?_)
  | (with_reducible refine split_dec ?_ ?_ <;> intro _) | (with_reducible refine split_bool ?_ ?_ <;> intro _))))
    | ((fail_if_success (fail_if_success (with_reducible show wpAny _ _ (PySem.call (Value.ref _) _ _) _ _ _))); (first
      | (k_here; (fail_if_success (fail_if_success (with_reducible show wpAny _ _ (PySem.call (Value.ref 106) [Value.int _ _, Value.int 7 _, Value.int _ _] _) _ _ _))); k_dflt (refine use2 (c_tj7 _ _ _ _ _ _ _ _ _ _ _ ) ?_); k_whole; intro t9 h9 tk9 F9 N9; (try dsimp only); (try k_fold))
      | (k_here; (fail_if_success (fail_if_success (with_reducible show wpAny _ _ (PySem.call (Value.ref 162) _ _) _ _ _))); k_dflt (refine use2 (c_sizes _ _ _ _ _ _ _) ?_); k_whole; intro D9 n9 t1 t2 t3 t4 t5 t6 t7 t8 t9 t10 t11 t12 h9 tk9 F9 N9; (try dsimp only); (try k_fold))
      | (k_here; (fail_if_success (fail_if_success (with_reducible show wpAny _ _ (PySem.call (Value.ref 155) _ _) _ _ _))); k_dflt (refine use2 (c_glong _ _ _ _ _ _ _ _) ?_); k_whole; intro h9 tk9 F9 N9; (try dsimp only); (try k_fold))
      | (k_here; (fail_if_success (fail_if_success (with_reducible show wpAny _ _ (PySem.call (Value.ref 43) _ _) _ _ _))); k_dflt (refine use2 (c_gj _ _ _ _ _ _ _ _ _ _ _ _ (by first | decide | with_reducible assumption) (by first | exact dim_pos _ _ | with_reducible assumption)) ?_); k_whole; intro t9 h9 tk9 F9 N9; (try dsimp only); (try k_fold))
      | (k_here; (fail_if_success (fail_if_success (with_reducible show wpAny _ _ (PySem.call (Value.ref 36) _ _) _ _ _))); k_dflt (refine use2 (c_legal _ _ _ _ _ _ _ _ _ _ _ _ (by assumption) (by assumption)) ?_); k_whole; intro h9 tk9 F9 N9; (try dsimp only); (try k_fold))
      | (k_here; (fail_if_success (fail_if_success (with_reducible show wpAny _ _ (PySem.call (Value.ref 21) _ _) _ _ _))); k_dflt (refine use2 (c_isl _ _ _ _ _ _ _ _) ?_); k_whole; intro h9 tk9 F9 N9; (try dsimp only); (try k_fold))
      | (k_here; (fail_if_success (fail_if_success (with_reducible show wpAny _ _ (PySem.call (Value.ref 169) _ _) _ _ _))); k_dflt (refine use2 (c_long' _ _ _ _ _ _ _ _) ?_); k_whole; intro h9 tk9 F9 N9; (try dsimp only); (try k_fold))
      | (k_here; (fail_if_success (fail_if_success (with_reducible show wpAny _ _ (PySem.call (Value.ref 174) _ _) _ _ _))); k_dflt (refine use2 (c_ny _ _ _ _ _ _ _ _) ?_); k_whole; intro t9 h9 tk9 F9 N9; (try dsimp only); (try k_fold))
      | (k_here; (fail_if_success (fail_if_success (with_reducible show wpAny _ _ (PySem.call (Value.ref 106) _ _) _ _ _))); k_dflt (refine use2 (c_tj _ _ _ _ _ _ _ _ _ _ _ _ (by first | with_reducible assumption | decide | omega) (by first | with_reducible assumption | decide | omega)) ?_); k_whole; intro t9 h9 tk9 F9 N9; (try dsimp only); (try k_fold))
      | (k_here; (fail_if_success (fail_if_success (with_reducible show wpAny _ _ (PySem.call (Value.ref 64) _ _) _ _ _))); k_dflt (refine use2 (c_ymN _ _ _ _ _ _ _ _ ) ?_); k_whole; intro n9 t9 h9 tk9 hn9 hl9 hu9 F9 N9; (try dsimp only); (try k_fold))
      | (k_here; (fail_if_success (fail_if_success (with_reducible show wpAny _ _ (PySem.call (Value.ref 99) _ _) _ _ _))); k_dflt (refine use2 (c_md _ _ _ _ _ _ _ _ _ _ (by first | with_reducible assumption | decide | omega)) ?_); k_whole; intro t9 h9 tk9 F9 N9; (try dsimp only); (try k_fold))
      | (k_here; (fail_if_success (fail_if_success (with_reducible show wpAny _ _ (PySem.call (Value.ref 92) _ _) _ _ _))); k_dflt (refine use2 (c_ml _ _ _ _ _ _ _ _ _ _ (by first | with_reducible assumption | decide | omega)) ?_); k_whole; intro t9 h9 tk9 F9 N9; (try dsimp only); (try k_fold))
      | (k_here; (fail_if_success (fail_if_success (with_reducible show wpAny _ _ (PySem.call (Value.ref 85) _ _) _ _ _))); k_dflt (refine use2 (c_yd _ _ _ _ _ _ _ _) ?_); k_whole; intro t9 h9 tk9 F9 N9; (try dsimp only); (try k_fold))
      | (k_here; (fail_if_success (fail_if_success (with_reducible show wpAny _ _ (PySem.call (Value.ref 169) _ _) _ _ _))); k_dflt (refine use2 (c_long _ _ _ _ _ _ _ _) ?_); k_whole; intro h9 tk9 F9 N9; (try dsimp only); (try k_fold))
      | (k_here; (fail_if_success (fail_if_success (with_reducible show wpAny _ _ (PySem.call (Value.ref 78) _ _) _ _ _))); k_dflt (refine use2 (c_d2 _ _ _ _ _ _ _ _) ?_); k_whole; intro t9 h9 tk9 F9 N9; (try dsimp only); (try k_fold))
      | (k_here; (fail_if_success (fail_if_success (with_reducible show wpAny _ _ (PySem.call (Value.ref 71) _ _) _ _ _))); k_dflt (refine use2 (c_d1 _ _ _ _ _ _ _ _) ?_); k_whole; intro t9 h9 tk9 F9 N9; (try dsimp only); (try k_fold))
      | (k_here; (fail_if_success (fail_if_success (with_reducible show wpAny _ _ (PySem.call (Value.ref 64) _ _) _ _ _))); k_dflt (refine use2 (c_ym _ _ _ _ _ _ _ _) ?_); k_whole; intro t9 h9 tk9 F9 N9; (try dsimp only); (try k_fold))
      | (k_here; (fail_if_success (fail_if_success (with_reducible show wpAny _ _ (PySem.call (Value.ref 57) _ _) _ _ _))); k_dflt (refine use2 (c_leap _ _ _ _ _ _ _ _) ?_); k_whole; intro h9 tk9 F9 N9; (try dsimp only); (try k_fold))
      | (k_here; (fail_if_success (fail_if_success (with_reducible show wpAny _ _ (PySem.call (Value.ref 28) _ _) _ _ _))); k_dflt (refine use2 (c_mid _ _ _ _ _ _ _ _) ?_); k_whole; intro t9 h9 tk9 F9 N9; (try dsimp only); (try k_fold))))
    | ((fail_if_success (fail_if_success (with_reducible show wpAny _ _ (eval (Expr.Call _ _ _ _) _) _ _ _))); (first
      | (k_here; (with_reducible show wpAny _ _ (eval (Expr.Call (Expr.Name _ _) _ [] _) _) _ _ _); with_reducible refine Call_ ?_)))
    | ((fail_if_success (fail_if_success (with_reducible show wpAny _ _ (pyIter (Value.ref _)) _ _ _))); (first
      | (k_here; (fail_if_success (fail_if_success (with_reducible show wpAny _ _ (pyIter (Value.ref _)) (fun it s₂ => TurnsAt _ _ _ _ _ _ _ _ _ it s₂) _ _))); (rename Fr _ _ _ _ => lF'); (rename News _ _ _ _ => lN'); (rename Yd _ _ _ => Y'); (with_unfolding_all refine iter_listTurns (by rfl) lF' lN' (List.Mem.head _) (by rfl) (by rfl) ?_); clear lF'; intro i' l1; (k_dflt (refine turns3 (Str.ofString "month") (Str.ofString "rest") (Str.ofString "size") (JG _ _) subl1 l1 (JG.start Y' rfl rfl) (fun v1' r' w1' w2' w3' R' hJ' hR' h' tk' o' ho' F' N' => ?_) (fun w1' w2' w3' hJ' => (JG.nil Y' hJ').elim))); (obtain ⟨k', b', t', t1', t2', e1', e2', e3', hI'⟩ := JG.cons hJ'); subst e1'; subst e2'; subst e3'; clear hJ'; (try dsimp only); (try k_fold))
      | (k_here; (with_reducible show wpAny _ _ (pyIter (Value.ref _)) (fun it s₂ => LoopAtV _ _ _ _ _ _ _ _ _ it s₂) _ _); (rename Fr _ _ _ _ => lF'); (rename News _ _ _ _ => lN'); (rename IsRange _ _ _ _ _ _ _ _ => rgX); (first
  | ((rename Dn 1461 _ _ _ _ _ _ => dn'); (with_unfolding_all refine' iterRange_inv2 (Str.ofString "rest") (Str.ofString "year") (Dn 365 1 _ _) (by rfl) (by first | exact rgX | assumption) (by decide) (by rfl) lF' lN' (by rfl) (by rfl) (Dn.start (Dn.nn (by assumption))) (fun i' k' t' a' ta' b' tb' h' tk' own' hInv' hoff' F' N' => ?_) (fun u' a' b' t' t'' h' tk' hInv' F' N' => ?_)))
  | ((rename Dn 36524 _ _ _ _ _ _ => dn'); (with_unfolding_all refine' iterRange_inv2 (Str.ofString "rest") (Str.ofString "year") (Dn 1461 4 _ _) (by rfl) (by first | exact rgX | assumption) (by decide) (by rfl) lF' lN' (by rfl) (by rfl) (Dn.start (Dn.nn (by assumption))) (fun i' k' t' a' ta' b' tb' h' tk' own' hInv' hoff' F' N' => ?_) (fun u' a' b' t' t'' h' tk' hInv' F' N' => ?_)))
  | (with_unfolding_all refine' iterRange_inv2 (Str.ofString "rest") (Str.ofString "year") (Dn 36524 100 _ _) (by rfl) (by first | exact rgX | assumption) (by decide) (by rfl) lF' lN' (by rfl) (by rfl) (Dn.start (fm_nn _)) (fun i' k' t' a' ta' b' tb' h' tk' own' hInv' hoff' F' N' => ?_) (fun u' a' b' t' t'' h' tk' hInv' F' N' => ?_))); (all_goals (try clear lF' lN')); (all_goals (try simp only [List.nil_append, List.cons_append, List.append_nil] at N')); (all_goals (try dsimp only)); (all_goals (try k_fold)))))
    | ((fail_if_success (fail_if_success (with_reducible show wpAny _ _ (exec (Stmt.For (Expr.Name _ _) (Expr.Call _ _ _ _) _ _ _) _) _ _ _))); (first
      | (k_here; (fail_if_success (fail_if_success (with_reducible show wpAny _ _ (exec (Stmt.For _ (Expr.Call (Expr.Name (Str.ofString "_law_sizes") _) _ _ _) _ _ _) _) _ _ _))); (rename Dn 36524 _ _ _ _ _ _ => dn1); (rename Dn 1461 _ _ _ _ _ _ => dn2); (rename Dn 365 _ _ _ _ _ _ => dn3); (have Y' := lg_year _ _ _ _ _ _ _ dn1 dn2 dn3); clear dn1 dn2 dn3; (rename Fr _ _ _ _ => lF'); (with_unfolding_all refine' For_turns lF' ?_; k_whole))
      | (k_here; (with_reducible show wpAny _ _ (exec (Stmt.For _ (Expr.Call (Expr.Name (Str.ofString "_law_sizes") _) _ _ _) _ _ _) _) _ _ _); (rename Fr _ _ _ _ => lF'); (with_unfolding_all refine' For_turns lF' ?_; k_whole))
      | (k_here; (with_reducible show wpAny _ _ (exec (Stmt.For _ (Expr.Call (Expr.Name (Str.ofString "range") _) _ _ _) _ _ _) _) _ _ _); (rename Fr _ _ _ _ => lF'); (with_unfolding_all refine' For_invVF lF' ?k1 ?k2 ?_; (case k1 => exact rfl); (case k2 => exact rfl); k_whole))))
    | ((fail_if_success (fail_if_success (with_reducible show InvEndN ..))); (first
      | (k_here; (refine' dnEnd ?eF ?eN ?ea ?eb ?eI ?es ?ehn ?eho; (case eF => assumption); (case eN => assumption); (case ea => with_unfolding_all rfl); (case eb => with_unfolding_all rfl); (case eI => first | exact Dn.on (by assumption) (by assumption) | exact Dn.off (by assumption) (by assumption)); (case es => (intro z h1 h2 h3; simp only [if_neg h1, if_neg h2, if_neg h3])); (case ehn => first | exact sub_app | exact fun p hp => List.mem_append_left _ hp); (case eho => first | exact own_app | exact fun p hp => List.mem_append_right _ hp)))))
    | ((fail_if_success (fail_if_success (with_reducible show UnrEndW ..))); (first
      | (k_here; k_dflt (refine turnEnd (J := JG _ _ _) (by assumption) subl1 (by assumption) (by assumption) (by assumption) (by (intro x h1 h2 h3; simp only [if_neg h1, if_neg h2, if_neg h3])) (JG.next (by assumption) (by assumption) rfl rfl)))))); (try dsimp only))
    | (walk1; (try dsimp only)) | fail "no step")
  all_goals (
    refine' hret _ _ _ ?gd _ _ _ _ _ _ ?hF ?hN
    (case gd => exact InG.gd (by assumption) (by assumption) (by assumption))
    (case hF => k_asm)
    (case hN =>
      refine' cb_drop ?cbN ?cbS
      (case cbN => k_asm)
      (case cbS => (refine' List.forall_mem_cons.mpr ⟨(by k_mem), ?_⟩; (intro p hp; repeat (first | with_reducible assumption | refine List.mem_cons_of_mem _ ?_))))))
section RowsK
set_option maxHeartbeats 4000000
theorem Mine.subTrans {a b c : List (Addr × Obj)} (h2 : ∀ p ∈ b, p ∈ c) (h1 : ∀ p ∈ a, p ∈ b) : ∀ p ∈ a, p ∈ c := fun p hp => h2 p (h1 p hp)
/-- the days left at the place c of the year -/
def Mine.SK (y jd c z : Int) : Prop := z = jd - nyI y - c ∧ 0 ≤ z
theorem Mine.SK.date {y jd c z mo : Int} (hy : 0 ≤ y) (S : SK y jd c z) (H : RowIt y mo c) (h : z < mlI y mo) : Hd y mo (z + 1) jd := by
  obtain ⟨h1, h2, h3⟩ := H
  obtain ⟨g1, g2⟩ := S
  exact ⟨h1, h2, by omega, by omega, by rw [tj_off y mo _ hy (by omega)]; omega⟩
theorem Mine.SK.next {y jd c z k : Int} (S : SK y jd c z) (h : ¬ z < k) : SK y jd (c + k) (z - k) := by unfold SK at *; omega
theorem Mine.SK.fin {y jd c z : Int} (hy : 0 ≤ y) (S : SK y jd c z) (he : nyI (y + 1) = nyI y + c) (h2 : jd ≤ nyI (y + 1)) : Hd (y + 1) 7 (z + 1) jd := by
  obtain ⟨g1, g2⟩ := S
  have hz : z = 0 := by omega
  subst hz
  refine ⟨by decide, by rcases ym_range (y + 1) with ⟨q, _⟩ | ⟨q, _⟩ <;> omega, by omega, by have := ml_pos (y + 1) 7; omega, ?_⟩
  rw [tj_off (y + 1) 7 _ (by omega) (by omega), off7]; omega
section
variable {prog : Program} {w : World} {A : Around} {E : Value → Shared → Prop} {h₀ : Heap} {env : Env} {target : Expr} {body : List Stmt} {Q : Flow → Shared → Prop} {s : Shared}
theorem Mine.turnsK (n1 n2 n3 : Str) {y jd : Int} {t0 : Tok} {m : Str → Option Value} {W0 : List (Addr × Obj)} {p0 : Addr × Obj} {I : Addr} {cls : String} {l₀ : List Value}
    (hy : 0 ≤ y) (h1 : nyI y ≤ jd) (h2 : jd ≤ nyI (y + 1)) (hRF : RF y (p0 :: W0) 0 l₀) (hz0 : m n1 = some (.int (jd - nyI y) t0)) (hl : ∀ p ∈ p0 :: W0, p.1 < I)
    (turn : ∀ (W : List (Addr × Obj)) (_hW : ∀ p ∈ W0, p ∈ W) (_hl : ∀ p ∈ W, p.1 < I) (_hk : SubL [p0] W) (a : Addr) (mo c z : Int) (t u tz : Tok) (w2 w3 : Option Value) (R : (Str → Option Value) → List (Addr × Obj) → Prop), (z < mlI y mo → Hd y mo (z + 1) jd) → SK y jd c z →
      (∀ m' z' tz', (∀ x, x ≠ n1 → x ≠ n2 → x ≠ n3 → m' x = m x) → m' n1 = some (.int z' tz') → SK y jd (c + mlI y mo) z' → R m' W) → ∀ (h : Heap) (tk : Nat) (o : Obj),
      Fr h₀ env.locals h (fun x => if x = n1 then some (.int z tz) else if x = n2 then w2 else if x = n3 then w3 else m x) → News h₀ env.locals h ((I, o) :: (a, tup2 (.int mo t) (.int (mlI y mo) u)) :: W) →
      wpAny (model prog w) A (assign target env (.ref a)) (fun _ s₂ => wpAny (model prog w) A (execs body env) (UnrPostW h₀ env.locals { s with heap := h, toks := tk } [(I, o)] (fun m' n' => SubL [p0] n' ∧ R m' n') Q) E s₂) E { s with heap := h, toks := tk })
    (done : ∀ (z : Int) (tz : Tok) (w2 w3 : Option Value) (h : Heap) (tk : Nat), Hd (y + 1) 7 (z + 1) jd → Fr h₀ env.locals h (fun x => if x = n1 then some (.int z tz) else if x = n2 then w2 else if x = n3 then w3 else m x) → News h₀ env.locals h (p0 :: W0) → Q .next { s with heap := h, toks := tk }) :
    ItemsRest prog w A E h₀ env target body Q s [(I, cls)] [p0] (l₀.map .val) m (p0 :: W0) := by
  refine turnsRow n1 n2 n3 (SK y jd) hRF hz0 (by unfold SK; omega) hl ?_ ?_
  · intro W hW hl' hk' a mo c z t u tz w2 w3 R hS hI hR h tk o F N
    exact turn W hW hl' hk' a mo c z t u tz w2 w3 R (fun hlt => hS.date hy hI hlt) hS hR h tk o F N
  · intro c z tz w2 w3 hS he h tk F N
    exact done z tz w2 w3 h tk (hS.fin hy he h2) F N
end
end RowsK
-- theorem ite_dpos {c : Prop} [Decidable c] {a b : Prop} (hc : c) (h : a) : if decide c = true then a else b := by rw [if_pos (decide_eq_true hc)]; exact h
-- theorem ite_dneg {c : Prop} [Decidable c] {a b : Prop} (hc : ¬ c) (h : b) : if decide c = true then a else b := by rw [if_neg (by rw [decide_eq_true_eq]; exact hc)]; exact h
abbrev Mine.RetH (y jd : Int) (news : List (Addr × Obj)) (h₀ : Heap) (L : Addr) (m : Str → Option Value) (s : Shared) (Q : Value → Shared → Prop) : Prop :=
  ∀ (y' mo d : Int), Hd y' mo d jd → y ≤ y' → ∀ (D : Addr) (t1 t2 t3 : Tok) (h' : Heap) (tk' : Nat), Fr h₀ L h' m → News h₀ L h' ((D, tup3 (.int y' t1) (.int mo t2) (.int d t3)) :: news) → Q (.ref D) { s with heap := h', toks := tk' }
set_option maxHeartbeats 8000000
theorem Mine.c_ld (w : World) (loose : List Str) (mean : ExcName → Option Value) (mg mb : Str → Option Value) (news : List (Addr × Obj)) (y jd : Int) (t t2 : Tok) (hy : 0 ≤ y) (h1 : nyI y ≤ jd) (h2 : jd ≤ nyI (y + 1)) : Cl w loose mean mg mb 7 188 [.int y t, .int jd t2] news (RetH y jd) := by
  w_on
  unfold Cl Claim
  k_fill
  intros; rename_i hret
  refine wpAny_call ?_
  k_dflt cell_enter
  repeat' (first
    | (k_unfold; (try dsimp only))
    | ((first
    | ((fail_if_success (fail_if_success (with_reducible show @ite _ _ _ _ _))); (first
      | (k_here; k_openite; first
  | (with_reducible refine ite_pos (by with_reducible assumption) ?_)
  | (with_reducible refine ite_neg (by with_reducible assumption) ?_)
  | (with_reducible refine ite_isFalse (by with_reducible assumption) ?_)
  | (with_reducible refine ite_dpos (by with_reducible assumption) ?_)
  | (with_reducible refine ite_dneg (by with_reducible assumption) ?_)
  | (with_reducible refine split_dec ?_ ?_ <;> intro _) | (with_reducible refine split_bool ?_ ?_ <;> intro _))))
    | ((fail_if_success (fail_if_success (with_reducible show wpAny _ _ (PySem.call (Value.ref _) _ _) _ _ _))); (first
      | (k_here; (fail_if_success (fail_if_success (with_reducible show wpAny _ _ (PySem.call (Value.ref 106) [Value.int _ _, Value.int 7 _, Value.int _ _] _) _ _ _))); k_dflt (refine use2 (c_tj7 _ _ _ _ _ _ _ _ _ _ _ ) ?_); k_whole; intro t9 h9 tk9 F9 N9; (try dsimp only); (try k_fold))
      | (k_here; (fail_if_success (fail_if_success (with_reducible show wpAny _ _ (PySem.call (Value.ref 181) _ _) _ _ _))); k_dflt (refine use2 (c_rowG _ _ _ _ _ _ _ _ (by first | with_reducible assumption | omega)) ?_); k_whole; intro D9 n9 l9 nw9 h9 tk9 hRF9 hln9 F9 N9 hs9; (try dsimp only); (try k_fold))
      | (k_here; (fail_if_success (fail_if_success (with_reducible show wpAny _ _ (PySem.call (Value.ref 174) _ _) _ _ _))); k_dflt (refine use2 (c_ny _ _ _ _ _ _ _ _) ?_); k_whole; intro t9 h9 tk9 F9 N9; (try dsimp only); (try k_fold))
      | (k_here; (fail_if_success (fail_if_success (with_reducible show wpAny _ _ (PySem.call (Value.ref 162) _ _) _ _ _))); k_dflt (refine use2 (c_sizes _ _ _ _ _ _ _) ?_); k_whole; intro D9 n9 t1 t2 t3 t4 t5 t6 t7 t8 t9 t10 t11 t12 h9 tk9 F9 N9; (try dsimp only); (try k_fold))
      | (k_here; (fail_if_success (fail_if_success (with_reducible show wpAny _ _ (PySem.call (Value.ref 155) _ _) _ _ _))); k_dflt (refine use2 (c_glong _ _ _ _ _ _ _ _) ?_); k_whole; intro h9 tk9 F9 N9; (try dsimp only); (try k_fold))
      | (k_here; (fail_if_success (fail_if_success (with_reducible show wpAny _ _ (PySem.call (Value.ref 43) _ _) _ _ _))); k_dflt (refine use2 (c_gj _ _ _ _ _ _ _ _ _ _ _ _ (by first | decide | with_reducible assumption) (by first | exact dim_pos _ _ | with_reducible assumption)) ?_); k_whole; intro t9 h9 tk9 F9 N9; (try dsimp only); (try k_fold))
      | (k_here; (fail_if_success (fail_if_success (with_reducible show wpAny _ _ (PySem.call (Value.ref 36) _ _) _ _ _))); k_dflt (refine use2 (c_legal _ _ _ _ _ _ _ _ _ _ _ _ (by assumption) (by assumption)) ?_); k_whole; intro h9 tk9 F9 N9; (try dsimp only); (try k_fold))
      | (k_here; (fail_if_success (fail_if_success (with_reducible show wpAny _ _ (PySem.call (Value.ref 21) _ _) _ _ _))); k_dflt (refine use2 (c_isl _ _ _ _ _ _ _ _) ?_); k_whole; intro h9 tk9 F9 N9; (try dsimp only); (try k_fold))
      | (k_here; (fail_if_success (fail_if_success (with_reducible show wpAny _ _ (PySem.call (Value.ref 169) _ _) _ _ _))); k_dflt (refine use2 (c_long' _ _ _ _ _ _ _ _) ?_); k_whole; intro h9 tk9 F9 N9; (try dsimp only); (try k_fold))
      | (k_here; (fail_if_success (fail_if_success (with_reducible show wpAny _ _ (PySem.call (Value.ref 106) _ _) _ _ _))); k_dflt (refine use2 (c_tj _ _ _ _ _ _ _ _ _ _ _ _ (by first | with_reducible assumption | decide | omega) (by first | with_reducible assumption | decide | omega)) ?_); k_whole; intro t9 h9 tk9 F9 N9; (try dsimp only); (try k_fold))
      | (k_here; (fail_if_success (fail_if_success (with_reducible show wpAny _ _ (PySem.call (Value.ref 64) _ _) _ _ _))); k_dflt (refine use2 (c_ymN _ _ _ _ _ _ _ _ ) ?_); k_whole; intro n9 t9 h9 tk9 hn9 hl9 hu9 F9 N9; (try dsimp only); (try k_fold))
      | (k_here; (fail_if_success (fail_if_success (with_reducible show wpAny _ _ (PySem.call (Value.ref 99) _ _) _ _ _))); k_dflt (refine use2 (c_md _ _ _ _ _ _ _ _ _ _ (by first | with_reducible assumption | decide | omega)) ?_); k_whole; intro t9 h9 tk9 F9 N9; (try dsimp only); (try k_fold))
      | (k_here; (fail_if_success (fail_if_success (with_reducible show wpAny _ _ (PySem.call (Value.ref 92) _ _) _ _ _))); k_dflt (refine use2 (c_ml _ _ _ _ _ _ _ _ _ _ (by first | with_reducible assumption | decide | omega)) ?_); k_whole; intro t9 h9 tk9 F9 N9; (try dsimp only); (try k_fold))
      | (k_here; (fail_if_success (fail_if_success (with_reducible show wpAny _ _ (PySem.call (Value.ref 85) _ _) _ _ _))); k_dflt (refine use2 (c_yd _ _ _ _ _ _ _ _) ?_); k_whole; intro t9 h9 tk9 F9 N9; (try dsimp only); (try k_fold))
      | (k_here; (fail_if_success (fail_if_success (with_reducible show wpAny _ _ (PySem.call (Value.ref 169) _ _) _ _ _))); k_dflt (refine use2 (c_long _ _ _ _ _ _ _ _) ?_); k_whole; intro h9 tk9 F9 N9; (try dsimp only); (try k_fold))
      | (k_here; (fail_if_success (fail_if_success (with_reducible show wpAny _ _ (PySem.call (Value.ref 78) _ _) _ _ _))); k_dflt (refine use2 (c_d2 _ _ _ _ _ _ _ _) ?_); k_whole; intro t9 h9 tk9 F9 N9; (try dsimp only); (try k_fold))
      | (k_here; (fail_if_success (fail_if_success (with_reducible show wpAny _ _ (PySem.call (Value.ref 71) _ _) _ _ _))); k_dflt (refine use2 (c_d1 _ _ _ _ _ _ _ _) ?_); k_whole; intro t9 h9 tk9 F9 N9; (try dsimp only); (try k_fold))
      | (k_here; (fail_if_success (fail_if_success (with_reducible show wpAny _ _ (PySem.call (Value.ref 64) _ _) _ _ _))); k_dflt (refine use2 (c_ym _ _ _ _ _ _ _ _) ?_); k_whole; intro t9 h9 tk9 F9 N9; (try dsimp only); (try k_fold))
      | (k_here; (fail_if_success (fail_if_success (with_reducible show wpAny _ _ (PySem.call (Value.ref 57) _ _) _ _ _))); k_dflt (refine use2 (c_leap _ _ _ _ _ _ _ _) ?_); k_whole; intro h9 tk9 F9 N9; (try dsimp only); (try k_fold))
      | (k_here; (fail_if_success (fail_if_success (with_reducible show wpAny _ _ (PySem.call (Value.ref 28) _ _) _ _ _))); k_dflt (refine use2 (c_mid _ _ _ _ _ _ _ _) ?_); k_whole; intro t9 h9 tk9 F9 N9; (try dsimp only); (try k_fold))))
    | ((fail_if_success (fail_if_success (with_reducible show wpAny _ _ (exec (Stmt.For (Expr.Tuple _ _ _) (Expr.Call _ _ _ _) _ _ _) _) _ _ _))); (first
      | (k_here; (rename Fr _ _ _ _ => lF'); (with_unfolding_all refine' For_turns lF' ?_; k_whole))))
    | ((fail_if_success (fail_if_success (with_reducible show wpAny _ _ (eval (Expr.Call _ _ _ _) _) _ _ _))); (first
      | (k_here; (with_reducible show wpAny _ _ (eval (Expr.Call (Expr.Name _ _) _ [] _) _) _ _ _); with_reducible refine Call_ ?_)))
    | ((fail_if_success (fail_if_success (with_reducible show wpAny _ _ (pyIter (Value.ref _)) _ _ _))); (first
      | (k_here; (fail_if_success (fail_if_success (with_reducible show wpAny _ _ (pyIter (Value.ref _)) (fun it s₂ => TurnsAt _ _ _ _ _ _ _ _ _ it s₂) _ _))); (rename Fr _ _ _ _ => lF'); (rename News _ _ _ _ => lN'); (rename RF _ _ _ _ => lR'); (with_unfolding_all refine iter_listTurns (by rfl) lF' lN' (List.Mem.head _) (by rfl) (by rfl) ?_); clear lF'; intro i' l1; (k_dflt (refine turnsK (Str.ofString "rest") (Str.ofString "month") (Str.ofString "size") (by assumption) (by assumption) (by assumption) lR' rfl l1 (fun W' hW' hl' hk' a' mo' c' z' t' u' tz' w2' w3' R' q1' q2' hR' h' tk' o' F' N' => ?_) (fun z' tz' w2' w3' h' tk' q1' F' N' => ?_))); (all_goals ((try dsimp only); (try k_fold))))))
    | ((fail_if_success (fail_if_success (with_reducible show UnrEndW ..))); (first
      | (k_here; k_dflt (refine turnEndR (S := SK _ _) (by assumption) (by assumption) (by assumption) (by assumption) (by assumption) (by repeat (first | exact List.Mem.head _ | apply List.Mem.tail)) (by intro p hp; repeat (first | exact hp | refine List.mem_cons_of_mem _ ?_)) (by (intro x h1 h2 h3; simp only [if_neg h1, if_neg h2, if_neg h3])) rfl (SK.next (by assumption) (by assumption))))))); (try dsimp only))
    | (walk1; (try dsimp only)) | fail "no step")
  all_goals (
    refine' hret _ _ _ ?gd ?gl _ _ _ _ _ _ ?hF ?hN
    (case gd => first | assumption | exact (by assumption : _ < _ → Hd _ _ _ _) (by assumption))
    (case gl => omega)
    (case hF => k_asm)
    (case hN =>
      refine' cb_drop ?cbN ?cbS
      (case cbN => k_asm)
      (case cbS => (refine' List.forall_mem_cons.mpr ⟨(by k_mem), ?_⟩; (intro p hp; repeat (first | exact subTrans (by assumption) (by assumption) p hp | exact subTrans (fun _ h => h) (by assumption) p hp | refine List.mem_cons_of_mem _ ?_))))))
-- theorem ite_dpos {c : Prop} [Decidable c] {a b : Prop} (hc : c) (h : a) : if decide c = true then a else b := by rw [if_pos (decide_eq_true hc)]; exact h
-- theorem ite_dneg {c : Prop} [Decidable c] {a b : Prop} (hc : ¬ c) (h : b) : if decide c = true then a else b := by rw [if_neg (by rw [decide_eq_true_eq]; exact hc)]; exact h
theorem Mine.c_civ (w : World) (loose : List Str) (mean : ExcName → Option Value) (mg mb : Str → Option Value) (news : List (Addr × Obj)) (y mo d : Int) (t t2 t3 : Tok) : Cl w loose mean mg mb 2 120 [.int y t, .int mo t2, .int d t3] news (RetT3 (if 7 ≤ mo then y + 1 else y) mo d) := by
  w_on
  unfold Cl Claim
  k_fill
  intros; rename_i hret
  refine wpAny_call ?_
  k_dflt cell_enter
  repeat' (first
    | (k_unfold; (try dsimp only))
    | ((first
    | ((fail_if_success (fail_if_success (with_reducible show @ite _ _ _ _ _))); (first
      | (k_here; k_openite; first
  | (with_reducible refine ite_pos (by with_reducible assumption) ?_)
  | (with_reducible refine ite_neg (by with_reducible assumption) ?_)
  | (with_reducible refine ite_isFalse (by with_reducible assumption) ?_)
  | (with_reducible refine ite_dpos (by with_reducible assumption) ?_)
  | (with_reducible refine ite_dneg (by with_reducible assumption) ?_)
  | (with_reducible refine split_dec ?_ ?_ <;> intro _) | (with_reducible refine split_bool ?_ ?_ <;> intro _))))
    | ((fail_if_success (fail_if_success (with_reducible show wpAny _ _ (PySem.call (Value.ref _) _ _) _ _ _))); (first
      | (k_here; (fail_if_success (fail_if_success (with_reducible show wpAny _ _ (PySem.call (Value.ref 106) [Value.int _ _, Value.int 7 _, Value.int _ _] _) _ _ _))); k_dflt (refine use2 (c_tj7 _ _ _ _ _ _ _ _ _ _ _ ) ?_); k_whole; intro t9 h9 tk9 F9 N9; (try dsimp only); (try k_fold))
      | (k_here; (fail_if_success (fail_if_success (with_reducible show wpAny _ _ (PySem.call (Value.ref 181) _ _) _ _ _))); k_dflt (refine use2 (c_rowG _ _ _ _ _ _ _ _ (by first | with_reducible assumption | omega)) ?_); k_whole; intro D9 n9 l9 nw9 h9 tk9 hRF9 hln9 F9 N9 hs9; (try dsimp only); (try k_fold))
      | (k_here; (fail_if_success (fail_if_success (with_reducible show wpAny _ _ (PySem.call (Value.ref 162) _ _) _ _ _))); k_dflt (refine use2 (c_sizes _ _ _ _ _ _ _) ?_); k_whole; intro D9 n9 t1 t2 t3 t4 t5 t6 t7 t8 t9 t10 t11 t12 h9 tk9 F9 N9; (try dsimp only); (try k_fold))
      | (k_here; (fail_if_success (fail_if_success (with_reducible show wpAny _ _ (PySem.call (Value.ref 155) _ _) _ _ _))); k_dflt (refine use2 (c_glong _ _ _ _ _ _ _ _) ?_); k_whole; intro h9 tk9 F9 N9; (try dsimp only); (try k_fold))
      | (k_here; (fail_if_success (fail_if_success (with_reducible show wpAny _ _ (PySem.call (Value.ref 43) _ _) _ _ _))); k_dflt (refine use2 (c_gj _ _ _ _ _ _ _ _ _ _ _ _ (by first | decide | with_reducible assumption) (by first | exact dim_pos _ _ | with_reducible assumption)) ?_); k_whole; intro t9 h9 tk9 F9 N9; (try dsimp only); (try k_fold))
      | (k_here; (fail_if_success (fail_if_success (with_reducible show wpAny _ _ (PySem.call (Value.ref 36) _ _) _ _ _))); k_dflt (refine use2 (c_legal _ _ _ _ _ _ _ _ _ _ _ _ (by assumption) (by assumption)) ?_); k_whole; intro h9 tk9 F9 N9; (try dsimp only); (try k_fold))
      | (k_here; (fail_if_success (fail_if_success (with_reducible show wpAny _ _ (PySem.call (Value.ref 21) _ _) _ _ _))); k_dflt (refine use2 (c_isl _ _ _ _ _ _ _ _) ?_); k_whole; intro h9 tk9 F9 N9; (try dsimp only); (try k_fold))
      | (k_here; (fail_if_success (fail_if_success (with_reducible show wpAny _ _ (PySem.call (Value.ref 169) _ _) _ _ _))); k_dflt (refine use2 (c_long' _ _ _ _ _ _ _ _) ?_); k_whole; intro h9 tk9 F9 N9; (try dsimp only); (try k_fold))
      | (k_here; (fail_if_success (fail_if_success (with_reducible show wpAny _ _ (PySem.call (Value.ref 174) _ _) _ _ _))); k_dflt (refine use2 (c_ny _ _ _ _ _ _ _ _) ?_); k_whole; intro t9 h9 tk9 F9 N9; (try dsimp only); (try k_fold))
      | (k_here; (fail_if_success (fail_if_success (with_reducible show wpAny _ _ (PySem.call (Value.ref 106) _ _) _ _ _))); k_dflt (refine use2 (c_tj _ _ _ _ _ _ _ _ _ _ _ _ (by first | with_reducible assumption | decide | omega) (by first | with_reducible assumption | decide | omega)) ?_); k_whole; intro t9 h9 tk9 F9 N9; (try dsimp only); (try k_fold))
      | (k_here; (fail_if_success (fail_if_success (with_reducible show wpAny _ _ (PySem.call (Value.ref 64) _ _) _ _ _))); k_dflt (refine use2 (c_ymN _ _ _ _ _ _ _ _ ) ?_); k_whole; intro n9 t9 h9 tk9 hn9 hl9 hu9 F9 N9; (try dsimp only); (try k_fold))
      | (k_here; (fail_if_success (fail_if_success (with_reducible show wpAny _ _ (PySem.call (Value.ref 99) _ _) _ _ _))); k_dflt (refine use2 (c_md _ _ _ _ _ _ _ _ _ _ (by first | with_reducible assumption | decide | omega)) ?_); k_whole; intro t9 h9 tk9 F9 N9; (try dsimp only); (try k_fold))
      | (k_here; (fail_if_success (fail_if_success (with_reducible show wpAny _ _ (PySem.call (Value.ref 92) _ _) _ _ _))); k_dflt (refine use2 (c_ml _ _ _ _ _ _ _ _ _ _ (by first | with_reducible assumption | decide | omega)) ?_); k_whole; intro t9 h9 tk9 F9 N9; (try dsimp only); (try k_fold))
      | (k_here; (fail_if_success (fail_if_success (with_reducible show wpAny _ _ (PySem.call (Value.ref 85) _ _) _ _ _))); k_dflt (refine use2 (c_yd _ _ _ _ _ _ _ _) ?_); k_whole; intro t9 h9 tk9 F9 N9; (try dsimp only); (try k_fold))
      | (k_here; (fail_if_success (fail_if_success (with_reducible show wpAny _ _ (PySem.call (Value.ref 169) _ _) _ _ _))); k_dflt (refine use2 (c_long _ _ _ _ _ _ _ _) ?_); k_whole; intro h9 tk9 F9 N9; (try dsimp only); (try k_fold))
      | (k_here; (fail_if_success (fail_if_success (with_reducible show wpAny _ _ (PySem.call (Value.ref 78) _ _) _ _ _))); k_dflt (refine use2 (c_d2 _ _ _ _ _ _ _ _) ?_); k_whole; intro t9 h9 tk9 F9 N9; (try dsimp only); (try k_fold))
      | (k_here; (fail_if_success (fail_if_success (with_reducible show wpAny _ _ (PySem.call (Value.ref 71) _ _) _ _ _))); k_dflt (refine use2 (c_d1 _ _ _ _ _ _ _ _) ?_); k_whole; intro t9 h9 tk9 F9 N9; (try dsimp only); (try k_fold))
      | (k_here; (fail_if_success (fail_if_success (with_reducible show wpAny _ _ (PySem.call (Value.ref 64) _ _) _ _ _))); k_dflt (refine use2 (c_ym _ _ _ _ _ _ _ _) ?_); k_whole; intro t9 h9 tk9 F9 N9; (try dsimp only); (try k_fold))
      | (k_here; (fail_if_success (fail_if_success (with_reducible show wpAny _ _ (PySem.call (Value.ref 57) _ _) _ _ _))); k_dflt (refine use2 (c_leap _ _ _ _ _ _ _ _) ?_); k_whole; intro h9 tk9 F9 N9; (try dsimp only); (try k_fold))
      | (k_here; (fail_if_success (fail_if_success (with_reducible show wpAny _ _ (PySem.call (Value.ref 28) _ _) _ _ _))); k_dflt (refine use2 (c_mid _ _ _ _ _ _ _ _) ?_); k_whole; intro t9 h9 tk9 F9 N9; (try dsimp only); (try k_fold))))
    | ((fail_if_success (fail_if_success (with_reducible show wpAny _ _ (eval (Expr.Call _ _ _ _) _) _ _ _))); (first
      | (k_here; (with_reducible show wpAny _ _ (eval (Expr.Call (Expr.Name _ _) _ [] _) _) _ _ _); with_reducible refine Call_ ?_)))); (try dsimp only))
    | (walk1; (try dsimp only)) | fail "no step")
  all_goals (
    (first | (rw [RetT3, if_pos (by assumption : (7 : Int) ≤ mo)] at hret) | (rw [RetT3, if_neg (by assumption : ¬ (7 : Int) ≤ mo)] at hret))
    refine' hret _ _ _ _ _ _ ?hF ?hN
    (case hF => k_asm)
    (case hN =>
      refine' cb_drop ?cbN ?cbS
      (case cbN => k_asm)
      (case cbS => (refine' List.forall_mem_cons.mpr ⟨(by k_mem), ?_⟩; (intro p hp; repeat (first | with_reducible assumption | refine List.mem_cons_of_mem _ ?_))))))
theorem Mine.c_fg (w : World) (loose : List Str) (mean : ExcName → Option Value) (mg mb : Str → Option Value) (news : List (Addr × Obj)) (gy gm gd y mo d jd : Int) (t t2 t3 : Tok) (G : Gd gy gm gd jd) (H : Hd y mo d jd) (hy : 1 ≤ y) : Cl w loose mean mg mb 11 127 [.int gy t, .int gm t2, .int gd t3] news (RetT3 y mo d) := by
  obtain ⟨g1, g2, g3, g4, g5⟩ := G
  subst g5
  have g3 : 0 < gd := by omega
  w_on
  unfold Cl Claim
  k_fill
  intros; rename_i hret
  refine wpAny_call ?_
  k_dflt cell_enter
  repeat' (first
    | (k_unfold; (try dsimp only))
    | ((first
    | ((fail_if_success (fail_if_success (with_reducible show @ite _ _ _ _ _))); (first
      | (k_here; k_openite; first
  | (with_reducible refine ite_pos (by with_reducible assumption) ?_)
  | (with_reducible refine ite_neg (by with_reducible assumption) ?_)
  | (with_reducible refine ite_isFalse (by with_reducible assumption) ?_)
  | (with_reducible refine ite_dpos (by with_reducible assumption) ?_)
  | (with_reducible refine ite_dneg (by with_reducible assumption) ?_)
  | (with_reducible refine split_dec ?_ ?_ <;> intro _) | (with_reducible refine split_bool ?_ ?_ <;> intro _))))
    | ((fail_if_success (fail_if_success (with_reducible show wpAny _ _ (PySem.call (Value.ref _) _ _) _ _ _))); (first
      | (k_here; (fail_if_success (fail_if_success (with_reducible show wpAny _ _ (PySem.call (Value.ref 106) [Value.int _ _, Value.int 7 _, Value.int _ _] _) _ _ _))); k_dflt (refine use2 (c_tj7 _ _ _ _ _ _ _ _ _ _ _ ) ?_); k_whole; intro t9 h9 tk9 F9 N9; (try dsimp only); (try k_fold))
      | (k_here; (fail_if_success (fail_if_success (with_reducible show wpAny _ _ (PySem.call (Value.ref 50) _ _) _ _ _))); k_dflt (refine use2 (c_fj _ _ _ _ _ _ _ _) ?_); k_whole; (first | ((rename Gd _ _ _ _ => gO'); intro y9 mo9 d9 hG9 D9 t1 t2 t3 h9 tk9 F9 N9; obtain ⟨e1', e2', e3'⟩ := Gd.uniq gO' hG9; subst e1'; subst e2'; subst e3') | (intro y9 mo9 d9 hG9 D9 t1 t2 t3 h9 tk9 F9 N9)); (try dsimp only); (try k_fold))
      | (k_here; (fail_if_success (fail_if_success (with_reducible show wpAny _ _ (PySem.call (Value.ref 113) _ _) _ _ _))); k_dflt (refine use2 (c_fjh _ _ _ _ _ _ _ _ _ _ _ (by assumption) (by first | with_reducible assumption | omega)) ?_); k_whole; intro D9 t1 t2 t3 h9 tk9 F9 N9; (try dsimp only); (try k_fold))
      | (k_here; (fail_if_success (fail_if_success (with_reducible show wpAny _ _ (PySem.call (Value.ref 43) _ _) _ _ _))); k_dflt (refine use2 (c_gj _ _ _ _ _ _ _ _ _ _ _ _ (by first | decide | with_reducible assumption) (by first | exact dim_pos _ _ | with_reducible assumption)) ?_); k_whole; intro t9 h9 tk9 F9 N9; (try dsimp only); (try k_fold))
      | (k_here; (fail_if_success (fail_if_success (with_reducible show wpAny _ _ (PySem.call (Value.ref 106) _ _) _ _ _))); k_dflt (refine use2 (c_tj _ _ _ _ _ _ _ _ _ _ _ _ (by first | with_reducible assumption | decide | omega) (by first | with_reducible assumption | decide | omega)) ?_); k_whole; intro t9 h9 tk9 F9 N9; (try dsimp only); (try k_fold))
      | (k_here; (fail_if_success (fail_if_success (with_reducible show wpAny _ _ (PySem.call (Value.ref 181) _ _) _ _ _))); k_dflt (refine use2 (c_rowG _ _ _ _ _ _ _ _ (by first | with_reducible assumption | omega)) ?_); k_whole; intro D9 n9 l9 nw9 h9 tk9 hRF9 hln9 F9 N9 hs9; (try dsimp only); (try k_fold))
      | (k_here; (fail_if_success (fail_if_success (with_reducible show wpAny _ _ (PySem.call (Value.ref 162) _ _) _ _ _))); k_dflt (refine use2 (c_sizes _ _ _ _ _ _ _) ?_); k_whole; intro D9 n9 t1 t2 t3 t4 t5 t6 t7 t8 t9 t10 t11 t12 h9 tk9 F9 N9; (try dsimp only); (try k_fold))
      | (k_here; (fail_if_success (fail_if_success (with_reducible show wpAny _ _ (PySem.call (Value.ref 155) _ _) _ _ _))); k_dflt (refine use2 (c_glong _ _ _ _ _ _ _ _) ?_); k_whole; intro h9 tk9 F9 N9; (try dsimp only); (try k_fold))
      | (k_here; (fail_if_success (fail_if_success (with_reducible show wpAny _ _ (PySem.call (Value.ref 36) _ _) _ _ _))); k_dflt (refine use2 (c_legal _ _ _ _ _ _ _ _ _ _ _ _ (by assumption) (by assumption)) ?_); k_whole; intro h9 tk9 F9 N9; (try dsimp only); (try k_fold))
      | (k_here; (fail_if_success (fail_if_success (with_reducible show wpAny _ _ (PySem.call (Value.ref 21) _ _) _ _ _))); k_dflt (refine use2 (c_isl _ _ _ _ _ _ _ _) ?_); k_whole; intro h9 tk9 F9 N9; (try dsimp only); (try k_fold))
      | (k_here; (fail_if_success (fail_if_success (with_reducible show wpAny _ _ (PySem.call (Value.ref 169) _ _) _ _ _))); k_dflt (refine use2 (c_long' _ _ _ _ _ _ _ _) ?_); k_whole; intro h9 tk9 F9 N9; (try dsimp only); (try k_fold))
      | (k_here; (fail_if_success (fail_if_success (with_reducible show wpAny _ _ (PySem.call (Value.ref 174) _ _) _ _ _))); k_dflt (refine use2 (c_ny _ _ _ _ _ _ _ _) ?_); k_whole; intro t9 h9 tk9 F9 N9; (try dsimp only); (try k_fold))
      | (k_here; (fail_if_success (fail_if_success (with_reducible show wpAny _ _ (PySem.call (Value.ref 64) _ _) _ _ _))); k_dflt (refine use2 (c_ymN _ _ _ _ _ _ _ _ ) ?_); k_whole; intro n9 t9 h9 tk9 hn9 hl9 hu9 F9 N9; (try dsimp only); (try k_fold))
      | (k_here; (fail_if_success (fail_if_success (with_reducible show wpAny _ _ (PySem.call (Value.ref 99) _ _) _ _ _))); k_dflt (refine use2 (c_md _ _ _ _ _ _ _ _ _ _ (by first | with_reducible assumption | decide | omega)) ?_); k_whole; intro t9 h9 tk9 F9 N9; (try dsimp only); (try k_fold))
      | (k_here; (fail_if_success (fail_if_success (with_reducible show wpAny _ _ (PySem.call (Value.ref 92) _ _) _ _ _))); k_dflt (refine use2 (c_ml _ _ _ _ _ _ _ _ _ _ (by first | with_reducible assumption | decide | omega)) ?_); k_whole; intro t9 h9 tk9 F9 N9; (try dsimp only); (try k_fold))
      | (k_here; (fail_if_success (fail_if_success (with_reducible show wpAny _ _ (PySem.call (Value.ref 85) _ _) _ _ _))); k_dflt (refine use2 (c_yd _ _ _ _ _ _ _ _) ?_); k_whole; intro t9 h9 tk9 F9 N9; (try dsimp only); (try k_fold))
      | (k_here; (fail_if_success (fail_if_success (with_reducible show wpAny _ _ (PySem.call (Value.ref 169) _ _) _ _ _))); k_dflt (refine use2 (c_long _ _ _ _ _ _ _ _) ?_); k_whole; intro h9 tk9 F9 N9; (try dsimp only); (try k_fold))
      | (k_here; (fail_if_success (fail_if_success (with_reducible show wpAny _ _ (PySem.call (Value.ref 78) _ _) _ _ _))); k_dflt (refine use2 (c_d2 _ _ _ _ _ _ _ _) ?_); k_whole; intro t9 h9 tk9 F9 N9; (try dsimp only); (try k_fold))
      | (k_here; (fail_if_success (fail_if_success (with_reducible show wpAny _ _ (PySem.call (Value.ref 71) _ _) _ _ _))); k_dflt (refine use2 (c_d1 _ _ _ _ _ _ _ _) ?_); k_whole; intro t9 h9 tk9 F9 N9; (try dsimp only); (try k_fold))
      | (k_here; (fail_if_success (fail_if_success (with_reducible show wpAny _ _ (PySem.call (Value.ref 64) _ _) _ _ _))); k_dflt (refine use2 (c_ym _ _ _ _ _ _ _ _) ?_); k_whole; intro t9 h9 tk9 F9 N9; (try dsimp only); (try k_fold))
      | (k_here; (fail_if_success (fail_if_success (with_reducible show wpAny _ _ (PySem.call (Value.ref 57) _ _) _ _ _))); k_dflt (refine use2 (c_leap _ _ _ _ _ _ _ _) ?_); k_whole; intro h9 tk9 F9 N9; (try dsimp only); (try k_fold))
      | (k_here; (fail_if_success (fail_if_success (with_reducible show wpAny _ _ (PySem.call (Value.ref 28) _ _) _ _ _))); k_dflt (refine use2 (c_mid _ _ _ _ _ _ _ _) ?_); k_whole; intro t9 h9 tk9 F9 N9; (try dsimp only); (try k_fold))))
    | ((fail_if_success (fail_if_success (with_reducible show wpAny _ _ (eval (Expr.Call _ _ _ _) _) _ _ _))); (first
      | (k_here; (with_reducible show wpAny _ _ (eval (Expr.Call (Expr.Name _ _) _ [] _) _) _ _ _); with_reducible refine Call_ ?_)))); (try dsimp only))
    | (walk1; (try dsimp only)) | fail "no step")
  all_goals (
    refine' hret _ _ _ _ _ _ ?hF ?hN
    (case hF => k_asm)
    (case hN =>
      refine' cb_drop ?cbN ?cbS
      (case cbN => k_asm)
      (case cbS => (refine' List.forall_mem_cons.mpr ⟨(by k_mem), ?_⟩; (intro p hp; repeat (first | with_reducible assumption | refine List.mem_cons_of_mem _ ?_))))))
theorem Mine.c_tg (w : World) (loose : List Str) (mean : ExcName → Option Value) (mg mb : Str → Option Value) (news : List (Addr × Obj)) (y mo d jd : Int) (t t2 t3 : Tok) (H : Hd y mo d jd) : Cl w loose mean mg mb 11 134 [.int y t, .int mo t2, .int d t3] news (RetG jd) := by
  have h0 := Hd.one H
  have h13 : ¬ 13 < mo := by have := H.2.1; rcases ym_range y with ⟨q, _⟩ | ⟨q, _⟩ <;> omega
  obtain ⟨_, _, _, _, g5⟩ := H
  subst g5
  w_on
  unfold Cl Claim
  k_fill
  intros; rename_i hret
  refine wpAny_call ?_
  k_dflt cell_enter
  repeat' (first
    | (k_unfold; (try dsimp only))
    | ((first
    | ((fail_if_success (fail_if_success (with_reducible show @ite _ _ _ _ _))); (first
      | (k_here; k_openite; first
  | (with_reducible refine ite_pos (by with_reducible assumption) ?_)
  | (with_reducible refine ite_neg (by with_reducible assumption) ?_)
  | (with_reducible refine ite_isFalse (by with_reducible assumption) ?_)
  | (with_reducible refine ite_dpos (by with_reducible assumption) ?_)
  | (with_reducible refine ite_dneg (by with_reducible assumption) ?_)
  | (with_reducible refine split_dec ?_ ?_ <;> intro _) | (with_reducible refine split_bool ?_ ?_ <;> intro _))))
    | ((fail_if_success (fail_if_success (with_reducible show wpAny _ _ (PySem.call (Value.ref _) _ _) _ _ _))); (first
      | (k_here; (fail_if_success (fail_if_success (with_reducible show wpAny _ _ (PySem.call (Value.ref 106) [Value.int _ _, Value.int 7 _, Value.int _ _] _) _ _ _))); k_dflt (refine use2 (c_tj7 _ _ _ _ _ _ _ _ _ _ _ ) ?_); k_whole; intro t9 h9 tk9 F9 N9; (try dsimp only); (try k_fold))
      | (k_here; (fail_if_success (fail_if_success (with_reducible show wpAny _ _ (PySem.call (Value.ref 50) _ _) _ _ _))); k_dflt (refine use2 (c_fj _ _ _ _ _ _ _ _) ?_); k_whole; (first | ((rename Gd _ _ _ _ => gO'); intro y9 mo9 d9 hG9 D9 t1 t2 t3 h9 tk9 F9 N9; obtain ⟨e1', e2', e3'⟩ := Gd.uniq gO' hG9; subst e1'; subst e2'; subst e3') | (intro y9 mo9 d9 hG9 D9 t1 t2 t3 h9 tk9 F9 N9)); (try dsimp only); (try k_fold))
      | (k_here; (fail_if_success (fail_if_success (with_reducible show wpAny _ _ (PySem.call (Value.ref 113) _ _) _ _ _))); k_dflt (refine use2 (c_fjh _ _ _ _ _ _ _ _ _ _ _ (by assumption) (by first | with_reducible assumption | omega)) ?_); k_whole; intro D9 t1 t2 t3 h9 tk9 F9 N9; (try dsimp only); (try k_fold))
      | (k_here; (fail_if_success (fail_if_success (with_reducible show wpAny _ _ (PySem.call (Value.ref 43) _ _) _ _ _))); k_dflt (refine use2 (c_gj _ _ _ _ _ _ _ _ _ _ _ _ (by first | decide | with_reducible assumption) (by first | exact dim_pos _ _ | with_reducible assumption)) ?_); k_whole; intro t9 h9 tk9 F9 N9; (try dsimp only); (try k_fold))
      | (k_here; (fail_if_success (fail_if_success (with_reducible show wpAny _ _ (PySem.call (Value.ref 106) _ _) _ _ _))); k_dflt (refine use2 (c_tj _ _ _ _ _ _ _ _ _ _ _ _ (by first | with_reducible assumption | decide | omega) (by first | with_reducible assumption | decide | omega)) ?_); k_whole; intro t9 h9 tk9 F9 N9; (try dsimp only); (try k_fold))
      | (k_here; (fail_if_success (fail_if_success (with_reducible show wpAny _ _ (PySem.call (Value.ref 181) _ _) _ _ _))); k_dflt (refine use2 (c_rowG _ _ _ _ _ _ _ _ (by first | with_reducible assumption | omega)) ?_); k_whole; intro D9 n9 l9 nw9 h9 tk9 hRF9 hln9 F9 N9 hs9; (try dsimp only); (try k_fold))
      | (k_here; (fail_if_success (fail_if_success (with_reducible show wpAny _ _ (PySem.call (Value.ref 162) _ _) _ _ _))); k_dflt (refine use2 (c_sizes _ _ _ _ _ _ _) ?_); k_whole; intro D9 n9 t1 t2 t3 t4 t5 t6 t7 t8 t9 t10 t11 t12 h9 tk9 F9 N9; (try dsimp only); (try k_fold))
      | (k_here; (fail_if_success (fail_if_success (with_reducible show wpAny _ _ (PySem.call (Value.ref 155) _ _) _ _ _))); k_dflt (refine use2 (c_glong _ _ _ _ _ _ _ _) ?_); k_whole; intro h9 tk9 F9 N9; (try dsimp only); (try k_fold))
      | (k_here; (fail_if_success (fail_if_success (with_reducible show wpAny _ _ (PySem.call (Value.ref 36) _ _) _ _ _))); k_dflt (refine use2 (c_legal _ _ _ _ _ _ _ _ _ _ _ _ (by assumption) (by assumption)) ?_); k_whole; intro h9 tk9 F9 N9; (try dsimp only); (try k_fold))
      | (k_here; (fail_if_success (fail_if_success (with_reducible show wpAny _ _ (PySem.call (Value.ref 21) _ _) _ _ _))); k_dflt (refine use2 (c_isl _ _ _ _ _ _ _ _) ?_); k_whole; intro h9 tk9 F9 N9; (try dsimp only); (try k_fold))
      | (k_here; (fail_if_success (fail_if_success (with_reducible show wpAny _ _ (PySem.call (Value.ref 169) _ _) _ _ _))); k_dflt (refine use2 (c_long' _ _ _ _ _ _ _ _) ?_); k_whole; intro h9 tk9 F9 N9; (try dsimp only); (try k_fold))
      | (k_here; (fail_if_success (fail_if_success (with_reducible show wpAny _ _ (PySem.call (Value.ref 174) _ _) _ _ _))); k_dflt (refine use2 (c_ny _ _ _ _ _ _ _ _) ?_); k_whole; intro t9 h9 tk9 F9 N9; (try dsimp only); (try k_fold))
      | (k_here; (fail_if_success (fail_if_success (with_reducible show wpAny _ _ (PySem.call (Value.ref 64) _ _) _ _ _))); k_dflt (refine use2 (c_ymN _ _ _ _ _ _ _ _ ) ?_); k_whole; intro n9 t9 h9 tk9 hn9 hl9 hu9 F9 N9; (try dsimp only); (try k_fold))
      | (k_here; (fail_if_success (fail_if_success (with_reducible show wpAny _ _ (PySem.call (Value.ref 99) _ _) _ _ _))); k_dflt (refine use2 (c_md _ _ _ _ _ _ _ _ _ _ (by first | with_reducible assumption | decide | omega)) ?_); k_whole; intro t9 h9 tk9 F9 N9; (try dsimp only); (try k_fold))
      | (k_here; (fail_if_success (fail_if_success (with_reducible show wpAny _ _ (PySem.call (Value.ref 92) _ _) _ _ _))); k_dflt (refine use2 (c_ml _ _ _ _ _ _ _ _ _ _ (by first | with_reducible assumption | decide | omega)) ?_); k_whole; intro t9 h9 tk9 F9 N9; (try dsimp only); (try k_fold))
      | (k_here; (fail_if_success (fail_if_success (with_reducible show wpAny _ _ (PySem.call (Value.ref 85) _ _) _ _ _))); k_dflt (refine use2 (c_yd _ _ _ _ _ _ _ _) ?_); k_whole; intro t9 h9 tk9 F9 N9; (try dsimp only); (try k_fold))
      | (k_here; (fail_if_success (fail_if_success (with_reducible show wpAny _ _ (PySem.call (Value.ref 169) _ _) _ _ _))); k_dflt (refine use2 (c_long _ _ _ _ _ _ _ _) ?_); k_whole; intro h9 tk9 F9 N9; (try dsimp only); (try k_fold))
      | (k_here; (fail_if_success (fail_if_success (with_reducible show wpAny _ _ (PySem.call (Value.ref 78) _ _) _ _ _))); k_dflt (refine use2 (c_d2 _ _ _ _ _ _ _ _) ?_); k_whole; intro t9 h9 tk9 F9 N9; (try dsimp only); (try k_fold))
      | (k_here; (fail_if_success (fail_if_success (with_reducible show wpAny _ _ (PySem.call (Value.ref 71) _ _) _ _ _))); k_dflt (refine use2 (c_d1 _ _ _ _ _ _ _ _) ?_); k_whole; intro t9 h9 tk9 F9 N9; (try dsimp only); (try k_fold))
      | (k_here; (fail_if_success (fail_if_success (with_reducible show wpAny _ _ (PySem.call (Value.ref 64) _ _) _ _ _))); k_dflt (refine use2 (c_ym _ _ _ _ _ _ _ _) ?_); k_whole; intro t9 h9 tk9 F9 N9; (try dsimp only); (try k_fold))
      | (k_here; (fail_if_success (fail_if_success (with_reducible show wpAny _ _ (PySem.call (Value.ref 57) _ _) _ _ _))); k_dflt (refine use2 (c_leap _ _ _ _ _ _ _ _) ?_); k_whole; intro h9 tk9 F9 N9; (try dsimp only); (try k_fold))
      | (k_here; (fail_if_success (fail_if_success (with_reducible show wpAny _ _ (PySem.call (Value.ref 28) _ _) _ _ _))); k_dflt (refine use2 (c_mid _ _ _ _ _ _ _ _) ?_); k_whole; intro t9 h9 tk9 F9 N9; (try dsimp only); (try k_fold))))
    | ((fail_if_success (fail_if_success (with_reducible show wpAny _ _ (eval (Expr.Call _ _ _ _) _) _ _ _))); (first
      | (k_here; (with_reducible show wpAny _ _ (eval (Expr.Call (Expr.Name _ _) _ [] _) _) _ _ _); with_reducible refine Call_ ?_)))); (try dsimp only))
    | (walk1; (try dsimp only)) | fail "no step")
  all_goals (
    refine' hret _ _ _ (by assumption) _ _ _ _ _ _ ?hF ?hN
    (case hF => k_asm)
    (case hN =>
      refine' cb_drop ?cbN ?cbS
      (case cbN => k_asm)
      (case cbS => (refine' List.forall_mem_cons.mpr ⟨(by k_mem), ?_⟩; (intro p hp; repeat (first | with_reducible assumption | refine List.mem_cons_of_mem _ ?_))))))
section CompX
set_option maxHeartbeats 4000000
/-- l tells months one behind the other; their lengths lead from c to e -/
def Mine.RP (y : Int) (W : List (Addr × Obj)) : Int → List Value → Int → Prop
  | c, [], e => e = c
  | c, v :: r, e => ∃ (a : Addr) (mo : Int) (t u : Tok), v = .ref a ∧ (a, tup2 (.int mo t) (.int (mlI y mo) u)) ∈ W ∧ RP y W (c + mlI y mo) r e
theorem Mine.RF.le {y : Int} {W : List (Addr × Obj)} : ∀ {l : List Value} {c : Int}, RF y W c l → c ≤ nyI (y + 1) - nyI y
  | [], c, h => by have : nyI (y + 1) = nyI y + c := h; omega
  | v :: r, c, h => by
    obtain ⟨a, mo, t, u, _, _, _, h⟩ := h
    have := RF.le h; have := ml_pos y mo; omega
theorem Mine.RF.take {y : Int} {W W' : List (Addr × Obj)} (hW : ∀ p ∈ W, p ∈ W') : ∀ {l : List Value} {c : Int} (n : Nat), RF y W c l → ∃ e, RP y W' c (l.take n) e ∧ c ≤ e ∧ e ≤ nyI (y + 1) - nyI y ∧ (0 < n → l ≠ [] → c < e)
  | l, c, 0, h => ⟨c, by rw [List.take_zero]; rfl, Int.le_refl _, RF.le h, fun q => absurd q (Nat.lt_irrefl _)⟩
  | [], c, n + 1, h => ⟨c, rfl, Int.le_refl _, RF.le h, fun _ q => absurd rfl q⟩
  | v :: r, c, n + 1, h => by
    obtain ⟨a, mo, t, u, e, hm, hI, h⟩ := h
    obtain ⟨x, h1, h2, h3, _⟩ := RF.take hW n h
    have := ml_pos y mo
    exact ⟨x, ⟨a, mo, t, u, e, hW _ hm, h1⟩, by omega, h3, fun _ _ => by omega⟩
theorem Mine.pick_upto (vs : List Value) {y : Int} (h : 0 ≤ y) : (slicePick vs.toArray none (some y) none).toList = vs.take y.toNat := by
  rw [kms_pick_eq]
  show (vs.drop 0).take ((if y < 0 then vs.length - (-y).toNat else min y.toNat vs.length) - 0) = _
  rw [if_neg (Int.not_lt.2 h), List.drop_zero, Nat.sub_zero, kmk_take_min]
section
variable {prog : Program} {w : World} {A : Around} {h₀ : Heap} {L : Addr} {m : Str → Option Value} {env : Env} {s : Shared}
/-- the list of the lengths, the block's own body once -/
theorem Mine.compRF {pos : Pos} {x x₂ : Str} {scope : Scope} {cl : List (Str × Addr)} {Fin : List Value → List (Addr × Obj) → Prop} {y e0 : Int} {ax : Addr} {l : List Value} {news : List (Addr × Obj)} (hS : LCg.SrcAt h₀ ax l.toArray news) (hR : RP y news 0 l e0)
    (fin : ∀ (ys : List Value) (ns : List Int), IntsAre ys ns → ns.sum = e0 → Fin ys news)
    (hk : (PySem.compEnvC scope cl ax env).scope.kind = .function) (hl : (PySem.compEnvC scope cl ax env).kindOf x₂ = some .local) (hdb : (x₂ == ("__debug__" : Str)) = false) :
    LCp.CompRestP prog w A h₀ L m env (.Name x₂ pos) x x₂ scope cl s (LCg.SrcAt h₀ ax l.toArray) (fun i v => l.toArray[i]? = some v) Fin l.toArray.size 0 [] news := by
  have key : ∀ (r : List Value) (i : Nat) (ys : List Value) (ns : List Int) (c : Int), l.drop i = r → IntsAre ys ns → ns.sum = c → RP y news c r e0 →
      LCp.CompRestP prog w A h₀ L m env (.Name x₂ pos) x x₂ scope cl s (LCg.SrcAt h₀ ax l.toArray) (fun i v => l.toArray[i]? = some v) Fin r.length i ys news := by
    intro r
    induction r with
    | nil =>
      intro i ys ns c hd hI hs hP
      refine LCp.CompRestP.zero (fin ys ns hI (hs.trans (show e0 = c from hP).symm))
    | cons v r ih =>
      intro i ys ns c hd hI hs hP
      obtain ⟨a, mo, t, u, e, hm, hP⟩ := hP
      refine LCp.CompRestP.succ fun v' hv' => ?_
      have hv : v' = v := by
        have h1 : l[i]? = some v' := by simpa using hv'
        have h2 : (l.drop i)[0]? = some v := by rw [hd]; rfl
        rw [List.getElem?_drop, Nat.add_zero] at h2
        exact Option.some.inj (h1.symm.trans h2)
      subst hv
      refine ⟨a, _, _, _, _, e, hm, rfl, rfl, ?_⟩
      intro I oI C oC D m₂ h tk E' hC hx hx2 F N off ne
      refine LCgL.ld_own N (List.mem_cons_of_mem _ (List.Mem.head _)) hC hx2 ?_ hk hl hdb
      refine LCg.CompEnd.intro F N news (fun p hp => hp) off hS ?_
      refine ih (i + 1) _ (ns ++ [mlI y mo]) (c + mlI y mo) ?_ (hI.append (.cons _ _ .nil)) ?_ hP
      · rw [← List.drop_drop, hd]; rfl
      · rw [List.sum_append, hs]; simp
  have := key l 0 [] [] 0 rfl .nil rfl hR
  simpa using this
theorem Mine.compTake {pos : Pos} {x x₂ : Str} {scope : Scope} {cl : List (Str × Addr)} {Fin : List Value → List (Addr × Obj) → Prop} {y : Int} {ax : Addr} {l : List Value} {n : Nat} {W news : List (Addr × Obj)} (hRF : RF y W 0 l) (hsub : ∀ p ∈ W, p ∈ news) (hn : 0 < n) (hl0 : l ≠ [])
    (hS : LCg.SrcAt h₀ ax (l.take n).toArray news) (fin : ∀ (ys : List Value) (ns : List Int), IntsAre ys ns → 0 < ns.sum → ns.sum ≤ nyI (y + 1) - nyI y → Fin ys news)
    (hk : (PySem.compEnvC scope cl ax env).scope.kind = .function) (hl : (PySem.compEnvC scope cl ax env).kindOf x₂ = some .local) (hdb : (x₂ == ("__debug__" : Str)) = false) :
    LCp.CompRestP prog w A h₀ L m env (.Name x₂ pos) x x₂ scope cl s (LCg.SrcAt h₀ ax (l.take n).toArray) (fun i v => (l.take n).toArray[i]? = some v) Fin (l.take n).toArray.size 0 [] news := by
  obtain ⟨e, h1, h2, h3, h4⟩ := RF.take hsub n hRF
  have h5 := h4 hn hl0
  exact compRF hS h1 (fun ys ns hI hs => fin ys ns hI (by omega) (by omega)) hk hl hdb
end
end CompX
-- theorem ite_dpos {c : Prop} [Decidable c] {a b : Prop} (hc : c) (h : a) : if decide c = true then a else b := by rw [if_pos (decide_eq_true hc)]; exact h
-- theorem ite_dneg {c : Prop} [Decidable c] {a b : Prop} (hc : ¬ c) (h : b) : if decide c = true then a else b := by rw [if_neg (by rw [decide_eq_true_eq]; exact hc)]; exact h
/-- the day's place was picked: an int within the year's days; the name row may hold something -/
def Mine.CutP (y : Int) (h₀ : Heap) (L : Addr) (m : Str → Option Value) (news : List (Addr × Obj)) (s : Shared) (fl : Flow) (s' : Shared) : Prop :=
  ∃ (z : Int) (t : Tok) (u : Option Value) (h' : Heap) (tk' : Nat), (0 ≤ z ∧ z < nyI (y + 1) - nyI y) ∧ fl = .next ∧ s' = { s with heap := h', toks := tk' } ∧ Fr h₀ L h' (fun x => if x = Str.ofString "place" then some (.int z t) else if x = Str.ofString "row" then u else m x) ∧ News h₀ L h' news
theorem Mine.cutP {y : Int} {ty : Tok} {M : Model} {A : Around} {E : Value → Shared → Prop} {Q : Flow → Shared → Prop} {s : Shared} {h₀ : Heap} {L : Addr} {m : Str → Option Value} {news : List (Addr × Obj)} {cm : Sem Flow} (_hy : m (Str.ofString "year") = some (.int y ty))
    (_F : Fr h₀ L s.heap m) (_N : News h₀ L s.heap news) (h : wpAny M A cm (fun fl s' => CutP y h₀ L m news s fl s') E s)
    (k : ∀ (z : Int) (t : Tok) (u : Option Value) (h' : Heap) (tk' : Nat), 0 ≤ z → z < nyI (y + 1) - nyI y → Fr h₀ L h' (fun x => if x = Str.ofString "place" then some (.int z t) else if x = Str.ofString "row" then u else m x) → News h₀ L h' news → Q .next { s with heap := h', toks := tk' }) : wpAny M A cm Q E s := by
  refine wpAny_mono h (fun v s' hq => ?_) fun _ _ e => e
  obtain ⟨z, t, u, h', tk', hP, hv, hs, F, N⟩ := hq
  subst hv; subst hs; exact k z t u h' tk' hP.1 hP.2 F N
theorem Mine.CutP.intro {y : Int} {h₀ h' : Heap} {L : Addr} {m m' : Str → Option Value} {news all : List (Addr × Obj)} {s : Shared} {a : Int} {t1 : Tok} {tk' : Nat}
    (F : Fr h₀ L h' m') (N : News h₀ L h' all) (h1 : m' (Str.ofString "place") = some (.int a t1)) (hs : ∀ x, x ≠ Str.ofString "place" → x ≠ Str.ofString "row" → m' x = m x) (hn : ∀ p ∈ news, p ∈ all) (hP : 0 ≤ a ∧ a < nyI (y + 1) - nyI y) : CutP y h₀ L m news s .next { s with heap := h', toks := tk' } := by
  refine ⟨a, t1, m' (Str.ofString "row"), h', tk', hP, rfl, rfl, ?_, fun p hp => N p (hn p hp)⟩
  rw [show (fun x => if x = Str.ofString "place" then some (.int a t1) else if x = Str.ofString "row" then m' (Str.ofString "row") else m x) = m' from funext fun x => by
    by_cases e1 : x = Str.ofString "place"
    · rw [if_pos e1, e1, h1]
    · rw [if_neg e1]
      by_cases e3 : x = Str.ofString "row"
      · rw [if_pos e3, e3]
      · rw [if_neg e3, hs x e1 e3]]
  exact F
theorem Mine.civ_t {mo y : Int} (h : 7 ≤ mo) : ((if 7 ≤ mo then y + 1 else y) == y + 1) = true := by rw [if_pos h]; exact beq_self_eq_true _
theorem Mine.civ_f {mo y : Int} (h : ¬ 7 ≤ mo) : ((if 7 ≤ mo then y + 1 else y) == y + 0) = true := by rw [if_neg h, Int.add_zero]; exact beq_self_eq_true _
theorem Mine.slice_up {prog : Program} {w : World} {A : Around} {E : Value → Shared → Prop} {s : Shared} {h : Heap} {tk : Nat} {h₀ : Heap} {L l : Addr} {m : Str → Option Value} {news : List (Addr × Obj)} {value slice : Expr} {vs : List Value} {a : Int} {u : Tok} {Q : Value → Shared → Prop} (F : Fr h₀ L h m) (N : News h₀ L h news) (hl : h.IsList l vs.toArray) (ha : 0 ≤ a) (hz : vs.toArray.size ≤ sizeLine)
    (k : ∀ D h', Fr h₀ L h' m → News h₀ L h' ((D, W.listOf (vs.take a.toNat).toArray 0) :: news) → (∀ p ∈ news, p.1 < D) → Q (.ref D) { heap := h', gens := s.gens, drawn := s.drawn, toks := tk, os := s.os })
    (hs : subscripted slice false (.ref l) (.ref h.objs.size) = operate [.ref h.objs.size, .ref l] (getItem (.ref l) (.ref h.objs.size))) (ht : ∀ r, letTemporaryGo value (.ref l) r = pure ()) :
    wpAny (model prog w) A (subscriptTail value slice (.ref l) (.ref h.objs.size)) Q E { heap := h.push { cls := .type "slice", data := .fields #[.none, .int a u, .none] }, gens := s.gens, drawn := s.drawn, toks := tk, os := s.os } :=
  kmk_slice_lit (s := { heap := h, gens := s.gens, drawn := s.drawn, toks := tk, os := s.os }) F N hl IsPart.none (IsPart.int _ _) (pick_upto vs ha) k hs ht hz
theorem Mine.fm_in (a : Int) {b : Int} (h : 0 < b) : 0 ≤ Int.fmod a b ∧ Int.fmod a b < b := by
  rw [fmd _ _ (by omega)]; exact ⟨Int.emod_nonneg _ (by omega), Int.emod_lt_of_pos _ h⟩
theorem Mine.row_n {a : Int} {n : Nat} (h : 2 ≤ n) : 0 ≤ 1 + Int.fmod a ((n : Int) - 1) ∧ 0 < (1 + Int.fmod a ((n : Int) - 1)).toNat := by
  have := fm_in a (show 0 < (n : Int) - 1 by omega); omega
theorem Mine.ne_len {l : List Value} (h : 2 ≤ l.length) : l ≠ [] := by intro e; rw [e] at h; exact absurd h (by decide)
theorem Mine.hd_ge {y m d jd : Int} (H : Hd y m d jd) : 0 < m := by have := H.1; omega
theorem Mine.hd_le {y m d jd : Int} (H : Hd y m d jd) : ¬ 13 < m := by have := H.2.1; rcases ym_range y with ⟨q, _⟩ | ⟨q, _⟩ <;> omega
theorem Mine.hd_jd {y m d jd : Int} (H : Hd y m d jd) : tjI y m d = jd := H.2.2.2.2
theorem Mine.yr2 (a : Int) : 1 ≤ 1 + Int.fmod a (10 ^ Int.toNat 15) := by
  rw [fmd _ _ (by decide)]
  have := Int.emod_nonneg a (show (10 : Int) ^ Int.toNat 15 ≠ 0 by decide)
  omega
theorem Mine.good_end {cl : Str → Option Addr} {mean : ExcName → Option Value} {args : List WData} {s₁ s' : Shared} {L : Addr} {m : Str → Option Value} (F : Fr s₁.heap L s'.heap m) (hg : s'.gens = #[]) (hos : s'.os = s₁.os) :
    GoodW PySem.Challenge.rw_ja0019_01.row.claim cl mean args s₁ (.ok (.ret (.bool true))) s' := by
  refine goodW_bool F hg (fun cls => ?_) ?_ hos
  · rfl
  · wrow_post
theorem Mine.good_endB {cl : Str → Option Addr} {mean : ExcName → Option Value} {args : List WData} {s₁ s' : Shared} {L : Addr} {m : Str → Option Value} {b : Bool} (hb : b = true) (F : Fr s₁.heap L s'.heap m) (hg : s'.gens = #[]) (hos : s'.os = s₁.os) :
    GoodW PySem.Challenge.rw_ja0019_01.row.claim cl mean args s₁ (.ok (.ret (.bool b))) s' := by
  subst hb; exact good_end F hg hos
set_option maxHeartbeats 8000000
theorem PySem.Challenge.cw_ja0019_01_holds : PySem.Challenge.rw_ja0019_01.Holds := by
  refine hd01 ?_
  k_go0
  all_goals try k_fold
  repeat' (first
    | (k_unfold; (try dsimp only))
    | ((with_reducible show GoodW _ _ _ _ _ _ _); first | exact good_endB (civ_t (by assumption)) (by k_asm) (by k_asm) rfl | exact good_endB (civ_f (by assumption)) (by k_asm) (by k_asm) rfl | exact good_end (by k_asm) (by k_asm) rfl)
    | ((first
    | ((fail_if_success (fail_if_success (with_reducible show @ite _ _ _ _ _))); (first
      | (k_here; k_openite; first
  | ((with_reducible refine ite_bne_eq ?hmy ?_); (case hmy => first | with_reducible rfl | with_reducible assumption | omega))
  | ((with_reducible refine ite_bne_eqB ?hmy ?_); (case hmy => with_reducible rfl))
  | ((with_reducible refine ite_notT ?hmy ?_); (case hmy => exact szin _)))
      | (k_here; k_openite; first
  | (with_reducible refine ite_pos (by with_reducible assumption) ?_)
  | (with_reducible refine ite_neg (by with_reducible assumption) ?_)
  | (with_reducible refine ite_isFalse (by with_reducible assumption) ?_)
  | (with_reducible refine ite_dpos (by with_reducible assumption) ?_)
  | (with_reducible refine ite_dneg (by with_reducible assumption) ?_)
  | (with_reducible refine split_dec ?_ ?_ <;> intro _) | (with_reducible refine split_bool ?_ ?_ <;> intro _))))
    | ((fail_if_success (fail_if_success (with_reducible show wpAny _ _ (PySem.call (Value.ref _) _ _) _ _ _))); (first
      | (k_here; (fail_if_success (fail_if_success (with_reducible show wpAny _ _ (PySem.call (Value.ref 106) [Value.int _ _, Value.int 7 _, Value.int _ _] _) _ _ _))); k_dflt (refine use2 (c_tj7 _ _ _ _ _ _ _ _ _ _ _ ) ?_); k_whole; intro t9 h9 tk9 F9 N9; (try dsimp only); (try k_fold))
      | (k_here; (fail_if_success (fail_if_success (with_reducible show wpAny _ _ (PySem.call (Value.ref 120) _ _) _ _ _))); k_dflt (refine use2 (c_civ _ _ _ _ _ _ _ _ _ _ _ _) ?_); k_whole; intro D9 t1 t2 t3 h9 tk9 F9 N9; (try dsimp only); (try k_fold))
      | (k_here; (fail_if_success (fail_if_success (with_reducible show wpAny _ _ (PySem.call (Value.ref 127) _ _) _ _ _))); k_dflt (refine use2 (c_fg _ _ _ _ _ _ _ _ _ _ _ _ _ _ _ _ (by assumption) (by assumption) (by first | with_reducible assumption | omega)) ?_); k_whole; intro D9 t1 t2 t3 h9 tk9 F9 N9; (try dsimp only); (try k_fold))
      | (k_here; (fail_if_success (fail_if_success (with_reducible show wpAny _ _ (PySem.call (Value.ref 134) _ _) _ _ _))); k_dflt (refine use2 (c_tg _ _ _ _ _ _ _ _ _ _ _ _ _ (by assumption)) ?_); k_whole; (first | ((rename Gd _ _ _ _ => gO'); intro y9 mo9 d9 hG9 D9 t1 t2 t3 h9 tk9 F9 N9; obtain ⟨e1', e2', e3'⟩ := Gd.uniq gO' hG9; subst e1'; subst e2'; subst e3') | (intro y9 mo9 d9 hG9 D9 t1 t2 t3 h9 tk9 F9 N9)); (try dsimp only); (try k_fold))
      | (k_here; (fail_if_success (fail_if_success (with_reducible show wpAny _ _ (PySem.call (Value.ref 148) _ _) _ _ _))); k_dflt (refine use2 (c_lg _ _ _ _ _ _ _ _) ?_); k_whole; (first | ((rename Gd _ _ _ _ => gO'); intro y9 mo9 d9 hG9 D9 t1 t2 t3 h9 tk9 F9 N9; obtain ⟨e1', e2', e3'⟩ := Gd.uniq gO' hG9; subst e1'; subst e2'; subst e3') | (intro y9 mo9 d9 hG9 D9 t1 t2 t3 h9 tk9 F9 N9)); (try dsimp only); (try k_fold))
      | (k_here; (fail_if_success (fail_if_success (with_reducible show wpAny _ _ (PySem.call (Value.ref 188) _ _) _ _ _))); k_dflt (refine use2 (c_ld _ _ _ _ _ _ _ _ _ _ (by first | with_reducible assumption | omega) (by omega) (by omega)) ?_); k_whole; intro y9 mo9 d9 hH9 hy9 D9 t1 t2 t3 h9 tk9 F9 N9; (have hd1' := hd_ge hH9); (have hd2' := hd_le hH9); (have hd3' := hd_jd hH9); (try dsimp only); (try k_fold))
      | (k_here; (fail_if_success (fail_if_success (with_reducible show wpAny _ _ (PySem.call (Value.ref 113) _ _) _ _ _))); k_dflt (refine use2 (c_fjh _ _ _ _ _ _ _ _ _ _ _ (by assumption) (by first | with_reducible assumption | omega)) ?_); k_whole; intro D9 t1 t2 t3 h9 tk9 F9 N9; (try dsimp only); (try k_fold))
      | (k_here; (fail_if_success (fail_if_success (with_reducible show wpAny _ _ (PySem.call (Value.ref 106) _ _) _ _ _))); k_dflt (refine use2 (c_tj _ _ _ _ _ _ _ _ _ _ _ _ (by first | with_reducible assumption | decide | omega) (by first | with_reducible assumption | decide | omega)) ?_); k_whole; intro t9 h9 tk9 F9 N9; (try dsimp only); (try k_fold))
      | (k_here; (fail_if_success (fail_if_success (with_reducible show wpAny _ _ (PySem.call (Value.ref 181) _ _) _ _ _))); k_dflt (refine use2 (c_rowG _ _ _ _ _ _ _ _ (by first | with_reducible assumption | omega)) ?_); k_whole; intro D9 n9 l9 nw9 h9 tk9 hRF9 hln9 F9 N9 hs9; (try dsimp only); (try k_fold))
      | (k_here; (fail_if_success (fail_if_success (with_reducible show wpAny _ _ (PySem.call (Value.ref 174) _ _) _ _ _))); k_dflt (refine use2 (c_ny _ _ _ _ _ _ _ _) ?_); k_whole; intro t9 h9 tk9 F9 N9; (try dsimp only); (try k_fold))
      | (k_here; (fail_if_success (fail_if_success (with_reducible show wpAny _ _ (PySem.call (Value.ref 50) _ _) _ _ _))); k_dflt (refine use2 (c_fj _ _ _ _ _ _ _ _) ?_); k_whole; (first | ((rename Gd _ _ _ _ => gO'); intro y9 mo9 d9 hG9 D9 t1 t2 t3 h9 tk9 F9 N9; obtain ⟨e1', e2', e3'⟩ := Gd.uniq gO' hG9; subst e1'; subst e2'; subst e3') | (intro y9 mo9 d9 hG9 D9 t1 t2 t3 h9 tk9 F9 N9)); (try dsimp only); (try k_fold))
      | (k_here; (fail_if_success (fail_if_success (with_reducible show wpAny _ _ (PySem.call (Value.ref 162) _ _) _ _ _))); k_dflt (refine use2 (c_sizes _ _ _ _ _ _ _) ?_); k_whole; intro D9 n9 t1 t2 t3 t4 t5 t6 t7 t8 t9 t10 t11 t12 h9 tk9 F9 N9; (try dsimp only); (try k_fold))
      | (k_here; (fail_if_success (fail_if_success (with_reducible show wpAny _ _ (PySem.call (Value.ref 155) _ _) _ _ _))); k_dflt (refine use2 (c_glong _ _ _ _ _ _ _ _) ?_); k_whole; intro h9 tk9 F9 N9; (try dsimp only); (try k_fold))
      | (k_here; (fail_if_success (fail_if_success (with_reducible show wpAny _ _ (PySem.call (Value.ref 43) _ _) _ _ _))); k_dflt (refine use2 (c_gj _ _ _ _ _ _ _ _ _ _ _ _ (by first | decide | with_reducible assumption) (by first | exact dim_pos _ _ | with_reducible assumption)) ?_); k_whole; intro t9 h9 tk9 F9 N9; (try dsimp only); (try k_fold))
      | (k_here; (fail_if_success (fail_if_success (with_reducible show wpAny _ _ (PySem.call (Value.ref 36) _ _) _ _ _))); k_dflt (refine use2 (c_legal _ _ _ _ _ _ _ _ _ _ _ _ (by assumption) (by assumption)) ?_); k_whole; intro h9 tk9 F9 N9; (try dsimp only); (try k_fold))
      | (k_here; (fail_if_success (fail_if_success (with_reducible show wpAny _ _ (PySem.call (Value.ref 21) _ _) _ _ _))); k_dflt (refine use2 (c_isl _ _ _ _ _ _ _ _) ?_); k_whole; intro h9 tk9 F9 N9; (try dsimp only); (try k_fold))
      | (k_here; (fail_if_success (fail_if_success (with_reducible show wpAny _ _ (PySem.call (Value.ref 169) _ _) _ _ _))); k_dflt (refine use2 (c_long' _ _ _ _ _ _ _ _) ?_); k_whole; intro h9 tk9 F9 N9; (try dsimp only); (try k_fold))
      | (k_here; (fail_if_success (fail_if_success (with_reducible show wpAny _ _ (PySem.call (Value.ref 64) _ _) _ _ _))); k_dflt (refine use2 (c_ymN _ _ _ _ _ _ _ _ ) ?_); k_whole; intro n9 t9 h9 tk9 hn9 hl9 hu9 F9 N9; (try dsimp only); (try k_fold))
      | (k_here; (fail_if_success (fail_if_success (with_reducible show wpAny _ _ (PySem.call (Value.ref 99) _ _) _ _ _))); k_dflt (refine use2 (c_md _ _ _ _ _ _ _ _ _ _ (by first | with_reducible assumption | decide | omega)) ?_); k_whole; intro t9 h9 tk9 F9 N9; (try dsimp only); (try k_fold))
      | (k_here; (fail_if_success (fail_if_success (with_reducible show wpAny _ _ (PySem.call (Value.ref 92) _ _) _ _ _))); k_dflt (refine use2 (c_ml _ _ _ _ _ _ _ _ _ _ (by first | with_reducible assumption | decide | omega)) ?_); k_whole; intro t9 h9 tk9 F9 N9; (try dsimp only); (try k_fold))
      | (k_here; (fail_if_success (fail_if_success (with_reducible show wpAny _ _ (PySem.call (Value.ref 85) _ _) _ _ _))); k_dflt (refine use2 (c_yd _ _ _ _ _ _ _ _) ?_); k_whole; intro t9 h9 tk9 F9 N9; (try dsimp only); (try k_fold))
      | (k_here; (fail_if_success (fail_if_success (with_reducible show wpAny _ _ (PySem.call (Value.ref 169) _ _) _ _ _))); k_dflt (refine use2 (c_long _ _ _ _ _ _ _ _) ?_); k_whole; intro h9 tk9 F9 N9; (try dsimp only); (try k_fold))
      | (k_here; (fail_if_success (fail_if_success (with_reducible show wpAny _ _ (PySem.call (Value.ref 78) _ _) _ _ _))); k_dflt (refine use2 (c_d2 _ _ _ _ _ _ _ _) ?_); k_whole; intro t9 h9 tk9 F9 N9; (try dsimp only); (try k_fold))
      | (k_here; (fail_if_success (fail_if_success (with_reducible show wpAny _ _ (PySem.call (Value.ref 71) _ _) _ _ _))); k_dflt (refine use2 (c_d1 _ _ _ _ _ _ _ _) ?_); k_whole; intro t9 h9 tk9 F9 N9; (try dsimp only); (try k_fold))
      | (k_here; (fail_if_success (fail_if_success (with_reducible show wpAny _ _ (PySem.call (Value.ref 64) _ _) _ _ _))); k_dflt (refine use2 (c_ym _ _ _ _ _ _ _ _) ?_); k_whole; intro t9 h9 tk9 F9 N9; (try dsimp only); (try k_fold))
      | (k_here; (fail_if_success (fail_if_success (with_reducible show wpAny _ _ (PySem.call (Value.ref 57) _ _) _ _ _))); k_dflt (refine use2 (c_leap _ _ _ _ _ _ _ _) ?_); k_whole; intro h9 tk9 F9 N9; (try dsimp only); (try k_fold))
      | (k_here; (fail_if_success (fail_if_success (with_reducible show wpAny _ _ (PySem.call (Value.ref 28) _ _) _ _ _))); k_dflt (refine use2 (c_mid _ _ _ _ _ _ _ _) ?_); k_whole; intro t9 h9 tk9 F9 N9; (try dsimp only); (try k_fold))))
    | ((fail_if_success (fail_if_success (with_reducible show wpAny _ _ (eval (Expr.Call _ _ _ _) _) _ _ _))); (first
      | (k_here; (fail_if_success (with_reducible show wpAny _ _ _ (fun v s' => CutI _ _ _ _ _ _ v s') _ _)); (fail_if_success (with_reducible show wpAny _ _ _ (fun v s' => KCj _ _ _ _ _ _ _ v s') _ _)); (with_reducible show wpAny _ _ (eval (Expr.Call (Expr.Name (Str.ofString "_law_cell") _) _ _ _) _) _ _ _); (rename Fr _ _ _ _ => cF'); (rename News _ _ _ _ => cN'); (refine cutI (fun _ => True) cF' cN' ?_ ?_); rotate_left; (intro z' t' h' tk' hz' F' N'; clear hz'; (try dsimp only); (try k_fold)); rotate_left)
      | (k_here; (with_reducible show wpAny _ _ (eval (Expr.Call (Expr.Name _ _) _ [] _) _) _ _ _); with_reducible refine Call_ ?_)))
    | ((fail_if_success (fail_if_success (with_reducible show wpAny _ _ (exec (Stmt.If _ _ _ _) _) _ _ _))); (first
      | (k_here; (fail_if_success (with_reducible show wpAny _ _ _ (fun v s' => CutP _ _ _ _ _ _ v s') _ _)); (fail_if_success (fail_if_success (with_reducible show wpAny _ _ (exec (Stmt.If (Expr.Compare (Expr.Name (Str.ofString "kind") _) [CmpOp.Eq] _ _) _ (_ :: _) _) _) _ _ _))); (rename Fr _ _ _ _ => cF'); (rename News _ _ _ _ => cN'); (k_dflt (refine cutP rfl cF' cN' ?_ (fun z' t' u' h' tk' hz1' hz2' F' N' => ?_))); (all_goals ((try dsimp only); (try k_fold))))))
    | ((fail_if_success (fail_if_success (with_reducible show CutP ..))); (first
      | (k_here; k_dflt (refine' CutP.intro ?sF ?sN ?s1 ?ss ?sn ?sP; (case sF => k_asm); (case sN => k_asm); (case s1 => rfl); (case ss => (intro x hx1 hx2; first | rfl | (simp only [if_neg hx1, if_neg hx2]; done))); (case sn => (intro p hp; repeat (first | exact hp | exact subTrans (fun _ h => h) (by assumption) p hp | refine List.mem_cons_of_mem _ ?_))); (case sP => first | omega | exact fm_in _ (by omega) | (subst_vars; omega))))))
    | ((fail_if_success (fail_if_success (with_reducible show wpAny _ _ (PySem.call (Value.builtin "len") _ _) _ _ _))); (first
      | (k_here; (fail_if_success (fail_if_success (with_reducible show wpAny _ _ (PySem.call (Value.builtin "len") [Value.ref _] _) _ _ _))); (rename RF _ _ _ _ => lR'); k_dflt (refine KM.len_K (by k_asm) (by k_mem) (List.size_toArray ..) (by omega) ?_); (try dsimp only); (try k_fold))))
    | ((fail_if_success (fail_if_success (with_reducible show wpAny _ _ (subscriptTail _ (PySem.Expr.Slice _ _ _ _) _ _) _ _ _))); (first
      | (k_here; (rename RF _ _ _ _ => lR'); k_dflt (refine slice_up (by k_asm) (by k_asm) (News.isList (by k_asm) (by k_mem)) (row_n (by omega)).1 (by rw [List.size_toArray, sizeLine_eq]; omega) ?_ (by with_unfolding_all rfl) (by intro _; with_unfolding_all rfl)); intro D' h' F' N' l1; (try k_sweep))))
    | ((fail_if_success (fail_if_success (with_reducible show wpAny _ _ (eval (Expr.ListComp _ _ _ _) _) _ _ _))); (first
      | (k_here; k_dflt (refine LCp.ListComp_P (F₀ := by k_asm) (by with_unfolding_all rfl) (by decide) (by rfl) (by decide) (by rfl) (by rfl) (by decide) ?_))))
    | ((fail_if_success (fail_if_success (with_reducible show LCp.SrcLP ..))); (first
      | (k_here; k_dflt ((rename RF _ _ _ _ => lR'); (refine LCp.SrcLP.ledger (by rfl) (by k_asm) (by k_asm) (List.Mem.head _) (by rw [List.size_toArray, sizeLine_eq, List.length_take]; omega) ?_); intro g'; (refine compTake lR' (by intro p hp; repeat (first | exact hp | refine List.mem_cons_of_mem _ ?_)) (row_n (by omega)).2 (ne_len (by omega)) (.inr ⟨_, List.Mem.head _, rfl, _, rfl⟩) (fun ys' ns' hI' hs1' hs2' => ?_) rfl rfl (by decide)); unfold LCg.FinE; intro D' h' tk' F' N' off'))))
    | ((fail_if_success (fail_if_success (with_reducible show wpAny _ _ (eval (Expr.IfExp _ _ _ _) _) _ _ _))); (first
      | (k_here; (fail_if_success (with_reducible show wpAny _ _ _ (fun v s' => CutI _ _ _ _ _ _ v s') _ _)); (with_reducible show wpAny _ _ (eval (Expr.IfExp (Expr.Compare _ [CmpOp.Lt, CmpOp.Lt] _ _) _ _ _) _) _ _ _); (rename Fr _ _ _ _ => cF'); (rename News _ _ _ _ => cN'); (refine cutI (fun z => 1 ≤ z) cF' cN' ?_ ?_); rotate_left; (intro z' t' h' tk' hz' F' N'; (have hz0' : 0 ≤ z' := (by omega)); (have hz1' := ny_step z'); (try dsimp only); (try k_fold)); rotate_left)))
    | ((fail_if_success (fail_if_success (with_reducible show CutI ..))); (first
      | (refine CutI.intro ?_ (by k_asm) (by k_asm); first | exact True.intro | omega | exact yr2 _ | (dsimp only; omega))))); (try dsimp only))
    | (walk1; (try dsimp only)) | fail "no step")
