import PyProof.Rows.All
import Wide.All
import OpenK.AllK
import Wide.FinOn
import Lean
import PySem.Challenge.RW_ki0017_01
open PySem PySem.W PyProof.Rows
set_option Elab.async false
set_option maxRecDepth 100000
set_option maxHeartbeats 8000000
set_option linter.all false
namespace Mine
open_top hd for PySem.Challenge.rw_ki0017_01
end Mine

namespace Mine
/-- a call of the def at f, by at most d frames, gives one of the values R, and all that stood stands -/
def Gv (w : World) (mean : ExcName → Option Value) (mg mb : Str → Option Value) (d : Nat) (f : Addr) (vs : List Value) (R : Tok → Value) : Prop :=
  ∀ (news : List (Addr × Obj)) (dp un : Nat) (gd : Option (List Code)) (cn : Str) (cs : Scope) (a : Addr) (ccd : Value) (cl : List (Str × Addr)) (outer : List Env) (A₀ : Around) (base h₀ : Heap) (L : Addr) (m : Str → Option Value) (s : Shared) (Q E : Value → Shared → Prop),
    Below A₀ base outer h₀ → Fr h₀ L s.heap m → (Mine.hd.heap_39 w.params).In h₀ → News h₀ L s.heap news → Top Mine.hd.view_39 (looseW Mine.hd.view_39 []) mean mg mb h₀ → cs.kind = .function →
    dp + d < recursionLimit → un + 8 * d < cLine →
    (∀ (t : Tok) (h' : Heap) (tk' : Nat), Fr h₀ L h' m → News h₀ L h' news → Q (R t) { s with heap := h', toks := tk' }) →
    wpAny (model PySem.Challenge.rw_ki0017_01.row.prog w) (ktrTop dp un gd cn cs L a ccd cl outer) (call (.ref f) vs) Q E s
def Fill (_ : OpenLaw) (_ : Params → Frag) : Prop := True
/-- a number, or the text of its one sign -/
inductive Thing (n : Int) : Value → Prop where
  | int (t : Tok) : Thing n (.int n t)
  | str (c : Nat) (t : Tok) : n = (c : Int) → Thing n (.str ⟨#[c]⟩ t)
variable {w : World} {mean : ExcName → Option Value} {mg mb : Str → Option Value}

theorem Gv.use {d : Nat} {f : Addr} {vs : List Value} {R : Tok → Value} {news : List (Addr × Obj)} {dp un : Nat} {gd : Option (List Code)} {cn : Str} {cs : Scope} {a : Addr} {ccd : Value} {cl : List (Str × Addr)} {outer : List Env} {A₀ : Around} {base h₀ : Heap} {L : Addr} {m : Str → Option Value} {s : Shared} {Q E : Value → Shared → Prop}
    (C : Gv w mean mg mb d f vs R) (B : Below A₀ base outer h₀) (F : Fr h₀ L s.heap m) (X : (Mine.hd.heap_39 w.params).In h₀) (N : News h₀ L s.heap news) (T : Top Mine.hd.view_39 (looseW Mine.hd.view_39 []) mean mg mb h₀) (hk : cs.kind = .function)
    (hd : dp + d < recursionLimit) (hu : un + 8 * d < cLine)
    (ret : ∀ (t : Tok) (h' : Heap) (tk' : Nat), Fr h₀ L h' m → News h₀ L h' news → Q (R t) { s with heap := h', toks := tk' }) :
    wpAny (model PySem.Challenge.rw_ki0017_01.row.prog w) (ktrTop dp un gd cn cs L a ccd cl outer) (call (.ref f) vs) Q E s :=
  C _ _ _ _ _ _ _ _ _ _ _ _ _ _ _ _ _ _ B F X N T hk hd hu ret

theorem ctoi_int (n : Int) (tk : Tok) : Gv w mean mg mb 1 21 [.int n tk] (fun t => .int n t) := by
  w_on
  (have hfill : Fill PySem.Challenge.rw_ki0017_01 Mine.hd.heap_39 := by (k_fill; exact trivial)); clear hfill
  w_top on
  w_strict (
    unfold Gv
    intros
    rename_i hret
    refine wpAny_call ?_
    k_dflt cell_enter
    k_steps
    all_goals cb_end hret)
theorem ctoi_str (c : Nat) (tk : Tok) : Gv w mean mg mb 1 21 [.str ⟨#[c]⟩ tk] (fun t => .int c t) := by
  w_on
  (have hfill : Fill PySem.Challenge.rw_ki0017_01 Mine.hd.heap_39 := by (k_fill; exact trivial)); clear hfill
  w_top on
  w_strict (
    unfold Gv
    intros
    rename_i hret
    refine wpAny_call ?_
    k_dflt cell_enter
    k_steps
    all_goals cb_end hret)
theorem ctoi {n : Int} {v : Value} (h : Thing n v) : Gv w mean mg mb 1 21 [v] (fun t => .int n t) := by
  cases h with
  | int t => exact ctoi_int n t
  | str c t e => subst e; exact ctoi_str c t
end Mine

namespace Mine
variable {w : World} {mean : ExcName → Option Value} {mg mb : Str → Option Value}
local macro_rules | `(tactic| walk_at "call ref") => `(tactic| (k_here; (with_reducible show wpAny _ _ (PySem.call (Value.ref 21) [_]) _ _ _); k_dflt (refine' Gv.use (ctoi ?kC) ?k1 ?k2 ?k3 ?k4 ?k5 ?k6 ?kd ?ku ?_; (case kC => assumption); (case k1 => k_asm); (case k2 => k_asm); (case k3 => k_asm); (case k4 => k_asm); (case k5 => k_asm); (case k6 => first | exact rfl | assumption); (case kd => ktr_room); (case ku => ktr_units); intro t9 h9 tk9 F9 N9; (try dsimp only); (try k_fold))))
theorem isascii_gives {n : Int} {v : Value} (h : Thing n v) : Gv w mean mg mb 2 42 [v] (fun _ => .bool (decide (0 ≤ n ∧ n ≤ 127))) := by
  w_on
  (have hfill : Fill PySem.Challenge.rw_ki0017_01 Mine.hd.heap_39 := by (k_fill; exact trivial)); clear hfill
  w_top on
  w_strict (
    unfold Gv
    intros
    rename_i hret
    refine wpAny_call ?_
    k_dflt cell_enter
    k_steps
    all_goals cb_end hret)
local macro_rules | `(tactic| walk_at "call ref") => `(tactic| (k_here; (with_reducible show wpAny _ _ (PySem.call (Value.ref 42) [_]) _ _ _); k_dflt (refine' Gv.use (isascii_gives ?kC) ?k1 ?k2 ?k3 ?k4 ?k5 ?k6 ?kd ?ku ?_; (case kC => assumption); (case k1 => k_asm); (case k2 => k_asm); (case k3 => k_asm); (case k4 => k_asm); (case k5 => k_asm); (case k6 => first | exact rfl | assumption); (case kd => ktr_room); (case ku => ktr_units); intro t9 h9 tk9 F9 N9; (try dsimp only); (try k_fold))))
theorem ismeta_gives {n : Int} {v : Value} (h : Thing n v) : Gv w mean mg mb 2 126 [v] (fun _ => .bool (decide (127 < n))) := by
  w_on
  (have hfill : Fill PySem.Challenge.rw_ki0017_01 Mine.hd.heap_39 := by (k_fill; exact trivial)); clear hfill
  w_top on
  w_strict (
    unfold Gv
    intros
    rename_i hret
    refine wpAny_call ?_
    k_dflt cell_enter
    k_steps
    all_goals cb_end hret)
local macro_rules | `(tactic| walk_at "call ref") => `(tactic| (k_here; (with_reducible show wpAny _ _ (PySem.call (Value.ref 126) [_]) _ _ _); k_dflt (refine' Gv.use (ismeta_gives ?kC) ?k1 ?k2 ?k3 ?k4 ?k5 ?k6 ?kd ?ku ?_; (case kC => assumption); (case k1 => k_asm); (case k2 => k_asm); (case k3 => k_asm); (case k4 => k_asm); (case k5 => k_asm); (case k6 => first | exact rfl | assumption); (case kd => ktr_room); (case ku => ktr_units); intro t9 h9 tk9 F9 N9; (try dsimp only); (try k_fold))))
theorem iscntrl_gives {n : Int} {v : Value} (h : Thing n v) : Gv w mean mg mb 2 56 [v] (fun _ => .bool (decide ((0 ≤ n ∧ n ≤ 31) ∨ n = 127))) := by
  w_on
  (have hfill : Fill PySem.Challenge.rw_ki0017_01 Mine.hd.heap_39 := by (k_fill; exact trivial)); clear hfill
  w_top on
  w_strict (
    unfold Gv
    intros
    rename_i hret
    refine wpAny_call ?_
    k_dflt cell_enter
    k_steps
    all_goals cb_end hret)
local macro_rules | `(tactic| walk_at "call ref") => `(tactic| (k_here; (with_reducible show wpAny _ _ (PySem.call (Value.ref 56) [_]) _ _ _); k_dflt (refine' Gv.use (iscntrl_gives ?kC) ?k1 ?k2 ?k3 ?k4 ?k5 ?k6 ?kd ?ku ?_; (case kC => assumption); (case k1 => k_asm); (case k2 => k_asm); (case k3 => k_asm); (case k4 => k_asm); (case k5 => k_asm); (case k6 => first | exact rfl | assumption); (case kd => ktr_room); (case ku => ktr_units); intro t9 h9 tk9 F9 N9; (try dsimp only); (try k_fold))))
theorem isctrl_gives {n : Int} {v : Value} (h : Thing n v) : Gv w mean mg mb 2 119 [v] (fun _ => .bool (decide (0 ≤ n ∧ n < 32))) := by
  w_on
  (have hfill : Fill PySem.Challenge.rw_ki0017_01 Mine.hd.heap_39 := by (k_fill; exact trivial)); clear hfill
  w_top on
  w_strict (
    unfold Gv
    intros
    rename_i hret
    refine wpAny_call ?_
    k_dflt cell_enter
    k_steps
    all_goals cb_end hret)
local macro_rules | `(tactic| walk_at "call ref") => `(tactic| (k_here; (with_reducible show wpAny _ _ (PySem.call (Value.ref 119) [_]) _ _ _); k_dflt (refine' Gv.use (isctrl_gives ?kC) ?k1 ?k2 ?k3 ?k4 ?k5 ?k6 ?kd ?ku ?_; (case kC => assumption); (case k1 => k_asm); (case k2 => k_asm); (case k3 => k_asm); (case k4 => k_asm); (case k5 => k_asm); (case k6 => first | exact rfl | assumption); (case kd => ktr_room); (case ku => ktr_units); intro t9 h9 tk9 F9 N9; (try dsimp only); (try k_fold))))
theorem isblank_gives {n : Int} {v : Value} (h : Thing n v) : Gv w mean mg mb 2 49 [v] (fun _ => .bool (decide (n = 9 ∨ n = 32))) := by
  w_on
  (have hfill : Fill PySem.Challenge.rw_ki0017_01 Mine.hd.heap_39 := by (k_fill; exact trivial)); clear hfill
  w_top on
  w_strict (
    unfold Gv
    intros
    rename_i hret
    refine wpAny_call ?_
    k_dflt cell_enter
    k_steps
    all_goals cb_end hret)
local macro_rules | `(tactic| walk_at "call ref") => `(tactic| (k_here; (with_reducible show wpAny _ _ (PySem.call (Value.ref 49) [_]) _ _ _); k_dflt (refine' Gv.use (isblank_gives ?kC) ?k1 ?k2 ?k3 ?k4 ?k5 ?k6 ?kd ?ku ?_; (case kC => assumption); (case k1 => k_asm); (case k2 => k_asm); (case k3 => k_asm); (case k4 => k_asm); (case k5 => k_asm); (case k6 => first | exact rfl | assumption); (case kd => ktr_room); (case ku => ktr_units); intro t9 h9 tk9 F9 N9; (try dsimp only); (try k_fold))))
theorem isspace_gives {n : Int} {v : Value} (h : Thing n v) : Gv w mean mg mb 2 98 [v] (fun _ => .bool (decide (n = 9 ∨ n = 10 ∨ n = 11 ∨ n = 12 ∨ n = 13 ∨ n = 32))) := by
  w_on
  (have hfill : Fill PySem.Challenge.rw_ki0017_01 Mine.hd.heap_39 := by (k_fill; exact trivial)); clear hfill
  w_top on
  w_strict (
    unfold Gv
    intros
    rename_i hret
    refine wpAny_call ?_
    k_dflt cell_enter
    k_steps
    all_goals cb_end hret)
local macro_rules | `(tactic| walk_at "call ref") => `(tactic| (k_here; (with_reducible show wpAny _ _ (PySem.call (Value.ref 98) [_]) _ _ _); k_dflt (refine' Gv.use (isspace_gives ?kC) ?k1 ?k2 ?k3 ?k4 ?k5 ?k6 ?kd ?ku ?_; (case kC => assumption); (case k1 => k_asm); (case k2 => k_asm); (case k3 => k_asm); (case k4 => k_asm); (case k5 => k_asm); (case k6 => first | exact rfl | assumption); (case kd => ktr_room); (case ku => ktr_units); intro t9 h9 tk9 F9 N9; (try dsimp only); (try k_fold))))
theorem isprint_gives {n : Int} {v : Value} (h : Thing n v) : Gv w mean mg mb 2 84 [v] (fun _ => .bool (decide (32 ≤ n ∧ n ≤ 126))) := by
  w_on
  (have hfill : Fill PySem.Challenge.rw_ki0017_01 Mine.hd.heap_39 := by (k_fill; exact trivial)); clear hfill
  w_top on
  w_strict (
    unfold Gv
    intros
    rename_i hret
    refine wpAny_call ?_
    k_dflt cell_enter
    k_steps
    all_goals cb_end hret)
local macro_rules | `(tactic| walk_at "call ref") => `(tactic| (k_here; (with_reducible show wpAny _ _ (PySem.call (Value.ref 84) [_]) _ _ _); k_dflt (refine' Gv.use (isprint_gives ?kC) ?k1 ?k2 ?k3 ?k4 ?k5 ?k6 ?kd ?ku ?_; (case kC => assumption); (case k1 => k_asm); (case k2 => k_asm); (case k3 => k_asm); (case k4 => k_asm); (case k5 => k_asm); (case k6 => first | exact rfl | assumption); (case kd => ktr_room); (case ku => ktr_units); intro t9 h9 tk9 F9 N9; (try dsimp only); (try k_fold))))
theorem isgraph_gives {n : Int} {v : Value} (h : Thing n v) : Gv w mean mg mb 2 70 [v] (fun _ => .bool (decide (33 ≤ n ∧ n ≤ 126))) := by
  w_on
  (have hfill : Fill PySem.Challenge.rw_ki0017_01 Mine.hd.heap_39 := by (k_fill; exact trivial)); clear hfill
  w_top on
  w_strict (
    unfold Gv
    intros
    rename_i hret
    refine wpAny_call ?_
    k_dflt cell_enter
    k_steps
    all_goals cb_end hret)
local macro_rules | `(tactic| walk_at "call ref") => `(tactic| (k_here; (with_reducible show wpAny _ _ (PySem.call (Value.ref 70) [_]) _ _ _); k_dflt (refine' Gv.use (isgraph_gives ?kC) ?k1 ?k2 ?k3 ?k4 ?k5 ?k6 ?kd ?ku ?_; (case kC => assumption); (case k1 => k_asm); (case k2 => k_asm); (case k3 => k_asm); (case k4 => k_asm); (case k5 => k_asm); (case k6 => first | exact rfl | assumption); (case kd => ktr_room); (case ku => ktr_units); intro t9 h9 tk9 F9 N9; (try dsimp only); (try k_fold))))
theorem isdigit_gives {n : Int} {v : Value} (h : Thing n v) : Gv w mean mg mb 2 63 [v] (fun _ => .bool (decide (48 ≤ n ∧ n ≤ 57))) := by
  w_on
  (have hfill : Fill PySem.Challenge.rw_ki0017_01 Mine.hd.heap_39 := by (k_fill; exact trivial)); clear hfill
  w_top on
  w_strict (
    unfold Gv
    intros
    rename_i hret
    refine wpAny_call ?_
    k_dflt cell_enter
    k_steps
    all_goals cb_end hret)
local macro_rules | `(tactic| walk_at "call ref") => `(tactic| (k_here; (with_reducible show wpAny _ _ (PySem.call (Value.ref 63) [_]) _ _ _); k_dflt (refine' Gv.use (isdigit_gives ?kC) ?k1 ?k2 ?k3 ?k4 ?k5 ?k6 ?kd ?ku ?_; (case kC => assumption); (case k1 => k_asm); (case k2 => k_asm); (case k3 => k_asm); (case k4 => k_asm); (case k5 => k_asm); (case k6 => first | exact rfl | assumption); (case kd => ktr_room); (case ku => ktr_units); intro t9 h9 tk9 F9 N9; (try dsimp only); (try k_fold))))
theorem isupper_gives {n : Int} {v : Value} (h : Thing n v) : Gv w mean mg mb 2 105 [v] (fun _ => .bool (decide (65 ≤ n ∧ n ≤ 90))) := by
  w_on
  (have hfill : Fill PySem.Challenge.rw_ki0017_01 Mine.hd.heap_39 := by (k_fill; exact trivial)); clear hfill
  w_top on
  w_strict (
    unfold Gv
    intros
    rename_i hret
    refine wpAny_call ?_
    k_dflt cell_enter
    k_steps
    all_goals cb_end hret)
local macro_rules | `(tactic| walk_at "call ref") => `(tactic| (k_here; (with_reducible show wpAny _ _ (PySem.call (Value.ref 105) [_]) _ _ _); k_dflt (refine' Gv.use (isupper_gives ?kC) ?k1 ?k2 ?k3 ?k4 ?k5 ?k6 ?kd ?ku ?_; (case kC => assumption); (case k1 => k_asm); (case k2 => k_asm); (case k3 => k_asm); (case k4 => k_asm); (case k5 => k_asm); (case k6 => first | exact rfl | assumption); (case kd => ktr_room); (case ku => ktr_units); intro t9 h9 tk9 F9 N9; (try dsimp only); (try k_fold))))
theorem islower_gives {n : Int} {v : Value} (h : Thing n v) : Gv w mean mg mb 2 77 [v] (fun _ => .bool (decide (97 ≤ n ∧ n ≤ 122))) := by
  w_on
  (have hfill : Fill PySem.Challenge.rw_ki0017_01 Mine.hd.heap_39 := by (k_fill; exact trivial)); clear hfill
  w_top on
  w_strict (
    unfold Gv
    intros
    rename_i hret
    refine wpAny_call ?_
    k_dflt cell_enter
    k_steps
    all_goals cb_end hret)
local macro_rules | `(tactic| walk_at "call ref") => `(tactic| (k_here; (with_reducible show wpAny _ _ (PySem.call (Value.ref 77) [_]) _ _ _); k_dflt (refine' Gv.use (islower_gives ?kC) ?k1 ?k2 ?k3 ?k4 ?k5 ?k6 ?kd ?ku ?_; (case kC => assumption); (case k1 => k_asm); (case k2 => k_asm); (case k3 => k_asm); (case k4 => k_asm); (case k5 => k_asm); (case k6 => first | exact rfl | assumption); (case kd => ktr_room); (case ku => ktr_units); intro t9 h9 tk9 F9 N9; (try dsimp only); (try k_fold))))
theorem isalpha_gives {n : Int} {v : Value} (h : Thing n v) : Gv w mean mg mb 3 35 [v] (fun _ => .bool (decide ((65 ≤ n ∧ n ≤ 90) ∨ (97 ≤ n ∧ n ≤ 122)))) := by
  w_on
  (have hfill : Fill PySem.Challenge.rw_ki0017_01 Mine.hd.heap_39 := by (k_fill; exact trivial)); clear hfill
  w_top on
  w_strict (
    unfold Gv
    intros
    rename_i hret
    refine wpAny_call ?_
    k_dflt cell_enter
    k_steps
    all_goals cb_end hret)
local macro_rules | `(tactic| walk_at "call ref") => `(tactic| (k_here; (with_reducible show wpAny _ _ (PySem.call (Value.ref 35) [_]) _ _ _); k_dflt (refine' Gv.use (isalpha_gives ?kC) ?k1 ?k2 ?k3 ?k4 ?k5 ?k6 ?kd ?ku ?_; (case kC => assumption); (case k1 => k_asm); (case k2 => k_asm); (case k3 => k_asm); (case k4 => k_asm); (case k5 => k_asm); (case k6 => first | exact rfl | assumption); (case kd => ktr_room); (case ku => ktr_units); intro t9 h9 tk9 F9 N9; (try dsimp only); (try k_fold))))
theorem isalnum_gives {n : Int} {v : Value} (h : Thing n v) : Gv w mean mg mb 4 28 [v] (fun _ => .bool (decide (((65 ≤ n ∧ n ≤ 90) ∨ (97 ≤ n ∧ n ≤ 122)) ∨ (48 ≤ n ∧ n ≤ 57)))) := by
  w_on
  (have hfill : Fill PySem.Challenge.rw_ki0017_01 Mine.hd.heap_39 := by (k_fill; exact trivial)); clear hfill
  w_top on
  w_strict (
    unfold Gv
    intros
    rename_i hret
    refine wpAny_call ?_
    k_dflt cell_enter
    k_steps
    all_goals cb_end hret)
local macro_rules | `(tactic| walk_at "call ref") => `(tactic| (k_here; (with_reducible show wpAny _ _ (PySem.call (Value.ref 28) [_]) _ _ _); k_dflt (refine' Gv.use (isalnum_gives ?kC) ?k1 ?k2 ?k3 ?k4 ?k5 ?k6 ?kd ?ku ?_; (case kC => assumption); (case k1 => k_asm); (case k2 => k_asm); (case k3 => k_asm); (case k4 => k_asm); (case k5 => k_asm); (case k6 => first | exact rfl | assumption); (case kd => ktr_room); (case ku => ktr_units); intro t9 h9 tk9 F9 N9; (try dsimp only); (try k_fold))))
theorem isxdigit_gives {n : Int} {v : Value} (h : Thing n v) : Gv w mean mg mb 3 112 [v] (fun _ => .bool (decide ((48 ≤ n ∧ n ≤ 57) ∨ (65 ≤ n ∧ n ≤ 70) ∨ (97 ≤ n ∧ n ≤ 102)))) := by
  w_on
  (have hfill : Fill PySem.Challenge.rw_ki0017_01 Mine.hd.heap_39 := by (k_fill; exact trivial)); clear hfill
  w_top on
  w_strict (
    unfold Gv
    intros
    rename_i hret
    refine wpAny_call ?_
    k_dflt cell_enter
    k_steps
    all_goals cb_end hret)
local macro_rules | `(tactic| walk_at "call ref") => `(tactic| (k_here; (with_reducible show wpAny _ _ (PySem.call (Value.ref 112) [_]) _ _ _); k_dflt (refine' Gv.use (isxdigit_gives ?kC) ?k1 ?k2 ?k3 ?k4 ?k5 ?k6 ?kd ?ku ?_; (case kC => assumption); (case k1 => k_asm); (case k2 => k_asm); (case k3 => k_asm); (case k4 => k_asm); (case k5 => k_asm); (case k6 => first | exact rfl | assumption); (case kd => ktr_room); (case ku => ktr_units); intro t9 h9 tk9 F9 N9; (try dsimp only); (try k_fold))))
theorem ispunct_gives {n : Int} {v : Value} (h : Thing n v) : Gv w mean mg mb 5 91 [v] (fun _ => .bool (decide ((33 ≤ n ∧ n ≤ 126) ∧ ¬ (((65 ≤ n ∧ n ≤ 90) ∨ (97 ≤ n ∧ n ≤ 122)) ∨ (48 ≤ n ∧ n ≤ 57))))) := by
  w_on
  (have hfill : Fill PySem.Challenge.rw_ki0017_01 Mine.hd.heap_39 := by (k_fill; exact trivial)); clear hfill
  w_top on
  w_strict (
    unfold Gv
    intros
    rename_i hret
    refine wpAny_call ?_
    k_dflt cell_enter
    k_steps
    all_goals cb_end hret)
local macro_rules | `(tactic| walk_at "call ref") => `(tactic| (k_here; (with_reducible show wpAny _ _ (PySem.call (Value.ref 91) [_]) _ _ _); k_dflt (refine' Gv.use (ispunct_gives ?kC) ?k1 ?k2 ?k3 ?k4 ?k5 ?k6 ?kd ?ku ?_; (case kC => assumption); (case k1 => k_asm); (case k2 => k_asm); (case k3 => k_asm); (case k4 => k_asm); (case k5 => k_asm); (case k6 => first | exact rfl | assumption); (case kd => ktr_room); (case ku => ktr_units); intro t9 h9 tk9 F9 N9; (try dsimp only); (try k_fold))))
end Mine

namespace Mine
variable {w : World} {mean : ExcName → Option Value} {mg mb : Str → Option Value}
local macro_rules | `(tactic| walk_at "call ref") => `(tactic| (k_here; (with_reducible show wpAny _ _ (PySem.call (Value.ref 21) [_]) _ _ _); k_dflt (refine' Gv.use (ctoi ?kC) ?k1 ?k2 ?k3 ?k4 ?k5 ?k6 ?kd ?ku ?_; (case kC => assumption); (case k1 => k_asm); (case k2 => k_asm); (case k3 => k_asm); (case k4 => k_asm); (case k5 => k_asm); (case k6 => first | exact rfl | assumption); (case kd => ktr_room); (case ku => ktr_units); intro t9 h9 tk9 F9 N9; (try dsimp only); (try k_fold))))
local macro_rules | `(tactic| walk_at "call ref") => `(tactic| (k_here; (with_reducible show wpAny _ _ (PySem.call (Value.ref 84) [_]) _ _ _); k_dflt (refine' Gv.use (isprint_gives ?kC) ?k1 ?k2 ?k3 ?k4 ?k5 ?k6 ?kd ?ku ?_; (case kC => first | assumption | exact Thing.int _); (case k1 => k_asm); (case k2 => k_asm); (case k3 => k_asm); (case k4 => k_asm); (case k5 => k_asm); (case k6 => first | exact rfl | assumption); (case kd => ktr_room); (case ku => ktr_units); intro t9 h9 tk9 F9 N9; (try dsimp only); (try k_fold))))

theorem ctrl_int (n : Int) (tk : Tok) : Gv w mean mg mb 2 133 [.int n tk] (fun t => .int (Builtin.bitAnd n 31) t) := by
  have hT : Thing n (.int n tk) := .int _
  w_on
  (have hfill : Fill PySem.Challenge.rw_ki0017_01 Mine.hd.heap_39 := by (k_fill; exact trivial)); clear hfill
  w_top on
  w_strict (
    unfold Gv
    intros
    rename_i hret
    refine wpAny_call ?_
    k_dflt cell_enter
    k_steps
    all_goals cb_end hret)

theorem ctrl_str (c : Nat) (tk : Tok) : Gv w mean mg mb 2 133 [.str ⟨#[c]⟩ tk] (fun t => .str ⟨#[(Builtin.bitAnd (c : Int) 31).toNat]⟩ t) := by
  have hT : Thing (c : Int) (.str ⟨#[c]⟩ tk) := .str _ _ rfl
  obtain ⟨hc1, hc2⟩ := bitAnd_range (c : Int) (y := 31) (by decide)
  w_on
  (have hfill : Fill PySem.Challenge.rw_ki0017_01 Mine.hd.heap_39 := by (k_fill; exact trivial)); clear hfill
  w_top on
  w_strict (
    unfold Gv
    intros
    rename_i hret
    refine wpAny_call ?_
    k_dflt cell_enter
    k_steps
    all_goals cb_end hret)

theorem alt_int (n : Int) (tk : Tok) : Gv w mean mg mb 2 140 [.int n tk] (fun t => .int (Builtin.bitOr n 128) t) := by
  have hT : Thing n (.int n tk) := .int _
  w_on
  (have hfill : Fill PySem.Challenge.rw_ki0017_01 Mine.hd.heap_39 := by (k_fill; exact trivial)); clear hfill
  w_top on
  w_strict (
    unfold Gv
    intros
    rename_i hret
    refine wpAny_call ?_
    k_dflt cell_enter
    k_steps
    all_goals cb_end hret)

theorem alt_str (c : Nat) (tk : Tok) (hc : 0 ≤ Builtin.bitOr (c : Int) 128 ∧ Builtin.bitOr (c : Int) 128 ≤ 1114111) : Gv w mean mg mb 2 140 [.str ⟨#[c]⟩ tk] (fun t => .str ⟨#[(Builtin.bitOr (c : Int) 128).toNat]⟩ t) := by
  have hT : Thing (c : Int) (.str ⟨#[c]⟩ tk) := .str _ _ rfl
  have hc1 := hc.1
  have hc2 := hc.2
  w_on
  (have hfill : Fill PySem.Challenge.rw_ki0017_01 Mine.hd.heap_39 := by (k_fill; exact trivial)); clear hfill
  w_top on
  w_strict (
    unfold Gv
    intros
    rename_i hret
    refine wpAny_call ?_
    k_dflt cell_enter
    k_steps
    all_goals cb_end hret)

/-- what unctrl writes -/
def uncRep (n : Int) : Str := if n = 127 then PySem.Str.ofString "^?" else if 32 ≤ Builtin.bitAnd n 127 ∧ Builtin.bitAnd n 127 ≤ 126 then ⟨#[(Builtin.bitAnd n 127).toNat]⟩ else PySem.Str.ofString "^" ++ ⟨#[(Builtin.bitOr (Builtin.bitAnd n 127) 32 + 32).toNat]⟩
def unc (n : Int) : Str := if Builtin.bitAnd n 128 = 0 then uncRep n else PySem.Str.ofString "!" ++ uncRep n
theorem unctrl_gives {n : Int} {v : Value} (h : Thing n v) : Gv w mean mg mb 3 147 [v] (fun t => .str (unc n) t) := by
  obtain ⟨hc1, hc2⟩ := bitAnd_range n (y := 127) (by decide)
  obtain ⟨hc3, hc4⟩ := bitAnd_range (Builtin.bitAnd n 127) (y := 32) (by decide)
  have hc5 := bitOr_and (Builtin.bitAnd n 127) 32
  k_with "tree" => simp only [unc, uncRep]
  w_on
  (have hfill : Fill PySem.Challenge.rw_ki0017_01 Mine.hd.heap_39 := by (k_fill; exact trivial)); clear hfill
  w_top on
  w_strict (
    unfold Gv
    intros
    rename_i hret
    refine wpAny_call ?_
    k_dflt cell_enter
    k_steps
    all_goals cb_end hret)

end Mine

namespace Mine
section
variable {w : World} {mean : ExcName → Option Value} {mg mb : Str → Option Value}
/-- a call gives R and every object that stood, stands as it was -/
def Gs (w : World) (mean : ExcName → Option Value) (mg mb : Str → Option Value) (d : Nat) (f : Addr) (vs : List Value) (R : Tok → Value) : Prop :=
  ∀ (dp un : Nat) (gd : Option (List Code)) (cn : Str) (cs : Scope) (a : Addr) (ccd : Value) (cl : List (Str × Addr)) (outer : List Env) (A₀ : Around) (base h₀ : Heap) (L : Addr) (m : Str → Option Value) (s : Shared) (Q E : Value → Shared → Prop),
    Below A₀ base outer h₀ → Fr h₀ L s.heap m → (Mine.hd.heap_39 w.params).In h₀ → Top Mine.hd.view_39 (looseW Mine.hd.view_39 []) mean mg mb h₀ → cs.kind = .function →
    dp + d < recursionLimit → un + 8 * d < cLine →
    (∀ (t : Tok) (h' : Heap) (tk' : Nat), s.heap.StaysIn h' → Q (R t) { s with heap := h', toks := tk' }) →
    wpAny (model PySem.Challenge.rw_ki0017_01.row.prog w) (ktrTop dp un gd cn cs L a ccd cl outer) (call (.ref f) vs) Q E s
theorem stays_fr {h₀ h h' : Heap} {L : Addr} {m : Str → Option Value} (F : Fr h₀ L h m) (st : h.StaysIn h') : Fr h₀ L h' m :=
  ⟨F.ns.at' fun o e => st _ o e, fun b o e => st b o (F.keep b o e), F.above⟩
theorem stays_news {h₀ h h' : Heap} {L : Addr} {news : List (Addr × Obj)} (N : News h₀ L h news) (st : h.StaysIn h') : News h₀ L h' news :=
  fun p hp => ⟨st _ _ (N p hp).1, (N p hp).2⟩
theorem Gs.gv {d : Nat} {f : Addr} {vs : List Value} {R : Tok → Value} (C : Gs w mean mg mb d f vs R) : Gv w mean mg mb d f vs R := by
  intro news dp un gd cn cs a ccd cl outer A₀ base h₀ L m s Q E B F X N T hk hd hu ret
  exact C dp un gd cn cs a ccd cl outer A₀ base h₀ L m s Q E B F X T hk hd hu fun t h' tk' st => ret t h' tk' (stays_fr F st) (stays_news N st)
theorem enter_stay {prog : Program} {A A₀ : Around} {s : Shared} {K : Frag} {L : Addr} {h₀ base : Heap} {m : Str → Option Value} {p : Program} {loose : List Str} {env : Env} {outer : List Env} {R : Result → Shared → Prop} {name qual : Str} {params : Arguments} {body : List Stmt} {scope : Scope} {dV kV doc pm cdv ct oc : Value} {an od : Option Addr} {osl : Array (Option Value)} {f : Addr} {args : Args} {binds : List (Str × Value)}
    (B : Below A₀ base outer h₀) (F : Fr h₀ L s.heap m) (X₀ : K.In h₀) (T : Top p loose mean mg mb h₀) (hA : A.frames = some (env :: outer)) (hf : env.frame = some L) (hke : env.scope.kind = .function)
    (ho : K.lookup f = some ⟨oc, od, .func (fnOf name qual params body scope dV kV doc pm an cdv ct), osl⟩) (hcd : codeIn K cdv qual = true) (hroom : A.depth < recursionLimit)
    (hbind : BindsTo s (fnOf name qual params body scope dV kV doc pm an cdv ct) args binds) (hloc : ∀ y ∈ binds, scope.names.lookup y.1 = some .local)
    (h : ∀ g L' h₁, (∀ h', g.StaysIn h' → s.heap.StaysIn h') → Fr g L' h₁ (fun y => binds.reverse.lookup y) → News g L' h₁ [] → Below A base (env :: outer) g → K.In g → Top p loose mean mg mb g →
      wpAny (model prog w) (A.deeper (envOf qual scope L' f cdv)) (execs body (envOf qual scope L' f cdv))
        (fun fl s' => LeaveK h₀ L m g (fun r s' => g.StaysIn s'.heap → R r s') (match fl with | .ret v => v | _ => .none) s')
        (fun e s' => wpAny (model prog w) (A.deeper (envOf qual scope L' f cdv)) (leaving (envOf qual scope L' f cdv) e) (fun _ s'' => R (.error e) s'') (fun e' s'' => R (.error e') s'') s')
        { s with heap := h₁, toks := s.toks + binds.length })
    (hco : scope.isCoroutine = false) (hgen : scope.isGenerator = false) (hk : scope.kind = .function)
    (hcell : ∀ x ∈ scope.names, x.2 ≠ .cell) : codeAny (model prog w) A (.call (.ref f) args) R s := by
  have X := X₀.keeps F.keep
  have BG := pushX B F hf hke
  refine codeAny_call_def (fd := fnOf name qual params body scope dV kV doc pm an cdv ct) (body := body) (binds := binds) hroom (X _ _ ho) rfl (T.nolimit.keeps F.keep) (codeRec_of X hcd) rfl hbind hcell hloc (fun h₁ hns hk₁ => ?_) hco hgen hk
  refine wpAny_mono (h s.heap s.heap.objs.size h₁ (fun _ e => e) ⟨hns, hk₁, Nat.le_refl _⟩ News.nil ⟨hA, BG.stays, BG.frames⟩ X (T.keeps F.keep)) (fun fl s' hl => ?_) fun _ _ y => y
  obtain ⟨L', m', news', F', N', k⟩ := hl
  refine k (stays_fr F F'.keep) (fun p hp => ⟨(N' p hp).1, fun q => ?_, ?_⟩) F'.keep
  · obtain ⟨oL, es, ep, hL, _⟩ := F.ns
    have := (N' p hp).2.2
    rw [q, hL] at this
    cases this
  · cases q : h₀.get? p.1 with
    | none => rfl
    | some o => have := (N' p hp).2.2; rw [F.keep _ _ q] at this; cases this
theorem st_retI {h h' : Heap} {s : Shared} {Q : Value → Shared → Prop} {t : Tok} {tk' : Nat} {x y : Int} (hret : ∀ (t : Tok) (h' : Heap) (tk' : Nat), h.StaysIn h' → Q (.int x t) { s with heap := h', toks := tk' }) (e : y = x) (st : h.StaysIn h') : Q (.int y t) { s with heap := h', toks := tk' } := e ▸ hret _ _ _ st
theorem st_retS {h h' : Heap} {s : Shared} {Q : Value → Shared → Prop} {t : Tok} {tk' : Nat} {x y : Str} (hret : ∀ (t : Tok) (h' : Heap) (tk' : Nat), h.StaysIn h' → Q (.str x t) { s with heap := h', toks := tk' }) (e : y = x) (st : h.StaysIn h') : Q (.str y t) { s with heap := h', toks := tk' } := e ▸ hret _ _ _ st
theorem st_retB {h h' : Heap} {s : Shared} {Q : Value → Shared → Prop} {tk' : Nat} {x y : Bool} (hret : ∀ (t : Tok) (h' : Heap) (tk' : Nat), h.StaysIn h' → Q (.bool x) { s with heap := h', toks := tk' }) (e : y = x) (st : h.StaysIn h') : Q (.bool y) { s with heap := h', toks := tk' } := e ▸ hret 0 _ _ st
end
end Mine

namespace Mine
section
variable {prog : Program} {w : World} {A : Around} {E : Value → Shared → Prop} {s : Shared} {env : Env} {h₀ : Heap} {target : Expr} {body : List Stmt} {Q : Flow → Shared → Prop}
/-- a for over a list that the call has made: by what holds of the frame's names ahead of the turn i -/
theorem for_items {l : Addr} {items : Array Value} {k : Nat} {m₀ : Str → Option Value} {news : List (Addr × Obj)} (J : Nat → (Str → Option Value) → Prop)
    (hh : A.handled = none) (hm : (l, ({ cls := .type "list", data := .seq items k } : Obj)) ∈ news) (F : Fr h₀ env.locals s.heap m₀) (N : News h₀ env.locals s.heap news) (hj : J 0 m₀)
    (turn : ∀ i v m₁ h tk nws, items[i]? = some v → J i m₁ → Fr h₀ env.locals h m₁ → News h₀ env.locals h nws → (∀ p ∈ news, p ∈ nws) →
      wpAny (model prog w) A (assign target env v) (fun _ s₃ => wpAny (model prog w) A (execs body env) (InvPost h₀ env.locals (J (i + 1)) nws { s with heap := h, toks := tk } Q) E s₃) E { s with heap := h, toks := tk })
    (done : ∀ m₁ h tk, J items.size m₁ → Fr h₀ env.locals h m₁ → News h₀ env.locals h news → Q .next { s with heap := h, toks := tk }) :
    wpAny (model prog w) A (pyIter (.ref l)) (fun it s₂ => TurnsAt prog w A h₀ env target body Q E it s₂) E s := by
  have hls : s.heap.IsList l items := ⟨_, (N _ hm).1, rfl, _, rfl⟩
  have hlt : l < s.heap.objs.size := Heap.lt_size (N _ hm).1
  have hne : l ≠ s.heap.objs.size := Nat.ne_of_lt hlt
  refine wpAny_pyIter_list hls ?_
  have W := KTurns.ofWalks (target := target) (Walks.list (prog := prog) (w := w) hh s.heap.objs.size l hne items) fun i v s Q E st q => letGo_listiter st.1 q
  let J' : Nat → (Str → Option Value) → List (Addr × Obj) → Prop := fun i m₁ news₁ => news₁ = news ∧ J i m₁
  refine ⟨_, _, _, items.size, _, _, _, m₀, news, J', rfl, W, ?_, ?_, ?_, ⟨⟨_, Heap.get?_push_size _ rfl, rfl, rfl⟩, hls.at fun o e => Heap.get?_push_of_some _ e⟩, F.push _, (fun p hp => ⟨Heap.get?_push_of_some _ (N p hp).1, (N p hp).2⟩), ⟨rfl, hj⟩, ?_, ?_⟩
  · intro hm'
    rcases List.mem_cons.mp hm' with e | hm'
    · exact absurd F.ns.lt (e ▸ Nat.lt_irrefl _)
    · exact (N _ hm).2.1 (List.mem_singleton.mp hm').symm
  · intro b hb
    rw [List.mem_singleton.mp hb]
    exact next_is_new F
  · intro p hp hI
    exact absurd (Heap.lt_size (N p hp).1) ((List.mem_singleton.mp hI) ▸ Nat.lt_irrefl _)
  · rintro i v m₁ news₁ h₁ tk₁ own hin hP ⟨rfl, hJ⟩ hoff _ _ _ _ F₁ N₁
    refine wpAny_mono (turn i v m₁ h₁ tk₁ (own ++ news₁) hP hJ F₁ N₁ fun p hp => List.mem_append_right _ hp) (fun _ s₃ q => wpAny_mono q (fun f s₂ p => ?_) fun _ _ e => e) fun _ _ e => e
    have fin : InvEnd h₀ env.locals (J (i + 1)) (own ++ news₁) { s with heap := h₁, toks := tk₁ } s₂ → LoopStepU h₀ env.locals [s.heap.objs.size] own (J' (i + 1)) { s with heap := h₁, toks := tk₁ } .next s₂ := by
      rintro ⟨h', tk, m', news', e, F', N', hn, hm'⟩
      exact ⟨rfl, h', tk, m', news₁, e, F', fun p hp => N' p (hn p hp), hoff, rfl, hm'⟩
    cases f with
    | ret v => exact p
    | brk => exact p
    | next => exact fin p
    | cont => exact fin p
  · rintro h' tk m' news' F' N' _ ⟨rfl, hJ⟩
    exact done m' h' tk hJ F' N'
end
section
variable {prog : Program} {w : World} {A : Around} {s : Shared} {env : Env} {h₀ : Heap} {L : Addr} {m : Str → Option Value} {elt : Expr} {x x₂ : Str} {scope : Scope} {cl : List (Str × Addr)}
  {S : List (Addr × Obj) → Prop} {P : Nat → Value → Prop} {Fin : List Value → List (Addr × Obj) → Prop} {news : List (Addr × Obj)}
/-- a comprehension's element is reckoned, all stands as it stood -/
def ElEnd (h₀ : Heap) (L : Addr) (m : Str → Option Value) (news : List (Addr × Obj)) (s : Shared) (G : Value → Prop) (y : Value) (s' : Shared) : Prop :=
  ∃ h' tk', s' = { s with heap := h', toks := tk' } ∧ Fr h₀ L h' m ∧ News h₀ L h' news ∧ G y
theorem ElEnd.intro {news : List (Addr × Obj)} {G : Value → Prop} {y : Value} {h' : Heap} {tk' : Nat} (F : Fr h₀ L h' m) (N : News h₀ L h' news) (g : G y) : ElEnd h₀ L m news s G y { s with heap := h', toks := tk' } := ⟨_, _, rfl, F, N, g⟩
theorem compP {n : Nat} (G : Nat → List Value → Prop) (hS : S news) (g0 : G 0 [])
    (turn : ∀ i v ys, i < n → P i v → G i ys → ∃ (t : Addr) (ot : Obj) (v₁ v₂ : Value) (nt : Nat), v = .ref t ∧ (t, ot) ∈ news ∧ ot.cls = .type "tuple" ∧ ot.data = .seq #[v₁, v₂] nt ∧
      ∀ I oI C oC D m₂ h tk (E' : Value → Shared → Prop), LCg.NsObj oC m₂ → m₂ x = some v₁ → m₂ x₂ = some v₂ → Fr h₀ L h m → News h₀ L h ((I, oI) :: (C, oC) :: (D, LCg.lst ys) :: news) →
      wpAny (model prog w) A (eval elt (compEnvC scope cl C env)) (ElEnd h₀ L m ((I, oI) :: (C, oC) :: (D, LCg.lst ys) :: news) { s with heap := h, toks := tk } (fun y => G (i + 1) (ys ++ [y]))) E' { s with heap := h, toks := tk })
    (fin : ∀ ys, G n ys → Fin ys news) : LCp.CompRestP prog w A h₀ L m env elt x x₂ scope cl s S P Fin n 0 [] news := by
  have key : ∀ (j i : Nat) (ys : List Value), i + j = n → G i ys → LCp.CompRestP prog w A h₀ L m env elt x x₂ scope cl s S P Fin j i ys news := by
    intro j
    induction j with
    | zero =>
      intro i ys hi hy
      exact LCp.CompRestP.zero (fin ys ((show i = n by omega) ▸ hy))
    | succ j ih =>
      intro i ys hi hy
      refine LCp.CompRestP.succ fun v hv => ?_
      obtain ⟨t, ot, v₁, v₂, nt, e1, e2, e3, e4, h⟩ := turn i v ys (by omega) hv hy
      refine ⟨t, ot, v₁, v₂, nt, e1, e2, e3, e4, ?_⟩
      intro I oI C oC D m₂ hp tk E' hC hx hx2 F N off ne
      refine wpAny_mono (h I oI C oC D m₂ hp tk E' hC hx hx2 F N) (fun y s₂ hq => ?_) fun _ _ e => e
      obtain ⟨h', tk', e, F', N', g⟩ := hq
      exact ⟨h', tk', news, e, F', N', off, hS, ih (i + 1) _ (by omega) g⟩
  exact key n 0 [] (by omega) g0
end
end Mine

namespace Mine
variable {w : World} {mean : ExcName → Option Value} {mg mb : Str → Option Value}

def lawCode (n : Int) : Int := if n.fmod 1112064 < 55296 then n.fmod 1112064 else n.fmod 1112064 + 2048
theorem code_gives (n : Int) (tk : Tok) : Gv w mean mg mb 1 154 [.int n tk] (fun t => .int (lawCode n) t) := by
  k_with_none
  k_with "tree" => simp only [lawCode]
  w_on
  (have hfill : Fill PySem.Challenge.rw_ki0017_01 Mine.hd.heap_39 := by (k_fill; exact trivial)); clear hfill
  w_top on
  w_strict (
    unfold Gv
    intros
    rename_i hret
    refine wpAny_call ?_
    k_dflt cell_enter
    k_steps
    all_goals cb_end hret)

/-- pairs that the call has made, each told by R of its name -/
inductive PairsIn {α : Type} (R : α → Value → Value → Prop) (news : List (Addr × Obj)) : List Value → List α → Prop where
  | nil : PairsIn R news [] []
  | cons {t : Addr} {n : Nat} {v₁ v₂ : Value} {a : α} {vs : List Value} {l : List α} : (t, ({ cls := .type "tuple", data := .seq #[v₁, v₂] n } : Obj)) ∈ news → R a v₁ v₂ → PairsIn R news vs l → PairsIn R news (.ref t :: vs) (a :: l)
theorem PairsIn.get {α : Type} {R : α → Value → Value → Prop} {news : List (Addr × Obj)} {vs : List Value} {l : List α} (h : PairsIn R news vs l) : ∀ {i : Nat} {v : Value}, vs[i]? = some v →
    ∃ (t : Addr) (n : Nat) (v₁ v₂ : Value) (a : α), v = .ref t ∧ (t, ({ cls := .type "tuple", data := .seq #[v₁, v₂] n } : Obj)) ∈ news ∧ R a v₁ v₂ ∧ l[i]? = some a := by
  induction h with
  | nil => intro i v e; simp at e
  | cons hm hr _ ih =>
    intro i v e
    cases i with
    | zero => exact ⟨_, _, _, _, _, (Option.some.inj e).symm, hm, hr, rfl⟩
    | succ i => exact ih (by simpa using e)
theorem pairs_turn {α : Type} {R : α → Value → Value → Prop} {news : List (Addr × Obj)} {vs : List Value} {l : List α} {i : Nat} {v : Value} {Z : Value → Value → Prop} (hv : vs.toArray[i]? = some v) (hp : PairsIn R news vs l) (k : ∀ a v₁ v₂, l[i]? = some a → R a v₁ v₂ → Z v₁ v₂) :
    ∃ (t : Addr) (ot : Obj) (v₁ v₂ : Value) (nt : Nat), v = .ref t ∧ (t, ot) ∈ news ∧ ot.cls = .type "tuple" ∧ ot.data = .seq #[v₁, v₂] nt ∧ Z v₁ v₂ := by
  obtain ⟨t, n, v₁, v₂, a, e, hm, hr, ha⟩ := hp.get (by simpa only [List.getElem?_toArray] using hv)
  exact ⟨t, _, v₁, v₂, n, e, hm, rfl, rfl, k a v₁ v₂ ha hr⟩
def lawRow : List (Int × Str) := [(9, PySem.Str.ofString "c"), (1, PySem.Str.ofString "t"), (4, PySem.Str.ofString "w"), (18, PySem.Str.ofString "c"), (1, PySem.Str.ofString "b"), (15, PySem.Str.ofString "p"), (10, PySem.Str.ofString "d"), (7, PySem.Str.ofString "p"), (6, PySem.Str.ofString "F"), (20, PySem.Str.ofString "G"), (6, PySem.Str.ofString "p"), (6, PySem.Str.ofString "f"), (20, PySem.Str.ofString "g"), (4, PySem.Str.ofString "p"), (1, PySem.Str.ofString "e")]
def lawTexts : List Str := lawRow.map fun p => Txt.mul p.2 p.1
def RowR (p : Int × Str) (v₁ v₂ : Value) : Prop := ∃ t t', v₁ = .int p.1 t ∧ v₂ = .str p.2 t'
theorem lawRow_ok {i : Nat} {p : Int × Str} (h : lawRow[i]? = some p) : p.2.length ≤ 16 ∧ 0 ≤ p.1 ∧ p.1 ≤ 1000 := by
  have : ∀ q ∈ lawRow, q.2.length ≤ 16 ∧ 0 ≤ q.1 ∧ q.1 ≤ 1000 := by decide +kernel
  exact this p (List.mem_of_getElem? h)
theorem lawTexts_take {i : Nat} {p : Int × Str} {ys : List Value} {t : Tok} (h : lawRow[i]? = some p) (hy : StrsAre ys (lawTexts.take i)) : StrsAre (ys ++ [.str (Txt.mul p.2 p.1) t]) (lawTexts.take (i + 1)) := by
  have e : lawTexts[i]? = some (Txt.mul p.2 p.1) := by simp [lawTexts, h]
  rw [List.take_add_one, e]
  exact kct_snoc hy
def lawTable : Str := PySem.Str.ofString "ccccccccctwwwwccccccccccccccccccbpppppppppppppppddddddddddpppppppFFFFFFGGGGGGGGGGGGGGGGGGGGppppppffffffggggggggggggggggggggppppe"
theorem lawTable_is : Txt.join (PySem.Str.ofString "") (lawTexts.take 15) = lawTable := by decide +kernel

local macro_rules | `(tactic| walk_at "eval ListComp") => `(tactic| (k_here; lcp_look; k_dflt (refine LCp.ListComp_P (F₀ := by k_asm) (by with_unfolding_all rfl) (by decide) (by rfl) (by decide) (by rfl) (by rfl) (by decide) ?_)))
local macro_rules | `(tactic| walk_at "SrcLP") => `(tactic| (k_here; k_dflt (refine LCp.SrcLP.ledger (by rfl) (by k_asm) (by k_asm) (by k_mem) (by first | size_fits | exact Nat.le_of_ble_eq_true rfl) ?_; intro g'; refine' compP (fun i ys => StrsAre ys (lawTexts.take i)) ?s ?g0 ?_ ?_; (case s => exact Or.inr ⟨_, by k_mem, rfl, _, rfl⟩); (case g0 => exact .nil); intro i v ys hi hv hg; refine' pairs_turn (R := RowR) (l := lawRow) hv ?pr7 ?_; (case pr7 => repeat' (first | exact PairsIn.nil | (refine' PairsIn.cons ?m7 ?r7 ?_; (case m7 => k_mem); (case r7 => exact ⟨_, _, rfl, rfl⟩)))); intro p v₁ v₂ hp hR; (obtain ⟨t1, t2, e1, e2⟩ := hR); (subst e1); (subst e2); (have hb := lawRow_ok hp); (have b1 := hb.1); (have b2 := hb.2.1); (have b3 := hb.2.2); intro I' oI' C' oC' D' m' h' tk' E' hC' hx' hy' F' N')))
local macro_rules | `(tactic| walk_at "ElEnd") => `(tactic| (refine ElEnd.intro (by k_asm) (by k_asm) ?_; exact lawTexts_take (by assumption) (by assumption)))
local macro_rules | `(tactic| walk_at "forall") => `(tactic| k_dflt (intro ys hg; replace hg : StrsAre ys (lawTexts.take 15) := hg))
local macro_rules | `(tactic| walk_at "call builtin:str.join") => `(tactic| (k_here; k_dflt (refine' join_listW ?l7 ?i7 ?a7 ?b7 ?_; (case l7 => exact News.isList (by k_asm) (by k_mem)); (case i7 => assumption); (case a7 => decide +kernel); (case b7 => decide +kernel); intro _ _)))

theorem table_gives : Gs w mean mg mb 2 159 [] (fun t => .str lawTable t) := by
  k_with_none
  w_on
  (have hfill : Fill PySem.Challenge.rw_ki0017_01 Mine.hd.heap_39 := by (k_fill; exact trivial)); clear hfill
  w_top on
  w_strict (
    unfold Gs
    intros
    rename_i hret
    refine wpAny_call ?_
    k_dflt (refine' enter_stay ?k1 ?k2 ?k3 ?k5 ?kA ?kF ?kK ?k6 ?k7 ?k8 ?k9 ?kB ?_ ?c2 ?c3 ?c4 ?c5; (case kA => exact rfl); (case kF => exact rfl); (case kK => assumption); (case k1 => k_asm); (case k2 => k_asm); (case k3 => k_asm); (case k5 => k_asm); (case k6 => k_is); (case k7 => k_is); (case k8 => ktr_room); (case k9 => exact BindsTo.of_eq rfl); (case c5 => decide); (case kB => exact locs rfl); (case c2 => exact rfl); (case c3 => exact rfl); (case c4 => exact rfl); k_whole; intro g' L' h' SG F' N' B' X' T'; (try dsimp only); (try k_lift B'); (try k_fold))
    rename (∀ h', Heap.StaysIn _ h' → Heap.StaysIn _ h') => SG
    k_steps
    ((try intro hst); refine' st_retS hret ?e7 (SG _ ?st7); (case st7 => assumption); (case e7 => exact lawTable_is)))

end Mine

namespace Mine
variable {w : World} {mean : ExcName → Option Value} {mg mb : Str → Option Value}

def lawJudges : List (Addr × Str) := [(42, PySem.Str.ofString "ctwbpdFGfge"), (126, PySem.Str.ofString "m"), (56, PySem.Str.ofString "ctwe"), (119, PySem.Str.ofString "ctw"), (49, PySem.Str.ofString "tb"), (98, PySem.Str.ofString "twb"), (84, PySem.Str.ofString "bpdFGfg"), (70, PySem.Str.ofString "pdFGfg"), (28, PySem.Str.ofString "dFGfg"), (63, PySem.Str.ofString "d"), (112, PySem.Str.ofString "dFf"), (35, PySem.Str.ofString "FGfg"), (105, PySem.Str.ofString "FG"), (77, PySem.Str.ofString "fg")]
def JudgeR (p : Addr × Str) (v₁ v₂ : Value) : Prop := v₁ = .ref p.1 ∧ ∃ t, v₂ = .str p.2 t
/-- what _law_judges gives: a new list of new pairs -/
def GJ (w : World) (mean : ExcName → Option Value) (mg mb : Str → Option Value) (d : Nat) : Prop :=
  ∀ (dp un : Nat) (gd : Option (List Code)) (cn : Str) (cs : Scope) (a : Addr) (ccd : Value) (cl : List (Str × Addr)) (outer : List Env) (A₀ : Around) (base h₀ : Heap) (L : Addr) (m : Str → Option Value) (s : Shared) (Q E : Value → Shared → Prop),
    Below A₀ base outer h₀ → Fr h₀ L s.heap m → (Mine.hd.heap_39 w.params).In h₀ → Top Mine.hd.view_39 (looseW Mine.hd.view_39 []) mean mg mb h₀ → cs.kind = .function →
    dp + d < recursionLimit → un + 8 * d < cLine →
    (∀ (l : Addr) (vs : List Value) (k : Nat) (nw : List (Addr × Obj)) (h' : Heap) (tk' : Nat), s.heap.StaysIn h' → News h₀ L h' nw → (l, ({ cls := .type "list", data := .seq vs.toArray k } : Obj)) ∈ nw → PairsIn JudgeR nw vs lawJudges → Q (.ref l) { s with heap := h', toks := tk' }) →
    wpAny (model PySem.Challenge.rw_ki0017_01.row.prog w) (ktrTop dp un gd cn cs L a ccd cl outer) (call (.ref 166) []) Q E s
theorem judges_give : GJ w mean mg mb 1 := by
  k_with_none
  w_on
  (have hfill : Fill PySem.Challenge.rw_ki0017_01 Mine.hd.heap_39 := by (k_fill; exact trivial)); clear hfill
  w_top on
  w_strict (
    unfold GJ
    intros
    rename_i hret
    refine wpAny_call ?_
    k_dflt (refine' enter_stay ?k1 ?k2 ?k3 ?k5 ?kA ?kF ?kK ?k6 ?k7 ?k8 ?k9 ?kB ?_ ?c2 ?c3 ?c4 ?c5; (case kA => exact rfl); (case kF => exact rfl); (case kK => assumption); (case k1 => k_asm); (case k2 => k_asm); (case k3 => k_asm); (case k5 => k_asm); (case k6 => k_is); (case k7 => k_is); (case k8 => ktr_room); (case k9 => exact BindsTo.of_eq rfl); (case c5 => decide); (case kB => exact locs rfl); (case c2 => exact rfl); (case c3 => exact rfl); (case c4 => exact rfl); k_whole; intro g' L' h' SG F' N' B' X' T'; (try dsimp only); (try k_lift B'); (try k_fold))
    rename (∀ h', Heap.StaysIn _ h' → Heap.StaysIn _ h') => SG
    k_steps
    (try intro hst)
    refine' hret _ _ _ _ _ _ (SG _ ?st7) ?n7 ?m7 ?p7
    (case st7 => assumption)
    (case n7 => k_asm)
    (case m7 => k_mem)
    (case p7 => repeat' (first | exact PairsIn.nil | (refine' PairsIn.cons ?m8 ?r8 ?_; (case m8 => k_mem); (case r8 => exact ⟨rfl, _, rfl⟩)))))
end Mine

namespace Mine
theorem lawTable_len : lawTable.length = 128 := by decide +kernel
/-- the table's signs, written out, and the kinds there are -/
def tabL : List Nat := [99, 99, 99, 99, 99, 99, 99, 99, 99, 116, 119, 119, 119, 119, 99, 99, 99, 99, 99, 99, 99, 99, 99, 99, 99, 99, 99, 99, 99, 99, 99, 99, 98, 112, 112, 112, 112, 112, 112, 112, 112, 112, 112, 112, 112, 112, 112, 112, 100, 100, 100, 100, 100, 100, 100, 100, 100, 100, 112, 112, 112, 112, 112, 112, 112, 70, 70, 70, 70, 70, 70, 71, 71, 71, 71, 71, 71, 71, 71, 71, 71, 71, 71, 71, 71, 71, 71, 71, 71, 71, 71, 112, 112, 112, 112, 112, 112, 102, 102, 102, 102, 102, 102, 103, 103, 103, 103, 103, 103, 103, 103, 103, 103, 103, 103, 103, 103, 103, 103, 103, 103, 103, 103, 112, 112, 112, 112, 101]
def kindCodes : List Nat := [70, 71, 98, 99, 100, 101, 102, 103, 109, 110, 112, 116, 119]
theorem tab_item : ∀ k : Nat, k < 128 → Txt.item lawTable (k : Int) = ⟨#[tabL.getD k 0]⟩ := by decide +kernel
theorem tab_kind : ∀ k : Nat, k < 128 → tabL.getD k 0 ∈ kindCodes := by decide +kernel
theorem by_kind {g : Str → Bool} {C : List Nat} (hg : ∀ c ∈ kindCodes, g ⟨#[c]⟩ = C.contains c) {k : Nat} (hk : k < 128) : g (Txt.item lawTable (k : Int)) = C.contains (tabL.getD k 0) := by
  rw [tab_item k hk]
  exact hg _ (tab_kind k hk)
theorem tab_ctw (k : Nat) (hk : k < 128) : (Builtin.Str.occurrences (Str.ofString "ctw") (Txt.item lawTable (k : Int)) 0 (Str.ofString "ctw").length 1).isEmpty = !decide (k < 32) := by
  have e := by_kind (g := fun y => !(Builtin.Str.occurrences (Str.ofString "ctw") y 0 (Str.ofString "ctw").length 1).isEmpty) (C := [99, 116, 119]) (by decide +kernel) hk
  have f : ∀ k : Nat, k < 128 → List.contains [99, 116, 119] (tabL.getD k 0) = decide (k < 32) := by decide +kernel
  rw [f k hk] at e
  rw [← e, Bool.not_not]
theorem tab_e (k : Nat) (hk : k < 128) : (Txt.item lawTable (k : Int) == Str.ofString "e") = decide (k = 127) := by
  have e := by_kind (g := fun y => y == Str.ofString "e") (C := [101]) (by decide +kernel) hk
  have f : ∀ k : Nat, k < 128 → List.contains [101] (tabL.getD k 0) = decide (k = 127) := by decide +kernel
  rw [f k hk] at e
  exact e
theorem low_is (n : Int) : ∃ k : Nat, k < 128 ∧ n.fmod 128 = (k : Int) ∧ n % 128 = (k : Int) := by
  have e : n.fmod 128 = n % 128 := Int.fmod_eq_emod_of_nonneg n (by decide)
  refine ⟨(n % 128).toNat, ?_, ?_, ?_⟩ <;> omega
theorem high_is (n : Int) : ((n.fdiv 128).fmod 2 = 0 ∧ Builtin.bitAnd n 128 = 0) ∨ ((n.fdiv 128).fmod 2 = 1 ∧ Builtin.bitAnd n 128 = 128) := by
  have e1 : n.fdiv 128 = n / 128 := Int.fdiv_eq_ediv_of_nonneg n (by decide)
  have e2 : (n / 128).fmod 2 = (n / 128) % 2 := Int.fmod_eq_emod_of_nonneg _ (by decide)
  have e3 := kbt_bit n 7
  rw [e1, e2]
  have e4 : Builtin.bitAnd n 128 = n / 128 % 2 * 128 := e3
  rw [e4]
  omega
def ahead (n : Int) : Str := Txt.mul (Str.ofString "!") ((n.fdiv 128).fmod 2)
theorem unc_is (n : Int) : unc n = ahead n ++ uncRep n := by
  unfold unc ahead
  rcases high_is n with ⟨h1, h2⟩ | ⟨h1, h2⟩
  · rw [h1, h2, if_pos rfl, show Txt.mul (Str.ofString "!") 0 = Str.empty by decide +kernel, Str.empty_append]
  · rw [h1, h2, if_neg (by decide), show Txt.mul (Str.ofString "!") 1 = Str.ofString "!" by decide +kernel]
theorem or32_low (k : Nat) (h : k < 32) : Builtin.bitOr (k : Int) 32 + 32 = (k : Int) + 64 := by
  have : ∀ k : Nat, k < 32 → Builtin.bitOr (k : Int) 32 + 32 = (k : Int) + 64 := by decide +kernel
  exact this k h
theorem wr1 {n : Int} (h : n = 127) : ahead n ++ Str.ofString "^" ++ Str.ofString "?" = unc n := by
  subst h; decide +kernel
theorem wr2 {n : Int} (h : n ≠ 127) (h2 : (Txt.item lawTable (n.fmod 128) == Str.ofString "e") = true) : ahead n ++ Str.ofString "^" ++ Str.ofString "\x9f" = unc n := by
  obtain ⟨k, hk, e1, e2⟩ := low_is n
  rw [e1, tab_e k hk] at h2
  have hk7 : k = 127 := of_decide_eq_true h2
  subst hk7
  rw [unc_is, uncRep, if_neg h, bitAnd_m7, e2, if_neg (by omega), Str.append_assoc]
  congr 1
theorem wr3 {n : Int} (h1 : (Builtin.Str.occurrences (Str.ofString "ctw") (Txt.item lawTable (n.fmod 128)) 0 (Str.ofString "ctw").length 1).isEmpty = true) (h2 : (Txt.item lawTable (n.fmod 128) == Str.ofString "e") = false) :
    ahead n ++ ⟨#[(n.fmod 128).toNat]⟩ = unc n := by
  obtain ⟨k, hk, e1, e2⟩ := low_is n
  rw [e1, tab_e k hk] at h2
  rw [e1, tab_ctw k hk] at h1
  have hk7 : ¬ k = 127 := of_decide_eq_false h2
  have hk8 : ¬ k < 32 := by simpa using h1
  rw [unc_is, uncRep, bitAnd_m7, e1, e2, if_neg (by omega), if_pos (by omega)]
theorem wr4 {n : Int} (h1 : (Builtin.Str.occurrences (Str.ofString "ctw") (Txt.item lawTable (n.fmod 128)) 0 (Str.ofString "ctw").length 1).isEmpty = false) :
    ahead n ++ Str.ofString "^" ++ ⟨#[(n.fmod 128 + 64).toNat]⟩ = unc n := by
  obtain ⟨k, hk, e1, e2⟩ := low_is n
  rw [e1, tab_ctw k hk] at h1
  have hk8 : k < 32 := by simpa using h1
  rw [unc_is, uncRep, bitAnd_m7, e1, e2, if_neg (by omega), if_neg (by omega), or32_low k hk8, Str.append_assoc]
end Mine

namespace Mine
variable {w : World} {mean : ExcName → Option Value} {mg mb : Str → Option Value}

theorem writing_gives (n : Int) (tk tk' : Tok) : Gv w mean mg mb 1 173 [.int n tk, .str lawTable tk'] (fun t => .str (unc n) t) := by
  k_with_none
  have b1 := Int.fmod_nonneg_of_pos n (b := 128) (by decide)
  have b2 := Int.fmod_lt_of_pos n (b := 128) (by decide)
  have b3 := Int.fmod_nonneg_of_pos (n.fdiv 128) (b := 2) (by decide)
  have b4 := Int.fmod_lt_of_pos (n.fdiv 128) (b := 2) (by decide)
  have b5 := lawTable_len
  w_on
  (have hfill : Fill PySem.Challenge.rw_ki0017_01 Mine.hd.heap_39 := by (k_fill; exact trivial)); clear hfill
  w_top on
  w_strict (
    unfold Gv
    intros
    rename_i hret
    refine wpAny_call ?_
    k_dflt cell_enter
    k_steps
    all_goals (refine' cb_retS hret ?e7 ?f7 ?n7; (case f7 => k_asm); (case n7 => k_asm); (case e7 => first | exact wr1 (by assumption) | exact wr2 (by assumption) (by assumption) | exact wr3 (by assumption) (by assumption) | exact wr4 (by assumption))))

end Mine

namespace Mine
/-- the kind of a number by the law's table -/
def kindOf (n : Int) : Str := if n < 0 then Str.ofString "n" else if n > 127 then Str.ofString "m" else Txt.item lawTable n
def kin (K k : Str) : Bool := !(Builtin.Str.occurrences K k 0 K.length 1).isEmpty
theorem kinds {P : Int → Prop} [DecidablePred P] {g : Str → Bool} (C : List Nat) (h1 : ∀ n, n < 0 → ¬ P n) (h2 : ∀ n, n > 127 → decide (P n) = C.contains 109) (e1 : C.contains 110 = false) (hg : ∀ c ∈ kindCodes, g ⟨#[c]⟩ = C.contains c)
    (h3 : ∀ k : Nat, k < 128 → decide (P (k : Int)) = C.contains (tabL.getD k 0)) (n : Int) : decide (P n) = g (kindOf n) := by
  unfold kindOf
  by_cases a : n < 0
  · rw [if_pos a, show Str.ofString "n" = ⟨#[110]⟩ by decide +kernel, hg 110 (by decide), e1, decide_eq_false (h1 n a)]
  · by_cases b : n > 127
    · rw [if_neg a, if_pos b, show Str.ofString "m" = ⟨#[109]⟩ by decide +kernel, hg 109 (by decide), h2 n b]
    · rw [if_neg a, if_neg b]
      obtain ⟨k, rfl⟩ : ∃ k : Nat, n = (k : Int) := ⟨n.toNat, by omega⟩
      rw [by_kind hg (by omega)]
      exact h3 k (by omega)
theorem jd_isascii (n : Int) : decide (0 ≤ n ∧ n ≤ 127) = kin (Str.ofString "ctwbpdFGfge") (kindOf n) :=
  kinds (P := fun n => 0 ≤ n ∧ n ≤ 127) (g := kin (Str.ofString "ctwbpdFGfge")) [99, 116, 119, 98, 112, 100, 70, 71, 102, 103, 101] (fun n h => by omega) (fun n h => (decide_eq_false (by omega)).trans (by decide)) (by decide) (by decide +kernel) (by decide +kernel) n
theorem jd_ismeta (n : Int) : decide (127 < n) = kin (Str.ofString "m") (kindOf n) :=
  kinds (P := fun n => 127 < n) (g := kin (Str.ofString "m")) [109] (fun n h => by omega) (fun n h => (decide_eq_true (by omega)).trans (by decide)) (by decide) (by decide +kernel) (by decide +kernel) n
theorem jd_iscntrl (n : Int) : decide ((0 ≤ n ∧ n ≤ 31) ∨ n = 127) = kin (Str.ofString "ctwe") (kindOf n) :=
  kinds (P := fun n => (0 ≤ n ∧ n ≤ 31) ∨ n = 127) (g := kin (Str.ofString "ctwe")) [99, 116, 119, 101] (fun n h => by omega) (fun n h => (decide_eq_false (by omega)).trans (by decide)) (by decide) (by decide +kernel) (by decide +kernel) n
theorem jd_isctrl (n : Int) : decide (0 ≤ n ∧ n < 32) = kin (Str.ofString "ctw") (kindOf n) :=
  kinds (P := fun n => 0 ≤ n ∧ n < 32) (g := kin (Str.ofString "ctw")) [99, 116, 119] (fun n h => by omega) (fun n h => (decide_eq_false (by omega)).trans (by decide)) (by decide) (by decide +kernel) (by decide +kernel) n
theorem jd_isblank (n : Int) : decide (n = 9 ∨ n = 32) = kin (Str.ofString "tb") (kindOf n) :=
  kinds (P := fun n => n = 9 ∨ n = 32) (g := kin (Str.ofString "tb")) [116, 98] (fun n h => by omega) (fun n h => (decide_eq_false (by omega)).trans (by decide)) (by decide) (by decide +kernel) (by decide +kernel) n
theorem jd_isspace (n : Int) : decide (n = 9 ∨ n = 10 ∨ n = 11 ∨ n = 12 ∨ n = 13 ∨ n = 32) = kin (Str.ofString "twb") (kindOf n) :=
  kinds (P := fun n => n = 9 ∨ n = 10 ∨ n = 11 ∨ n = 12 ∨ n = 13 ∨ n = 32) (g := kin (Str.ofString "twb")) [116, 119, 98] (fun n h => by omega) (fun n h => (decide_eq_false (by omega)).trans (by decide)) (by decide) (by decide +kernel) (by decide +kernel) n
theorem jd_isprint (n : Int) : decide (32 ≤ n ∧ n ≤ 126) = kin (Str.ofString "bpdFGfg") (kindOf n) :=
  kinds (P := fun n => 32 ≤ n ∧ n ≤ 126) (g := kin (Str.ofString "bpdFGfg")) [98, 112, 100, 70, 71, 102, 103] (fun n h => by omega) (fun n h => (decide_eq_false (by omega)).trans (by decide)) (by decide) (by decide +kernel) (by decide +kernel) n
theorem jd_isgraph (n : Int) : decide (33 ≤ n ∧ n ≤ 126) = kin (Str.ofString "pdFGfg") (kindOf n) :=
  kinds (P := fun n => 33 ≤ n ∧ n ≤ 126) (g := kin (Str.ofString "pdFGfg")) [112, 100, 70, 71, 102, 103] (fun n h => by omega) (fun n h => (decide_eq_false (by omega)).trans (by decide)) (by decide) (by decide +kernel) (by decide +kernel) n
theorem jd_isalnum (n : Int) : decide (((65 ≤ n ∧ n ≤ 90) ∨ (97 ≤ n ∧ n ≤ 122)) ∨ (48 ≤ n ∧ n ≤ 57)) = kin (Str.ofString "dFGfg") (kindOf n) :=
  kinds (P := fun n => ((65 ≤ n ∧ n ≤ 90) ∨ (97 ≤ n ∧ n ≤ 122)) ∨ (48 ≤ n ∧ n ≤ 57)) (g := kin (Str.ofString "dFGfg")) [100, 70, 71, 102, 103] (fun n h => by omega) (fun n h => (decide_eq_false (by omega)).trans (by decide)) (by decide) (by decide +kernel) (by decide +kernel) n
theorem jd_isdigit (n : Int) : decide (48 ≤ n ∧ n ≤ 57) = kin (Str.ofString "d") (kindOf n) :=
  kinds (P := fun n => 48 ≤ n ∧ n ≤ 57) (g := kin (Str.ofString "d")) [100] (fun n h => by omega) (fun n h => (decide_eq_false (by omega)).trans (by decide)) (by decide) (by decide +kernel) (by decide +kernel) n
theorem jd_isxdigit (n : Int) : decide ((48 ≤ n ∧ n ≤ 57) ∨ (65 ≤ n ∧ n ≤ 70) ∨ (97 ≤ n ∧ n ≤ 102)) = kin (Str.ofString "dFf") (kindOf n) :=
  kinds (P := fun n => (48 ≤ n ∧ n ≤ 57) ∨ (65 ≤ n ∧ n ≤ 70) ∨ (97 ≤ n ∧ n ≤ 102)) (g := kin (Str.ofString "dFf")) [100, 70, 102] (fun n h => by omega) (fun n h => (decide_eq_false (by omega)).trans (by decide)) (by decide) (by decide +kernel) (by decide +kernel) n
theorem jd_isalpha (n : Int) : decide ((65 ≤ n ∧ n ≤ 90) ∨ (97 ≤ n ∧ n ≤ 122)) = kin (Str.ofString "FGfg") (kindOf n) :=
  kinds (P := fun n => (65 ≤ n ∧ n ≤ 90) ∨ (97 ≤ n ∧ n ≤ 122)) (g := kin (Str.ofString "FGfg")) [70, 71, 102, 103] (fun n h => by omega) (fun n h => (decide_eq_false (by omega)).trans (by decide)) (by decide) (by decide +kernel) (by decide +kernel) n
theorem jd_isupper (n : Int) : decide (65 ≤ n ∧ n ≤ 90) = kin (Str.ofString "FG") (kindOf n) :=
  kinds (P := fun n => 65 ≤ n ∧ n ≤ 90) (g := kin (Str.ofString "FG")) [70, 71] (fun n h => by omega) (fun n h => (decide_eq_false (by omega)).trans (by decide)) (by decide) (by decide +kernel) (by decide +kernel) n
theorem jd_islower (n : Int) : decide (97 ≤ n ∧ n ≤ 122) = kin (Str.ofString "fg") (kindOf n) :=
  kinds (P := fun n => 97 ≤ n ∧ n ≤ 122) (g := kin (Str.ofString "fg")) [102, 103] (fun n h => by omega) (fun n h => (decide_eq_false (by omega)).trans (by decide)) (by decide) (by decide +kernel) (by decide +kernel) n
theorem jd_ispunct (n : Int) : decide ((33 ≤ n ∧ n ≤ 126) ∧ ¬ (((65 ≤ n ∧ n ≤ 90) ∨ (97 ≤ n ∧ n ≤ 122)) ∨ (48 ≤ n ∧ n ≤ 57))) = (kindOf n == Str.ofString "p") :=
  kinds (P := fun n => (33 ≤ n ∧ n ≤ 126) ∧ ¬ (((65 ≤ n ∧ n ≤ 90) ∨ (97 ≤ n ∧ n ≤ 122)) ∨ (48 ≤ n ∧ n ≤ 57))) (g := fun k => k == Str.ofString "p") [112] (fun n h => by omega) (fun n h => (decide_eq_false (by omega)).trans (by decide)) (by decide) (by decide +kernel) (by decide +kernel) n
section
variable {w : World} {mean : ExcName → Option Value} {mg mb : Str → Option Value}
theorem Gv.mono {d d' : Nat} {f : Addr} {vs : List Value} {R R' : Tok → Value} (C : Gv w mean mg mb d f vs R) (h : d ≤ d') (e : ∀ t, R t = R' t) : Gv w mean mg mb d' f vs R' := by
  intro news dp un gd cn cs a ccd cl outer A₀ base h₀ L m s Q E B F X N T hk hd hu ret
  exact C news dp un gd cn cs a ccd cl outer A₀ base h₀ L m s Q E B F X N T hk (by omega) (by omega) fun t h' tk' F' N' => e t ▸ ret t h' tk' F' N'
theorem judge_gives {n : Int} {v : Value} (h : Thing n v) : ∀ {i : Nat} {p : Addr × Str}, lawJudges[i]? = some p → Gv w mean mg mb 5 p.1 [v] (fun _ => .bool (kin p.2 (kindOf n)))
  | 0, _, rfl => (isascii_gives h).mono (by decide) fun _ => congrArg Value.bool (jd_isascii n)
  | 1, _, rfl => (ismeta_gives h).mono (by decide) fun _ => congrArg Value.bool (jd_ismeta n)
  | 2, _, rfl => (iscntrl_gives h).mono (by decide) fun _ => congrArg Value.bool (jd_iscntrl n)
  | 3, _, rfl => (isctrl_gives h).mono (by decide) fun _ => congrArg Value.bool (jd_isctrl n)
  | 4, _, rfl => (isblank_gives h).mono (by decide) fun _ => congrArg Value.bool (jd_isblank n)
  | 5, _, rfl => (isspace_gives h).mono (by decide) fun _ => congrArg Value.bool (jd_isspace n)
  | 6, _, rfl => (isprint_gives h).mono (by decide) fun _ => congrArg Value.bool (jd_isprint n)
  | 7, _, rfl => (isgraph_gives h).mono (by decide) fun _ => congrArg Value.bool (jd_isgraph n)
  | 8, _, rfl => (isalnum_gives h).mono (by decide) fun _ => congrArg Value.bool (jd_isalnum n)
  | 9, _, rfl => (isdigit_gives h).mono (by decide) fun _ => congrArg Value.bool (jd_isdigit n)
  | 10, _, rfl => (isxdigit_gives h).mono (by decide) fun _ => congrArg Value.bool (jd_isxdigit n)
  | 11, _, rfl => (isalpha_gives h).mono (by decide) fun _ => congrArg Value.bool (jd_isalpha n)
  | 12, _, rfl => (isupper_gives h).mono (by decide) fun _ => congrArg Value.bool (jd_isupper n)
  | 13, _, rfl => (islower_gives h).mono (by decide) fun _ => congrArg Value.bool (jd_islower n)
  | _ + 14, _, e => by simp [lawJudges] at e
theorem punct_gives {n : Int} {v : Value} (h : Thing n v) : Gv w mean mg mb 5 91 [v] (fun _ => .bool (kindOf n == Str.ofString "p")) := (ispunct_gives h).mono (by decide) fun _ => congrArg Value.bool (jd_ispunct n)
end
end Mine

namespace Mine
section
variable {prog : Program} {w : World} {A : Around} {E : Value → Shared → Prop} {s : Shared} {env : Env} {h₀ : Heap} {body : List Stmt} {Q : Flow → Shared → Prop}
theorem isnot_same {b : Bool} {Q : Value → Shared → Prop} (h : Q (.bool false) s) : wpAny (model prog w) A (compareOp .IsNot (.bool b) (.bool b)) Q E s := by
  refine isnot_bool ?_
  cases b <;> exact h
/-- a for over a made list of made pairs; the frame's other names stay, and one made thing q is kept -/
theorem for_pairs {α : Type} {R : α → Value → Value → Prop} {lst : List α} {a b : Str} {pa pb tp : Pos} {kk : Nat} {l : Addr} {vs : List Value} {k : Nat} {m₀ : Str → Option Value} {news : List (Addr × Obj)} {q : Addr × Obj}
    (hh : A.handled = none) (ha : env.kindOf a = some .local) (hb : env.kindOf b = some .local) (hp : (env.scope.kind == .class || (env.scope.kind == .module && env.locals != env.globals)) = false)
    (F : Fr h₀ env.locals s.heap m₀) (N : News h₀ env.locals s.heap (q :: news)) (hm : (l, ({ cls := .type "list", data := .seq vs.toArray k } : Obj)) ∈ q :: news) (P : PairsIn R (q :: news) vs lst)
    (turn : ∀ (i : Nat) x v₁ v₂ h tk nws, lst[i]? = some x → R x v₁ v₂ → Fr h₀ env.locals h (fun z => if z = b then some v₂ else if z = a then some v₁ else m₀ z) → News h₀ env.locals h (q :: nws) →
      wpAny (model prog w) A (execs body env) (InvPost h₀ env.locals (fun m' => ∀ z, z ≠ a → z ≠ b → m' z = m₀ z) nws { s with heap := h, toks := tk } Q) E { s with heap := h, toks := tk })
    (done : ∀ (u : Str → Option Value) h tk, Fr h₀ env.locals h (fun z => if z = a then u z else if z = b then u z else m₀ z) → News h₀ env.locals h [q] → Q .next { s with heap := h, toks := tk }) :
    wpAny (model prog w) A (pyIter (.ref l)) (fun it s₂ => TurnsAt prog w A h₀ env (.Tuple [.Name a pa, .Name b pb] kk tp) body Q E it s₂) E s := by
  refine for_items (fun _ m' => ∀ z, z ≠ a → z ≠ b → m' z = m₀ z) hh hm F N (fun _ _ _ => rfl) ?_ ?_
  · intro i v m₁ h tk nws hv hj F₁ N₁ sub
    obtain ⟨t, n, v₁, v₂, x, rfl, hmt, hr, hx⟩ := P.get (by simpa only [List.getElem?_toArray] using hv)
    refine kcp_assign (a := a) (b := b) hh ⟨_, (N₁ _ (sub _ hmt)).1, rfl, _, rfl⟩ ha hb hp F₁.ns fun h' tk' hn hk => ?_
    have e : (fun z => if z = b then some v₂ else if z = a then some v₁ else m₁ z) = fun z => if z = b then some v₂ else if z = a then some v₁ else m₀ z := by
      funext z
      by_cases h1 : z = b
      · simp [h1]
      · by_cases h2 : z = a
        · simp [h2]
        · simp [h1, h2, hj z h2 h1]
    rw [e] at hn
    have F₂ : Fr h₀ env.locals h' (fun z => if z = b then some v₂ else if z = a then some v₁ else m₀ z) :=
      ⟨hn, fun c o q => hk c o (Nat.ne_of_lt (Nat.lt_of_lt_of_le (Heap.lt_size q) F₁.above)) (F₁.keep c o q), F₁.above⟩
    have N₂ : News h₀ env.locals h' (q :: nws) := fun p hp => by
      have hp' : p ∈ nws := by
        rcases List.mem_cons.mp hp with rfl | hp
        · exact sub _ List.mem_cons_self
        · exact hp
      exact ⟨hk _ _ (N₁ p hp').2.1 (N₁ p hp').1, (N₁ p hp').2⟩
    exact turn i x v₁ v₂ h' tk' nws hx hr F₂ N₂
  · intro m₁ h tk hj F₁ N₁
    refine done m₁ h tk ?_ fun p hp => N₁ p (by rw [List.mem_singleton.mp hp]; exact List.mem_cons_self)
    have e : (fun z => if z = a then m₁ z else if z = b then m₁ z else m₀ z) = m₁ := by
      funext z
      by_cases h1 : z = a
      · simp [h1]
      · by_cases h2 : z = b
        · simp [h2]
        · simp [h1, h2, hj z h1 h2]
    rw [e]
    exact F₁
end
section
variable {w : World} {mean : ExcName → Option Value} {mg mb : Str → Option Value}
theorem enter_stayC {prog : Program} {A A₀ : Around} {s : Shared} {K : Frag} {L : Addr} {h₀ base : Heap} {m : Str → Option Value} {p : Program} {loose : List Str} {env : Env} {outer : List Env} {R : Result → Shared → Prop} {name qual : Str} {params : Arguments} {body : List Stmt} {scope : Scope} {dV kV doc pm cdv ct oc : Value} {an od : Option Addr} {osl : Array (Option Value)} {f : Addr} {args : Args} {binds : List (Str × Value)}
    (B : Below A₀ base outer h₀) (F : Fr h₀ L s.heap m) (X₀ : K.In h₀) (T : Top p loose mean mg mb h₀) (hA : A.frames = some (env :: outer)) (hf : env.frame = some L) (hke : env.scope.kind = .function)
    (ho : K.lookup f = some ⟨oc, od, .func (fnOf name qual params body scope dV kV doc pm an cdv ct), osl⟩) (hcd : codeIn K cdv qual = true) (hroom : A.depth < recursionLimit)
    (hbind : BindsTo s (fnOf name qual params body scope dV kV doc pm an cdv ct) args binds) (hkind : (binds.all fun y => scope.names.lookup y.1 == some .local || scope.names.lookup y.1 == some .cell) = true)
    (hnd : ((cellsFrom 0 scope.names []).map (·.1)).Nodup)
    (h : ∀ g L' h₁ tk cells, (∀ h', g.StaysIn h' → s.heap.StaysIn h') → Fr g L' h₁ (bindL (envOfC qual scope L' f cdv).kindOf binds fun _ => none) → News g L' h₁ cells →
      CellsAre (bindC (envOfC qual scope L' f cdv).kindOf binds fun _ => none) (cellsFrom (L' + 1) scope.names []) cells → Below A base (env :: outer) g → K.In g → Top p loose mean mg mb g →
      wpAny (model prog w) (A.deeper (envOfC qual scope L' f cdv)) (execs body (envOfC qual scope L' f cdv))
        (fun fl s' => LeaveK h₀ L m g (fun r s' => g.StaysIn s'.heap → R r s') (match fl with | .ret v => v | _ => .none) s')
        (fun e s' => wpAny (model prog w) (A.deeper (envOfC qual scope L' f cdv)) (leaving (envOfC qual scope L' f cdv) e) (fun _ s'' => R (.error e) s'') (fun e' s'' => R (.error e') s'') s')
        { s with heap := h₁, toks := tk })
    (hco : scope.isCoroutine = false) (hgen : scope.isGenerator = false) (hk : scope.kind = .function) : codeAny (model prog w) A (.call (.ref f) args) R s := by
  have X := X₀.keeps F.keep
  have BG := pushX B F hf hke
  refine codeAny_call_function hroom (X _ _ ho) rfl hco hgen rfl (codeRec_of X hcd) (hbind _ _ _ _ ?_)
  refine wpAny_newFunctionEnv_cells hk (kindsX hkind _) fun env' he s' x => ?_
  subst he
  refine ⟨(T.nolimit.keeps F.keep).keeps x.toInCall.keep, codeAny_func ?_⟩
  obtain ⟨h₁, tk, rfl, _⟩ := x.done
  have hk₁ := x.toInCall.keep
  obtain ⟨cells, NC, Y⟩ := Cl.news (h₀ := s.heap) (Nat.le_refl _) fun n c hm => ⟨x.cell n c (lookup_of_mem_nodup (cellsFrom_names scope.names 0 (s.heap.objs.size + 1) [] [] rfl ▸ hnd) hm), x.above n c hm⟩
  refine wpAny_mono (h s.heap s.heap.objs.size h₁ tk cells (fun _ e => e) ⟨x.toInCall.ns, hk₁, Nat.le_refl _⟩ NC Y ⟨hA, BG.stays, BG.frames⟩ X (T.keeps F.keep)) (fun fl s' hl => ?_) fun _ _ y => y
  obtain ⟨L', m', news', F', N', k⟩ := hl
  refine k (stays_fr F F'.keep) (fun p hp => ⟨(N' p hp).1, fun q => ?_, ?_⟩) F'.keep
  · obtain ⟨oL, es, ep, hL, _⟩ := F.ns
    have := (N' p hp).2.2
    rw [q, hL] at this
    cases this
  · cases q : h₀.get? p.1 with
    | none => rfl
    | some o => have := (N' p hp).2.2; rw [F.keep _ _ q] at this; cases this
theorem PairsIn.mono {α : Type} {R : α → Value → Value → Prop} {news news' : List (Addr × Obj)} {vs : List Value} {l : List α} (h : PairsIn R news vs l) (hs : ∀ p ∈ news, p ∈ news') : PairsIn R news' vs l := by
  induction h with
  | nil => exact .nil
  | cons hm hr _ ih => exact .cons (hs _ hm) hr ih
theorem GJ.use {d : Nat} {dp un : Nat} {gd : Option (List Code)} {cn : Str} {cs : Scope} {a : Addr} {ccd : Value} {cl : List (Str × Addr)} {outer : List Env} {A₀ : Around} {base h₀ : Heap} {L : Addr} {m : Str → Option Value} {s : Shared} {Q E : Value → Shared → Prop} {news : List (Addr × Obj)}
    (C : GJ w mean mg mb d) (B : Below A₀ base outer h₀) (F : Fr h₀ L s.heap m) (X : (Mine.hd.heap_39 w.params).In h₀) (N : News h₀ L s.heap news) (T : Top Mine.hd.view_39 (looseW Mine.hd.view_39 []) mean mg mb h₀) (hk : cs.kind = .function)
    (hd : dp + d < recursionLimit) (hu : un + 8 * d < cLine)
    (ret : ∀ (l : Addr) (vs : List Value) (k : Nat) (nw : List (Addr × Obj)) (h' : Heap) (tk' : Nat), Fr h₀ L h' m → News h₀ L h' (news ++ nw) → (l, ({ cls := .type "list", data := .seq vs.toArray k } : Obj)) ∈ news ++ nw → PairsIn JudgeR (news ++ nw) vs lawJudges → Q (.ref l) { s with heap := h', toks := tk' }) :
    wpAny (model PySem.Challenge.rw_ki0017_01.row.prog w) (ktrTop dp un gd cn cs L a ccd cl outer) (call (.ref 166) []) Q E s :=
  C _ _ _ _ _ _ _ _ _ _ _ _ _ _ _ _ _ B F X T hk hd hu fun l vs k nw h' tk' st N' hm P => ret l vs k nw h' tk' (stays_fr F st)
    (fun p hp => (List.mem_append.mp hp).elim (fun q => stays_news N st p q) (fun q => N' p q)) (List.mem_append_right _ hm) (P.mono fun p hp => List.mem_append_right _ hp)
end
end Mine

namespace Mine
variable {w : World} {mean : ExcName → Option Value} {mg mb : Str → Option Value}

theorem shaped_two {a b : Nat} (ha : a < 1114112) (hb : b < 1114112) : SeqAt.shaped (.list [.str ⟨#[a]⟩, .str ⟨#[b]⟩]) = true := by
  simp [SeqAt.shaped, PyData.canLay0, PyData.canLayAll0, PyData.strOk, PyData.depth, PyData.depthAll, ha, hb]
theorem ne_same {prog : Program} {A : Around} {E : Value → Shared → Prop} {s : Shared} {a b : Value} {d : PyData} {as bs : List Addr} {Q : Value → Shared → Prop} (ra : Reads s.heap a d as) (rb : Reads s.heap b d bs) (ha : SeqAt.shaped d = true) (hu : A.units + 64 < cLine)
    (h : Q (.bool false) s) : wpAny (model prog w) A (compareOp .NotEq a b) Q E s := ne_dataH ra rb ha ha hu (by rw [SeqAt.eqv_refl d (SeqAt.canLay_of_shaped ha)]; exact h)
theorem bitAnd31 (n : Int) : Builtin.bitAnd n 31 = n.fmod 32 := by rw [bitAnd_m5, Int.fmod_eq_emod_of_nonneg n (by decide)]
theorem bitOr128 (n : Int) : Builtin.bitOr n 128 = n + 128 * (1 - (n.fdiv 128).fmod 2) := by
  rw [bitOr_and]
  rcases high_is n with ⟨h1, h2⟩ | ⟨h1, h2⟩ <;> rw [h1, h2] <;> omega
theorem ctrl_int' (n : Int) (tk : Tok) : Gv w mean mg mb 2 133 [.int n tk] (fun t => .int (n.fmod 32) t) := (ctrl_int n tk).mono (by decide) fun t => by rw [bitAnd31]
theorem ctrl_str' (c : Nat) (tk : Tok) : Gv w mean mg mb 2 133 [.str ⟨#[c]⟩ tk] (fun t => .str ⟨#[((c : Int).fmod 32).toNat]⟩ t) := (ctrl_str c tk).mono (by decide) fun t => by rw [bitAnd31]
theorem alt_int' (n : Int) (tk : Tok) : Gv w mean mg mb 2 140 [.int n tk] (fun t => .int (n + 128 * (1 - (n.fdiv 128).fmod 2)) t) := (alt_int n tk).mono (by decide) fun t => by rw [bitOr128]
/-- every bit but the eighth stays, so a code stays a code -/
theorem alt_code {c : Nat} (hc : c ≤ 1114111) : 0 ≤ (c : Int) + 128 * (1 - ((c : Int).fdiv 128).fmod 2) ∧ (c : Int) + 128 * (1 - ((c : Int).fdiv 128).fmod 2) ≤ 1114111 := by
  have e1 : (c : Int).fdiv 128 = (c : Int) / 128 := Int.fdiv_eq_ediv_of_nonneg _ (by decide)
  have e2 : ((c : Int) / 128).fmod 2 = ((c : Int) / 128) % 2 := Int.fmod_eq_emod_of_nonneg _ (by decide)
  rw [e1, e2]
  omega
theorem alt_str' (c : Nat) (tk : Tok) (hc : c ≤ 1114111) : Gv w mean mg mb 2 140 [.str ⟨#[c]⟩ tk] (fun t => .str ⟨#[((c : Int) + 128 * (1 - ((c : Int).fdiv 128).fmod 2)).toNat]⟩ t) :=
  (alt_str c tk (by rw [bitOr128]; exact alt_code hc)).mono (by decide) fun t => by rw [bitOr128]
theorem kind_n {n : Int} (h : n < 0) : kindOf n = Str.ofString "n" := by rw [kindOf, if_pos h]
theorem kind_m {n : Int} (h : ¬ n < 0) (h2 : n > 127) : kindOf n = Str.ofString "m" := by rw [kindOf, if_neg h, if_pos h2]
theorem kind_t {n : Int} (h : ¬ n < 0) (h2 : ¬ n > 127) : kindOf n = Txt.item lawTable n := by rw [kindOf, if_neg h, if_neg h2]
/-- the kind is told -/
def KindEnd (n : Int) (s : Shared) (v : Value) (s' : Shared) : Prop := ∃ t tk', v = .str (kindOf n) t ∧ s' = { s with toks := tk' }
theorem KindEnd.intro {n : Int} {s : Shared} {x : Str} {t : Tok} {tk' : Nat} (e : kindOf n = x) : KindEnd n s (.str x t) { s with toks := tk' } := ⟨t, tk', by rw [e], rfl⟩
theorem KindEnd.cut {M : Model} {A : Around} {E : Value → Shared → Prop} {n : Int} {s : Shared} {tree : Sem Value} {Q : Value → Shared → Prop} {v₀ : Value} (_ : Thing n v₀) (h : wpAny M A tree (KindEnd n s) E s) (k : ∀ t tk', Q (.str (kindOf n) t) { s with toks := tk' }) : wpAny M A tree Q E s :=
  wpAny_mono h (by rintro v s' ⟨t, tk', rfl, rfl⟩; exact k t tk') (fun _ _ e => e)
theorem keep_judge : ∀ {i : Nat} {p : Addr × Str}, lawJudges[i]? = some p → keepIn (Mine.hd.heap_39 w.params) (.ref p.1) = true
  | 0, _, rfl => by rfl
  | 1, _, rfl => by rfl
  | 2, _, rfl => by rfl
  | 3, _, rfl => by rfl
  | 4, _, rfl => by rfl
  | 5, _, rfl => by rfl
  | 6, _, rfl => by rfl
  | 7, _, rfl => by rfl
  | 8, _, rfl => by rfl
  | 9, _, rfl => by rfl
  | 10, _, rfl => by rfl
  | 11, _, rfl => by rfl
  | 12, _, rfl => by rfl
  | 13, _, rfl => by rfl
  | _ + 14, _, e => by simp [lawJudges] at e
local macro_rules | `(tactic| walk_at "call ref") => `(tactic| (k_here; (with_reducible show wpAny _ _ (PySem.call (Value.ref 91) [_]) _ _ _); k_dflt (refine' Gv.use (punct_gives ?kC) ?k1 ?k2 ?k3 ?k4 ?k5 ?k6 ?kd ?ku ?_; (case kC => assumption); (case k1 => k_asm); (case k2 => k_asm); (case k3 => k_asm); (case k4 => k_asm); (case k5 => k_asm); (case k6 => first | exact rfl | assumption); (case kd => ktr_room); (case ku => ktr_units); intro t9 h9 tk9 F9 N9; (try dsimp only); (try k_fold))))
local macro_rules | `(tactic| walk_at "call ref") => `(tactic| (k_here; (with_reducible show wpAny _ _ (PySem.call (Value.ref 147) [_]) _ _ _); k_dflt (refine' Gv.use (unctrl_gives ?kC) ?k1 ?k2 ?k3 ?k4 ?k5 ?k6 ?kd ?ku ?_; (case kC => assumption); (case k1 => k_asm); (case k2 => k_asm); (case k3 => k_asm); (case k4 => k_asm); (case k5 => k_asm); (case k6 => first | exact rfl | assumption); (case kd => ktr_room); (case ku => ktr_units); intro t9 h9 tk9 F9 N9; (try dsimp only); (try k_fold))))
local macro_rules | `(tactic| walk_at "call ref") => `(tactic| (k_here; (with_reducible show wpAny _ _ (PySem.call (Value.ref 173) [_, _]) _ _ _); k_dflt (refine' Gv.use (writing_gives _ _ _) ?k1 ?k2 ?k3 ?k4 ?k5 ?k6 ?kd ?ku ?_; (case k1 => k_asm); (case k2 => k_asm); (case k3 => k_asm); (case k4 => k_asm); (case k5 => k_asm); (case k6 => first | exact rfl | assumption); (case kd => ktr_room); (case ku => ktr_units); intro t9 h9 tk9 F9 N9; (try dsimp only); (try k_fold))))
local macro_rules | `(tactic| walk_at "call ref") => `(tactic| (k_here; (with_reducible show wpAny _ _ (PySem.call (Value.ref 133) [Value.int _ _]) _ _ _); k_dflt (refine' Gv.use (ctrl_int' _ _) ?k1 ?k2 ?k3 ?k4 ?k5 ?k6 ?kd ?ku ?_; (case k1 => k_asm); (case k2 => k_asm); (case k3 => k_asm); (case k4 => k_asm); (case k5 => k_asm); (case k6 => first | exact rfl | assumption); (case kd => ktr_room); (case ku => ktr_units); intro t9 h9 tk9 F9 N9; (try dsimp only); (try k_fold))))
local macro_rules | `(tactic| walk_at "call ref") => `(tactic| (k_here; (with_reducible show wpAny _ _ (PySem.call (Value.ref 140) [Value.int _ _]) _ _ _); k_dflt (refine' Gv.use (alt_int' _ _) ?k1 ?k2 ?k3 ?k4 ?k5 ?k6 ?kd ?ku ?_; (case k1 => k_asm); (case k2 => k_asm); (case k3 => k_asm); (case k4 => k_asm); (case k5 => k_asm); (case k6 => first | exact rfl | assumption); (case kd => ktr_room); (case ku => ktr_units); intro t9 h9 tk9 F9 N9; (try dsimp only); (try k_fold))))
local macro_rules | `(tactic| walk_at "call ref") => `(tactic| (k_here; (with_reducible show wpAny _ _ (PySem.call (Value.ref 133) [Value.str _ _]) _ _ _); k_dflt (refine' Gv.use (ctrl_str' _ _) ?k1 ?k2 ?k3 ?k4 ?k5 ?k6 ?kd ?ku ?_; (case k1 => k_asm); (case k2 => k_asm); (case k3 => k_asm); (case k4 => k_asm); (case k5 => k_asm); (case k6 => first | exact rfl | assumption); (case kd => ktr_room); (case ku => ktr_units); intro t9 h9 tk9 F9 N9; (try dsimp only); (try k_fold))))
local macro_rules | `(tactic| walk_at "call ref") => `(tactic| (k_here; (with_reducible show wpAny _ _ (PySem.call (Value.ref 140) [Value.str _ _]) _ _ _); k_dflt (refine' Gv.use (alt_str' _ _ ?kC) ?k1 ?k2 ?k3 ?k4 ?k5 ?k6 ?kd ?ku ?_; (case kC => assumption); (case k1 => k_asm); (case k2 => k_asm); (case k3 => k_asm); (case k4 => k_asm); (case k5 => k_asm); (case k6 => first | exact rfl | assumption); (case kd => ktr_room); (case ku => ktr_units); intro t9 h9 tk9 F9 N9; (try dsimp only); (try k_fold))))
local macro_rules | `(tactic| walk_at "call ref") => `(tactic| (k_here; (with_reducible show wpAny _ _ (PySem.call (Value.ref 166) _) _ _ _); k_dflt (refine' GJ.use judges_give ?k1 ?k2 ?k3 ?k4 ?k5 ?k6 ?kd ?ku ?_; (case k1 => k_asm); (case k2 => k_asm); (case k3 => k_asm); (case k4 => k_asm); (case k5 => k_asm); (case k6 => first | exact rfl | assumption); (case kd => ktr_room); (case ku => ktr_units); intro l9 vs9 k9 nw9 h9 tk9 F9 N9 M9 P9; (try simp only [List.cons_append, List.nil_append] at N9 M9 P9); (try dsimp only); (try k_fold))))
local macro_rules | `(tactic| walk_at "exec For Tuple Call cons nil") => `(tactic| (k_here; (rename Fr _ _ _ _ => lF'); (with_unfolding_all refine For_turns lF' ?_)))
local macro_rules | `(tactic| walk_at "pyIter ref") => `(tactic| (k_here; k_dflt (refine' for_pairs (R := JudgeR) (lst := lawJudges) ?hh ?ha ?hb ?hp ?F ?N ?hm ?P ?_ ?_; (case hh => exact rfl); (case ha => exact rfl); (case hb => exact rfl); (case hp => exact rfl); (case F => k_asm); (case N => k_asm); (case hm => assumption); (case P => assumption); intro i p v₁ v₂ h' tk' nws hp hR F' N'; (obtain ⟨e1, t2, e2⟩ := hR); (subst e1); (subst e2); (have hG := judge_gives (w := w) (mean := mean) (mg := mg) (mb := mb) (by assumption) hp); (have hK := keep_judge (w := w) hp))))
local macro_rules | `(tactic| walk_at "forall") => `(tactic| (intro u9 h' tk' F' N'))
local macro_rules | `(tactic| walk_at "callWith") => `(tactic| (k_here; k_dflt (refine' callWith_K ?k1 ?k2 ?_; (case k1 => k_asm); (case k2 => assumption); k_whole)))
local macro_rules | `(tactic| walk_at "call ref") => `(tactic| (k_here; k_dflt (refine' Gv.use ?kC ?k1 ?k2 ?k3 ?k4 ?k5 ?k6 ?kd ?ku ?_; (case kC => assumption); (case k1 => k_asm); (case k2 => k_asm); (case k3 => k_asm); (case k4 => k_asm); (case k5 => k_asm); (case k6 => first | exact rfl | assumption); (case kd => ktr_room); (case ku => ktr_units); intro t9 h9 tk9 F9 N9; (try dsimp only); (try k_fold))))
local macro_rules | `(tactic| walk_at "compareOp IsNot bool bool") => `(tactic| k_dflt (refine isnot_same ?_))
local macro_rules | `(tactic| walk_at "InvEnd") => `(tactic| (refine InvEnd.intro (by assumption) (by assumption) (fun p hp => List.mem_cons_of_mem _ hp) ?_; intro z h1 h2; simp [h1, h2]))
local macro_rules | `(tactic| walk_at "eval IfExp Compare Constant IfExp") => `(tactic| ((fail_if_success (with_reducible show wpAny _ _ _ (KindEnd _ _) _ _)); k_dflt (refine' KindEnd.cut ?hT9 ?_ ?_; (case hT9 => assumption))))
local macro_rules | `(tactic| walk_at "KindEnd") => `(tactic| k_dflt (first | exact KindEnd.intro (kind_n (by omega)) | exact KindEnd.intro (kind_m (by omega) (by omega)) | exact KindEnd.intro (kind_t (by omega) (by omega))))
local macro_rules | `(tactic| walk_at "compareOp NotEq ref ref") => `(tactic| (k_here; k_dflt (refine' ne_same ?ra ?rb ?sh ?u ?_; (case ra => ke_read); (case rb => ke_read); (case sh => first | exact rfl | exact shaped_two (by omega) (by omega)); (case u => ktr_units))))
local macro_rules | `(tactic| walk_at "eval ListComp") => `(tactic| (k_here; k_dflt (refine LCg.ListComp_U (F₀ := by k_asm) (by with_unfolding_all rfl) (by decide) (by rfl) (by decide) (by rfl) ?_)))
local macro_rules | `(tactic| walk_at "exec Assign cons ListComp") => `(tactic| (k_here; k_dflt (refine LCg.Assign_ListComp_U (F₀ := by k_asm) (by rfl) (by with_unfolding_all rfl) (by with_unfolding_all rfl) (by decide) (by rfl) (by decide) (by rfl) (by rfl) (by rfl) ?_)))
local macro_rules | `(tactic| walk_at "CompSrc") => `(tactic| (k_here; k_dflt (refine LCg.CompSrc.ledger (by rfl) (by k_asm) (by k_asm) (by k_mem) (by first | size_fits | exact Nat.le_of_ble_eq_true rfl) ?_; intro g'; lcg_lit)))

theorem holds_int (n : Int) (tk tk' tk'' : Tok) : Gs w mean mg mb 20 178 [.int n tk, .int n tk', .str lawTable tk''] (fun _ => .bool true) := by
  k_with_none
  have hT : Thing n (.int n tk) := .int _
  have b3 := Int.fmod_nonneg_of_pos (n.fdiv 128) (b := 2) (by decide)
  have b4 := Int.fmod_lt_of_pos (n.fdiv 128) (b := 2) (by decide)
  have b5 := lawTable_len
  w_on
  (have hfill : Fill PySem.Challenge.rw_ki0017_01 Mine.hd.heap_39 := by (k_fill; exact trivial)); clear hfill
  w_top on
  w_strict (
    unfold Gs
    intros
    rename_i hret
    refine wpAny_call ?_
    k_dflt (refine' enter_stayC ?k1 ?k2 ?k3 ?k5 ?kA ?kF ?kK ?k6 ?k7 ?k8 ?k9 ?kB ?kD ?_ ?c2 ?c3 ?c4; (case kA => exact rfl); (case kF => exact rfl); (case kK => assumption); (case k1 => k_asm); (case k2 => k_asm); (case k3 => k_asm); (case k5 => k_asm); (case k6 => k_is); (case k7 => k_is); (case k8 => ktr_room); (case k9 => exact BindsTo.of_eq rfl); (case kB => exact rfl); (case kD => decide +kernel); (case c2 => exact rfl); (case c3 => exact rfl); (case c4 => exact rfl); k_whole; intro g' L' h' tk' cells' SG F' N' Y' B' X' T'; k_cells Y'; (try simp only [List.cons_append, List.nil_append] at N'); (try dsimp only); (try k_lift B'); (try k_fold))
    rename (∀ h', Heap.StaysIn _ h' → Heap.StaysIn _ h') => SG
    k_steps
    (all_goals ((try intro hst); refine' st_retB hret ?e7 (SG _ ?st7); (case st7 => assumption); (case e7 => exact beq_self_eq_true _))))

theorem holds_str (c : Nat) (hc : c ≤ 1114111) (tk tk' tk'' : Tok) : Gs w mean mg mb 20 178 [.str ⟨#[c]⟩ tk, .int (c : Int) tk', .str lawTable tk''] (fun _ => .bool true) := by
  k_with_none
  have hT : Thing (c : Int) (.str ⟨#[c]⟩ tk) := .str _ _ rfl
  have b1 := Int.fmod_nonneg_of_pos (c : Int) (b := 32) (by decide)
  have b2 := Int.fmod_lt_of_pos (c : Int) (b := 32) (by decide)
  have b3 := Int.fmod_nonneg_of_pos ((c : Int).fdiv 128) (b := 2) (by decide)
  have b4 := Int.fmod_lt_of_pos ((c : Int).fdiv 128) (b := 2) (by decide)
  have b5 := lawTable_len
  have b6 := (alt_code hc).1
  have b7 := (alt_code hc).2
  w_on
  (have hfill : Fill PySem.Challenge.rw_ki0017_01 Mine.hd.heap_39 := by (k_fill; exact trivial)); clear hfill
  w_top on
  w_strict (
    unfold Gs
    intros
    rename_i hret
    refine wpAny_call ?_
    k_dflt (refine' enter_stayC ?k1 ?k2 ?k3 ?k5 ?kA ?kF ?kK ?k6 ?k7 ?k8 ?k9 ?kB ?kD ?_ ?c2 ?c3 ?c4; (case kA => exact rfl); (case kF => exact rfl); (case kK => assumption); (case k1 => k_asm); (case k2 => k_asm); (case k3 => k_asm); (case k5 => k_asm); (case k6 => k_is); (case k7 => k_is); (case k8 => ktr_room); (case k9 => exact BindsTo.of_eq rfl); (case kB => exact rfl); (case kD => decide +kernel); (case c2 => exact rfl); (case c3 => exact rfl); (case c4 => exact rfl); k_whole; intro g' L' h' tk' cells' SG F' N' Y' B' X' T'; k_cells Y'; (try simp only [List.cons_append, List.nil_append] at N'); (try dsimp only); (try k_lift B'); (try k_fold))
    rename (∀ h', Heap.StaysIn _ h' → Heap.StaysIn _ h') => SG
    k_steps
    (all_goals ((try intro hst); refine' st_retB hret ?e7 (SG _ ?st7); (case st7 => assumption); (case e7 => exact beq_self_eq_true _))))

end Mine

namespace Mine
section
variable {M : Model} {A : Around} {E : Value → Shared → Prop} {s : Shared}
theorem raiseMade {α : Type} {cls msg : String} {Q : α → Shared → Prop} (hp : PlainExc cls) (hh : A.handled = none) (hm : (msg : Str).length ≤ sizeLine)
    (h : ∀ h' tk e vs, Heap.MadeExc s.heap h' e cls vs → E (.ref e) { s with heap := h', toks := tk }) : wpAny M A (raiseErrorMade cls msg : Sem α) Q E s := by
  unfold raiseErrorMade
  refine wpAny_bind (wpAny_mkStr (wpAny_bind ?_) hm)
  exact wpAny_newExc_plain hp (fun h' e x => wpAny_raiseNew_none hh (h _ _ _ _ x))
end
theorem ord_words : ∀ n : Nat, n < 25 → ((s!"ord() expected a character, but string of length {n} found" : String) : Str).length ≤ sizeLine := by decide +kernel
theorem ord_tree (t : Tok) : ∀ l : List Nat, l.length ≠ 1 → Builtin.«ord» ⟨[.str ⟨⟨l⟩⟩ t], []⟩ = (do rule "ord.length"; raiseErrorMade "TypeError" s!"ord() expected a character, but string of length {l.length} found")
  | [], _ => rfl
  | [_], h => absurd rfl h
  | _ :: _ :: _, _ => rfl
theorem ord_raises {prog : Program} {w : World} {A : Around} {E : Value → Shared → Prop} {s : Shared} {x : Str} {t : Tok} {Q : Value → Shared → Prop} (h1 : x.length ≠ 1) (h2 : x.length < 25) (hh : A.handled = none)
    (h : ∀ h' tk e vs, Heap.MadeExc s.heap h' e "TypeError" vs → E (.ref e) { s with heap := h', toks := tk }) : wpAny (model prog w) A (call (.builtin "ord") [.str x t]) Q E s := by
  obtain ⟨⟨l⟩⟩ := x
  have e1 : l.length ≠ 1 := h1
  have e2 : l.length < 25 := h2
  refine call_function_meets F.kind_ord F.plain_ord F.entry_ord (F.args_ord1 _) (S := fun A R s => A.handled = none ∧ ∀ h' tk e vs, Heap.MadeExc s.heap h' e "TypeError" vs → R (.error (.ref e)) { s with heap := h', toks := tk }) ?_ ⟨hh, h⟩
  intro prog w A R s hs
  rw [ord_tree t l e1]
  exact wpAny_bind (wpAny_rule (raiseMade plainExc_TypeError hs.1 (ord_words _ e2) hs.2))
section
variable {w : World} {mean : ExcName → Option Value} {mg mb : Str → Option Value}
/-- a call raises TypeError; what stood, stands, but the notes of the frames -/
def Rs (w : World) (mean : ExcName → Option Value) (mg mb : Str → Option Value) (d : Nat) (f : Addr) (vs : List Value) : Prop :=
  ∀ (news : List (Addr × Obj)) (dp un : Nat) (gd : Option (List Code)) (cn : Str) (cs : Scope) (a : Addr) (ccd : Value) (outer : List Env) (A₀ : Around) (base h₀ : Heap) (L : Addr) (m : Str → Option Value) (s : Shared) (Q E : Value → Shared → Prop),
    Below A₀ base outer h₀ → Fr h₀ L s.heap m → (Mine.hd.heap_39 w.params).In h₀ → News h₀ L s.heap news → Top Mine.hd.view_39 (looseW Mine.hd.view_39 []) mean mg mb h₀ → cs.kind = .function →
    dp + d < recursionLimit → un + 8 * d < cLine →
    (∀ (e t : Addr) (us : List Value) (h' G : Heap) (tk' : Nat), Fr h₀ L G m → RaisedS base G (envOf cn cs L a ccd :: outer) e (.type "TypeError") t us news h' → G.UpToSlots h' → E (.ref e) { s with heap := h', toks := tk' }) →
    wpAny (model PySem.Challenge.rw_ki0017_01.row.prog w) (ktrTop dp un gd cn cs L a ccd [] outer) (call (.ref f) vs) Q E s
theorem Rs.use {d : Nat} {f : Addr} {vs : List Value} {news : List (Addr × Obj)} {dp un : Nat} {gd : Option (List Code)} {cn : Str} {cs : Scope} {a : Addr} {ccd : Value} {outer : List Env} {A₀ : Around} {base h₀ : Heap} {L : Addr} {m : Str → Option Value} {s : Shared} {Q E : Value → Shared → Prop}
    (C : Rs w mean mg mb d f vs) (B : Below A₀ base outer h₀) (F : Fr h₀ L s.heap m) (X : (Mine.hd.heap_39 w.params).In h₀) (N : News h₀ L s.heap news) (T : Top Mine.hd.view_39 (looseW Mine.hd.view_39 []) mean mg mb h₀) (hk : cs.kind = .function)
    (hd : dp + d < recursionLimit) (hu : un + 8 * d < cLine)
    (ret : ∀ (e t : Addr) (us : List Value) (h' G : Heap) (tk' : Nat), Fr h₀ L G m → RaisedS base G (envOf cn cs L a ccd :: outer) e (.type "TypeError") t us news h' → G.UpToSlots h' → E (.ref e) { s with heap := h', toks := tk' }) :
    wpAny (model PySem.Challenge.rw_ki0017_01.row.prog w) (ktrTop dp un gd cn cs L a ccd [] outer) (call (.ref f) vs) Q E s :=
  C _ _ _ _ _ _ _ _ _ _ _ _ _ _ _ _ _ B F X N T hk hd hu ret
theorem Rs.mono {d d' : Nat} {f : Addr} {vs : List Value} (C : Rs w mean mg mb d f vs) (h : d ≤ d') : Rs w mean mg mb d' f vs := by
  intro news dp un gd cn cs a ccd outer A₀ base h₀ L m s Q E B F X N T hk hd hu ret
  exact C news dp un gd cn cs a ccd outer A₀ base h₀ L m s Q E B F X N T hk (by omega) (by omega) ret
end
end Mine

namespace Mine
variable {w : World} {mean : ExcName → Option Value} {mg mb : Str → Option Value}
local macro_rules | `(tactic| walk_at "call builtin:ord") => `(tactic| (k_here; k_dflt (refine' ord_raises ?k1 ?k2 ?k3 ?_; (case k1 => assumption); (case k2 => assumption); (case k3 => exact rfl); intro h9 tk9 e9 u9 X9; (try dsimp only))))
local macro_rules | `(tactic| walk_at "leaving ref") => `(tactic| (k_here; k_dflt (refine' leave_onS ?k1 ?k2 ?k3 ?k4 ?_; (case k3 => assumption); (case k1 => k_asm); (case k2 => k_asm); (case k4 => assumption); intro h9 R9 K9 U9; (try dsimp only))))
local macro_rules | `(tactic| walk_at "leaving ref") => `(tactic| (k_here; k_dflt ((with_reducible rename Heap.MadeExc _ _ _ _ _ => x9); refine' leave_raiseS ?k1 (Heap.MadeExc.of x9) ?k3 ?k4 ?_; (case k1 => k_asm); (case k3 => k_asm); (case k4 => k_asm); intro h9 t9 R9 K9 U9; (try dsimp only))))
theorem ctoi_raises {x : Str} {tk : Tok} (h1 : x.length ≠ 1) (h2 : x.length < 25) : Rs w mean mg mb 1 21 [.str x tk] := by
  k_with_none
  w_on
  (have hfill : Fill PySem.Challenge.rw_ki0017_01 Mine.hd.heap_39 := by (k_fill; exact trivial)); clear hfill
  w_top on
  w_strict (
    unfold Rs
    intros
    rename_i hret
    refine wpAny_call ?_
    k_dflt cell_enter
    k_steps
    all_goals exact hret _ _ _ _ _ _ (by assumption) (by assumption) (by assumption))
local macro_rules | `(tactic| walk_at "call ref") => `(tactic| (k_here; (with_reducible show wpAny _ _ (PySem.call (Value.ref 21) [_]) _ _ _); k_dflt (refine' Rs.use (ctoi_raises ?kx ?ky) ?k1 ?k2 ?k3 ?k4 ?k5 ?k6 ?kd ?ku ?_; (case kx => assumption); (case ky => assumption); (case k1 => k_asm); (case k2 => k_asm); (case k3 => k_asm); (case k4 => k_asm); (case k5 => k_asm); (case k6 => first | exact rfl | assumption); (case kd => ktr_room); (case ku => ktr_units); intro e9 t9 u9 h9 G9 tk9 F9 R9 U9; (try dsimp only))))
theorem isascii_raises {x : Str} {tk : Tok} (h1 : x.length ≠ 1) (h2 : x.length < 25) : Rs w mean mg mb 2 42 [.str x tk] := by
  k_with_none
  w_on
  (have hfill : Fill PySem.Challenge.rw_ki0017_01 Mine.hd.heap_39 := by (k_fill; exact trivial)); clear hfill
  w_top on
  w_strict (
    unfold Rs
    intros
    rename_i hret
    refine wpAny_call ?_
    k_dflt cell_enter
    k_steps
    all_goals exact hret _ _ _ _ _ _ (by assumption) (by assumption) (by assumption))
local macro_rules | `(tactic| walk_at "call ref") => `(tactic| (k_here; (with_reducible show wpAny _ _ (PySem.call (Value.ref 42) [_]) _ _ _); k_dflt (refine' Rs.use (isascii_raises ?kx ?ky) ?k1 ?k2 ?k3 ?k4 ?k5 ?k6 ?kd ?ku ?_; (case kx => assumption); (case ky => assumption); (case k1 => k_asm); (case k2 => k_asm); (case k3 => k_asm); (case k4 => k_asm); (case k5 => k_asm); (case k6 => first | exact rfl | assumption); (case kd => ktr_room); (case ku => ktr_units); intro e9 t9 u9 h9 G9 tk9 F9 R9 U9; (try dsimp only))))
theorem ismeta_raises {x : Str} {tk : Tok} (h1 : x.length ≠ 1) (h2 : x.length < 25) : Rs w mean mg mb 2 126 [.str x tk] := by
  k_with_none
  w_on
  (have hfill : Fill PySem.Challenge.rw_ki0017_01 Mine.hd.heap_39 := by (k_fill; exact trivial)); clear hfill
  w_top on
  w_strict (
    unfold Rs
    intros
    rename_i hret
    refine wpAny_call ?_
    k_dflt cell_enter
    k_steps
    all_goals exact hret _ _ _ _ _ _ (by assumption) (by assumption) (by assumption))
local macro_rules | `(tactic| walk_at "call ref") => `(tactic| (k_here; (with_reducible show wpAny _ _ (PySem.call (Value.ref 126) [_]) _ _ _); k_dflt (refine' Rs.use (ismeta_raises ?kx ?ky) ?k1 ?k2 ?k3 ?k4 ?k5 ?k6 ?kd ?ku ?_; (case kx => assumption); (case ky => assumption); (case k1 => k_asm); (case k2 => k_asm); (case k3 => k_asm); (case k4 => k_asm); (case k5 => k_asm); (case k6 => first | exact rfl | assumption); (case kd => ktr_room); (case ku => ktr_units); intro e9 t9 u9 h9 G9 tk9 F9 R9 U9; (try dsimp only))))
theorem iscntrl_raises {x : Str} {tk : Tok} (h1 : x.length ≠ 1) (h2 : x.length < 25) : Rs w mean mg mb 2 56 [.str x tk] := by
  k_with_none
  w_on
  (have hfill : Fill PySem.Challenge.rw_ki0017_01 Mine.hd.heap_39 := by (k_fill; exact trivial)); clear hfill
  w_top on
  w_strict (
    unfold Rs
    intros
    rename_i hret
    refine wpAny_call ?_
    k_dflt cell_enter
    k_steps
    all_goals exact hret _ _ _ _ _ _ (by assumption) (by assumption) (by assumption))
local macro_rules | `(tactic| walk_at "call ref") => `(tactic| (k_here; (with_reducible show wpAny _ _ (PySem.call (Value.ref 56) [_]) _ _ _); k_dflt (refine' Rs.use (iscntrl_raises ?kx ?ky) ?k1 ?k2 ?k3 ?k4 ?k5 ?k6 ?kd ?ku ?_; (case kx => assumption); (case ky => assumption); (case k1 => k_asm); (case k2 => k_asm); (case k3 => k_asm); (case k4 => k_asm); (case k5 => k_asm); (case k6 => first | exact rfl | assumption); (case kd => ktr_room); (case ku => ktr_units); intro e9 t9 u9 h9 G9 tk9 F9 R9 U9; (try dsimp only))))
theorem isctrl_raises {x : Str} {tk : Tok} (h1 : x.length ≠ 1) (h2 : x.length < 25) : Rs w mean mg mb 2 119 [.str x tk] := by
  k_with_none
  w_on
  (have hfill : Fill PySem.Challenge.rw_ki0017_01 Mine.hd.heap_39 := by (k_fill; exact trivial)); clear hfill
  w_top on
  w_strict (
    unfold Rs
    intros
    rename_i hret
    refine wpAny_call ?_
    k_dflt cell_enter
    k_steps
    all_goals exact hret _ _ _ _ _ _ (by assumption) (by assumption) (by assumption))
local macro_rules | `(tactic| walk_at "call ref") => `(tactic| (k_here; (with_reducible show wpAny _ _ (PySem.call (Value.ref 119) [_]) _ _ _); k_dflt (refine' Rs.use (isctrl_raises ?kx ?ky) ?k1 ?k2 ?k3 ?k4 ?k5 ?k6 ?kd ?ku ?_; (case kx => assumption); (case ky => assumption); (case k1 => k_asm); (case k2 => k_asm); (case k3 => k_asm); (case k4 => k_asm); (case k5 => k_asm); (case k6 => first | exact rfl | assumption); (case kd => ktr_room); (case ku => ktr_units); intro e9 t9 u9 h9 G9 tk9 F9 R9 U9; (try dsimp only))))
theorem isblank_raises {x : Str} {tk : Tok} (h1 : x.length ≠ 1) (h2 : x.length < 25) : Rs w mean mg mb 2 49 [.str x tk] := by
  k_with_none
  w_on
  (have hfill : Fill PySem.Challenge.rw_ki0017_01 Mine.hd.heap_39 := by (k_fill; exact trivial)); clear hfill
  w_top on
  w_strict (
    unfold Rs
    intros
    rename_i hret
    refine wpAny_call ?_
    k_dflt cell_enter
    k_steps
    all_goals exact hret _ _ _ _ _ _ (by assumption) (by assumption) (by assumption))
local macro_rules | `(tactic| walk_at "call ref") => `(tactic| (k_here; (with_reducible show wpAny _ _ (PySem.call (Value.ref 49) [_]) _ _ _); k_dflt (refine' Rs.use (isblank_raises ?kx ?ky) ?k1 ?k2 ?k3 ?k4 ?k5 ?k6 ?kd ?ku ?_; (case kx => assumption); (case ky => assumption); (case k1 => k_asm); (case k2 => k_asm); (case k3 => k_asm); (case k4 => k_asm); (case k5 => k_asm); (case k6 => first | exact rfl | assumption); (case kd => ktr_room); (case ku => ktr_units); intro e9 t9 u9 h9 G9 tk9 F9 R9 U9; (try dsimp only))))
theorem isspace_raises {x : Str} {tk : Tok} (h1 : x.length ≠ 1) (h2 : x.length < 25) : Rs w mean mg mb 2 98 [.str x tk] := by
  k_with_none
  w_on
  (have hfill : Fill PySem.Challenge.rw_ki0017_01 Mine.hd.heap_39 := by (k_fill; exact trivial)); clear hfill
  w_top on
  w_strict (
    unfold Rs
    intros
    rename_i hret
    refine wpAny_call ?_
    k_dflt cell_enter
    k_steps
    all_goals exact hret _ _ _ _ _ _ (by assumption) (by assumption) (by assumption))
local macro_rules | `(tactic| walk_at "call ref") => `(tactic| (k_here; (with_reducible show wpAny _ _ (PySem.call (Value.ref 98) [_]) _ _ _); k_dflt (refine' Rs.use (isspace_raises ?kx ?ky) ?k1 ?k2 ?k3 ?k4 ?k5 ?k6 ?kd ?ku ?_; (case kx => assumption); (case ky => assumption); (case k1 => k_asm); (case k2 => k_asm); (case k3 => k_asm); (case k4 => k_asm); (case k5 => k_asm); (case k6 => first | exact rfl | assumption); (case kd => ktr_room); (case ku => ktr_units); intro e9 t9 u9 h9 G9 tk9 F9 R9 U9; (try dsimp only))))
theorem isprint_raises {x : Str} {tk : Tok} (h1 : x.length ≠ 1) (h2 : x.length < 25) : Rs w mean mg mb 2 84 [.str x tk] := by
  k_with_none
  w_on
  (have hfill : Fill PySem.Challenge.rw_ki0017_01 Mine.hd.heap_39 := by (k_fill; exact trivial)); clear hfill
  w_top on
  w_strict (
    unfold Rs
    intros
    rename_i hret
    refine wpAny_call ?_
    k_dflt cell_enter
    k_steps
    all_goals exact hret _ _ _ _ _ _ (by assumption) (by assumption) (by assumption))
local macro_rules | `(tactic| walk_at "call ref") => `(tactic| (k_here; (with_reducible show wpAny _ _ (PySem.call (Value.ref 84) [_]) _ _ _); k_dflt (refine' Rs.use (isprint_raises ?kx ?ky) ?k1 ?k2 ?k3 ?k4 ?k5 ?k6 ?kd ?ku ?_; (case kx => assumption); (case ky => assumption); (case k1 => k_asm); (case k2 => k_asm); (case k3 => k_asm); (case k4 => k_asm); (case k5 => k_asm); (case k6 => first | exact rfl | assumption); (case kd => ktr_room); (case ku => ktr_units); intro e9 t9 u9 h9 G9 tk9 F9 R9 U9; (try dsimp only))))
theorem isgraph_raises {x : Str} {tk : Tok} (h1 : x.length ≠ 1) (h2 : x.length < 25) : Rs w mean mg mb 2 70 [.str x tk] := by
  k_with_none
  w_on
  (have hfill : Fill PySem.Challenge.rw_ki0017_01 Mine.hd.heap_39 := by (k_fill; exact trivial)); clear hfill
  w_top on
  w_strict (
    unfold Rs
    intros
    rename_i hret
    refine wpAny_call ?_
    k_dflt cell_enter
    k_steps
    all_goals exact hret _ _ _ _ _ _ (by assumption) (by assumption) (by assumption))
local macro_rules | `(tactic| walk_at "call ref") => `(tactic| (k_here; (with_reducible show wpAny _ _ (PySem.call (Value.ref 70) [_]) _ _ _); k_dflt (refine' Rs.use (isgraph_raises ?kx ?ky) ?k1 ?k2 ?k3 ?k4 ?k5 ?k6 ?kd ?ku ?_; (case kx => assumption); (case ky => assumption); (case k1 => k_asm); (case k2 => k_asm); (case k3 => k_asm); (case k4 => k_asm); (case k5 => k_asm); (case k6 => first | exact rfl | assumption); (case kd => ktr_room); (case ku => ktr_units); intro e9 t9 u9 h9 G9 tk9 F9 R9 U9; (try dsimp only))))
theorem isdigit_raises {x : Str} {tk : Tok} (h1 : x.length ≠ 1) (h2 : x.length < 25) : Rs w mean mg mb 2 63 [.str x tk] := by
  k_with_none
  w_on
  (have hfill : Fill PySem.Challenge.rw_ki0017_01 Mine.hd.heap_39 := by (k_fill; exact trivial)); clear hfill
  w_top on
  w_strict (
    unfold Rs
    intros
    rename_i hret
    refine wpAny_call ?_
    k_dflt cell_enter
    k_steps
    all_goals exact hret _ _ _ _ _ _ (by assumption) (by assumption) (by assumption))
local macro_rules | `(tactic| walk_at "call ref") => `(tactic| (k_here; (with_reducible show wpAny _ _ (PySem.call (Value.ref 63) [_]) _ _ _); k_dflt (refine' Rs.use (isdigit_raises ?kx ?ky) ?k1 ?k2 ?k3 ?k4 ?k5 ?k6 ?kd ?ku ?_; (case kx => assumption); (case ky => assumption); (case k1 => k_asm); (case k2 => k_asm); (case k3 => k_asm); (case k4 => k_asm); (case k5 => k_asm); (case k6 => first | exact rfl | assumption); (case kd => ktr_room); (case ku => ktr_units); intro e9 t9 u9 h9 G9 tk9 F9 R9 U9; (try dsimp only))))
theorem isupper_raises {x : Str} {tk : Tok} (h1 : x.length ≠ 1) (h2 : x.length < 25) : Rs w mean mg mb 2 105 [.str x tk] := by
  k_with_none
  w_on
  (have hfill : Fill PySem.Challenge.rw_ki0017_01 Mine.hd.heap_39 := by (k_fill; exact trivial)); clear hfill
  w_top on
  w_strict (
    unfold Rs
    intros
    rename_i hret
    refine wpAny_call ?_
    k_dflt cell_enter
    k_steps
    all_goals exact hret _ _ _ _ _ _ (by assumption) (by assumption) (by assumption))
local macro_rules | `(tactic| walk_at "call ref") => `(tactic| (k_here; (with_reducible show wpAny _ _ (PySem.call (Value.ref 105) [_]) _ _ _); k_dflt (refine' Rs.use (isupper_raises ?kx ?ky) ?k1 ?k2 ?k3 ?k4 ?k5 ?k6 ?kd ?ku ?_; (case kx => assumption); (case ky => assumption); (case k1 => k_asm); (case k2 => k_asm); (case k3 => k_asm); (case k4 => k_asm); (case k5 => k_asm); (case k6 => first | exact rfl | assumption); (case kd => ktr_room); (case ku => ktr_units); intro e9 t9 u9 h9 G9 tk9 F9 R9 U9; (try dsimp only))))
theorem islower_raises {x : Str} {tk : Tok} (h1 : x.length ≠ 1) (h2 : x.length < 25) : Rs w mean mg mb 2 77 [.str x tk] := by
  k_with_none
  w_on
  (have hfill : Fill PySem.Challenge.rw_ki0017_01 Mine.hd.heap_39 := by (k_fill; exact trivial)); clear hfill
  w_top on
  w_strict (
    unfold Rs
    intros
    rename_i hret
    refine wpAny_call ?_
    k_dflt cell_enter
    k_steps
    all_goals exact hret _ _ _ _ _ _ (by assumption) (by assumption) (by assumption))
local macro_rules | `(tactic| walk_at "call ref") => `(tactic| (k_here; (with_reducible show wpAny _ _ (PySem.call (Value.ref 77) [_]) _ _ _); k_dflt (refine' Rs.use (islower_raises ?kx ?ky) ?k1 ?k2 ?k3 ?k4 ?k5 ?k6 ?kd ?ku ?_; (case kx => assumption); (case ky => assumption); (case k1 => k_asm); (case k2 => k_asm); (case k3 => k_asm); (case k4 => k_asm); (case k5 => k_asm); (case k6 => first | exact rfl | assumption); (case kd => ktr_room); (case ku => ktr_units); intro e9 t9 u9 h9 G9 tk9 F9 R9 U9; (try dsimp only))))
theorem isalpha_raises {x : Str} {tk : Tok} (h1 : x.length ≠ 1) (h2 : x.length < 25) : Rs w mean mg mb 3 35 [.str x tk] := by
  k_with_none
  w_on
  (have hfill : Fill PySem.Challenge.rw_ki0017_01 Mine.hd.heap_39 := by (k_fill; exact trivial)); clear hfill
  w_top on
  w_strict (
    unfold Rs
    intros
    rename_i hret
    refine wpAny_call ?_
    k_dflt cell_enter
    k_steps
    all_goals exact hret _ _ _ _ _ _ (by assumption) (by assumption) (by assumption))
local macro_rules | `(tactic| walk_at "call ref") => `(tactic| (k_here; (with_reducible show wpAny _ _ (PySem.call (Value.ref 35) [_]) _ _ _); k_dflt (refine' Rs.use (isalpha_raises ?kx ?ky) ?k1 ?k2 ?k3 ?k4 ?k5 ?k6 ?kd ?ku ?_; (case kx => assumption); (case ky => assumption); (case k1 => k_asm); (case k2 => k_asm); (case k3 => k_asm); (case k4 => k_asm); (case k5 => k_asm); (case k6 => first | exact rfl | assumption); (case kd => ktr_room); (case ku => ktr_units); intro e9 t9 u9 h9 G9 tk9 F9 R9 U9; (try dsimp only))))
theorem isalnum_raises {x : Str} {tk : Tok} (h1 : x.length ≠ 1) (h2 : x.length < 25) : Rs w mean mg mb 4 28 [.str x tk] := by
  k_with_none
  w_on
  (have hfill : Fill PySem.Challenge.rw_ki0017_01 Mine.hd.heap_39 := by (k_fill; exact trivial)); clear hfill
  w_top on
  w_strict (
    unfold Rs
    intros
    rename_i hret
    refine wpAny_call ?_
    k_dflt cell_enter
    k_steps
    all_goals exact hret _ _ _ _ _ _ (by assumption) (by assumption) (by assumption))
local macro_rules | `(tactic| walk_at "call ref") => `(tactic| (k_here; (with_reducible show wpAny _ _ (PySem.call (Value.ref 28) [_]) _ _ _); k_dflt (refine' Rs.use (isalnum_raises ?kx ?ky) ?k1 ?k2 ?k3 ?k4 ?k5 ?k6 ?kd ?ku ?_; (case kx => assumption); (case ky => assumption); (case k1 => k_asm); (case k2 => k_asm); (case k3 => k_asm); (case k4 => k_asm); (case k5 => k_asm); (case k6 => first | exact rfl | assumption); (case kd => ktr_room); (case ku => ktr_units); intro e9 t9 u9 h9 G9 tk9 F9 R9 U9; (try dsimp only))))
theorem isxdigit_raises {x : Str} {tk : Tok} (h1 : x.length ≠ 1) (h2 : x.length < 25) : Rs w mean mg mb 3 112 [.str x tk] := by
  k_with_none
  w_on
  (have hfill : Fill PySem.Challenge.rw_ki0017_01 Mine.hd.heap_39 := by (k_fill; exact trivial)); clear hfill
  w_top on
  w_strict (
    unfold Rs
    intros
    rename_i hret
    refine wpAny_call ?_
    k_dflt cell_enter
    k_steps
    all_goals exact hret _ _ _ _ _ _ (by assumption) (by assumption) (by assumption))
local macro_rules | `(tactic| walk_at "call ref") => `(tactic| (k_here; (with_reducible show wpAny _ _ (PySem.call (Value.ref 112) [_]) _ _ _); k_dflt (refine' Rs.use (isxdigit_raises ?kx ?ky) ?k1 ?k2 ?k3 ?k4 ?k5 ?k6 ?kd ?ku ?_; (case kx => assumption); (case ky => assumption); (case k1 => k_asm); (case k2 => k_asm); (case k3 => k_asm); (case k4 => k_asm); (case k5 => k_asm); (case k6 => first | exact rfl | assumption); (case kd => ktr_room); (case ku => ktr_units); intro e9 t9 u9 h9 G9 tk9 F9 R9 U9; (try dsimp only))))
theorem ispunct_raises {x : Str} {tk : Tok} (h1 : x.length ≠ 1) (h2 : x.length < 25) : Rs w mean mg mb 3 91 [.str x tk] := by
  k_with_none
  w_on
  (have hfill : Fill PySem.Challenge.rw_ki0017_01 Mine.hd.heap_39 := by (k_fill; exact trivial)); clear hfill
  w_top on
  w_strict (
    unfold Rs
    intros
    rename_i hret
    refine wpAny_call ?_
    k_dflt cell_enter
    k_steps
    all_goals exact hret _ _ _ _ _ _ (by assumption) (by assumption) (by assumption))
local macro_rules | `(tactic| walk_at "call ref") => `(tactic| (k_here; (with_reducible show wpAny _ _ (PySem.call (Value.ref 91) [_]) _ _ _); k_dflt (refine' Rs.use (ispunct_raises ?kx ?ky) ?k1 ?k2 ?k3 ?k4 ?k5 ?k6 ?kd ?ku ?_; (case kx => assumption); (case ky => assumption); (case k1 => k_asm); (case k2 => k_asm); (case k3 => k_asm); (case k4 => k_asm); (case k5 => k_asm); (case k6 => first | exact rfl | assumption); (case kd => ktr_room); (case ku => ktr_units); intro e9 t9 u9 h9 G9 tk9 F9 R9 U9; (try dsimp only))))
theorem ctrl_raises {x : Str} {tk : Tok} (h1 : x.length ≠ 1) (h2 : x.length < 25) : Rs w mean mg mb 2 133 [.str x tk] := by
  k_with_none
  w_on
  (have hfill : Fill PySem.Challenge.rw_ki0017_01 Mine.hd.heap_39 := by (k_fill; exact trivial)); clear hfill
  w_top on
  w_strict (
    unfold Rs
    intros
    rename_i hret
    refine wpAny_call ?_
    k_dflt cell_enter
    k_steps
    all_goals exact hret _ _ _ _ _ _ (by assumption) (by assumption) (by assumption))
local macro_rules | `(tactic| walk_at "call ref") => `(tactic| (k_here; (with_reducible show wpAny _ _ (PySem.call (Value.ref 133) [_]) _ _ _); k_dflt (refine' Rs.use (ctrl_raises ?kx ?ky) ?k1 ?k2 ?k3 ?k4 ?k5 ?k6 ?kd ?ku ?_; (case kx => assumption); (case ky => assumption); (case k1 => k_asm); (case k2 => k_asm); (case k3 => k_asm); (case k4 => k_asm); (case k5 => k_asm); (case k6 => first | exact rfl | assumption); (case kd => ktr_room); (case ku => ktr_units); intro e9 t9 u9 h9 G9 tk9 F9 R9 U9; (try dsimp only))))
theorem alt_raises {x : Str} {tk : Tok} (h1 : x.length ≠ 1) (h2 : x.length < 25) : Rs w mean mg mb 2 140 [.str x tk] := by
  k_with_none
  w_on
  (have hfill : Fill PySem.Challenge.rw_ki0017_01 Mine.hd.heap_39 := by (k_fill; exact trivial)); clear hfill
  w_top on
  w_strict (
    unfold Rs
    intros
    rename_i hret
    refine wpAny_call ?_
    k_dflt cell_enter
    k_steps
    all_goals exact hret _ _ _ _ _ _ (by assumption) (by assumption) (by assumption))
local macro_rules | `(tactic| walk_at "call ref") => `(tactic| (k_here; (with_reducible show wpAny _ _ (PySem.call (Value.ref 140) [_]) _ _ _); k_dflt (refine' Rs.use (alt_raises ?kx ?ky) ?k1 ?k2 ?k3 ?k4 ?k5 ?k6 ?kd ?ku ?_; (case kx => assumption); (case ky => assumption); (case k1 => k_asm); (case k2 => k_asm); (case k3 => k_asm); (case k4 => k_asm); (case k5 => k_asm); (case k6 => first | exact rfl | assumption); (case kd => ktr_room); (case ku => ktr_units); intro e9 t9 u9 h9 G9 tk9 F9 R9 U9; (try dsimp only))))
theorem unctrl_raises {x : Str} {tk : Tok} (h1 : x.length ≠ 1) (h2 : x.length < 25) : Rs w mean mg mb 2 147 [.str x tk] := by
  k_with_none
  w_on
  (have hfill : Fill PySem.Challenge.rw_ki0017_01 Mine.hd.heap_39 := by (k_fill; exact trivial)); clear hfill
  w_top on
  w_strict (
    unfold Rs
    intros
    rename_i hret
    refine wpAny_call ?_
    k_dflt cell_enter
    k_steps
    all_goals exact hret _ _ _ _ _ _ (by assumption) (by assumption) (by assumption))
local macro_rules | `(tactic| walk_at "call ref") => `(tactic| (k_here; (with_reducible show wpAny _ _ (PySem.call (Value.ref 147) [_]) _ _ _); k_dflt (refine' Rs.use (unctrl_raises ?kx ?ky) ?k1 ?k2 ?k3 ?k4 ?k5 ?k6 ?kd ?ku ?_; (case kx => assumption); (case ky => assumption); (case k1 => k_asm); (case k2 => k_asm); (case k3 => k_asm); (case k4 => k_asm); (case k5 => k_asm); (case k6 => first | exact rfl | assumption); (case kd => ktr_room); (case ku => ktr_units); intro e9 t9 u9 h9 G9 tk9 F9 R9 U9; (try dsimp only))))
end Mine

namespace Mine
/-- what holds of the ground between the turns of a loop whose turns raise and catch -/
structure GroundS (A₀ : Around) (base : Heap) (outer : List Env) (K : Frag) (p : Program) (loose : List Str) (mean : ExcName → Option Value) (mg mb : Str → Option Value) (g₀ g : Heap) : Prop where
  turned : KtsTurn (outer.filterMap (·.frame)) g₀ g
  below : Below A₀ base outer g
  frag : K.In g
  top : Top p loose mean mg mb g
  dicts : KtsDicts (outer.filterMap (·.frame)) g
def TurnS (G : Heap → Prop) (L : Addr) (news : List (Addr × Obj)) (J : (Str → Option Value) → Prop) (s₁ : Shared) (Q : Flow → Shared → Prop) (f : Flow) (s₂ : Shared) : Prop :=
  match f with
  | .ret v => Q (.ret v) s₂
  | .brk => Q .next s₂
  | _ => ∃ g h' tk m', s₂ = { s₁ with heap := h', toks := tk } ∧ G g ∧ Fr g L h' m' ∧ News g L h' news ∧ J m'
theorem TurnS.next {G : Heap → Prop} {L : Addr} {news : List (Addr × Obj)} {J : (Str → Option Value) → Prop} {s₁ : Shared} {Q : Flow → Shared → Prop} {g h' : Heap} {tk : Nat} {m' : Str → Option Value} (hg : G g) (F : Fr g L h' m') (N : News g L h' news) (hj : J m') :
    TurnS G L news J s₁ Q .next { s₁ with heap := h', toks := tk } := ⟨g, h', tk, m', rfl, hg, F, N, hj⟩
section
variable {prog : Program} {w : World} {A : Around} {E : Value → Shared → Prop} {s : Shared} {env : Env} {body : List Stmt} {Q : Flow → Shared → Prop} {G : Heap → Prop}
theorem for_tries {x : Str} {px pos : Pos} {iter : Expr} {l : Addr} {items : Array Value} {k : Nat} {m₀ : Str → Option Value} {g : Heap} (J : Nat → (Str → Option Value) → Prop)
    (hh : A.handled = none) (hx : env.kindOf x = some .local) (hp : (env.scope.kind == .class || (env.scope.kind == .module && env.locals != env.globals)) = false)
    (hev : wpAny (model prog w) A (eval iter env) (fun v s₁ => v = .ref l ∧ s₁ = s) E s)
    (hG : G g) (F : Fr g env.locals s.heap m₀) (N : News g env.locals s.heap [(l, ({ cls := .type "list", data := .seq items k } : Obj))]) (hj : J 0 m₀)
    (turn : ∀ i v m₁ g₁ h tk q, items[i]? = some v → J i m₁ → G g₁ → Fr g₁ env.locals h (fun z => if z = x then some v else m₁ z) → News g₁ env.locals h [q, (l, ({ cls := .type "list", data := .seq items k } : Obj))] →
      wpAny (model prog w) A (execs body env) (TurnS G env.locals [q, (l, ({ cls := .type "list", data := .seq items k } : Obj))] (J (i + 1)) { s with heap := h, toks := tk } Q) E { s with heap := h, toks := tk })
    (done : ∀ m₁ g₁ h tk, J items.size m₁ → G g₁ → Fr g₁ env.locals h m₁ → News g₁ env.locals h [(l, ({ cls := .type "list", data := .seq items k } : Obj))] → Q .next { s with heap := h, toks := tk })
    (hs : ∀ x, foldedSetIterable iter env x = pure x) (hE : PassesOwn (model prog w) A env E) :
    wpAny (model prog w) A (exec (.For (.Name x px) iter body [] pos) env) Q E s := by
  refine wpAny_For (wpAny_mono hev (fun v s₁ hv => ?_) fun _ _ e => e) hs
  obtain ⟨rfl, rfl⟩ := hv
  have hm := N _ List.mem_cons_self
  have hls : s₁.heap.IsList l items := ⟨_, hm.1, rfl, _, rfl⟩
  have hlt : l < s₁.heap.objs.size := Heap.lt_size hm.1
  have hne : l ≠ s₁.heap.objs.size := Nat.ne_of_lt hlt
  have hLne : env.locals ≠ s₁.heap.objs.size := Nat.ne_of_lt F.ns.lt
  refine wpAny_pyIter_list hls ?_
  have W := Walks.list (prog := prog) (w := w) hh s₁.heap.objs.size l hne items
  refine codeAny_forLoop_any
    (fun n s' => ∃ h' tk m' g', ∃ i : Nat, ∃ o, s' = { s₁ with heap := h', toks := tk } ∧ G g' ∧ Fr g' env.locals h' m' ∧ News g' env.locals h' [(s₁.heap.objs.size, o), (l, ({ cls := .type "list", data := .seq items k } : Obj))] ∧
      o.cls = .type "list_iterator" ∧ o.data = .fields #[.ref l, .int i 0] ∧ J i m' ∧ i ≤ items.size ∧ n = items.size + 1 - i) ?_ (items.size + 1)
    ⟨_, s₁.toks, m₀, g, 0, ({ cls := .type "list_iterator", data := .fields #[.ref l, .int 0 0] } : Obj), rfl, hG, F.push _, fun p hp => ?_, rfl, rfl, hj, Nat.zero_le _, rfl⟩
  · rintro n s' ⟨h', tk, m', g', i, o, rfl, hG', F', N', ho1, ho2, hj', hi, rfl⟩
    have nI := N' _ List.mem_cons_self
    have nl := N' _ (List.mem_cons_of_mem _ List.mem_cons_self)
    have st : h'.IsListIter s₁.heap.objs.size l i ∧ h'.IsList l items := ⟨⟨o, nI.1, ho1, ho2⟩, ⟨_, nl.1, rfl, _, rfl⟩⟩
    by_cases hlt' : i < items.size
    · refine W.item i _ _ _ hlt' st fun v h₁ tk₁ hP st₁ hk₁ => ?_
      refine letGo_listiter st₁.1 ?_
      have F₁ : Fr g' env.locals h₁ m' := LCg.fr_but F' hk₁ hLne nI.2.2
      obtain ⟨o₁, e₁, c₁, d₁⟩ := st₁.1
      have nl₁ : h₁.get? l = some ({ cls := .type "list", data := .seq items k } : Obj) := hk₁ _ _ (by simpa using hne) nl.1
      refine wpAny_assign_Name (wpAny_storeName_local hx F₁.ns (fun h₂ hn₂ hs₂ => ?_) hp)
      have F₂ : Fr g' env.locals h₂ (fun z => if z = x then some v else m' z) := F₁.set hn₂ hs₂
      have N₂ : News g' env.locals h₂ [(s₁.heap.objs.size, o₁), (l, ({ cls := .type "list", data := .seq items k } : Obj))] := fun p hp => by
        rcases List.mem_cons.mp hp with rfl | hp
        · exact ⟨(hs₂.2 _ (Ne.symm hLne)).trans e₁, nI.2⟩
        · rw [List.mem_singleton.mp hp]
          exact ⟨(hs₂.2 _ nl.2.1).trans nl₁, nl.2⟩
      refine wpAny_mono (wpAny_passesOwn hE (turn i v m' g' h₂ _ (s₁.heap.objs.size, o₁) hP hj' hG' F₂ N₂)) (fun f s₃ h₃ => ?_) fun _ _ e => e
      cases f with
      | ret v => exact h₃
      | brk => exact h₃
      | next =>
        obtain ⟨g₃, h₃', tk₃, m₃, rfl, G₃, F₃, N₃, j₃⟩ := h₃
        exact ⟨items.size + 1 - (i + 1), by omega, h₃', tk₃, m₃, g₃, i + 1, o₁, rfl, G₃, F₃, N₃, c₁, d₁, j₃, hlt', rfl⟩
      | cont =>
        obtain ⟨g₃, h₃', tk₃, m₃, rfl, G₃, F₃, N₃, j₃⟩ := h₃
        exact ⟨items.size + 1 - (i + 1), by omega, h₃', tk₃, m₃, g₃, i + 1, o₁, rfl, G₃, F₃, N₃, c₁, d₁, j₃, hlt', rfl⟩
    · obtain rfl : i = items.size := by omega
      refine W.done _ _ _ st fun h₁ tk₁ hk₁ => wpAny_execs_nil ?_
      refine done m' g' h₁ tk₁ hj' hG' (LCg.fr_but F' hk₁ hLne nI.2.2) fun p hp => ?_
      rw [List.mem_singleton.mp hp]
      exact ⟨hk₁ _ _ (by simpa using hne) nl.1, nl.2⟩
  · rcases List.mem_cons.mp hp with rfl | hp
    · exact ⟨Heap.get?_push_size _ rfl, Ne.symm hLne, next_is_new F⟩
    · rw [List.mem_singleton.mp hp]
      exact ⟨Heap.get?_push_of_some _ hm.1, hm.2⟩
end
end Mine

namespace Mine
section
variable {prog : Program} {w : World} {A : Around} {E : Value → Shared → Prop} {s : Shared} {env : Env} {body : List Stmt} {Q : Flow → Shared → Prop} {G : Heap → Prop}
/-- a loop whose every turn counts one up -/
theorem for_count {x y : Str} {px pos : Pos} {iter : Expr} {l : Addr} {items : Array Value} {k n : Nat} {m₀ : Str → Option Value} {t₀ : Tok} {g : Heap}
    (hn : items.size = n) (hh : A.handled = none) (hx : env.kindOf x = some .local) (hp : (env.scope.kind == .class || (env.scope.kind == .module && env.locals != env.globals)) = false)
    (hev : wpAny (model prog w) A (eval iter env) (fun v s₁ => v = .ref l ∧ s₁ = s) E s)
    (hG : G g) (F : Fr g env.locals s.heap m₀) (N : News g env.locals s.heap [(l, ({ cls := .type "list", data := .seq items k } : Obj))]) (hy : m₀ y = some (.int 0 t₀)) (hxy : y ≠ x)
    (turn : ∀ (i : Nat) v t g₁ h tk q, items[i]? = some v → G g₁ → Fr g₁ env.locals h (fun z => if z = x then some v else if z = y then some (.int i t) else m₀ z) → News g₁ env.locals h [q, (l, ({ cls := .type "list", data := .seq items k } : Obj))] →
      wpAny (model prog w) A (execs body env) (TurnS G env.locals [q, (l, ({ cls := .type "list", data := .seq items k } : Obj))] (fun m' => (∃ t', m' y = some (.int ((i : Int) + 1) t')) ∧ ∀ z, z ≠ x → z ≠ y → m' z = m₀ z) { s with heap := h, toks := tk } Q) E { s with heap := h, toks := tk })
    (done : ∀ (u : Str → Option Value) t g₁ h tk, G g₁ → Fr g₁ env.locals h (fun z => if z = x then u z else if z = y then some (.int n t) else m₀ z) → News g₁ env.locals h [(l, ({ cls := .type "list", data := .seq items k } : Obj))] → Q .next { s with heap := h, toks := tk })
    (hs : ∀ x, foldedSetIterable iter env x = pure x) (hE : PassesOwn (model prog w) A env E) :
    wpAny (model prog w) A (exec (.For (.Name x px) iter body [] pos) env) Q E s := by
  refine for_tries (fun i m' => (∃ t', m' y = some (.int (i : Int) t')) ∧ ∀ z, z ≠ x → z ≠ y → m' z = m₀ z) hh hx hp hev hG F N ⟨⟨t₀, hy⟩, fun _ _ _ => rfl⟩ ?_ ?_ hs hE
  · rintro i v m₁ g₁ h tk q hv ⟨⟨t, ha⟩, hm⟩ hG₁ F₁ N₁
    rw [map_one ha hm] at F₁
    exact turn i v t g₁ h tk q hv hG₁ F₁ N₁
  · rintro m₁ g₁ h tk ⟨⟨t, ha⟩, hm⟩ hG₁ F₁ N₁
    rw [hn] at ha
    refine done m₁ t g₁ h tk hG₁ ?_ N₁
    rw [done_one ha hm]
    exact F₁
theorem for_countS {A₀ : Around} {base : Heap} {outer : List Env} {K : Frag} {p : Program} {loose : List Str} {mean : ExcName → Option Value} {mg mb : Str → Option Value}
    {x y : Str} {px pos : Pos} {iter : Expr} {l : Addr} {items : Array Value} {k n : Nat} {m₀ : Str → Option Value} {t₀ : Tok} {g : Heap}
    (hn : items.size = n) (hh : A.handled = none) (hx : env.kindOf x = some .local) (hp : (env.scope.kind == .class || (env.scope.kind == .module && env.locals != env.globals)) = false)
    (hev : wpAny (model prog w) A (eval iter env) (fun v s₁ => v = .ref l ∧ s₁ = s) E s)
    (F : Fr g env.locals s.heap m₀) (hB : Below A₀ base outer g) (hX : K.In g) (hT : Top p loose mean mg mb g) (hD : KtsDicts (outer.filterMap (·.frame)) g)
    (N : News g env.locals s.heap [(l, ({ cls := .type "list", data := .seq items k } : Obj))]) (hy : m₀ y = some (.int 0 t₀)) (hxy : y ≠ x)
    (turn : ∀ (i : Nat) v t g₁ h tk q, items[i]? = some v → GroundS A₀ base outer K p loose mean mg mb g g₁ → Fr g₁ env.locals h (fun z => if z = x then some v else if z = y then some (.int i t) else m₀ z) → News g₁ env.locals h [q, (l, ({ cls := .type "list", data := .seq items k } : Obj))] →
      wpAny (model prog w) A (execs body env) (TurnS (GroundS A₀ base outer K p loose mean mg mb g) env.locals [q, (l, ({ cls := .type "list", data := .seq items k } : Obj))] (fun m' => (∃ t', m' y = some (.int ((i : Int) + 1) t')) ∧ ∀ z, z ≠ x → z ≠ y → m' z = m₀ z) { s with heap := h, toks := tk } Q) E { s with heap := h, toks := tk })
    (done : ∀ (u : Str → Option Value) t g₁ h tk, GroundS A₀ base outer K p loose mean mg mb g g₁ → Fr g₁ env.locals h (fun z => if z = x then u z else if z = y then some (.int n t) else m₀ z) → News g₁ env.locals h [(l, ({ cls := .type "list", data := .seq items k } : Obj))] → Q .next { s with heap := h, toks := tk })
    (hs : ∀ x, foldedSetIterable iter env x = pure x) (hE : PassesOwn (model prog w) A env E) :
    wpAny (model prog w) A (exec (.For (.Name x px) iter body [] pos) env) Q E s :=
  for_count hn hh hx hp hev (GroundS.mk KtsTurn.refl hB hX hT hD) F N hy hxy turn done hs hE
end
end Mine

namespace Mine
variable {w : World} {mean : ExcName → Option Value} {mg mb : Str → Option Value}

theorem PairsIn.length {α : Type} {R : α → Value → Value → Prop} {news : List (Addr × Obj)} {vs : List Value} {l : List α} (h : PairsIn R news vs l) : vs.length = l.length := by
  induction h with
  | nil => rfl
  | cons _ _ _ ih => simp [ih]
def asked14 : List Value := [.ref 42, .ref 126, .ref 56, .ref 119, .ref 49, .ref 98, .ref 84, .ref 70, .ref 28, .ref 63, .ref 112, .ref 35, .ref 105, .ref 77]
theorem judges_take {i : Nat} {p : Addr × Str} {ys : List Value} (hg : ys = (lawJudges.take i).map fun p => Value.ref p.1) (hp : lawJudges[i]? = some p) : ys ++ [.ref p.1] = (lawJudges.take (i + 1)).map fun p => Value.ref p.1 := by
  subst hg
  rw [List.take_add_one, hp]
  simp
theorem judges_all {nw : List (Addr × Obj)} {vs ys : List Value} (P : PairsIn JudgeR nw vs lawJudges) (hg : ys = (lawJudges.take vs.toArray.size).map fun p => Value.ref p.1) : ys = asked14 := by
  rw [List.size_toArray, P.length] at hg
  exact hg
theorem judges_fit {nw : List (Addr × Obj)} {vs : List Value} (P : PairsIn JudgeR nw vs lawJudges) : vs.toArray.size ≤ sizeLine := by
  rw [List.size_toArray, P.length]; decide
def asked18 : List Value := [.ref 42, .ref 126, .ref 56, .ref 119, .ref 49, .ref 98, .ref 84, .ref 70, .ref 28, .ref 63, .ref 112, .ref 35, .ref 105, .ref 77, .ref 91, .ref 133, .ref 140, .ref 147]
theorem asked_raise {x : Str} {tk : Tok} (h1 : x.length ≠ 1) (h2 : x.length < 25) : ∀ {i : Nat} {v : Value}, asked18[i]? = some v → ∃ f, v = .ref f ∧ Rs w mean mg mb 4 f [.str x tk] ∧ keepIn (Mine.hd.heap_39 w.params) (.ref f) = true
  | 0, _, rfl => ⟨42, rfl, (isascii_raises h1 h2).mono (by decide), by rfl⟩
  | 1, _, rfl => ⟨126, rfl, (ismeta_raises h1 h2).mono (by decide), by rfl⟩
  | 2, _, rfl => ⟨56, rfl, (iscntrl_raises h1 h2).mono (by decide), by rfl⟩
  | 3, _, rfl => ⟨119, rfl, (isctrl_raises h1 h2).mono (by decide), by rfl⟩
  | 4, _, rfl => ⟨49, rfl, (isblank_raises h1 h2).mono (by decide), by rfl⟩
  | 5, _, rfl => ⟨98, rfl, (isspace_raises h1 h2).mono (by decide), by rfl⟩
  | 6, _, rfl => ⟨84, rfl, (isprint_raises h1 h2).mono (by decide), by rfl⟩
  | 7, _, rfl => ⟨70, rfl, (isgraph_raises h1 h2).mono (by decide), by rfl⟩
  | 8, _, rfl => ⟨28, rfl, (isalnum_raises h1 h2).mono (by decide), by rfl⟩
  | 9, _, rfl => ⟨63, rfl, (isdigit_raises h1 h2).mono (by decide), by rfl⟩
  | 10, _, rfl => ⟨112, rfl, (isxdigit_raises h1 h2).mono (by decide), by rfl⟩
  | 11, _, rfl => ⟨35, rfl, (isalpha_raises h1 h2).mono (by decide), by rfl⟩
  | 12, _, rfl => ⟨105, rfl, (isupper_raises h1 h2).mono (by decide), by rfl⟩
  | 13, _, rfl => ⟨77, rfl, (islower_raises h1 h2).mono (by decide), by rfl⟩
  | 14, _, rfl => ⟨91, rfl, (ispunct_raises h1 h2).mono (by decide), by rfl⟩
  | 15, _, rfl => ⟨133, rfl, (ctrl_raises h1 h2).mono (by decide), by rfl⟩
  | 16, _, rfl => ⟨140, rfl, (alt_raises h1 h2).mono (by decide), by rfl⟩
  | 17, _, rfl => ⟨147, rfl, (unctrl_raises h1 h2).mono (by decide), by rfl⟩
  | _ + 18, _, e => by simp [asked18] at e
def AllRaise (w : World) (mean : ExcName → Option Value) (mg mb : Str → Option Value) (x : Str) (tk : Tok) : Prop := ∀ (i : Nat) (v : Value), asked18.toArray[i]? = some v → ∃ f, v = .ref f ∧ Rs w mean mg mb 4 f [.str x tk] ∧ keepIn (Mine.hd.heap_39 w.params) (.ref f) = true
theorem allRaise {x : Str} {tk : Tok} (h1 : x.length ≠ 1) (h2 : x.length < 25) : AllRaise w mean mg mb x tk := fun _ _ h => asked_raise h1 h2 (by simpa only [List.getElem?_toArray] using h)
/-- what _law_refused gives, called from the law's own frame -/
def GR (w : World) (mean : ExcName → Option Value) (mg mb : Str → Option Value) (d : Nat) (x : Str) (tk : Tok) : Prop :=
  ∀ (dp un : Nat) (gd : Option (List Code)) (cn : Str) (cs : Scope) (a : Addr) (ccd : Value) (A₀ : Around) (base h₀ : Heap) (L : Addr) (m : Str → Option Value) (s : Shared) (Q E : Value → Shared → Prop),
    Below A₀ base [] h₀ → Fr h₀ L s.heap m → (Mine.hd.heap_39 w.params).In h₀ → Top Mine.hd.view_39 (looseW Mine.hd.view_39 []) mean mg mb h₀ → (Mine.hd.heap_39 w.params).In base → Top Mine.hd.view_39 (looseW Mine.hd.view_39 []) mean mg mb base → cs.kind = .function →
    dp + d < recursionLimit → un + 8 * d < cLine →
    (∀ (h' : Heap) (tk' : Nat), Fr h₀ L h' m → Q (.bool true) { s with heap := h', toks := tk' }) →
    wpAny (model PySem.Challenge.rw_ki0017_01.row.prog w) (ktrTop dp un gd cn cs L a ccd [] []) (call (.ref 183) [.str x tk]) Q E s
local macro_rules | `(tactic| walk_at "call ref") => `(tactic| (k_here; (with_reducible show wpAny _ _ (PySem.call (Value.ref 166) _) _ _ _); k_dflt (refine' GJ.use judges_give ?k1 ?k2 ?k3 ?k4 ?k5 ?k6 ?kd ?ku ?_; (case k1 => k_asm); (case k2 => k_asm); (case k3 => k_asm); (case k4 => k_asm); (case k5 => k_asm); (case k6 => first | exact rfl | assumption); (case kd => ktr_room); (case ku => ktr_units); intro l9 vs9 k9 nw9 h9 tk9 F9 N9 M9 P9; (try simp only [List.cons_append, List.nil_append] at N9 M9 P9); (try dsimp only); (try k_fold))))

local macro_rules | `(tactic| walk_at "eval ListComp") => `(tactic| (k_here; k_dflt (refine LCp.ListComp_P (F₀ := by k_asm) (by with_unfolding_all rfl) (by decide) (by rfl) (by decide) (by rfl) (by rfl) (by decide) ?_)))
local macro_rules | `(tactic| walk_at "SrcLP") => `(tactic| (k_here; k_dflt (refine' LCp.SrcLP.ledger ?hh7 ?F7 ?N7 ?hm7 ?hs7 ?_; (case hh7 => exact rfl); (case F7 => k_asm); (case N7 => k_asm); (case hm7 => assumption); (case hs7 => exact judges_fit (by assumption)); intro g'; refine' compP (fun i ys => ys = (lawJudges.take i).map fun p => Value.ref p.1) ?s7 ?g7 ?_ ?_; (case s7 => exact Or.inr ⟨_, by assumption, rfl, _, rfl⟩); (case g7 => exact rfl); intro i v ys hi hv hg; refine' pairs_turn (R := JudgeR) (l := lawJudges) hv ?pr7 ?_; (case pr7 => assumption); intro p v₁ v₂ hp hR; (obtain ⟨e1, t2, e2⟩ := hR); (subst e1); (subst e2); intro I' oI' C' oC' D' m' h' tk' E' hC' hx' hy' F' N')))
local macro_rules | `(tactic| walk_at "ElEnd") => `(tactic| (refine ElEnd.intro (by k_asm) (by k_asm) ?_; exact judges_take (by assumption) (by assumption)))
local macro_rules | `(tactic| walk_at "forall") => `(tactic| k_dflt (intro ys hg; (have hg2 := judges_all (by assumption) hg); (subst hg2); (clear hg)))
local macro_rules | `(tactic| walk_at "forall") => `(tactic| k_dflt (intro u9 t9 g9 h9 tk9 hG9 F9 N9; (have B9 := GroundS.below hG9); (have X9 := GroundS.frag hG9); (have T9 := GroundS.top hG9); (have D9 := GroundS.dicts hG9); (have K9 := GroundS.turned hG9)))
local macro_rules | `(tactic| walk_at "exec For Name Name cons nil") => `(tactic| (k_here; k_dflt (refine' for_countS (y := PySem.Str.ofString "count") (n := 18) (items := asked18.toArray) ?hn7 ?hh7 ?hx7 ?hp7 ?hev7 ?F7 ?B7 ?X7 ?T7 ?D7 ?N7 ?hy7 ?hxy7 ?_ ?_ ?hs7 ?hE7; (case hev7 => exact ld (by k_asm) rfl ⟨rfl, rfl⟩); (case F7 => k_asm); (case B7 => k_asm); (case X7 => k_asm); (case T7 => k_asm); (case D7 => k_asm); (case hn7 => exact rfl); (case hh7 => exact rfl); (case hx7 => exact rfl); (case hp7 => exact rfl); (case N7 => exact cb_drop (by k_asm) (fun p hp => by rw [List.mem_singleton.mp hp]; exact List.mem_cons_self)); (case hy7 => exact rfl); (case hxy7 => decide); (case hs7 => (intro _; rfl)); (case hE7 => passes_own); intro i9 v9 t9 g9 h9 tk9 q9 hv9 hG9 F9 N9; (with_reducible rename AllRaise _ _ _ _ _ _ => hA9); (have hO9 := hA9 _ _ hv9); (obtain ⟨f9, e9, hR9, hK9⟩ := hO9); (subst e9); (have B9 := GroundS.below hG9); (have X9 := GroundS.frag hG9); (have T9 := GroundS.top hG9); (have D9 := GroundS.dicts hG9); (have K9 := GroundS.turned hG9))))
local macro_rules | `(tactic| walk_at "callWith") => `(tactic| (k_here; k_dflt (refine' callWith_K ?k1 ?k2 ?_; (case k1 => k_asm); (case k2 => assumption); k_whole)))
local macro_rules | `(tactic| walk_at "call ref") => `(tactic| (k_here; k_dflt (refine' Rs.use ?kC ?k1 ?k2 ?k3 ?k4 ?k5 ?k6 ?kd ?ku ?_; (case kC => assumption); (case k1 => k_asm); (case k2 => k_asm); (case k3 => k_asm); (case k4 => k_asm); (case k5 => k_asm); (case k6 => first | exact rfl | assumption); (case kd => ktr_room); (case ku => ktr_units); intro e9 t9 u9 h9 G9 tk9 F9 R9 U9; (try dsimp only))))
local macro_rules | `(tactic| walk_at "noteFrame ref") => `(tactic| (k_here; k_dflt (refine' caught_S0 (T' := "TypeError") ?R ?F ?K ?U ?XB ?TB ?D ?T0 ?ex PyProof.Rows.Boot.«TypeError» ?hn PySem.F.isExc_TypeError PySem.F.notTuple_TypeError ?hs ?_; (case R => assumption); (case F => assumption); (case K => assumption); (case U => assumption); (case XB => assumption); (case TB => assumption); (case D => assumption); (case T0 => assumption); (case hs => kts_sub); (case ex => k_is); (case hn => decide); intro h8 g8 nw8 K8 F8 N28 Gt8 N8 B8 X8 T8 D8; (clear N28))))
local macro_rules | `(tactic| walk_at "TurnS") => `(tactic| k_dflt (refine' TurnS.next ?g7 ?F7 ?N7 ?j7; (case F7 => k_asm); (case N7 => k_asm); (case g7 => exact GroundS.mk (by k_asm) (by k_asm) (by k_asm) (by k_asm) (by k_asm)); (case j7 => exact ⟨⟨_, rfl⟩, fun z h1 h2 => by simp [h1, h2]⟩)))
theorem refused_gives {x : Str} {tk : Tok} (h1 : x.length ≠ 1) (h2 : x.length < 25) : GR w mean mg mb 20 x tk := by
  k_with_none
  have hA : AllRaise w mean mg mb x tk := allRaise h1 h2
  w_on
  (have hfill : Fill PySem.Challenge.rw_ki0017_01 Mine.hd.heap_39 := by (k_fill; exact trivial)); clear hfill
  w_top on
  w_strict (
    unfold GR
    intros
    rename_i hret
    refine wpAny_call ?_
    k_dflt (refine' code_defS0 ?k1 ?k2 ?k3 ?k4 ?k5 ?kA ?k6 ?k7 ?k8 ?k9 ?kB ?_ ?cK ?c2 ?c3 ?c4 ?c5; (case kA => exact rfl); (case k2 => k_asm); (case k1 => k_asm); (case k3 => k_asm); (case k4 => exact News.nil); (case k5 => k_asm); (case k6 => k_is); (case k7 => k_is); (case k8 => ktr_room); (case k9 => exact BindsTo.of_eq rfl); (case kB => exact locs rfl); (case cK => assumption); (case c2 => exact rfl); (case c3 => exact rfl); (case c4 => exact rfl); (case c5 => decide); k_whole; intro g' L' h' FG' F' N' B' X' T' D'; (try dsimp only); (try k_fold))
    k_steps
    all_goals exact hret _ _ (by assumption))
end Mine

namespace Mine
section
variable {prog : Program} {w : World} {A : Around} {E : Value → Shared → Prop} {s : Shared} {env : Env} {h₀ : Heap} {body : List Stmt} {Q : Flow → Shared → Prop}
/-- a for over a made list of ints; the turn may store y besides -/
theorem for_ints {x y : Str} {px : Pos} {l : Addr} {vs : List Value} {ns : List Int} {k : Nat} {m₀ : Str → Option Value} {news : List (Addr × Obj)}
    (hh : A.handled = none) (hx : env.kindOf x = some .local) (hp : (env.scope.kind == .class || (env.scope.kind == .module && env.locals != env.globals)) = false)
    (F : Fr h₀ env.locals s.heap m₀) (N : News h₀ env.locals s.heap news) (hm : (l, ({ cls := .type "list", data := .seq vs.toArray k } : Obj)) ∈ news) (hi : IntsAre vs ns)
    (turn : ∀ n t (u : Str → Option Value) h tk nws, n ∈ ns → Fr h₀ env.locals h (fun z => if z = x then some (.int n t) else if z = y then u z else m₀ z) → News h₀ env.locals h nws →
      wpAny (model prog w) A (execs body env) (InvPost h₀ env.locals (fun m' => ∀ z, z ≠ x → z ≠ y → m' z = m₀ z) nws { s with heap := h, toks := tk } Q) E { s with heap := h, toks := tk })
    (done : ∀ (u : Str → Option Value) h tk, Fr h₀ env.locals h (fun z => if z = x then u z else if z = y then u z else m₀ z) → News h₀ env.locals h [] → Q .next { s with heap := h, toks := tk }) :
    wpAny (model prog w) A (pyIter (.ref l)) (fun it s₂ => TurnsAt prog w A h₀ env (.Name x px) body Q E it s₂) E s := by
  refine for_items (fun _ m' => ∀ z, z ≠ x → z ≠ y → m' z = m₀ z) hh hm F N (fun _ _ _ => rfl) ?_ ?_
  · intro i v m₁ h tk nws hv hj F₁ N₁ sub
    obtain ⟨n, t, rfl, hn⟩ := IntsAre.at hi i v (by simpa using hv)
    refine wpAny_assign_Name (wpAny_storeName_local hx F₁.ns (fun h₂ hn₂ hs₂ => ?_) hp)
    have e : (fun z => if z = x then some (Value.int n t) else m₁ z) = fun z => if z = x then some (Value.int n t) else if z = y then m₁ z else m₀ z := by
      funext z
      by_cases h1 : z = x
      · simp [h1]
      · by_cases h2 : z = y
        · simp [h2]
        · simp [h1, h2, hj z h1 h2]
    have F₂ := F₁.set hn₂ hs₂
    rw [e] at F₂
    exact turn n t m₁ h₂ _ nws (List.mem_of_getElem? hn) F₂ (N₁.set hs₂)
  · intro m₁ h tk hj F₁ N₁
    refine done m₁ h tk ?_ News.nil
    have e : (fun z => if z = x then m₁ z else if z = y then m₁ z else m₀ z) = m₁ := by
      funext z
      by_cases h1 : z = x
      · simp [h1]
      · by_cases h2 : z = y
        · simp [h2]
        · simp [h1, h2, hj z h1 h2]
    rw [e]
    exact F₁
end
end Mine

namespace Mine
variable {w : World} {mean : ExcName → Option Value} {mg mb : Str → Option Value}

theorem lawCode_range (n : Int) : 0 ≤ lawCode n ∧ lawCode n ≤ 1114111 := by
  have e : n.fmod 1112064 = n % 1112064 := Int.fmod_eq_emod_of_nonneg n (by decide)
  unfold lawCode
  rw [e]
  split <;> omega
theorem holds_code (n : Int) (h0 : 0 ≤ n) (h1 : n ≤ 1114111) (tk tk' tk'' : Tok) : Gs w mean mg mb 20 178 [.str ⟨#[n.toNat]⟩ tk, .int n tk', .str lawTable tk''] (fun _ => .bool true) := by
  obtain ⟨c, rfl⟩ : ∃ c : Nat, n = (c : Int) := ⟨n.toNat, by omega⟩
  exact holds_str c (by omega) tk tk' tk''
theorem mul_two {prog : Program} {A : Around} {E : Value → Shared → Prop} {s : Shared} {x : Str} {t u : Tok} {n : Nat} {Q : Value → Shared → Prop} (hk : x.length = n) (hn : n ≤ 12)
    (h : ∀ t' k, (Txt.mul x 2).length ≠ 1 → (Txt.mul x 2).length < 25 → Q (.str (Txt.mul x 2) t') { s with toks := k }) : wpAny (model prog w) A (binaryOp .Mult (.str x t) (.int 2 u)) Q E s :=
  KXi.mul hk (by omega) (by decide) (by decide) fun t' k _ e => h t' k (by have := e (by decide); omega) (by have := e (by decide); omega)
theorem GR.use {d : Nat} {x : Str} {tk : Tok} {dp un : Nat} {gd : Option (List Code)} {cn : Str} {cs : Scope} {a : Addr} {ccd : Value} {A₀ : Around} {base h₀ : Heap} {L : Addr} {m : Str → Option Value} {s : Shared} {Q E : Value → Shared → Prop}
    (C : GR w mean mg mb d x tk) (B : Below A₀ base [] h₀) (F : Fr h₀ L s.heap m) (X : (Mine.hd.heap_39 w.params).In h₀) (T : Top Mine.hd.view_39 (looseW Mine.hd.view_39 []) mean mg mb h₀) (XB : (Mine.hd.heap_39 w.params).In base) (TB : Top Mine.hd.view_39 (looseW Mine.hd.view_39 []) mean mg mb base) (hk : cs.kind = .function)
    (hd : dp + d < recursionLimit) (hu : un + 8 * d < cLine) (ret : ∀ (h' : Heap) (tk' : Nat), Fr h₀ L h' m → Q (.bool true) { s with heap := h', toks := tk' }) :
    wpAny (model PySem.Challenge.rw_ki0017_01.row.prog w) (ktrTop dp un gd cn cs L a ccd [] []) (call (.ref 183) [.str x tk]) Q E s := C _ _ _ _ _ _ _ _ _ _ _ _ _ _ _ B F X T XB TB hk hd hu ret
theorem code_one (k : Int) : (⟨#[(lawCode k).toNat]⟩ : Str).length = 1 := rfl
local macro_rules | `(tactic| walk_at "call ref") => `(tactic| (k_here; (with_reducible show wpAny _ _ (PySem.call (Value.ref 159) _) _ _ _); k_dflt (refine' Gv.use (Gs.gv table_gives) ?k1 ?k2 ?k3 ?k4 ?k5 ?k6 ?kd ?ku ?_; (case k1 => k_asm); (case k2 => k_asm); (case k3 => k_asm); (case k4 => k_asm); (case k5 => k_asm); (case k6 => first | exact rfl | assumption); (case kd => ktr_room); (case ku => ktr_units); intro t9 h9 tk9 F9 N9; (try dsimp only); (try k_fold))))
local macro_rules | `(tactic| walk_at "call ref") => `(tactic| (k_here; (with_reducible show wpAny _ _ (PySem.call (Value.ref 154) [Value.int _ _]) _ _ _); k_dflt (refine' Gv.use (code_gives _ _) ?k1 ?k2 ?k3 ?k4 ?k5 ?k6 ?kd ?ku ?_; (case k1 => k_asm); (case k2 => k_asm); (case k3 => k_asm); (case k4 => k_asm); (case k5 => k_asm); (case k6 => first | exact rfl | assumption); (case kd => ktr_room); (case ku => ktr_units); intro t9 h9 tk9 F9 N9; (try dsimp only); (try k_fold))))
local macro_rules | `(tactic| walk_at "call ref") => `(tactic| (k_here; (with_reducible show wpAny _ _ (PySem.call (Value.ref 178) [Value.int _ _, Value.int _ _, Value.str _ _]) _ _ _); k_dflt (refine' Gv.use (holds_int _ _ _ _).gv ?k1 ?k2 ?k3 ?k4 ?k5 ?k6 ?kd ?ku ?_; (case k1 => k_asm); (case k2 => k_asm); (case k3 => k_asm); (case k4 => k_asm); (case k5 => k_asm); (case k6 => first | exact rfl | assumption); (case kd => ktr_room); (case ku => ktr_units); intro t9 h9 tk9 F9 N9; (try dsimp only); (try k_fold))))
local macro_rules | `(tactic| walk_at "call ref") => `(tactic| (k_here; (with_reducible show wpAny _ _ (PySem.call (Value.ref 178) [Value.str _ _, Value.int _ _, Value.str _ _]) _ _ _); k_dflt (refine' Gv.use (holds_code _ (lawCode_range _).1 (lawCode_range _).2 _ _ _).gv ?k1 ?k2 ?k3 ?k4 ?k5 ?k6 ?kd ?ku ?_; (case k1 => k_asm); (case k2 => k_asm); (case k3 => k_asm); (case k4 => k_asm); (case k5 => k_asm); (case k6 => first | exact rfl | assumption); (case kd => ktr_room); (case ku => ktr_units); intro t9 h9 tk9 F9 N9; (try dsimp only); (try k_fold))))

local macro_rules | `(tactic| walk_at "exec For Name BinOp cons nil") => `(tactic| (k_here; (rename Fr _ _ _ _ => lF'); (with_unfolding_all refine For_turns lF' ?_)))
local macro_rules | `(tactic| walk_at "pyIter ref") => `(tactic| (k_here; k_dflt (refine' for_ints (y := PySem.Str.ofString "code") ?hh ?ha ?hp ?F ?N ?hm ?hi ?_ ?_; (case hh => exact rfl); (case ha => exact rfl); (case hp => exact rfl); (case F => k_asm); (case N => k_asm); (case hm => k_mem); (case hi => assumption); intro n9 t9 u9 h9 tk9 nws9 hn9 F9 N9)))
local macro_rules | `(tactic| walk_at "InvEnd") => `(tactic| (refine InvEnd.intro (by assumption) (by assumption) (fun p hp => hp) ?_; intro z h1 h2; simp [h1, h2]))
local macro_rules | `(tactic| walk_at "call builtin:chr") => `(tactic| (k_here; (with_reducible show wpAny _ _ (PySem.call (Value.builtin "chr") [Value.int (lawCode _) _]) _ _ _); k_dflt (refine chr_of_range (lawCode_range _).1 (lawCode_range _).2 ?_)))
local macro_rules | `(tactic| walk_at "eval ListComp") => `(tactic| (k_here; k_dflt (refine LCg.ListComp_U (F₀ := by k_asm) (by with_unfolding_all rfl) (by decide) (by rfl) (by decide) (by rfl) ?_)))
local macro_rules | `(tactic| walk_at "CompSrc") => `(tactic| (k_here; k_dflt (refine' LCg.CompSrc.ledger ?hh7 ?F7 ?N7 ?hm7 ?hs7 ?_; (case hh7 => exact rfl); (case F7 => k_asm); (case N7 => k_asm); (case hm7 => k_mem); (case hs7 => first | size_fits | exact Nat.le_of_ble_eq_true rfl); intro g'; refine' kct_list (fun k => (⟨#[(lawCode k).toNat]⟩ : PySem.Str)) ?hi7 ?_ ?_; (case hi7 => assumption); intro k9 t9 I9 oI9 C9 oC9 D9 m9 ys9 h9 tk9 E9 hk9 hC9 hx9 F9 N9 off9 ne9 mk9)))
local macro_rules | `(tactic| walk_at "CompEnd") => `(tactic| k_dflt (refine' LCg.CompEnd.intro ?F7 ?N7 _ (fun p hp => hp) ?o7 ?s7 ?r7; (case F7 => k_asm); (case N7 => k_asm); (case o7 => assumption); (case s7 => exact Or.inr ⟨_, by k_mem, rfl, _, rfl⟩); (case r7 => exact ⟨rfl, _, rfl⟩)))
local macro_rules | `(tactic| walk_at "KCtEl") => `(tactic| k_dflt (exact ⟨rfl, _, rfl⟩))
local macro_rules | `(tactic| walk_at "KPfDone") => `(tactic| k_dflt (unfold KPfDone; intro ys9 hc9 hl9))
local macro_rules | `(tactic| walk_at "call builtin:str.join") => `(tactic| (k_here; (with_reducible rename CarriedAll _ (List.map _ _) => ktC); k_dflt (refine' KT.join_1 ?l7 ktC ?o7 ?n7 ?_; (case l7 => exact News.isList (by k_asm) (by k_mem)); (case o7 => (intro a9 _; exact code_one a9)); (case n7 => omega); intro t9 k9 ktE)))
local macro_rules | `(tactic| walk_at "binaryOp Mult str int") => `(tactic| (k_here; k_dflt (refine' mul_two ?k7 ?n7 ?_; (case k7 => assumption); (case n7 => omega); intro t9 k9 x9 y9)))
local macro_rules | `(tactic| walk_at "call ref") => `(tactic| (k_here; (with_reducible show wpAny _ _ (PySem.call (Value.ref 183) [_]) _ _ _); k_dflt (refine' GR.use (refused_gives ?kx ?ky) ?k1 ?k2 ?k3 ?k4 ?kXB ?kTB ?k6 ?kd ?ku ?_; (case kx => assumption); (case ky => assumption); (case k1 => k_asm); (case k2 => k_asm); (case k3 => k_asm); (case k4 => k_asm); (case kXB => k_asm); (case kTB => k_asm); (case k6 => first | exact rfl | assumption); (case kd => ktr_room); (case ku => ktr_units); intro h9 tk9 F9; (try dsimp only); (try k_fold))))
theorem walk : PySem.Challenge.rw_ki0017_01.Holds := Mine.hd (by
  k_with_none
  w_on
  w_strict (k_go0; (all_goals try k_fold); k_steps; all_goals w_report))
end Mine

set_option maxRecDepth 100000 in
set_option maxHeartbeats 8000000 in
theorem PySem.Challenge.cw_ki0017_01_holds : PySem.Challenge.rw_ki0017_01.Holds := by
  exact Mine.walk
