import PyProof.Rows.All
import Wide.All
import OpenK.AllK
import Wide.FinOn
import PySem.Challenge.RW_au6007_01
set_option Elab.async false
set_option rowWalk.seconds 0
-- Head
section
open PySem PySem.W PyProof.Rows
namespace Mine
set_option maxRecDepth 100000 in
set_option maxHeartbeats 8000000 in
open_top hd for PySem.Challenge.rw_au6007_01
end Mine
end
theorem Mine.walk_plain : True := by
  w_top off
  trivial
-- Base
section
open PySem PySem.W PyProof.Rows PySem.Spec PySem.Calls
namespace Mine
abbrev PR : Program := PySem.Challenge.rw_au6007_01.row.prog

def Does (w : World) (news : List (Addr × Obj)) (d : Nat) (f : Value) (vs : List Value) (P : Value → Prop) : Prop :=
  ∀ (p : Program) (loose : List Str) (mean : ExcName → Option Value) (mg mb : Str → Option Value) (dp un : Nat) (gd : Option (List Code)) (cn : Str) (cs : Scope) (a : Addr) (ccd : Value) (cl : List (Str × Addr)) (outer : List Env) (A₀ : Around) (base h₀ : Heap) (L : Addr) (m : Str → Option Value) (s : Shared)
    (Q E : Value → Shared → Prop),
    Below A₀ base outer h₀ → Fr h₀ L s.heap m → (Mine.hd.heap_39 w.params).In h₀ → News h₀ L s.heap news → Top p loose mean mg mb h₀ → cs.kind = .function → dp + d ≤ 500 → un + 10 * d ≤ 5000 →
    (∀ r h' tk', P r → Fr h₀ L h' m → News h₀ L h' news → Q r { s with heap := h', toks := tk' }) →
    wpAny (model PySem.Challenge.rw_au6007_01.row.prog w) (ktrTop dp un gd cn cs L a ccd cl outer) (call f vs) Q E s

def sayB (way a b : Int) : Bool := if way = 0 then decide (a = b) else if way = 1 then decide (a ≤ b) else decide (a - b ≤ 1 ∧ b - a ≤ 1)
theorem dp_room {x d : Nat} (h : x + d ≤ 500) : x < recursionLimit := by have : recursionLimit = 1000 := rfl; omega
theorem dp_next {x d d₀ : Nat} (h : x + d₀ ≤ 500) (hk : Nat.ble (d + 1) d₀ = true) : x + 1 + d ≤ 500 := by have := Nat.le_of_ble_eq_true hk; omega
theorem un_next {x d d₀ : Nat} (h : x + 10 * d₀ ≤ 5000) (hk : Nat.ble (d + 1) d₀ = true) : x + 3 + 10 * d ≤ 5000 := by have := Nat.le_of_ble_eq_true hk; omega
theorem un_room {x d₀ : Nat} (h : x + 10 * d₀ ≤ 5000) : x + 3 + 64 < cLine := by have : cLine = 9900 := rfl; omega
end Mine
end
-- C1
section
open PySem PySem.W PyProof.Rows PySem.Spec PySem.Calls
set_option maxRecDepth 100000
set_option maxHeartbeats 8000000
set_option linter.unusedVariables false
namespace Mine
local macro_rules | `(tactic| ktr_room) => `(tactic| exact dp_room (by assumption))
theorem say_0 {way a b : Int} (h : way = 0) : (a == b) = sayB way a b := by subst h; simp only [sayB, if_true]; rfl
theorem say_1 {way a b : Int} (h : way = 1) : decide (a ≤ b) = sayB way a b := by subst h; simp [sayB]
theorem say_2 {way a b : Int} (h : way ≠ 0) (h' : way ≠ 1) (c : a - b ≤ 1) : decide (b - a ≤ 1) = sayB way a b := by simp [sayB, h, h', c]
theorem say_3 {way a b : Int} (h : way ≠ 0) (h' : way ≠ 1) (c : ¬ (a - b ≤ 1)) : decide (a - b ≤ 1) = sayB way a b := by simp [sayB, h, h', c]
theorem say_4 {a b : Int} : decide ((if a - b < 0 then -(a - b) else a - b) ≤ 1) = sayB 2 a b := by
  simp only [sayB, show ¬ ((2 : Int) = 0) by decide, show ¬ ((2 : Int) = 1) by decide, if_false]
  refine decide_eq_decide.mpr ?_
  split <;> omega
theorem says_does (w : World) (news : List (Addr × Obj)) (way a b : Int) (tw ta tb : Tok) :
    Does w news 1 (.ref 85) [.int way tw, .int a ta, .int b tb] (fun r => r = .bool (sayB way a b)) := by
  unfold Does
  k_fill
  intro p loose mean mg mb dp un gd cn cs fa ccd cl outer A₀ base h₀ L m s Q E B F X N T hk hd hu hret
  refine wpAny_call ?_
  k_dflt ktr_enter
  k_steps
  all_goals (refine hret _ _ _ ?_ (by assumption) (by assumption))
  all_goals (refine congrArg Value.bool ?_)
  all_goals (first | exact say_0 (by assumption) | exact say_1 (by assumption) | exact say_2 (by assumption) (by assumption) (by assumption) | exact say_3 (by assumption) (by assumption) (by assumption))
theorem same_does (w : World) (news : List (Addr × Obj)) (a b : Int) (ta tb : Tok) :
    Does w news 1 (.ref 50) [.int a ta, .int b tb] (fun r => r = .bool (sayB 0 a b)) := by
  unfold Does
  k_fill
  intro p loose mean mg mb dp un gd cn cs fa ccd cl outer A₀ base h₀ L m s Q E B F X N T hk hd hu hret
  refine wpAny_call ?_
  k_dflt ktr_enter
  k_steps
  all_goals (refine hret _ _ _ ?_ (by assumption) (by assumption))
  all_goals (exact congrArg Value.bool (say_0 rfl))
theorem below_does (w : World) (news : List (Addr × Obj)) (a b : Int) (ta tb : Tok) :
    Does w news 1 (.ref 57) [.int a ta, .int b tb] (fun r => r = .bool (sayB 1 a b)) := by
  unfold Does
  k_fill
  intro p loose mean mg mb dp un gd cn cs fa ccd cl outer A₀ base h₀ L m s Q E B F X N T hk hd hu hret
  refine wpAny_call ?_
  k_dflt ktr_enter
  k_steps
  all_goals (refine hret _ _ _ ?_ (by assumption) (by assumption))
  all_goals (exact congrArg Value.bool (say_1 rfl))
theorem close_does (w : World) (news : List (Addr × Obj)) (a b : Int) (ta tb : Tok) :
    Does w news 1 (.ref 64) [.int a ta, .int b tb] (fun r => r = .bool (sayB 2 a b)) := by
  unfold Does
  k_fill
  intro p loose mean mg mb dp un gd cn cs fa ccd cl outer A₀ base h₀ L m s Q E B F X N T hk hd hu hret
  refine wpAny_call ?_
  k_dflt ktr_enter
  k_steps
  all_goals (refine hret _ _ _ ?_ (by assumption) (by assumption))
  all_goals (exact congrArg Value.bool say_4)
end Mine
end
-- C2
section
open PySem PySem.W PyProof.Rows PySem.Spec PySem.Calls PyProof.V
set_option maxRecDepth 100000
set_option maxHeartbeats 8000000
set_option linter.unusedVariables false
namespace Mine
local macro_rules | `(tactic| ktr_room) => `(tactic| exact dp_room (by assumption))
def IntsD (D : List (PyData × PyData)) : Prop := ∀ x v, lookup (.str x) D = some v → ∃ i, v = .int i
def pickD (D : List (PyData × PyData)) (x : Str) (i : Int) : Int := match lookup (.str x) D with | some (.int j) => j | _ => i
def RowAt (w : World) (news : List (Addr × Obj)) (d : Addr) (D : List (PyData × PyData)) : Prop :=
  IntsD D ∧ (d == sysModules) = false ∧ ∃ (o : Obj) (kvs : List (Str × Value)), (d, o) ∈ news ∧ o.IsDictOf (strKind PySem.Challenge.rw_au6007_01.row.prog w) kvs ∧ FlatPairs PyData.str kvs D
theorem RowAt.tab {w : World} {news : List (Addr × Obj)} {d : Addr} {D : List (PyData × PyData)} {h₀ h : Heap} {L : Addr} (R : RowAt w news d D) (N : News h₀ L h news) : StrTab PySem.Challenge.rw_au6007_01.row.prog w h d D := by
  obtain ⟨_, lo, o, kvs, hm, hd, hf⟩ := R
  exact TabAt.ofNews N hm lo hd hf
section
variable {prog : Program} {w : World} {A : Around} {E : Value → Shared → Prop} {s : Shared} {d : Addr} {D : List (PyData × PyData)}
theorem in_some {x : Str} {t : Tok} {v : PyData} {Q : Value → Shared → Prop} (T : StrTab prog w s.heap d D) (hl : lookup (.str x) D = some v) (h : Q (.bool true) { s with toks := s.toks + 1 }) :
    wpAny (model prog w) A (compareOp .In (.str x t) (.ref d)) Q E s := in_strTab T (by rw [hl]; exact h)
theorem in_none {x : Str} {t : Tok} {Q : Value → Shared → Prop} (T : StrTab prog w s.heap d D) (hl : lookup (.str x) D = none) (h : Q (.bool false) { s with toks := s.toks + 1 }) :
    wpAny (model prog w) A (compareOp .In (.str x t) (.ref d)) Q E s := in_strTab T (by rw [hl]; exact h)
end
local macro_rules | `(tactic| k_tabat) => `(tactic| exact RowAt.tab (by assumption) (by k_asm))
local macro_rules | `(tactic| walk_at "compareOp In str ref") => `(tactic| (k_here; k_dflt (first | refine in_some (by k_tabat) (by assumption) ?_ | refine in_none (by k_tabat) (by assumption) ?_)))
theorem pick_does (w : World) (news : List (Addr × Obj)) (d : Addr) (D : List (PyData × PyData)) (R : RowAt w news d D) (x : Str) (tx : Tok) (i : Int) (ti : Tok) :
    Does w news 1 (.ref 78) [.ref d, .str x tx, .int i ti] (fun r => ∃ t, r = .int (pickD D x i) t) := by
  unfold Does
  k_fill
  intro p loose mean mg mb dp un gd cn cs fa ccd cl outer A₀ base h₀ L m s Q E B F X N T hk hd hu hret
  have RI := R.1
  unfold pickD at hret
  cases hl : lookup (.str x) D with
  | none =>
    rw [hl] at hret
    refine wpAny_call ?_
    k_dflt ktr_enter
    k_steps
    all_goals exact hret _ _ _ ⟨_, rfl⟩ (by assumption) (by assumption)
  | some v =>
    obtain ⟨j, rfl⟩ := RI x v hl
    rw [hl] at hret
    refine wpAny_call ?_
    k_dflt ktr_enter
    k_steps
    all_goals exact hret _ _ _ ⟨_, rfl⟩ (by assumption) (by assumption)
end Mine
end
-- CT
section
open PySem PySem.W PyProof.Rows PySem.Spec PySem.Calls PyProof.V
set_option maxRecDepth 100000
set_option maxHeartbeats 8000000
set_option linter.unusedVariables false
namespace Mine
def noneB (b : Nat → Bool) : Nat → Nat → Bool
  | 0, _ => true
  | k + 1, i => !b i && noneB b k (i + 1)
theorem intsAre_snoc {vs : List Value} {ns : List Int} (h : IntsAre vs ns) (i : Int) (t : Tok) : IntsAre (vs ++ [.int i t]) (ns ++ [i]) := by
  induction h with
  | nil => exact .cons i t .nil
  | cons k u r ih => exact .cons k u ih
section
variable {prog : Program} {w : World} {A : Around} {s : Shared} {h₀ : Heap} {L : Addr} {m : Str → Option Value} {env : Env}
def Turn (prog : Program) (w : World) (A : Around) (h₀ : Heap) (L : Addr) (m : Str → Option Value) (env : Env) (ct : Expr) (x : Str) (scope : Scope) (cl : List (Str × Addr)) (s : Shared) (P : Nat → Value → Prop) (news : List (Addr × Obj)) (b : Bool) (j : Nat) : Prop :=
  ∀ (ys : List Value) v I oI C oC D m₂ h tk (E' : Value → Shared → Prop), P j v → LCg.NsObj oC m₂ → m₂ x = some v → Fr h₀ L h m → News h₀ L h ((I, oI) :: (C, oC) :: (D, LCg.lst ys) :: news) → LCg.Off3 I C D news →
    (∀ (Q : Bool → Shared → Prop), (∀ ok h' tk', ok = b → Fr h₀ L h' m → News h₀ L h' ((I, oI) :: (C, oC) :: (D, LCg.lst ys) :: news) → Q ok { s with heap := h', toks := tk' }) →
      wpAny (model prog w) A (isTrue ct (compEnvC scope cl C env) (eval ct (compEnvC scope cl C env))) Q E' { s with heap := h, toks := tk })
theorem comp_turns {ct : Expr} {x : Str} {px : Pos} {scope : Scope} {cl : List (Str × Addr)} {S : List (Addr × Obj) → Prop} {P : Nat → Value → Prop} {Fin : List Value → List (Addr × Obj) → Prop} {news : List (Addr × Obj)}
    (b : Nat → Bool) (hS : S news) (hP : ∀ j v, P j v → ∃ i t, v = .int i t)
    (hk : ∀ C, (compEnvC scope cl C env).scope.kind = .function) (hl : ∀ C, (compEnvC scope cl C env).kindOf x = some .local) (hd : (x == ("__debug__" : Str)) = false) :
    ∀ (k i : Nat) (ys : List Value) (ns : List Int), IntsAre ys ns → (∀ j, i ≤ j → j < i + k → Turn prog w A h₀ L m env ct x scope cl s P news (b j) j) →
      (∀ ys' ns', IntsAre ys' ns' → decide (ns' = []) = (decide (ns = []) && noneB b k i) → Fin ys' news) → LCt.CompRestT prog w A h₀ L m env ct (.Name x px) x scope cl s S P Fin k i ys news
  | 0, i, ys, ns, hi, ht, hf => LCt.CompRestT.zero (hf ys ns hi (by simp [noneB]))
  | k + 1, i, ys, ns, hi, ht, hf => by
    refine LCt.CompRestT.succ fun v I oI C oC D m₂ h tk E' hv hC hx F N off ne => ?_
    refine ht i (Nat.le_refl _) (by omega) ys v I oI C oC D m₂ h tk E' hv hC hx F N off _ fun ok h' tk' e F' N' => ?_
    cases hb : b i with
    | true =>
      rw [e, hb]
      simp only [if_true]
      obtain ⟨n, t, rfl⟩ := hP i v hv
      refine LCgL.ld_own N' (List.mem_cons_of_mem _ List.mem_cons_self) hC hx ?_ (hk C) (hl C) hd
      refine LCg.CompEnd.intro F' N' news (fun _ q => q) off hS ?_
      refine comp_turns b hS hP hk hl hd k (i + 1) (ys ++ [.int n t]) (ns ++ [n]) (intsAre_snoc hi n t) (fun j h1 h2 => ht j (by omega) (by omega)) fun ys' ns' h1 h2 => hf ys' ns' h1 ?_
      rw [h2]
      simp [noneB, hb]
    | false =>
      rw [e, hb]
      simp only [Bool.false_eq_true, if_false]
      refine LCg.CompEnd.intro F' N' news (fun _ q => q) off hS ?_
      refine comp_turns b hS hP hk hl hd k (i + 1) ys ns hi (fun j h1 h2 => ht j (by omega) (by omega)) fun ys' ns' h1 h2 => hf ys' ns' h1 ?_
      rw [h2]
      simp [noneB, hb]
end
end Mine
end
-- C3
section
open PySem PySem.W PyProof.Rows PySem.Spec PySem.Calls PyProof.V
set_option maxRecDepth 100000
set_option maxHeartbeats 8000000
set_option linter.unusedVariables false
namespace Mine
theorem Does.use {w : World} {news : List (Addr × Obj)} {d : Nat} {f : Value} {vs : List Value} {P : Value → Prop} (C : Does w news d f vs P)
    {p : Program} {loose : List Str} {mean : ExcName → Option Value} {mg mb : Str → Option Value} {dp un : Nat} {gd : Option (List Code)} {cn : Str} {cs : Scope} {a : Addr} {ccd : Value} {cl : List (Str × Addr)} {outer : List Env} {A₀ : Around} {base h₀ : Heap} {L : Addr} {m : Str → Option Value} {s : Shared}
    {Q E : Value → Shared → Prop} (B : Below A₀ base outer h₀) (F : Fr h₀ L s.heap m) (X : (Mine.hd.heap_39 w.params).In h₀) (N : News h₀ L s.heap news) (T : Top p loose mean mg mb h₀) (hk : cs.kind = .function) (hd : dp + d ≤ 500) (hu : un + 10 * d ≤ 5000)
    (ret : ∀ r h' tk', P r → Fr h₀ L h' m → News h₀ L h' news → Q r { s with heap := h', toks := tk' }) :
    wpAny (model PySem.Challenge.rw_au6007_01.row.prog w) (ktrTop dp un gd cn cs L a ccd cl outer) (call f vs) Q E s := C p loose mean mg mb dp un gd cn cs a ccd cl outer A₀ base h₀ L m s Q E B F X N T hk hd hu ret
theorem cells5 {cm : Str → Option Value} {n1 n2 n3 n4 n5 : Str} {c1 c2 c3 c4 c5 : Addr} {cells : List (Addr × Obj)} (x : CellsAre cm [(n1, c1), (n2, c2), (n3, c3), (n4, c4), (n5, c5)] cells) :
    ∃ o1 o2 o3 o4 o5, cells = [(c1, o1), (c2, o2), (c3, o3), (c4, o4), (c5, o5)] ∧ o1.data = .cell (cm n1) ∧ o2.data = .cell (cm n2) ∧ o3.data = .cell (cm n3) ∧ o4.data = .cell (cm n4) ∧ o5.data = .cell (cm n5) := by
  cases x with | cons h1 r => cases r with | cons h2 r => cases r with | cons h3 r => cases r with | cons h4 r => cases r with | cons h5 r => cases r; exact ⟨_, _, _, _, _, rfl, h1, h2, h3, h4, h5⟩
theorem RowAt.more {w : World} {news news' : List (Addr × Obj)} {d : Addr} {D : List (PyData × PyData)} (R : RowAt w news d D) (h : ∀ p ∈ news, p ∈ news') : RowAt w news' d D := by
  obtain ⟨a, lo, o, kvs, hm, r⟩ := R
  exact ⟨a, lo, o, kvs, h _ hm, r⟩
local macro_rules | `(tactic| walk_at "call ref") => `(tactic| (k_here; k_dflt (
  (refine' Does.use (pick_does _ _ _ _ ?kR _ _ _ _) ?k1 ?k2 ?k3 ?k4 ?k5 ?kK ?kd ?ku ?_; (case k1 => k_asm); (case k2 => k_asm); (case k3 => k_asm); (case k4 => k_asm); (case k5 => k_asm); (case kR => first | assumption | (refine RowAt.more (by assumption) ?_; intro p9 hp9; (repeat (first | assumption | refine List.mem_cons_of_mem _ ?_)))); (case kK => first | exact rfl | assumption); (case kd => exact dp_next (by assumption) rfl); (case ku => exact un_next (by assumption) rfl); (intro r9 h9 tk9 hP9 F9 N9); (obtain ⟨t9, e9⟩ := hP9); (subst e9); (try dsimp only); (try k_fold)))))
local macro_rules | `(tactic| walk_at "call ref") => `(tactic| (k_here; k_dflt (
  (refine' Does.use (says_does _ _ _ _ _ _ _ _) ?k1 ?k2 ?k3 ?k4 ?k5 ?kK ?kd ?ku ?_; (case k1 => k_asm); (case k2 => k_asm); (case k3 => k_asm); (case k4 => k_asm); (case k5 => k_asm); (case kK => first | exact rfl | assumption); (case kd => exact dp_next (by assumption) rfl); (case ku => exact un_next (by assumption) rfl); (intro r9 h9 tk9 hP9 F9 N9); (subst hP9); (try dsimp only); (try k_fold)))))
theorem compEnd_same {h₀ : Heap} {L : Addr} {m : Str → Option Value} {s₁ : Shared} {I C D : Addr} {oI oC oD : Obj} {S : List (Addr × Obj) → Prop} {rest : Value → List (Addr × Obj) → Prop} {y : Value} {h' : Heap} {tk : Nat} {news : List (Addr × Obj)}
    (F : Fr h₀ L h' m) (N : News h₀ L h' ((I, oI) :: (C, oC) :: (D, oD) :: news)) (off : LCg.Off3 I C D news) (hS : S news) (r : rest y news) :
    LCg.CompEnd h₀ L m s₁ I oI C oC D oD S rest y { s₁ with heap := h', toks := tk } := LCg.CompEnd.intro F N news (fun _ h => h) off hS r
local macro_rules | `(tactic| walk_at "CompEnd") => `(tactic| (k_here; k_dflt (refine' compEnd_same ?F ?N ?off ?src ?_; (case F => k_asm); (case N => k_asm); (case off => assumption); (case src => lcg_src))))
local macro_rules | `(tactic| walk_at "eval Call") => `(tactic| (k_here; (with_reducible show wpAny _ _ (eval (Expr.Call (Expr.Name (Str.ofString "_law_says") _) _ _ _) _) _ _ _); k_dflt (refine Call_ ?_)))
local macro_rules | `(tactic| walk_at "eval Call") => `(tactic| (k_here; (with_reducible show wpAny _ _ (eval (Expr.Call (Expr.Name (Str.ofString "_law_pick") _) _ _ _) _) _ _ _); k_dflt (refine Call_ ?_)))
local macro_rules | `(tactic| units_room) => `(tactic| exact un_room (by assumption))
def agree (D1 D2 : List (PyData × PyData)) (x : Str) (i w : Int) : Bool := sayB w (pickD D1 x i) (pickD D2 x i)
theorem below1 {j : Nat} (h : j < 0 + 1) : j = 0 := by omega
theorem below2 {j : Nat} (h : j < 0 + 2) : j = 0 ∨ j = 1 := by omega
theorem below3 {j : Nat} (h : j < 0 + 3) : j = 0 ∨ j = 1 ∨ j = 2 := by omega
theorem all1_does (w : World) (news : List (Addr × Obj)) (d1 d2 : Addr) (D1 D2 : List (PyData × PyData)) (R1 : RowAt w news d1 D1) (R2 : RowAt w news d2 D2)
    (kl dl wl : Addr) (x1 : Str) (t1 : Tok) (i1 : Int) (u1 : Tok) (w1 : Int) (v1 : Tok) :
    Does w ((kl, PySem.W.listOf [.str x1 t1].toArray 0) :: (dl, PySem.W.listOf [.int i1 u1].toArray 0) :: (wl, PySem.W.listOf [.int w1 v1].toArray 0) :: news) 20 (.ref 90) [.ref d1, .ref d2, .ref kl, .ref dl, .ref wl]
      (fun r => r = .bool (agree D1 D2 x1 i1 w1 && true)) := by
  unfold Does
  k_fill
  intro p loose mean mg mb dp un gd cn cs fa ccd cl outer A₀ base h₀ L m s Q E B F X N T hk hd hu hret
  refine wpAny_call ?_
  k_dflt (refine' code_defC ?k1 ?k2 ?k3 ?k4 ?k5 ?kA ?kF ?kK ?k6 ?k7 ?k8 ?k9 ?kB ?kD ?_ ?c2 ?c3 ?c4; (case kA => exact rfl); (case kF => exact rfl); (case kK => assumption); (case k1 => k_asm); (case k2 => k_asm); (case k3 => k_asm); (case k4 => k_asm); (case k5 => k_asm); (case k6 => k_is); (case k7 => k_is); (case k8 => exact dp_room (by assumption)); (case k9 => exact BindsTo.of_eq rfl); (case kB => exact rfl); (case kD => decide +kernel); (case c2 => exact rfl); (case c3 => exact rfl); (case c4 => exact rfl); k_whole; intro g' L' h' tk' cells' FG' F' N' Y' B' X' T' l1; (try k_lt l1); (have hY := cells5 Y'; obtain ⟨o1', o2', o3', o4', o5', hE', d1', d2', d3', d4', d5'⟩ := hY; subst hE'; clear Y'); (try simp only [List.cons_append, List.nil_append] at N'); (try dsimp only); (try k_lift B'); (try k_fold))
  walk1
  walk1
  walk1
  walk1
  refine comp_turns (b := fun j => match j with  | _ => !(agree D1 D2 x1 i1 w1)) trivial (fun _ _ h => ⟨_, h⟩) (fun _ => rfl) (fun _ => rfl) (by decide) _ _ [] [] .nil ?turns ?fin
  case turns =>
    intro j h1 h2
    obtain rfl := below1 h2
    all_goals (
      unfold Turn
      intro ys v I oI C oC D m₂ h tk E' hv hC hx F9 N9 off9 Q9 hret9
      obtain ⟨t9, e9⟩ := hv
      subst e9
      k_steps
      refine hret9 _ _ _ rfl (by assumption) (by assumption))
  case fin =>
    intro ys' ns' hi9 hd9
    k_steps
    refine hret _ _ _ (congrArg Value.bool (hd9.trans (by simp only [noneB, Bool.not_not, decide_true, Bool.true_and]))) (by assumption) (by first | assumption | (refine cb_drop (by assumption) ?_; intro p9 hp9; (repeat (first | assumption | refine List.mem_cons_of_mem _ ?_))))
theorem all2_does (w : World) (news : List (Addr × Obj)) (d1 d2 : Addr) (D1 D2 : List (PyData × PyData)) (R1 : RowAt w news d1 D1) (R2 : RowAt w news d2 D2)
    (kl dl wl : Addr) (x1 : Str) (t1 : Tok) (i1 : Int) (u1 : Tok) (w1 : Int) (v1 : Tok) (x2 : Str) (t2 : Tok) (i2 : Int) (u2 : Tok) (w2 : Int) (v2 : Tok) :
    Does w ((kl, PySem.W.listOf [.str x1 t1, .str x2 t2].toArray 0) :: (dl, PySem.W.listOf [.int i1 u1, .int i2 u2].toArray 0) :: (wl, PySem.W.listOf [.int w1 v1, .int w2 v2].toArray 0) :: news) 20 (.ref 90) [.ref d1, .ref d2, .ref kl, .ref dl, .ref wl]
      (fun r => r = .bool (agree D1 D2 x1 i1 w1 && (agree D1 D2 x2 i2 w2 && true))) := by
  unfold Does
  k_fill
  intro p loose mean mg mb dp un gd cn cs fa ccd cl outer A₀ base h₀ L m s Q E B F X N T hk hd hu hret
  refine wpAny_call ?_
  k_dflt (refine' code_defC ?k1 ?k2 ?k3 ?k4 ?k5 ?kA ?kF ?kK ?k6 ?k7 ?k8 ?k9 ?kB ?kD ?_ ?c2 ?c3 ?c4; (case kA => exact rfl); (case kF => exact rfl); (case kK => assumption); (case k1 => k_asm); (case k2 => k_asm); (case k3 => k_asm); (case k4 => k_asm); (case k5 => k_asm); (case k6 => k_is); (case k7 => k_is); (case k8 => exact dp_room (by assumption)); (case k9 => exact BindsTo.of_eq rfl); (case kB => exact rfl); (case kD => decide +kernel); (case c2 => exact rfl); (case c3 => exact rfl); (case c4 => exact rfl); k_whole; intro g' L' h' tk' cells' FG' F' N' Y' B' X' T' l1; (try k_lt l1); (have hY := cells5 Y'; obtain ⟨o1', o2', o3', o4', o5', hE', d1', d2', d3', d4', d5'⟩ := hY; subst hE'; clear Y'); (try simp only [List.cons_append, List.nil_append] at N'); (try dsimp only); (try k_lift B'); (try k_fold))
  walk1
  walk1
  walk1
  walk1
  refine comp_turns (b := fun j => match j with | 0 => !(agree D1 D2 x1 i1 w1) | _ => !(agree D1 D2 x2 i2 w2)) trivial (fun _ _ h => ⟨_, h⟩) (fun _ => rfl) (fun _ => rfl) (by decide) _ _ [] [] .nil ?turns ?fin
  case turns =>
    intro j h1 h2
    obtain rfl | rfl := below2 h2
    all_goals (
      unfold Turn
      intro ys v I oI C oC D m₂ h tk E' hv hC hx F9 N9 off9 Q9 hret9
      obtain ⟨t9, e9⟩ := hv
      subst e9
      k_steps
      refine hret9 _ _ _ rfl (by assumption) (by assumption))
  case fin =>
    intro ys' ns' hi9 hd9
    k_steps
    refine hret _ _ _ (congrArg Value.bool (hd9.trans (by simp only [noneB, Bool.not_not, decide_true, Bool.true_and]))) (by assumption) (by first | assumption | (refine cb_drop (by assumption) ?_; intro p9 hp9; (repeat (first | assumption | refine List.mem_cons_of_mem _ ?_))))
theorem all3_does (w : World) (news : List (Addr × Obj)) (d1 d2 : Addr) (D1 D2 : List (PyData × PyData)) (R1 : RowAt w news d1 D1) (R2 : RowAt w news d2 D2)
    (kl dl wl : Addr) (x1 : Str) (t1 : Tok) (i1 : Int) (u1 : Tok) (w1 : Int) (v1 : Tok) (x2 : Str) (t2 : Tok) (i2 : Int) (u2 : Tok) (w2 : Int) (v2 : Tok) (x3 : Str) (t3 : Tok) (i3 : Int) (u3 : Tok) (w3 : Int) (v3 : Tok) :
    Does w ((kl, PySem.W.listOf [.str x1 t1, .str x2 t2, .str x3 t3].toArray 0) :: (dl, PySem.W.listOf [.int i1 u1, .int i2 u2, .int i3 u3].toArray 0) :: (wl, PySem.W.listOf [.int w1 v1, .int w2 v2, .int w3 v3].toArray 0) :: news) 20 (.ref 90) [.ref d1, .ref d2, .ref kl, .ref dl, .ref wl]
      (fun r => r = .bool (agree D1 D2 x1 i1 w1 && (agree D1 D2 x2 i2 w2 && (agree D1 D2 x3 i3 w3 && true)))) := by
  unfold Does
  k_fill
  intro p loose mean mg mb dp un gd cn cs fa ccd cl outer A₀ base h₀ L m s Q E B F X N T hk hd hu hret
  refine wpAny_call ?_
  k_dflt (refine' code_defC ?k1 ?k2 ?k3 ?k4 ?k5 ?kA ?kF ?kK ?k6 ?k7 ?k8 ?k9 ?kB ?kD ?_ ?c2 ?c3 ?c4; (case kA => exact rfl); (case kF => exact rfl); (case kK => assumption); (case k1 => k_asm); (case k2 => k_asm); (case k3 => k_asm); (case k4 => k_asm); (case k5 => k_asm); (case k6 => k_is); (case k7 => k_is); (case k8 => exact dp_room (by assumption)); (case k9 => exact BindsTo.of_eq rfl); (case kB => exact rfl); (case kD => decide +kernel); (case c2 => exact rfl); (case c3 => exact rfl); (case c4 => exact rfl); k_whole; intro g' L' h' tk' cells' FG' F' N' Y' B' X' T' l1; (try k_lt l1); (have hY := cells5 Y'; obtain ⟨o1', o2', o3', o4', o5', hE', d1', d2', d3', d4', d5'⟩ := hY; subst hE'; clear Y'); (try simp only [List.cons_append, List.nil_append] at N'); (try dsimp only); (try k_lift B'); (try k_fold))
  walk1
  walk1
  walk1
  walk1
  refine comp_turns (b := fun j => match j with | 0 => !(agree D1 D2 x1 i1 w1) | 1 => !(agree D1 D2 x2 i2 w2) | _ => !(agree D1 D2 x3 i3 w3)) trivial (fun _ _ h => ⟨_, h⟩) (fun _ => rfl) (fun _ => rfl) (by decide) _ _ [] [] .nil ?turns ?fin
  case turns =>
    intro j h1 h2
    obtain rfl | rfl | rfl := below3 h2
    all_goals (
      unfold Turn
      intro ys v I oI C oC D m₂ h tk E' hv hC hx F9 N9 off9 Q9 hret9
      obtain ⟨t9, e9⟩ := hv
      subst e9
      k_steps
      refine hret9 _ _ _ rfl (by assumption) (by assumption))
  case fin =>
    intro ys' ns' hi9 hd9
    k_steps
    refine hret _ _ _ (congrArg Value.bool (hd9.trans (by simp only [noneB, Bool.not_not, decide_true, Bool.true_and]))) (by assumption) (by first | assumption | (refine cb_drop (by assumption) ?_; intro p9 hp9; (repeat (first | assumption | refine List.mem_cons_of_mem _ ?_))))
end Mine
end
-- FnCls
section
open PySem PySem.W PyProof.Rows PySem.Spec PySem.Calls PyProof.V
set_option maxRecDepth 100000
set_option maxHeartbeats 8000000
set_option linter.unusedVariables false
namespace Mine
theorem fn_slot : Slot "function" "__getattribute__" "object.__getattribute__" :=
  .of (owner := "object") (n := "__getattribute__") (by rw [typeLookup_type, builtinLookup_eq_fast]; kernel_rfl) (by decide +kernel) (by decide +kernel) (by decide +kernel)
    (by first | exact .inl (by decide +kernel) | exact .inr (by decide +kernel)) (by rw [isSubtype_type]; kernel_rfl)
theorem fn_lookup : typeLookup (.type "function") "__class__" = pure (some (.builtin "object.__class__")) := by rw [typeLookup_type, builtinLookup_eq_fast]; kernel_rfl
theorem fn_owner : isSubtype (.type "function") (.type (".".intercalate ("object.__class__".cutAt '.').dropLast)) = pure true := by
  rw [F.owner_object_class, isSubtype_type]; kernel_rfl
section
variable {prog : Program} {w : World} {A : Around} {E : Value → Shared → Prop} {h : Heap} {g : Array GenState} {d : Drawn} {t : Nat} {os : OsState} {a : Addr} {o : Obj}
theorem fn_descr {R : Result → Shared → Prop} (hx : h.get? a = some o) (hc : o.cls = .type "function") (hq : R (.ok (.ret (.type "function"))) ⟨h, g, d, t, os⟩) :
    codeAny (model prog w) A (.call (.builtin "getset_descriptor.__get__") ⟨[.builtin "object.__class__", .ref a, .type "function"], []⟩) R ⟨h, g, d, t, os⟩ := by
  have t1 : (⟨h, g, d, t, os⟩ : Shared).TypeIs (.ref a) "function" := ⟨_, hx, hc⟩
  have t2 : (⟨h, g, d, t, os⟩ : Shared).TypeIs (.builtin "object.__class__") "getset_descriptor" := F.typeOf_object_class
  have t3 := fn_owner
  refine codeAny_call_builtin F.slot_gs_get.plain F.entry_gs_get (F.slot_gs_get.check _ _ _ _ _ _ _ _ t2 (F.args_gs_get _ _ _) ?_)
  repeat (any_goals (first | assumption | wp_step))
  refine ⟨Code.quiet_builtin _ (by decide +kernel), codeAny_builtin F.entry_object_class ?_⟩
  repeat (any_goals (first | assumption | wp_step))
theorem fn_getattribute {tk : Tok} {Q : Fin → Shared → Prop} (hx : h.get? a = some o) (hc : o.cls = .type "function") (hq : Q (.done (.ret (.type "function"))) ⟨h, g, d, t, os⟩) :
    wpAny (model prog w) A (Builtin.«object.__getattribute__» ⟨[.ref a, .str "__class__" tk], []⟩) Q E ⟨h, g, d, t, os⟩ := by
  have t1 : (⟨h, g, d, t, os⟩ : Shared).TypeIs (.ref a) "function" := ⟨_, hx, hc⟩
  have t2 : (⟨h, g, d, t, os⟩ : Shared).TypeIs (.builtin "object.__class__") "getset_descriptor" := F.typeOf_object_class
  have t3 := fn_lookup
  have t4 := F.typeOf_object_class
  have t5 := F.slot_gs_get.lookup
  have t6 := F.slot_gs_set.lookup
  repeat (any_goals (first | assumption | wp_step))
  refine fn_descr hx hc ?_
  repeat (any_goals (first | assumption | wp_step))
theorem fn_by {tk : Tok} {Q : Value → Shared → Prop} (hx : h.get? a = some o) (hc : o.cls = .type "function") (hq : Q (.type "function") ⟨h, g, d, t, os⟩) : wpAny (model prog w) A (getAttrBy (.ref a) (.str "__class__" tk) false) Q E ⟨h, g, d, t, os⟩ := by
  have t1 : (⟨h, g, d, t, os⟩ : Shared).TypeIs (.ref a) "function" := ⟨_, hx, hc⟩
  have t2 := fn_slot.lookup
  have t3 := fn_slot.bind (.ref a)
  repeat (any_goals (first | assumption | wp_step))
  refine codeAny_call_builtin fn_slot.plain F.entry_object_getattribute (fn_slot.check _ _ _ _ _ _ _ _ t1 (F.args_object_getattribute_2 _ _) (fn_getattribute hx hc ?_))
  repeat (any_goals (first | assumption | wp_step))
theorem fn_class {Q : Option Value → Shared → Prop} (hx : h.get? a = some o) (hc : o.cls = .type "function") (hq : Q (some (.type "function")) ⟨h, g, d, t + 1, os⟩) : wpAny (model prog w) A (getAttr? (.ref a) "__class__") Q E ⟨h, g, d, t, os⟩ := by
  unfold getAttr? getAttrBy?
  repeat (any_goals (first | assumption | with_reducible apply fn_by hx hc | wp_step))
end
theorem fn_kitx {K : Frag} {a : Addr} : KitX K (.ref a) (.type "function") (KitAt a "function") :=
  kitx_of kitAt_ty (fun {_ _ _ _ _ s} p k => by obtain ⟨h, g, d, t, os⟩ := s; obtain ⟨o, h1, h2⟩ := p; exact fn_class h1 h2 k)
end Mine
end
-- C5
section
open PySem PySem.W PyProof.Rows PySem.Spec PySem.Calls PyProof.V
set_option maxRecDepth 100000
set_option maxHeartbeats 8000000
set_option linter.unusedVariables false
set_option pp.deepTerms false
set_option pp.deepTerms.threshold 7
set_option pp.proofs false
namespace Mine
/-- v is one of the law's three ways of comparing, the one that the number k names -/
def OpV (v : Value) (k : Int) : Prop := (v = .ref 50 ∧ k = 0) ∨ (v = .ref 57 ∧ k = 1) ∨ (v = .ref 64 ∧ k = 2)
theorem op_does {w : World} {v : Value} {k : Int} (hv : OpV v k) (news : List (Addr × Obj)) (a b : Int) (ta tb : Tok) :
    Does w news 1 v [.int a ta, .int b tb] (fun r => r = .bool (sayB k a b)) := by
  rcases hv with ⟨rfl, rfl⟩ | ⟨rfl, rfl⟩ | ⟨rfl, rfl⟩
  · exact same_does w news a b ta tb
  · exact below_does w news a b ta tb
  · exact close_does w news a b ta tb
theorem callWith_op {w : World} {v : Value} {k : Int} {A : Around} {E : Value → Shared → Prop} {s : Shared} {h₀ : Heap} {env : Env} {pos : Pos} {e : Expr} {rest : List Expr} {Q : Value → Shared → Prop} (hv : OpV v k) (X : (Mine.hd.heap_39 w.params).In h₀)
    (h : wpAny (model PySem.Challenge.rw_au6007_01.row.prog w) A (spliced (backTo pos (starEach (e :: rest) env))) (fun vs s₁ => (Mine.hd.heap_39 w.params).In s₁.heap ∧ wpAny (model PySem.Challenge.rw_au6007_01.row.prog w) A (call v ([] ++ vs)) Q E s₁) E s)
    (he : starEach (e :: rest) env = (false, eval e env) :: starEach rest env := by rfl) (hplain : (backTo pos (starEach rest env)).any (·.1) = false := by rfl) :
    wpAny (model PySem.Challenge.rw_au6007_01.row.prog w) A (callWith pos v [] (backTo pos (starEach (e :: rest) env)) []) Q E s := by
  revert X
  k_fill
  intro X
  have hk : keepIn (Mine.hd.heap_39 w.params) v = true := by
    rcases hv with ⟨rfl, rfl⟩ | ⟨rfl, rfl⟩ | ⟨rfl, rfl⟩ <;> k_dflt k_is
  exact callWith_K X hk h he hplain
theorem isi_op {w : World} {v : Value} {k : Int} {A : Around} {E : Value → Shared → Prop} {s : Shared} {h₀ : Heap} {L : Addr} {m : Str → Option Value} {Q : Value → Shared → Prop} (hv : OpV v k) (X : (Mine.hd.heap_39 w.params).In h₀) (F : Fr h₀ L s.heap m)
    (h : ∀ tk, Q (.bool false) { s with toks := tk }) : wpAny (model PySem.Challenge.rw_au6007_01.row.prog w) A (call (.builtin "isinstance") [v, .type "list"]) Q E s := by
  revert X
  k_fill
  intro X
  have X' := X.keeps F.keep
  rcases hv with ⟨rfl, rfl⟩ | ⟨rfl, rfl⟩ | ⟨rfl, rfl⟩ 
  all_goals (k_dflt (refine' kia_one fn_kitx X' ?p ?e ?n h; (case p => (refine' kitAt_K X' ?l ?c; (case l => k_is); (case c => rfl))); (case e => kit_is); (case n => intro q; cases q)))
end Mine
end
-- D0
section
open PySem PySem.W PyProof.Rows PySem.Spec PySem.Calls PyProof.V
set_option linter.unusedVariables false
namespace Mine
/-- as Does, where the tables of the two makers' codes are laid aside -/
def DoesC (w : World) (news : List (Addr × Obj)) (d : Nat) (f : Value) (vs : List Value) (P : Value → Prop) : Prop :=
  ∀ (p : Program) (loose : List Str) (mean : ExcName → Option Value) (mg mb : Str → Option Value) (dp un : Nat) (gd : Option (List Code)) (cn : Str) (cs : Scope) (a : Addr) (ccd : Value) (cl : List (Str × Addr)) (outer : List Env) (A₀ : Around) (base h₀ : Heap) (L : Addr) (m : Str → Option Value) (s : Shared)
    (Q E : Value → Shared → Prop),
    Below A₀ base outer h₀ → Fr h₀ L s.heap m → (Mine.hd.heap_39 w.params).In h₀ → News h₀ L s.heap news → Top p loose mean mg mb h₀ → CodeHd base 30 28 → CodeHd base 18 16 → cs.kind = .function → dp + d ≤ 500 → un + 10 * d ≤ 5000 →
    (∀ r h' tk', P r → Fr h₀ L h' m → News h₀ L h' news → Q r { s with heap := h', toks := tk' }) →
    wpAny (model PySem.Challenge.rw_au6007_01.row.prog w) (ktrTop dp un gd cn cs L a ccd cl outer) (call f vs) Q E s
def IsMatch (w : World) (led : List (Addr × Obj)) (f : Addr) (spec : List (PyData × PyData) → List (PyData × PyData) → Bool) : Prop :=
  ∀ (rest : List (Addr × Obj)) (d1 d2 : Addr) (D1 D2 : List (PyData × PyData)), RowAt w rest d1 D1 → RowAt w rest d2 D2 → DoesC w (led ++ rest) 10 (.ref f) [.ref d1, .ref d2] (fun r => r = .bool (spec D1 D2))
def FnLed (led : List (Addr × Obj)) (f : Addr) : Prop := ∃ oc od fd sl, (f, (⟨oc, od, .func fd, sl⟩ : Obj)) ∈ led
def OffT : List (Addr × Obj) → Prop
  | [] => True
  | p :: r => (p.1 ≠ 28 ∧ p.1 ≠ 16) ∧ OffT r
theorem OffT.at : ∀ {l : List (Addr × Obj)}, OffT l → ∀ p ∈ l, p.1 ≠ 28 ∧ p.1 ≠ 16
  | [], _, _, h => nomatch h
  | q :: r, x, p, h => by
    rcases List.mem_cons.mp h with rfl | h
    · exact x.1
    · exact OffT.at x.2 p h
theorem OffT.app {l r : List (Addr × Obj)} (h : OffT l) (h' : OffT r) : OffT (l ++ r) := by
  induction l with
  | nil => exact h'
  | cons q l ih => exact ⟨h.1, ih h.2⟩
theorem OffT.of28 {l : List (Addr × Obj)} (h : OffT l) : ∀ p ∈ l, p.1 ≠ 28 := fun p hp => (h.at p hp).1
theorem OffT.of16 {l : List (Addr × Obj)} (h : OffT l) : ∀ p ∈ l, p.1 ≠ 16 := fun p hp => (h.at p hp).2
def CodeOf (led : List (Addr × Obj)) (c : Addr) (q : Str) : Prop := ∃ oc vs t, (c, oc) ∈ led ∧ oc.data = .fields vs ∧ vs[1]? = some (.str q t)
theorem RowAt.tab' {w : World} {news news' : List (Addr × Obj)} {d : Addr} {D : List (PyData × PyData)} {h₀ h : Heap} {L : Addr} (N : News h₀ L h news') (R : RowAt w news d D) (hs : ∀ p ∈ news, p ∈ news') : StrTab PySem.Challenge.rw_au6007_01.row.prog w h d D := RowAt.tab (R.more hs) N
theorem get_row {w : World} {A : Around} {E : Value → Shared → Prop} {s : Shared} {news news' : List (Addr × Obj)} {d : Addr} {D : List (PyData × PyData)} {h₀ : Heap} {L : Addr} {x : Str} {t : Tok} {i : Int} {u : Tok} {Q : Value → Shared → Prop}
    (N : News h₀ L s.heap news') (R : RowAt w news d D) (hs : ∀ p ∈ news, p ∈ news') (h : ∀ t', Q (.int (pickD D x i) t') { s with toks := s.toks + 1 }) :
    wpAny (model PySem.Challenge.rw_au6007_01.row.prog w) A (call (.builtin "dict.get") [.ref d, .str x t, .int i u]) Q E s := by
  refine call_get2_strTab (RowAt.tab' N R hs) (PyProof.V.Flat.int i u) fun v hf => ?_
  have RI := R.1 x
  unfold pickD at h
  cases hl : lookup (.str x) D with
  | none =>
    rw [hl] at hf h
    have r := hf {}
    simp only [Option.getD_none, Option.getD_some] at r
    cases r
    exact h _
  | some dv =>
    obtain ⟨j, rfl⟩ := RI dv hl
    rw [hl] at hf h
    have r := hf {}
    simp only [Option.getD_none, Option.getD_some] at r
    cases r
    exact h _
end Mine
end
-- CE
section
open PySem PySem.W PyProof.Rows PySem.Spec PySem.Calls PyProof.V
set_option linter.unusedVariables false
namespace Mine
theorem cend_new {h₀ : Heap} {L I C D : Addr} {m : Str → Option Value} {s₁ : Shared} {oI oC oD : Obj} {S : List (Addr × Obj) → Prop} {rest : Value → List (Addr × Obj) → Prop} {y : Value} {h' : Heap} {tk : Nat} {p : Addr × Obj} {r : List (Addr × Obj)}
    (F : Fr h₀ L h' m) (N : News h₀ L h' (p :: (I, oI) :: (C, oC) :: (D, oD) :: r)) (o : p.1 ≠ I ∧ p.1 ≠ C ∧ p.1 ≠ D) (off : LCg.Off3 I C D r) (hS : S (p :: r)) (k : rest y (p :: r)) :
    LCg.CompEnd h₀ L m s₁ I oI C oC D oD S rest y { s₁ with heap := h', toks := tk } :=
  LCg.CompEnd.intro F N (p :: r) (fun q hq => by
    rcases List.mem_cons.mp hq with rfl | hq
    · exact List.mem_cons_of_mem _ List.mem_cons_self
    rcases List.mem_cons.mp hq with rfl | hq
    · exact List.mem_cons_of_mem _ (List.mem_cons_of_mem _ List.mem_cons_self)
    rcases List.mem_cons.mp hq with rfl | hq
    · exact List.mem_cons_of_mem _ (List.mem_cons_of_mem _ (List.mem_cons_of_mem _ List.mem_cons_self))
    rcases List.mem_cons.mp hq with rfl | hq
    · exact List.mem_cons_self
    · exact List.mem_cons_of_mem _ (List.mem_cons_of_mem _ (List.mem_cons_of_mem _ (List.mem_cons_of_mem _ hq)))) ⟨o, off⟩ hS k
theorem ne_of_below {L c : Nat} {news : List (Addr × Obj)} (h : ∀ p ∈ news, p.1 < L) (hc : L ≤ c) : ∀ p ∈ news, p.1 ≠ c := fun p hp e => by
  have := h p hp
  rw [e] at this
  exact absurd this (Nat.not_lt.mpr hc)
end Mine
end
-- FT
section
open PySem PySem.W PyProof.Rows PySem.Spec PySem.Calls PyProof.V
set_option linter.unusedVariables false
namespace Mine
section
variable {prog : Program} {w : World} {A : Around} {E : Value → Shared → Prop} {s : Shared} {h₀ : Heap} {L : Addr} {m : Str → Option Value} {env : Env} {news : List (Addr × Obj)}
def TupEnd (h₀ : Heap) (L : Addr) (news : List (Addr × Obj)) (s : Shared) (I : Addr) (oI : Obj) (rest : (Str → Option Value) → Prop) (s₃ : Shared) : Prop :=
  ∃ h' tk' m', s₃ = { s with heap := h', toks := tk' } ∧ Fr h₀ L h' m' ∧ News h₀ L h' ((I, oI) :: news) ∧ rest m'
theorem TupEnd.same {I : Addr} {oI : Obj} {rest : (Str → Option Value) → Prop} {h' : Heap} {tk' : Nat} (F : Fr h₀ L h' m) (N : News h₀ L h' ((I, oI) :: news)) (r : rest m) : TupEnd h₀ L news s I oI rest { s with heap := h', toks := tk' } := ⟨h', tk', m, rfl, F, N, r⟩
def TupsRest (prog : Program) (w : World) (A : Around) (h₀ : Heap) (L : Addr) (news : List (Addr × Obj)) (env : Env) (target : PySem.Expr) (body orelse : List Stmt) (RR : Result → Shared → Prop) (s : Shared) (I : Addr) : List Value → (Str → Option Value) → Prop
  | [], m => ∀ h tk, Fr h₀ L h m → News h₀ L h news → wpAny (model prog w) A (execs orelse env) (fun f s₃ => RR (.ok f) s₃) (notedBy (model prog w) A env fun e s' => RR (.error e) s') { s with heap := h, toks := tk }
  | v :: r, m => ∀ h tk oI, Fr h₀ L h m → News h₀ L h ((I, oI) :: news) → (∀ p ∈ news, p.1 < I) →
      wpAny (model prog w) A (assign target env v) (fun _ s₂ => wpAny (model prog w) A (execs body env) (fun f s₃ => match f with
          | .next | .cont => TupEnd h₀ L news s I oI (fun m' => TupsRest prog w A h₀ L news env target body orelse RR s I r m') s₃
          | .brk => RR (.ok .next) s₃
          | .ret v => RR (.ok (.ret v)) s₃) (notedBy (model prog w) A env fun e s' => RR (.error e) s') s₂) (notedBy (model prog w) A env fun e s' => RR (.error e) s') { s with heap := h, toks := tk }
theorem TupsRest.nil {target : PySem.Expr} {body orelse : List Stmt} {RR : Result → Shared → Prop} {I : Addr}
    (h : ∀ h tk, Fr h₀ L h m → News h₀ L h news → wpAny (model prog w) A (execs orelse env) (fun f s₃ => RR (.ok f) s₃) (notedBy (model prog w) A env fun e s' => RR (.error e) s') { s with heap := h, toks := tk }) : TupsRest prog w A h₀ L news env target body orelse RR s I [] m := h
theorem TupsRest.cons {target : PySem.Expr} {body orelse : List Stmt} {RR : Result → Shared → Prop} {I : Addr} {v : Value} {r : List Value}
    (h : ∀ h tk oI, Fr h₀ L h m → News h₀ L h ((I, oI) :: news) → (∀ p ∈ news, p.1 < I) →
      wpAny (model prog w) A (assign target env v) (fun _ s₂ => wpAny (model prog w) A (execs body env) (fun f s₃ => match f with
          | .next | .cont => TupEnd h₀ L news s I oI (fun m' => TupsRest prog w A h₀ L news env target body orelse RR s I r m') s₃
          | .brk => RR (.ok .next) s₃
          | .ret v => RR (.ok (.ret v)) s₃) (notedBy (model prog w) A env fun e s' => RR (.error e) s') s₂) (notedBy (model prog w) A env fun e s' => RR (.error e) s') { s with heap := h, toks := tk }) :
    TupsRest prog w A h₀ L news env target body orelse RR s I (v :: r) m := h
theorem iter_tups {ax : Addr} {vs : List Value} {k : Nat} {xx yy pp} {body orelse : List Stmt} {RR : Result → Shared → Prop} (hh : A.handled = none) (F : Fr h₀ L s.heap m) (N : News h₀ L s.heap news)
    (hm : (ax, ({ cls := .type "list", data := .seq vs.toArray k } : Obj)) ∈ news) (hr : ∀ v ∈ vs, ∃ T, v = .ref T)
    (R : TupsRest prog w A h₀ L news env (.Tuple xx yy pp) body orelse RR s s.heap.objs.size vs m) :
    wpAny (model prog w) A (pyIter (.ref ax)) (fun it s₂ => codeAny (model prog w) A (.forLoop (.Tuple xx yy pp) it body orelse env) RR s₂) E s := by
  have hl : s.heap.IsList ax vs.toArray := ⟨_, (N _ hm).1, rfl, _, rfl⟩
  refine wpAny_pyIter_list hl ?_
  have lt : ∀ p ∈ news, p.1 < s.heap.objs.size := fun p hp => Heap.lt_size (N p hp).1
  have hLI : L ≠ s.heap.objs.size := Nat.ne_of_lt F.ns.lt
  have hI₀ : h₀.get? s.heap.objs.size = none := next_is_new F
  refine codeAny_forLoop_any (fun n s' => ∃ h tk m' i, s' = { s with heap := h, toks := tk } ∧ n = vs.length - i ∧ h.IsListIter s.heap.objs.size ax i ∧ Fr h₀ L h m' ∧ News h₀ L h news ∧
    TupsRest prog w A h₀ L news env (.Tuple xx yy pp) body orelse RR s s.heap.objs.size (vs.drop i) m') ?_ vs.length ?_
  · rintro n s' ⟨h, tk, m', i, rfl, rfl, hI, F', N', R'⟩
    have hl' : h.IsList ax vs.toArray := ⟨_, (N' _ hm).1, rfl, _, rfl⟩
    cases hd : vs.drop i with
    | nil =>
      have hx : vs.toArray[i]? = none := by
        rw [List.getElem?_toArray]
        exact List.getElem?_eq_none (List.drop_eq_nil_iff.mp hd)
      refine wpAny_pyNext_list_end hh hI hl' hx fun h' hk => ?_
      rw [hd] at R'
      exact R' h' tk ⟨F'.ns.at' fun o e => hk _ o hLI e, fun b o e => hk b o (fun q => by rw [q, hI₀] at e; cases e) (F'.keep b o e), F'.above⟩
        fun p hp => ⟨hk _ _ (Nat.ne_of_lt (lt p hp)) (N' p hp).1, (N' p hp).2⟩
    | cons v r =>
      have hlt : i < vs.length := by
        rcases Nat.lt_or_ge i vs.length with q | q
        · exact q
        · rw [List.drop_eq_nil_iff.mpr q] at hd; cases hd
      have hv : vs.drop i = vs[i] :: vs.drop (i + 1) := List.drop_eq_getElem_cons hlt
      rw [hv] at hd
      injection hd with e1 e2
      obtain ⟨T, rfl⟩ : ∃ T, v = .ref T := by rw [← e1]; exact hr _ (List.getElem_mem hlt)
      have hx : vs.toArray[i]? = some (.ref T) := by
        rw [List.getElem?_toArray, List.getElem?_eq_getElem hlt, e1]
      refine wpAny_pyNext_list_item hI hl' hx fun h' hI' hs' => ?_
      dsimp only
      have hI2 : Heap.IsListIter (Shared.heap { s with heap := h', toks := tk }) s.heap.objs.size ax (i + 1) := hI'
      refine wpAny_letOwnedTupleGo_listiter hI2 ?_
      rw [hv, e1, e2] at R'
      obtain ⟨oI, hoI, hcI, hdI⟩ := id hI'
      have F₂ : Fr h₀ L h' m' := ⟨F'.ns.at' fun o e => hs'.extBut _ o hLI e, fun b o e => hs'.extBut b o (fun q => by rw [q, hI₀] at e; cases e) (F'.keep b o e), F'.above⟩
      have N₂ : News h₀ L h' ((s.heap.objs.size, oI) :: news) := fun p hp => by
        rcases List.mem_cons.mp hp with rfl | hp
        · exact ⟨hoI, Ne.symm hLI, hI₀⟩
        · exact ⟨hs'.extBut _ _ (Nat.ne_of_lt (lt p hp)) (N' p hp).1, (N' p hp).2⟩
      refine wpAny_mono (R' h' tk oI F₂ N₂ lt) (fun _ s₂ h₂ => wpAny_mono h₂ (fun f s₃ h₃ => ?_) fun _ _ e => e) fun _ _ e => e
      have go : (∃ h' tk' m', s₃ = { s with heap := h', toks := tk' } ∧ Fr h₀ L h' m' ∧ News h₀ L h' ((s.heap.objs.size, oI) :: news) ∧ TupsRest prog w A h₀ L news env (.Tuple xx yy pp) body orelse RR s s.heap.objs.size r m') →
          ∃ n', n' < vs.length - i ∧ ∃ h tk m' j, s₃ = { s with heap := h, toks := tk } ∧ n' = vs.length - j ∧ h.IsListIter s.heap.objs.size ax j ∧ Fr h₀ L h m' ∧ News h₀ L h news ∧
            TupsRest prog w A h₀ L news env (.Tuple xx yy pp) body orelse RR s s.heap.objs.size (vs.drop j) m' := by
        clear h₃; rintro ⟨hq, tk₃, m₃, rfl, F₃, N₃, R₃⟩
        refine ⟨vs.length - (i + 1), by omega, hq, tk₃, m₃, i + 1, rfl, rfl, ⟨oI, (N₃ _ List.mem_cons_self).1, hcI, hdI⟩, F₃, fun p hp => N₃ p (List.mem_cons_of_mem _ hp), ?_⟩
        rw [e2]
        exact R₃
      cases f with
      | next => exact go h₃
      | cont => exact go h₃
      | brk => exact h₃
      | ret v => exact h₃
  · have up : ∀ b o, s.heap.get? b = some o → (s.heap.push { cls := .type "list_iterator", data := .fields #[.ref ax, .int 0 0] }).get? b = some o := fun b o e => Heap.get?_push_of_some _ e
    exact ⟨_, _, m, 0, rfl, rfl, ⟨_, Heap.get?_push_size _ rfl, rfl, rfl⟩, F.keeps up, N.grown up, R⟩
end
theorem and_tt {a b : Bool} (h1 : a = true) (h2 : b = true) : Value.bool true = Value.bool (a && (b && true)) := by rw [h1, h2]; rfl
theorem and_f1 {a b : Bool} (h1 : a = false) : Value.bool false = Value.bool (a && (b && true)) := by rw [h1]; rfl
theorem and_f2 {a b : Bool} (h1 : a = true) (h2 : b = false) : Value.bool false = Value.bool (a && (b && true)) := by rw [h1, h2]; rfl
theorem news_tail {h₀ h : Heap} {L : Addr} {l : List (Addr × Obj)} {x : Addr × Obj} (N : News h₀ L h (x :: l)) : News h₀ L h l := fun p hp => N p (List.mem_cons_of_mem _ hp)
theorem news_dup {h₀ h : Heap} {L : Addr} {l : List (Addr × Obj)} {x : Addr × Obj} (N : News h₀ L h l) (hx : x ∈ l) : News h₀ L h (x :: l) := fun p hp => by
  rcases List.mem_cons.mp hp with rfl | hp
  · exact N _ hx
  · exact N p hp
end Mine
end
-- NT
section
open PySem PySem.W PyProof.Rows PySem.Spec PySem.Calls PyProof.V
set_option linter.unusedVariables false
namespace Mine
/-- what a code object tells of its own table, said of the object -/
def TabO (oc : Obj) (c P : Addr) : Prop := ∀ h : Heap, h.get? c = some oc → CodeHd h c P
section
variable {M : Model} {A : Around} {E : Value → Shared → Prop} {s : Shared} {name qual : Str} {params : Arguments} {body : List Stmt} {scope : Scope} {env : Env} {c P : Addr} {ps : Array Value} {pos : Pos} {firstLine : Nat} {mg : Str → Option Value}
  {clos : List (Str × Addr)} {Q : Value → Shared → Prop}
theorem makeTail_T {q : Str × Addr} {r : List (Str × Addr)} (hcl : closureFor scope env = pure (q :: r)) (hge0 : env.globals = mainGlobals) (hg : s.heap.Ns mainGlobals mg) (hcode : env.code = .ref c) (C : CodeHd s.heap c P) (hP : s.heap.get? P = some (tabObj ps)) (ht : TriplesOk ps.toList)
    (hnf : codeAmong pos ps.toList = none) (hgP : mainGlobals ≠ P) (hb : s.heap.BuiltinsAt mg P)
    (h : ∀ c' P' ctv doc h' tk, Heap.ExtBut P s.heap h' → s.heap.objs.size ≤ c' → c' < h'.objs.size → h'.CodeRec (.ref c') qual → h'.get? P = some (tabObj (ps ++ #[rawInt pos.line, rawInt pos.col, .ref c'])) →
      s.heap.objs.size ≤ P' → CodeHd h' c' P' → h'.get? P' = some (tabObj #[]) →
      Q (.ref h'.objs.size) { s with heap := h'.push (fnMade name qual params body scope (q :: r) doc ((mg "__name__").getD .none) c' ctv), toks := tk }) :
    wpAny M A (makeTail name qual params (.stmts body) scope env .none .none none pos firstLine) Q E s := by
  obtain ⟨bm, ob, hbm, hne0, _, hneP, hbo, hcls, hdict, hdata⟩ := hb
  unfold makeTail
  rw [hcl, hge0]
  refine wpAny_bind (wpAny_pure ?_)
  simp only [List.isEmpty_cons, Bool.false_eq_true, if_false]
  refine wpAny_bind (wpAny_newTextTuple ?_)
  have kp : ∀ (o : Obj) b ob, s.heap.get? b = some ob → (s.heap.push o).get? b = some ob := fun o b ob e => Heap.get?_push_of_some _ e
  refine wpAny_bind (wpAny_functionCodeX hcode ((C.keeps (kp _)).code (kp _ _ _ hP) ht) ((C.keeps (kp _)).tab (kp _ _ _ hP)) hnf fun c' h' tk hx hge hlt _ hrec htb hown => ?_)
  obtain ⟨P', hP1, hP2, hP3⟩ := hown
  have hg' := (hg.push _).extBut hx hgP
  have hx' : Heap.ExtBut P s.heap h' := fun b o hb' e => hx b o hb' (kp _ _ _ e)
  have up : ∀ n : Nat, (s.heap.push { cls := .type "tuple", data := .seq (List.map (fun x : Str × Addr => Value.ref x.2) []).toArray }).objs.size ≤ n → s.heap.objs.size ≤ n := fun n hn => Nat.le_trans (by rw [Heap.size_push]; omega) hn
  have hge' : s.heap.objs.size ≤ c' := Nat.le_trans (by rw [Heap.size_push]; omega) hge
  have hP1' : s.heap.objs.size ≤ P' := Nat.le_trans (by rw [Heap.size_push]; omega) hP1
  refine wpAny_bind (wpAny_builtinsFor hg' hbm hne0 (hx' _ _ hneP hbo) hcls hdict hdata ?_)
  refine wpAny_bind (wpAny_nsGet hg' ?_)
  cases hdoc : docOf body with
  | none => exact wpAny_bind (wpAny_pure (wpAny_newObj_type (h c' P' _ .none h' tk hx' hge' hlt hrec htb.2 hP1' (CodeHd.of hP2 hP3) hP3.2) (by size_fits)))
  | some t => exact wpAny_bind (wpAny_mkText (wpAny_newObj_type (h c' P' _ _ h' _ hx' hge' hlt hrec htb.2 hP1' (CodeHd.of hP2 hP3) hP3.2) (by size_fits)))
end
section
variable {M : Model} {A : Around} {E : Value → Shared → Prop} {s : Shared} {h₀ : Heap} {L a c P : Addr} {m mg mb : Str → Option Value} {cn : Str} {cs : Scope} {ccd : Value} {cl : List (Str × Addr)} {news : List (Addr × Obj)} {g : Obj → List (Addr × Obj)}
  {p : Program} {loose : List Str} {mean : ExcName → Option Value} {name qual : Str} {params : Arguments} {body : List Stmt} {scope : Scope} {ps : Array Value} {pos : Pos} {firstLine : Nat} {q₀ : Str × Addr} {r₀ : List (Str × Addr)}
theorem nest_T {Q : Value → Shared → Prop} (F : Fr h₀ L s.heap m) (N : News h₀ L s.heap news) (T : Top p loose mean mg mb h₀) (C : CodeHd h₀ c P) (hcd : ccd = .ref c) (U : UpdF P (tabObj ps) news g) (ht : TriplesOk ps.toList) (hnf : codeAmong pos ps.toList = none)
    (hcl : closureFor scope (envX cn cs L a ccd cl) = pure (q₀ :: r₀))
    (h : ∀ (f c' P' : Nat) oc vs t ctv doc h' tk, Fr h₀ L h' m →
      News h₀ L h' ((f, fnMade name qual params body scope (q₀ :: r₀) doc ((mg "__name__").getD .none) c' ctv) :: (c', oc) :: (P', tabObj #[]) :: g (tabObj (ps ++ #[rawInt pos.line, rawInt pos.col, .ref c']))) →
      oc.data = .fields vs → vs[1]? = some (.str qual t) → TabO oc c' P' → (∀ q ∈ news, q.1 < c') → (∀ q ∈ news, q.1 < P') → c' < f → P' < f → Q (.ref f) { s with heap := h', toks := tk }) :
    wpAny M A (makeFunction name qual params (.stmts body) scope (envX cn cs L a ccd cl) [] [] [] pos firstLine) Q E s := by
  obtain ⟨own, rest, rfl, hgr, h1, h2⟩ := U.split
  have hm := N (P, tabObj ps) (List.mem_append_right _ (.head _))
  have hgs := T.g.keeps F.keep
  obtain ⟨bm, ob, b1, b2, b3, b4, b5, b6⟩ := T.bmain
  have hgP : mainGlobals ≠ P := fun q => by
    obtain ⟨o, es, ep, e, hd, _⟩ := hgs
    rw [q, hm.1] at e; cases e; cases hd
  have hbP : bm ≠ P := fun q => by
    have e := F.keep _ _ b3
    rw [q, hm.1] at e; cases e; cases b4
  have hbG : bm ≠ mainGlobals := fun q => by
    obtain ⟨o, es, ep, e, hd, _⟩ := T.g
    rw [q, e] at b3; cases b3; rw [hd] at b6; cases b6
  rw [makeFunction_eq]
  simp only [List.zip_nil_right, List.filterMap_nil, List.isEmpty_nil, if_true, pure_bind]
  refine makeTail_T (mg := mg) hcl rfl hgs hcd (C.keeps F.keep) hm.1 ht hnf hgP ⟨bm, ob, b1, b2, hbG, hbP, F.keep _ _ b3, b4, b5, b6⟩ fun c' P' ctv doc h' tk hx hge hlt hrec htb hP1 hP2 hP3 => ?_
  obtain ⟨c₂, oc, vs, t, e2, hoc, hd, hv⟩ := hrec
  cases e2
  have hT : TabO oc c' P' := fun h9 e9 => by
    obtain ⟨o, vs', file, tf, flags, tg, inF, text, tt, e, rr⟩ := hP2
    rw [hoc] at e; cases e
    exact ⟨_, vs', file, tf, flags, tg, inF, text, tt, e9, rr⟩
  have hLs : L < s.heap.objs.size := F.ns.lt
  have hLc : L < c' := Nat.lt_of_lt_of_le hLs hge
  have hLP : L < P' := Nat.lt_of_lt_of_le hLs hP1
  have hPlt : P' < h'.objs.size := Heap.lt_size hP3
  have old : ∀ b o, h₀.get? b = some o → h'.get? b = some o := fun b o e => hx b o (fun q => by rw [q, hm.2.2] at e; cases e) (F.keep b o e)
  have fresh : ∀ b, L < b → h₀.get? b = none := fun b hb => Heap.get?_none_of_le (Nat.le_trans F.above (Nat.le_of_lt hb))
  refine h h'.objs.size c' P' oc vs t ctv doc _ tk ⟨(F.ns.extBut hx hm.2.1.symm).push _, fun b o e => Heap.get?_push_of_some _ (old b o e), F.above⟩ (fun q hq => ?_) hd hv hT
    (fun q hq => Nat.lt_of_lt_of_le (Heap.lt_size (N q hq).1) hge) (fun q hq => Nat.lt_of_lt_of_le (Heap.lt_size (N q hq).1) hP1) hlt hPlt
  rcases List.mem_cons.mp hq with rfl | hq
  · exact ⟨Heap.get?_push_size _ rfl, Nat.ne_of_gt (Nat.lt_trans hLc hlt), fresh _ (Nat.lt_trans hLc hlt)⟩
  rcases List.mem_cons.mp hq with rfl | hq
  · exact ⟨Heap.get?_push_of_some _ hoc, Nat.ne_of_gt hLc, fresh _ hLc⟩
  rcases List.mem_cons.mp hq with rfl | hq
  · exact ⟨Heap.get?_push_of_some _ hP3, Nat.ne_of_gt hLP, fresh _ hLP⟩
  rw [hgr] at hq
  rcases List.mem_append.mp hq with hq | hq
  · have n := N q (List.mem_append_left _ hq)
    exact ⟨Heap.get?_push_of_some _ (hx _ _ (h1 q hq) n.1), n.2⟩
  · rcases List.mem_cons.mp hq with rfl | hq
    · exact ⟨Heap.get?_push_of_some _ htb, hm.2⟩
    · have n := N q (List.mem_append_right _ (.tail _ hq))
      exact ⟨Heap.get?_push_of_some _ (hx _ _ (h2 q hq) n.1), n.2⟩
end
end Mine
end
-- GM
section
open PySem PySem.W PyProof.Rows PySem.Spec PySem.Calls PyProof.V
set_option linter.unusedVariables false
namespace Mine
abbrev cellO : Obj := { cls := .type "cell", data := .cell none }
section
variable {prog : Program} {w : World} {A₀ A : Around} {s : Shared} {base h₀ : Heap} {outer : List Env} {L : Addr} {m : Str → Option Value} {env : Env} {news : List (Addr × Obj)}
  {R : Result → Shared → Prop} {name qual : Str} {params : Arguments} {body : List Stmt} {scope : Scope} {cl : List (Str × Addr)} {dV kV doc pm cdv ct : Value} {an : Option Addr} {fo : Obj} {f : Addr} {args : Args} {v1 v2 : Value} {x1 x2 : Str}
/-- a def with two parameters, both captured by what it makes, that keeps names of its maker too -/
theorem callX_two (B : Below A₀ base outer h₀) (F : Fr h₀ L s.heap m) (N : News h₀ L s.heap news) (hlim : h₀.NoLimit) (hA : A.frames = some (env :: outer)) (hf : env.frame = some L) (hke : env.scope.kind = .function)
    (ho : s.heap.get? f = some fo) (hd : fo.data = .func (fnX name qual params body scope cl dV kV doc pm an cdv ct)) (hcd : s.heap.CodeRec cdv qual) (hroom : A.depth < recursionLimit)
    (hbind : BindsTo s (fnX name qual params body scope cl dV kV doc pm an cdv ct) args [(x1, v1), (x2, v2)])
    (hcs : ∀ n, cellsFrom n scope.names cl = (x2, n + 1) :: (x1, n) :: cl) (hps : ∀ h : Heap, pushCells h scope.names = (h.push cellO).push cellO)
    (k1 : scope.names.lookup x1 = some .cell) (k2 : scope.names.lookup x2 = some .cell) (hne : (x1 == x2) = false)
    (h : ∀ g (L' : Nat) h₁ tk o1 o2, Fr h₀ L g m → Fr g L' h₁ (fun _ => none) → News g L' h₁ ((L' + 1, o1) :: (L' + 2, o2) :: news) → o1.data = .cell (some v1) → o2.data = .cell (some v2) → Below A base (env :: outer) g → h₀.StaysIn g → (∀ p ∈ news, p.1 < L') →
      wpAny (model prog w) (A.deeper (envX qual scope L' f cdv ((x2, L' + 2) :: (x1, L' + 1) :: cl))) (execs body (envX qual scope L' f cdv ((x2, L' + 2) :: (x1, L' + 1) :: cl)))
        (fun fl s' => LeaveK h₀ L m g R (match fl with | .ret v => v | _ => .none) s')
        (fun e s' => wpAny (model prog w) (A.deeper (envX qual scope L' f cdv ((x2, L' + 2) :: (x1, L' + 1) :: cl))) (leaving (envX qual scope L' f cdv ((x2, L' + 2) :: (x1, L' + 1) :: cl)) e) (fun _ s'' => R (.error e) s'') (fun e' s'' => R (.error e') s'') s')
        { s with heap := h₁, toks := tk })
    (hco : scope.isCoroutine = false := by rfl) (hgen : scope.isGenerator = false := by rfl) (hk : scope.kind = .function := by rfl) : codeAny (model prog w) A (.call (.ref f) args) R s := by
  obtain ⟨FG, BG, st, lv⟩ := groundX (R := R) B F N hA hf hke
  refine codeAny_call_function hroom ho hd hco hgen rfl hcd (hbind _ _ _ _ ?_)
  simp only [newFunctionEnv, Option.isSome_none, Bool.false_eq_true, if_false]
  refine wpAny_bind (wpAny_alloc ?_)
  refine wpAny_bind (wpAny_layCells _ (fun name kind cells => by cases hkc : kind == NameKind.cell <;> simp [hkc]) _ _ _ _ ?_)
  dsimp only
  have hz : (s.heap.push { cls := .type "frame", data := .dict #[] }).objs.size = s.heap.objs.size + 1 := Heap.size_push ..
  rw [hcs, hps, hz]
  generalize hS : s.heap.objs.size = S at *
  have up : ∀ b o, s.heap.get? b = some o → (((s.heap.push { cls := .type "frame", data := .dict #[] }).push cellO).push cellO).get? b = some o := fun b o e => Heap.get?_push_of_some _ (Heap.get?_push_of_some _ (Heap.get?_push_of_some _ e))
  have g1 : (((s.heap.push { cls := .type "frame", data := .dict #[] }).push cellO).push cellO).get? (S + 1) = some cellO := Heap.get?_push_of_some _ (by rw [← hz]; exact Heap.get?_push_size _ rfl)
  have hz2 : ((s.heap.push { cls := .type "frame", data := .dict #[] }).push cellO).objs.size = S + 1 + 1 := by rw [Heap.size_push, hz]
  have g2 : (((s.heap.push { cls := .type "frame", data := .dict #[] }).push cellO).push cellO).get? (S + 1 + 1) = some cellO := by rw [← hz2]; exact Heap.get?_push_size _ rfl
  have gL : (((s.heap.push { cls := .type "frame", data := .dict #[] }).push cellO).push cellO).Ns S (fun _ => none) := by
    rw [← hS]
    exact (Heap.Ns.new s.heap (.type "frame")).keeps fun b o e => Heap.get?_push_of_some _ (Heap.get?_push_of_some _ e)
  generalize hH : (((s.heap.push { cls := .type "frame", data := .dict #[] }).push cellO).push cellO) = H at up g1 g2 gL ⊢
  have lx1 : ((x2, S + 1 + 1) :: (x1, S + 1) :: cl).lookup x1 = some (S + 1) := by
    rw [List.lookup_cons, hne]
    simp
  have lx2 : ((x2, S + 1 + 1) :: (x1, S + 1) :: cl).lookup x2 = some (S + 1 + 1) := by simp
  show wpAny _ _ (do _ ; _) _ _ _
  refine wpAny_bind ?_
  rw [List.forIn_cons]
  refine wpAny_bind (wpAny_bind (wpAny_storeName_cell (env := _) hk k1 lx1 ⟨cellO, g1, rfl⟩ fun h₂ hv₂ hs₂ => wpAny_pure ?_))
  dsimp only
  rw [List.forIn_cons]
  have g2' : h₂.get? (S + 1 + 1) = some cellO := hs₂.extBut _ _ (Nat.succ_ne_self (S + 1)) g2
  refine wpAny_bind (wpAny_bind (wpAny_storeName_cell (env := _) hk k2 lx2 ⟨cellO, g2', rfl⟩ fun h₃ hv₃ hs₃ => wpAny_pure ?_))
  dsimp only
  rw [List.forIn_nil]
  refine wpAny_pure (wpAny_pure ?_)
  obtain ⟨o1, ho1, hd1⟩ := hv₂
  obtain ⟨o2, ho2, hd2⟩ := hv₃
  have ho1' : h₃.get? (S + 1) = some o1 := hs₃.extBut _ _ (Nat.ne_of_lt (Nat.lt_succ_self (S + 1))) ho1
  have lt : ∀ b o, s.heap.get? b = some o → b < S := fun b o e => hS ▸ Heap.lt_size e
  have up₃ : ∀ b o, s.heap.get? b = some o → h₃.get? b = some o := fun b o e => hs₃.extBut _ _ (Nat.ne_of_lt (Nat.lt_trans (lt b o e) (Nat.lt_succ_of_lt (Nat.lt_succ_self S)))) (hs₂.extBut _ _ (Nat.ne_of_lt (Nat.lt_trans (lt b o e) (Nat.lt_succ_self S))) (up b o e))
  have gL₃ : h₃.Ns S (fun _ => none) := (gL.at' fun o e => hs₂.extBut _ _ (Nat.ne_of_lt (Nat.lt_succ_self _)) e).at' fun o e => hs₃.extBut _ _ (Nat.ne_of_lt (Nat.lt_succ_of_lt (Nat.lt_succ_self _))) e
  refine ⟨(hlim.keeps F.keep).keeps up₃, codeAny_func ?_⟩
  have none_of : ∀ b, S ≤ b → (hideAll s.heap (news.map (·.1))).get? b = none := fun b hb => by
    cases q : (hideAll s.heap (news.map (·.1))).get? b with
    | none => rfl
    | some o => exact absurd (lt _ _ (of_hideAll _ q)) (Nat.not_lt.mpr hb)
  refine wpAny_mono (h _ S h₃ _ o1 o2 FG ⟨gL₃, fun b o e => up₃ b o (of_hideAll _ e), ?_⟩ (fun p hp => ?_) hd1 hd2 BG st (fun p hp => lt _ _ (N p hp).1)) (fun fl s' hl => lv _ _ hl) fun _ _ y => y
  · rw [hideAll_size, hS]; exact Nat.le_refl _
  · rcases List.mem_cons.mp hp with rfl | hp
    · exact ⟨ho1', Nat.ne_of_gt (Nat.lt_succ_self _), none_of _ (Nat.le_succ _)⟩
    rcases List.mem_cons.mp hp with rfl | hp
    · exact ⟨ho2, Nat.ne_of_gt (Nat.lt_succ_of_lt (Nat.lt_succ_self _)), none_of _ (Nat.le_succ_of_le (Nat.le_succ _))⟩
    · exact ⟨up₃ _ _ (N p hp).1, Nat.ne_of_lt (lt _ _ (N p hp).1), hideAll_none _ (List.mem_map_of_mem hp)⟩
end
end Mine
end
-- GW
section
open PySem PySem.W PyProof.Rows PySem.Spec PySem.Calls PyProof.V
set_option linter.unusedVariables false
namespace Mine
/-- a list iterator over a list of tuples, all of them apart from the iterator and below B -/
def LSt (I D B : Nat) (vs : List Value) (vals : Nat → Array Value) (i : Nat) (h : Heap) : Prop :=
  h.IsListIter I D i ∧ h.IsList D vs.toArray ∧ (∀ j, j < vs.length → ∃ T : Nat, vs[j]? = some (.ref T) ∧ h.IsTuple T (vals j) ∧ @Ne Nat T I ∧ @LT.lt Nat _ T B) ∧ @Ne Nat D I ∧ @LT.lt Nat _ D B ∧ @LT.lt Nat _ I B
theorem LSt.keep {I D B : Nat} {vs : List Value} {vals : Nat → Array Value} {i : Nat} {h h' : Heap} (S : LSt I D B vs vals i h) (hk : ∀ b ∈ List.range B, ∀ o, h.get? b = some o → h'.get? b = some o) : LSt I D B vs vals i h' := by
  obtain ⟨⟨oI, eI, rI⟩, ⟨oD, eD, rD⟩, hT, n, ld, li⟩ := S
  refine ⟨⟨oI, hk _ (List.mem_range.mpr li) _ eI, rI⟩, ⟨oD, hk _ (List.mem_range.mpr ld) _ eD, rD⟩, fun j hj => ?_, n, ld, li⟩
  obtain ⟨T, e, ⟨oT, eT, rT⟩, nT, lT⟩ := hT j hj
  exact ⟨T, e, ⟨oT, hk _ (List.mem_range.mpr lT) _ eT, rT⟩, nT, lT⟩
theorem LSt.but {I D B : Nat} {vs : List Value} {vals : Nat → Array Value} {i k : Nat} {h h' : Heap} (S : LSt I D B vs vals i h) (hI : h'.IsListIter I D k) (hk : ∀ b o, b ≠ I → h.get? b = some o → h'.get? b = some o) : LSt I D B vs vals k h' := by
  obtain ⟨_, ⟨oD, eD, rD⟩, hT, n, ld, li⟩ := S
  refine ⟨hI, ⟨oD, hk _ _ n eD, rD⟩, fun j hj => ?_, n, ld, li⟩
  obtain ⟨T, e, ⟨oT, eT, rT⟩, nT, lT⟩ := hT j hj
  exact ⟨T, e, ⟨oT, hk _ _ nT eT, rT⟩, nT, lT⟩
theorem walks_pairs (prog : Program) (w : World) {A : Around} (hA : A.handled = none) {I D B : Nat} {vs : List Value} {vals : Nat → Array Value} (hI : I < B) :
    WalksU prog w A I (List.range B) [I] vs.length (fun i v => i < vs.length ∧ v = vals i) (LSt I D B vs vals) (fun i T h => LSt I D B vs vals (i + 1) h ∧ @Ne Nat T I) where
  sub := fun b hb => by rw [List.mem_singleton.mp hb]; exact List.mem_range.mpr hI
  frame := fun i h h' S hk => S.keep hk
  item := fun i s Q E hi S hQ => by
    obtain ⟨T, e, hT, nT, _⟩ := S.2.2.1 i hi
    refine wpAny_pyNext_list_item S.1 S.2.1 (by simpa using e) fun h' hI' hs' => ?_
    have hk : ∀ b o, b ≠ I → s.heap.get? b = some o → h'.get? b = some o := fun b o hb e => hs'.extBut b o hb e
    have S' := S.but hI' hk
    obtain ⟨oT, eT, rT⟩ := hT
    exact hQ T (vals i) h' s.toks ⟨hi, rfl⟩ ⟨oT, hk _ _ nT eT, rT⟩ ⟨S', nT⟩ fun b o hb e => hk b o (fun q => hb (by rw [q]; exact List.mem_singleton.mpr rfl)) e
  go := fun elts k pos i T s Q E hm hQ => by
    refine wpAny_letOwnedTupleGo_listiter hm.1.1 ?_
    exact hQ s.heap hm.1 fun b o _ e => e
  apart := fun i T h hm hb => hm.2 (List.mem_singleton.mp hb)
  done := fun s Q E S hQ => by
    refine wpAny_pyNext_list_end hA S.1 S.2.1 (by simp) fun h' hk => ?_
    exact hQ h' s.toks fun b o hb e => hk b o (fun q => hb (by rw [q]; exact List.mem_singleton.mpr rfl)) e
  self := fun i s Q E S h => wpAny_pyIter_listiter S.1 h
end Mine
end
-- FTN
section
open PySem PySem.W PyProof.Rows PySem.Spec PySem.Calls PyProof.V
set_option linter.unusedVariables false
namespace Mine
section
variable {prog : Program} {w : World} {A : Around} {E : Value → Shared → Prop} {s : Shared} {h₀ : Heap} {L : Addr} {m : Str → Option Value} {env : Env} {news : List (Addr × Obj)}
/-- as TupsRest, where a turn may change the ledger -/
def NEnd (h₀ : Heap) (L : Addr) (ax : Addr) (lo : Obj) (s : Shared) (I : Addr) (oI : Obj) (rest : (Str → Option Value) → List (Addr × Obj) → Prop) (s₃ : Shared) : Prop :=
  ∃ h' tk' m' news', s₃ = { s with heap := h', toks := tk' } ∧ Fr h₀ L h' m' ∧ News h₀ L h' ((I, oI) :: news') ∧ (ax, lo) ∈ news' ∧ (∀ p ∈ news', p.1 < I) ∧ rest m' news'
theorem NEnd.intro {ax I : Addr} {lo oI : Obj} {rest : (Str → Option Value) → List (Addr × Obj) → Prop} {h' : Heap} {tk' : Nat} {news' : List (Addr × Obj)} (F : Fr h₀ L h' m) (N : News h₀ L h' ((I, oI) :: news')) (hm : (ax, lo) ∈ news') (lt : ∀ p ∈ news', p.1 < I) (r : rest m news') : NEnd h₀ L ax lo s I oI rest { s with heap := h', toks := tk' } := ⟨h', tk', m, news', rfl, F, N, hm, lt, r⟩
def NRest (prog : Program) (w : World) (A : Around) (h₀ : Heap) (L : Addr) (ax : Addr) (lo : Obj) (env : Env) (target : PySem.Expr) (body orelse : List Stmt) (RR : Result → Shared → Prop) (s : Shared) (I : Addr) : List Value → (Str → Option Value) → List (Addr × Obj) → Prop
  | [], m, news => ∀ h tk, Fr h₀ L h m → News h₀ L h news → wpAny (model prog w) A (execs orelse env) (fun f s₃ => RR (.ok f) s₃) (notedBy (model prog w) A env fun e s' => RR (.error e) s') { s with heap := h, toks := tk }
  | v :: r, m, news => ∀ h tk oI, Fr h₀ L h m → News h₀ L h ((I, oI) :: news) → (∀ p ∈ news, p.1 < I) →
      wpAny (model prog w) A (assign target env v) (fun _ s₂ => wpAny (model prog w) A (execs body env) (fun f s₃ => match f with
          | .next | .cont => NEnd h₀ L ax lo s I oI (fun m' news' => NRest prog w A h₀ L ax lo env target body orelse RR s I r m' news') s₃
          | .brk => RR (.ok .next) s₃
          | .ret v => RR (.ok (.ret v)) s₃) (notedBy (model prog w) A env fun e s' => RR (.error e) s') s₂) (notedBy (model prog w) A env fun e s' => RR (.error e) s') { s with heap := h, toks := tk }
theorem NRest.nil {ax : Addr} {lo : Obj} {target : PySem.Expr} {body orelse : List Stmt} {RR : Result → Shared → Prop} {I : Addr}
    (h : ∀ h tk, Fr h₀ L h m → News h₀ L h news → wpAny (model prog w) A (execs orelse env) (fun f s₃ => RR (.ok f) s₃) (notedBy (model prog w) A env fun e s' => RR (.error e) s') { s with heap := h, toks := tk }) : NRest prog w A h₀ L ax lo env target body orelse RR s I [] m news := h
theorem NRest.cons {ax : Addr} {lo : Obj} {target : PySem.Expr} {body orelse : List Stmt} {RR : Result → Shared → Prop} {I : Addr} {v : Value} {r : List Value}
    (h : ∀ h tk oI, Fr h₀ L h m → News h₀ L h ((I, oI) :: news) → (∀ p ∈ news, p.1 < I) →
      wpAny (model prog w) A (assign target env v) (fun _ s₂ => wpAny (model prog w) A (execs body env) (fun f s₃ => match f with
          | .next | .cont => NEnd h₀ L ax lo s I oI (fun m' news' => NRest prog w A h₀ L ax lo env target body orelse RR s I r m' news') s₃
          | .brk => RR (.ok .next) s₃
          | .ret v => RR (.ok (.ret v)) s₃) (notedBy (model prog w) A env fun e s' => RR (.error e) s') s₂) (notedBy (model prog w) A env fun e s' => RR (.error e) s') { s with heap := h, toks := tk }) :
    NRest prog w A h₀ L ax lo env target body orelse RR s I (v :: r) m news := h
theorem iter_tupsN {ax : Addr} {vs : List Value} {k : Nat} {xx yy pp} {body orelse : List Stmt} {RR : Result → Shared → Prop} (hh : A.handled = none) (F : Fr h₀ L s.heap m) (N : News h₀ L s.heap news)
    (hm : (ax, ({ cls := .type "list", data := .seq vs.toArray k } : Obj)) ∈ news) (hr : ∀ v ∈ vs, ∃ T, v = .ref T)
    (R : NRest prog w A h₀ L ax { cls := .type "list", data := .seq vs.toArray k } env (.Tuple xx yy pp) body orelse RR s s.heap.objs.size vs m news) :
    wpAny (model prog w) A (pyIter (.ref ax)) (fun it s₂ => codeAny (model prog w) A (.forLoop (.Tuple xx yy pp) it body orelse env) RR s₂) E s := by
  generalize hlo : ({ cls := .type "list", data := .seq vs.toArray k } : Obj) = lo at R
  have hl : s.heap.IsList ax vs.toArray := ⟨_, (N _ hm).1, rfl, _, rfl⟩
  refine wpAny_pyIter_list hl ?_
  have lt : ∀ p ∈ news, p.1 < s.heap.objs.size := fun p hp => Heap.lt_size (N p hp).1
  have hLI : L ≠ s.heap.objs.size := Nat.ne_of_lt F.ns.lt
  have hI₀ : h₀.get? s.heap.objs.size = none := next_is_new F
  refine codeAny_forLoop_any (fun n s' => ∃ h tk m' i news', s' = { s with heap := h, toks := tk } ∧ n = vs.length - i ∧ h.IsListIter s.heap.objs.size ax i ∧ Fr h₀ L h m' ∧ News h₀ L h news' ∧ (ax, lo) ∈ news' ∧ (∀ p ∈ news', p.1 < s.heap.objs.size) ∧
    NRest prog w A h₀ L ax lo env (.Tuple xx yy pp) body orelse RR s s.heap.objs.size (vs.drop i) m' news') ?_ vs.length ?_
  · rintro n s' ⟨h, tk, m', i, news', rfl, rfl, hI, F', N', hm', lt', R'⟩
    have hl' : h.IsList ax vs.toArray := ⟨_, (N' _ hm').1, by rw [← hlo], k, by rw [← hlo]⟩
    cases hd : vs.drop i with
    | nil =>
      have hx : vs.toArray[i]? = none := by
        rw [List.getElem?_toArray]
        exact List.getElem?_eq_none (List.drop_eq_nil_iff.mp hd)
      refine wpAny_pyNext_list_end hh hI hl' hx fun h' hk => ?_
      rw [hd] at R'
      exact R' h' tk ⟨F'.ns.at' fun o e => hk _ o hLI e, fun b o e => hk b o (fun q => by rw [q, hI₀] at e; cases e) (F'.keep b o e), F'.above⟩
        fun p hp => ⟨hk _ _ (Nat.ne_of_lt (lt' p hp)) (N' p hp).1, (N' p hp).2⟩
    | cons v r =>
      have hlt : i < vs.length := by
        rcases Nat.lt_or_ge i vs.length with q | q
        · exact q
        · rw [List.drop_eq_nil_iff.mpr q] at hd; cases hd
      have hv : vs.drop i = vs[i] :: vs.drop (i + 1) := List.drop_eq_getElem_cons hlt
      rw [hv] at hd
      injection hd with e1 e2
      obtain ⟨T, rfl⟩ : ∃ T, v = .ref T := by rw [← e1]; exact hr _ (List.getElem_mem hlt)
      have hx : vs.toArray[i]? = some (.ref T) := by
        rw [List.getElem?_toArray, List.getElem?_eq_getElem hlt, e1]
      refine wpAny_pyNext_list_item hI hl' hx fun h' hI' hs' => ?_
      dsimp only
      have hI2 : Heap.IsListIter (Shared.heap { s with heap := h', toks := tk }) s.heap.objs.size ax (i + 1) := hI'
      refine wpAny_letOwnedTupleGo_listiter hI2 ?_
      rw [hv, e1, e2] at R'
      obtain ⟨oI, hoI, hcI, hdI⟩ := id hI'
      have F₂ : Fr h₀ L h' m' := ⟨F'.ns.at' fun o e => hs'.extBut _ o hLI e, fun b o e => hs'.extBut b o (fun q => by rw [q, hI₀] at e; cases e) (F'.keep b o e), F'.above⟩
      have N₂ : News h₀ L h' ((s.heap.objs.size, oI) :: news') := fun p hp => by
        rcases List.mem_cons.mp hp with rfl | hp
        · exact ⟨hoI, Ne.symm hLI, hI₀⟩
        · exact ⟨hs'.extBut _ _ (Nat.ne_of_lt (lt' p hp)) (N' p hp).1, (N' p hp).2⟩
      refine wpAny_mono (R' h' tk oI F₂ N₂ lt') (fun _ s₂ h₂ => wpAny_mono h₂ (fun f s₃ h₃ => ?_) fun _ _ e => e) fun _ _ e => e
      have go : NEnd h₀ L ax lo s s.heap.objs.size oI (fun m' news' => NRest prog w A h₀ L ax lo env (.Tuple xx yy pp) body orelse RR s s.heap.objs.size r m' news') s₃ →
          ∃ n', n' < vs.length - i ∧ ∃ h tk m' j news', s₃ = { s with heap := h, toks := tk } ∧ n' = vs.length - j ∧ h.IsListIter s.heap.objs.size ax j ∧ Fr h₀ L h m' ∧ News h₀ L h news' ∧ (ax, lo) ∈ news' ∧ (∀ p ∈ news', p.1 < s.heap.objs.size) ∧
            NRest prog w A h₀ L ax lo env (.Tuple xx yy pp) body orelse RR s s.heap.objs.size (vs.drop j) m' news' := by
        clear h₃
        rintro ⟨hq, tk₃, m₃, n₃, rfl, F₃, N₃, hm₃, lt₃, R₃⟩
        refine ⟨vs.length - (i + 1), by omega, hq, tk₃, m₃, i + 1, n₃, rfl, rfl, ⟨oI, (N₃ _ List.mem_cons_self).1, hcI, hdI⟩, F₃, fun p hp => N₃ p (List.mem_cons_of_mem _ hp), hm₃, lt₃, ?_⟩
        rw [e2]
        exact R₃
      cases f with
      | next => exact go h₃
      | cont => exact go h₃
      | brk => exact h₃
      | ret v => exact h₃
  · have up : ∀ b o, s.heap.get? b = some o → (s.heap.push { cls := .type "list_iterator", data := .fields #[.ref ax, .int 0 0] }).get? b = some o := fun b o e => Heap.get?_push_of_some _ e
    exact ⟨_, _, m, 0, news, rfl, rfl, ⟨_, Heap.get?_push_size _ rfl, rfl, rfl⟩, F.keeps up, N.grown up, hlo ▸ hm, lt, R⟩
end
theorem intsD_nil : IntsD [] := fun x v h => nomatch h
theorem intsD_put {D : List (PyData × PyData)} {x : Str} {i : Int} (h : IntsD D) : IntsD (PyProof.V.putD (.str x) (.int i) D) := fun y v e => by
  rw [lookup_putD_str] at e
  split at e
  · cases e; exact ⟨_, rfl⟩
  · exact h y v e
end Mine
end
-- R1
section
open PySem PySem.W PyProof.Rows PySem.Spec PySem.Calls PyProof.V
set_option maxRecDepth 100000
set_option maxHeartbeats 3000000
set_option linter.unusedVariables false
set_option pp.deepTerms false
set_option pp.deepTerms.threshold 7
set_option pp.proofs false
namespace Mine
theorem News.sub9 {h₀ h : Heap} {L : Addr} {l l' : List (Addr × Obj)} (N : News h₀ L h l) (hs : ∀ p ∈ l', p ∈ l) : News h₀ L h l' := fun p hp => N p (hs p hp)
local macro_rules | `(tactic| ktr_room) => `(tactic| exact dp_room (by assumption))
local macro_rules | `(tactic| k_all) => `(tactic| assumption)
local macro_rules | `(tactic| walk_at "NRest") => `(tactic| (k_dflt (first | (refine NRest.cons ?_; intro h' tk' o' F' N' l1; have l1' := l1; (try k_lt l1)) | (refine NRest.nil ?_; intro h' tk' F' N'))))
local macro_rules | `(tactic| walk_at "NEnd") => `(tactic| (k_dflt (refine' NEnd.intro ?tF ?tN ?tm ?tl ?_; (case tF => assumption); (case tN => assumption); (case tm => k_mem); (case tl => (repeat (refine List.forall_mem_cons.mpr ⟨?_, ?_⟩; (first | exact (by assumption : ∀ p ∈ _, p.1 < _) _ (by k_mem) | (show @LT.lt Nat _ _ _; dsimp only; omega)))); (intro p9 hp9; refine (by assumption : ∀ p ∈ _, p.1 < _) p9 ?_; (repeat (first | assumption | refine List.mem_cons_of_mem _ ?_)))))))
local macro_rules | `(tactic| walk_at "pyIter") => `(tactic| (k_here; k_dflt (refine' iter_tupsN ?ia ?iF ?iN ?im ?ir ?_; (case ia => rfl); (case iF => k_asm); (case iN => k_asm); (case im => k_mem); (case ir => (intro v hv; (repeat (first | exact ⟨_, List.mem_singleton.mp hv⟩ | (rcases List.mem_cons.mp hv with rfl | hv; exact ⟨_, rfl⟩)))))))) 
local macro_rules | `(tactic| walk_at "exec For Tuple List cons nil") => `(tactic| (k_here; k_dflt (refine wpAny_For ?_)))
theorem row_does (w : World) (news : List (Addr × Obj)) (c : Int) (tc : Tok) (p : Program) (loose : List Str) (mean : ExcName → Option Value) (mg mb : Str → Option Value) (dp un : Nat) (gd : Option (List Code)) (cn : Str) (cs : Scope) (a : Addr) (ccd : Value) (cl : List (Str × Addr)) (outer : List Env) (A₀ : Around) (base h₀ : Heap) (L : Addr) (m : Str → Option Value) (s : Shared)
    (Q E : Value → Shared → Prop) (B : Below A₀ base outer h₀) (F : Fr h₀ L s.heap m) (X : (Mine.hd.heap_39 w.params).In h₀) (N : News h₀ L s.heap news) (T : Top p loose mean mg mb h₀) (hk : cs.kind = .function) (hd : dp + 10 ≤ 500) (hu : un + 10 * 10 ≤ 5000)
    (hret : ∀ d o D h' tk', RowAt w [(d, o)] d D → Fr h₀ L h' m → News h₀ L h' ((d, o) :: news) → Q (.ref d) { s with heap := h', toks := tk' }) :
    wpAny (model PySem.Challenge.rw_au6007_01.row.prog w) (ktrTop dp un gd cn cs L a ccd cl outer) (call (.ref 71) [.int c tc]) Q E s := by
  revert X
  k_fill
  intro X
  refine wpAny_call ?_
  k_dflt ktr_enter
  k_steps
  all_goals (refine hret _ _ _ _ _ ⟨?zi9, by assumption, _, _, List.mem_cons_self, by assumption, by assumption⟩ (by assumption) ?zn9; (case zi9 => repeat (first | exact intsD_nil | refine intsD_put ?_)); (case zn9 => exact News.sub9 (by assumption) (by intro p9 hp9; rcases List.mem_cons.mp hp9 with e9 | hp9; (subst e9; k_mem); (repeat (first | assumption | refine List.mem_cons_of_mem _ ?_)))))
end Mine
end
-- Z1
section
open PySem PySem.W PyProof.Rows PySem.Spec PySem.Calls PyProof.V
set_option linter.unusedVariables false
namespace Mine
abbrev IsZipS (h : Heap) (z TI TO : Addr) (f0 : Value) (bf : Bool := false) : Prop :=
  h.get? z = some { cls := .type "zip", dict := none, data := .fields #[f0, .bool bf, .bool true, .ref TI, .ref TO], slots := #[] }
theorem nea {x y : Nat} (h : x < y ∨ y < x) : x ≠ y := by omega
abbrev IsTrip (h : Heap) (T : Addr) (a b c : Value) : Prop := h.get? T = some { cls := .type "tuple", data := .seq #[a, b, c] }
section
variable {prog : Program} {w : World} {A : Around} {E : Value → Shared → Prop} {s : Shared}
theorem nextOrEnd_item {it l : Addr} {i : Nat} {items} {x : Value} {Q : Option Value → Shared → Prop} (hit : s.heap.IsListIter it l i)
    (hl : s.heap.IsList l items) (hx : items[i]? = some x)
    (hQ : ∀ h', h'.IsListIter it l (i + 1) → Heap.SameBut it s.heap h' → Q (some x) { s with heap := h' }) :
    wpAny (model prog w) A (Builtin.SmallTypes.nextOrEnd (.ref it)) Q E s := by
  unfold Builtin.SmallTypes.nextOrEnd
  exact wpAny_bind (wpAny_attempt (wpAny_nextOf_list_item hit hl hx fun h' a b => wpAny_pure (hQ h' a b)))
theorem nextOrEnd_end {it l : Addr} {i : Nat} {items} {Q : Option Value → Shared → Prop} (hh : A.handled = none) (hit : s.heap.IsListIter it l i)
    (hl : s.heap.IsList l items) (hx : items[i]? = none)
    (hQ : ∀ h', Heap.ExtBut it s.heap h' → Q none { s with heap := h' }) :
    wpAny (model prog w) A (Builtin.SmallTypes.nextOrEnd (.ref it)) Q E s := by
  unfold Builtin.SmallTypes.nextOrEnd
  refine wpAny_bind (wpAny_attempt (wpAny_nextOf_list_end hh hit hl hx fun h' e hk he => ?_))
  obtain ⟨o, ho, hc⟩ := he
  refine wpAny_bind (wpAny_isInstance (T := "StopIteration") (b := true) ⟨o, ho, hc⟩ isSubtype_stop ?_)
  exact wpAny_pure (hQ _ hk)
theorem updTrip {T : Addr} {a b c x : Value} {k : Nat} {Q : Unit → Shared → Prop} (hT : IsTrip s.heap T a b c)
    (h : ∀ h', h'.get? T = some { cls := .type "tuple", data := .seq ((#[a, b, c] : Array Value).setIfInBounds k x) } → Heap.SameBut T s.heap h' → Q () { s with heap := h' }) :
    wpAny (model prog w) A (updateSeq T (·.setIfInBounds k x)) Q E s := by
  refine wpAny_updateSeq hT rfl (h _ ?_ (Heap.SameBut.update ..))
  rw [Heap.get?_update_self _ hT rfl]
  simp [Obj.mapSeq]
theorem stopIter {α : Type} {Q : α → Shared → Prop} (hh : A.handled = none)
    (hE : ∀ h' e, (∀ c o, s.heap.get? c = some o → h'.get? c = some o) → (∃ o, h'.get? e = some o ∧ o.cls = .type "StopIteration") → E (.ref e) { s with heap := h' }) :
    wpAny (model prog w) A (Builtin.SmallTypes.stopIteration : Sem α) Q E s := by
  unfold Builtin.SmallTypes.stopIteration
  refine wpAny_bind ?_
  simp only [newExc, newTuple]
  refine wpAny_bind (wpAny_newObj_type ?_ (by size_fits))
  refine wpAny_bind (m := firstArgMember _ _) (wpAny_of_eq (a := Value.none) (by first | rfl | (simp only [firstArgMember]; rfl)) ?_)
  refine wpAny_newObj_type ?_ (by size_fits)
  simp only [raiseNew]
  refine wpAny_bind (wpAny_handled ?_)
  rw [hh]
  refine wpAny_bind (wpAny_pure (wpAny_throw ?_))
  exact hE _ _ (fun c o e => Heap.get?_push_of_some _ (Heap.get?_push_of_some _ e)) ⟨_, Heap.get?_push_size _ rfl, rfl⟩
theorem zipS2_item {i1 i2 TI TO z l1 l2 : Nat} {bf : Bool} {k1 k2 : Nat} {xs ys : Array Value} {x y a c : Value} {Q : Value → Shared → Prop} (ap : i1 < i2 ∧ i2 < TI ∧ TI < TO ∧ TO < z) (b1 : (@Ne Nat l1 i1) ∧ (@Ne Nat l1 i2) ∧ (@Ne Nat l1 TI) ∧ (@Ne Nat l1 TO) ∧ (@Ne Nat l1 z)) (b2 : (@Ne Nat l2 i1) ∧ (@Ne Nat l2 i2) ∧ (@Ne Nat l2 TI) ∧ (@Ne Nat l2 TO) ∧ (@Ne Nat l2 z))
    (hz : IsZipS s.heap z TI TO .none bf) (hTI : IsPair s.heap TI (.ref i1) (.ref i2)) (hTO : IsPair s.heap TO a c)
    (h1 : s.heap.IsListIter i1 l1 k1) (h2 : s.heap.IsListIter i2 l2 k2) (hl1 : s.heap.IsList l1 xs) (hl2 : s.heap.IsList l2 ys)
    (hx1 : xs[k1]? = some x) (hx2 : ys[k2]? = some y)
    (hQ : ∀ h', IsZipS h' z TI TO (rawInt s.heap.objs.size) → IsPair h' TO x y → h'.IsListIter i1 l1 (k1 + 1) → h'.IsListIter i2 l2 (k2 + 1) → IsPair h' s.heap.objs.size x y → h'.objs.size = s.heap.objs.size + 1 → (∀ c o, c ≠ z → c ≠ TO → c ≠ i1 → c ≠ i2 → s.heap.get? c = some o → h'.get? c = some o) → Q (.ref s.heap.objs.size) { s with heap := h' }) :
    wpAny (model prog w) A (Builtin.«zip.__next__» ⟨[.ref z], []⟩) (fun fin s' => ∃ v, fin = .done (.ret v) ∧ Q v s') E s := by
  show wpAny _ _ (field (.ref z) 2 >>= _) _ _ _
  refine wpAny_bind (wpAny_field hz rfl (x := .bool true) rfl ?_)
  show wpAny _ _ (field (.ref z) 3 >>= _) _ _ _
  refine wpAny_bind (wpAny_field hz rfl (x := .ref TI) rfl ?_)
  refine wpAny_bind (wpAny_seqItems hTI rfl ?_)
  show wpAny _ _ (Builtin.SmallTypes.ownedTupleIsFree (.ref z) >>= _) _ _ _
  refine wpAny_bind ?_
  unfold Builtin.SmallTypes.ownedTupleIsFree
  refine wpAny_bind (wpAny_field hz rfl (x := .none) rfl (wpAny_pure ?_))
  simp only [if_true]
  refine wpAny_bind (wpAny_rule ?_)
  refine wpAny_bind (wpAny_field hz rfl (x := .ref TO) rfl ?_)
  refine wpAny_bind (wpAny_setField_rec hz (by simp) fun g0 hz0 hs0 => ?_)
  replace hz0 : IsZipS g0 z TI TO .ellipsis bf := hz0
  refine wpAny_bind ?_
  simp only [List.zipIdx_cons, List.zipIdx_nil, List.forIn_cons, List.forIn_nil]
  have ho0 : IsPair g0 TO a c := hs0.extBut _ _ (nea (by omega)) hTO
  refine wpAny_bind (wpAny_bind (wpAny_onRaise ?_))
  show wpAny _ _ (Builtin.SmallTypes.nextOrEnd (.ref i1)) _ _ _
  refine nextOrEnd_item (h1.extBut hs0.extBut (nea (by omega))) (hl1.extBut hs0.extBut (nea (by omega))) hx1 fun g1 hi1 hs1 => ?_
  have ho1 : IsPair g1 TO a c := hs1.extBut _ _ (nea (by omega)) ho0
  refine wpAny_bind (wpAny_seqItems ho1 rfl ?_)
  refine wpAny_bind (wpAny_updateSeq_pair ho1 fun g2 ho2 hs2 => ?_)
  replace ho2 : IsPair g2 TO x c := ho2
  refine wpAny_bind (wpAny_letGo (wpAny_pure ?_))
  refine wpAny_bind (wpAny_bind (wpAny_onRaise ?_))
  show wpAny _ _ (Builtin.SmallTypes.nextOrEnd (.ref i2)) _ _ _
  refine nextOrEnd_item (((h2.extBut hs0.extBut (nea (by omega))).extBut hs1.extBut (nea (by omega))).extBut hs2.extBut (nea (by omega))) (((hl2.extBut hs0.extBut (nea (by omega))).extBut hs1.extBut (nea (by omega))).extBut hs2.extBut (nea (by omega))) hx2 fun g3 hi2 hs3 => ?_
  have ho3 : IsPair g3 TO x c := hs3.extBut _ _ (nea (by omega)) ho2
  refine wpAny_bind (wpAny_seqItems ho3 rfl ?_)
  refine wpAny_bind (wpAny_updateSeq_pair ho3 fun g4 ho4 hs4 => ?_)
  replace ho4 : IsPair g4 TO x y := ho4
  refine wpAny_bind (wpAny_letGo (wpAny_pure (wpAny_pure ?_)))
  refine wpAny_bind (wpAny_seqItems ho4 rfl ?_)
  refine wpAny_bind (wpAny_newTuple ?_)
  have hsz : g4.objs.size = s.heap.objs.size := by rw [hs4.1, hs3.1, hs2.1, hs1.1, hs0.1]
  have keep : ∀ c o, c ≠ z → c ≠ TO → c ≠ i1 → c ≠ i2 → s.heap.get? c = some o → g4.get? c = some o := fun c o c1 c2 c3 c4 q => (hs4.extBut _ _ c2 (hs3.extBut _ _ c4 (hs2.extBut _ _ c2 (hs1.extBut _ _ c3 (hs0.extBut _ _ c1 q)))))
  have hz5 : IsZipS g4 z TI TO .ellipsis bf := (hs4.extBut _ _ (nea (by omega)) (hs3.extBut _ _ (nea (by omega)) (hs2.extBut _ _ (nea (by omega)) (hs1.extBut _ _ (nea (by omega)) hz0))))
  have hj1 : g4.IsListIter i1 l1 (k1 + 1) := (((hi1.extBut hs2.extBut (nea (by omega))).extBut hs3.extBut (nea (by omega))).extBut hs4.extBut (nea (by omega)))
  have hj2 : g4.IsListIter i2 l2 (k2 + 1) := (hi2.extBut hs4.extBut (nea (by omega)))
  have hzlt : z < g4.objs.size := Heap.lt_size hz5
  show wpAny _ _ (Builtin.SmallTypes.ownedTupleHandOut (.ref z) (.ref g4.objs.size) >>= _) _ _ _
  refine wpAny_bind ?_
  unfold Builtin.SmallTypes.ownedTupleHandOut
  have hz6 : IsZipS (g4.push { cls := .type "tuple", data := .seq #[x, y] }) z TI TO .ellipsis bf := Heap.get?_push_of_some _ hz5
  refine wpAny_bind (wpAny_setField_rec hz6 (by simp) fun h7 hz7 hs7 => ?_)
  replace hz7 : IsZipS h7 z TI TO (rawInt g4.objs.size) bf := hz7
  refine wpAny_setField_rec hz7 (by simp) fun h8 hz8 hs8 => ?_
  replace hz8 : IsZipS h8 z TI TO (rawInt g4.objs.size) := hz8
  have up : ∀ c o, c ≠ z → g4.get? c = some o → h8.get? c = some o := fun c o c1 e => hs8.extBut _ _ c1 (hs7.extBut _ _ c1 (Heap.get?_push_of_some _ e))
  have hT8 : IsPair h8 g4.objs.size x y := hs8.extBut _ _ (Nat.ne_of_gt hzlt) (hs7.extBut _ _ (Nat.ne_of_gt hzlt) (Heap.get?_push_size _ rfl))
  have hn8 : h8.objs.size = g4.objs.size + 1 := by rw [hs8.1, hs7.1, Heap.size_push]
  rw [hsz] at hz8 hT8 hn8
  refine wpAny_pure ⟨_, rfl, ?_⟩
  show Q (.ref g4.objs.size) _
  rw [hsz]
  exact hQ h8 hz8 (up _ _ (nea (by omega)) ho4) (hj1.at fun o e => up _ o (nea (by omega)) e) (hj2.at fun o e => up _ o (nea (by omega)) e) hT8 hn8 fun c o c1 c2 c3 c4 e => up c o c1 (keep c o c1 c2 c3 c4 e)
theorem zipS2_end {i1 i2 TI TO z l1 l2 : Nat} {bf : Bool} {k1 k2 : Nat} {xs ys : Array Value} {a c : Value} {Q : Fin → Shared → Prop} (hh : A.handled = none) (ap : i1 < i2 ∧ i2 < TI ∧ TI < TO ∧ TO < z) (b1 : (@Ne Nat l1 i1) ∧ (@Ne Nat l1 i2) ∧ (@Ne Nat l1 TI) ∧ (@Ne Nat l1 TO) ∧ (@Ne Nat l1 z)) (b2 : (@Ne Nat l2 i1) ∧ (@Ne Nat l2 i2) ∧ (@Ne Nat l2 TI) ∧ (@Ne Nat l2 TO) ∧ (@Ne Nat l2 z))
    (hz : IsZipS s.heap z TI TO .none bf) (hTI : IsPair s.heap TI (.ref i1) (.ref i2)) (hTO : IsPair s.heap TO a c)
    (h1 : s.heap.IsListIter i1 l1 k1) (h2 : s.heap.IsListIter i2 l2 k2) (hl1 : s.heap.IsList l1 xs) (hl2 : s.heap.IsList l2 ys)
    (hx1 : xs[k1]? = none) (hx2 : ys[k2]? = none)
    (hE : ∀ h' e, (∀ c o, c ≠ z → c ≠ TO → c ≠ i1 → c ≠ i2 → s.heap.get? c = some o → h'.get? c = some o) → (∃ o, h'.get? e = some o ∧ o.cls = .type "StopIteration") → E (.ref e) { s with heap := h' }) :
    wpAny (model prog w) A (Builtin.«zip.__next__» ⟨[.ref z], []⟩) Q E s := by
  show wpAny _ _ (field (.ref z) 2 >>= _) _ _ _
  refine wpAny_bind (wpAny_field hz rfl (x := .bool true) rfl ?_)
  show wpAny _ _ (field (.ref z) 3 >>= _) _ _ _
  refine wpAny_bind (wpAny_field hz rfl (x := .ref TI) rfl ?_)
  refine wpAny_bind (wpAny_seqItems hTI rfl ?_)
  show wpAny _ _ (Builtin.SmallTypes.ownedTupleIsFree (.ref z) >>= _) _ _ _
  refine wpAny_bind ?_
  unfold Builtin.SmallTypes.ownedTupleIsFree
  refine wpAny_bind (wpAny_field hz rfl (x := .none) rfl (wpAny_pure ?_))
  simp only [if_true]
  refine wpAny_bind (wpAny_rule ?_)
  refine wpAny_bind (wpAny_field hz rfl (x := .ref TO) rfl ?_)
  refine wpAny_bind (wpAny_setField_rec hz (by simp) fun g0 hz0 hs0 => ?_)
  replace hz0 : IsZipS g0 z TI TO .ellipsis bf := hz0
  refine wpAny_bind ?_
  simp only [List.zipIdx_cons, List.zipIdx_nil, List.forIn_cons, List.forIn_nil]
  have ho0 : IsPair g0 TO a c := hs0.extBut _ _ (nea (by omega)) hTO
  refine wpAny_bind (wpAny_bind (wpAny_onRaise ?_))
  show wpAny _ _ (Builtin.SmallTypes.nextOrEnd (.ref i1)) _ _ _
  refine nextOrEnd_end hh (h1.extBut hs0.extBut (nea (by omega))) (hl1.extBut hs0.extBut (nea (by omega))) hx1 fun gE hsE => ?_
  have hzE : IsZipS gE z TI TO .ellipsis bf := hsE _ _ (nea (by omega)) hz0
  refine wpAny_bind (wpAny_setField_rec hzE (by simp) fun gF hzF hsF => ?_)
  refine wpAny_bind ?_
  show wpAny _ _ (forIn [((Value.ref i2, 1) : Value × Nat)] PUnit.unit _ >>= fun _ => _) _ _ _
  refine wpAny_bind ?_
  simp only [List.forIn_cons, List.forIn_nil]
  refine wpAny_bind (wpAny_bind (nextOrEnd_end hh (((h2.extBut hs0.extBut (nea (by omega))).extBut hsE (nea (by omega))).extBut hsF.extBut (nea (by omega))) (((hl2.extBut hs0.extBut (nea (by omega))).extBut hsE (nea (by omega))).extBut hsF.extBut (nea (by omega))) hx2 fun gG1 hsG1 => ?_))
  simp only [Option.isSome_none, Bool.false_eq_true, if_false]
  refine wpAny_pure ?_
  refine wpAny_pure (wpAny_bind (wpAny_rule ?_))
  refine stopIter hh fun h5 e hk he => ?_
  exact hE _ _ (fun c o c1 c2 c3 c4 q => hk c o (hsG1 _ _ c4 (hsF.extBut _ _ c1 (hsE _ _ c3 (hs0.extBut _ _ c1 q))))) he
theorem zipS2_short1 {i1 i2 TI TO z l1 l2 : Nat} {bf : Bool} {k1 k2 : Nat} {xs ys : Array Value} {x a c : Value} {Q : Fin → Shared → Prop} (hh : A.handled = none) (ap : i1 < i2 ∧ i2 < TI ∧ TI < TO ∧ TO < z) (b1 : (@Ne Nat l1 i1) ∧ (@Ne Nat l1 i2) ∧ (@Ne Nat l1 TI) ∧ (@Ne Nat l1 TO) ∧ (@Ne Nat l1 z)) (b2 : (@Ne Nat l2 i1) ∧ (@Ne Nat l2 i2) ∧ (@Ne Nat l2 TI) ∧ (@Ne Nat l2 TO) ∧ (@Ne Nat l2 z))
    (hz : IsZipS s.heap z TI TO .none bf) (hTI : IsPair s.heap TI (.ref i1) (.ref i2)) (hTO : IsPair s.heap TO a c)
    (h1 : s.heap.IsListIter i1 l1 k1) (h2 : s.heap.IsListIter i2 l2 k2) (hl1 : s.heap.IsList l1 xs) (hl2 : s.heap.IsList l2 ys)
    (hx1 : xs[k1]? = some x) (hx2 : ys[k2]? = none)
    (hE : ∀ h' h'' e tk, (∀ c o, c ≠ z → c ≠ TO → c ≠ i1 → c ≠ i2 → s.heap.get? c = some o → h'.get? c = some o) → Heap.NewExc h' h'' e "ValueError" → E (.ref e) { s with heap := h'', toks := tk }) :
    wpAny (model prog w) A (Builtin.«zip.__next__» ⟨[.ref z], []⟩) Q E s := by
  show wpAny _ _ (field (.ref z) 2 >>= _) _ _ _
  refine wpAny_bind (wpAny_field hz rfl (x := .bool true) rfl ?_)
  show wpAny _ _ (field (.ref z) 3 >>= _) _ _ _
  refine wpAny_bind (wpAny_field hz rfl (x := .ref TI) rfl ?_)
  refine wpAny_bind (wpAny_seqItems hTI rfl ?_)
  show wpAny _ _ (Builtin.SmallTypes.ownedTupleIsFree (.ref z) >>= _) _ _ _
  refine wpAny_bind ?_
  unfold Builtin.SmallTypes.ownedTupleIsFree
  refine wpAny_bind (wpAny_field hz rfl (x := .none) rfl (wpAny_pure ?_))
  simp only [if_true]
  refine wpAny_bind (wpAny_rule ?_)
  refine wpAny_bind (wpAny_field hz rfl (x := .ref TO) rfl ?_)
  refine wpAny_bind (wpAny_setField_rec hz (by simp) fun g0 hz0 hs0 => ?_)
  replace hz0 : IsZipS g0 z TI TO .ellipsis bf := hz0
  refine wpAny_bind ?_
  simp only [List.zipIdx_cons, List.zipIdx_nil, List.forIn_cons, List.forIn_nil]
  have ho0 : IsPair g0 TO a c := hs0.extBut _ _ (nea (by omega)) hTO
  refine wpAny_bind (wpAny_bind (wpAny_onRaise ?_))
  show wpAny _ _ (Builtin.SmallTypes.nextOrEnd (.ref i1)) _ _ _
  refine nextOrEnd_item (h1.extBut hs0.extBut (nea (by omega))) (hl1.extBut hs0.extBut (nea (by omega))) hx1 fun g1 hi1 hs1 => ?_
  have ho1 : IsPair g1 TO a c := hs1.extBut _ _ (nea (by omega)) ho0
  refine wpAny_bind (wpAny_seqItems ho1 rfl ?_)
  refine wpAny_bind (wpAny_updateSeq_pair ho1 fun g2 ho2 hs2 => ?_)
  replace ho2 : IsPair g2 TO x c := ho2
  refine wpAny_bind (wpAny_letGo (wpAny_pure ?_))
  refine wpAny_bind (wpAny_bind (wpAny_onRaise ?_))
  show wpAny _ _ (Builtin.SmallTypes.nextOrEnd (.ref i2)) _ _ _
  refine nextOrEnd_end hh (((h2.extBut hs0.extBut (nea (by omega))).extBut hs1.extBut (nea (by omega))).extBut hs2.extBut (nea (by omega))) (((hl2.extBut hs0.extBut (nea (by omega))).extBut hs1.extBut (nea (by omega))).extBut hs2.extBut (nea (by omega))) hx2 fun gE hsE => ?_
  have hzE : IsZipS gE z TI TO .ellipsis bf := hsE _ _ (nea (by omega)) (hs2.extBut _ _ (nea (by omega)) (hs1.extBut _ _ (nea (by omega)) hz0))
  refine wpAny_bind (wpAny_setField_rec hzE (by simp) fun gF hzF hsF => ?_)
  refine wpAny_bind ?_
  show wpAny _ _ (rule "zip.__next__.shorter" >>= fun _ => (raiseErrorMade "ValueError" _ : Sem PUnit) >>= fun _ => _) _ _ _
  refine wpAny_bind (wpAny_rule (wpAny_bind ?_))
  refine wpAny_raiseErrorMade plainExc_ValueError hh (fun h' tk e hx => ?_) (by decide +kernel)
  exact hE _ _ e tk (fun c o c1 c2 c3 c4 q => (hsF.extBut _ _ c1 (hsE _ _ c4 (hs2.extBut _ _ c2 (hs1.extBut _ _ c3 (hs0.extBut _ _ c1 q)))))) hx
theorem zipS3_item {i1 i2 i3 TI TO z l1 l2 l3 : Nat} {bf : Bool} {k1 k2 k3 : Nat} {xs ys us : Array Value} {x y u a c d : Value} {Q : Value → Shared → Prop} (ap : i1 < i2 ∧ i2 < i3 ∧ i3 < TI ∧ TI < TO ∧ TO < z) (b1 : (@Ne Nat l1 i1) ∧ (@Ne Nat l1 i2) ∧ (@Ne Nat l1 i3) ∧ (@Ne Nat l1 TI) ∧ (@Ne Nat l1 TO) ∧ (@Ne Nat l1 z)) (b2 : (@Ne Nat l2 i1) ∧ (@Ne Nat l2 i2) ∧ (@Ne Nat l2 i3) ∧ (@Ne Nat l2 TI) ∧ (@Ne Nat l2 TO) ∧ (@Ne Nat l2 z)) (b3 : (@Ne Nat l3 i1) ∧ (@Ne Nat l3 i2) ∧ (@Ne Nat l3 i3) ∧ (@Ne Nat l3 TI) ∧ (@Ne Nat l3 TO) ∧ (@Ne Nat l3 z))
    (hz : IsZipS s.heap z TI TO .none bf) (hTI : IsTrip s.heap TI (.ref i1) (.ref i2) (.ref i3)) (hTO : IsTrip s.heap TO a c d)
    (h1 : s.heap.IsListIter i1 l1 k1) (h2 : s.heap.IsListIter i2 l2 k2) (h3 : s.heap.IsListIter i3 l3 k3) (hl1 : s.heap.IsList l1 xs) (hl2 : s.heap.IsList l2 ys) (hl3 : s.heap.IsList l3 us)
    (hx1 : xs[k1]? = some x) (hx2 : ys[k2]? = some y) (hx3 : us[k3]? = some u)
    (hQ : ∀ h', IsZipS h' z TI TO (rawInt s.heap.objs.size) → IsTrip h' TO x y u → h'.IsListIter i1 l1 (k1 + 1) → h'.IsListIter i2 l2 (k2 + 1) → h'.IsListIter i3 l3 (k3 + 1) → IsTrip h' s.heap.objs.size x y u → h'.objs.size = s.heap.objs.size + 1 → (∀ c o, c ≠ z → c ≠ TO → c ≠ i1 → c ≠ i2 → c ≠ i3 → s.heap.get? c = some o → h'.get? c = some o) → Q (.ref s.heap.objs.size) { s with heap := h' }) :
    wpAny (model prog w) A (Builtin.«zip.__next__» ⟨[.ref z], []⟩) (fun fin s' => ∃ v, fin = .done (.ret v) ∧ Q v s') E s := by
  show wpAny _ _ (field (.ref z) 2 >>= _) _ _ _
  refine wpAny_bind (wpAny_field hz rfl (x := .bool true) rfl ?_)
  show wpAny _ _ (field (.ref z) 3 >>= _) _ _ _
  refine wpAny_bind (wpAny_field hz rfl (x := .ref TI) rfl ?_)
  refine wpAny_bind (wpAny_seqItems hTI rfl ?_)
  show wpAny _ _ (Builtin.SmallTypes.ownedTupleIsFree (.ref z) >>= _) _ _ _
  refine wpAny_bind ?_
  unfold Builtin.SmallTypes.ownedTupleIsFree
  refine wpAny_bind (wpAny_field hz rfl (x := .none) rfl (wpAny_pure ?_))
  simp only [if_true]
  refine wpAny_bind (wpAny_rule ?_)
  refine wpAny_bind (wpAny_field hz rfl (x := .ref TO) rfl ?_)
  refine wpAny_bind (wpAny_setField_rec hz (by simp) fun g0 hz0 hs0 => ?_)
  replace hz0 : IsZipS g0 z TI TO .ellipsis bf := hz0
  refine wpAny_bind ?_
  simp only [List.zipIdx_cons, List.zipIdx_nil, List.forIn_cons, List.forIn_nil]
  have ho0 : IsTrip g0 TO a c d := hs0.extBut _ _ (nea (by omega)) hTO
  refine wpAny_bind (wpAny_bind (wpAny_onRaise ?_))
  show wpAny _ _ (Builtin.SmallTypes.nextOrEnd (.ref i1)) _ _ _
  refine nextOrEnd_item (h1.extBut hs0.extBut (nea (by omega))) (hl1.extBut hs0.extBut (nea (by omega))) hx1 fun g1 hi1 hs1 => ?_
  have ho1 : IsTrip g1 TO a c d := hs1.extBut _ _ (nea (by omega)) ho0
  refine wpAny_bind (wpAny_seqItems ho1 rfl ?_)
  refine wpAny_bind (updTrip ho1 fun g2 ho2 hs2 => ?_)
  replace ho2 : IsTrip g2 TO x c d := ho2
  refine wpAny_bind (wpAny_letGo (wpAny_pure ?_))
  refine wpAny_bind (wpAny_bind (wpAny_onRaise ?_))
  show wpAny _ _ (Builtin.SmallTypes.nextOrEnd (.ref i2)) _ _ _
  refine nextOrEnd_item (((h2.extBut hs0.extBut (nea (by omega))).extBut hs1.extBut (nea (by omega))).extBut hs2.extBut (nea (by omega))) (((hl2.extBut hs0.extBut (nea (by omega))).extBut hs1.extBut (nea (by omega))).extBut hs2.extBut (nea (by omega))) hx2 fun g3 hi2 hs3 => ?_
  have ho3 : IsTrip g3 TO x c d := hs3.extBut _ _ (nea (by omega)) ho2
  refine wpAny_bind (wpAny_seqItems ho3 rfl ?_)
  refine wpAny_bind (updTrip ho3 fun g4 ho4 hs4 => ?_)
  replace ho4 : IsTrip g4 TO x y d := ho4
  refine wpAny_bind (wpAny_letGo (wpAny_pure ?_))
  refine wpAny_bind (wpAny_bind (wpAny_onRaise ?_))
  show wpAny _ _ (Builtin.SmallTypes.nextOrEnd (.ref i3)) _ _ _
  refine nextOrEnd_item (((((h3.extBut hs0.extBut (nea (by omega))).extBut hs1.extBut (nea (by omega))).extBut hs2.extBut (nea (by omega))).extBut hs3.extBut (nea (by omega))).extBut hs4.extBut (nea (by omega))) (((((hl3.extBut hs0.extBut (nea (by omega))).extBut hs1.extBut (nea (by omega))).extBut hs2.extBut (nea (by omega))).extBut hs3.extBut (nea (by omega))).extBut hs4.extBut (nea (by omega))) hx3 fun g5 hi3 hs5 => ?_
  have ho5 : IsTrip g5 TO x y d := hs5.extBut _ _ (nea (by omega)) ho4
  refine wpAny_bind (wpAny_seqItems ho5 rfl ?_)
  refine wpAny_bind (updTrip ho5 fun g6 ho6 hs6 => ?_)
  replace ho6 : IsTrip g6 TO x y u := ho6
  refine wpAny_bind (wpAny_letGo (wpAny_pure (wpAny_pure ?_)))
  refine wpAny_bind (wpAny_seqItems ho6 rfl ?_)
  refine wpAny_bind (wpAny_newTuple ?_)
  have hsz : g6.objs.size = s.heap.objs.size := by rw [hs6.1, hs5.1, hs4.1, hs3.1, hs2.1, hs1.1, hs0.1]
  have keep : ∀ c o, c ≠ z → c ≠ TO → c ≠ i1 → c ≠ i2 → c ≠ i3 → s.heap.get? c = some o → g6.get? c = some o := fun c o c1 c2 c3 c4 c5 q => (hs6.extBut _ _ c2 (hs5.extBut _ _ c5 (hs4.extBut _ _ c2 (hs3.extBut _ _ c4 (hs2.extBut _ _ c2 (hs1.extBut _ _ c3 (hs0.extBut _ _ c1 q)))))))
  have hz5 : IsZipS g6 z TI TO .ellipsis bf := (hs6.extBut _ _ (nea (by omega)) (hs5.extBut _ _ (nea (by omega)) (hs4.extBut _ _ (nea (by omega)) (hs3.extBut _ _ (nea (by omega)) (hs2.extBut _ _ (nea (by omega)) (hs1.extBut _ _ (nea (by omega)) hz0))))))
  have hj1 : g6.IsListIter i1 l1 (k1 + 1) := (((((hi1.extBut hs2.extBut (nea (by omega))).extBut hs3.extBut (nea (by omega))).extBut hs4.extBut (nea (by omega))).extBut hs5.extBut (nea (by omega))).extBut hs6.extBut (nea (by omega)))
  have hj2 : g6.IsListIter i2 l2 (k2 + 1) := (((hi2.extBut hs4.extBut (nea (by omega))).extBut hs5.extBut (nea (by omega))).extBut hs6.extBut (nea (by omega)))
  have hj3 : g6.IsListIter i3 l3 (k3 + 1) := (hi3.extBut hs6.extBut (nea (by omega)))
  have hzlt : z < g6.objs.size := Heap.lt_size hz5
  show wpAny _ _ (Builtin.SmallTypes.ownedTupleHandOut (.ref z) (.ref g6.objs.size) >>= _) _ _ _
  refine wpAny_bind ?_
  unfold Builtin.SmallTypes.ownedTupleHandOut
  have hz6 : IsZipS (g6.push { cls := .type "tuple", data := .seq #[x, y, u] }) z TI TO .ellipsis bf := Heap.get?_push_of_some _ hz5
  refine wpAny_bind (wpAny_setField_rec hz6 (by simp) fun h7 hz7 hs7 => ?_)
  replace hz7 : IsZipS h7 z TI TO (rawInt g6.objs.size) bf := hz7
  refine wpAny_setField_rec hz7 (by simp) fun h8 hz8 hs8 => ?_
  replace hz8 : IsZipS h8 z TI TO (rawInt g6.objs.size) := hz8
  have up : ∀ c o, c ≠ z → g6.get? c = some o → h8.get? c = some o := fun c o c1 e => hs8.extBut _ _ c1 (hs7.extBut _ _ c1 (Heap.get?_push_of_some _ e))
  have hT8 : IsTrip h8 g6.objs.size x y u := hs8.extBut _ _ (Nat.ne_of_gt hzlt) (hs7.extBut _ _ (Nat.ne_of_gt hzlt) (Heap.get?_push_size _ rfl))
  have hn8 : h8.objs.size = g6.objs.size + 1 := by rw [hs8.1, hs7.1, Heap.size_push]
  rw [hsz] at hz8 hT8 hn8
  refine wpAny_pure ⟨_, rfl, ?_⟩
  show Q (.ref g6.objs.size) _
  rw [hsz]
  exact hQ h8 hz8 (up _ _ (nea (by omega)) ho6) (hj1.at fun o e => up _ o (nea (by omega)) e) (hj2.at fun o e => up _ o (nea (by omega)) e) (hj3.at fun o e => up _ o (nea (by omega)) e) hT8 hn8 fun c o c1 c2 c3 c4 c5 e => up c o c1 (keep c o c1 c2 c3 c4 c5 e)
theorem zipS3_end {i1 i2 i3 TI TO z l1 l2 l3 : Nat} {bf : Bool} {k1 k2 k3 : Nat} {xs ys us : Array Value} {a c d : Value} {Q : Fin → Shared → Prop} (hh : A.handled = none) (ap : i1 < i2 ∧ i2 < i3 ∧ i3 < TI ∧ TI < TO ∧ TO < z) (b1 : (@Ne Nat l1 i1) ∧ (@Ne Nat l1 i2) ∧ (@Ne Nat l1 i3) ∧ (@Ne Nat l1 TI) ∧ (@Ne Nat l1 TO) ∧ (@Ne Nat l1 z)) (b2 : (@Ne Nat l2 i1) ∧ (@Ne Nat l2 i2) ∧ (@Ne Nat l2 i3) ∧ (@Ne Nat l2 TI) ∧ (@Ne Nat l2 TO) ∧ (@Ne Nat l2 z)) (b3 : (@Ne Nat l3 i1) ∧ (@Ne Nat l3 i2) ∧ (@Ne Nat l3 i3) ∧ (@Ne Nat l3 TI) ∧ (@Ne Nat l3 TO) ∧ (@Ne Nat l3 z))
    (hz : IsZipS s.heap z TI TO .none bf) (hTI : IsTrip s.heap TI (.ref i1) (.ref i2) (.ref i3)) (hTO : IsTrip s.heap TO a c d)
    (h1 : s.heap.IsListIter i1 l1 k1) (h2 : s.heap.IsListIter i2 l2 k2) (h3 : s.heap.IsListIter i3 l3 k3) (hl1 : s.heap.IsList l1 xs) (hl2 : s.heap.IsList l2 ys) (hl3 : s.heap.IsList l3 us)
    (hx1 : xs[k1]? = none) (hx2 : ys[k2]? = none) (hx3 : us[k3]? = none)
    (hE : ∀ h' e, (∀ c o, c ≠ z → c ≠ TO → c ≠ i1 → c ≠ i2 → c ≠ i3 → s.heap.get? c = some o → h'.get? c = some o) → (∃ o, h'.get? e = some o ∧ o.cls = .type "StopIteration") → E (.ref e) { s with heap := h' }) :
    wpAny (model prog w) A (Builtin.«zip.__next__» ⟨[.ref z], []⟩) Q E s := by
  show wpAny _ _ (field (.ref z) 2 >>= _) _ _ _
  refine wpAny_bind (wpAny_field hz rfl (x := .bool true) rfl ?_)
  show wpAny _ _ (field (.ref z) 3 >>= _) _ _ _
  refine wpAny_bind (wpAny_field hz rfl (x := .ref TI) rfl ?_)
  refine wpAny_bind (wpAny_seqItems hTI rfl ?_)
  show wpAny _ _ (Builtin.SmallTypes.ownedTupleIsFree (.ref z) >>= _) _ _ _
  refine wpAny_bind ?_
  unfold Builtin.SmallTypes.ownedTupleIsFree
  refine wpAny_bind (wpAny_field hz rfl (x := .none) rfl (wpAny_pure ?_))
  simp only [if_true]
  refine wpAny_bind (wpAny_rule ?_)
  refine wpAny_bind (wpAny_field hz rfl (x := .ref TO) rfl ?_)
  refine wpAny_bind (wpAny_setField_rec hz (by simp) fun g0 hz0 hs0 => ?_)
  replace hz0 : IsZipS g0 z TI TO .ellipsis bf := hz0
  refine wpAny_bind ?_
  simp only [List.zipIdx_cons, List.zipIdx_nil, List.forIn_cons, List.forIn_nil]
  have ho0 : IsTrip g0 TO a c d := hs0.extBut _ _ (nea (by omega)) hTO
  refine wpAny_bind (wpAny_bind (wpAny_onRaise ?_))
  show wpAny _ _ (Builtin.SmallTypes.nextOrEnd (.ref i1)) _ _ _
  refine nextOrEnd_end hh (h1.extBut hs0.extBut (nea (by omega))) (hl1.extBut hs0.extBut (nea (by omega))) hx1 fun gE hsE => ?_
  have hzE : IsZipS gE z TI TO .ellipsis bf := hsE _ _ (nea (by omega)) hz0
  refine wpAny_bind (wpAny_setField_rec hzE (by simp) fun gF hzF hsF => ?_)
  refine wpAny_bind ?_
  show wpAny _ _ (forIn [((Value.ref i2, 1) : Value × Nat), ((Value.ref i3, 2) : Value × Nat)] PUnit.unit _ >>= fun _ => _) _ _ _
  refine wpAny_bind ?_
  simp only [List.forIn_cons, List.forIn_nil]
  refine wpAny_bind (wpAny_bind (nextOrEnd_end hh (((h2.extBut hs0.extBut (nea (by omega))).extBut hsE (nea (by omega))).extBut hsF.extBut (nea (by omega))) (((hl2.extBut hs0.extBut (nea (by omega))).extBut hsE (nea (by omega))).extBut hsF.extBut (nea (by omega))) hx2 fun gG1 hsG1 => ?_))
  simp only [Option.isSome_none, Bool.false_eq_true, if_false]
  refine wpAny_pure ?_
  refine wpAny_bind (wpAny_bind (nextOrEnd_end hh ((((h3.extBut hs0.extBut (nea (by omega))).extBut hsE (nea (by omega))).extBut hsF.extBut (nea (by omega))).extBut hsG1 (nea (by omega))) ((((hl3.extBut hs0.extBut (nea (by omega))).extBut hsE (nea (by omega))).extBut hsF.extBut (nea (by omega))).extBut hsG1 (nea (by omega))) hx3 fun gG2 hsG2 => ?_))
  simp only [Option.isSome_none, Bool.false_eq_true, if_false]
  refine wpAny_pure ?_
  refine wpAny_pure (wpAny_bind (wpAny_rule ?_))
  refine stopIter hh fun h5 e hk he => ?_
  exact hE _ _ (fun c o c1 c2 c3 c4 c5 q => hk c o (hsG2 _ _ c5 (hsG1 _ _ c4 (hsF.extBut _ _ c1 (hsE _ _ c3 (hs0.extBut _ _ c1 q)))))) he
theorem zipS3_short2 {i1 i2 i3 TI TO z l1 l2 l3 : Nat} {bf : Bool} {k1 k2 k3 : Nat} {xs ys us : Array Value} {x y a c d : Value} {Q : Fin → Shared → Prop} (hh : A.handled = none) (ap : i1 < i2 ∧ i2 < i3 ∧ i3 < TI ∧ TI < TO ∧ TO < z) (b1 : (@Ne Nat l1 i1) ∧ (@Ne Nat l1 i2) ∧ (@Ne Nat l1 i3) ∧ (@Ne Nat l1 TI) ∧ (@Ne Nat l1 TO) ∧ (@Ne Nat l1 z)) (b2 : (@Ne Nat l2 i1) ∧ (@Ne Nat l2 i2) ∧ (@Ne Nat l2 i3) ∧ (@Ne Nat l2 TI) ∧ (@Ne Nat l2 TO) ∧ (@Ne Nat l2 z)) (b3 : (@Ne Nat l3 i1) ∧ (@Ne Nat l3 i2) ∧ (@Ne Nat l3 i3) ∧ (@Ne Nat l3 TI) ∧ (@Ne Nat l3 TO) ∧ (@Ne Nat l3 z))
    (hz : IsZipS s.heap z TI TO .none bf) (hTI : IsTrip s.heap TI (.ref i1) (.ref i2) (.ref i3)) (hTO : IsTrip s.heap TO a c d)
    (h1 : s.heap.IsListIter i1 l1 k1) (h2 : s.heap.IsListIter i2 l2 k2) (h3 : s.heap.IsListIter i3 l3 k3) (hl1 : s.heap.IsList l1 xs) (hl2 : s.heap.IsList l2 ys) (hl3 : s.heap.IsList l3 us)
    (hx1 : xs[k1]? = some x) (hx2 : ys[k2]? = some y) (hx3 : us[k3]? = none)
    (hE : ∀ h' h'' e tk, (∀ c o, c ≠ z → c ≠ TO → c ≠ i1 → c ≠ i2 → c ≠ i3 → s.heap.get? c = some o → h'.get? c = some o) → Heap.NewExc h' h'' e "ValueError" → E (.ref e) { s with heap := h'', toks := tk }) :
    wpAny (model prog w) A (Builtin.«zip.__next__» ⟨[.ref z], []⟩) Q E s := by
  show wpAny _ _ (field (.ref z) 2 >>= _) _ _ _
  refine wpAny_bind (wpAny_field hz rfl (x := .bool true) rfl ?_)
  show wpAny _ _ (field (.ref z) 3 >>= _) _ _ _
  refine wpAny_bind (wpAny_field hz rfl (x := .ref TI) rfl ?_)
  refine wpAny_bind (wpAny_seqItems hTI rfl ?_)
  show wpAny _ _ (Builtin.SmallTypes.ownedTupleIsFree (.ref z) >>= _) _ _ _
  refine wpAny_bind ?_
  unfold Builtin.SmallTypes.ownedTupleIsFree
  refine wpAny_bind (wpAny_field hz rfl (x := .none) rfl (wpAny_pure ?_))
  simp only [if_true]
  refine wpAny_bind (wpAny_rule ?_)
  refine wpAny_bind (wpAny_field hz rfl (x := .ref TO) rfl ?_)
  refine wpAny_bind (wpAny_setField_rec hz (by simp) fun g0 hz0 hs0 => ?_)
  replace hz0 : IsZipS g0 z TI TO .ellipsis bf := hz0
  refine wpAny_bind ?_
  simp only [List.zipIdx_cons, List.zipIdx_nil, List.forIn_cons, List.forIn_nil]
  have ho0 : IsTrip g0 TO a c d := hs0.extBut _ _ (nea (by omega)) hTO
  refine wpAny_bind (wpAny_bind (wpAny_onRaise ?_))
  show wpAny _ _ (Builtin.SmallTypes.nextOrEnd (.ref i1)) _ _ _
  refine nextOrEnd_item (h1.extBut hs0.extBut (nea (by omega))) (hl1.extBut hs0.extBut (nea (by omega))) hx1 fun g1 hi1 hs1 => ?_
  have ho1 : IsTrip g1 TO a c d := hs1.extBut _ _ (nea (by omega)) ho0
  refine wpAny_bind (wpAny_seqItems ho1 rfl ?_)
  refine wpAny_bind (updTrip ho1 fun g2 ho2 hs2 => ?_)
  replace ho2 : IsTrip g2 TO x c d := ho2
  refine wpAny_bind (wpAny_letGo (wpAny_pure ?_))
  refine wpAny_bind (wpAny_bind (wpAny_onRaise ?_))
  show wpAny _ _ (Builtin.SmallTypes.nextOrEnd (.ref i2)) _ _ _
  refine nextOrEnd_item (((h2.extBut hs0.extBut (nea (by omega))).extBut hs1.extBut (nea (by omega))).extBut hs2.extBut (nea (by omega))) (((hl2.extBut hs0.extBut (nea (by omega))).extBut hs1.extBut (nea (by omega))).extBut hs2.extBut (nea (by omega))) hx2 fun g3 hi2 hs3 => ?_
  have ho3 : IsTrip g3 TO x c d := hs3.extBut _ _ (nea (by omega)) ho2
  refine wpAny_bind (wpAny_seqItems ho3 rfl ?_)
  refine wpAny_bind (updTrip ho3 fun g4 ho4 hs4 => ?_)
  replace ho4 : IsTrip g4 TO x y d := ho4
  refine wpAny_bind (wpAny_letGo (wpAny_pure ?_))
  refine wpAny_bind (wpAny_bind (wpAny_onRaise ?_))
  show wpAny _ _ (Builtin.SmallTypes.nextOrEnd (.ref i3)) _ _ _
  refine nextOrEnd_end hh (((((h3.extBut hs0.extBut (nea (by omega))).extBut hs1.extBut (nea (by omega))).extBut hs2.extBut (nea (by omega))).extBut hs3.extBut (nea (by omega))).extBut hs4.extBut (nea (by omega))) (((((hl3.extBut hs0.extBut (nea (by omega))).extBut hs1.extBut (nea (by omega))).extBut hs2.extBut (nea (by omega))).extBut hs3.extBut (nea (by omega))).extBut hs4.extBut (nea (by omega))) hx3 fun gE hsE => ?_
  have hzE : IsZipS gE z TI TO .ellipsis bf := hsE _ _ (nea (by omega)) (hs4.extBut _ _ (nea (by omega)) (hs3.extBut _ _ (nea (by omega)) (hs2.extBut _ _ (nea (by omega)) (hs1.extBut _ _ (nea (by omega)) hz0))))
  refine wpAny_bind (wpAny_setField_rec hzE (by simp) fun gF hzF hsF => ?_)
  refine wpAny_bind ?_
  show wpAny _ _ (rule "zip.__next__.shorter" >>= fun _ => (raiseErrorMade "ValueError" _ : Sem PUnit) >>= fun _ => _) _ _ _
  refine wpAny_bind (wpAny_rule (wpAny_bind ?_))
  refine wpAny_raiseErrorMade plainExc_ValueError hh (fun h' tk e hx => ?_) (by decide +kernel)
  exact hE _ _ e tk (fun c o c1 c2 c3 c4 c5 q => (hsF.extBut _ _ c1 (hsE _ _ c5 (hs4.extBut _ _ c2 (hs3.extBut _ _ c4 (hs2.extBut _ _ c2 (hs1.extBut _ _ c3 (hs0.extBut _ _ c1 q)))))))) hx
end
end Mine
end
-- Z2
section
open PySem PySem.W PyProof.Rows PySem.Spec PySem.Calls PyProof.V
set_option linter.unusedVariables false
namespace Mine
abbrev IsZipH (h : Heap) (z TI TO T : Addr) (b : Bool) : Prop :=
  h.get? z = some { cls := .type "zip", dict := none, data := .fields #[rawInt T, .bool b, .bool true, .ref TI, .ref TO], slots := #[] }
section
variable {prog : Program} {w : World} {A : Around} {E : Value → Shared → Prop} {s : Shared}
theorem aliveThere {a : Addr} {o : Obj} {Q : Option Obj → Shared → Prop} (ho : s.heap.get? a = some o) (h : Q (some o) s) : wpAny (model prog w) A (loadIfAlive a) Q E s := fun Γ p hΓ => by
  unfold loadIfAlive
  rw [Sem.wp_loadIfAlive, ho]
  exact wpAny_pure h Γ p hΓ
theorem notFree {z TI TO T : Addr} {b : Bool} {o : Obj} {Q : Bool → Shared → Prop} (hz : IsZipH s.heap z TI TO T b) (hT : s.heap.get? T = some o)
    (h : ∀ h', IsZipH h' z TI TO T true → Heap.SameBut z s.heap h' → Q false { s with heap := h' }) : wpAny (model prog w) A (Builtin.SmallTypes.ownedTupleIsFree (.ref z)) Q E s := by
  unfold Builtin.SmallTypes.ownedTupleIsFree
  refine wpAny_bind (wpAny_field hz rfl (x := rawInt T) rfl ?_)
  show wpAny _ _ (loadIfAlive ((T : Int).toNat) >>= _) _ _ _
  rw [Int.toNat_natCast]
  refine wpAny_bind (aliveThere hT ?_)
  simp only [Option.isNone_some, Bool.false_eq_true, if_false]
  refine wpAny_bind (wpAny_field hz rfl (x := .bool b) rfl ?_)
  cases b with
  | true =>
    rw [if_neg (by decide)]
    exact wpAny_pure (h s.heap hz ⟨rfl, fun _ _ => rfl⟩)
  | false =>
    rw [if_pos (by decide)]
    refine wpAny_bind (wpAny_setField_rec hz (by simp) fun h1 hz1 hs1 => wpAny_pure (h h1 hz1 hs1))
theorem zipH2_item {i1 i2 TI TO z T l1 l2 : Nat} {b : Bool} {oT : Obj} {k1 k2 : Nat} {xs ys : Array Value} {x y : Value} {Q : Value → Shared → Prop} (ap : i1 < i2 ∧ i2 < TI ∧ TI < TO ∧ TO < z) (b1 : (@Ne Nat l1 i1) ∧ (@Ne Nat l1 i2) ∧ (@Ne Nat l1 TI) ∧ (@Ne Nat l1 TO) ∧ (@Ne Nat l1 z)) (b2 : (@Ne Nat l2 i1) ∧ (@Ne Nat l2 i2) ∧ (@Ne Nat l2 TI) ∧ (@Ne Nat l2 TO) ∧ (@Ne Nat l2 z))
    (hz : IsZipH s.heap z TI TO T b) (hT : s.heap.get? T = some oT) (hTI : IsPair s.heap TI (.ref i1) (.ref i2))
    (h1 : s.heap.IsListIter i1 l1 k1) (h2 : s.heap.IsListIter i2 l2 k2) (hl1 : s.heap.IsList l1 xs) (hl2 : s.heap.IsList l2 ys)
    (hx1 : xs[k1]? = some x) (hx2 : ys[k2]? = some y)
    (hQ : ∀ h', IsZipH h' z TI TO T true → h'.IsListIter i1 l1 (k1 + 1) → h'.IsListIter i2 l2 (k2 + 1) → IsPair h' s.heap.objs.size x y → h'.objs.size = s.heap.objs.size + 1 → (∀ c o, c ≠ z → c ≠ i1 → c ≠ i2 → s.heap.get? c = some o → h'.get? c = some o) → Q (.ref s.heap.objs.size) { s with heap := h' }) :
    wpAny (model prog w) A (Builtin.«zip.__next__» ⟨[.ref z], []⟩) (fun fin s' => ∃ v, fin = .done (.ret v) ∧ Q v s') E s := by
  show wpAny _ _ (field (.ref z) 2 >>= _) _ _ _
  refine wpAny_bind (wpAny_field hz rfl (x := .bool true) rfl ?_)
  show wpAny _ _ (field (.ref z) 3 >>= _) _ _ _
  refine wpAny_bind (wpAny_field hz rfl (x := .ref TI) rfl ?_)
  refine wpAny_bind (wpAny_seqItems hTI rfl ?_)
  show wpAny _ _ (Builtin.SmallTypes.ownedTupleIsFree (.ref z) >>= _) _ _ _
  refine wpAny_bind (notFree hz hT fun g0 hz0 hs0 => ?_)
  simp only [Bool.false_eq_true, if_false]
  refine wpAny_bind ?_
  simp only [List.forIn_toArray, List.forIn_cons, List.forIn_nil]
  refine wpAny_bind (wpAny_bind (wpAny_holding ?_))
  show wpAny _ _ (Builtin.SmallTypes.nextOrEnd (.ref i1)) _ _ _
  refine nextOrEnd_item (h1.extBut hs0.extBut (nea (by omega))) (hl1.extBut hs0.extBut (nea (by omega))) hx1 fun g1 hi1 hs1 => ?_
  refine wpAny_pure ?_
  refine wpAny_bind (wpAny_bind (wpAny_holding ?_))
  show wpAny _ _ (Builtin.SmallTypes.nextOrEnd (.ref i2)) _ _ _
  refine nextOrEnd_item ((h2.extBut hs0.extBut (nea (by omega))).extBut hs1.extBut (nea (by omega))) ((hl2.extBut hs0.extBut (nea (by omega))).extBut hs1.extBut (nea (by omega))) hx2 fun g2 hi2 hs2 => ?_
  refine wpAny_pure (wpAny_pure ?_)
  refine wpAny_bind (wpAny_newTuple ?_ (by show (2 : Nat) ≤ sizeLine; decide))
  have hsz : g2.objs.size = s.heap.objs.size := by rw [hs2.1, hs1.1, hs0.1]
  have keep : ∀ c o, c ≠ z → c ≠ i1 → c ≠ i2 → s.heap.get? c = some o → g2.get? c = some o := fun c o c1 c2 c3 q => (hs2.extBut _ _ c3 (hs1.extBut _ _ c2 (hs0.extBut _ _ c1 q)))
  have hz5 : IsZipH g2 z TI TO T true := (hs2.extBut _ _ (nea (by omega)) (hs1.extBut _ _ (nea (by omega)) hz0))
  have hj1 : g2.IsListIter i1 l1 (k1 + 1) := (hi1.extBut hs2.extBut (nea (by omega)))
  have hj2 : g2.IsListIter i2 l2 (k2 + 1) := hi2
  refine wpAny_pure ⟨_, rfl, ?_⟩
  show Q (.ref g2.objs.size) _
  rw [hsz]
  refine hQ _ (Heap.get?_push_of_some _ hz5) (hj1.at fun o e => Heap.get?_push_of_some _ e) (hj2.at fun o e => Heap.get?_push_of_some _ e) ?_ (by rw [Heap.size_push, hsz]) fun c o c1 c2 c3 e => Heap.get?_push_of_some _ (keep c o c1 c2 c3 e)
  rw [← hsz]
  exact Heap.get?_push_size _ rfl
theorem zipH2_end {i1 i2 TI TO z T l1 l2 : Nat} {b : Bool} {oT : Obj} {k1 k2 : Nat} {xs ys : Array Value} {Q : Fin → Shared → Prop} (hh : A.handled = none) (ap : i1 < i2 ∧ i2 < TI ∧ TI < TO ∧ TO < z) (b1 : (@Ne Nat l1 i1) ∧ (@Ne Nat l1 i2) ∧ (@Ne Nat l1 TI) ∧ (@Ne Nat l1 TO) ∧ (@Ne Nat l1 z)) (b2 : (@Ne Nat l2 i1) ∧ (@Ne Nat l2 i2) ∧ (@Ne Nat l2 TI) ∧ (@Ne Nat l2 TO) ∧ (@Ne Nat l2 z))
    (hz : IsZipH s.heap z TI TO T b) (hT : s.heap.get? T = some oT) (hTI : IsPair s.heap TI (.ref i1) (.ref i2))
    (h1 : s.heap.IsListIter i1 l1 k1) (h2 : s.heap.IsListIter i2 l2 k2) (hl1 : s.heap.IsList l1 xs) (hl2 : s.heap.IsList l2 ys)
    (hx1 : xs[k1]? = none) (hx2 : ys[k2]? = none)
    (hE : ∀ h' e, (∀ c o, c ≠ z → c ≠ i1 → c ≠ i2 → s.heap.get? c = some o → h'.get? c = some o) → (∃ o, h'.get? e = some o ∧ o.cls = .type "StopIteration") → E (.ref e) { s with heap := h' }) :
    wpAny (model prog w) A (Builtin.«zip.__next__» ⟨[.ref z], []⟩) Q E s := by
  show wpAny _ _ (field (.ref z) 2 >>= _) _ _ _
  refine wpAny_bind (wpAny_field hz rfl (x := .bool true) rfl ?_)
  show wpAny _ _ (field (.ref z) 3 >>= _) _ _ _
  refine wpAny_bind (wpAny_field hz rfl (x := .ref TI) rfl ?_)
  refine wpAny_bind (wpAny_seqItems hTI rfl ?_)
  show wpAny _ _ (Builtin.SmallTypes.ownedTupleIsFree (.ref z) >>= _) _ _ _
  refine wpAny_bind (notFree hz hT fun g0 hz0 hs0 => ?_)
  simp only [Bool.false_eq_true, if_false]
  refine wpAny_bind ?_
  simp only [List.forIn_toArray, List.forIn_cons, List.forIn_nil]
  refine wpAny_bind (wpAny_bind (wpAny_holding ?_))
  show wpAny _ _ (Builtin.SmallTypes.nextOrEnd (.ref i1)) _ _ _
  refine nextOrEnd_end hh (h1.extBut hs0.extBut (nea (by omega))) (hl1.extBut hs0.extBut (nea (by omega))) hx1 fun gE hsE => ?_
  refine wpAny_bind ?_
  show wpAny _ _ (forIn [((Value.ref i2, 1) : Value × Nat)] PUnit.unit _ >>= fun _ => _) _ _ _
  refine wpAny_bind ?_
  simp only [List.forIn_cons, List.forIn_nil]
  refine wpAny_bind (wpAny_bind (nextOrEnd_end hh ((h2.extBut hs0.extBut (nea (by omega))).extBut hsE (nea (by omega))) ((hl2.extBut hs0.extBut (nea (by omega))).extBut hsE (nea (by omega))) hx2 fun gG1 hsG1 => ?_))
  simp only [Option.isSome_none, Bool.false_eq_true, if_false]
  refine wpAny_pure ?_
  refine wpAny_pure (wpAny_bind (wpAny_rule ?_))
  refine stopIter hh fun h5 e hk he => ?_
  exact hE _ _ (fun c o c1 c2 c3 q => hk c o (hsG1 _ _ c3 (hsE _ _ c2 (hs0.extBut _ _ c1 q)))) he
theorem zipH2_short1 {i1 i2 TI TO z T l1 l2 : Nat} {b : Bool} {oT : Obj} {k1 k2 : Nat} {xs ys : Array Value} {x : Value} {Q : Fin → Shared → Prop} (hh : A.handled = none) (ap : i1 < i2 ∧ i2 < TI ∧ TI < TO ∧ TO < z) (b1 : (@Ne Nat l1 i1) ∧ (@Ne Nat l1 i2) ∧ (@Ne Nat l1 TI) ∧ (@Ne Nat l1 TO) ∧ (@Ne Nat l1 z)) (b2 : (@Ne Nat l2 i1) ∧ (@Ne Nat l2 i2) ∧ (@Ne Nat l2 TI) ∧ (@Ne Nat l2 TO) ∧ (@Ne Nat l2 z))
    (hz : IsZipH s.heap z TI TO T b) (hT : s.heap.get? T = some oT) (hTI : IsPair s.heap TI (.ref i1) (.ref i2))
    (h1 : s.heap.IsListIter i1 l1 k1) (h2 : s.heap.IsListIter i2 l2 k2) (hl1 : s.heap.IsList l1 xs) (hl2 : s.heap.IsList l2 ys)
    (hx1 : xs[k1]? = some x) (hx2 : ys[k2]? = none)
    (hE : ∀ h' h'' e tk, (∀ c o, c ≠ z → c ≠ i1 → c ≠ i2 → s.heap.get? c = some o → h'.get? c = some o) → Heap.NewExc h' h'' e "ValueError" → E (.ref e) { s with heap := h'', toks := tk }) :
    wpAny (model prog w) A (Builtin.«zip.__next__» ⟨[.ref z], []⟩) Q E s := by
  show wpAny _ _ (field (.ref z) 2 >>= _) _ _ _
  refine wpAny_bind (wpAny_field hz rfl (x := .bool true) rfl ?_)
  show wpAny _ _ (field (.ref z) 3 >>= _) _ _ _
  refine wpAny_bind (wpAny_field hz rfl (x := .ref TI) rfl ?_)
  refine wpAny_bind (wpAny_seqItems hTI rfl ?_)
  show wpAny _ _ (Builtin.SmallTypes.ownedTupleIsFree (.ref z) >>= _) _ _ _
  refine wpAny_bind (notFree hz hT fun g0 hz0 hs0 => ?_)
  simp only [Bool.false_eq_true, if_false]
  refine wpAny_bind ?_
  simp only [List.forIn_toArray, List.forIn_cons, List.forIn_nil]
  refine wpAny_bind (wpAny_bind (wpAny_holding ?_))
  show wpAny _ _ (Builtin.SmallTypes.nextOrEnd (.ref i1)) _ _ _
  refine nextOrEnd_item (h1.extBut hs0.extBut (nea (by omega))) (hl1.extBut hs0.extBut (nea (by omega))) hx1 fun g1 hi1 hs1 => ?_
  refine wpAny_pure ?_
  refine wpAny_bind (wpAny_bind (wpAny_holding ?_))
  show wpAny _ _ (Builtin.SmallTypes.nextOrEnd (.ref i2)) _ _ _
  refine nextOrEnd_end hh ((h2.extBut hs0.extBut (nea (by omega))).extBut hs1.extBut (nea (by omega))) ((hl2.extBut hs0.extBut (nea (by omega))).extBut hs1.extBut (nea (by omega))) hx2 fun gE hsE => ?_
  refine wpAny_bind ?_
  show wpAny _ _ (rule "zip.__next__.shorter" >>= fun _ => (raiseErrorMade "ValueError" _ : Sem PUnit) >>= fun _ => _) _ _ _
  refine wpAny_bind (wpAny_rule (wpAny_bind ?_))
  refine wpAny_raiseErrorMade plainExc_ValueError hh (fun h' tk e hx => ?_) (by generalize hq : Array.size (α := Value) _ = n9; obtain rfl : n9 = 1 := (by rw [← hq]; rfl); decide +kernel)
  exact hE _ _ e tk (fun c o c1 c2 c3 q => (hsE _ _ c3 (hs1.extBut _ _ c2 (hs0.extBut _ _ c1 q)))) hx
theorem zipH3_item {i1 i2 i3 TI TO z T l1 l2 l3 : Nat} {b : Bool} {oT : Obj} {k1 k2 k3 : Nat} {xs ys us : Array Value} {x y u : Value} {Q : Value → Shared → Prop} (ap : i1 < i2 ∧ i2 < i3 ∧ i3 < TI ∧ TI < TO ∧ TO < z) (b1 : (@Ne Nat l1 i1) ∧ (@Ne Nat l1 i2) ∧ (@Ne Nat l1 i3) ∧ (@Ne Nat l1 TI) ∧ (@Ne Nat l1 TO) ∧ (@Ne Nat l1 z)) (b2 : (@Ne Nat l2 i1) ∧ (@Ne Nat l2 i2) ∧ (@Ne Nat l2 i3) ∧ (@Ne Nat l2 TI) ∧ (@Ne Nat l2 TO) ∧ (@Ne Nat l2 z)) (b3 : (@Ne Nat l3 i1) ∧ (@Ne Nat l3 i2) ∧ (@Ne Nat l3 i3) ∧ (@Ne Nat l3 TI) ∧ (@Ne Nat l3 TO) ∧ (@Ne Nat l3 z))
    (hz : IsZipH s.heap z TI TO T b) (hT : s.heap.get? T = some oT) (hTI : IsTrip s.heap TI (.ref i1) (.ref i2) (.ref i3))
    (h1 : s.heap.IsListIter i1 l1 k1) (h2 : s.heap.IsListIter i2 l2 k2) (h3 : s.heap.IsListIter i3 l3 k3) (hl1 : s.heap.IsList l1 xs) (hl2 : s.heap.IsList l2 ys) (hl3 : s.heap.IsList l3 us)
    (hx1 : xs[k1]? = some x) (hx2 : ys[k2]? = some y) (hx3 : us[k3]? = some u)
    (hQ : ∀ h', IsZipH h' z TI TO T true → h'.IsListIter i1 l1 (k1 + 1) → h'.IsListIter i2 l2 (k2 + 1) → h'.IsListIter i3 l3 (k3 + 1) → IsTrip h' s.heap.objs.size x y u → h'.objs.size = s.heap.objs.size + 1 → (∀ c o, c ≠ z → c ≠ i1 → c ≠ i2 → c ≠ i3 → s.heap.get? c = some o → h'.get? c = some o) → Q (.ref s.heap.objs.size) { s with heap := h' }) :
    wpAny (model prog w) A (Builtin.«zip.__next__» ⟨[.ref z], []⟩) (fun fin s' => ∃ v, fin = .done (.ret v) ∧ Q v s') E s := by
  show wpAny _ _ (field (.ref z) 2 >>= _) _ _ _
  refine wpAny_bind (wpAny_field hz rfl (x := .bool true) rfl ?_)
  show wpAny _ _ (field (.ref z) 3 >>= _) _ _ _
  refine wpAny_bind (wpAny_field hz rfl (x := .ref TI) rfl ?_)
  refine wpAny_bind (wpAny_seqItems hTI rfl ?_)
  show wpAny _ _ (Builtin.SmallTypes.ownedTupleIsFree (.ref z) >>= _) _ _ _
  refine wpAny_bind (notFree hz hT fun g0 hz0 hs0 => ?_)
  simp only [Bool.false_eq_true, if_false]
  refine wpAny_bind ?_
  simp only [List.forIn_toArray, List.forIn_cons, List.forIn_nil]
  refine wpAny_bind (wpAny_bind (wpAny_holding ?_))
  show wpAny _ _ (Builtin.SmallTypes.nextOrEnd (.ref i1)) _ _ _
  refine nextOrEnd_item (h1.extBut hs0.extBut (nea (by omega))) (hl1.extBut hs0.extBut (nea (by omega))) hx1 fun g1 hi1 hs1 => ?_
  refine wpAny_pure ?_
  refine wpAny_bind (wpAny_bind (wpAny_holding ?_))
  show wpAny _ _ (Builtin.SmallTypes.nextOrEnd (.ref i2)) _ _ _
  refine nextOrEnd_item ((h2.extBut hs0.extBut (nea (by omega))).extBut hs1.extBut (nea (by omega))) ((hl2.extBut hs0.extBut (nea (by omega))).extBut hs1.extBut (nea (by omega))) hx2 fun g2 hi2 hs2 => ?_
  refine wpAny_pure ?_
  refine wpAny_bind (wpAny_bind (wpAny_holding ?_))
  show wpAny _ _ (Builtin.SmallTypes.nextOrEnd (.ref i3)) _ _ _
  refine nextOrEnd_item (((h3.extBut hs0.extBut (nea (by omega))).extBut hs1.extBut (nea (by omega))).extBut hs2.extBut (nea (by omega))) (((hl3.extBut hs0.extBut (nea (by omega))).extBut hs1.extBut (nea (by omega))).extBut hs2.extBut (nea (by omega))) hx3 fun g3 hi3 hs3 => ?_
  refine wpAny_pure (wpAny_pure ?_)
  refine wpAny_bind (wpAny_newTuple ?_ (by show (3 : Nat) ≤ sizeLine; decide))
  have hsz : g3.objs.size = s.heap.objs.size := by rw [hs3.1, hs2.1, hs1.1, hs0.1]
  have keep : ∀ c o, c ≠ z → c ≠ i1 → c ≠ i2 → c ≠ i3 → s.heap.get? c = some o → g3.get? c = some o := fun c o c1 c2 c3 c4 q => (hs3.extBut _ _ c4 (hs2.extBut _ _ c3 (hs1.extBut _ _ c2 (hs0.extBut _ _ c1 q))))
  have hz5 : IsZipH g3 z TI TO T true := (hs3.extBut _ _ (nea (by omega)) (hs2.extBut _ _ (nea (by omega)) (hs1.extBut _ _ (nea (by omega)) hz0)))
  have hj1 : g3.IsListIter i1 l1 (k1 + 1) := ((hi1.extBut hs2.extBut (nea (by omega))).extBut hs3.extBut (nea (by omega)))
  have hj2 : g3.IsListIter i2 l2 (k2 + 1) := (hi2.extBut hs3.extBut (nea (by omega)))
  have hj3 : g3.IsListIter i3 l3 (k3 + 1) := hi3
  refine wpAny_pure ⟨_, rfl, ?_⟩
  show Q (.ref g3.objs.size) _
  rw [hsz]
  refine hQ _ (Heap.get?_push_of_some _ hz5) (hj1.at fun o e => Heap.get?_push_of_some _ e) (hj2.at fun o e => Heap.get?_push_of_some _ e) (hj3.at fun o e => Heap.get?_push_of_some _ e) ?_ (by rw [Heap.size_push, hsz]) fun c o c1 c2 c3 c4 e => Heap.get?_push_of_some _ (keep c o c1 c2 c3 c4 e)
  rw [← hsz]
  exact Heap.get?_push_size _ rfl
theorem zipH3_end {i1 i2 i3 TI TO z T l1 l2 l3 : Nat} {b : Bool} {oT : Obj} {k1 k2 k3 : Nat} {xs ys us : Array Value} {Q : Fin → Shared → Prop} (hh : A.handled = none) (ap : i1 < i2 ∧ i2 < i3 ∧ i3 < TI ∧ TI < TO ∧ TO < z) (b1 : (@Ne Nat l1 i1) ∧ (@Ne Nat l1 i2) ∧ (@Ne Nat l1 i3) ∧ (@Ne Nat l1 TI) ∧ (@Ne Nat l1 TO) ∧ (@Ne Nat l1 z)) (b2 : (@Ne Nat l2 i1) ∧ (@Ne Nat l2 i2) ∧ (@Ne Nat l2 i3) ∧ (@Ne Nat l2 TI) ∧ (@Ne Nat l2 TO) ∧ (@Ne Nat l2 z)) (b3 : (@Ne Nat l3 i1) ∧ (@Ne Nat l3 i2) ∧ (@Ne Nat l3 i3) ∧ (@Ne Nat l3 TI) ∧ (@Ne Nat l3 TO) ∧ (@Ne Nat l3 z))
    (hz : IsZipH s.heap z TI TO T b) (hT : s.heap.get? T = some oT) (hTI : IsTrip s.heap TI (.ref i1) (.ref i2) (.ref i3))
    (h1 : s.heap.IsListIter i1 l1 k1) (h2 : s.heap.IsListIter i2 l2 k2) (h3 : s.heap.IsListIter i3 l3 k3) (hl1 : s.heap.IsList l1 xs) (hl2 : s.heap.IsList l2 ys) (hl3 : s.heap.IsList l3 us)
    (hx1 : xs[k1]? = none) (hx2 : ys[k2]? = none) (hx3 : us[k3]? = none)
    (hE : ∀ h' e, (∀ c o, c ≠ z → c ≠ i1 → c ≠ i2 → c ≠ i3 → s.heap.get? c = some o → h'.get? c = some o) → (∃ o, h'.get? e = some o ∧ o.cls = .type "StopIteration") → E (.ref e) { s with heap := h' }) :
    wpAny (model prog w) A (Builtin.«zip.__next__» ⟨[.ref z], []⟩) Q E s := by
  show wpAny _ _ (field (.ref z) 2 >>= _) _ _ _
  refine wpAny_bind (wpAny_field hz rfl (x := .bool true) rfl ?_)
  show wpAny _ _ (field (.ref z) 3 >>= _) _ _ _
  refine wpAny_bind (wpAny_field hz rfl (x := .ref TI) rfl ?_)
  refine wpAny_bind (wpAny_seqItems hTI rfl ?_)
  show wpAny _ _ (Builtin.SmallTypes.ownedTupleIsFree (.ref z) >>= _) _ _ _
  refine wpAny_bind (notFree hz hT fun g0 hz0 hs0 => ?_)
  simp only [Bool.false_eq_true, if_false]
  refine wpAny_bind ?_
  simp only [List.forIn_toArray, List.forIn_cons, List.forIn_nil]
  refine wpAny_bind (wpAny_bind (wpAny_holding ?_))
  show wpAny _ _ (Builtin.SmallTypes.nextOrEnd (.ref i1)) _ _ _
  refine nextOrEnd_end hh (h1.extBut hs0.extBut (nea (by omega))) (hl1.extBut hs0.extBut (nea (by omega))) hx1 fun gE hsE => ?_
  refine wpAny_bind ?_
  show wpAny _ _ (forIn [((Value.ref i2, 1) : Value × Nat), ((Value.ref i3, 2) : Value × Nat)] PUnit.unit _ >>= fun _ => _) _ _ _
  refine wpAny_bind ?_
  simp only [List.forIn_cons, List.forIn_nil]
  refine wpAny_bind (wpAny_bind (nextOrEnd_end hh ((h2.extBut hs0.extBut (nea (by omega))).extBut hsE (nea (by omega))) ((hl2.extBut hs0.extBut (nea (by omega))).extBut hsE (nea (by omega))) hx2 fun gG1 hsG1 => ?_))
  simp only [Option.isSome_none, Bool.false_eq_true, if_false]
  refine wpAny_pure ?_
  refine wpAny_bind (wpAny_bind (nextOrEnd_end hh (((h3.extBut hs0.extBut (nea (by omega))).extBut hsE (nea (by omega))).extBut hsG1 (nea (by omega))) (((hl3.extBut hs0.extBut (nea (by omega))).extBut hsE (nea (by omega))).extBut hsG1 (nea (by omega))) hx3 fun gG2 hsG2 => ?_))
  simp only [Option.isSome_none, Bool.false_eq_true, if_false]
  refine wpAny_pure ?_
  refine wpAny_pure (wpAny_bind (wpAny_rule ?_))
  refine stopIter hh fun h5 e hk he => ?_
  exact hE _ _ (fun c o c1 c2 c3 c4 q => hk c o (hsG2 _ _ c4 (hsG1 _ _ c3 (hsE _ _ c2 (hs0.extBut _ _ c1 q))))) he
theorem zipH3_short2 {i1 i2 i3 TI TO z T l1 l2 l3 : Nat} {b : Bool} {oT : Obj} {k1 k2 k3 : Nat} {xs ys us : Array Value} {x y : Value} {Q : Fin → Shared → Prop} (hh : A.handled = none) (ap : i1 < i2 ∧ i2 < i3 ∧ i3 < TI ∧ TI < TO ∧ TO < z) (b1 : (@Ne Nat l1 i1) ∧ (@Ne Nat l1 i2) ∧ (@Ne Nat l1 i3) ∧ (@Ne Nat l1 TI) ∧ (@Ne Nat l1 TO) ∧ (@Ne Nat l1 z)) (b2 : (@Ne Nat l2 i1) ∧ (@Ne Nat l2 i2) ∧ (@Ne Nat l2 i3) ∧ (@Ne Nat l2 TI) ∧ (@Ne Nat l2 TO) ∧ (@Ne Nat l2 z)) (b3 : (@Ne Nat l3 i1) ∧ (@Ne Nat l3 i2) ∧ (@Ne Nat l3 i3) ∧ (@Ne Nat l3 TI) ∧ (@Ne Nat l3 TO) ∧ (@Ne Nat l3 z))
    (hz : IsZipH s.heap z TI TO T b) (hT : s.heap.get? T = some oT) (hTI : IsTrip s.heap TI (.ref i1) (.ref i2) (.ref i3))
    (h1 : s.heap.IsListIter i1 l1 k1) (h2 : s.heap.IsListIter i2 l2 k2) (h3 : s.heap.IsListIter i3 l3 k3) (hl1 : s.heap.IsList l1 xs) (hl2 : s.heap.IsList l2 ys) (hl3 : s.heap.IsList l3 us)
    (hx1 : xs[k1]? = some x) (hx2 : ys[k2]? = some y) (hx3 : us[k3]? = none)
    (hE : ∀ h' h'' e tk, (∀ c o, c ≠ z → c ≠ i1 → c ≠ i2 → c ≠ i3 → s.heap.get? c = some o → h'.get? c = some o) → Heap.NewExc h' h'' e "ValueError" → E (.ref e) { s with heap := h'', toks := tk }) :
    wpAny (model prog w) A (Builtin.«zip.__next__» ⟨[.ref z], []⟩) Q E s := by
  show wpAny _ _ (field (.ref z) 2 >>= _) _ _ _
  refine wpAny_bind (wpAny_field hz rfl (x := .bool true) rfl ?_)
  show wpAny _ _ (field (.ref z) 3 >>= _) _ _ _
  refine wpAny_bind (wpAny_field hz rfl (x := .ref TI) rfl ?_)
  refine wpAny_bind (wpAny_seqItems hTI rfl ?_)
  show wpAny _ _ (Builtin.SmallTypes.ownedTupleIsFree (.ref z) >>= _) _ _ _
  refine wpAny_bind (notFree hz hT fun g0 hz0 hs0 => ?_)
  simp only [Bool.false_eq_true, if_false]
  refine wpAny_bind ?_
  simp only [List.forIn_toArray, List.forIn_cons, List.forIn_nil]
  refine wpAny_bind (wpAny_bind (wpAny_holding ?_))
  show wpAny _ _ (Builtin.SmallTypes.nextOrEnd (.ref i1)) _ _ _
  refine nextOrEnd_item (h1.extBut hs0.extBut (nea (by omega))) (hl1.extBut hs0.extBut (nea (by omega))) hx1 fun g1 hi1 hs1 => ?_
  refine wpAny_pure ?_
  refine wpAny_bind (wpAny_bind (wpAny_holding ?_))
  show wpAny _ _ (Builtin.SmallTypes.nextOrEnd (.ref i2)) _ _ _
  refine nextOrEnd_item ((h2.extBut hs0.extBut (nea (by omega))).extBut hs1.extBut (nea (by omega))) ((hl2.extBut hs0.extBut (nea (by omega))).extBut hs1.extBut (nea (by omega))) hx2 fun g2 hi2 hs2 => ?_
  refine wpAny_pure ?_
  refine wpAny_bind (wpAny_bind (wpAny_holding ?_))
  show wpAny _ _ (Builtin.SmallTypes.nextOrEnd (.ref i3)) _ _ _
  refine nextOrEnd_end hh (((h3.extBut hs0.extBut (nea (by omega))).extBut hs1.extBut (nea (by omega))).extBut hs2.extBut (nea (by omega))) (((hl3.extBut hs0.extBut (nea (by omega))).extBut hs1.extBut (nea (by omega))).extBut hs2.extBut (nea (by omega))) hx3 fun gE hsE => ?_
  refine wpAny_bind ?_
  show wpAny _ _ (rule "zip.__next__.shorter" >>= fun _ => (raiseErrorMade "ValueError" _ : Sem PUnit) >>= fun _ => _) _ _ _
  refine wpAny_bind (wpAny_rule (wpAny_bind ?_))
  refine wpAny_raiseErrorMade plainExc_ValueError hh (fun h' tk e hx => ?_) (by generalize hq : Array.size (α := Value) _ = n9; obtain rfl : n9 = 2 := (by rw [← hq]; rfl); decide +kernel)
  exact hE _ _ e tk (fun c o c1 c2 c3 c4 q => (hsE _ _ c4 (hs2.extBut _ _ c3 (hs1.extBut _ _ c2 (hs0.extBut _ _ c1 q))))) hx
end
end Mine
end
-- Z3
section
open PySem PySem.W PyProof.Rows PySem.Spec PySem.Calls PyProof.V
set_option linter.unusedVariables false
namespace Mine
structure ZSrc (prog : Program) (w : World) (z : Addr) (wr off : List Addr) (n : Nat) (tup : Nat → List Value) (bad : Bool) (St : Nat → Heap → Prop) : Prop where
  wrOff : ∀ b ∈ wr, b ∉ off
  frame : ∀ i h h', St i h → (∀ b o, b ∉ off → h.get? b = some o → h'.get? b = some o) → St i h'
  item : ∀ (A : Around) i (s : Shared) (Q : Option Value → Shared → Prop) (E : Value → Shared → Prop), i < n → St i s.heap → (∀ b ∈ off, b < s.heap.objs.size) →
    (∀ h', St (i + 1) h' → h'.get? s.heap.objs.size = some { cls := .type "tuple", data := .seq (tup i).toArray } → h'.objs.size = s.heap.objs.size + 1 → (∀ b o, b ∉ wr → s.heap.get? b = some o → h'.get? b = some o) → Q (some (.ref s.heap.objs.size)) { s with heap := h' }) →
    wpAny (model prog w) A (pyNext (.ref z)) Q E s
  go : ∀ (A : Around) (elts : List PySem.Expr) (k : Nat) (pos : Pos) i T (s : Shared) (Q : Unit → Shared → Prop) (E : Value → Shared → Prop), St i s.heap →
    (∀ h', St i h' → h'.objs.size = s.heap.objs.size → (∀ b o, b ∉ wr → s.heap.get? b = some o → h'.get? b = some o) → Q () { s with heap := h' }) →
    wpAny (model prog w) A (letOwnedTupleGo (.Tuple elts k pos) (.ref z) (.ref T)) Q E s
  stop : ∀ (A : Around) (s : Shared) (Q : Option Value → Shared → Prop) (E : Value → Shared → Prop), A.handled = none → bad = false → St n s.heap →
    (∀ h', (∀ b o, b ∉ wr → s.heap.get? b = some o → h'.get? b = some o) → Q none { s with heap := h' }) → wpAny (model prog w) A (pyNext (.ref z)) Q E s
  fail : ∀ (A : Around) (s : Shared) (Q : Option Value → Shared → Prop) (E : Value → Shared → Prop), A.handled = none → bad = true → St n s.heap →
    (∀ h' h'' e tk, (∀ b o, b ∉ wr → s.heap.get? b = some o → h'.get? b = some o) → Heap.NewExc h' h'' e "ValueError" → E (.ref e) { s with heap := h'', toks := tk }) → wpAny (model prog w) A (pyNext (.ref z)) Q E s
  self : ∀ (A : Around) i (s : Shared) (Q : Value → Shared → Prop) (E : Value → Shared → Prop), St i s.heap → Q (.ref z) s → wpAny (model prog w) A (pyIter (.ref z)) Q E s
  ty : ∀ i (s : Shared), St i s.heap → s.TypeIs (.ref z) "zip"
section
variable {prog : Program} {w : World} {A : Around} {E : Value → Shared → Prop} {s : Shared}
theorem nin_nil {x : Nat} : x ∉ ([] : List Nat) := List.not_mem_nil
theorem nin_cons {x a : Nat} {l : List Nat} (h : x ≠ a) (h' : x ∉ l) : x ∉ a :: l := fun q => by
  rcases List.mem_cons.mp q with q | q
  · exact h q
  · exact h' q
theorem getD_at {xs : List Value} {j : Nat} (q : j < xs.length) : xs.toArray[j]? = some (xs.getD j .none) := by
  rw [List.getElem?_toArray, List.getElem?_eq_getElem q, List.getD_eq_getElem?_getD, List.getElem?_eq_getElem q]; rfl
theorem isSub_ValueError_Stop : isSubtype (.type "ValueError") (.type "StopIteration") = pure false := by rw [isSubtype_type]; kernel_rfl
theorem zip_pyNext_ok {z : Addr} {Q : Option Value → Shared → Prop} (hT : s.TypeIs (.ref z) "zip")
    (h : ∀ A E, wpAny (model prog w) A (Builtin.«zip.__next__» ⟨[.ref z], []⟩) (fun fin s' => ∃ v, fin = .done (.ret v) ∧ Q (some v) s') E s) : wpAny (model prog w) A (pyNext (.ref z)) Q E s := by
  unfold pyNext
  exact wpAny_bind (wpAny_attempt (wpAny_callSpecial?_slot (name := Str.ofString "__next__") hT PySem.F.slot_zip_next
    (wpAny_call_entry PySem.F.slot_zip_next hT PySem.F.entry_zip_next (wpAny_mono (h _ _) (fun fin s' h' => by
      obtain ⟨v, rfl, hq⟩ := h'
      exact ⟨v, rfl, wpAny_pure hq⟩) fun _ _ e => e) (PySem.F.args_zip_next_1 _))))
theorem zip_pyNext_end {z : Addr} {Q : Option Value → Shared → Prop} (hA : A.handled = none) (hT : s.TypeIs (.ref z) "zip") (R : Heap → Prop)
    (h : ∀ (A : Around) Q E, A.handled = none → (∀ h' e, R h' → (∃ o, h'.get? e = some o ∧ o.cls = .type "StopIteration") → E (.ref e) { s with heap := h' }) → wpAny (model prog w) A (Builtin.«zip.__next__» ⟨[.ref z], []⟩) Q E s)
    (hQ : ∀ h', R h' → Q none { s with heap := h' }) : wpAny (model prog w) A (pyNext (.ref z)) Q E s := by
  unfold pyNext
  refine wpAny_bind (wpAny_attempt (wpAny_callSpecial?_slot (name := Str.ofString "__next__") hT PySem.F.slot_zip_next
    (wpAny_call_entry PySem.F.slot_zip_next hT PySem.F.entry_zip_next (h _ _ _ hA fun h' e hR he => ?_) (PySem.F.args_zip_next_1 _))))
  obtain ⟨o, ho, hc⟩ := he
  refine wpAny_bind (wpAny_isInstance (T := "StopIteration") (b := true) ⟨o, ho, hc⟩ isSubtype_stop ?_)
  exact wpAny_pure (hQ _ hR)
theorem zip_pyNext_fail {z : Addr} {Q : Option Value → Shared → Prop} (hA : A.handled = none) (hT : s.TypeIs (.ref z) "zip") (R : Heap → Prop)
    (h : ∀ (A : Around) Q E, A.handled = none → (∀ h' h'' e tk, R h' → Heap.NewExc h' h'' e "ValueError" → E (.ref e) { s with heap := h'', toks := tk }) → wpAny (model prog w) A (Builtin.«zip.__next__» ⟨[.ref z], []⟩) Q E s)
    (hE : ∀ h' h'' e tk, R h' → Heap.NewExc h' h'' e "ValueError" → E (.ref e) { s with heap := h'', toks := tk }) : wpAny (model prog w) A (pyNext (.ref z)) Q E s := by
  unfold pyNext
  refine wpAny_bind (wpAny_attempt (wpAny_callSpecial?_slot (name := Str.ofString "__next__") hT PySem.F.slot_zip_next
    (wpAny_call_entry PySem.F.slot_zip_next hT PySem.F.entry_zip_next (h _ _ _ hA fun h' h'' e tk hR hx => ?_) (PySem.F.args_zip_next_1 _))))
  obtain ⟨o, t, ho, hc, _⟩ := id hx.there
  refine wpAny_bind (wpAny_isInstance (T := "ValueError") (b := false) ⟨o, ho, hc⟩ isSub_ValueError_Stop ?_)
  exact wpAny_throw (hE _ _ _ _ hR hx)
theorem zip_pyIter {z : Addr} {Q : Value → Shared → Prop} (hT : s.TypeIs (.ref z) "zip") (h : Q (.ref z) s) : wpAny (model prog w) A (pyIter (.ref z)) Q E s := by
  refine wpAny_pyIter_slot hT PySem.F.slot_zip_iter (wpAny_call_entry PySem.F.slot_zip_iter hT PySem.F.entry_zip_iter ?_ (PySem.F.args_zip_iter_1 _))
  show wpAny _ _ (ret (.ref z)) _ _ s
  exact wpAny_pure ⟨_, rfl, "zip", _, hT, PySem.F.slot_zip_next.lookup, h⟩
end
def ZSt2 (z TI TO i1 i2 l1 l2 : Nat) (xs ys : List Value) (off : List Addr) (k : Nat) (h : Heap) : Prop :=
  ((∃ bf, IsZipS h z TI TO .none bf) ∨ ∃ T b o, IsZipH h z TI TO T b ∧ h.get? T = some o ∧ T ∉ off ∧ T ∉ ([z, TO, i1, i2] : List Addr)) ∧ IsPair h TI (.ref i1) (.ref i2) ∧ (∃ a c, IsPair h TO a c) ∧ h.IsListIter i1 l1 k ∧ h.IsListIter i2 l2 k ∧ h.IsList l1 xs.toArray ∧ h.IsList l2 ys.toArray
theorem ZSt2.frame {z TI TO i1 i2 l1 l2 : Nat} {xs ys : List Value} {off : List Addr} (oi1 : i1 ∉ off) (oi2 : i2 ∉ off) (oTI : TI ∉ off) (oTO : TO ∉ off) (oz : z ∉ off) (ol1 : l1 ∉ off) (ol2 : l2 ∉ off) (i : Nat) (h h' : Heap) (S : ZSt2 z TI TO i1 i2 l1 l2 xs ys off i h) (hk : ∀ b o, b ∉ off → h.get? b = some o → h'.get? b = some o) : ZSt2 z TI TO i1 i2 l1 l2 xs ys off i h' := by
  obtain ⟨hf, hTI, ⟨a, c, hTO⟩, h1, h2, hl1, hl2⟩ := S
  refine ⟨?_, hk _ _ oTI hTI, ⟨a, c, hk _ _ oTO hTO⟩, h1.at fun o e => hk _ o oi1 e, h2.at fun o e => hk _ o oi2 e, hl1.at fun o e => hk _ o ol1 e, hl2.at fun o e => hk _ o ol2 e⟩
  rcases hf with ⟨bf, hz⟩ | ⟨T, b, o, hz, hT, h1, h2⟩
  · exact .inl ⟨bf, hk _ _ oz hz⟩
  · exact .inr ⟨T, b, o, hk _ _ oz hz, hk _ _ h1 hT, h1, h2⟩
theorem ZSt2.good (prog : Program) (w : World) {z TI TO i1 i2 l1 l2 : Nat} {xs ys : List Value} {off : List Addr} (ap : i1 < i2 ∧ i2 < TI ∧ TI < TO ∧ TO < z) (b1 : (@Ne Nat l1 i1) ∧ (@Ne Nat l1 i2) ∧ (@Ne Nat l1 TI) ∧ (@Ne Nat l1 TO) ∧ (@Ne Nat l1 z)) (b2 : (@Ne Nat l2 i1) ∧ (@Ne Nat l2 i2) ∧ (@Ne Nat l2 TI) ∧ (@Ne Nat l2 TO) ∧ (@Ne Nat l2 z)) (oi1 : i1 ∉ off) (oi2 : i2 ∉ off) (oTI : TI ∉ off) (oTO : TO ∉ off) (oz : z ∉ off) (ol1 : l1 ∉ off) (ol2 : l2 ∉ off) (n : Nat) (hn1 : xs.length = n) (hn2 : ys.length = n) : ZSrc prog w z [z, TO, i1, i2] off n (fun i => [xs.getD i .none, ys.getD i .none]) false (ZSt2 z TI TO i1 i2 l1 l2 xs ys off) where
  wrOff := fun b hb => by
    simp only [List.mem_cons, List.not_mem_nil, or_false] at hb
    rcases hb with rfl | rfl | rfl | rfl <;> assumption
  frame := fun i h h' S hk => ZSt2.frame oi1 oi2 oTI oTO oz ol1 ol2 i h h' S hk
  ty := fun i s S => by
    obtain ⟨hf, _⟩ := S
    rcases hf with ⟨bf, hz⟩ | ⟨T, b, o, hz, _⟩
    · exact ⟨_, hz, rfl⟩
    · exact ⟨_, hz, rfl⟩
  self := fun A i s Q E S hQ => by
    obtain ⟨hf, _⟩ := S
    rcases hf with ⟨bf, hz⟩ | ⟨T, b, o, hz, _⟩
    · exact zip_pyIter ⟨_, hz, rfl⟩ hQ
    · exact zip_pyIter ⟨_, hz, rfl⟩ hQ
  item := fun A j s Q E hj S hoff hQ => by
    obtain ⟨hf, hTI, ⟨a, c, hTO⟩, h1, h2, hl1, hl2⟩ := S
    have ll : ∀ b o, s.heap.get? b = some o → b ≠ s.heap.objs.size := fun b o e => Nat.ne_of_lt (Heap.lt_size e)
    have szoff : s.heap.objs.size ∉ off := fun q => Nat.lt_irrefl _ (hoff _ q)
    rcases hf with ⟨bf, hz⟩ | ⟨T, b, o, hz, hT, h1', h2'⟩
    · refine zip_pyNext_ok ⟨_, hz, rfl⟩ fun A E => zipS2_item ap b1 b2 hz hTI hTO h1 h2 hl1 hl2 (getD_at (xs := xs) (j := j) (by omega)) (getD_at (xs := ys) (j := j) (by omega)) fun h' hz' hTO' hi1 hi2 hT' hsz hk => ?_
      have hk' : ∀ b o, b ∉ ([z, TO, i1, i2] : List Addr) → s.heap.get? b = some o → h'.get? b = some o := fun b o hb e => hk b o (fun q => hb (by simp [q])) (fun q => hb (by simp [q])) (fun q => hb (by simp [q])) (fun q => hb (by simp [q])) e
      refine hQ h' ⟨.inr ⟨_, _, _, hz', hT', szoff, fun q => ?_⟩, hk' _ _ (nin_cons (nea (by omega)) (nin_cons (nea (by omega)) (nin_cons (nea (by omega)) (nin_cons (nea (by omega)) nin_nil)))) hTI, ⟨_, _, hTO'⟩, hi1, hi2, hl1.at fun o e => hk' _ o (nin_cons (nea (by omega)) (nin_cons (nea (by omega)) (nin_cons (nea (by omega)) (nin_cons (nea (by omega)) nin_nil)))) e, hl2.at fun o e => hk' _ o (nin_cons (nea (by omega)) (nin_cons (nea (by omega)) (nin_cons (nea (by omega)) (nin_cons (nea (by omega)) nin_nil)))) e⟩ hT' hsz hk'
      simp only [List.mem_cons, List.not_mem_nil, or_false] at q
      rcases q with q | q | q | q
      · exact ll _ _ hz q.symm
      · exact ll _ _ hTO q.symm
      · obtain ⟨_, e, _⟩ := h1; exact ll _ _ e q.symm
      · obtain ⟨_, e, _⟩ := h2; exact ll _ _ e q.symm
    · refine zip_pyNext_ok ⟨_, hz, rfl⟩ fun A E => zipH2_item ap b1 b2 hz hT hTI h1 h2 hl1 hl2 (getD_at (xs := xs) (j := j) (by omega)) (getD_at (xs := ys) (j := j) (by omega)) fun h' hz' hi1 hi2 hT' hsz hk => ?_
      have hk' : ∀ b o, b ∉ ([z, TO, i1, i2] : List Addr) → s.heap.get? b = some o → h'.get? b = some o := fun b o hb e => hk b o (fun q => hb (by simp [q])) (fun q => hb (by simp [q])) (fun q => hb (by simp [q])) e
      refine hQ h' ⟨.inr ⟨T, _, o, hz', hk' _ _ h2' hT, h1', h2'⟩, hk' _ _ (nin_cons (nea (by omega)) (nin_cons (nea (by omega)) (nin_cons (nea (by omega)) (nin_cons (nea (by omega)) nin_nil)))) hTI, ?_, hi1, hi2, hl1.at fun o e => hk' _ o (nin_cons (nea (by omega)) (nin_cons (nea (by omega)) (nin_cons (nea (by omega)) (nin_cons (nea (by omega)) nin_nil)))) e, hl2.at fun o e => hk' _ o (nin_cons (nea (by omega)) (nin_cons (nea (by omega)) (nin_cons (nea (by omega)) (nin_cons (nea (by omega)) nin_nil)))) e⟩ hT' hsz hk'
      exact ⟨a, c, hk _ _ (nea (by omega)) (nea (by omega)) (nea (by omega)) hTO⟩
  go := fun A elts k pos i T s Q E S hQ => by
    obtain ⟨hf, hTI, ⟨a, c, hTO⟩, h1, h2, hl1, hl2⟩ := S
    have key : ∀ (vs : Array Value) (f0 : Value), s.heap.get? z = some { cls := .type "zip", dict := none, data := .fields vs, slots := #[] } → vs[0]? = some f0 → 
        (f0 ≠ rawInt T → Q () s) → (∀ h', h'.get? z = some { cls := .type "zip", dict := none, data := .fields (vs.setIfInBounds 0 .none), slots := #[] } → Heap.SameBut z s.heap h' → Q () { s with heap := h' }) →
        wpAny (model prog w) A (letOwnedTupleGo (.Tuple elts k pos) (.ref z) (.ref T)) Q E s := fun vs f0 hz h0 hn hy => by
      unfold letOwnedTupleGo
      refine wpAny_bind (wpAny_load hz ?_)
      show wpAny _ _ (if (["enumerate", "zip", "dict_itemiterator", "dict_reverseitemiterator", "odict_iterator", "itertools.zip_longest", "itertools.pairwise"].contains "zip" && vs[0]? == some (rawInt T)) = true then _ else _) Q E s
      rw [h0]
      by_cases q : f0 = rawInt T
      · subst q
        rw [if_pos (by simp)]
        refine wpAny_bind (wpAny_rule ?_)
        show wpAny _ _ (setField (.ref z) 0 .none) Q E s
        exact wpAny_setField_rec hz (by rcases vs with ⟨_ | _⟩; cases h0; simp) fun h' hz' hs' => hy h' hz' hs'
      · rw [if_neg (by simp [q])]
        exact wpAny_pure (hn q)
    rcases hf with ⟨bf, hz⟩ | ⟨T', b, o, hz, hT, h1', h2'⟩
    · refine key _ _ hz rfl (fun _ => hQ s.heap ⟨.inl ⟨_, hz⟩, hTI, ⟨a, c, hTO⟩, h1, h2, hl1, hl2⟩ rfl fun _ _ _ e => e) fun h' hz' hs' => ?_
      refine hQ h' ⟨.inl ⟨_, hz'⟩, hs'.extBut _ _ (nea (by omega)) hTI, ⟨a, c, hs'.extBut _ _ (nea (by omega)) hTO⟩, h1.extBut hs'.extBut (nea (by omega)), h2.extBut hs'.extBut (nea (by omega)), hl1.extBut hs'.extBut (nea (by omega)), hl2.extBut hs'.extBut (nea (by omega))⟩ hs'.1 fun b o hb e => hs'.extBut _ _ (fun q => hb (by simp [q])) e
    · refine key _ _ hz rfl (fun _ => hQ s.heap ⟨.inr ⟨T', b, o, hz, hT, h1', h2'⟩, hTI, ⟨a, c, hTO⟩, h1, h2, hl1, hl2⟩ rfl fun _ _ _ e => e) fun h' hz' hs' => ?_
      exact hQ h' ⟨.inl ⟨_, hz'⟩, hs'.extBut _ _ (nea (by omega)) hTI, ⟨a, c, hs'.extBut _ _ (nea (by omega)) hTO⟩, h1.extBut hs'.extBut (nea (by omega)), h2.extBut hs'.extBut (nea (by omega)), hl1.extBut hs'.extBut (nea (by omega)), hl2.extBut hs'.extBut (nea (by omega))⟩ hs'.1 fun b o hb e => hs'.extBut _ _ (fun q => hb (by simp [q])) e
  stop := fun A s Q E hh hb S hQ => by
    obtain ⟨hf, hTI, ⟨a, c, hTO⟩, h1, h2, hl1, hl2⟩ := S
    rcases hf with ⟨bf, hz⟩ | ⟨T, b, o, hz, hT, h1', h2'⟩
    · exact zip_pyNext_end hh ⟨_, hz, rfl⟩ (fun h' => ∀ b o, b ∉ ([z, TO, i1, i2] : List Addr) → s.heap.get? b = some o → h'.get? b = some o) (fun A Q E hh k => zipS2_end hh ap b1 b2 hz hTI hTO h1 h2 hl1 hl2 (by rw [List.getElem?_toArray]; exact List.getElem?_eq_none (by omega)) (by rw [List.getElem?_toArray]; exact List.getElem?_eq_none (by omega)) fun h' e hk he => k h' e (fun b o hb e => hk b o (fun q => hb (by simp [q])) (fun q => hb (by simp [q])) (fun q => hb (by simp [q])) (fun q => hb (by simp [q])) e) he) hQ
    · exact zip_pyNext_end hh ⟨_, hz, rfl⟩ (fun h' => ∀ b o, b ∉ ([z, TO, i1, i2] : List Addr) → s.heap.get? b = some o → h'.get? b = some o) (fun A Q E hh k => zipH2_end hh ap b1 b2 hz hT hTI h1 h2 hl1 hl2 (by rw [List.getElem?_toArray]; exact List.getElem?_eq_none (by omega)) (by rw [List.getElem?_toArray]; exact List.getElem?_eq_none (by omega)) fun h' e hk he => k h' e (fun b o hb e => hk b o (fun q => hb (by simp [q])) (fun q => hb (by simp [q])) (fun q => hb (by simp [q])) e) he) hQ
  fail := fun A s Q E hh hb => nomatch hb
theorem ZSt2.bad (prog : Program) (w : World) {z TI TO i1 i2 l1 l2 : Nat} {xs ys : List Value} {off : List Addr} (ap : i1 < i2 ∧ i2 < TI ∧ TI < TO ∧ TO < z) (b1 : (@Ne Nat l1 i1) ∧ (@Ne Nat l1 i2) ∧ (@Ne Nat l1 TI) ∧ (@Ne Nat l1 TO) ∧ (@Ne Nat l1 z)) (b2 : (@Ne Nat l2 i1) ∧ (@Ne Nat l2 i2) ∧ (@Ne Nat l2 TI) ∧ (@Ne Nat l2 TO) ∧ (@Ne Nat l2 z)) (oi1 : i1 ∉ off) (oi2 : i2 ∉ off) (oTI : TI ∉ off) (oTO : TO ∉ off) (oz : z ∉ off) (ol1 : l1 ∉ off) (ol2 : l2 ∉ off) (n : Nat) (hn1 : n < xs.length) (hn2 : ys.length = n) : ZSrc prog w z [z, TO, i1, i2] off n (fun i => [xs.getD i .none, ys.getD i .none]) true (ZSt2 z TI TO i1 i2 l1 l2 xs ys off) where
  wrOff := fun b hb => by
    simp only [List.mem_cons, List.not_mem_nil, or_false] at hb
    rcases hb with rfl | rfl | rfl | rfl <;> assumption
  frame := fun i h h' S hk => ZSt2.frame oi1 oi2 oTI oTO oz ol1 ol2 i h h' S hk
  ty := fun i s S => by
    obtain ⟨hf, _⟩ := S
    rcases hf with ⟨bf, hz⟩ | ⟨T, b, o, hz, _⟩
    · exact ⟨_, hz, rfl⟩
    · exact ⟨_, hz, rfl⟩
  self := fun A i s Q E S hQ => by
    obtain ⟨hf, _⟩ := S
    rcases hf with ⟨bf, hz⟩ | ⟨T, b, o, hz, _⟩
    · exact zip_pyIter ⟨_, hz, rfl⟩ hQ
    · exact zip_pyIter ⟨_, hz, rfl⟩ hQ
  item := fun A j s Q E hj S hoff hQ => by
    obtain ⟨hf, hTI, ⟨a, c, hTO⟩, h1, h2, hl1, hl2⟩ := S
    have ll : ∀ b o, s.heap.get? b = some o → b ≠ s.heap.objs.size := fun b o e => Nat.ne_of_lt (Heap.lt_size e)
    have szoff : s.heap.objs.size ∉ off := fun q => Nat.lt_irrefl _ (hoff _ q)
    rcases hf with ⟨bf, hz⟩ | ⟨T, b, o, hz, hT, h1', h2'⟩
    · refine zip_pyNext_ok ⟨_, hz, rfl⟩ fun A E => zipS2_item ap b1 b2 hz hTI hTO h1 h2 hl1 hl2 (getD_at (xs := xs) (j := j) (by omega)) (getD_at (xs := ys) (j := j) (by omega)) fun h' hz' hTO' hi1 hi2 hT' hsz hk => ?_
      have hk' : ∀ b o, b ∉ ([z, TO, i1, i2] : List Addr) → s.heap.get? b = some o → h'.get? b = some o := fun b o hb e => hk b o (fun q => hb (by simp [q])) (fun q => hb (by simp [q])) (fun q => hb (by simp [q])) (fun q => hb (by simp [q])) e
      refine hQ h' ⟨.inr ⟨_, _, _, hz', hT', szoff, fun q => ?_⟩, hk' _ _ (nin_cons (nea (by omega)) (nin_cons (nea (by omega)) (nin_cons (nea (by omega)) (nin_cons (nea (by omega)) nin_nil)))) hTI, ⟨_, _, hTO'⟩, hi1, hi2, hl1.at fun o e => hk' _ o (nin_cons (nea (by omega)) (nin_cons (nea (by omega)) (nin_cons (nea (by omega)) (nin_cons (nea (by omega)) nin_nil)))) e, hl2.at fun o e => hk' _ o (nin_cons (nea (by omega)) (nin_cons (nea (by omega)) (nin_cons (nea (by omega)) (nin_cons (nea (by omega)) nin_nil)))) e⟩ hT' hsz hk'
      simp only [List.mem_cons, List.not_mem_nil, or_false] at q
      rcases q with q | q | q | q
      · exact ll _ _ hz q.symm
      · exact ll _ _ hTO q.symm
      · obtain ⟨_, e, _⟩ := h1; exact ll _ _ e q.symm
      · obtain ⟨_, e, _⟩ := h2; exact ll _ _ e q.symm
    · refine zip_pyNext_ok ⟨_, hz, rfl⟩ fun A E => zipH2_item ap b1 b2 hz hT hTI h1 h2 hl1 hl2 (getD_at (xs := xs) (j := j) (by omega)) (getD_at (xs := ys) (j := j) (by omega)) fun h' hz' hi1 hi2 hT' hsz hk => ?_
      have hk' : ∀ b o, b ∉ ([z, TO, i1, i2] : List Addr) → s.heap.get? b = some o → h'.get? b = some o := fun b o hb e => hk b o (fun q => hb (by simp [q])) (fun q => hb (by simp [q])) (fun q => hb (by simp [q])) e
      refine hQ h' ⟨.inr ⟨T, _, o, hz', hk' _ _ h2' hT, h1', h2'⟩, hk' _ _ (nin_cons (nea (by omega)) (nin_cons (nea (by omega)) (nin_cons (nea (by omega)) (nin_cons (nea (by omega)) nin_nil)))) hTI, ?_, hi1, hi2, hl1.at fun o e => hk' _ o (nin_cons (nea (by omega)) (nin_cons (nea (by omega)) (nin_cons (nea (by omega)) (nin_cons (nea (by omega)) nin_nil)))) e, hl2.at fun o e => hk' _ o (nin_cons (nea (by omega)) (nin_cons (nea (by omega)) (nin_cons (nea (by omega)) (nin_cons (nea (by omega)) nin_nil)))) e⟩ hT' hsz hk'
      exact ⟨a, c, hk _ _ (nea (by omega)) (nea (by omega)) (nea (by omega)) hTO⟩
  go := fun A elts k pos i T s Q E S hQ => by
    obtain ⟨hf, hTI, ⟨a, c, hTO⟩, h1, h2, hl1, hl2⟩ := S
    have key : ∀ (vs : Array Value) (f0 : Value), s.heap.get? z = some { cls := .type "zip", dict := none, data := .fields vs, slots := #[] } → vs[0]? = some f0 → 
        (f0 ≠ rawInt T → Q () s) → (∀ h', h'.get? z = some { cls := .type "zip", dict := none, data := .fields (vs.setIfInBounds 0 .none), slots := #[] } → Heap.SameBut z s.heap h' → Q () { s with heap := h' }) →
        wpAny (model prog w) A (letOwnedTupleGo (.Tuple elts k pos) (.ref z) (.ref T)) Q E s := fun vs f0 hz h0 hn hy => by
      unfold letOwnedTupleGo
      refine wpAny_bind (wpAny_load hz ?_)
      show wpAny _ _ (if (["enumerate", "zip", "dict_itemiterator", "dict_reverseitemiterator", "odict_iterator", "itertools.zip_longest", "itertools.pairwise"].contains "zip" && vs[0]? == some (rawInt T)) = true then _ else _) Q E s
      rw [h0]
      by_cases q : f0 = rawInt T
      · subst q
        rw [if_pos (by simp)]
        refine wpAny_bind (wpAny_rule ?_)
        show wpAny _ _ (setField (.ref z) 0 .none) Q E s
        exact wpAny_setField_rec hz (by rcases vs with ⟨_ | _⟩; cases h0; simp) fun h' hz' hs' => hy h' hz' hs'
      · rw [if_neg (by simp [q])]
        exact wpAny_pure (hn q)
    rcases hf with ⟨bf, hz⟩ | ⟨T', b, o, hz, hT, h1', h2'⟩
    · refine key _ _ hz rfl (fun _ => hQ s.heap ⟨.inl ⟨_, hz⟩, hTI, ⟨a, c, hTO⟩, h1, h2, hl1, hl2⟩ rfl fun _ _ _ e => e) fun h' hz' hs' => ?_
      refine hQ h' ⟨.inl ⟨_, hz'⟩, hs'.extBut _ _ (nea (by omega)) hTI, ⟨a, c, hs'.extBut _ _ (nea (by omega)) hTO⟩, h1.extBut hs'.extBut (nea (by omega)), h2.extBut hs'.extBut (nea (by omega)), hl1.extBut hs'.extBut (nea (by omega)), hl2.extBut hs'.extBut (nea (by omega))⟩ hs'.1 fun b o hb e => hs'.extBut _ _ (fun q => hb (by simp [q])) e
    · refine key _ _ hz rfl (fun _ => hQ s.heap ⟨.inr ⟨T', b, o, hz, hT, h1', h2'⟩, hTI, ⟨a, c, hTO⟩, h1, h2, hl1, hl2⟩ rfl fun _ _ _ e => e) fun h' hz' hs' => ?_
      exact hQ h' ⟨.inl ⟨_, hz'⟩, hs'.extBut _ _ (nea (by omega)) hTI, ⟨a, c, hs'.extBut _ _ (nea (by omega)) hTO⟩, h1.extBut hs'.extBut (nea (by omega)), h2.extBut hs'.extBut (nea (by omega)), hl1.extBut hs'.extBut (nea (by omega)), hl2.extBut hs'.extBut (nea (by omega))⟩ hs'.1 fun b o hb e => hs'.extBut _ _ (fun q => hb (by simp [q])) e
  stop := fun A s Q E hh hb S hQ => by
    nomatch hb
  fail := fun A s Q E hh hb S hQ => by
    obtain ⟨hf, hTI, ⟨a, c, hTO⟩, h1, h2, hl1, hl2⟩ := S
    rcases hf with ⟨bf, hz⟩ | ⟨T, b, o, hz, hT, h1', h2'⟩
    · exact zip_pyNext_fail hh ⟨_, hz, rfl⟩ (fun h' => ∀ b o, b ∉ ([z, TO, i1, i2] : List Addr) → s.heap.get? b = some o → h'.get? b = some o) (fun A Q E hh k => zipS2_short1 hh ap b1 b2 hz hTI hTO h1 h2 hl1 hl2 (getD_at (xs := xs) (j := n) hn1) (by rw [List.getElem?_toArray]; exact List.getElem?_eq_none (by omega)) fun h' h'' e tk hk he => k h' h'' e tk (fun b o hb e => hk b o (fun q => hb (by simp [q])) (fun q => hb (by simp [q])) (fun q => hb (by simp [q])) (fun q => hb (by simp [q])) e) he) hQ
    · exact zip_pyNext_fail hh ⟨_, hz, rfl⟩ (fun h' => ∀ b o, b ∉ ([z, TO, i1, i2] : List Addr) → s.heap.get? b = some o → h'.get? b = some o) (fun A Q E hh k => zipH2_short1 hh ap b1 b2 hz hT hTI h1 h2 hl1 hl2 (getD_at (xs := xs) (j := n) hn1) (by rw [List.getElem?_toArray]; exact List.getElem?_eq_none (by omega)) fun h' h'' e tk hk he => k h' h'' e tk (fun b o hb e => hk b o (fun q => hb (by simp [q])) (fun q => hb (by simp [q])) (fun q => hb (by simp [q])) e) he) hQ
def ZSt3 (z TI TO i1 i2 i3 l1 l2 l3 : Nat) (xs ys us : List Value) (off : List Addr) (k : Nat) (h : Heap) : Prop :=
  ((∃ bf, IsZipS h z TI TO .none bf) ∨ ∃ T b o, IsZipH h z TI TO T b ∧ h.get? T = some o ∧ T ∉ off ∧ T ∉ ([z, TO, i1, i2, i3] : List Addr)) ∧ IsTrip h TI (.ref i1) (.ref i2) (.ref i3) ∧ (∃ a c d, IsTrip h TO a c d) ∧ h.IsListIter i1 l1 k ∧ h.IsListIter i2 l2 k ∧ h.IsListIter i3 l3 k ∧ h.IsList l1 xs.toArray ∧ h.IsList l2 ys.toArray ∧ h.IsList l3 us.toArray
theorem ZSt3.frame {z TI TO i1 i2 i3 l1 l2 l3 : Nat} {xs ys us : List Value} {off : List Addr} (oi1 : i1 ∉ off) (oi2 : i2 ∉ off) (oi3 : i3 ∉ off) (oTI : TI ∉ off) (oTO : TO ∉ off) (oz : z ∉ off) (ol1 : l1 ∉ off) (ol2 : l2 ∉ off) (ol3 : l3 ∉ off) (i : Nat) (h h' : Heap) (S : ZSt3 z TI TO i1 i2 i3 l1 l2 l3 xs ys us off i h) (hk : ∀ b o, b ∉ off → h.get? b = some o → h'.get? b = some o) : ZSt3 z TI TO i1 i2 i3 l1 l2 l3 xs ys us off i h' := by
  obtain ⟨hf, hTI, ⟨a, c, d, hTO⟩, h1, h2, h3, hl1, hl2, hl3⟩ := S
  refine ⟨?_, hk _ _ oTI hTI, ⟨a, c, d, hk _ _ oTO hTO⟩, h1.at fun o e => hk _ o oi1 e, h2.at fun o e => hk _ o oi2 e, h3.at fun o e => hk _ o oi3 e, hl1.at fun o e => hk _ o ol1 e, hl2.at fun o e => hk _ o ol2 e, hl3.at fun o e => hk _ o ol3 e⟩
  rcases hf with ⟨bf, hz⟩ | ⟨T, b, o, hz, hT, h1, h2⟩
  · exact .inl ⟨bf, hk _ _ oz hz⟩
  · exact .inr ⟨T, b, o, hk _ _ oz hz, hk _ _ h1 hT, h1, h2⟩
theorem ZSt3.good (prog : Program) (w : World) {z TI TO i1 i2 i3 l1 l2 l3 : Nat} {xs ys us : List Value} {off : List Addr} (ap : i1 < i2 ∧ i2 < i3 ∧ i3 < TI ∧ TI < TO ∧ TO < z) (b1 : (@Ne Nat l1 i1) ∧ (@Ne Nat l1 i2) ∧ (@Ne Nat l1 i3) ∧ (@Ne Nat l1 TI) ∧ (@Ne Nat l1 TO) ∧ (@Ne Nat l1 z)) (b2 : (@Ne Nat l2 i1) ∧ (@Ne Nat l2 i2) ∧ (@Ne Nat l2 i3) ∧ (@Ne Nat l2 TI) ∧ (@Ne Nat l2 TO) ∧ (@Ne Nat l2 z)) (b3 : (@Ne Nat l3 i1) ∧ (@Ne Nat l3 i2) ∧ (@Ne Nat l3 i3) ∧ (@Ne Nat l3 TI) ∧ (@Ne Nat l3 TO) ∧ (@Ne Nat l3 z)) (oi1 : i1 ∉ off) (oi2 : i2 ∉ off) (oi3 : i3 ∉ off) (oTI : TI ∉ off) (oTO : TO ∉ off) (oz : z ∉ off) (ol1 : l1 ∉ off) (ol2 : l2 ∉ off) (ol3 : l3 ∉ off) (n : Nat) (hn1 : xs.length = n) (hn2 : ys.length = n) (hn3 : us.length = n) : ZSrc prog w z [z, TO, i1, i2, i3] off n (fun i => [xs.getD i .none, ys.getD i .none, us.getD i .none]) false (ZSt3 z TI TO i1 i2 i3 l1 l2 l3 xs ys us off) where
  wrOff := fun b hb => by
    simp only [List.mem_cons, List.not_mem_nil, or_false] at hb
    rcases hb with rfl | rfl | rfl | rfl | rfl <;> assumption
  frame := fun i h h' S hk => ZSt3.frame oi1 oi2 oi3 oTI oTO oz ol1 ol2 ol3 i h h' S hk
  ty := fun i s S => by
    obtain ⟨hf, _⟩ := S
    rcases hf with ⟨bf, hz⟩ | ⟨T, b, o, hz, _⟩
    · exact ⟨_, hz, rfl⟩
    · exact ⟨_, hz, rfl⟩
  self := fun A i s Q E S hQ => by
    obtain ⟨hf, _⟩ := S
    rcases hf with ⟨bf, hz⟩ | ⟨T, b, o, hz, _⟩
    · exact zip_pyIter ⟨_, hz, rfl⟩ hQ
    · exact zip_pyIter ⟨_, hz, rfl⟩ hQ
  item := fun A j s Q E hj S hoff hQ => by
    obtain ⟨hf, hTI, ⟨a, c, d, hTO⟩, h1, h2, h3, hl1, hl2, hl3⟩ := S
    have ll : ∀ b o, s.heap.get? b = some o → b ≠ s.heap.objs.size := fun b o e => Nat.ne_of_lt (Heap.lt_size e)
    have szoff : s.heap.objs.size ∉ off := fun q => Nat.lt_irrefl _ (hoff _ q)
    rcases hf with ⟨bf, hz⟩ | ⟨T, b, o, hz, hT, h1', h2'⟩
    · refine zip_pyNext_ok ⟨_, hz, rfl⟩ fun A E => zipS3_item ap b1 b2 b3 hz hTI hTO h1 h2 h3 hl1 hl2 hl3 (getD_at (xs := xs) (j := j) (by omega)) (getD_at (xs := ys) (j := j) (by omega)) (getD_at (xs := us) (j := j) (by omega)) fun h' hz' hTO' hi1 hi2 hi3 hT' hsz hk => ?_
      have hk' : ∀ b o, b ∉ ([z, TO, i1, i2, i3] : List Addr) → s.heap.get? b = some o → h'.get? b = some o := fun b o hb e => hk b o (fun q => hb (by simp [q])) (fun q => hb (by simp [q])) (fun q => hb (by simp [q])) (fun q => hb (by simp [q])) (fun q => hb (by simp [q])) e
      refine hQ h' ⟨.inr ⟨_, _, _, hz', hT', szoff, fun q => ?_⟩, hk' _ _ (nin_cons (nea (by omega)) (nin_cons (nea (by omega)) (nin_cons (nea (by omega)) (nin_cons (nea (by omega)) (nin_cons (nea (by omega)) nin_nil))))) hTI, ⟨_, _, _, hTO'⟩, hi1, hi2, hi3, hl1.at fun o e => hk' _ o (nin_cons (nea (by omega)) (nin_cons (nea (by omega)) (nin_cons (nea (by omega)) (nin_cons (nea (by omega)) (nin_cons (nea (by omega)) nin_nil))))) e, hl2.at fun o e => hk' _ o (nin_cons (nea (by omega)) (nin_cons (nea (by omega)) (nin_cons (nea (by omega)) (nin_cons (nea (by omega)) (nin_cons (nea (by omega)) nin_nil))))) e, hl3.at fun o e => hk' _ o (nin_cons (nea (by omega)) (nin_cons (nea (by omega)) (nin_cons (nea (by omega)) (nin_cons (nea (by omega)) (nin_cons (nea (by omega)) nin_nil))))) e⟩ hT' hsz hk'
      simp only [List.mem_cons, List.not_mem_nil, or_false] at q
      rcases q with q | q | q | q | q
      · exact ll _ _ hz q.symm
      · exact ll _ _ hTO q.symm
      · obtain ⟨_, e, _⟩ := h1; exact ll _ _ e q.symm
      · obtain ⟨_, e, _⟩ := h2; exact ll _ _ e q.symm
      · obtain ⟨_, e, _⟩ := h3; exact ll _ _ e q.symm
    · refine zip_pyNext_ok ⟨_, hz, rfl⟩ fun A E => zipH3_item ap b1 b2 b3 hz hT hTI h1 h2 h3 hl1 hl2 hl3 (getD_at (xs := xs) (j := j) (by omega)) (getD_at (xs := ys) (j := j) (by omega)) (getD_at (xs := us) (j := j) (by omega)) fun h' hz' hi1 hi2 hi3 hT' hsz hk => ?_
      have hk' : ∀ b o, b ∉ ([z, TO, i1, i2, i3] : List Addr) → s.heap.get? b = some o → h'.get? b = some o := fun b o hb e => hk b o (fun q => hb (by simp [q])) (fun q => hb (by simp [q])) (fun q => hb (by simp [q])) (fun q => hb (by simp [q])) e
      refine hQ h' ⟨.inr ⟨T, _, o, hz', hk' _ _ h2' hT, h1', h2'⟩, hk' _ _ (nin_cons (nea (by omega)) (nin_cons (nea (by omega)) (nin_cons (nea (by omega)) (nin_cons (nea (by omega)) (nin_cons (nea (by omega)) nin_nil))))) hTI, ?_, hi1, hi2, hi3, hl1.at fun o e => hk' _ o (nin_cons (nea (by omega)) (nin_cons (nea (by omega)) (nin_cons (nea (by omega)) (nin_cons (nea (by omega)) (nin_cons (nea (by omega)) nin_nil))))) e, hl2.at fun o e => hk' _ o (nin_cons (nea (by omega)) (nin_cons (nea (by omega)) (nin_cons (nea (by omega)) (nin_cons (nea (by omega)) (nin_cons (nea (by omega)) nin_nil))))) e, hl3.at fun o e => hk' _ o (nin_cons (nea (by omega)) (nin_cons (nea (by omega)) (nin_cons (nea (by omega)) (nin_cons (nea (by omega)) (nin_cons (nea (by omega)) nin_nil))))) e⟩ hT' hsz hk'
      exact ⟨a, c, d, hk _ _ (nea (by omega)) (nea (by omega)) (nea (by omega)) (nea (by omega)) hTO⟩
  go := fun A elts k pos i T s Q E S hQ => by
    obtain ⟨hf, hTI, ⟨a, c, d, hTO⟩, h1, h2, h3, hl1, hl2, hl3⟩ := S
    have key : ∀ (vs : Array Value) (f0 : Value), s.heap.get? z = some { cls := .type "zip", dict := none, data := .fields vs, slots := #[] } → vs[0]? = some f0 → 
        (f0 ≠ rawInt T → Q () s) → (∀ h', h'.get? z = some { cls := .type "zip", dict := none, data := .fields (vs.setIfInBounds 0 .none), slots := #[] } → Heap.SameBut z s.heap h' → Q () { s with heap := h' }) →
        wpAny (model prog w) A (letOwnedTupleGo (.Tuple elts k pos) (.ref z) (.ref T)) Q E s := fun vs f0 hz h0 hn hy => by
      unfold letOwnedTupleGo
      refine wpAny_bind (wpAny_load hz ?_)
      show wpAny _ _ (if (["enumerate", "zip", "dict_itemiterator", "dict_reverseitemiterator", "odict_iterator", "itertools.zip_longest", "itertools.pairwise"].contains "zip" && vs[0]? == some (rawInt T)) = true then _ else _) Q E s
      rw [h0]
      by_cases q : f0 = rawInt T
      · subst q
        rw [if_pos (by simp)]
        refine wpAny_bind (wpAny_rule ?_)
        show wpAny _ _ (setField (.ref z) 0 .none) Q E s
        exact wpAny_setField_rec hz (by rcases vs with ⟨_ | _⟩; cases h0; simp) fun h' hz' hs' => hy h' hz' hs'
      · rw [if_neg (by simp [q])]
        exact wpAny_pure (hn q)
    rcases hf with ⟨bf, hz⟩ | ⟨T', b, o, hz, hT, h1', h2'⟩
    · refine key _ _ hz rfl (fun _ => hQ s.heap ⟨.inl ⟨_, hz⟩, hTI, ⟨a, c, d, hTO⟩, h1, h2, h3, hl1, hl2, hl3⟩ rfl fun _ _ _ e => e) fun h' hz' hs' => ?_
      refine hQ h' ⟨.inl ⟨_, hz'⟩, hs'.extBut _ _ (nea (by omega)) hTI, ⟨a, c, d, hs'.extBut _ _ (nea (by omega)) hTO⟩, h1.extBut hs'.extBut (nea (by omega)), h2.extBut hs'.extBut (nea (by omega)), h3.extBut hs'.extBut (nea (by omega)), hl1.extBut hs'.extBut (nea (by omega)), hl2.extBut hs'.extBut (nea (by omega)), hl3.extBut hs'.extBut (nea (by omega))⟩ hs'.1 fun b o hb e => hs'.extBut _ _ (fun q => hb (by simp [q])) e
    · refine key _ _ hz rfl (fun _ => hQ s.heap ⟨.inr ⟨T', b, o, hz, hT, h1', h2'⟩, hTI, ⟨a, c, d, hTO⟩, h1, h2, h3, hl1, hl2, hl3⟩ rfl fun _ _ _ e => e) fun h' hz' hs' => ?_
      exact hQ h' ⟨.inl ⟨_, hz'⟩, hs'.extBut _ _ (nea (by omega)) hTI, ⟨a, c, d, hs'.extBut _ _ (nea (by omega)) hTO⟩, h1.extBut hs'.extBut (nea (by omega)), h2.extBut hs'.extBut (nea (by omega)), h3.extBut hs'.extBut (nea (by omega)), hl1.extBut hs'.extBut (nea (by omega)), hl2.extBut hs'.extBut (nea (by omega)), hl3.extBut hs'.extBut (nea (by omega))⟩ hs'.1 fun b o hb e => hs'.extBut _ _ (fun q => hb (by simp [q])) e
  stop := fun A s Q E hh hb S hQ => by
    obtain ⟨hf, hTI, ⟨a, c, d, hTO⟩, h1, h2, h3, hl1, hl2, hl3⟩ := S
    rcases hf with ⟨bf, hz⟩ | ⟨T, b, o, hz, hT, h1', h2'⟩
    · exact zip_pyNext_end hh ⟨_, hz, rfl⟩ (fun h' => ∀ b o, b ∉ ([z, TO, i1, i2, i3] : List Addr) → s.heap.get? b = some o → h'.get? b = some o) (fun A Q E hh k => zipS3_end hh ap b1 b2 b3 hz hTI hTO h1 h2 h3 hl1 hl2 hl3 (by rw [List.getElem?_toArray]; exact List.getElem?_eq_none (by omega)) (by rw [List.getElem?_toArray]; exact List.getElem?_eq_none (by omega)) (by rw [List.getElem?_toArray]; exact List.getElem?_eq_none (by omega)) fun h' e hk he => k h' e (fun b o hb e => hk b o (fun q => hb (by simp [q])) (fun q => hb (by simp [q])) (fun q => hb (by simp [q])) (fun q => hb (by simp [q])) (fun q => hb (by simp [q])) e) he) hQ
    · exact zip_pyNext_end hh ⟨_, hz, rfl⟩ (fun h' => ∀ b o, b ∉ ([z, TO, i1, i2, i3] : List Addr) → s.heap.get? b = some o → h'.get? b = some o) (fun A Q E hh k => zipH3_end hh ap b1 b2 b3 hz hT hTI h1 h2 h3 hl1 hl2 hl3 (by rw [List.getElem?_toArray]; exact List.getElem?_eq_none (by omega)) (by rw [List.getElem?_toArray]; exact List.getElem?_eq_none (by omega)) (by rw [List.getElem?_toArray]; exact List.getElem?_eq_none (by omega)) fun h' e hk he => k h' e (fun b o hb e => hk b o (fun q => hb (by simp [q])) (fun q => hb (by simp [q])) (fun q => hb (by simp [q])) (fun q => hb (by simp [q])) e) he) hQ
  fail := fun A s Q E hh hb => nomatch hb
theorem ZSt3.bad (prog : Program) (w : World) {z TI TO i1 i2 i3 l1 l2 l3 : Nat} {xs ys us : List Value} {off : List Addr} (ap : i1 < i2 ∧ i2 < i3 ∧ i3 < TI ∧ TI < TO ∧ TO < z) (b1 : (@Ne Nat l1 i1) ∧ (@Ne Nat l1 i2) ∧ (@Ne Nat l1 i3) ∧ (@Ne Nat l1 TI) ∧ (@Ne Nat l1 TO) ∧ (@Ne Nat l1 z)) (b2 : (@Ne Nat l2 i1) ∧ (@Ne Nat l2 i2) ∧ (@Ne Nat l2 i3) ∧ (@Ne Nat l2 TI) ∧ (@Ne Nat l2 TO) ∧ (@Ne Nat l2 z)) (b3 : (@Ne Nat l3 i1) ∧ (@Ne Nat l3 i2) ∧ (@Ne Nat l3 i3) ∧ (@Ne Nat l3 TI) ∧ (@Ne Nat l3 TO) ∧ (@Ne Nat l3 z)) (oi1 : i1 ∉ off) (oi2 : i2 ∉ off) (oi3 : i3 ∉ off) (oTI : TI ∉ off) (oTO : TO ∉ off) (oz : z ∉ off) (ol1 : l1 ∉ off) (ol2 : l2 ∉ off) (ol3 : l3 ∉ off) (n : Nat) (hn1 : n < xs.length) (hn2 : n < ys.length) (hn3 : us.length = n) : ZSrc prog w z [z, TO, i1, i2, i3] off n (fun i => [xs.getD i .none, ys.getD i .none, us.getD i .none]) true (ZSt3 z TI TO i1 i2 i3 l1 l2 l3 xs ys us off) where
  wrOff := fun b hb => by
    simp only [List.mem_cons, List.not_mem_nil, or_false] at hb
    rcases hb with rfl | rfl | rfl | rfl | rfl <;> assumption
  frame := fun i h h' S hk => ZSt3.frame oi1 oi2 oi3 oTI oTO oz ol1 ol2 ol3 i h h' S hk
  ty := fun i s S => by
    obtain ⟨hf, _⟩ := S
    rcases hf with ⟨bf, hz⟩ | ⟨T, b, o, hz, _⟩
    · exact ⟨_, hz, rfl⟩
    · exact ⟨_, hz, rfl⟩
  self := fun A i s Q E S hQ => by
    obtain ⟨hf, _⟩ := S
    rcases hf with ⟨bf, hz⟩ | ⟨T, b, o, hz, _⟩
    · exact zip_pyIter ⟨_, hz, rfl⟩ hQ
    · exact zip_pyIter ⟨_, hz, rfl⟩ hQ
  item := fun A j s Q E hj S hoff hQ => by
    obtain ⟨hf, hTI, ⟨a, c, d, hTO⟩, h1, h2, h3, hl1, hl2, hl3⟩ := S
    have ll : ∀ b o, s.heap.get? b = some o → b ≠ s.heap.objs.size := fun b o e => Nat.ne_of_lt (Heap.lt_size e)
    have szoff : s.heap.objs.size ∉ off := fun q => Nat.lt_irrefl _ (hoff _ q)
    rcases hf with ⟨bf, hz⟩ | ⟨T, b, o, hz, hT, h1', h2'⟩
    · refine zip_pyNext_ok ⟨_, hz, rfl⟩ fun A E => zipS3_item ap b1 b2 b3 hz hTI hTO h1 h2 h3 hl1 hl2 hl3 (getD_at (xs := xs) (j := j) (by omega)) (getD_at (xs := ys) (j := j) (by omega)) (getD_at (xs := us) (j := j) (by omega)) fun h' hz' hTO' hi1 hi2 hi3 hT' hsz hk => ?_
      have hk' : ∀ b o, b ∉ ([z, TO, i1, i2, i3] : List Addr) → s.heap.get? b = some o → h'.get? b = some o := fun b o hb e => hk b o (fun q => hb (by simp [q])) (fun q => hb (by simp [q])) (fun q => hb (by simp [q])) (fun q => hb (by simp [q])) (fun q => hb (by simp [q])) e
      refine hQ h' ⟨.inr ⟨_, _, _, hz', hT', szoff, fun q => ?_⟩, hk' _ _ (nin_cons (nea (by omega)) (nin_cons (nea (by omega)) (nin_cons (nea (by omega)) (nin_cons (nea (by omega)) (nin_cons (nea (by omega)) nin_nil))))) hTI, ⟨_, _, _, hTO'⟩, hi1, hi2, hi3, hl1.at fun o e => hk' _ o (nin_cons (nea (by omega)) (nin_cons (nea (by omega)) (nin_cons (nea (by omega)) (nin_cons (nea (by omega)) (nin_cons (nea (by omega)) nin_nil))))) e, hl2.at fun o e => hk' _ o (nin_cons (nea (by omega)) (nin_cons (nea (by omega)) (nin_cons (nea (by omega)) (nin_cons (nea (by omega)) (nin_cons (nea (by omega)) nin_nil))))) e, hl3.at fun o e => hk' _ o (nin_cons (nea (by omega)) (nin_cons (nea (by omega)) (nin_cons (nea (by omega)) (nin_cons (nea (by omega)) (nin_cons (nea (by omega)) nin_nil))))) e⟩ hT' hsz hk'
      simp only [List.mem_cons, List.not_mem_nil, or_false] at q
      rcases q with q | q | q | q | q
      · exact ll _ _ hz q.symm
      · exact ll _ _ hTO q.symm
      · obtain ⟨_, e, _⟩ := h1; exact ll _ _ e q.symm
      · obtain ⟨_, e, _⟩ := h2; exact ll _ _ e q.symm
      · obtain ⟨_, e, _⟩ := h3; exact ll _ _ e q.symm
    · refine zip_pyNext_ok ⟨_, hz, rfl⟩ fun A E => zipH3_item ap b1 b2 b3 hz hT hTI h1 h2 h3 hl1 hl2 hl3 (getD_at (xs := xs) (j := j) (by omega)) (getD_at (xs := ys) (j := j) (by omega)) (getD_at (xs := us) (j := j) (by omega)) fun h' hz' hi1 hi2 hi3 hT' hsz hk => ?_
      have hk' : ∀ b o, b ∉ ([z, TO, i1, i2, i3] : List Addr) → s.heap.get? b = some o → h'.get? b = some o := fun b o hb e => hk b o (fun q => hb (by simp [q])) (fun q => hb (by simp [q])) (fun q => hb (by simp [q])) (fun q => hb (by simp [q])) e
      refine hQ h' ⟨.inr ⟨T, _, o, hz', hk' _ _ h2' hT, h1', h2'⟩, hk' _ _ (nin_cons (nea (by omega)) (nin_cons (nea (by omega)) (nin_cons (nea (by omega)) (nin_cons (nea (by omega)) (nin_cons (nea (by omega)) nin_nil))))) hTI, ?_, hi1, hi2, hi3, hl1.at fun o e => hk' _ o (nin_cons (nea (by omega)) (nin_cons (nea (by omega)) (nin_cons (nea (by omega)) (nin_cons (nea (by omega)) (nin_cons (nea (by omega)) nin_nil))))) e, hl2.at fun o e => hk' _ o (nin_cons (nea (by omega)) (nin_cons (nea (by omega)) (nin_cons (nea (by omega)) (nin_cons (nea (by omega)) (nin_cons (nea (by omega)) nin_nil))))) e, hl3.at fun o e => hk' _ o (nin_cons (nea (by omega)) (nin_cons (nea (by omega)) (nin_cons (nea (by omega)) (nin_cons (nea (by omega)) (nin_cons (nea (by omega)) nin_nil))))) e⟩ hT' hsz hk'
      exact ⟨a, c, d, hk _ _ (nea (by omega)) (nea (by omega)) (nea (by omega)) (nea (by omega)) hTO⟩
  go := fun A elts k pos i T s Q E S hQ => by
    obtain ⟨hf, hTI, ⟨a, c, d, hTO⟩, h1, h2, h3, hl1, hl2, hl3⟩ := S
    have key : ∀ (vs : Array Value) (f0 : Value), s.heap.get? z = some { cls := .type "zip", dict := none, data := .fields vs, slots := #[] } → vs[0]? = some f0 → 
        (f0 ≠ rawInt T → Q () s) → (∀ h', h'.get? z = some { cls := .type "zip", dict := none, data := .fields (vs.setIfInBounds 0 .none), slots := #[] } → Heap.SameBut z s.heap h' → Q () { s with heap := h' }) →
        wpAny (model prog w) A (letOwnedTupleGo (.Tuple elts k pos) (.ref z) (.ref T)) Q E s := fun vs f0 hz h0 hn hy => by
      unfold letOwnedTupleGo
      refine wpAny_bind (wpAny_load hz ?_)
      show wpAny _ _ (if (["enumerate", "zip", "dict_itemiterator", "dict_reverseitemiterator", "odict_iterator", "itertools.zip_longest", "itertools.pairwise"].contains "zip" && vs[0]? == some (rawInt T)) = true then _ else _) Q E s
      rw [h0]
      by_cases q : f0 = rawInt T
      · subst q
        rw [if_pos (by simp)]
        refine wpAny_bind (wpAny_rule ?_)
        show wpAny _ _ (setField (.ref z) 0 .none) Q E s
        exact wpAny_setField_rec hz (by rcases vs with ⟨_ | _⟩; cases h0; simp) fun h' hz' hs' => hy h' hz' hs'
      · rw [if_neg (by simp [q])]
        exact wpAny_pure (hn q)
    rcases hf with ⟨bf, hz⟩ | ⟨T', b, o, hz, hT, h1', h2'⟩
    · refine key _ _ hz rfl (fun _ => hQ s.heap ⟨.inl ⟨_, hz⟩, hTI, ⟨a, c, d, hTO⟩, h1, h2, h3, hl1, hl2, hl3⟩ rfl fun _ _ _ e => e) fun h' hz' hs' => ?_
      refine hQ h' ⟨.inl ⟨_, hz'⟩, hs'.extBut _ _ (nea (by omega)) hTI, ⟨a, c, d, hs'.extBut _ _ (nea (by omega)) hTO⟩, h1.extBut hs'.extBut (nea (by omega)), h2.extBut hs'.extBut (nea (by omega)), h3.extBut hs'.extBut (nea (by omega)), hl1.extBut hs'.extBut (nea (by omega)), hl2.extBut hs'.extBut (nea (by omega)), hl3.extBut hs'.extBut (nea (by omega))⟩ hs'.1 fun b o hb e => hs'.extBut _ _ (fun q => hb (by simp [q])) e
    · refine key _ _ hz rfl (fun _ => hQ s.heap ⟨.inr ⟨T', b, o, hz, hT, h1', h2'⟩, hTI, ⟨a, c, d, hTO⟩, h1, h2, h3, hl1, hl2, hl3⟩ rfl fun _ _ _ e => e) fun h' hz' hs' => ?_
      exact hQ h' ⟨.inl ⟨_, hz'⟩, hs'.extBut _ _ (nea (by omega)) hTI, ⟨a, c, d, hs'.extBut _ _ (nea (by omega)) hTO⟩, h1.extBut hs'.extBut (nea (by omega)), h2.extBut hs'.extBut (nea (by omega)), h3.extBut hs'.extBut (nea (by omega)), hl1.extBut hs'.extBut (nea (by omega)), hl2.extBut hs'.extBut (nea (by omega)), hl3.extBut hs'.extBut (nea (by omega))⟩ hs'.1 fun b o hb e => hs'.extBut _ _ (fun q => hb (by simp [q])) e
  stop := fun A s Q E hh hb S hQ => by
    nomatch hb
  fail := fun A s Q E hh hb S hQ => by
    obtain ⟨hf, hTI, ⟨a, c, d, hTO⟩, h1, h2, h3, hl1, hl2, hl3⟩ := S
    rcases hf with ⟨bf, hz⟩ | ⟨T, b, o, hz, hT, h1', h2'⟩
    · exact zip_pyNext_fail hh ⟨_, hz, rfl⟩ (fun h' => ∀ b o, b ∉ ([z, TO, i1, i2, i3] : List Addr) → s.heap.get? b = some o → h'.get? b = some o) (fun A Q E hh k => zipS3_short2 hh ap b1 b2 b3 hz hTI hTO h1 h2 h3 hl1 hl2 hl3 (getD_at (xs := xs) (j := n) hn1) (getD_at (xs := ys) (j := n) hn2) (by rw [List.getElem?_toArray]; exact List.getElem?_eq_none (by omega)) fun h' h'' e tk hk he => k h' h'' e tk (fun b o hb e => hk b o (fun q => hb (by simp [q])) (fun q => hb (by simp [q])) (fun q => hb (by simp [q])) (fun q => hb (by simp [q])) (fun q => hb (by simp [q])) e) he) hQ
    · exact zip_pyNext_fail hh ⟨_, hz, rfl⟩ (fun h' => ∀ b o, b ∉ ([z, TO, i1, i2, i3] : List Addr) → s.heap.get? b = some o → h'.get? b = some o) (fun A Q E hh k => zipH3_short2 hh ap b1 b2 b3 hz hT hTI h1 h2 h3 hl1 hl2 hl3 (getD_at (xs := xs) (j := n) hn1) (getD_at (xs := ys) (j := n) hn2) (by rw [List.getElem?_toArray]; exact List.getElem?_eq_none (by omega)) fun h' h'' e tk hk he => k h' h'' e tk (fun b o hb e => hk b o (fun q => hb (by simp [q])) (fun q => hb (by simp [q])) (fun q => hb (by simp [q])) (fun q => hb (by simp [q])) e) he) hQ
end Mine
end
-- Z4
section
open PySem PySem.W PyProof.Rows PySem.Spec PySem.Calls PyProof.V
set_option linter.unusedVariables false
namespace Mine
def TupAcc (B : Nat) (tup : Nat → List Value) (acc : List Value) (h : Heap) : Prop := ∀ (j : Nat) (v : Value), acc[j]? = some v → ∃ T : Nat, v = .ref T ∧ h.get? T = some { cls := .type "tuple", data := .seq (tup j).toArray } ∧ B ≤ T
theorem zip_no_len : typeLookup (.type "zip") "__len__" = pure none := by rw [typeLookup_type, builtinLookup_eq_fast]; kernel_rfl
theorem zip_no_hint : typeLookup (.type "zip") "__length_hint__" = pure none := by rw [typeLookup_type, builtinLookup_eq_fast]; kernel_rfl
theorem mapSeq_list (f : Array Value → Array Value) (xs : Array Value) (c : Nat) : ∃ c', Obj.mapSeq f { cls := .type "list", data := .seq xs c } = { cls := .type "list", data := .seq (f xs) c' } := ⟨_, rfl⟩
section
variable {prog : Program} {w : World} {A : Around} {s : Shared} {R : Result → Shared → Prop} {z S B : Nat} {wr : List Addr} {n : Nat} {tup : Nat → List Value} {bad : Bool} {St : Nat → Heap → Prop}
theorem extend_zip (hA : A.handled = none) (W : ZSrc prog w z wr [S] n tup bad St) (hn : n ≤ sizeLine) (hSB : S < B) (hwB : ∀ b ∈ wr, b < B) (s₀ : Shared) (res : Value)
    (hgood : bad = false → ∀ h' acc c, acc.length = n → h'.get? S = some { cls := .type "list", data := .seq acc.toArray c } → TupAcc B tup acc h' → (∀ b o, b ∉ wr → b ≠ S → s₀.heap.get? b = some o → h'.get? b = some o) → R (.ok (.ret res)) { s₀ with heap := h' })
    (hbad : bad = true → ∀ h' h'' e tk, (∀ b o, b ∉ wr → b ≠ S → s₀.heap.get? b = some o → h'.get? b = some o) → Heap.NewExc h' h'' e "ValueError" → R (.error (.ref e)) { s₀ with heap := h'', toks := tk }) :
    ∀ (k i : Nat) (h : Heap) (acc : List Value) (c : Nat), n - i = k → i ≤ n → acc.length = i → B ≤ h.objs.size → St i h → h.get? S = some { cls := .type "list", data := .seq acc.toArray c } → TupAcc B tup acc h →
      (∀ b o, b ∉ wr → b ≠ S → s₀.heap.get? b = some o → h.get? b = some o) → codeAny (model prog w) A (.builtin "list.extend.loop" ⟨[.ref S, .ref z, res], []⟩) R { s₀ with heap := h } := by
  have hSw : S ∉ wr := fun q => W.wrOff _ q (List.mem_singleton.mpr rfl)
  have hA1 : A.in1.handled = none := hA
  intro k
  induction k with
  | zero =>
    intro i h acc c hk hi hl hB hst hS hacc hkeep
    have hin : i = n := by omega
    subst hin
    refine codeAny_builtin PySem.F.entry_extend_loop ?_
    rw [Around.under_plainId PySem.F.plain_extend_loop _]
    show wpAny _ A.in1 (pyNext (.ref z) >>= _) _ _ _
    cases hb : bad with
    | false =>
      refine wpAny_bind (W.stop _ _ _ _ hA1 hb hst fun h' hk' => ?_)
      refine wpAny_pure (hgood hb h' acc c hl (hk' _ _ hSw hS) (fun j v hv => ?_) fun b o h1 h2 e => hk' _ _ h1 (hkeep b o h1 h2 e))
      obtain ⟨T, rfl, hT, hBT⟩ := hacc j v hv
      exact ⟨T, rfl, hk' _ _ (fun q => absurd (hwB _ q) (Nat.not_lt.mpr hBT)) hT, hBT⟩
    | true =>
      refine wpAny_bind (W.fail _ _ _ _ hA1 hb hst fun h' h'' e tk hk' hx => ?_)
      exact hbad hb h' h'' e tk (fun b o h1 h2 e => hk' _ _ h1 (hkeep b o h1 h2 e)) hx
  | succ k ih =>
    intro i h acc c hk hi hl hB hst hS hacc hkeep
    have hlt : i < n := by omega
    refine codeAny_builtin PySem.F.entry_extend_loop ?_
    rw [Around.under_plainId PySem.F.plain_extend_loop _]
    show wpAny _ A.in1 (pyNext (.ref z) >>= _) _ _ _
    refine wpAny_bind (W.item _ i _ _ _ hlt hst (fun b hb => by rw [List.mem_singleton.mp hb]; exact Heap.lt_size hS) fun h₁ hst₁ hT₁ hsz₁ hk₁ => ?_)
    have hS₁ := hk₁ _ _ hSw hS
    show wpAny _ A.in1 (updateSeq S (·.push (.ref h.objs.size)) >>= _) _ _ _
    refine wpAny_bind ?_
    refine wpAny_updateSeq hS₁ rfl (wpAny_pure ⟨plainId_quiet PySem.F.plain_extend_loop _, ?_⟩) (by show acc.toArray.size ≤ sizeLine; rw [List.size_toArray, hl]; omega) (by show (acc.toArray.push _).size ≤ sizeLine + 1; rw [Array.size_push, List.size_toArray, hl]; omega)
    have up : ∀ b o, b ≠ S → h₁.get? b = some o → (h₁.update S (Obj.mapSeq (·.push (Value.ref h.objs.size)))).get? b = some o := fun b o hb e => (Heap.get?_update_other _ _ (Ne.symm hb)).trans e
    have hS₂ := Heap.get?_update_self (Obj.mapSeq (·.push (Value.ref h.objs.size))) hS₁ rfl
    obtain ⟨c', e2⟩ := mapSeq_list (·.push (Value.ref h.objs.size)) acc.toArray c
    rw [List.push_toArray] at e2
    rw [e2] at hS₂
    refine ih (i + 1) _ (acc ++ [Value.ref h.objs.size]) c' (by omega) hlt (by rw [List.length_append, hl]; rfl) (by rw [Heap.size_after_update, hsz₁]; exact Nat.le_succ_of_le hB) ?_ hS₂ ?_ ?_
    · exact W.frame _ _ _ hst₁ fun b o hb e => up b o (fun q => hb (List.mem_singleton.mpr q)) e
    · intro j v hv
      rcases Nat.lt_or_ge j acc.length with q | q
      · rw [List.getElem?_append_left q] at hv
        obtain ⟨T, rfl, hT, hBT⟩ := hacc j v hv
        exact ⟨T, rfl, up _ _ (fun q => absurd (q ▸ hBT) (Nat.not_le.mpr hSB)) (hk₁ _ _ (fun q => absurd (hwB _ q) (Nat.not_lt.mpr hBT)) hT), hBT⟩
      · rw [List.getElem?_append_right q] at hv
        have hj : j = acc.length := by
          rcases Nat.lt_or_ge (j - acc.length) 1 with q2 | q2
          · omega
          · rw [List.getElem?_eq_none (by simpa using q2)] at hv; cases hv
        subst hj
        rw [Nat.sub_self] at hv
        cases hv
        refine ⟨h.objs.size, rfl, up _ _ (fun q => absurd (Nat.lt_of_lt_of_le hSB hB) (by rw [q]; exact Nat.lt_irrefl _)) ?_, hB⟩
        rw [hl]
        exact hT₁
    · intro b o h1 h2 e
      exact up _ _ h2 (hk₁ _ _ h1 (hkeep b o h1 h2 e))
end
section
variable {prog : Program} {w : World} {A : Around} {E : Value → Shared → Prop} {s : Shared} {z : Nat} {wr : List Addr} {n : Nat} {tup : Nat → List Value} {bad : Bool} {St : Nat → Heap → Prop}
theorem list_zip {Q : Value → Shared → Prop} (hA : A.handled = none) (W : ZSrc prog w z wr [s.heap.objs.size] n tup bad St) (hst : St 0 s.heap) (hn : n ≤ sizeLine) (hz : z < s.heap.objs.size) (hwB : ∀ b ∈ wr, b < s.heap.objs.size)
    (hgood : bad = false → ∀ h' acc c, acc.length = n → h'.get? s.heap.objs.size = some { cls := .type "list", data := .seq acc.toArray c } → TupAcc (s.heap.objs.size + 1) tup acc h' → (∀ b o, b ∉ wr → s.heap.get? b = some o → h'.get? b = some o) → Q (.ref s.heap.objs.size) { s with heap := h' })
    (hbad : bad = true → ∀ h' h'' e tk, (∀ b o, b ∉ wr → s.heap.get? b = some o → h'.get? b = some o) → Heap.NewExc h' h'' e "ValueError" → E (.ref e) { s with heap := h'', toks := tk }) :
    wpAny (model prog w) A (call (.type "list") [.ref z]) Q E s := by
  refine callType_codes (Q₁ := fun obj s₁ => obj = .ref s.heap.objs.size ∧ s₁ = { s with heap := s.heap.push { cls := .type "list", data := .seq #[] } }) PySem.F.called_list (PySem.F.typeCall_list_1 _) PySem.F.entry_list_init
    (code_list_new _ ⟨rfl, rfl⟩) fun obj s₁ h₁ => ?_
  obtain ⟨rfl, rfl⟩ := h₁
  have old : ∀ b o, s.heap.get? b = some o → b ≠ s.heap.objs.size := fun b o e => Nat.ne_of_lt (Heap.lt_size e)
  generalize hSz : s.heap.objs.size = S at *
  have hS : (s.heap.push { cls := .type "list", data := .seq #[] }).get? S = some { cls := .type "list", data := .seq #[] } := by rw [← hSz]; exact Heap.get?_push_size _ rfl
  have hA1 : A.in1.in1.handled = none := hA
  refine ⟨⟨_, hS, rfl⟩, PySem.F.args_list_init_2 _ _, ?_⟩
  show wpAny _ A.in1.in1 (do let old ← Builtin.List.listItems (.ref S); Builtin.List.listUpdate (.ref S) (fun _ => #[]); letGo old.toList.reverse; Builtin.List.listExtendWith (.ref S) (.ref z) .none) _ _ _
  refine wpAny_bind ?_
  unfold Builtin.List.listItems
  refine wpAny_bind (wpAny_seqItems hS rfl (wpAny_pure ?_))
  show wpAny _ _ (updateSeq S (fun _ => #[]) >>= fun _ => letGo (#[] : Array Value).toList.reverse >>= fun _ => Builtin.List.listExtendWith (.ref S) (.ref z) .none) _ _ _
  refine wpAny_bind (wpAny_updateSeq hS rfl ?_)
  have hS₂ := Heap.get?_update_self (Obj.mapSeq (fun _ => (#[] : Array Value))) hS rfl
  refine wpAny_bind (wpAny_letGo ?_)
  have keep2 : ∀ b o, b ≠ S → s.heap.get? b = some o → ((s.heap.push { cls := .type "list", data := .seq #[] }).update S (Obj.mapSeq (fun _ => (#[] : Array Value)))).get? b = some o :=
    fun b o hb e => (Heap.get?_update_other _ _ (Ne.symm hb)).trans (Heap.get?_push_of_some _ e)
  have hst₂ := W.frame _ _ _ hst fun b o hb e => keep2 b o (fun q => hb (List.mem_singleton.mpr q)) e
  have hT : Shared.TypeIs { s with heap := (s.heap.push { cls := .type "list", data := .seq #[] }).update S (Obj.mapSeq (fun _ => (#[] : Array Value))) } (.ref z) "zip" := W.ty _ _ hst₂
  have hSz' : S ≠ z := Nat.ne_of_gt hz
  unfold Builtin.List.listExtendWith
  refine wpAny_bind (wpAny_typeOf hT ?_)
  have h1 : Builtin.List.listSameRef (.ref S) (.ref z) = false := by simp [Builtin.List.listSameRef, hSz']
  have h2 : (Value.type "zip" == Value.type "list") = false := by decide
  have h3 : (Value.type "zip" == Value.type "tuple") = false := by decide
  simp only [h1, h2, h3, Bool.or_false, Bool.false_eq_true, if_false]
  refine wpAny_bind (W.self _ 0 _ _ _ hst₂ ?_)
  refine wpAny_bind (wpAny_holding ?_)
  unfold Builtin.List.listLengthHint
  refine wpAny_bind (wpAny_specialOf hT zip_no_len ?_)
  show wpAny _ _ (specialOf (Value.ref z) (Str.ofString "__length_hint__") >>= _) _ _ _
  refine wpAny_bind (wpAny_specialOf hT zip_no_hint ?_)
  refine wpAny_pure ?_
  show wpAny _ _ (rule "list.extend.makes-room" >>= fun _ => Builtin.List.listTouch (.ref S) >>= fun _ =>
    again (.builtin "list.extend.loop" ⟨[.ref S, .ref z, .none], []⟩)) _ _ _
  refine wpAny_bind (wpAny_rule ?_)
  refine wpAny_bind ?_
  show wpAny _ _ (updateSeq S (·.push .none) >>= fun _ => updateSeq S (·.pop)) _ _ _
  refine wpAny_bind (wpAny_updateSeq hS₂ rfl ?_)
  have hS₃ := Heap.get?_update_self (Obj.mapSeq (·.push Value.none)) hS₂ rfl
  refine wpAny_updateSeq (hz := by seq_fits) hS₃ rfl ?_
  have hS₄ := Heap.get?_update_self (Obj.mapSeq (·.pop)) hS₃ rfl
  refine wpAny_pure ⟨plainId_quiet PySem.F.plain_extend_loop _, extend_zip (A := A.in1) (B := S + 1) hA W hn (Nat.lt_succ_self _) (fun b hb => Nat.lt_succ_of_lt (hwB b hb)) s .none ?_ ?_ n 0 _ [] _ rfl (Nat.zero_le _) rfl ?_ ?_ hS₄ (fun j v hv => by simp at hv) fun b o h1 h2 e => ?_⟩
  · intro hb h' acc c hl hS' hacc hk
    exact ⟨rfl, hgood hb h' acc c hl hS' hacc fun b o h1 e => hk b o h1 (old b o e) e⟩
  · intro hb h' h'' e tk hk hx
    exact hbad hb h' h'' e tk (fun b o h1 e => hk b o h1 (old b o e) e) hx
  · rw [Heap.size_after_update, Heap.size_after_update, Heap.size_after_update, Heap.size_push, hSz]
    exact Nat.le_refl _
  · exact W.frame _ _ _ hst₂ fun b o hb e => (Heap.get?_update_other _ _ (fun q : S = b => hb (List.mem_singleton.mpr q.symm))).trans ((Heap.get?_update_other _ _ (fun q : S = b => hb (List.mem_singleton.mpr q.symm))).trans e)
  · exact (Heap.get?_update_other _ _ (Ne.symm h2)).trans ((Heap.get?_update_other _ _ (Ne.symm h2)).trans (keep2 b o h2 e))
end
end Mine
end
-- Z5
section
open PySem PySem.W PyProof.Rows PySem.Spec PySem.Calls PyProof.V
set_option maxRecDepth 100000
set_option maxHeartbeats 8000000
set_option linter.unusedVariables false
namespace Mine
local macro_rules | `(tactic| x_close) => `(tactic| (apply_assumption <;> first | assumption | skip))
section
variable {prog : Program} {w : World} {A : Around} {E : Value → Shared → Prop} {s : Shared} {Q : Value → Shared → Prop}
abbrev litI (l : Addr) : Obj := ⟨.type "list_iterator", none, .fields ⟨[.ref l, .int 0 0]⟩, #[]⟩
abbrev zipO (TI TO : Addr) : Obj := ⟨.type "zip", none, .fields ⟨[.none, .bool false, .bool true, .ref TI, .ref TO]⟩, #[]⟩
abbrev tupO (l : List Value) : Obj := ⟨.type "tuple", none, .seq ⟨l⟩ 0, #[]⟩
theorem zip2_new {l1 l2 : Addr} {vs us : List Value} {n1 n2 : Nat}
    (h1 : s.heap.get? l1 = some ⟨.type "list", none, .seq vs.toArray n1, #[]⟩) (h2 : s.heap.get? l2 = some ⟨.type "list", none, .seq us.toArray n2, #[]⟩)
    (h : ∀ (z TO TI i2 i1 : Nat) h', X.Mem s.heap h' [] [(z, zipO TI TO), (TO, tupO [.none, .none]), (TI, tupO [.ref i1, .ref i2]), (i2, litI l2), (i1, litI l1)] → Q (.ref z) { s with heap := h' }) :
    wpAny (model prog w) A (call (.type "zip") [.ref l1, .ref l2] [("strict", .bool true)]) Q E s := by
  x_run
theorem zip3_new {l1 l2 l3 : Addr} {vs us ts : List Value} {n1 n2 n3 : Nat}
    (h1 : s.heap.get? l1 = some ⟨.type "list", none, .seq vs.toArray n1, #[]⟩) (h2 : s.heap.get? l2 = some ⟨.type "list", none, .seq us.toArray n2, #[]⟩) (h3 : s.heap.get? l3 = some ⟨.type "list", none, .seq ts.toArray n3, #[]⟩)
    (h : ∀ (z TO TI i3 i2 i1 : Nat) h', X.Mem s.heap h' [] [(z, zipO TI TO), (TO, tupO [.none, .none, .none]), (TI, tupO [.ref i1, .ref i2, .ref i3]), (i3, litI l3), (i2, litI l2), (i1, litI l1)] → Q (.ref z) { s with heap := h' }) :
    wpAny (model prog w) A (call (.type "zip") [.ref l1, .ref l2, .ref l3] [("strict", .bool true)]) Q E s := by
  x_run
end
end Mine
end
-- Z6
section
open PySem PySem.W PyProof.Rows PySem.Spec PySem.Calls PyProof.V
set_option linter.unusedVariables false
namespace Mine
def ZipK (prog : Program) (w : World) (h₀ : Heap) (L : Addr) (news : List (Addr × Obj)) (z n : Nat) (tup : Nat → List Value) (bad : Bool) (h : Heap) : Prop :=
  ∃ (wr fp : List Addr) (St : List Addr → Nat → Heap → Prop), (∀ off : List Addr, (∀ b ∈ off, b ∉ fp) → ZSrc prog w z wr off n tup bad (St off)) ∧ (∀ off, St off 0 h) ∧
    (∀ b ∈ wr, h₀.get? b = none ∧ b ≠ L ∧ ∀ p ∈ news, p.1 ≠ b) ∧ (∀ b ∈ wr, b ∈ fp) ∧ (∀ b ∈ fp, b < h.objs.size) ∧ z < h.objs.size
theorem mem_keep {h h' : Heap} {news : List (Addr × Obj)} (D : X.Mem h h' [] news) {b : Addr} {o : Obj} (e : h.get? b = some o) : h'.get? b = some o := D.keep b o e (by simp [X.away])
section
variable {prog : Program} {w : World} {A : Around} {E : Value → Shared → Prop} {s : Shared} {Q : Value → Shared → Prop} {h₀ : Heap} {L : Addr} {m : Str → Option Value} {news : List (Addr × Obj)}
theorem mem_K {h h' : Heap} {own : List (Addr × Obj)} (D : X.Mem h h' [] own) (F : Fr h₀ L h m) (N : News h₀ L h news) : Fr h₀ L h' m ∧ News h₀ L h' news ∧ ∀ p ∈ own, h₀.get? p.1 = none ∧ p.1 ≠ L ∧ (∀ q ∈ news, q.1 ≠ p.1) ∧ h'.get? p.1 = some p.2 := by
  refine ⟨⟨F.ns.at' fun o e => mem_keep D e, fun b o e => mem_keep D (F.keep b o e), F.above⟩, fun p hp => ⟨mem_keep D (N p hp).1, (N p hp).2⟩, fun p hp => ?_⟩
  obtain ⟨hg, hn⟩ := D.nw p hp
  refine ⟨?_, fun q => ?_, fun q hq e => ?_, hg⟩
  · cases e : h₀.get? p.1 with
    | none => rfl
    | some o => have := F.keep _ _ e; rw [hn] at this; cases this
  · obtain ⟨o, _, _, e, _⟩ := F.ns
    rw [q, e] at hn; cases hn
  · have := (N q hq).1; rw [e, hn] at this; cases this
theorem zip2_good {l1 l2 : Nat} {xs ys : List Value} {c1 c2 n : Nat} (F : Fr h₀ L s.heap m) (N : News h₀ L s.heap news) (m1 : (l1, PySem.W.listOf xs.toArray c1) ∈ news) (m2 : (l2, PySem.W.listOf ys.toArray c2) ∈ news) (hn1 : xs.length = n) (hn2 : ys.length = n)
    (h : ∀ (z : Nat) h', Fr h₀ L h' m → News h₀ L h' news → ZipK prog w h₀ L news z n (fun i => [xs.getD i .none, ys.getD i .none]) false h' → Q (.ref z) { s with heap := h' }) :
    wpAny (model prog w) A (call (.type "zip") [.ref l1, .ref l2] [("strict", .bool true)]) Q E s := by
  refine zip2_new (N _ m1).1 (N _ m2).1 fun z TO TI i2 i1 h' D => ?_
  obtain ⟨F', N', O⟩ := mem_K D F N
  have ord : List.Pairwise (fun a b : Nat => a > b) ([z, TO, TI, i2, i1] : List Nat) := D.ord
  simp at ord
  have Oz := O _ List.mem_cons_self
  have OTO := O _ (List.mem_cons_of_mem _ List.mem_cons_self)
  have OTI := O _ (List.mem_cons_of_mem _ (List.mem_cons_of_mem _ List.mem_cons_self))
  have Oi2 := O _ (List.mem_cons_of_mem _ (List.mem_cons_of_mem _ (List.mem_cons_of_mem _ List.mem_cons_self)))
  have Oi1 := O _ (List.mem_cons_of_mem _ (List.mem_cons_of_mem _ (List.mem_cons_of_mem _ (List.mem_cons_of_mem _ List.mem_cons_self))))
  have g1 := (N' _ m1).1
  have g2 := (N' _ m2).1
  have b1 : (@Ne Nat l1 i1) ∧ (@Ne Nat l1 i2) ∧ (@Ne Nat l1 TI) ∧ (@Ne Nat l1 TO) ∧ (@Ne Nat l1 z) := ⟨Oi1.2.2.1 _ m1, Oi2.2.2.1 _ m1, OTI.2.2.1 _ m1, OTO.2.2.1 _ m1, Oz.2.2.1 _ m1⟩
  have b2 : (@Ne Nat l2 i1) ∧ (@Ne Nat l2 i2) ∧ (@Ne Nat l2 TI) ∧ (@Ne Nat l2 TO) ∧ (@Ne Nat l2 z) := ⟨Oi1.2.2.1 _ m2, Oi2.2.2.1 _ m2, OTI.2.2.1 _ m2, OTO.2.2.1 _ m2, Oz.2.2.1 _ m2⟩
  refine h z h' F' N' ⟨[z, TO, i1, i2], [i1, i2, TI, TO, z, l1, l2], ZSt2 z TI TO i1 i2 l1 l2 xs ys, fun off ho => ?_, fun off => ?_, ?_, ?_, ?_, Heap.lt_size Oz.2.2.2⟩
  · have ni : ∀ b ∈ ([i1, i2, TI, TO, z, l1, l2] : List Addr), b ∉ off := fun b hb q => ho b q hb
    exact ZSt2.good prog w ⟨by omega, by omega, by omega, by omega⟩ b1 b2 (ni _ (by simp)) (ni _ (by simp)) (ni _ (by simp)) (ni _ (by simp)) (ni _ (by simp)) (ni _ (by simp)) (ni _ (by simp)) n hn1 hn2
  · exact ⟨.inl ⟨false, Oz.2.2.2⟩, OTI.2.2.2, ⟨_, _, OTO.2.2.2⟩, ⟨_, Oi1.2.2.2, rfl, rfl⟩, ⟨_, Oi2.2.2.2, rfl, rfl⟩, ⟨_, g1, rfl, _, rfl⟩, ⟨_, g2, rfl, _, rfl⟩⟩
  · intro b hb
    simp only [List.mem_cons, List.not_mem_nil, or_false] at hb
    rcases hb with rfl | rfl | rfl | rfl
    · exact ⟨Oz.1, Oz.2.1, Oz.2.2.1⟩
    · exact ⟨OTO.1, OTO.2.1, OTO.2.2.1⟩
    · exact ⟨Oi1.1, Oi1.2.1, Oi1.2.2.1⟩
    · exact ⟨Oi2.1, Oi2.2.1, Oi2.2.2.1⟩
  · intro b hb
    simp only [List.mem_cons, List.not_mem_nil, or_false] at hb ⊢
    rcases hb with rfl | rfl | rfl | rfl <;> simp
  · intro b hb
    simp only [List.mem_cons, List.not_mem_nil, or_false] at hb
    rcases hb with rfl | rfl | rfl | rfl | rfl | rfl | rfl
    · exact Heap.lt_size Oi1.2.2.2
    · exact Heap.lt_size Oi2.2.2.2
    · exact Heap.lt_size OTI.2.2.2
    · exact Heap.lt_size OTO.2.2.2
    · exact Heap.lt_size Oz.2.2.2
    · exact Heap.lt_size g1
    · exact Heap.lt_size g2
theorem zip2_bad {l1 l2 : Nat} {xs ys : List Value} {c1 c2 n : Nat} (F : Fr h₀ L s.heap m) (N : News h₀ L s.heap news) (m1 : (l1, PySem.W.listOf xs.toArray c1) ∈ news) (m2 : (l2, PySem.W.listOf ys.toArray c2) ∈ news) (hn1 : n < xs.length) (hn2 : ys.length = n)
    (h : ∀ (z : Nat) h', Fr h₀ L h' m → News h₀ L h' news → ZipK prog w h₀ L news z n (fun i => [xs.getD i .none, ys.getD i .none]) true h' → Q (.ref z) { s with heap := h' }) :
    wpAny (model prog w) A (call (.type "zip") [.ref l1, .ref l2] [("strict", .bool true)]) Q E s := by
  refine zip2_new (N _ m1).1 (N _ m2).1 fun z TO TI i2 i1 h' D => ?_
  obtain ⟨F', N', O⟩ := mem_K D F N
  have ord : List.Pairwise (fun a b : Nat => a > b) ([z, TO, TI, i2, i1] : List Nat) := D.ord
  simp at ord
  have Oz := O _ List.mem_cons_self
  have OTO := O _ (List.mem_cons_of_mem _ List.mem_cons_self)
  have OTI := O _ (List.mem_cons_of_mem _ (List.mem_cons_of_mem _ List.mem_cons_self))
  have Oi2 := O _ (List.mem_cons_of_mem _ (List.mem_cons_of_mem _ (List.mem_cons_of_mem _ List.mem_cons_self)))
  have Oi1 := O _ (List.mem_cons_of_mem _ (List.mem_cons_of_mem _ (List.mem_cons_of_mem _ (List.mem_cons_of_mem _ List.mem_cons_self))))
  have g1 := (N' _ m1).1
  have g2 := (N' _ m2).1
  have b1 : (@Ne Nat l1 i1) ∧ (@Ne Nat l1 i2) ∧ (@Ne Nat l1 TI) ∧ (@Ne Nat l1 TO) ∧ (@Ne Nat l1 z) := ⟨Oi1.2.2.1 _ m1, Oi2.2.2.1 _ m1, OTI.2.2.1 _ m1, OTO.2.2.1 _ m1, Oz.2.2.1 _ m1⟩
  have b2 : (@Ne Nat l2 i1) ∧ (@Ne Nat l2 i2) ∧ (@Ne Nat l2 TI) ∧ (@Ne Nat l2 TO) ∧ (@Ne Nat l2 z) := ⟨Oi1.2.2.1 _ m2, Oi2.2.2.1 _ m2, OTI.2.2.1 _ m2, OTO.2.2.1 _ m2, Oz.2.2.1 _ m2⟩
  refine h z h' F' N' ⟨[z, TO, i1, i2], [i1, i2, TI, TO, z, l1, l2], ZSt2 z TI TO i1 i2 l1 l2 xs ys, fun off ho => ?_, fun off => ?_, ?_, ?_, ?_, Heap.lt_size Oz.2.2.2⟩
  · have ni : ∀ b ∈ ([i1, i2, TI, TO, z, l1, l2] : List Addr), b ∉ off := fun b hb q => ho b q hb
    exact ZSt2.bad prog w ⟨by omega, by omega, by omega, by omega⟩ b1 b2 (ni _ (by simp)) (ni _ (by simp)) (ni _ (by simp)) (ni _ (by simp)) (ni _ (by simp)) (ni _ (by simp)) (ni _ (by simp)) n hn1 hn2
  · exact ⟨.inl ⟨false, Oz.2.2.2⟩, OTI.2.2.2, ⟨_, _, OTO.2.2.2⟩, ⟨_, Oi1.2.2.2, rfl, rfl⟩, ⟨_, Oi2.2.2.2, rfl, rfl⟩, ⟨_, g1, rfl, _, rfl⟩, ⟨_, g2, rfl, _, rfl⟩⟩
  · intro b hb
    simp only [List.mem_cons, List.not_mem_nil, or_false] at hb
    rcases hb with rfl | rfl | rfl | rfl
    · exact ⟨Oz.1, Oz.2.1, Oz.2.2.1⟩
    · exact ⟨OTO.1, OTO.2.1, OTO.2.2.1⟩
    · exact ⟨Oi1.1, Oi1.2.1, Oi1.2.2.1⟩
    · exact ⟨Oi2.1, Oi2.2.1, Oi2.2.2.1⟩
  · intro b hb
    simp only [List.mem_cons, List.not_mem_nil, or_false] at hb ⊢
    rcases hb with rfl | rfl | rfl | rfl <;> simp
  · intro b hb
    simp only [List.mem_cons, List.not_mem_nil, or_false] at hb
    rcases hb with rfl | rfl | rfl | rfl | rfl | rfl | rfl
    · exact Heap.lt_size Oi1.2.2.2
    · exact Heap.lt_size Oi2.2.2.2
    · exact Heap.lt_size OTI.2.2.2
    · exact Heap.lt_size OTO.2.2.2
    · exact Heap.lt_size Oz.2.2.2
    · exact Heap.lt_size g1
    · exact Heap.lt_size g2
theorem zip3_good {l1 l2 l3 : Nat} {xs ys us : List Value} {c1 c2 c3 n : Nat} (F : Fr h₀ L s.heap m) (N : News h₀ L s.heap news) (m1 : (l1, PySem.W.listOf xs.toArray c1) ∈ news) (m2 : (l2, PySem.W.listOf ys.toArray c2) ∈ news) (m3 : (l3, PySem.W.listOf us.toArray c3) ∈ news) (hn1 : xs.length = n) (hn2 : ys.length = n) (hn3 : us.length = n)
    (h : ∀ (z : Nat) h', Fr h₀ L h' m → News h₀ L h' news → ZipK prog w h₀ L news z n (fun i => [xs.getD i .none, ys.getD i .none, us.getD i .none]) false h' → Q (.ref z) { s with heap := h' }) :
    wpAny (model prog w) A (call (.type "zip") [.ref l1, .ref l2, .ref l3] [("strict", .bool true)]) Q E s := by
  refine zip3_new (N _ m1).1 (N _ m2).1 (N _ m3).1 fun z TO TI i3 i2 i1 h' D => ?_
  obtain ⟨F', N', O⟩ := mem_K D F N
  have ord : List.Pairwise (fun a b : Nat => a > b) ([z, TO, TI, i3, i2, i1] : List Nat) := D.ord
  simp at ord
  have Oz := O _ List.mem_cons_self
  have OTO := O _ (List.mem_cons_of_mem _ List.mem_cons_self)
  have OTI := O _ (List.mem_cons_of_mem _ (List.mem_cons_of_mem _ List.mem_cons_self))
  have Oi3 := O _ (List.mem_cons_of_mem _ (List.mem_cons_of_mem _ (List.mem_cons_of_mem _ List.mem_cons_self)))
  have Oi2 := O _ (List.mem_cons_of_mem _ (List.mem_cons_of_mem _ (List.mem_cons_of_mem _ (List.mem_cons_of_mem _ List.mem_cons_self))))
  have Oi1 := O _ (List.mem_cons_of_mem _ (List.mem_cons_of_mem _ (List.mem_cons_of_mem _ (List.mem_cons_of_mem _ (List.mem_cons_of_mem _ List.mem_cons_self)))))
  have g1 := (N' _ m1).1
  have g2 := (N' _ m2).1
  have g3 := (N' _ m3).1
  have b1 : (@Ne Nat l1 i1) ∧ (@Ne Nat l1 i2) ∧ (@Ne Nat l1 i3) ∧ (@Ne Nat l1 TI) ∧ (@Ne Nat l1 TO) ∧ (@Ne Nat l1 z) := ⟨Oi1.2.2.1 _ m1, Oi2.2.2.1 _ m1, Oi3.2.2.1 _ m1, OTI.2.2.1 _ m1, OTO.2.2.1 _ m1, Oz.2.2.1 _ m1⟩
  have b2 : (@Ne Nat l2 i1) ∧ (@Ne Nat l2 i2) ∧ (@Ne Nat l2 i3) ∧ (@Ne Nat l2 TI) ∧ (@Ne Nat l2 TO) ∧ (@Ne Nat l2 z) := ⟨Oi1.2.2.1 _ m2, Oi2.2.2.1 _ m2, Oi3.2.2.1 _ m2, OTI.2.2.1 _ m2, OTO.2.2.1 _ m2, Oz.2.2.1 _ m2⟩
  have b3 : (@Ne Nat l3 i1) ∧ (@Ne Nat l3 i2) ∧ (@Ne Nat l3 i3) ∧ (@Ne Nat l3 TI) ∧ (@Ne Nat l3 TO) ∧ (@Ne Nat l3 z) := ⟨Oi1.2.2.1 _ m3, Oi2.2.2.1 _ m3, Oi3.2.2.1 _ m3, OTI.2.2.1 _ m3, OTO.2.2.1 _ m3, Oz.2.2.1 _ m3⟩
  refine h z h' F' N' ⟨[z, TO, i1, i2, i3], [i1, i2, i3, TI, TO, z, l1, l2, l3], ZSt3 z TI TO i1 i2 i3 l1 l2 l3 xs ys us, fun off ho => ?_, fun off => ?_, ?_, ?_, ?_, Heap.lt_size Oz.2.2.2⟩
  · have ni : ∀ b ∈ ([i1, i2, i3, TI, TO, z, l1, l2, l3] : List Addr), b ∉ off := fun b hb q => ho b q hb
    exact ZSt3.good prog w ⟨by omega, by omega, by omega, by omega, by omega⟩ b1 b2 b3 (ni _ (by simp)) (ni _ (by simp)) (ni _ (by simp)) (ni _ (by simp)) (ni _ (by simp)) (ni _ (by simp)) (ni _ (by simp)) (ni _ (by simp)) (ni _ (by simp)) n hn1 hn2 hn3
  · exact ⟨.inl ⟨false, Oz.2.2.2⟩, OTI.2.2.2, ⟨_, _, _, OTO.2.2.2⟩, ⟨_, Oi1.2.2.2, rfl, rfl⟩, ⟨_, Oi2.2.2.2, rfl, rfl⟩, ⟨_, Oi3.2.2.2, rfl, rfl⟩, ⟨_, g1, rfl, _, rfl⟩, ⟨_, g2, rfl, _, rfl⟩, ⟨_, g3, rfl, _, rfl⟩⟩
  · intro b hb
    simp only [List.mem_cons, List.not_mem_nil, or_false] at hb
    rcases hb with rfl | rfl | rfl | rfl | rfl
    · exact ⟨Oz.1, Oz.2.1, Oz.2.2.1⟩
    · exact ⟨OTO.1, OTO.2.1, OTO.2.2.1⟩
    · exact ⟨Oi1.1, Oi1.2.1, Oi1.2.2.1⟩
    · exact ⟨Oi2.1, Oi2.2.1, Oi2.2.2.1⟩
    · exact ⟨Oi3.1, Oi3.2.1, Oi3.2.2.1⟩
  · intro b hb
    simp only [List.mem_cons, List.not_mem_nil, or_false] at hb ⊢
    rcases hb with rfl | rfl | rfl | rfl | rfl <;> simp
  · intro b hb
    simp only [List.mem_cons, List.not_mem_nil, or_false] at hb
    rcases hb with rfl | rfl | rfl | rfl | rfl | rfl | rfl | rfl | rfl
    · exact Heap.lt_size Oi1.2.2.2
    · exact Heap.lt_size Oi2.2.2.2
    · exact Heap.lt_size Oi3.2.2.2
    · exact Heap.lt_size OTI.2.2.2
    · exact Heap.lt_size OTO.2.2.2
    · exact Heap.lt_size Oz.2.2.2
    · exact Heap.lt_size g1
    · exact Heap.lt_size g2
    · exact Heap.lt_size g3
theorem zip3_bad {l1 l2 l3 : Nat} {xs ys us : List Value} {c1 c2 c3 n : Nat} (F : Fr h₀ L s.heap m) (N : News h₀ L s.heap news) (m1 : (l1, PySem.W.listOf xs.toArray c1) ∈ news) (m2 : (l2, PySem.W.listOf ys.toArray c2) ∈ news) (m3 : (l3, PySem.W.listOf us.toArray c3) ∈ news) (hn1 : n < xs.length) (hn2 : n < ys.length) (hn3 : us.length = n)
    (h : ∀ (z : Nat) h', Fr h₀ L h' m → News h₀ L h' news → ZipK prog w h₀ L news z n (fun i => [xs.getD i .none, ys.getD i .none, us.getD i .none]) true h' → Q (.ref z) { s with heap := h' }) :
    wpAny (model prog w) A (call (.type "zip") [.ref l1, .ref l2, .ref l3] [("strict", .bool true)]) Q E s := by
  refine zip3_new (N _ m1).1 (N _ m2).1 (N _ m3).1 fun z TO TI i3 i2 i1 h' D => ?_
  obtain ⟨F', N', O⟩ := mem_K D F N
  have ord : List.Pairwise (fun a b : Nat => a > b) ([z, TO, TI, i3, i2, i1] : List Nat) := D.ord
  simp at ord
  have Oz := O _ List.mem_cons_self
  have OTO := O _ (List.mem_cons_of_mem _ List.mem_cons_self)
  have OTI := O _ (List.mem_cons_of_mem _ (List.mem_cons_of_mem _ List.mem_cons_self))
  have Oi3 := O _ (List.mem_cons_of_mem _ (List.mem_cons_of_mem _ (List.mem_cons_of_mem _ List.mem_cons_self)))
  have Oi2 := O _ (List.mem_cons_of_mem _ (List.mem_cons_of_mem _ (List.mem_cons_of_mem _ (List.mem_cons_of_mem _ List.mem_cons_self))))
  have Oi1 := O _ (List.mem_cons_of_mem _ (List.mem_cons_of_mem _ (List.mem_cons_of_mem _ (List.mem_cons_of_mem _ (List.mem_cons_of_mem _ List.mem_cons_self)))))
  have g1 := (N' _ m1).1
  have g2 := (N' _ m2).1
  have g3 := (N' _ m3).1
  have b1 : (@Ne Nat l1 i1) ∧ (@Ne Nat l1 i2) ∧ (@Ne Nat l1 i3) ∧ (@Ne Nat l1 TI) ∧ (@Ne Nat l1 TO) ∧ (@Ne Nat l1 z) := ⟨Oi1.2.2.1 _ m1, Oi2.2.2.1 _ m1, Oi3.2.2.1 _ m1, OTI.2.2.1 _ m1, OTO.2.2.1 _ m1, Oz.2.2.1 _ m1⟩
  have b2 : (@Ne Nat l2 i1) ∧ (@Ne Nat l2 i2) ∧ (@Ne Nat l2 i3) ∧ (@Ne Nat l2 TI) ∧ (@Ne Nat l2 TO) ∧ (@Ne Nat l2 z) := ⟨Oi1.2.2.1 _ m2, Oi2.2.2.1 _ m2, Oi3.2.2.1 _ m2, OTI.2.2.1 _ m2, OTO.2.2.1 _ m2, Oz.2.2.1 _ m2⟩
  have b3 : (@Ne Nat l3 i1) ∧ (@Ne Nat l3 i2) ∧ (@Ne Nat l3 i3) ∧ (@Ne Nat l3 TI) ∧ (@Ne Nat l3 TO) ∧ (@Ne Nat l3 z) := ⟨Oi1.2.2.1 _ m3, Oi2.2.2.1 _ m3, Oi3.2.2.1 _ m3, OTI.2.2.1 _ m3, OTO.2.2.1 _ m3, Oz.2.2.1 _ m3⟩
  refine h z h' F' N' ⟨[z, TO, i1, i2, i3], [i1, i2, i3, TI, TO, z, l1, l2, l3], ZSt3 z TI TO i1 i2 i3 l1 l2 l3 xs ys us, fun off ho => ?_, fun off => ?_, ?_, ?_, ?_, Heap.lt_size Oz.2.2.2⟩
  · have ni : ∀ b ∈ ([i1, i2, i3, TI, TO, z, l1, l2, l3] : List Addr), b ∉ off := fun b hb q => ho b q hb
    exact ZSt3.bad prog w ⟨by omega, by omega, by omega, by omega, by omega⟩ b1 b2 b3 (ni _ (by simp)) (ni _ (by simp)) (ni _ (by simp)) (ni _ (by simp)) (ni _ (by simp)) (ni _ (by simp)) (ni _ (by simp)) (ni _ (by simp)) (ni _ (by simp)) n hn1 hn2 hn3
  · exact ⟨.inl ⟨false, Oz.2.2.2⟩, OTI.2.2.2, ⟨_, _, _, OTO.2.2.2⟩, ⟨_, Oi1.2.2.2, rfl, rfl⟩, ⟨_, Oi2.2.2.2, rfl, rfl⟩, ⟨_, Oi3.2.2.2, rfl, rfl⟩, ⟨_, g1, rfl, _, rfl⟩, ⟨_, g2, rfl, _, rfl⟩, ⟨_, g3, rfl, _, rfl⟩⟩
  · intro b hb
    simp only [List.mem_cons, List.not_mem_nil, or_false] at hb
    rcases hb with rfl | rfl | rfl | rfl | rfl
    · exact ⟨Oz.1, Oz.2.1, Oz.2.2.1⟩
    · exact ⟨OTO.1, OTO.2.1, OTO.2.2.1⟩
    · exact ⟨Oi1.1, Oi1.2.1, Oi1.2.2.1⟩
    · exact ⟨Oi2.1, Oi2.2.1, Oi2.2.2.1⟩
    · exact ⟨Oi3.1, Oi3.2.1, Oi3.2.2.1⟩
  · intro b hb
    simp only [List.mem_cons, List.not_mem_nil, or_false] at hb ⊢
    rcases hb with rfl | rfl | rfl | rfl | rfl <;> simp
  · intro b hb
    simp only [List.mem_cons, List.not_mem_nil, or_false] at hb
    rcases hb with rfl | rfl | rfl | rfl | rfl | rfl | rfl | rfl | rfl
    · exact Heap.lt_size Oi1.2.2.2
    · exact Heap.lt_size Oi2.2.2.2
    · exact Heap.lt_size Oi3.2.2.2
    · exact Heap.lt_size OTI.2.2.2
    · exact Heap.lt_size OTO.2.2.2
    · exact Heap.lt_size Oz.2.2.2
    · exact Heap.lt_size g1
    · exact Heap.lt_size g2
    · exact Heap.lt_size g3
theorem list_zip_K2 {z : Nat} {tup : Nat → List Value} (hA : A.handled = none) (F : Fr h₀ L s.heap m) (N : News h₀ L s.heap news) (Z : ZipK prog w h₀ L news z 2 tup false s.heap)
    (h : ∀ (D T0 T1 : Nat) c h', Fr h₀ L h' m → News h₀ L h' ((D, PySem.W.listOf [.ref T0, .ref T1].toArray c) :: (T0, ({ cls := .type "tuple", data := .seq (tup 0).toArray } : Obj)) :: (T1, ({ cls := .type "tuple", data := .seq (tup 1).toArray } : Obj)) :: news) → (∀ q ∈ news, q.1 < D) → D < T0 ∧ D < T1 → Q (.ref D) { s with heap := h' }) :
    wpAny (model prog w) A (call (.type "list") [.ref z]) Q E s := by
  obtain ⟨wr, fp, St, W, hst, hw, hwf, hfp, hz⟩ := Z
  have lt : ∀ q ∈ news, q.1 < s.heap.objs.size := fun q hq => Heap.lt_size (N q hq).1
  have no : ∀ b ∈ ([s.heap.objs.size] : List Addr), b ∉ fp := fun b hb q => by
    rw [List.mem_singleton.mp hb] at q
    exact Nat.lt_irrefl _ (hfp _ q)
  have hL0 := F.ns.lt
  have fresh : ∀ a : Nat, s.heap.objs.size ≤ a → h₀.get? a = none ∧ a ≠ L := fun a ha => by
    refine ⟨?_, fun q => absurd hL0 (by rw [← q]; exact Nat.not_lt.mpr ha)⟩
    cases e : h₀.get? a with
    | none => rfl
    | some o => exact absurd (Heap.lt_size (F.keep _ _ e)) (Nat.not_lt.mpr ha)
  refine list_zip hA (W _ no) (hst _) (by decide) hz (fun b hb => hfp b (hwf b hb)) (fun _ h' acc c hl hD hacc hk => ?_) (fun q => nomatch q)
  match acc, hl with
  | [v0, v1], _ =>
    obtain ⟨T0, rfl, hT0, hB0⟩ := hacc 0 v0 rfl
    obtain ⟨T1, rfl, hT1, hB1⟩ := hacc 1 v1 rfl
    have F' : Fr h₀ L h' m := ⟨F.ns.at' fun o e => hk _ o (fun q => (hw _ q).2.1 rfl) e, fun b o e => hk b o (fun q => by rw [(hw _ q).1] at e; cases e) (F.keep b o e), F.above⟩
    refine h s.heap.objs.size T0 T1 c h' F' ?_ lt ⟨hB0, hB1⟩
    intro q hq
    rcases List.mem_cons.mp hq with rfl | hq
    · exact ⟨hD, (fresh _ (Nat.le_refl _)).2, (fresh _ (Nat.le_refl _)).1⟩
    rcases List.mem_cons.mp hq with rfl | hq
    · exact ⟨hT0, (fresh _ (Nat.le_of_lt hB0)).2, (fresh _ (Nat.le_of_lt hB0)).1⟩
    rcases List.mem_cons.mp hq with rfl | hq
    · exact ⟨hT1, (fresh _ (Nat.le_of_lt hB1)).2, (fresh _ (Nat.le_of_lt hB1)).1⟩
    exact ⟨hk _ _ (fun z => (hw _ z).2.2 _ hq rfl) (N q hq).1, (N q hq).2⟩
theorem list_zip_K3 {z : Nat} {tup : Nat → List Value} (hA : A.handled = none) (F : Fr h₀ L s.heap m) (N : News h₀ L s.heap news) (Z : ZipK prog w h₀ L news z 3 tup false s.heap)
    (h : ∀ (D T0 T1 T2 : Nat) c h', Fr h₀ L h' m → News h₀ L h' ((D, PySem.W.listOf [.ref T0, .ref T1, .ref T2].toArray c) :: (T0, ({ cls := .type "tuple", data := .seq (tup 0).toArray } : Obj)) :: (T1, ({ cls := .type "tuple", data := .seq (tup 1).toArray } : Obj)) :: (T2, ({ cls := .type "tuple", data := .seq (tup 2).toArray } : Obj)) :: news) → (∀ q ∈ news, q.1 < D) → D < T0 ∧ D < T1 ∧ D < T2 → Q (.ref D) { s with heap := h' }) :
    wpAny (model prog w) A (call (.type "list") [.ref z]) Q E s := by
  obtain ⟨wr, fp, St, W, hst, hw, hwf, hfp, hz⟩ := Z
  have lt : ∀ q ∈ news, q.1 < s.heap.objs.size := fun q hq => Heap.lt_size (N q hq).1
  have no : ∀ b ∈ ([s.heap.objs.size] : List Addr), b ∉ fp := fun b hb q => by
    rw [List.mem_singleton.mp hb] at q
    exact Nat.lt_irrefl _ (hfp _ q)
  have hL0 := F.ns.lt
  have fresh : ∀ a : Nat, s.heap.objs.size ≤ a → h₀.get? a = none ∧ a ≠ L := fun a ha => by
    refine ⟨?_, fun q => absurd hL0 (by rw [← q]; exact Nat.not_lt.mpr ha)⟩
    cases e : h₀.get? a with
    | none => rfl
    | some o => exact absurd (Heap.lt_size (F.keep _ _ e)) (Nat.not_lt.mpr ha)
  refine list_zip hA (W _ no) (hst _) (by decide) hz (fun b hb => hfp b (hwf b hb)) (fun _ h' acc c hl hD hacc hk => ?_) (fun q => nomatch q)
  match acc, hl with
  | [v0, v1, v2], _ =>
    obtain ⟨T0, rfl, hT0, hB0⟩ := hacc 0 v0 rfl
    obtain ⟨T1, rfl, hT1, hB1⟩ := hacc 1 v1 rfl
    obtain ⟨T2, rfl, hT2, hB2⟩ := hacc 2 v2 rfl
    have F' : Fr h₀ L h' m := ⟨F.ns.at' fun o e => hk _ o (fun q => (hw _ q).2.1 rfl) e, fun b o e => hk b o (fun q => by rw [(hw _ q).1] at e; cases e) (F.keep b o e), F.above⟩
    refine h s.heap.objs.size T0 T1 T2 c h' F' ?_ lt ⟨hB0, hB1, hB2⟩
    intro q hq
    rcases List.mem_cons.mp hq with rfl | hq
    · exact ⟨hD, (fresh _ (Nat.le_refl _)).2, (fresh _ (Nat.le_refl _)).1⟩
    rcases List.mem_cons.mp hq with rfl | hq
    · exact ⟨hT0, (fresh _ (Nat.le_of_lt hB0)).2, (fresh _ (Nat.le_of_lt hB0)).1⟩
    rcases List.mem_cons.mp hq with rfl | hq
    · exact ⟨hT1, (fresh _ (Nat.le_of_lt hB1)).2, (fresh _ (Nat.le_of_lt hB1)).1⟩
    rcases List.mem_cons.mp hq with rfl | hq
    · exact ⟨hT2, (fresh _ (Nat.le_of_lt hB2)).2, (fresh _ (Nat.le_of_lt hB2)).1⟩
    exact ⟨hk _ _ (fun z => (hw _ z).2.2 _ hq rfl) (N q hq).1, (N q hq).2⟩
theorem list_zip_bad {z n : Nat} {tup : Nat → List Value} (hA : A.handled = none) (hn : n ≤ sizeLine) (F : Fr h₀ L s.heap m) (N : News h₀ L s.heap news) (Z : ZipK prog w h₀ L news z n tup true s.heap)
    (h : ∀ h' h'' e tk, Fr h₀ L h' m → News h₀ L h' news → Heap.NewExc h' h'' e "ValueError" → E (.ref e) { s with heap := h'', toks := tk }) :
    wpAny (model prog w) A (call (.type "list") [.ref z]) Q E s := by
  obtain ⟨wr, fp, St, W, hst, hw, hwf, hfp, hz⟩ := Z
  have no : ∀ b ∈ ([s.heap.objs.size] : List Addr), b ∉ fp := fun b hb q => by
    rw [List.mem_singleton.mp hb] at q
    exact Nat.lt_irrefl _ (hfp _ q)
  refine list_zip hA (W _ no) (hst _) hn hz (fun b hb => hfp b (hwf b hb)) (fun q => nomatch q) fun _ h' h'' e tk hk hx => ?_
  exact h h' h'' e tk ⟨F.ns.at' fun o e => hk _ o (fun q => (hw _ q).2.1 rfl) e, fun b o e => hk b o (fun q => by rw [(hw _ q).1] at e; cases e) (F.keep b o e), F.above⟩
    (fun q hq => ⟨hk _ _ (fun z => (hw _ z).2.2 _ hq rfl) (N q hq).1, (N q hq).2⟩) hx
end
end Mine
end
-- ZC
section
open PySem PySem.W PyProof.Rows PySem.Spec PySem.Calls PyProof.V
set_option linter.unusedVariables false
namespace Mine
theorem callWith_typeKw {M : Model} {A : Around} {E : Value → Shared → Prop} {s : Shared} {env : Env} {pos : Pos} {T : String} {e : PySem.Expr} {rest : List PySem.Expr} {kws : List Keyword} {Q : Value → Shared → Prop}
    (h : wpAny M A (spliced (backTo pos (starEach (e :: rest) env))) (fun vs s₁ => wpAny M A (evalAll ((backToKw pos (keywordEach kws env)).map (·.2)))
      (fun kvs s₂ => wpAny M A (call (.type T) vs (((backToKw pos (keywordEach kws env)).filterMap (·.1)).zip kvs)) Q E s₂) E s₁) E s)
    (he : backTo pos (starEach (e :: rest) env) = (false, eval e env >>= fun v => standAt pos >>= fun _ => pure v) :: backTo pos (starEach rest env) ∨ backTo pos (starEach (e :: rest) env) = (false, eval e env) :: backTo pos (starEach rest env))
    (hplain : (backTo pos (starEach (e :: rest) env)).any (·.1) = false)
    (hall : (backToKw pos (keywordEach kws env)).all (·.1.isSome) = true)
    (hkw : (backToKw pos (keywordEach kws env)).any (·.1.isNone) = false) :
    wpAny M A (callWith pos (.type T) [] (backTo pos (starEach (e :: rest) env)) (backToKw pos (keywordEach kws env))) Q E s := by
  unfold callWith
  have g : wpAny M A (evalArgs (.type T) true (backTo pos (starEach (e :: rest) env)) (backToKw pos (keywordEach kws env))) (fun a s₁ => wpAny M A (call (.type T) ([] ++ a.pos) a.kw) Q E s₁) E s := by
    rcases he with he | he
    all_goals
      rw [he] at h ⊢
      exact evalArgs_kwB hall h
  refine wpAny_bind (wpAny_holding (wpAny_mono g (fun a s₁ h₁ => wpAny_bind (wpAny_standAt ?_)) fun _ _ x => x))
  simp only [hplain, hkw, Bool.or_false]
  refine wpAny_bind (wpAny_pure ?_)
  exact wpAny_bind (wpAny_mono h₁ (fun r s₂ hr => wpAny_bind (wpAny_holding (wpAny_point (wpAny_pure hr)))) fun _ _ x => x)
end Mine
end
-- ZL
section
open PySem PySem.W PyProof.Rows PySem.Spec PySem.Calls PyProof.V PyProof.Rows.LCg
set_option linter.unusedVariables false
namespace Mine
def Yields (prog : Program) (w : World) (A : Around) (env : Env) (e : PySem.Expr) (v : Value) (s : Shared) : Prop :=
  ∀ (Q : Value → Shared → Prop) (E : Value → Shared → Prop), Q v s → wpAny (model prog w) A (eval e env) Q E s
section
variable {prog : Program} {w : World} {A : Around} {E : Value → Shared → Prop} {s : Shared} {h₀ : Heap} {L : Addr} {m : Str → Option Value} {env : Env} {news : List (Addr × Obj)}
theorem tup3 {env : Env} {e1 e2 e3 : PySem.Expr} {k} {pos : Pos} {v1 v2 v3 : Value} {Q : Value → Shared → Prop} (y1 : Yields prog w A env e1 v1 s) (y2 : Yields prog w A env e2 v2 s) (y3 : Yields prog w A env e3 v3 s)
    (n1 : starEach [e1, e2, e3] env = [(false, eval e1 env), (false, eval e2 env), (false, eval e3 env)])
    (h : Q (.ref s.heap.objs.size) { s with heap := s.heap.push { cls := .type "tuple", data := .seq [v1, v2, v3].toArray } }) : wpAny (model prog w) A (eval (.Tuple [e1, e2, e3] k pos) env) Q E s := by
  refine wpAny_Tuple_spliced ?_
  rw [n1]
  show wpAny _ _ (spliced [(false, eval e1 env), (false, eval e2 env), (false, eval e3 env)]) _ _ _
  refine spliced_cons (y1 _ _ ?_)
  refine spliced_cons (y2 _ _ ?_)
  refine spliced_cons (y3 _ _ ?_)
  exact spliced_nil ⟨by show (3 : Nat) ≤ sizeLine; decide, h⟩
/-- the source of a comprehension over a strict zip -/
def SrcZ (prog : Program) (w : World) (A : Around) (h₀ : Heap) (L : Addr) (m : Str → Option Value) (env : Env) (e1 e2 e3 : PySem.Expr) (a b : Str) (scope : Scope) (cl : List (Str × Addr)) (Q : Value → Shared → Prop) (xv : Value) (s₁ : Shared) : Prop :=
  ∃ (z n : Nat) (tup out : Nat → List Value) (news : List (Addr × Obj)), xv = .ref z ∧ A.handled = none ∧ Fr h₀ L s₁.heap m ∧ News h₀ L s₁.heap news ∧ ZipK prog w h₀ L news z n tup false s₁.heap ∧ n ≤ sizeLine ∧
    (∀ (i : Nat) C oC m₂ h tk, i < n → NsObj oC m₂ → m₂ a = (tup i)[0]? → m₂ b = (tup i)[1]? → Fr h₀ L h m → News h₀ L h ((C, oC) :: news) →
      ∃ x y v1 v2 v3, tup i = [x, y] ∧ out i = [v1, v2, v3] ∧ Yields prog w A (compEnvC scope cl C env) e1 v1 { s₁ with heap := h, toks := tk } ∧ Yields prog w A (compEnvC scope cl C env) e2 v2 { s₁ with heap := h, toks := tk } ∧ Yields prog w A (compEnvC scope cl C env) e3 v3 { s₁ with heap := h, toks := tk }) ∧
    (∀ (i : Nat), i < n → ∃ x y, tup i = [x, y]) ∧
    (∀ (B D : Nat) (acc : List Value) h tk, acc.length = n → Fr h₀ L h m → News h₀ L h ((D, LCg.lst acc) :: news) → (∀ p ∈ news, p.1 < D) → D < B → TupAcc B out acc h → (∀ a, D ≤ a → h₀.get? a = none ∧ a ≠ L) → Q (.ref D) { s₁ with heap := h, toks := tk })
theorem ListComp_Z {e1 e2 e3 iter : PySem.Expr} {a b : Str} {pa pb tp pe : Pos} {tk ke} {scope : Scope} {cl : List (Str × Addr)} {pos : Pos} {Q : Value → Shared → Prop} (F₀ : Fr h₀ L s.heap m)
    (hclos : closureFor scope env = pure cl) (hcell : ∀ y ∈ scope.names, y.2 ≠ .cell) (hkind : scope.kind = .function)
    (hnames : ∀ y ∈ scope.names, y.2 = .local → scope.names.lookup y.1 = some .local) (hxa : scope.names.lookup a = some .local) (hxb : scope.names.lookup b = some .local) (hab : a ≠ b)
    (n1 : ∀ C, starEach [e1, e2, e3] (compEnvC scope cl C env) = [(false, eval e1 (compEnvC scope cl C env)), (false, eval e2 (compEnvC scope cl C env)), (false, eval e3 (compEnvC scope cl C env))])
    (h : wpAny (model prog w) A (eval iter env) (SrcZ prog w A h₀ L m env e1 e2 e3 a b scope cl Q) E s)
    (hs : ∀ x, foldedSetIterable iter env x = pure x := by intro _; rfl) :
    wpAny (model prog w) A (eval (.ListComp (.Tuple [e1, e2, e3] ke pe) [⟨.Tuple [.Name a pa, .Name b pb] tk tp, iter, [], 0⟩] scope pos) env) Q E s := by
  rw [eval_ListComp]
  refine wpAny_comprehension_free (use := none) rfl hs hclos hkind hnames (wpAny_mono h (fun xv s₁ h₁ => ?_) fun _ _ e => e)
  obtain ⟨z, n, tup, out, news, rfl, hh, F, N, Z, hsz, hy, h2, hQ⟩ := h₁
  obtain ⟨wr, fp, St, W, hst, hw, hwf, hfp, hz⟩ := Z
  refine (W [] (fun b hb => nomatch hb)).self _ 0 _ _ _ (hst []) ?_
  refine wpAny_newObj_type (wpAny_newFunctionEnv hcell (by intro y hy; simp at hy) (fun h₁ hns₁ hsb₁ => ?_) hkind)
  dsimp only at hns₁ hsb₁ ⊢
  generalize hD : s₁.heap.objs.size = D at *
  generalize hH2 : s₁.heap.push { cls := .type "list", dict := none, data := .seq ([] : List Value).toArray } = H2 at hns₁ hsb₁ ⊢
  have hC : H2.objs.size = D + 1 := by rw [← hH2, Heap.size_push, hD]
  generalize hCe : H2.objs.size = C at *
  have lt : ∀ (b : Nat) o, s₁.heap.get? b = some o → b < D := fun b o e => hD ▸ Heap.lt_size e
  have hfpN : ∀ b : Nat, b ∈ fp → @LT.lt Nat _ b D := hfp
  have old : ∀ b o, s₁.heap.get? b = some o → h₁.get? b = some o := fun b o e => hsb₁.extBut b o (Nat.ne_of_lt (Nat.lt_trans (lt b o e) (by omega))) (Heap.get?_push_of_some _ (hH2 ▸ Heap.get?_push_of_some _ e))
  have hDC : (D : Nat) ≠ C := by omega
  have hacc : h₁.get? D = some { cls := .type "list", data := .seq ([] : List Value).toArray } := hsb₁.extBut _ _ hDC (Heap.get?_push_of_some _ (by rw [← hH2, ← hD]; exact Heap.get?_push_size _ rfl))
  have hLlt : @LT.lt Nat _ L D := by obtain ⟨_, _, _, e, _⟩ := F.ns; exact lt _ _ e
  have fresh : ∀ a : Nat, D ≤ a → h₀.get? a = none ∧ a ≠ L := fun a ha => by
    refine ⟨?_, fun q => absurd hLlt (by rw [← q]; exact Nat.not_lt.mpr ha)⟩
    cases e : h₀.get? a with
    | none => rfl
    | some o => exact absurd (lt _ _ (F.keep _ _ e)) (Nat.not_lt.mpr ha)
  have nlt : ∀ p ∈ news, @LT.lt Nat _ p.1 D := fun p hp => lt _ _ (N p hp).1
  have offp : ∀ b : Nat, b ∈ ([C, D] : List Nat) → b ∉ fp := fun b hb q => by
    have := hfpN b q
    simp only [List.mem_cons, List.not_mem_nil, or_false] at hb
    rcases hb with rfl | rfl <;> omega
  have W2 := W [C, D] offp
  have hCw : C ∉ wr := fun q => W2.wrOff _ q (by simp)
  have hDw : D ∉ wr := fun q => W2.wrOff _ q (by simp)
  have wlt : ∀ b : Nat, b ∈ wr → @LT.lt Nat _ b D := fun b hb => hfpN b (hwf b hb)
  have hsz1 : h₁.objs.size = C + 1 := by rw [hsb₁.1, Heap.size_push, hCe]
  have loop : codeAny (model prog w) A (.compLoop (.ListComp (.Tuple [e1, e2, e3] ke pe) [⟨.Tuple [.Name a pa, .Name b pb] tk tp, iter, [], 0⟩] scope pos) 0 (.ref z) (.ref D) (compEnvC scope cl C env))
      (compPost (model prog w) A E none Q (.ref D) C) { s₁ with heap := h₁, toks := s₁.toks + ([] : List (Str × Value)).length } := by
    refine kcp_loop (fun k s' => ∃ (h' : Heap) (tk i : Nat) (acc : List Value) (m' : Str → Option Value), s' = { s₁ with heap := h', toks := tk } ∧ i ≤ n ∧ k = n + 1 - i ∧ acc.length = i ∧ C + 1 ≤ h'.objs.size ∧ St [C, D] i h' ∧ h'.Ns C m' ∧ Fr h₀ L h' m ∧ News h₀ L h' news ∧
      h'.get? D = some (LCg.lst acc) ∧ TupAcc (C + 1) out acc h') ?_ (n + 1)
      ⟨h₁, _, 0, [], _, rfl, Nat.zero_le _, rfl, rfl, by omega, W2.frame _ _ _ (hst _) fun b o _ e => old b o e, hns₁, F.keeps old, fun p hp => ⟨old _ _ (N p hp).1, (N p hp).2⟩, hacc, fun j v hv => by simp at hv⟩
    rintro k s' ⟨h', tk', i, acc, m', rfl, hi, rfl, hl, hB, hst', hn', F', N', hD', hacc'⟩
    have keepF : ∀ {g g' : Heap}, Fr h₀ L g m → (∀ b o, b ∉ wr → b ≠ C → b ≠ D → g.get? b = some o → g'.get? b = some o) → Fr h₀ L g' m := fun F k =>
      ⟨F.ns.at' fun o e => k _ o (fun q => (hw _ q).2.1 rfl) (Nat.ne_of_lt (by omega)) (Nat.ne_of_lt hLlt) e, fun b o e => k b o (fun q => by rw [(hw _ q).1] at e; cases e) (fun q => by rw [q, (fresh C (by omega)).1] at e; cases e) (fun q => by rw [q, (fresh D (Nat.le_refl _)).1] at e; cases e) (F.keep b o e), F.above⟩
    have keepN : ∀ {g g' : Heap}, News h₀ L g news → (∀ b o, b ∉ wr → b ≠ C → b ≠ D → g.get? b = some o → g'.get? b = some o) → News h₀ L g' news := fun N k p hp =>
      ⟨k _ _ (fun z => (hw _ z).2.2 _ hp rfl) (Nat.ne_of_lt (by have := nlt p hp; omega)) (Nat.ne_of_lt (nlt p hp)) (N p hp).1, (N p hp).2⟩
    by_cases hlt : i < n
    · refine W2.item _ i _ _ _ hlt hst' (fun b hb => ?_) fun h₂ hst₂ hT₂ hsz₂ hk₂ => ?_
      · simp only [List.mem_cons, List.not_mem_nil, or_false] at hb
        show @LT.lt Nat _ b h'.objs.size
        rcases hb with rfl | rfl
        · exact hB
        · exact Nat.lt_of_lt_of_le (by omega) hB
      dsimp only
      refine W2.go _ _ _ _ (i + 1) _ _ _ _ hst₂ fun h₃ hst₃ hsz₃ hk₃ => ?_
      obtain ⟨x, y, hxy⟩ := h2 i hlt
      have hTw : h'.objs.size ∉ wr := fun q => by have q2 := wlt _ q; have q3 : C + 1 ≤ h'.objs.size := hB; omega
      have hT₃ : h₃.IsTuple h'.objs.size #[x, y] := (by have q := hk₃ _ _ hTw hT₂; rw [hxy] at q; exact ⟨_, q, rfl, _, rfl⟩)
      have hn₃ : h₃.Ns C m' := hn'.at' fun o e => hk₃ _ o hCw (hk₂ _ o hCw e)
      refine kcp_assign (env := compEnvC scope cl C env) hh hT₃ (lookup_relabel_local hxa) (lookup_relabel_local hxb) (by simp [compEnvC, relabel, hkind]) hn₃ fun h₄ tk₄ hn₄ hk₄ => ?_
      have k24 : ∀ b o, b ∉ wr → b ≠ C → b ≠ D → h'.get? b = some o → h₄.get? b = some o := fun b o h1 h2 _ e => hk₄ b o h2 (hk₃ b o h1 (hk₂ b o h1 e))
      have F₄ := keepF F' k24
      have N₄ := keepN N' k24
      obtain ⟨oC, heC, hoC⟩ := ns_obj hn₄
      obtain ⟨x', y', v1, v2, v3, hxy', hout, y1, y2, y3⟩ := hy i C oC _ h₄ tk₄ hlt hoC (by rw [hxy]; simp [hab]) (by rw [hxy]; simp) F₄ (fun p hp => by
        rcases List.mem_cons.mp hp with rfl | hp
        · exact ⟨heC, (fresh C (by omega)).2, (fresh C (by omega)).1⟩
        · exact N₄ p hp)
      refine tup3 y1 y2 y3 (n1 C) ?_
      have hD₄ : h₄.get? D = some (LCg.lst acc) := hk₄ _ _ hDC (hk₃ _ _ hDw (hk₂ _ _ hDw hD'))
      have sz₄ : C + 1 ≤ h₄.objs.size := Nat.succ_le_of_lt (Heap.lt_size heC)
      have hD₅ : (h₄.push { cls := .type "tuple", data := .seq [v1, v2, v3].toArray }).get? D = some (LCg.lst acc) := Heap.get?_push_of_some _ hD₄
      refine append_at (hsz := by show acc.toArray.size ≤ sizeLine; rw [List.size_toArray, hl]; omega) hD₅ fun h₆ hs₆ hD₆ => ?_
      have up : ∀ b o, b ≠ D → h₄.get? b = some o → h₆.get? b = some o := fun b o hb e => hs₆.extBut b o hb (Heap.get?_push_of_some _ e)
      have k26 : ∀ b o, b ∉ wr → b ≠ C → b ≠ D → h'.get? b = some o → h₆.get? b = some o := fun b o h1 h2 h3 e => up b o h3 (k24 b o h1 h2 h3 e)
      refine ⟨n + 1 - (i + 1), by omega, h₆, tk₄, i + 1, acc ++ [.ref h₄.objs.size], _, rfl, hlt, rfl, by rw [List.length_append, hl]; rfl, ?_, ?_, hn₄.at' fun o e => up _ o (Ne.symm hDC) e, keepF F' k26, keepN N' k26, ?_, ?_⟩
      · rw [hs₆.1]
        show C + 1 ≤ (h₄.push _).objs.size
        rw [Heap.size_push]; omega
      · refine W2.frame _ _ _ hst₃ fun b o hb e => ?_
        have h1 : b ≠ C := fun q => hb (by simp [q])
        have h2 : b ≠ D := fun q => hb (by simp [q])
        exact up b o h2 (hk₄ b o h1 e)
      · exact hD₆.trans (congrArg some (LCg.lst_snoc acc _))
      · intro j v hv
        rcases Nat.lt_or_ge j acc.length with q | q
        · rw [List.getElem?_append_left q] at hv
          obtain ⟨T, rfl, hT, hBT⟩ := hacc' j v hv
          exact ⟨T, rfl, k26 _ _ (fun q => absurd (wlt T q) (Nat.not_lt.mpr (Nat.le_trans (by omega) hBT))) (Nat.ne_of_gt (by omega)) (Nat.ne_of_gt (by omega)) hT, hBT⟩
        · rw [List.getElem?_append_right q] at hv
          have hj : j = acc.length := by
            rcases Nat.lt_or_ge (j - acc.length) 1 with q2 | q2
            · omega
            · rw [List.getElem?_eq_none (by simpa using q2)] at hv; cases hv
          subst hj
          rw [Nat.sub_self] at hv
          cases hv
          refine ⟨h₄.objs.size, rfl, ?_, sz₄⟩
          rw [hl, hout]
          exact hs₆.extBut _ _ (Nat.ne_of_gt (by omega)) (Heap.get?_push_size _ rfl)
    · obtain rfl : i = n := Nat.le_antisymm hi (Nat.not_lt.mp hlt)
      refine W2.stop _ _ _ _ hh rfl hst' fun h₂ hk₂ => ?_
      have k2 : ∀ b o, b ∉ wr → b ≠ C → b ≠ D → h'.get? b = some o → h₂.get? b = some o := fun b o h1 _ _ e => hk₂ b o h1 e
      refine ⟨m', hn'.at' fun o e => hk₂ _ o hCw e, fun h'' hs'' => ?_⟩
      have k3 : ∀ b o, b ∉ wr → b ≠ C → b ≠ D → h'.get? b = some o → h''.get? b = some o := fun b o h1 h2 _ e => hs''.extBut b o h2 (hk₂ b o h1 e)
      refine hQ (C + 1) D acc h'' tk' hl (keepF F' k3) (fun p hp => ?_) nlt (by omega) (fun j v hv => ?_) fresh
      · rcases List.mem_cons.mp hp with rfl | hp
        · exact ⟨hs''.extBut _ _ hDC (hk₂ _ _ hDw hD'), (fresh D (Nat.le_refl _)).2, (fresh D (Nat.le_refl _)).1⟩
        · exact keepN N' k3 p hp
      · obtain ⟨T, rfl, hT, hBT⟩ := hacc' j v hv
        exact ⟨T, rfl, k3 _ _ (fun q => absurd (wlt T q) (Nat.not_lt.mpr (Nat.le_trans (by omega) hBT))) (Nat.ne_of_gt (by omega)) (Nat.ne_of_gt (by omega)) hT, hBT⟩
  exact codeAny_compStart_list loop (W2.self _ 0 _ _ _ (W2.frame _ _ _ (hst _) fun b o _ e => old b o e) loop)
end
end Mine
end
-- ZM
section
open PySem PySem.W PyProof.Rows PySem.Spec PySem.Calls PyProof.V
set_option linter.unusedVariables false
namespace Mine
theorem acc2 {h₀ h : Heap} {L : Addr} {news : List (Addr × Obj)} {D B : Nat} {acc : List Value} {out : Nat → List Value} (hl : acc.length = 2) (N : News h₀ L h ((D, LCg.lst acc) :: news)) (hDB : D < B) (ha : TupAcc B out acc h) (fr : ∀ a, D ≤ a → h₀.get? a = none ∧ a ≠ L) :
    ∃ T0 T1 : Nat, News h₀ L h ((D, LCg.lst [.ref T0, .ref T1]) :: (T0, ({ cls := .type "tuple", data := .seq (out 0).toArray } : Obj)) :: (T1, ({ cls := .type "tuple", data := .seq (out 1).toArray } : Obj)) :: news) ∧ D < T0 ∧ D < T1 := by
  match acc, hl with
  | [v0, v1], _ =>
    obtain ⟨T0, rfl, h0, b0⟩ := ha 0 v0 rfl
    obtain ⟨T1, rfl, h1, b1⟩ := ha 1 v1 rfl
    refine ⟨T0, T1, fun q hq => ?_, Nat.lt_of_lt_of_le hDB b0, Nat.lt_of_lt_of_le hDB b1⟩
    have f0 := fr T0 (Nat.le_of_lt (Nat.lt_of_lt_of_le hDB b0))
    have f1 := fr T1 (Nat.le_of_lt (Nat.lt_of_lt_of_le hDB b1))
    rcases List.mem_cons.mp hq with rfl | hq
    · exact N _ List.mem_cons_self
    rcases List.mem_cons.mp hq with rfl | hq
    · exact ⟨h0, f0.2, f0.1⟩
    rcases List.mem_cons.mp hq with rfl | hq
    · exact ⟨h1, f1.2, f1.1⟩
    exact N _ (List.mem_cons_of_mem _ hq)
end Mine
end
-- GX
section
open PySem PySem.W PyProof.Rows PySem.Spec PySem.Calls PyProof.V
set_option maxRecDepth 100000
set_option maxHeartbeats 3000000
set_option linter.unusedVariables false
set_option pp.deepTerms false
set_option pp.deepTerms.threshold 7
set_option pp.proofs false
namespace Mine
def GT (pos : Pos) (ps : Array Value) : Prop := ps = #[] ∨ ∃ cg : Addr, ps = #[rawInt pos.line, rawInt pos.col, .ref cg]
section
variable {M : Model} {A : Around} {E : Value → Shared → Prop} {s : Shared} {h₀ : Heap} {L : Addr} {m : Str → Option Value} {news : List (Addr × Obj)}
theorem gcode {env : Env} {c P : Addr} {ps : Array Value} {pos : Pos} {qual : Str} {scope : Scope} {Q : Value → Shared → Prop} (hc : env.code = .ref c) (C : CodeHd s.heap c P) (F : Fr h₀ L s.heap m) (N : News h₀ L s.heap ((P, tabObj ps) :: news)) (hG : GT pos ps) (hne : ∀ p ∈ news, p.1 ≠ P)
    (h : ∀ (cg : Addr) ps' h' tk, GT pos ps' → Fr h₀ L h' m → News h₀ L h' ((P, tabObj ps') :: news) → (∀ b o, b ≠ P → s.heap.get? b = some o → h'.get? b = some o) → s.heap.objs.size ≤ h'.objs.size → Q (.ref cg) { s with heap := h', toks := tk }) :
    wpAny M A (genexprCode env pos qual scope) Q E s := by
  have hm := N _ List.mem_cons_self
  rcases hG with rfl | ⟨cg, rfl⟩
  · refine wpAny_genexprCodeX hc (C.code hm.1 trivial) (C.tab hm.1) rfl fun c' h' tk hx hge hlt hcode hrec htab hown => ?_
    refine h c' #[rawInt pos.line, rawInt pos.col, .ref c'] h' tk (.inr ⟨c', rfl⟩) ⟨F.ns.extBut hx hm.2.1.symm, fun b o e => hx b o (fun q => by rw [q, hm.2.2] at e; cases e) (F.keep b o e), F.above⟩ (fun p hp => ?_) hx (Nat.le_trans hge (Nat.le_of_lt hlt))
    rcases List.mem_cons.mp hp with rfl | hp
    · exact ⟨htab.2, hm.2⟩
    · have n := N p (List.mem_cons_of_mem _ hp)
      exact ⟨hx _ _ (hne p hp) n.1, n.2⟩
  · exact wpAny_genexprCode_hit hc (C.code hm.1 (by simp [TriplesOk, rawInt])) (by simp [codeAmong, rawInt]) (h cg _ s.heap s.toks (.inr ⟨cg, rfl⟩) F N (fun b o _ e => e) (Nat.le_refl _))
theorem g_local {G : Env} {x : Str} {pos : Pos} {v : Value} {Q : Value → Shared → Prop} (hk : G.scope.kind = .function) (hx : G.kindOf x = some .local) (hn : s.heap.Ns G.locals m) (hm : m x = some v) (h : Q v s) (hd : (x == ("__debug__" : Str)) = false := by decide) :
    wpAny M A (eval (.Name x pos) G) Q E s := wpAny_Name (wpAny_loadName_local hk hx hn hm h) hd
theorem g_free {G : Env} {x : Str} {pos : Pos} {v : Value} {c : Addr} {o : Obj} {Q : Value → Shared → Prop} (hk : G.scope.kind = .function) (hx : G.kindOf x = some .free) (hc : G.cells.lookup x = some c) (N : News h₀ L s.heap news) (hmem : (c, o) ∈ news) (ho : o.data = .cell (some v)) (h : Q v s)
    (hd : (x == ("__debug__" : Str)) = false := by decide) (hn : (x == ("__classdict__" : Str)) = false := by decide) :
    wpAny M A (eval (.Name x pos) G) Q E s := wpAny_Name (wpAny_loadName_free hk hx hc ⟨o, N.get hmem, ho⟩ h hn) hd
end
section
variable {prog : Program} {w : World} {A : Around} {E : Value → Shared → Prop} {s : Shared} {h₀ : Heap} {L : Addr} {m mg mb : Str → Option Value} {news : List (Addr × Obj)} {p : Program} {loose : List Str} {mean : ExcName → Option Value}
theorem gen_pairs {env : Env} {elt iter : PySem.Expr} {xa xb : Str} {pa pb pt : Pos} {kt : Nat} {scope : Scope} {cl : List (Str × Addr)} {pos : Pos} {Q : Value → Shared → Prop} {c P D k : Nat} {ps : Array Value} {vs : List Value} {vals : Nat → Array Value} {q : Nat → Bool}
    (hcode : env.code = .ref c) (hglob : env.globals = mainGlobals) (F : Fr h₀ L s.heap m) (T : Top p loose mean mg mb h₀) (N : News h₀ L s.heap ((P, tabObj ps) :: news)) (hG : GT pos ps) (hne : ∀ p ∈ news, p.1 ≠ P) (C : CodeHd s.heap c P) (AB : AllBare s.gens)
    (hh : A.handled = none) (hco : scope.isCoroutine = false) (hclos : closureFor scope env = pure cl) (hcell : ∀ y ∈ scope.names, y.2 ≠ .cell) (h0 : scope.names.lookup (".0" : Str) = some NameKind.local)
    (hxa : scope.names.lookup xa = some .local) (hxb : scope.names.lookup xb = some .local) (hab : xa ≠ xb) (hkind : scope.kind = .function) (hroom : A.depth < recursionLimit)
    (hiter : Yields prog w A env iter (.ref D) s) (hs : ∀ x, genFold iter env x = pure x)
    (mD : (D, PySem.W.listOf vs.toArray k) ∈ news) (hvs : ∀ j, j < vs.length → ∃ (T n : Nat), vs[j]? = some (.ref T) ∧ (T, ({ cls := .type "tuple", data := .seq (vals j) n } : Obj)) ∈ news)
    (hv2 : ∀ j, j < vs.length → ∃ va vb, vals j = #[va, vb])
    (helt : ∀ (cg C : Addr) (A' : Around) (E' : Value → Shared → Prop) (i : Nat) (va vb : Value) (s₂ : Shared) (m₂ : Str → Option Value), A'.handled = none → i < vs.length → #[va, vb] = vals i → s₂.heap.Ns C m₂ → m₂ xa = some va → m₂ xb = some vb → News h₀ L s₂.heap news →
      wpAny (model prog w) A' (eval elt (genEnv scope cl C (.ref cg) builtinsNs env)) (fun y s₃ => y = .bool (q i) ∧ Keeps s₂ s₃) E' s₂)
    (hQ : ∀ (a K : Nat) ps' s', GT pos ps' → Fr h₀ L s'.heap m → News h₀ L s'.heap ((P, tabObj ps') :: news) → AllBare s'.gens → s'.os = s.os → L ≤ K → (∀ p ∈ (P, tabObj ps') :: news, p.1 ≤ K) → Gen prog w A K a vs.length (fun j y => y = .bool (q j)) s' → Q (.ref a) s') :
    wpAny (model prog w) A (eval (.GeneratorExp elt [⟨.Tuple [.Name xa pa, .Name xb pb] kt pt, iter, [], 0⟩] scope pos) env) Q E s := by
  refine wpAny_GeneratorExp_walksQT hh hco hclos hcell h0 hxa hxb hab hkind hroom (hiter _ _ ?_) hs
  have mD' := N _ (List.mem_cons_of_mem _ mD)
  have hlD : s.heap.IsList D vs.toArray := ⟨_, mD'.1, rfl, _, rfl⟩
  refine wpAny_pyIter_list hlD ?_
  generalize hI : s.heap.objs.size = I at *
  have ltI : ∀ (b : Nat) o, s.heap.get? b = some o → b < I := fun b o e => hI ▸ Heap.lt_size e
  have up : ∀ b o, s.heap.get? b = some o → (s.heap.push { cls := .type "list_iterator", data := .fields #[.ref D, .int 0 0] }).get? b = some o := fun b o e => Heap.get?_push_of_some _ e
  have gI : (s.heap.push { cls := .type "list_iterator", data := .fields #[.ref D, .int 0 0] }).get? I = some { cls := .type "list_iterator", data := .fields #[.ref D, .int 0 0] } := by rw [← hI]; exact Heap.get?_push_size _ rfl
  have szI : (s.heap.push { cls := .type "list_iterator", data := .fields #[.ref D, .int 0 0] }).objs.size = I + 1 := by rw [Heap.size_push, hI]
  generalize hH : s.heap.push { cls := .type "list_iterator", data := .fields #[.ref D, .int 0 0] } = H at *
  have hLI : L < I := by obtain ⟨_, _, _, e, _⟩ := F.ns; exact ltI _ _ e
  have I₀ : h₀.get? I = none := by
    cases e : h₀.get? I with
    | none => rfl
    | some o => exact absurd (ltI _ _ (F.keep _ _ e)) (Nat.lt_irrefl _)
  have N₁ : News h₀ L H ((P, tabObj ps) :: (I, ({ cls := .type "list_iterator", data := .fields #[.ref D, .int 0 0] } : Obj)) :: news) := fun q hq => by
    rcases List.mem_cons.mp hq with rfl | hq
    · have n := N _ List.mem_cons_self; exact ⟨up _ _ n.1, n.2⟩
    rcases List.mem_cons.mp hq with rfl | hq
    · exact ⟨gI, Nat.ne_of_gt hLI, I₀⟩
    · have n := N _ (List.mem_cons_of_mem _ hq); exact ⟨up _ _ n.1, n.2⟩
  have nlt : ∀ q ∈ news, q.1 < I := fun q hq => ltI _ _ (N _ (List.mem_cons_of_mem _ hq)).1
  have PI : P < I := ltI _ _ (N _ List.mem_cons_self).1
  have hne₁ : ∀ q ∈ (I, ({ cls := .type "list_iterator", data := .fields #[.ref D, .int 0 0] } : Obj)) :: news, q.1 ≠ P := fun q hq => by
    rcases List.mem_cons.mp hq with rfl | hq
    · exact Nat.ne_of_gt PI
    · exact hne q hq
  have hlim : H.NoLimit := (T.nolimit.keeps F.keep).keeps up
  refine ⟨hlim, gcode (ps := ps) hcode (C.keeps up) (F.keeps up) N₁ hG hne₁ fun cg ps' h₃ tk₃ hG' F₃ N₃ hk₃ hsz₃ => ?_⟩
  obtain ⟨bm, ob, b1, b2, b3, b4, b5, b6⟩ := T.bmain
  have hg₃ := T.g.keeps F₃.keep
  rw [hglob]
  refine wpAny_builtinsFor hg₃ b1 b2 (F₃.keep _ _ b3) b4 b5 b6 ?_
  have hlim₃ : h₃.NoLimit := T.nolimit.keeps F₃.keep
  have hIs : I < h₃.objs.size := Heap.lt_size (N₃ _ (List.mem_cons_of_mem _ List.mem_cons_self)).1
  have lt₃ : ∀ q ∈ news, q.1 < h₃.objs.size := fun q hq => Nat.lt_trans (nlt q hq) hIs
  have hcI : cStatics ≠ I := by
    obtain ⟨_, hn, _⟩ := T.nolimit.keeps F.keep
    exact Nat.ne_of_lt (hI ▸ hn.lt)
  refine ⟨I, List.range h₃.objs.size, [I], vs.length, _, LSt I D h₃.objs.size vs vals, _, fun _ => true, fun i y => y = .bool (q i), rfl, fun A' hA => walks_pairs prog w hA hIs, ?_, ?_, ?_, hlim₃, ?_, ?_, ?_⟩
  · rintro i v ⟨hi, rfl⟩
    exact hv2 i hi
  · have nD := N₃ _ (List.mem_cons_of_mem _ (List.mem_cons_of_mem _ mD))
    refine ⟨⟨_, (N₃ _ (List.mem_cons_of_mem _ List.mem_cons_self)).1, rfl, rfl⟩, ⟨_, nD.1, rfl, _, rfl⟩, fun j hj => ?_, Nat.ne_of_lt (nlt _ mD), lt₃ _ mD, hIs⟩
    obtain ⟨T', n, e, mT⟩ := hvs j hj
    exact ⟨T', e, ⟨_, (N₃ _ (List.mem_cons_of_mem _ (List.mem_cons_of_mem _ mT))).1, rfl, _, rfl⟩, Nat.ne_of_lt (nlt _ mT), lt₃ _ mT⟩
  · exact fun b hb => List.mem_range.mp hb
  · exact fun hb => hcI (List.mem_singleton.mp hb)
  · intro href hhref
    refine ⟨fun A' E' i va vb s₂ m₂ hA hP hn ma mb' hkp => ?_, fun A' E' i va vb s₂ m₂ hA hP hp hn ma mb' hkp => ?_⟩
    · rw [List.forIn_nil]
      exact wpAny_pure ⟨rfl, ⟨s₂.heap, s₂.toks, rfl, fun b o e => e⟩⟩
    · refine helt cg _ A' E' i va vb s₂ m₂ hA hP.1 hP.2 hn ma mb' fun p hp => ?_
      have n := N₃ p (List.mem_cons_of_mem _ (List.mem_cons_of_mem _ hp))
      exact ⟨hkp p.1 (List.mem_range.mpr (lt₃ p hp)) (fun hb => absurd (List.mem_singleton.mp hb) (Nat.ne_of_lt (nlt p hp))) _ (hhref _ _ n.1), n.2⟩
  · intro a h₅ tk gs hgb hag hsz₅ hk₅ W hat
    have hp : passing (fun _ => true) vs.length 0 = List.range vs.length := by simp [passing]
    rw [hp, List.length_range] at W
    refine hQ a (I - 1) ps' _ hG' (F₃.keeps hk₅) (fun q hq => ?_) (AB.push hgb) rfl (Nat.le_sub_one_of_lt hLI) (fun q hq => ?_) (Gen.imp ⟨_, _, _, _, W, hat, (fun i s' st => st.1.typeIs), List.mem_cons_self, ?_, ?_⟩ ?_)
    · have hq' : q ∈ (P, tabObj ps') :: (I, ({ cls := .type "list_iterator", data := .fields #[.ref D, .int 0 0] } : Obj)) :: news := by
        rcases List.mem_cons.mp hq with rfl | hq
        · exact List.mem_cons_self
        · exact List.mem_cons_of_mem _ (List.mem_cons_of_mem _ hq)
      have n := N₃ q hq'
      exact ⟨hk₅ _ _ n.1, n.2⟩
    · rcases List.mem_cons.mp hq with rfl | hq
      · exact Nat.le_sub_one_of_lt PI
      · exact Nat.le_sub_one_of_lt (nlt q hq)
    · intro b hb
      show b < h₅.objs.size
      rw [hsz₅]
      rcases List.mem_cons.mp hb with rfl | hb
      · exact Nat.lt_succ_self _
      rcases List.mem_cons.mp hb with rfl | hb
      · exact Nat.lt_succ_of_lt hag
      · exact Nat.lt_succ_of_lt (Nat.lt_trans (List.mem_range.mp hb) hag)
    · intro b hb
      have hI1 : I - 1 < I := Nat.sub_lt (Nat.lt_of_le_of_lt (Nat.zero_le _) hLI) (by decide)
      rcases List.mem_cons.mp hb with rfl | hb
      · exact Nat.lt_trans hI1 hIs
      · rw [List.mem_singleton.mp hb]; exact hI1
    · rintro j y ⟨i, hi, rfl⟩
      have e : i = j := by
        rcases Nat.lt_or_ge j vs.length with h | h
        · rw [List.getElem?_range h] at hi; exact (Option.some.inj hi).symm
        · rw [List.getElem?_eq_none (by simpa using h)] at hi; cases hi
      rw [e]
end
end Mine
end
-- GC
section
open PySem PySem.W PyProof.Rows PySem.Spec PySem.Calls PyProof.V
set_option linter.unusedVariables false
namespace Mine
abbrev gpos : Pos := ⟨14, 23, 14, 86⟩
/-- not the table of a code object -/
def NotTab (o : Obj) : Prop := ∀ qs : Array Value, o = tabObj qs → ∃ x t, qs[1]? = some (.str x t)
def NoT : List (Addr × Obj) → Prop
  | [] => True
  | p :: r => NotTab p.2 ∧ NoT r
theorem NoT.at : ∀ {l : List (Addr × Obj)}, NoT l → ∀ p ∈ l, NotTab p.2
  | [], _, _, h => nomatch h
  | q :: r, x, p, h => by
    rcases List.mem_cons.mp h with rfl | h
    · exact x.1
    · exact NoT.at x.2 p h
theorem NoT.of : ∀ {l : List (Addr × Obj)}, (∀ p ∈ l, NotTab p.2) → NoT l
  | [], _ => trivial
  | q :: r, h => ⟨h q List.mem_cons_self, NoT.of fun p hp => h p (List.mem_cons_of_mem _ hp)⟩
theorem NoT.app {l r : List (Addr × Obj)} (h : NoT l) (h' : NoT r) : NoT (l ++ r) := .of fun p hp => (List.mem_append.mp hp).elim (h.at p) (h'.at p)
theorem notTab_seq {c : Value} {d : Option Addr} {x n sl} : NotTab ⟨c, d, .seq x n, sl⟩ := fun qs q => by simp [tabObj] at q
theorem notTab_func {c : Value} {d : Option Addr} {fd sl} : NotTab ⟨c, d, .func fd, sl⟩ := fun qs q => by simp [tabObj] at q
theorem notTab_dict {o : Obj} {es n} (h : o.data = .dict es n) : NotTab o := fun qs q => by rw [q] at h; simp at h
theorem notTab_cell {o : Obj} {v} (h : o.data = .cell v) : NotTab o := fun qs q => by rw [q] at h; simp at h
theorem notTab_code {o : Obj} {vs : Array Value} {x t} (h : o.data = .fields vs) (h1 : vs[1]? = some (.str x t)) : NotTab o := fun qs q => by
  rw [q] at h
  cases h
  exact ⟨x, t, h1⟩
theorem GT.noStr {pos : Pos} {ps : Array Value} (h : GT pos ps) : ¬ ∃ x t, ps[1]? = some (.str x t) := by
  rintro ⟨x, t, e⟩
  rcases h with rfl | ⟨cg, rfl⟩
  · simp at e
  · simp [rawInt] at e
/-- what is no table does not lie where a table lies -/
theorem off_table {h₀ h : Heap} {L P : Addr} {news : List (Addr × Obj)} {pos : Pos} {ps : Array Value} (N : News h₀ L h news) (hP : (P, tabObj ps) ∈ news) (hG : GT pos ps) {q : Addr × Obj} (hq : q ∈ news) (ht : NotTab q.2) : q.1 ≠ P := fun e => by
  have a := (N _ hP).1
  have b := (N _ hq).1
  rw [e, a] at b
  exact hG.noStr (ht ps (Option.some.inj b).symm)
def CatMatch (w : World) (P f : Addr) (led : List (Addr × Obj)) (spec : List (PyData × PyData) → List (PyData × PyData) → Bool) : Prop :=
  ∀ (rest : List (Addr × Obj)) (ps : Array Value) (d1 d2 : Addr) (D1 D2 : List (PyData × PyData)), GT gpos ps → (∀ q ∈ led ++ rest, q.1 ≠ P) → RowAt w rest d1 D1 → RowAt w rest d2 D2 →
    ∀ (p : Program) (loose : List Str) (mean : ExcName → Option Value) (mg mb : Str → Option Value) (dp un : Nat) (gd : Option (List Code)) (cn : Str) (cs : Scope) (a : Addr) (ccd : Value) (cl : List (Str × Addr)) (outer : List Env) (A₀ : Around) (base h₀ : Heap) (L : Addr) (m : Str → Option Value) (s : Shared)
      (Q E : Value → Shared → Prop),
      Below A₀ base outer h₀ → Fr h₀ L s.heap m → (Mine.hd.heap_39 w.params).In h₀ → News h₀ L s.heap ((P, tabObj ps) :: (led ++ rest)) → Top p loose mean mg mb h₀ → cs.kind = .function → dp + 10 ≤ 500 → un + 10 * 10 ≤ 5000 → AllBare s.gens →
      (∀ ps' s', GT gpos ps' → AllBare s'.gens → s'.os = s.os → Fr h₀ L s'.heap m → News h₀ L s'.heap ((P, tabObj ps') :: (led ++ rest)) → Q (.bool (spec D1 D2)) s') →
      wpAny (model PySem.Challenge.rw_au6007_01.row.prog w) (ktrTop dp un gd cn cs L a ccd cl outer) (call (.ref f) [.ref d1, .ref d2]) Q E s
section
variable {prog : Program} {w : World} {A₀ A : Around} {s : Shared} {base h₀ : Heap} {L : Addr} {m mg mb : Str → Option Value} {news : List (Addr × Obj)} {K : Frag} {p : Program} {loose : List Str} {mean : ExcName → Option Value}
theorem code_two {env : Env} {outer : List Env} {R : Result → Shared → Prop} {name qual : Str} {params : Arguments} {body : List Stmt} {scope : Scope} {cl : List (Str × Addr)} {doc pm ctv : Value} {c' : Addr} {f : Addr} {args : Args} {v1 v2 : Value} {x1 x2 : Str}
    (B : Below A₀ base outer h₀) (F : Fr h₀ L s.heap m) (X₀ : K.In h₀) (N : News h₀ L s.heap news) (T : Top p loose mean mg mb h₀) (hA : A.frames = some (env :: outer)) (hf : env.frame = some L) (hke : env.scope.kind = .function)
    (ho : (f, fnMade name qual params body scope cl doc pm c' ctv) ∈ news) (hcd : s.heap.CodeRec (.ref c') qual) (hroom : A.depth < recursionLimit)
    (hbind : BindsTo s (fnX name qual params body scope cl .none .none doc pm none (.ref c') ctv) args [(x1, v1), (x2, v2)])
    (hcs : ∀ n, cellsFrom n scope.names cl = (x2, n + 1) :: (x1, n) :: cl) (hps : ∀ h : Heap, pushCells h scope.names = (h.push cellO).push cellO)
    (k1 : scope.names.lookup x1 = some .cell) (k2 : scope.names.lookup x2 = some .cell) (hne : (x1 == x2) = false)
    (h : ∀ g (L' : Nat) h₁ tk o1 o2, Fr h₀ L g m → Fr g L' h₁ (fun _ => none) → News g L' h₁ ((L' + 1, o1) :: (L' + 2, o2) :: news) → o1.data = .cell (some v1) → o2.data = .cell (some v2) → Below A base (env :: outer) g → K.In g → Top p loose mean mg mb g → (∀ p ∈ news, p.1 < L') →
      wpAny (model prog w) (A.deeper (envX qual scope L' f (.ref c') ((x2, L' + 2) :: (x1, L' + 1) :: cl))) (execs body (envX qual scope L' f (.ref c') ((x2, L' + 2) :: (x1, L' + 1) :: cl)))
        (fun fl s' => LeaveK h₀ L m g R (match fl with | .ret v => v | _ => .none) s')
        (fun e s' => wpAny (model prog w) (A.deeper (envX qual scope L' f (.ref c') ((x2, L' + 2) :: (x1, L' + 1) :: cl))) (leaving (envX qual scope L' f (.ref c') ((x2, L' + 2) :: (x1, L' + 1) :: cl)) e) (fun _ s'' => R (.error e) s'') (fun e' s'' => R (.error e') s'') s')
        { s with heap := h₁, toks := tk })
    (hco : scope.isCoroutine = false) (hgen : scope.isGenerator = false) (hk : scope.kind = .function) : codeAny (model prog w) A (.call (.ref f) args) R s :=
  callX_two (cl := cl) B F N T.nolimit hA hf hke (N _ ho).1 rfl hcd hroom hbind hcs hps k1 k2 hne (fun g L' h₁ tk o1 o2 FG F' N' e1 e2 B' st l => h g L' h₁ tk o1 o2 FG F' N' e1 e2 B' (X₀.keeps st) (T.keeps st) l) hco hgen hk
end
end Mine
namespace Mine
theorem news_pull2 {h₀ h : Heap} {L : Addr} {a b c : Addr × Obj} {l : List (Addr × Obj)} (N : News h₀ L h (a :: b :: c :: l)) : News h₀ L h (c :: a :: b :: l) := fun p hp => by
  rcases List.mem_cons.mp hp with rfl | hp
  · exact N _ (List.mem_cons_of_mem _ (List.mem_cons_of_mem _ List.mem_cons_self))
  rcases List.mem_cons.mp hp with rfl | hp
  · exact N _ List.mem_cons_self
  rcases List.mem_cons.mp hp with rfl | hp
  · exact N _ (List.mem_cons_of_mem _ List.mem_cons_self)
  · exact N _ (List.mem_cons_of_mem _ (List.mem_cons_of_mem _ (List.mem_cons_of_mem _ hp)))
theorem pn_of {P : Addr} {big l : List (Addr × Obj)} (h : ∀ q ∈ big, q.1 < P) (hs : ∀ q ∈ l, q ∈ big) : ∀ q ∈ l, q.1 ≠ P := fun q hq => Nat.ne_of_lt (h q (hs q hq))
theorem TabO.ne {h₀ h : Heap} {L : Addr} {l : List (Addr × Obj)} {oc : Obj} {c P : Addr} (N : News h₀ L h l) (T : TabO oc c P) (hm : (c, oc) ∈ l) : c ≠ P := by
  obtain ⟨_, _, _, _, _, _, _, _, _, _, _, _, _, _, _, _, _, _, ne⟩ := T h (N _ hm).1
  exact ne
end Mine
namespace Mine
theorem TabO.at {h₀ h : Heap} {L : Addr} {l : List (Addr × Obj)} {oc : Obj} {c P : Addr} (N : News h₀ L h l) (T : TabO oc c P) (hm : (c, oc) ∈ l) : CodeHd h c P := T h (N _ hm).1
theorem room9 {dp : Nat} (h : dp + 10 ≤ 500) : dp + 1 < recursionLimit := by have : recursionLimit = 1000 := rfl; omega
theorem two_of {j : Nat} (h : j < 2) : j = 0 ∨ j = 1 := by omega
theorem three_of {j : Nat} (h : j < 3) : j = 0 ∨ j = 1 ∨ j = 2 := by omega
theorem pair_eq {a b c d : Value} (h : #[a, b] = #[c, d]) : a = c ∧ b = d := by simpa using h
theorem truth_q {prog : Program} {w : World} {A : Around} (q : Nat → Bool) : TruthOf prog w A (fun j y => y = .bool (q j)) q := fun i v s Q E hv hq => by
  subst hv
  exact wpAny_truthy_bool hq
theorem all_gen9 {prog : Program} {w : World} {A : Around} {E : Value → Shared → Prop} {s : Shared} {h₀ : Heap} {L K a n : Nat} {m : Str → Option Value} {led : List (Addr × Obj)} {q : Nat → Bool} {Q : Value → Shared → Prop} (F : Fr h₀ L s.heap m) (N : News h₀ L s.heap led) (G : AllBare s.gens) (LK : L ≤ K) (KK : ∀ p ∈ led, p.1 ≤ K) (X : Gen prog w A K a n (fun j y => y = .bool (q j)) s)
    (h : ∀ s', Fr h₀ L s'.heap m → News h₀ L s'.heap led → AllBare s'.gens → s'.os = s.os → Q (.bool ((List.range n).all q)) s') : wpAny (model prog w) A (call (.builtin "all") [.ref a]) Q E s :=
  all_rowsK F G X LK q (truth_q q) fun s' F' G' os kp => h s' F' (fun p hp => ⟨kp _ _ (KK p hp) (N p hp).1, (N p hp).2⟩) G' os
end Mine
end
-- LP
section
open PySem PySem.W PyProof.Rows PySem.Spec PySem.Calls PyProof.V
set_option linter.unusedVariables false
namespace Mine
/-- the law's end, where generators may have been made -/
def LawEnd (s₁ : Shared) (tabs : List (Addr × Addr)) (r : Result) (s' : Shared) : Prop :=
  r = .ok (.ret (.bool true)) ∧ (∀ b o, (ghostOf s₁.heap tabs).get? b = some o → s'.heap.get? b = some o) ∧ s'.os = s₁.os ∧ AllBare s'.gens ∧ GrownAll tabs s'.heap
theorem kn_postB {M : Model} {A : Around} {cd : Code} {s s₁ : Shared} {cw : ClaimW} {cl : Str → Option Addr} {mean : ExcName → Option Value} {args : List WData} {tabs : List (Addr × Addr)} (hT : TabsAt tabs s₁.heap)
    (h : codeAny M A cd (LawEnd s₁ tabs) s) (hn : ∀ cls, cw.raises args cls = false) (hp : cw.post args (.bool true) args = true) : codeAny M A cd (GoodWG cw cl mean args s₁) s :=
  codeAny_mono h fun r s' hL => by
    obtain ⟨rfl, hk, hos, hg, hgr⟩ := hL
    refine ⟨.inl ⟨.bool true, .bool true, [], rfl, hn, .bool true, hp, fun _ => ⟨List.nodup_nil, fun _ ha => nomatch ha⟩⟩, ⟨fun b o e => ?_, fun b o e => ?_⟩, hos, hg⟩
    · by_cases hb : b ∈ tabs.map (·.2)
      · obtain ⟨q, hq, rfl⟩ := List.mem_map.mp hb
        have e2 := (hT q hq).2
        rw [e] at e2
        obtain ⟨ps, hP⟩ := hgr.get q hq
        cases e2
        exact .inr (.inl ⟨((hT q hq).1.tab (hT q hq).2).isCodeTable, rfl, #[], ps, rfl, by rw [Array.empty_append]; exact hP⟩)
      · exact .inl (hk b o (ghost_ne e hb))
    · by_cases hb : b ∈ tabs.map (·.2)
      · obtain ⟨q, hq, rfl⟩ := List.mem_map.mp hb
        obtain ⟨ps, hP⟩ := hgr.get q hq
        exact ⟨_, hP⟩
      · exact ⟨o, hk b o (ghost_ne e hb)⟩
end Mine
end
-- LQ
section
open PySem PySem.W PyProof.Rows PySem.Spec PySem.Calls PyProof.V
set_option linter.unusedVariables false
namespace Mine
def Good (w : World) (R : List (Addr × Obj)) (f : Addr) (spec : List (PyData × PyData) → List (PyData × PyData) → Bool) : Prop := ∃ led, IsMatch w led f spec ∧ FnLed led f ∧ ∀ p ∈ led, p ∈ R
def GoodC (w : World) (P : Addr) (R : List (Addr × Obj)) (f : Addr) (spec : List (PyData × PyData) → List (PyData × PyData) → Bool) : Prop := ∃ led, CatMatch w P f led spec ∧ FnLed led f ∧ ∀ p ∈ led, p ∈ R
theorem Good.more {w : World} {R R' : List (Addr × Obj)} {f : Addr} {spec : List (PyData × PyData) → List (PyData × PyData) → Bool} (G : Good w R f spec) (h : ∀ p ∈ R, p ∈ R') : Good w R' f spec := let ⟨led, a, b, c⟩ := G; ⟨led, a, b, fun p hp => h p (c p hp)⟩
theorem GoodC.more {w : World} {P : Addr} {R R' : List (Addr × Obj)} {f : Addr} {spec : List (PyData × PyData) → List (PyData × PyData) → Bool} (G : GoodC w P R f spec) (h : ∀ p ∈ R, p ∈ R') : GoodC w P R' f spec := let ⟨led, a, b, c⟩ := G; ⟨led, a, b, fun p hp => h p (c p hp)⟩
theorem CodeOf.more {R R' : List (Addr × Obj)} {c : Addr} {q : Str} (G : CodeOf R c q) (h : ∀ p ∈ R, p ∈ R') : CodeOf R' c q := let ⟨oc, vs, t, a, b, d⟩ := G; ⟨oc, vs, t, h _ a, b, d⟩
theorem mem_app_self {led news : List (Addr × Obj)} {R : List (Addr × Obj)} (h : ∀ p ∈ led, p ∈ R) (hs : ∀ p ∈ R, p ∈ news) : ∀ p ∈ led ++ news, p ∈ news := fun p hp => (List.mem_append.mp hp).elim (fun q => hs p (h p q)) id
theorem Good.call {w : World} {R news : List (Addr × Obj)} {f d1 d2 : Addr} {spec : List (PyData × PyData) → List (PyData × PyData) → Bool} {D1 D2 : List (PyData × PyData)} (G : Good w R f spec) (hs : ∀ p ∈ R, p ∈ news) (R1 : RowAt w news d1 D1) (R2 : RowAt w news d2 D2) :
    DoesC w news 10 (.ref f) [.ref d1, .ref d2] (fun r => r = .bool (spec D1 D2)) := by
  obtain ⟨led, hM, _, hl⟩ := G
  intro p loose mean mg mb dp un gd cn cs a ccd cl outer A₀ base h₀ L m s Q E B F X N T C30 C18 hk hd hu hret
  refine hM news d1 d2 D1 D2 R1 R2 p loose mean mg mb dp un gd cn cs a ccd cl outer A₀ base h₀ L m s Q E B F X (News.sub9 N (mem_app_self hl hs)) T C30 C18 hk hd hu fun r h' tk' hP F' N' => hret r h' tk' hP F' (News.sub9 N' fun p hp => List.mem_append_right _ hp)
theorem GoodC.call {w : World} {P : Addr} {R news : List (Addr × Obj)} {f d1 d2 : Addr} {spec : List (PyData × PyData) → List (PyData × PyData) → Bool} {D1 D2 : List (PyData × PyData)} {ps : Array Value} (G : GoodC w P R f spec) (hs : ∀ p ∈ R, p ∈ news) (R1 : RowAt w news d1 D1) (R2 : RowAt w news d2 D2)
    (hG : GT gpos ps) (hoff : ∀ q ∈ news, q.1 ≠ P)
    {p : Program} {loose : List Str} {mean : ExcName → Option Value} {mg mb : Str → Option Value} {dp un : Nat} {gd : Option (List Code)} {cn : Str} {cs : Scope} {a : Addr} {ccd : Value} {cl : List (Str × Addr)} {outer : List Env} {A₀ : Around} {base h₀ : Heap} {L : Addr} {m : Str → Option Value} {s : Shared}
    {Q E : Value → Shared → Prop} (B : Below A₀ base outer h₀) (F : Fr h₀ L s.heap m) (X : (Mine.hd.heap_39 w.params).In h₀) (N : News h₀ L s.heap ((P, tabObj ps) :: news)) (T : Top p loose mean mg mb h₀) (hk : cs.kind = .function) (hd : dp + 10 ≤ 500) (hu : un + 10 * 10 ≤ 5000) (AB : AllBare s.gens)
    (hret : ∀ ps' s', GT gpos ps' → AllBare s'.gens → s'.os = s.os → Fr h₀ L s'.heap m → News h₀ L s'.heap ((P, tabObj ps') :: news) → Q (.bool (spec D1 D2)) s') :
    wpAny (model PySem.Challenge.rw_au6007_01.row.prog w) (ktrTop dp un gd cn cs L a ccd cl outer) (call (.ref f) [.ref d1, .ref d2]) Q E s := by
  obtain ⟨led, hM, _, hl⟩ := G
  have m1 := mem_app_self hl hs
  refine hM news ps d1 d2 D1 D2 hG (fun q hq => hoff q (m1 q hq)) R1 R2 p loose mean mg mb dp un gd cn cs a ccd cl outer A₀ base h₀ L m s Q E B F X (News.sub9 N fun q hq => ?_) T hk hd hu AB fun ps' s' hG' AB' os' F' N' => hret ps' s' hG' AB' os' F' (News.sub9 N' fun q hq => ?_)
  · rcases List.mem_cons.mp hq with rfl | hq
    · exact List.mem_cons_self
    · exact List.mem_cons_of_mem _ (m1 q hq)
  · rcases List.mem_cons.mp hq with rfl | hq
    · exact List.mem_cons_self
    · exact List.mem_cons_of_mem _ (List.mem_append_right _ hq)
theorem Good.fnAt {w : World} {R news : List (Addr × Obj)} {f : Addr} {spec : List (PyData × PyData) → List (PyData × PyData) → Bool} {h₀ h : Heap} {L : Addr} (G : Good w R f spec) (N : News h₀ L h news) (hs : ∀ p ∈ R, p ∈ news) : FnAt f h :=
  let ⟨led, _, ⟨_, _, _, _, hm⟩, hl⟩ := G; FnAt.of N (hs _ (hl _ hm))
theorem GoodC.fnAt {w : World} {P : Addr} {R news : List (Addr × Obj)} {f : Addr} {spec : List (PyData × PyData) → List (PyData × PyData) → Bool} {h₀ h : Heap} {L : Addr} (G : GoodC w P R f spec) (N : News h₀ L h news) (hs : ∀ p ∈ R, p ∈ news) : FnAt f h :=
  let ⟨led, _, ⟨_, _, _, _, hm⟩, hl⟩ := G; FnAt.of N (hs _ (hl _ hm))
theorem step_led {h₀ h : Heap} {L : Addr} {led extra R : List (Addr × Obj)} {a b : Addr × Obj} (N : News h₀ L h (led ++ a :: b :: (extra ++ R))) : News h₀ L h (a :: b :: (led ++ R)) := News.sub9 N fun p hp => by
  rcases List.mem_cons.mp hp with rfl | hp
  · exact List.mem_append_right _ List.mem_cons_self
  rcases List.mem_cons.mp hp with rfl | hp
  · exact List.mem_append_right _ (List.mem_cons_of_mem _ List.mem_cons_self)
  rcases List.mem_append.mp hp with hp | hp
  · exact List.mem_append_left _ hp
  · exact List.mem_append_right _ (List.mem_cons_of_mem _ (List.mem_cons_of_mem _ (List.mem_append_right _ hp)))
theorem step_ledP {h₀ h : Heap} {L : Addr} {led extra R : List (Addr × Obj)} {t a b : Addr × Obj} (N : News h₀ L h (t :: (led ++ a :: b :: (extra ++ R)))) : News h₀ L h (a :: b :: t :: (led ++ R)) := News.sub9 N fun p hp => by
  rcases List.mem_cons.mp hp with rfl | hp
  · exact List.mem_cons_of_mem _ (List.mem_append_right _ List.mem_cons_self)
  rcases List.mem_cons.mp hp with rfl | hp
  · exact List.mem_cons_of_mem _ (List.mem_append_right _ (List.mem_cons_of_mem _ List.mem_cons_self))
  rcases List.mem_cons.mp hp with rfl | hp
  · exact List.mem_cons_self
  rcases List.mem_append.mp hp with hp | hp
  · exact List.mem_cons_of_mem _ (List.mem_append_left _ hp)
  · exact List.mem_cons_of_mem _ (List.mem_append_right _ (List.mem_cons_of_mem _ (List.mem_cons_of_mem _ (List.mem_append_right _ hp))))
/-- the new ledger under one name -/
theorem fold_led (led R : List (Addr × Obj)) (ho : OffT led) (hR : OffT R) : ∃ R' : List (Addr × Obj), led ++ R = R' ∧ (∀ p ∈ led, p ∈ R') ∧ (∀ p ∈ R, p ∈ R') ∧ OffT R' :=
  ⟨_, rfl, fun p hp => List.mem_append_left _ hp, fun p hp => List.mem_append_right _ hp, ho.app hR⟩
theorem fold_ledN (led R : List (Addr × Obj)) (ho : OffT led) (hR : OffT R) (P : Addr) (h1 : ∀ q ∈ led, q.1 ≠ P) (h2 : ∀ q ∈ R, q.1 ≠ P) : ∃ R' : List (Addr × Obj), led ++ R = R' ∧ (∀ p ∈ led, p ∈ R') ∧ (∀ p ∈ R, p ∈ R') ∧ OffT R' ∧ ∀ q ∈ R', q.1 ≠ P :=
  ⟨_, rfl, fun p hp => List.mem_append_left _ hp, fun p hp => List.mem_append_right _ hp, ho.app hR, fun q hq => (List.mem_append.mp hq).elim (h1 q) (h2 q)⟩
end Mine
namespace Mine
theorem list_ne_tab {h₀ h : Heap} {L D c : Addr} {l : List (Addr × Obj)} {xs : Array Value} {n : Nat} {ps : Array Value} (N : News h₀ L h l) (m1 : (D, PySem.W.listOf xs n) ∈ l) (m2 : (c, tabObj ps) ∈ l) : D ≠ c := fun e => by
  have a := (N _ m1).1
  have b := (N _ m2).1
  rw [e, b] at a
  cases a
end Mine
namespace Mine
theorem step_ledQ {h₀ h : Heap} {L : Addr} {led extra R : List (Addr × Obj)} {t a b : Addr × Obj} (N : News h₀ L h (led ++ a :: b :: (extra ++ t :: R))) : News h₀ L h (a :: b :: t :: (led ++ R)) := News.sub9 N fun p hp => by
  rcases List.mem_cons.mp hp with rfl | hp
  · exact List.mem_append_right _ List.mem_cons_self
  rcases List.mem_cons.mp hp with rfl | hp
  · exact List.mem_append_right _ (List.mem_cons_of_mem _ List.mem_cons_self)
  rcases List.mem_cons.mp hp with rfl | hp
  · exact List.mem_append_right _ (List.mem_cons_of_mem _ (List.mem_cons_of_mem _ (List.mem_append_right _ List.mem_cons_self)))
  rcases List.mem_append.mp hp with hp | hp
  · exact List.mem_append_left _ hp
  · exact List.mem_append_right _ (List.mem_cons_of_mem _ (List.mem_cons_of_mem _ (List.mem_append_right _ (List.mem_cons_of_mem _ hp))))
theorem code_same {h₀ h : Heap} {L : Addr} {l : List (Addr × Obj)} {c : Addr} {o1 o2 : Obj} (N : News h₀ L h l) (m1 : (c, o1) ∈ l) (m2 : (c, o2) ∈ l) : o1 = o2 := Option.some.inj ((N _ m1).1.symm.trans (N _ m2).1)
theorem code_told {h₀ h : Heap} {L : Addr} {l led : List (Addr × Obj)} {c : Addr} {o : Obj} {q : Str} (N : News h₀ L h l) (hs : ∀ p ∈ led, p ∈ l) (m : (c, o) ∈ led) (C : CodeOf led c q) : ∃ vs t, o.data = .fields vs ∧ vs[1]? = some (.str q t) := by
  obtain ⟨oc, vs, t, m2, d, s⟩ := C
  obtain rfl := code_same N (hs _ m) (hs _ m2)
  exact ⟨vs, t, d, s⟩
theorem led_off {h₀ h : Heap} {L P : Addr} {l led : List (Addr × Obj)} (N : News h₀ L h l) (hP : (P, tabObj #[]) ∈ l) (hs : ∀ p ∈ led, p ∈ l) (hN : NoT led) : ∀ q ∈ led, q.1 ≠ P := fun q hq => off_table (pos := gpos) N hP (.inl rfl) (hs q hq) (hN.at q hq)
end Mine
end
-- LI
section
open PySem PySem.W PyProof.Rows PySem.Spec PySem.Calls PyProof.V
set_option linter.unusedVariables false
namespace Mine
section
variable {prog : Program} {w : World} {A : Around} {E : Value → Shared → Prop} {s : Shared} {h₀ : Heap} {L : Addr} {m : Str → Option Value} {env : Env} {news : List (Addr × Obj)}
theorem fr_congr {h : Heap} {m' : Str → Option Value} (F : Fr h₀ L h m) (e : ∀ y, m y = m' y) : Fr h₀ L h m' := (funext e : m = m') ▸ F
/-- the end of a turn of a loop whose names are told by a family and whose ledger stays -/
def InvEnd {σ : Type} (h₀ : Heap) (L : Addr) (led : List (Addr × Obj)) (s : Shared) (Mf : σ → Str → Option Value) (s₃ : Shared) : Prop :=
  ∃ h' tk' st', s₃ = { s with heap := h', toks := tk' } ∧ Fr h₀ L h' (Mf st') ∧ News h₀ L h' led
theorem InvEnd.intro {σ : Type} {led : List (Addr × Obj)} {Mf : σ → Str → Option Value} {h' : Heap} {tk' : Nat} (F : Fr h₀ L h' m) (N : News h₀ L h' led) (st' : σ) (e : ∀ y, m y = Mf st' y) : InvEnd h₀ L led s Mf { s with heap := h', toks := tk' } :=
  ⟨h', tk', st', rfl, fr_congr F e, N⟩
theorem for_inv {σ : Type} (Mf : σ → Str → Option Value) (st₀ : σ) {ax : Addr} {vs : List Value} {x : Str} {px : Pos} {body orelse : List Stmt} {RR : Result → Shared → Prop} (hh : A.handled = none) (F : Fr h₀ L s.heap m) (N : News h₀ L s.heap news) (e₀ : ∀ y, m y = Mf st₀ y)
    (hL : h₀.IsList ax vs.toArray)
    (turn : ∀ v ∈ vs, ∀ (I : Addr) oI (st : σ) h tk, Fr h₀ L h (Mf st) → News h₀ L h ((I, oI) :: news) → (∀ p ∈ news, p.1 < I) →
      wpAny (model prog w) A (assign (.Name x px) env v) (fun _ s₂ => wpAny (model prog w) A (execs body env) (fun f s₃ => match f with
          | .next | .cont => InvEnd h₀ L ((I, oI) :: news) s Mf s₃
          | .brk => RR (.ok .next) s₃
          | .ret v => RR (.ok (.ret v)) s₃) (notedBy (model prog w) A env fun e s' => RR (.error e) s') s₂) (notedBy (model prog w) A env fun e s' => RR (.error e) s') { s with heap := h, toks := tk })
    (fin : ∀ (st : σ) h tk, Fr h₀ L h (Mf st) → News h₀ L h news → wpAny (model prog w) A (execs orelse env) (fun f s₃ => RR (.ok f) s₃) (notedBy (model prog w) A env fun e s' => RR (.error e) s') { s with heap := h, toks := tk }) :
    wpAny (model prog w) A (pyIter (.ref ax)) (fun it s₂ => codeAny (model prog w) A (.forLoop (.Name x px) it body orelse env) RR s₂) E s := by
  refine wpAny_pyIter_list (hL.at fun o e => F.keep _ o e) ?_
  have lt : ∀ p ∈ news, p.1 < s.heap.objs.size := fun p hp => Heap.lt_size (N p hp).1
  have hLI : L ≠ s.heap.objs.size := Nat.ne_of_lt F.ns.lt
  have hI₀ : h₀.get? s.heap.objs.size = none := next_is_new F
  refine codeAny_forLoop (fun n s' => ∃ h tk i st, s' = { s with heap := h, toks := tk } ∧ n = vs.length - i ∧ h.IsListIter s.heap.objs.size ax i ∧ Fr h₀ L h (Mf st) ∧ News h₀ L h news) ?_ vs.length ?_
  · rintro n s' ⟨h, tk, i, st, rfl, rfl, hI, F', N'⟩
    have hl' : h.IsList ax vs.toArray := hL.at fun o e => F'.keep _ o e
    rcases Nat.lt_or_ge i vs.length with hlt | hge
    · have hx : vs.toArray[i]? = some vs[i] := by rw [List.getElem?_toArray, List.getElem?_eq_getElem hlt]
      refine wpAny_pyNext_list_item hI hl' hx fun h' hI' hs' => ?_
      dsimp only
      obtain ⟨oI, hoI, hcI, hdI⟩ := id hI'
      have F₂ : Fr h₀ L h' (Mf st) := ⟨F'.ns.at' fun o e => hs'.extBut _ o hLI e, fun b o e => hs'.extBut b o (fun q => by rw [q, hI₀] at e; cases e) (F'.keep b o e), F'.above⟩
      have N₂ : News h₀ L h' ((s.heap.objs.size, oI) :: news) := fun p hp => by
        rcases List.mem_cons.mp hp with rfl | hp
        · exact ⟨hoI, Ne.symm hLI, hI₀⟩
        · exact ⟨hs'.extBut _ _ (Nat.ne_of_lt (lt p hp)) (N' p hp).1, (N' p hp).2⟩
      refine wpAny_mono (turn vs[i] (List.getElem_mem hlt) s.heap.objs.size oI st h' tk F₂ N₂ lt) (fun _ s₂ h₂ => wpAny_mono h₂ (fun f s₃ h₃ => ?_) fun _ _ e => e) fun _ _ e => e
      have go : InvEnd h₀ L ((s.heap.objs.size, oI) :: news) s Mf s₃ → ∃ n', n' < vs.length - i ∧ ∃ h tk j st, s₃ = { s with heap := h, toks := tk } ∧ n' = vs.length - j ∧ h.IsListIter s.heap.objs.size ax j ∧ Fr h₀ L h (Mf st) ∧ News h₀ L h news := by
        rintro ⟨hq, tk₃, st₃, rfl, F₃, N₃⟩
        exact ⟨vs.length - (i + 1), by omega, hq, tk₃, i + 1, st₃, rfl, rfl, ⟨oI, (N₃ _ List.mem_cons_self).1, hcI, hdI⟩, F₃, fun p hp => N₃ p (List.mem_cons_of_mem _ hp)⟩
      cases f with
      | next => exact go h₃
      | cont => exact go h₃
      | brk => exact h₃
      | ret v => exact h₃
    · have hx : vs.toArray[i]? = none := by rw [List.getElem?_toArray]; exact List.getElem?_eq_none hge
      refine wpAny_pyNext_list_end hh hI hl' hx fun h' hk => ?_
      exact fin st h' tk ⟨F'.ns.at' fun o e => hk _ o hLI e, fun b o e => hk b o (fun q => by rw [q, hI₀] at e; cases e) (F'.keep b o e), F'.above⟩
        fun p hp => ⟨hk _ _ (Nat.ne_of_lt (lt p hp)) (N' p hp).1, (N' p hp).2⟩
  · have up : ∀ b o, s.heap.get? b = some o → (s.heap.push { cls := .type "list_iterator", data := .fields #[.ref ax, .int 0 0] }).get? b = some o := fun b o e => Heap.get?_push_of_some _ e
    exact ⟨_, _, 0, st₀, rfl, rfl, ⟨_, Heap.get?_push_size _ rfl, rfl, rfl⟩, fr_congr (F.keeps up) e₀, N.grown up⟩
/-- a while whose state is told by a family of names and a family of ledgers -/
def WhlEnd {σ : Type} (h₀ : Heap) (L : Addr) (s : Shared) (Mf : σ → Str → Option Value) (Nf : σ → List (Addr × Obj)) (ok : σ → Prop) (size : σ → Nat) (n : Nat) (s₃ : Shared) : Prop :=
  ∃ h' tk' st', s₃ = { s with heap := h', toks := tk' } ∧ Fr h₀ L h' (Mf st') ∧ News h₀ L h' (Nf st') ∧ ok st' ∧ size st' < n
theorem WhlEnd.intro {σ : Type} {Mf : σ → Str → Option Value} {Nf : σ → List (Addr × Obj)} {ok : σ → Prop} {size : σ → Nat} {n : Nat} {h' : Heap} {tk' : Nat} {led : List (Addr × Obj)} (F : Fr h₀ L h' m) (N : News h₀ L h' led) (st' : σ) (e : ∀ y, m y = Mf st' y) (eN : led = Nf st') (o : ok st') (z : size st' < n) :
    WhlEnd h₀ L s Mf Nf ok size n { s with heap := h', toks := tk' } := ⟨h', tk', st', rfl, fr_congr F e, eN ▸ N, o, z⟩
theorem while_inv {σ : Type} (Mf : σ → Str → Option Value) (Nf : σ → List (Addr × Obj)) (ok : σ → Prop) (size : σ → Nat) (st₀ : σ) {test : PySem.Expr} {body orelse : List Stmt} {pos : Pos} {Q : Flow → Shared → Prop} (F : Fr h₀ L s.heap m) (N : News h₀ L s.heap news) (e₀ : ∀ y, m y = Mf st₀ y) (eN : news = Nf st₀) (o₀ : ok st₀)
    (turn : ∀ (st : σ) h tk (Q' : Flow → Shared → Prop) (E' : Value → Shared → Prop), ok st → Fr h₀ L h (Mf st) → News h₀ L h (Nf st) →
      (∀ s₃, WhlEnd h₀ L s Mf Nf ok size (size st) s₃ → Q' .next s₃) →
      (∀ h' tk', Fr h₀ L h' (Mf st) → News h₀ L h' (Nf st) → size st = 0 → wpAny (model prog w) A (execs orelse env) (fun f s₃ => Q f s₃) (notedBy (model prog w) A env fun e s' => cameBackBy (model prog w) A env E e s') { s with heap := h', toks := tk' }) →
      wpAny (model prog w) A (isTrue test env (eval test env)) (fun b s₂ => if b then wpAny (model prog w) A (execs body env) Q' E' s₂ else wpAny (model prog w) A (execs orelse env) (fun f s₃ => Q f s₃) (notedBy (model prog w) A env fun e s' => cameBackBy (model prog w) A env E e s') s₂) E' { s with heap := h, toks := tk })
    (fin : ∀ (st : σ) h tk, ok st → size st = 0 → Fr h₀ L h (Mf st) → News h₀ L h (Nf st) → wpAny (model prog w) A (execs orelse env) (fun f s₃ => Q f s₃) (notedBy (model prog w) A env fun e s' => cameBackBy (model prog w) A env E e s') { s with heap := h, toks := tk }) :
    wpAny (model prog w) A (exec (.While test body orelse pos) env) Q E s := by
  refine wpAny_While ?_
  refine codeAny_whileLoop (fun n s' => ∃ h tk st, s' = { s with heap := h, toks := tk } ∧ n = size st ∧ ok st ∧ Fr h₀ L h (Mf st) ∧ News h₀ L h (Nf st)) ?_ (size st₀) ⟨_, _, st₀, rfl, rfl, o₀, fr_congr F e₀, eN ▸ N⟩
  rintro n s' ⟨h, tk, st, rfl, rfl, o, F', N'⟩
  refine turn st h tk _ _ o F' N' ?_ fun h' tk' F'' N'' z => fin st h' tk' o z F'' N''
  rintro s₃ ⟨h', tk', st', rfl, F₃, N₃, o₃, z₃⟩
  exact ⟨size st', z₃, h', tk', st', rfl, rfl, o₃, F₃, N₃⟩
end
end Mine
end
-- LJ
section
open PySem PySem.W PyProof.Rows PySem.Spec PySem.Calls PyProof.V
set_option linter.unusedVariables false
namespace Mine
abbrev upd2 (m : Str → Option Value) (a b : Str) (va vb : Option Value) : Str → Option Value := fun y => if y = a then va else if y = b then vb else m y
abbrev upd1 (m : Str → Option Value) (a : Str) (va : Option Value) : Str → Option Value := fun y => if y = a then va else m y
theorem upd2_self {m : Str → Option Value} {a b : Str} {v : Option Value} (h : m a = v) (y : Str) : m y = upd2 m a b v (m b) y := by
  unfold upd2
  split
  · rename_i e; rw [e, h]
  · split
    · rename_i e; rw [e]
    · rfl
theorem upd2_again {m : Str → Option Value} {a b : Str} {p q P O : Option Value} (y : Str) : (if y = a then P else if y = b then O else upd2 m a b p q y) = upd2 m a b P O y := by
  unfold upd2
  split
  · rfl
  · split
    · rfl
    · rfl
theorem upd1_self {m : Str → Option Value} {a : Str} {v : Option Value} (h : m a = v) (y : Str) : m y = upd1 m a v y := by
  unfold upd1
  split
  · rename_i e; rw [e, h]
  · rfl
theorem upd1_again {m : Str → Option Value} {a : Str} {p P : Option Value} (y : Str) : (if y = a then P else upd1 m a p y) = upd1 m a P y := by
  unfold upd1
  split
  · rfl
  · rfl
section
variable {prog : Program} {w : World} {A : Around} {E : Value → Shared → Prop} {s : Shared} {h₀ : Heap} {L : Addr} {m : Str → Option Value} {env : Env} {news : List (Addr × Obj)}
abbrev InvEnd2 (h₀ : Heap) (L : Addr) (led : List (Addr × Obj)) (s : Shared) (m : Str → Option Value) (a b : Str) (s₃ : Shared) : Prop :=
  InvEnd h₀ L led s (fun (st : Int × Tok × Option Value) => upd2 m a b (some (.int st.1 st.2.1)) st.2.2) s₃
theorem InvEnd2.intro {led : List (Addr × Obj)} {a b : Str} {p q o : Option Value} {i : Int} {t : Tok} {h' : Heap} {tk' : Nat}
    (F : Fr h₀ L h' (fun y => if y = a then some (.int i t) else if y = b then o else upd2 m a b p q y)) (N : News h₀ L h' led) : InvEnd2 h₀ L led s m a b { s with heap := h', toks := tk' } :=
  InvEnd.intro F N (i, t, o) (fun y => upd2_again y)
theorem for_inv2 {a x : Str} {i₀ : Int} {t₀ : Tok} {ax : Addr} {vs : List Value} {px : Pos} {body orelse : List Stmt} {RR : Result → Shared → Prop} (hh : A.handled = none) (F : Fr h₀ L s.heap m) (N : News h₀ L s.heap news) (hl : m a = some (.int i₀ t₀))
    (hL : h₀.IsList ax vs.toArray)
    (turn : ∀ v ∈ vs, ∀ (I : Addr) oI (i : Int) (t : Tok) (o : Option Value) h tk, Fr h₀ L h (upd2 m a x (some (.int i t)) o) → News h₀ L h ((I, oI) :: news) → (∀ p ∈ news, p.1 < I) →
      wpAny (model prog w) A (assign (.Name x px) env v) (fun _ s₂ => wpAny (model prog w) A (execs body env) (fun f s₃ => match f with
          | .next | .cont => InvEnd2 h₀ L ((I, oI) :: news) s m a x s₃
          | .brk => RR (.ok .next) s₃
          | .ret v => RR (.ok (.ret v)) s₃) (notedBy (model prog w) A env fun e s' => RR (.error e) s') s₂) (notedBy (model prog w) A env fun e s' => RR (.error e) s') { s with heap := h, toks := tk })
    (fin : ∀ (i : Int) (t : Tok) (o : Option Value) h tk, Fr h₀ L h (upd2 m a x (some (.int i t)) o) → News h₀ L h news → wpAny (model prog w) A (execs orelse env) (fun f s₃ => RR (.ok f) s₃) (notedBy (model prog w) A env fun e s' => RR (.error e) s') { s with heap := h, toks := tk }) :
    wpAny (model prog w) A (pyIter (.ref ax)) (fun it s₂ => codeAny (model prog w) A (.forLoop (.Name x px) it body orelse env) RR s₂) E s :=
  for_inv (fun (st : Int × Tok × Option Value) => upd2 m a x (some (.int st.1 st.2.1)) st.2.2) (i₀, t₀, m x) hh F N (fun y => upd2_self hl y) hL
    (fun v hv I oI st h tk F' N' lt => turn v hv I oI st.1 st.2.1 st.2.2 h tk F' N' lt) (fun st h tk F' N' => fin st.1 st.2.1 st.2.2 h tk F' N')
end
end Mine
end
-- LK
section
open PySem PySem.W PyProof.Rows PySem.Spec PySem.Calls PyProof.V
set_option linter.unusedVariables false
namespace Mine
theorem ints_mem {vs : List Value} {ns : List Int} (h : IntsAre vs ns) {v : Value} (hv : v ∈ vs) : ∃ j u, v = .int j u := by
  induction h with
  | nil => cases hv
  | cons k u r ih =>
    rcases List.mem_cons.mp hv with rfl | hv
    · exact ⟨_, _, rfl⟩
    · exact ih hv
section
variable {prog : Program} {w : World} {A : Around} {E : Value → Shared → Prop} {s : Shared} {h₀ : Heap} {L : Addr} {m : Str → Option Value} {env : Env} {rest : List (Addr × Obj)}
abbrev lc (ys : List Value) (c : Nat) : Obj := { cls := .type "list", data := .seq ys.toArray c }
theorem while_num {a : Str} {i₀ : Int} {t₀ : Tok} {D : Addr} {ys₀ : List Value} {c₀ : Nat} {test : PySem.Expr} {body orelse : List Stmt} {pos : Pos} {Q : Flow → Shared → Prop} (F : Fr h₀ L s.heap m) (N : News h₀ L s.heap ((D, lc ys₀ c₀) :: rest))
    (hl : m a = some (.int i₀ t₀)) (hi : ∃ ns, IntsAre ys₀ ns) (hn : ys₀.length ≤ 13)
    (turn : ∀ (i : Int) (t : Tok) (ys : List Value) (c : Nat) ns h tk (Q' : Flow → Shared → Prop) (E' : Value → Shared → Prop), IntsAre ys ns → ys.length ≤ 13 → Fr h₀ L h (upd1 m a (some (.int i t))) → News h₀ L h ((D, lc ys c) :: rest) →
      (∀ (i' : Int) (t' : Tok) (v : Int) (u : Tok) (c' : Nat) h' tk', Fr h₀ L h' (fun y => if y = a then some (.int i' t') else upd1 m a (some (.int i t)) y) → News h₀ L h' ((D, lc (ys ++ [.int v u]) c') :: rest) → ys.length < 13 → Q' .next { s with heap := h', toks := tk' }) →
      (∀ h' tk', Fr h₀ L h' (upd1 m a (some (.int i t))) → News h₀ L h' ((D, lc ys c) :: rest) → ¬ ys.length < 13 → wpAny (model prog w) A (execs orelse env) (fun f s₃ => Q f s₃) (notedBy (model prog w) A env fun e s' => cameBackBy (model prog w) A env E e s') { s with heap := h', toks := tk' }) →
      wpAny (model prog w) A (isTrue test env (eval test env)) (fun b s₂ => if b then wpAny (model prog w) A (execs body env) Q' E' s₂ else wpAny (model prog w) A (execs orelse env) (fun f s₃ => Q f s₃) (notedBy (model prog w) A env fun e s' => cameBackBy (model prog w) A env E e s') s₂) E' { s with heap := h, toks := tk })
    (fin : ∀ (i : Int) (t : Tok) (ys : List Value) (c : Nat) ns h tk, IntsAre ys ns → ys.length = 13 → Fr h₀ L h (upd1 m a (some (.int i t))) → News h₀ L h ((D, lc ys c) :: rest) →
      wpAny (model prog w) A (execs orelse env) (fun f s₃ => Q f s₃) (notedBy (model prog w) A env fun e s' => cameBackBy (model prog w) A env E e s') { s with heap := h, toks := tk }) :
    wpAny (model prog w) A (exec (.While test body orelse pos) env) Q E s := by
  refine while_inv (fun (st : Int × Tok × List Value × Nat) => upd1 m a (some (.int st.1 st.2.1))) (fun st => (D, lc st.2.2.1 st.2.2.2) :: rest) (fun st => (∃ ns, IntsAre st.2.2.1 ns) ∧ st.2.2.1.length ≤ 13) (fun st => 13 - st.2.2.1.length) (i₀, t₀, ys₀, c₀) F N (fun y => upd1_self hl y) rfl ⟨hi, hn⟩ ?_ ?_
  · rintro ⟨i, t, ys, c⟩ h tk Q' E' ⟨⟨ns, hi'⟩, hn'⟩ F' N' k1 k2
    refine turn i t ys c ns h tk Q' E' hi' hn' F' N' (fun i' t' v u c' h' tk' F'' N'' hlt => ?_) (fun h' tk' F'' N'' hge => k2 h' tk' F'' N'' (by show 13 - ys.length = 0; omega))
    refine k1 _ (WhlEnd.intro F'' N'' (i', t', ys ++ [.int v u], c') (fun y => upd1_again y) rfl ⟨⟨_, intsAre_snoc hi' v u⟩, ?_⟩ ?_)
    · show (ys ++ [Value.int v u]).length ≤ 13
      rw [List.length_append, List.length_singleton]; omega
    · show 13 - (ys ++ [Value.int v u]).length < 13 - ys.length
      rw [List.length_append, List.length_singleton]; omega
  · rintro ⟨i, t, ys, c⟩ h tk ⟨⟨ns, hi'⟩, hn'⟩ hz F' N'
    have hz' : 13 - ys.length = 0 := hz
    exact fin i t ys c ns h tk hi' (by have : ys.length ≤ 13 := hn'; omega) F' N'
end
end Mine
end
-- LM
section
open PySem PySem.W PyProof.Rows PySem.Spec PySem.Calls PyProof.V PyProof.Rows.LCg
set_option linter.unusedVariables false
namespace Mine
section
variable {prog : Program} {w : World} {A : Around} {E : Value → Shared → Prop} {s : Shared} {h₀ : Heap} {L : Addr} {m : Str → Option Value} {env : Env} {news : List (Addr × Obj)}
def SrcI (prog : Program) (w : World) (A : Around) (h₀ : Heap) (L : Addr) (m : Str → Option Value) (Q : Value → Shared → Prop) (xv : Value) (s₁ : Shared) : Prop :=
  ∃ (ax : Addr) (vs : List Value) (k : Nat) (news : List (Addr × Obj)), xv = .ref ax ∧ A.handled = none ∧ Fr h₀ L s₁.heap m ∧ News h₀ L s₁.heap news ∧ (ax, ({ cls := .type "list", data := .seq vs.toArray k } : Obj)) ∈ news ∧ vs.length ≤ sizeLine ∧
    ∀ (D : Addr) h tk, Fr h₀ L h m → News h₀ L h ((D, LCg.lst vs) :: news) → (∀ p ∈ news, p.1 < D) → Q (.ref D) { s₁ with heap := h, toks := tk }
theorem ListComp_id {x : Str} {px px2 : Pos} {iter : PySem.Expr} {scope : Scope} {cl : List (Str × Addr)} {pos : Pos} {Q : Value → Shared → Prop} (F₀ : Fr h₀ L s.heap m)
    (hclos : closureFor scope env = pure cl) (hcell : ∀ y ∈ scope.names, y.2 ≠ .cell) (hkind : scope.kind = .function)
    (hnames : ∀ y ∈ scope.names, y.2 = .local → scope.names.lookup y.1 = some .local) (hx : scope.names.lookup x = some .local) (hdb : (x == ("__debug__" : Str)) = false)
    (h : wpAny (model prog w) A (eval iter env) (SrcI prog w A h₀ L m Q) E s)
    (hs : ∀ x, foldedSetIterable iter env x = pure x := by intro _; rfl) :
    wpAny (model prog w) A (eval (.ListComp (.Name x px) [⟨.Name x px2, iter, [], 0⟩] scope pos) env) Q E s := by
  rw [eval_ListComp]
  refine wpAny_comprehension_free (use := none) rfl hs hclos hkind hnames (wpAny_mono h (fun xv s₁ h₁ => ?_) fun _ _ e => e)
  obtain ⟨ax, vs, kk, news, rfl, hh, F, N, hm, hsz, hQ⟩ := h₁
  have hl : s₁.heap.IsList ax vs.toArray := ⟨_, (N _ hm).1, rfl, _, rfl⟩
  refine wpAny_pyIter_list hl ?_
  generalize hI : s₁.heap.objs.size = I at *
  have ltI : ∀ (b : Nat) o, s₁.heap.get? b = some o → b < I := fun b o e => hI ▸ Heap.lt_size e
  generalize hH1 : s₁.heap.push { cls := .type "list_iterator", data := .fields #[.ref ax, .int 0 0] } = H1
  have hI1 : H1.objs.size = I + 1 := by rw [← hH1, Heap.size_push, hI]
  have hit1 : H1.IsListIter I ax 0 := by rw [← hH1, ← hI]; exact ⟨_, Heap.get?_push_size _ rfl, rfl, rfl⟩
  have up1 : ∀ b o, s₁.heap.get? b = some o → H1.get? b = some o := fun b o e => hH1 ▸ Heap.get?_push_of_some _ e
  refine wpAny_newObj_type (wpAny_newFunctionEnv hcell (by intro y hy; simp at hy) (fun h₁ hns₁ hsb₁ => ?_) hkind)
  dsimp only at hns₁ hsb₁ ⊢
  generalize hD : H1.objs.size = D at *
  generalize hH2 : H1.push { cls := .type "list", dict := none, data := .seq ([] : List Value).toArray } = H2 at hns₁ hsb₁ ⊢
  have hC : H2.objs.size = D + 1 := by rw [← hH2, Heap.size_push, hD]
  generalize hCe : H2.objs.size = C at *
  have old : ∀ b o, H1.get? b = some o → h₁.get? b = some o := fun b o e => hsb₁.extBut b o (Nat.ne_of_lt (Nat.lt_trans (hD ▸ Heap.lt_size e) (by omega))) (Heap.get?_push_of_some _ (hH2 ▸ Heap.get?_push_of_some _ e))
  have hDC : (D : Nat) ≠ C := by omega
  have hIC : (I : Nat) ≠ C := by omega
  have hID : (I : Nat) ≠ D := by omega
  have hacc : h₁.get? D = some (LCg.lst []) := hsb₁.extBut _ _ hDC (Heap.get?_push_of_some _ (by rw [← hH2, ← hD]; exact Heap.get?_push_size _ rfl))
  have hLlt : @LT.lt Nat _ L I := by obtain ⟨_, _, _, e, _⟩ := F.ns; exact ltI _ _ e
  have fresh : ∀ a : Nat, I ≤ a → h₀.get? a = none ∧ a ≠ L := fun a ha => by
    refine ⟨?_, fun q => absurd hLlt (by rw [← q]; exact Nat.not_lt.mpr ha)⟩
    cases e : h₀.get? a with
    | none => rfl
    | some o => exact absurd (ltI _ _ (F.keep _ _ e)) (Nat.not_lt.mpr ha)
  have nlt : ∀ p ∈ news, @LT.lt Nat _ p.1 I := fun p hp => ltI _ _ (N p hp).1
  have keepF : ∀ {g g' : Heap}, Fr h₀ L g m → (∀ b o, b ≠ I → b ≠ C → b ≠ D → g.get? b = some o → g'.get? b = some o) → Fr h₀ L g' m := fun F k =>
    ⟨F.ns.at' fun o e => k _ o (Nat.ne_of_lt hLlt) (Nat.ne_of_lt (by omega)) (Nat.ne_of_lt (by omega)) e, fun b o e => k b o (fun q => by rw [q, (fresh I (Nat.le_refl _)).1] at e; cases e) (fun q => by rw [q, (fresh C (by omega)).1] at e; cases e) (fun q => by rw [q, (fresh D (by omega)).1] at e; cases e) (F.keep b o e), F.above⟩
  have keepN : ∀ {g g' : Heap}, News h₀ L g news → (∀ b o, b ≠ I → b ≠ C → b ≠ D → g.get? b = some o → g'.get? b = some o) → News h₀ L g' news := fun N k p hp =>
    ⟨k _ _ (Nat.ne_of_lt (nlt p hp)) (Nat.ne_of_lt (by have := nlt p hp; omega)) (Nat.ne_of_lt (by have := nlt p hp; omega)) (N p hp).1, (N p hp).2⟩
  have loop : codeAny (model prog w) A (.compLoop (.ListComp (.Name x px) [⟨.Name x px2, iter, [], 0⟩] scope pos) 0 (.ref I) (.ref D) (compEnvC scope cl C env))
      (compPost (model prog w) A E none Q (.ref D) C) { s₁ with heap := h₁, toks := s₁.toks + ([] : List (Str × Value)).length } := by
    refine kcp_loop (fun k s' => ∃ (h' : Heap) (tk i : Nat) (m' : Str → Option Value), s' = { s₁ with heap := h', toks := tk } ∧ i ≤ vs.length ∧ k = vs.length + 1 - i ∧ h'.IsListIter I ax i ∧ h'.Ns C m' ∧ Fr h₀ L h' m ∧ News h₀ L h' news ∧
      h'.get? D = some (LCg.lst (vs.take i))) ?_ (vs.length + 1)
      ⟨h₁, _, 0, _, rfl, Nat.zero_le _, rfl, hit1.at fun o e => old _ o e, hns₁, (F.keeps up1).keeps old, fun p hp => ⟨old _ _ (up1 _ _ (N p hp).1), (N p hp).2⟩, hacc⟩
    rintro k s' ⟨h', tk', i, m', rfl, hi, rfl, hit, hn', F', N', hD'⟩
    have hl' : h'.IsList ax vs.toArray := ⟨_, (N' _ hm).1, rfl, _, rfl⟩
    rcases Nat.lt_or_ge i vs.length with hlt | hge
    · have hxv : vs.toArray[i]? = some vs[i] := by rw [List.getElem?_toArray, List.getElem?_eq_getElem hlt]
      refine wpAny_pyNext_list_item hit hl' hxv fun h₂ hit₂ hs₂ => ?_
      dsimp only
      refine wpAny_pure ?_
      have hn₂ : h₂.Ns C m' := hn'.sameBut hs₂ (Ne.symm hIC)
      refine wpAny_assign_Name (wpAny_storeName_local (lookup_relabel_local hx) hn₂ (fun h₃ hn₃ hs₃ => ?_) (by simp [compEnvC, relabel, hkind]))
      obtain ⟨oC, heC, hoC⟩ := ns_obj hn₃
      have k23 : ∀ b o, b ≠ I → b ≠ C → b ≠ D → h'.get? b = some o → h₃.get? b = some o := fun b o h1 h2 _ e => hs₃.extBut b o h2 (hs₂.extBut b o h1 e)
      have NC : News h₀ L h₃ ((C, oC) :: []) := fun p hp => by
        rw [List.mem_singleton.mp hp]
        exact ⟨heC, (fresh C (by omega)).2, (fresh C (by omega)).1⟩
      refine LCgL.ld_own NC List.mem_cons_self hoC (x := x) (v := vs[i]) (by simp) ?_ hkind (lookup_relabel_local hx) hdb
      have hD₃ : h₃.get? D = some (LCg.lst (vs.take i)) := hs₃.extBut _ _ hDC (hs₂.extBut _ _ (Ne.symm hID) hD')
      refine append_at (hsz := by show (vs.take i).toArray.size ≤ sizeLine; rw [List.size_toArray, List.length_take]; omega) hD₃ fun h₆ hs₆ hD₆ => ?_
      have k26 : ∀ b o, b ≠ I → b ≠ C → b ≠ D → h'.get? b = some o → h₆.get? b = some o := fun b o h1 h2 h3 e => hs₆.extBut b o h3 (k23 b o h1 h2 h3 e)
      refine ⟨vs.length + 1 - (i + 1), by omega, h₆, _, i + 1, _, rfl, hlt, rfl, (hit₂.extBut hs₃.extBut hIC).extBut hs₆.extBut hID, hn₃.sameBut hs₆ (Ne.symm hDC), keepF F' k26, keepN N' k26, ?_⟩
      rw [List.take_succ_eq_append_getElem hlt]
      exact hD₆.trans (congrArg some (LCg.lst_snoc _ _))
    · obtain rfl : i = vs.length := Nat.le_antisymm hi hge
      refine wpAny_pyNext_list_end hh hit hl' (by rw [List.getElem?_toArray]; exact List.getElem?_eq_none (Nat.le_refl _)) fun h₂ hk₂ => ?_
      refine ⟨m', hn'.at' fun o e => hk₂ _ o (Ne.symm hIC) e, fun h'' hs'' => ?_⟩
      have k3 : ∀ b o, b ≠ I → b ≠ C → b ≠ D → h'.get? b = some o → h''.get? b = some o := fun b o h1 h2 _ e => hs''.extBut b o h2 (hk₂ b o h1 e)
      rw [List.take_length] at hD'
      refine hQ D h'' tk' (keepF F' k3) (fun p hp => ?_) fun p hp => Nat.lt_trans (nlt p hp) (by omega)
      rcases List.mem_cons.mp hp with rfl | hp
      · exact ⟨hs''.extBut _ _ hDC (hk₂ _ _ (Ne.symm hID) hD'), (fresh D (by omega)).2, (fresh D (by omega)).1⟩
      · exact keepN N' k3 p hp
  exact codeAny_compStart_list loop (wpAny_pyIter_listiter (hit1.at fun o e => old _ o e) loop)
end
end Mine
end
-- LN
section
open PySem PySem.W PyProof.Rows PySem.Spec PySem.Calls PyProof.V PyProof.Rows.LCg
set_option linter.unusedVariables false
namespace Mine
section
variable {prog : Program} {w : World} {A : Around} {E : Value → Shared → Prop} {s : Shared} {h₀ : Heap} {L : Addr} {m : Str → Option Value} {env : Env} {news : List (Addr × Obj)}
def SrcA (prog : Program) (w : World) (A : Around) (h₀ : Heap) (L : Addr) (m : Str → Option Value) (y : Str) (Q : Flow → Shared → Prop) (xv : Value) (s₁ : Shared) : Prop :=
  ∃ (ax : Addr) (vs : List Value) (k : Nat) (news : List (Addr × Obj)), xv = .ref ax ∧ A.handled = none ∧ Fr h₀ L s₁.heap m ∧ News h₀ L s₁.heap news ∧ (ax, ({ cls := .type "list", data := .seq vs.toArray k } : Obj)) ∈ news ∧ vs.length ≤ sizeLine ∧
    ∀ (D : Addr) h tk, Fr h₀ L h (fun z => if z = y then some (.ref D) else m z) → News h₀ L h ((D, LCg.lst vs) :: news) → (∀ p ∈ news, p.1 < D) → Q .next { s₁ with heap := h, toks := tk }
theorem Assign_ListComp_id {x y : Str} {px px2 py : Pos} {iter : PySem.Expr} {scope : Scope} {cl : List (Str × Addr)} {pos spos : Pos} {Q : Flow → Shared → Prop} (F₀ : Fr h₀ L s.heap m) (hLq : env.locals = L)
    (hsw : swapsWith (.ListComp (.Name x px) [⟨.Name x px2, iter, [], 0⟩] scope pos) (some (.Name y py)) spos.line env = pure true) (hy : env.kindOf y = some .local) (hp : (env.scope.kind == .class || (env.scope.kind == .module && env.locals != env.globals)) = false)
    (hclos : closureFor scope env = pure cl) (hcell : ∀ y ∈ scope.names, y.2 ≠ .cell) (hkind : scope.kind = .function)
    (hnames : ∀ y ∈ scope.names, y.2 = .local → scope.names.lookup y.1 = some .local) (hx : scope.names.lookup x = some .local) (hdb : (x == ("__debug__" : Str)) = false)
    (h : wpAny (model prog w) A (eval iter env) (SrcA prog w A h₀ L m y Q) E s)
    (hs : ∀ x, foldedSetIterable iter env x = pure x := by intro _; rfl) :
    wpAny (model prog w) A (exec (.Assign [.Name y py] (.ListComp (.Name x px) [⟨.Name x px2, iter, [], 0⟩] scope pos) spos) env) Q E s := by
  rw [exec_Assign_Name_used _ _ _ _ hsw]
  refine wpAny_bind (wpAny_standAt (wpAny_bind ?_))
  show wpAny _ A (do let _ ← comprehension (.ListComp (.Name x px) [⟨.Name x px2, iter, [], 0⟩] scope pos) scope env _ (newList []) false (eval iter env) (some (assign (.Name y py) env))) _ _ s
  refine wpAny_bind (wpAny_mono (wpAny_comprehension_free (use := some (assign (.Name y py) env)) (Q := fun _ s' => Q .next s') rfl hs hclos hkind hnames
    (wpAny_mono h (fun xv s₁ h₁ => ?_) fun _ _ e => e)) (fun _ s' hq => wpAny_pure (wpAny_pure hq)) fun _ _ e => e)
  obtain ⟨ax, vs, kk, news, rfl, hh, F, N, hm, hsz, hQ⟩ := h₁
  have hl : s₁.heap.IsList ax vs.toArray := ⟨_, (N _ hm).1, rfl, _, rfl⟩
  refine wpAny_pyIter_list hl ?_
  generalize hI : s₁.heap.objs.size = I at *
  have ltI : ∀ (b : Nat) o, s₁.heap.get? b = some o → b < I := fun b o e => hI ▸ Heap.lt_size e
  generalize hH1 : s₁.heap.push { cls := .type "list_iterator", data := .fields #[.ref ax, .int 0 0] } = H1
  have hI1 : H1.objs.size = I + 1 := by rw [← hH1, Heap.size_push, hI]
  have hit1 : H1.IsListIter I ax 0 := by rw [← hH1, ← hI]; exact ⟨_, Heap.get?_push_size _ rfl, rfl, rfl⟩
  have up1 : ∀ b o, s₁.heap.get? b = some o → H1.get? b = some o := fun b o e => hH1 ▸ Heap.get?_push_of_some _ e
  refine wpAny_newObj_type (wpAny_newFunctionEnv hcell (by intro y hy; simp at hy) (fun h₁ hns₁ hsb₁ => ?_) hkind)
  dsimp only at hns₁ hsb₁ ⊢
  generalize hD : H1.objs.size = D at *
  generalize hH2 : H1.push { cls := .type "list", dict := none, data := .seq ([] : List Value).toArray } = H2 at hns₁ hsb₁ ⊢
  have hC : H2.objs.size = D + 1 := by rw [← hH2, Heap.size_push, hD]
  generalize hCe : H2.objs.size = C at *
  have old : ∀ b o, H1.get? b = some o → h₁.get? b = some o := fun b o e => hsb₁.extBut b o (Nat.ne_of_lt (Nat.lt_trans (hD ▸ Heap.lt_size e) (by omega))) (Heap.get?_push_of_some _ (hH2 ▸ Heap.get?_push_of_some _ e))
  have hDC : (D : Nat) ≠ C := by omega
  have hIC : (I : Nat) ≠ C := by omega
  have hID : (I : Nat) ≠ D := by omega
  have hacc : h₁.get? D = some (LCg.lst []) := hsb₁.extBut _ _ hDC (Heap.get?_push_of_some _ (by rw [← hH2, ← hD]; exact Heap.get?_push_size _ rfl))
  have hLlt : @LT.lt Nat _ L I := by obtain ⟨_, _, _, e, _⟩ := F.ns; exact ltI _ _ e
  have fresh : ∀ a : Nat, I ≤ a → h₀.get? a = none ∧ a ≠ L := fun a ha => by
    refine ⟨?_, fun q => absurd hLlt (by rw [← q]; exact Nat.not_lt.mpr ha)⟩
    cases e : h₀.get? a with
    | none => rfl
    | some o => exact absurd (ltI _ _ (F.keep _ _ e)) (Nat.not_lt.mpr ha)
  have nlt : ∀ p ∈ news, @LT.lt Nat _ p.1 I := fun p hp => ltI _ _ (N p hp).1
  have keepF : ∀ {g g' : Heap}, Fr h₀ L g m → (∀ b o, b ≠ I → b ≠ C → b ≠ D → g.get? b = some o → g'.get? b = some o) → Fr h₀ L g' m := fun F k =>
    ⟨F.ns.at' fun o e => k _ o (Nat.ne_of_lt hLlt) (Nat.ne_of_lt (by omega)) (Nat.ne_of_lt (by omega)) e, fun b o e => k b o (fun q => by rw [q, (fresh I (Nat.le_refl _)).1] at e; cases e) (fun q => by rw [q, (fresh C (by omega)).1] at e; cases e) (fun q => by rw [q, (fresh D (by omega)).1] at e; cases e) (F.keep b o e), F.above⟩
  have keepN : ∀ {g g' : Heap}, News h₀ L g news → (∀ b o, b ≠ I → b ≠ C → b ≠ D → g.get? b = some o → g'.get? b = some o) → News h₀ L g' news := fun N k p hp =>
    ⟨k _ _ (Nat.ne_of_lt (nlt p hp)) (Nat.ne_of_lt (by have := nlt p hp; omega)) (Nat.ne_of_lt (by have := nlt p hp; omega)) (N p hp).1, (N p hp).2⟩
  have loop : codeAny (model prog w) A (.compLoop (.ListComp (.Name x px) [⟨.Name x px2, iter, [], 0⟩] scope pos) 0 (.ref I) (.ref D) (compEnvC scope cl C env))
      (compPost (model prog w) A E (some (assign (.Name y py) env)) (fun _ s' => Q .next s') (.ref D) C) { s₁ with heap := h₁, toks := s₁.toks + ([] : List (Str × Value)).length } := by
    refine kcp_loop (fun k s' => ∃ (h' : Heap) (tk i : Nat) (m' : Str → Option Value), s' = { s₁ with heap := h', toks := tk } ∧ i ≤ vs.length ∧ k = vs.length + 1 - i ∧ h'.IsListIter I ax i ∧ h'.Ns C m' ∧ Fr h₀ L h' m ∧ News h₀ L h' news ∧
      h'.get? D = some (LCg.lst (vs.take i))) ?_ (vs.length + 1)
      ⟨h₁, _, 0, _, rfl, Nat.zero_le _, rfl, hit1.at fun o e => old _ o e, hns₁, (F.keeps up1).keeps old, fun p hp => ⟨old _ _ (up1 _ _ (N p hp).1), (N p hp).2⟩, hacc⟩
    rintro k s' ⟨h', tk', i, m', rfl, hi, rfl, hit, hn', F', N', hD'⟩
    have hl' : h'.IsList ax vs.toArray := ⟨_, (N' _ hm).1, rfl, _, rfl⟩
    rcases Nat.lt_or_ge i vs.length with hlt | hge
    · have hxv : vs.toArray[i]? = some vs[i] := by rw [List.getElem?_toArray, List.getElem?_eq_getElem hlt]
      refine wpAny_pyNext_list_item hit hl' hxv fun h₂ hit₂ hs₂ => ?_
      dsimp only
      refine wpAny_pure ?_
      have hn₂ : h₂.Ns C m' := hn'.sameBut hs₂ (Ne.symm hIC)
      refine wpAny_assign_Name (wpAny_storeName_local (lookup_relabel_local hx) hn₂ (fun h₃ hn₃ hs₃ => ?_) (by simp [compEnvC, relabel, hkind]))
      obtain ⟨oC, heC, hoC⟩ := ns_obj hn₃
      have k23 : ∀ b o, b ≠ I → b ≠ C → b ≠ D → h'.get? b = some o → h₃.get? b = some o := fun b o h1 h2 _ e => hs₃.extBut b o h2 (hs₂.extBut b o h1 e)
      have NC : News h₀ L h₃ ((C, oC) :: []) := fun p hp => by
        rw [List.mem_singleton.mp hp]
        exact ⟨heC, (fresh C (by omega)).2, (fresh C (by omega)).1⟩
      refine LCgL.ld_own NC List.mem_cons_self hoC (x := x) (v := vs[i]) (by simp) ?_ hkind (lookup_relabel_local hx) hdb
      have hD₃ : h₃.get? D = some (LCg.lst (vs.take i)) := hs₃.extBut _ _ hDC (hs₂.extBut _ _ (Ne.symm hID) hD')
      refine append_at (hsz := by show (vs.take i).toArray.size ≤ sizeLine; rw [List.size_toArray, List.length_take]; omega) hD₃ fun h₆ hs₆ hD₆ => ?_
      have k26 : ∀ b o, b ≠ I → b ≠ C → b ≠ D → h'.get? b = some o → h₆.get? b = some o := fun b o h1 h2 h3 e => hs₆.extBut b o h3 (k23 b o h1 h2 h3 e)
      refine ⟨vs.length + 1 - (i + 1), by omega, h₆, _, i + 1, _, rfl, hlt, rfl, (hit₂.extBut hs₃.extBut hIC).extBut hs₆.extBut hID, hn₃.sameBut hs₆ (Ne.symm hDC), keepF F' k26, keepN N' k26, ?_⟩
      rw [List.take_succ_eq_append_getElem hlt]
      exact hD₆.trans (congrArg some (LCg.lst_snoc _ _))
    · obtain rfl : i = vs.length := Nat.le_antisymm hi hge
      refine wpAny_pyNext_list_end hh hit hl' (by rw [List.getElem?_toArray]; exact List.getElem?_eq_none (Nat.le_refl _)) fun h₂ hk₂ => ?_
      have k2 : ∀ b o, b ≠ I → b ≠ C → b ≠ D → h'.get? b = some o → h₂.get? b = some o := fun b o h1 _ _ e => hk₂ b o h1 e
      have F₂ := keepF F' k2
      show wpAny _ A (assign (.Name y py) env (.ref D)) _ _ _
      refine wpAny_assign_Name (wpAny_storeName_local hy (hLq ▸ F₂.ns) (fun h₃ hn₃ hs₃ => ?_) hp)
      rw [hLq] at hn₃ hs₃
      have hL₀ : h₀.get? L = none := Heap.get?_none_of_le F₂.above
      have F₃ : Fr h₀ L h₃ (fun z => if z = y then some (.ref D) else m z) := ⟨hn₃, fun b o e => hs₃.extBut b o (fun q => by rw [q, hL₀] at e; cases e) (F₂.keep b o e), F₂.above⟩
      have hCL : C ≠ L := (fresh C (by omega)).2
      have hDL : D ≠ L := (fresh D (by omega)).2
      refine ⟨m', (hn'.at' fun o e => hk₂ _ o (Ne.symm hIC) e).sameBut hs₃ hCL, fun h'' hs'' => ?_⟩
      rw [List.take_length] at hD'
      have hD₂ : h₂.get? D = some (LCg.lst vs) := hk₂ _ _ (Ne.symm hID) hD'
      refine hQ D h'' _ (F₃.change hs'' hCL (fresh C (by omega)).1) (fun p hp => ?_) fun p hp => Nat.lt_trans (nlt p hp) (by omega)
      rcases List.mem_cons.mp hp with rfl | hp
      · exact ⟨hs''.extBut _ _ hDC (hs₃.extBut _ _ hDL hD₂), (fresh D (by omega)).2, (fresh D (by omega)).1⟩
      · have z := keepN N' k2 p hp
        exact ⟨hs''.extBut _ _ (Nat.ne_of_lt (by have := nlt p hp; omega)) (hs₃.extBut _ _ z.2.1 z.1), z.2⟩
  exact codeAny_compStart_list loop (wpAny_pyIter_listiter (hit1.at fun o e => old _ o e) loop)
end
end Mine
end
-- N1
section
open PySem PySem.W PyProof.Rows PySem.Spec PySem.Calls PyProof.V
set_option maxRecDepth 100000
set_option maxHeartbeats 3000000
set_option linter.unusedVariables false
set_option pp.deepTerms false
set_option pp.deepTerms.threshold 7
set_option pp.proofs false
namespace Mine
local macro_rules | `(tactic| ktr_room) => `(tactic| exact dp_room (by assumption))
local macro_rules | `(tactic| k_all) => `(tactic| assumption)
theorem len13 {ys : List Value} (h : ys.length ≤ 13) : ((ys.toArray.size : Nat) : Int) < 2 ^ 63 := by rw [List.size_toArray]; omega
local macro_rules | `(tactic| walk_at "call builtin:len") => `(tactic| (k_here; k_dflt (refine' call_len_list ?cl ?cf ?_; (case cl => exact News.isList (by k_asm) (by k_mem)); (case cf => exact len13 (by assumption)); k_whole)))
local macro_rules | `(tactic| walk_at "exec Assign cons ListComp") => `(tactic| (k_here; k_dflt (refine' Assign_ListComp_id ?zF ?z0 ?y1 ?y2 ?y3 ?z1 ?z2 ?z3 ?z4 ?z5 ?z6 ?_; (case zF => k_asm); (case z0 => rfl); (case y1 => with_unfolding_all rfl); (case y2 => rfl); (case y3 => rfl); (case z1 => with_unfolding_all rfl); (case z2 => decide); (case z3 => rfl); (case z4 => decide); (case z5 => rfl); (case z6 => rfl); k_whole)))
theorem len13t {ws : List Value} {ns : List Int} (h : IntsAre ws (List.take 13 ns)) : ws.length ≤ 13 := Nat.le_trans (Nat.le_of_eq h.length) (List.length_take_le ..)
theorem len13s {ws : List Value} {ns : List Int} (h : IntsAre ws (List.take 13 ns)) : ws.length ≤ sizeLine := Nat.le_trans (len13t h) (by decide)
local macro_rules | `(tactic| walk_at "SrcA") => `(tactic| (k_dflt (refine' ⟨_, _, _, _, rfl, rfl, ?sF, ?sN, ?sm, ?sl, ?_⟩; (case sF => k_asm); (case sN => k_asm); (case sm => k_mem); (case sl => exact len13s (by assumption))); intro D9 h9 tk9 F9 N9 l9; (try k_lt l9)))
theorem lt13 {ys : List Value} (h : ((ys.toArray.size : Nat) : Int) < 13) : ys.length < 13 := by rw [List.size_toArray] at h; omega
theorem nlt13 {ys : List Value} (h : ¬ ((ys.toArray.size : Nat) : Int) < 13) : ¬ ys.length < 13 := by rw [List.size_toArray] at h; omega
theorem news_push {h₀ h : Heap} {L D : Addr} {l : List (Addr × Obj)} {ys : List Value} {v : Value} {c : Nat} (N : News h₀ L h ((D, PySem.W.listOf (ys.toArray.push v) c) :: l)) : News h₀ L h ((D, lc (ys ++ [v]) c) :: l) := by
  rw [List.push_toArray] at N
  exact N
theorem news_skip {h₀ h : Heap} {L : Addr} {a b : Addr × Obj} {l : List (Addr × Obj)} (N : News h₀ L h (a :: b :: l)) : News h₀ L h (a :: l) := fun p hp => by
  rcases List.mem_cons.mp hp with rfl | hp
  · exact N _ List.mem_cons_self
  · exact N _ (List.mem_cons_of_mem _ (List.mem_cons_of_mem _ hp))
theorem numbers_does (w : World) (news : List (Addr × Obj)) (sl : Addr) (vs : List Value) (ns : List Int) (t13 : Tok) (p : Program) (loose : List Str) (mean : ExcName → Option Value) (mg mb : Str → Option Value) (dp un : Nat) (gd : Option (List Code)) (cn : Str) (cs : Scope) (a : Addr) (ccd : Value) (cl : List (Str × Addr)) (outer : List Env) (A₀ : Around) (base h₀ : Heap) (L : Addr) (m : Str → Option Value) (s : Shared)
    (Q E : Value → Shared → Prop) (B : Below A₀ base outer h₀) (F : Fr h₀ L s.heap m) (X : (Mine.hd.heap_39 w.params).In h₀) (N : News h₀ L s.heap news) (T : Top p loose mean mg mb h₀) (hk : cs.kind = .function) (hd : dp + 10 ≤ 500) (hu : un + 10 * 10 ≤ 5000)
    (hL : base.IsList sl vs.toArray) (hI : IntsAre vs ns) (hlen : ¬ ((63 : Int) < (ns.length : Int)))
    (hret : ∀ D ys c nums h' tk', IntsAre ys nums → ys.length = 13 → Fr h₀ L h' m → News h₀ L h' ((D, lc ys c) :: news) → Q (.ref D) { s with heap := h', toks := tk' }) :
    wpAny (model PySem.Challenge.rw_au6007_01.row.prog w) (ktrTop dp un gd cn cs L a ccd cl outer) (call (.ref 43) [.ref sl, .int 13 t13]) Q E s := by
  revert X
  k_fill
  intro X
  refine wpAny_call ?_
  k_dflt ktr_enter
  have hLg := Heap.IsList.at hL (fun o e => Below.stays (by assumption) _ o e)
  (repeat (first | (k_unfold; (try dsimp only)) | ((fail_if_success (with_reducible show wpAny _ _ (exec (Stmt.For _ _ _ _ _) _) _ _ _)); (first | walk1 | (dsimp only; walk1)))))
  k_dflt (refine wpAny_For ?_)
  (first | walk1 | (dsimp only; walk1))
  k_dflt (refine' for_inv2 (a := "last") ?hh ?iF ?iN ?il ?iL ?turn ?fin)
  case hh => rfl
  case iF => k_asm
  case iN => k_asm
  case il => rfl
  case iL => assumption
  case turn =>
    intro v9 hv9 I9 oI9 i9 t9 o9 h9 tk9 F9 N9 lt9
    obtain ⟨j9, u9, rfl⟩ : ∃ j u, v9 = .int j u := by
      exact ints_mem hI hv9
    k_lt lt9
    (repeat (first | (k_unfold; (try dsimp only)) | walk1 | (dsimp only; walk1)))
    exact InvEnd2.intro (by assumption) (by assumption)
  case fin =>
    intro i9 t9 o9 h9 tk9 F9 N9
    (repeat (first | (k_unfold; (try dsimp only)) | ((fail_if_success (with_reducible show wpAny _ _ (exec (Stmt.While _ _ _ _) _) _ _ _)); (first | walk1 | (dsimp only; walk1)))))
    k_dflt (refine' while_num (a := "last") ?wF ?wN ?wl ?wi ?wn ?wturn ?wfin)
    case wF => k_asm
    case wN => k_asm
    case wl => rfl
    case wi => exact ⟨_, by assumption⟩
    case wn => exact len13t (by assumption)
    case wturn =>
      intro i8 t8 ys8 c8 ns8 h8 tk8 Q8 E8 hi8 hn8 F8 N8 k1 k2
      (repeat (first | (k_unfold; (try dsimp only)) | walk1 | (dsimp only; walk1)))
      · exact k1 _ _ _ _ _ _ _ (by assumption) (news_push (by assumption)) (lt13 (by assumption))
      · exact k2 _ _ (by assumption) (by assumption) (nlt13 (by assumption))
    case wfin =>
      intro i8 t8 ys8 c8 ns8 h8 tk8 hi8 hn8 F8 N8
      k_steps
      exact hret _ _ _ _ _ _ hi8 hn8 (by assumption) (news_skip (by assumption))
end Mine
end
-- LR
section
open PySem PySem.W PyProof.Rows PySem.Spec PySem.Calls PyProof.V
set_option linter.unusedVariables false
namespace Mine
abbrev upd3 (m : Str → Option Value) (a b c : Str) (va vb vc : Option Value) : Str → Option Value := fun y => if y = a then va else if y = b then vb else if y = c then vc else m y
theorem upd3_self {m : Str → Option Value} {a b c : Str} (y : Str) : m y = upd3 m a b c (m a) (m b) (m c) y := by
  unfold upd3
  split
  · rename_i e; rw [e]
  · split
    · rename_i e; rw [e]
    · split
      · rename_i e; rw [e]
      · rfl
theorem upd3_again {m : Str → Option Value} {a b c : Str} {p q r P O S : Option Value} (y : Str) : (if y = a then P else if y = b then O else if y = c then S else upd3 m a b c p q r y) = upd3 m a b c P O S y := by
  unfold upd3
  split
  · rfl
  · split
    · rfl
    · split
      · rfl
      · rfl
theorem notTab_cls {c : String} {d : Option Addr} {dt sl} : NotTab ⟨.type c, d, dt, sl⟩ := fun qs q => by simp at q
section
variable {prog : Program} {w : World} {A : Around} {E : Value → Shared → Prop} {s : Shared} {h₀ : Heap} {L : Addr} {m : Str → Option Value} {env : Env} {news : List (Addr × Obj)}
def TurnEnd {σ : Type} (h₀ : Heap) (L : Addr) (s : Shared) (Mf : σ → Str → Option Value) (Nf : σ → List (Addr × Obj)) (it : Addr × Obj) (s₄ : Shared) : Prop :=
  ∃ st', s₄.os = s.os ∧ AllBare s₄.gens ∧ Fr h₀ L s₄.heap (Mf st') ∧ News h₀ L s₄.heap (it :: Nf st')
theorem for_r4 {σ : Type} (Mf : σ → Str → Option Value) (Nf : σ → List (Addr × Obj)) (st₀ : σ) {r : Addr} {t u v : Tok} {x : Str} {px : Pos} {body orelse : List Stmt} {RR : Result → Shared → Prop} (hh : A.handled = none) (hr : IsRange s.heap r 0 4 1 t u v) (F : Fr h₀ L s.heap m) (N : News h₀ L s.heap (Nf st₀)) (AB : AllBare s.gens) (e₀ : ∀ y, m y = Mf st₀ y) (hA : ∀ st, (Nf st).map (·.1) = (Nf st₀).map (·.1))
    (turn : ∀ (i : Nat), i < 4 → ∀ (I : Addr) oI (st : σ) (s₂ : Shared) tk, NotTab oI → s₂.os = s.os → AllBare s₂.gens → Fr h₀ L s₂.heap (Mf st) → News h₀ L s₂.heap ((I, oI) :: Nf st) →
      wpAny (model prog w) A (assign (.Name x px) env (.int (i : Int) tk)) (fun _ s₃ => wpAny (model prog w) A (execs body env) (fun f s₄ => match f with
          | .next | .cont => TurnEnd h₀ L s Mf Nf (I, oI) s₄
          | .brk => RR (.ok .next) s₄
          | .ret v => RR (.ok (.ret v)) s₄) (notedBy (model prog w) A env fun e s' => RR (.error e) s') s₃) (notedBy (model prog w) A env fun e s' => RR (.error e) s') s₂)
    (fin : ∀ (st : σ) (s₂ : Shared), s₂.os = s.os → AllBare s₂.gens → Fr h₀ L s₂.heap (Mf st) → News h₀ L s₂.heap (Nf st) → wpAny (model prog w) A (execs orelse env) (fun f s₃ => RR (.ok f) s₃) (notedBy (model prog w) A env fun e s' => RR (.error e) s') s₂) :
    wpAny (model prog w) A (pyIter (.ref r)) (fun it s₂ => codeAny (model prog w) A (.forLoop (.Name x px) it body orelse env) RR s₂) E s := by
  refine wpAny_pyIter_range hr (by decide) ?_
  have hLI : L ≠ s.heap.objs.size := Nat.ne_of_lt F.ns.lt
  have hI₀ : h₀.get? s.heap.objs.size = none := next_is_new F
  have up : ∀ b o, s.heap.get? b = some o → (s.heap.push { cls := .type "range_iterator", data := .fields #[rawInt 0, rawInt (Builtin.Range.rangeSize 0 4 1), rawInt 1] }).get? b = some o := fun b o e => Heap.get?_push_of_some _ e
  refine codeAny_forLoop (fun n s' => ∃ (i : Nat) (oI : Obj) (st : σ), i ≤ 4 ∧ n = 4 - i ∧ s'.os = s.os ∧ AllBare s'.gens ∧ IsRangeIter s'.heap s.heap.objs.size (i : Int) ((4 : Int) - (i : Int)) 1 ∧ Fr h₀ L s'.heap (Mf st) ∧ News h₀ L s'.heap ((s.heap.objs.size, oI) :: Nf st)) ?_ 4 ?_
  · rintro n s' ⟨i, oI, st, hi, rfl, hos, hg, hit, F', N'⟩
    have lt : ∀ st, ∀ p ∈ Nf st, p.1 ≠ s.heap.objs.size := fun st p hp => by
      have q : p.1 ∈ (Nf st₀).map (·.1) := hA st ▸ List.mem_map_of_mem hp
      obtain ⟨p₀, hp₀, e⟩ := List.mem_map.mp q
      have l := Heap.lt_size (N p₀ hp₀).1
      rw [e] at l
      exact Nat.ne_of_lt l
    rcases Nat.lt_or_ge i 4 with hlt | hge
    · refine wpAny_pyNext_range_item hit (by omega) fun h' hit' hs' => ?_
      dsimp only
      have F₂ : Fr h₀ L h' (Mf st) := ⟨F'.ns.at' fun o e => hs'.extBut _ o hLI e, fun b o e => hs'.extBut b o (fun q => by rw [q, hI₀] at e; cases e) (F'.keep b o e), F'.above⟩
      have N₂ : News h₀ L h' ((s.heap.objs.size, ({ cls := .type "range_iterator", dict := none, data := .fields #[rawInt ((i : Int) + 1), rawInt ((4 : Int) - (i : Int) - 1), rawInt 1], slots := #[] } : Obj)) :: Nf st) := fun p hp => by
        rcases List.mem_cons.mp hp with rfl | hp
        · exact ⟨hit', Ne.symm hLI, hI₀⟩
        · have n := N' p (List.mem_cons_of_mem _ hp)
          exact ⟨hs'.extBut _ _ (lt st p hp) n.1, n.2⟩
      refine wpAny_mono (turn i hlt s.heap.objs.size _ st { s' with heap := h', toks := s'.toks + 1 } _ notTab_cls hos hg F₂ N₂) (fun _ s₂ h₂ => wpAny_mono h₂ (fun f s₃ h₃ => ?_) fun _ _ e => e) fun _ _ e => e
      have go : TurnEnd h₀ L s Mf Nf (s.heap.objs.size, ({ cls := .type "range_iterator", dict := none, data := .fields #[rawInt ((i : Int) + 1), rawInt ((4 : Int) - (i : Int) - 1), rawInt 1], slots := #[] } : Obj)) s₃ →
          ∃ n', n' < 4 - i ∧ ∃ (j : Nat) (oI : Obj) (st : σ), j ≤ 4 ∧ n' = 4 - j ∧ s₃.os = s.os ∧ AllBare s₃.gens ∧ IsRangeIter s₃.heap s.heap.objs.size (j : Int) ((4 : Int) - (j : Int)) 1 ∧ Fr h₀ L s₃.heap (Mf st) ∧ News h₀ L s₃.heap ((s.heap.objs.size, oI) :: Nf st) := by
        rintro ⟨st', o3, g3, F3, N3⟩
        refine ⟨4 - (i + 1), by omega, i + 1, _, st', hlt, rfl, o3, g3, ?_, F3, N3⟩
        have e := (N3 _ List.mem_cons_self).1
        have e1 : ((i : Int) + 1) = ((i + 1 : Nat) : Int) := by omega
        have e2 : ((4 : Int) - (i : Int) - 1) = (4 : Int) - ((i + 1 : Nat) : Int) := by omega
        rw [e1, e2] at e
        exact e
      cases f with
      | next => exact go h₃
      | cont => exact go h₃
      | brk => exact h₃
      | ret v => exact h₃
    · refine wpAny_pyNext_range_end hh hit (by omega) fun h' hk => ?_
      dsimp only
      exact fin st { s' with heap := h' } hos hg ⟨F'.ns.at' fun o e => hk _ o hLI e, fun b o e => hk b o (fun q => by rw [q, hI₀] at e; cases e) (F'.keep b o e), F'.above⟩
        fun p hp => by have n := N' p (List.mem_cons_of_mem _ hp); exact ⟨hk _ _ (lt st p hp) n.1, n.2⟩
  · refine ⟨0, { cls := .type "range_iterator", data := .fields #[rawInt 0, rawInt (Builtin.Range.rangeSize 0 4 1), rawInt 1] }, st₀, by omega, rfl, rfl, AB, Heap.get?_push_size _ rfl, fr_congr (F.keeps up) e₀, fun p hp => ?_⟩
    rcases List.mem_cons.mp hp with rfl | hp
    · exact ⟨Heap.get?_push_size _ rfl, Ne.symm hLI, hI₀⟩
    · have n := N p hp; exact ⟨up _ _ n.1, n.2⟩
end
section
variable {prog : Program} {w : World} {A : Around} {E : Value → Shared → Prop} {s : Shared} {h₀ : Heap} {L : Addr} {news : List (Addr × Obj)}
theorem num_item {value slice : PySem.Expr} {D : Addr} {ys : List Value} {c : Nat} {nums : List Int} {i : Int} {t : Tok} {Q : Value → Shared → Prop} (N : News h₀ L s.heap news) (hm : (D, lc ys c) ∈ news) (hI : IntsAre ys nums) (hl : ys.length = 13) (h0 : 0 ≤ i) (h1 : i < 13)
    (h : ∀ n u, Q (.int n u) s) (hs : subscripted slice false (.ref D) (.int i t) = operate [.ref D, .int i t] (getItem (.ref D) (.int i t)) := by with_unfolding_all rfl) :
    wpAny (model prog w) A (subscriptTail value slice (.ref D) (.int i t)) Q E s := by
  have hL : s.heap.IsList D ys.toArray := ⟨_, (N _ hm).1, rfl, _, rfl⟩
  have hlt : i.toNat < ys.length := by omega
  have hx : ys.toArray[i.toNat]? = some ys[i.toNat] := by rw [List.getElem?_toArray, List.getElem?_eq_getElem hlt]
  obtain ⟨n, u, e⟩ := ints_mem hI (List.getElem_mem hlt)
  rw [e] at hx
  exact tail_any hL.typeIs slot_list_getitem.lookup (wpAny_getItem_list hL h0 (by omega) hx (h n u)) hs
theorem bool_ne_same {b c : Bool} {Q : Value → Shared → Prop} (e : b = c) (h : Q (.bool false) s) : wpAny (model prog w) A (compareOp .NotEq (.bool b) (.bool c)) Q E s := ne_bool (by subst e; simpa using h)
end
theorem row_notTab {w : World} {d : Addr} {o : Obj} {D : List (PyData × PyData)} (R : RowAt w [(d, o)] d D) : NotTab o := by
  obtain ⟨_, _, o', kvs, hm, hd, _⟩ := R
  obtain rfl : o' = o := (Prod.mk.inj (List.mem_singleton.mp hm)).2
  obtain ⟨es, ep, _, e, _⟩ := hd
  exact notTab_dict e
theorem fold_tabs {h₀ h : Heap} {L P : Addr} {a b : Array Value} {R : List (Addr × Obj)} (N : News h₀ L h ((28, tabObj a) :: (16, tabObj b) :: (P, tabObj #[]) :: R)) (hP : P ≠ 28 ∧ P ≠ 16) (hf : ∀ q ∈ R, q.1 ≠ P) :
    ∃ R', (28, tabObj a) ∈ R' ∧ (16, tabObj b) ∈ R' ∧ (∀ p ∈ R, p ∈ R') ∧ (∀ q ∈ R', q.1 ≠ P) ∧ News h₀ L h ((P, tabObj #[]) :: R') := by
  refine ⟨(28, tabObj a) :: (16, tabObj b) :: R, List.mem_cons_self, List.mem_cons_of_mem _ List.mem_cons_self, fun p hp => List.mem_cons_of_mem _ (List.mem_cons_of_mem _ hp), fun q hq => ?_, News.sub9 N fun p hp => ?_⟩
  · rcases List.mem_cons.mp hq with rfl | hq
    · exact hP.1.symm
    rcases List.mem_cons.mp hq with rfl | hq
    · exact hP.2.symm
    · exact hf q hq
  · rcases List.mem_cons.mp hp with rfl | hp
    · exact List.mem_cons_of_mem _ (List.mem_cons_of_mem _ List.mem_cons_self)
    rcases List.mem_cons.mp hp with rfl | hp
    · exact List.mem_cons_self
    rcases List.mem_cons.mp hp with rfl | hp
    · exact List.mem_cons_of_mem _ List.mem_cons_self
    · exact List.mem_cons_of_mem _ (List.mem_cons_of_mem _ (List.mem_cons_of_mem _ hp))
theorem canon_off {w : World} {h₀ h : Heap} {L P d1 d2 I : Addr} {o1 o2 oI : Obj} {D1 D2 : List (PyData × PyData)} {ps : Array Value} {R : List (Addr × Obj)} (N : News h₀ L h ((P, tabObj ps) :: (d2, o2) :: (d1, o1) :: (I, oI) :: R)) (hG : GT gpos ps) (R1 : RowAt w [(d1, o1)] d1 D1) (R2 : RowAt w [(d2, o2)] d2 D2) (hI : NotTab oI) (hf : ∀ q ∈ R, q.1 ≠ P) :
    ∀ q ∈ (d2, o2) :: (d1, o1) :: (I, oI) :: R, q.1 ≠ P := fun q hq => by
  rcases List.mem_cons.mp hq with rfl | hq
  · exact off_table N List.mem_cons_self hG (List.mem_cons_of_mem _ List.mem_cons_self) (row_notTab R2)
  rcases List.mem_cons.mp hq with rfl | hq
  · exact off_table N List.mem_cons_self hG (List.mem_cons_of_mem _ (List.mem_cons_of_mem _ List.mem_cons_self)) (row_notTab R1)
  rcases List.mem_cons.mp hq with rfl | hq
  · exact off_table N List.mem_cons_self hG (List.mem_cons_of_mem _ (List.mem_cons_of_mem _ (List.mem_cons_of_mem _ List.mem_cons_self))) hI
  · exact hf q hq
end Mine
namespace Mine
section
variable {prog : Program} {w : World} {A : Around} {E : Value → Shared → Prop} {s : Shared} {h₀ : Heap} {L : Addr} {m : Str → Option Value} {env : Env}
abbrev LawSt := Option Value × Option Value × Option Value × {ps : Array Value // GT gpos ps}
def LawTurn (h₀ : Heap) (L : Addr) (s : Shared) (m : Str → Option Value) (a b x : Str) (P : Addr) (R : List (Addr × Obj)) (it : Addr × Obj) (s₄ : Shared) : Prop :=
  TurnEnd (σ := LawSt) h₀ L s (fun st => upd3 m a b x st.1 st.2.1 st.2.2.1) (fun st => (P, tabObj st.2.2.2.1) :: R) it s₄
theorem LawTurn.intro {a b x : Str} {P : Addr} {R : List (Addr × Obj)} {it : Addr × Obj} {s₄ : Shared} {p q r V1 V2 V3 : Option Value} {ps : Array Value} (hG : GT gpos ps) (ho : s₄.os = s.os) (AB : AllBare s₄.gens) (F : Fr h₀ L s₄.heap (fun y => if y = a then V1 else if y = b then V2 else if y = x then V3 else upd3 m a b x p q r y))
    (N : News h₀ L s₄.heap (it :: (P, tabObj ps) :: R)) : LawTurn h₀ L s m a b x P R it s₄ :=
  ⟨(V1, V2, V3, ⟨ps, hG⟩), ho, AB, fr_congr F fun y => upd3_again y, N⟩
theorem for_law (a b : Str) {x : Str} {P : Addr} {R : List (Addr × Obj)} {rr : Addr} {t u v : Tok} {px : Pos} {body orelse : List Stmt} {RR : Result → Shared → Prop} (hh : A.handled = none) (hr : IsRange s.heap rr 0 4 1 t u v) (F : Fr h₀ L s.heap m) (N : News h₀ L s.heap ((P, tabObj #[]) :: R)) (AB : AllBare s.gens)
    (turn : ∀ (i : Nat), i < 4 → ∀ (I : Addr) oI (v1 v2 v3 : Option Value) (ps : Array Value) (s₂ : Shared) tk, NotTab oI → GT gpos ps → s₂.os = s.os → AllBare s₂.gens → Fr h₀ L s₂.heap (upd3 m a b x v1 v2 v3) → News h₀ L s₂.heap ((I, oI) :: (P, tabObj ps) :: R) →
      wpAny (model prog w) A (assign (.Name x px) env (.int (i : Int) tk)) (fun _ s₃ => wpAny (model prog w) A (execs body env) (fun f s₄ => match f with
          | .next | .cont => LawTurn h₀ L s m a b x P R (I, oI) s₄
          | .brk => RR (.ok .next) s₄
          | .ret v => RR (.ok (.ret v)) s₄) (notedBy (model prog w) A env fun e s' => RR (.error e) s') s₃) (notedBy (model prog w) A env fun e s' => RR (.error e) s') s₂)
    (fin : ∀ (v1 v2 v3 : Option Value) (ps : Array Value) (s₂ : Shared), s₂.os = s.os → AllBare s₂.gens → Fr h₀ L s₂.heap (upd3 m a b x v1 v2 v3) → News h₀ L s₂.heap ((P, tabObj ps) :: R) → wpAny (model prog w) A (execs orelse env) (fun f s₃ => RR (.ok f) s₃) (notedBy (model prog w) A env fun e s' => RR (.error e) s') s₂) :
    wpAny (model prog w) A (pyIter (.ref rr)) (fun it s₂ => codeAny (model prog w) A (.forLoop (.Name x px) it body orelse env) RR s₂) E s :=
  for_r4 (σ := LawSt) (fun st => upd3 m a b x st.1 st.2.1 st.2.2.1) (fun st => (P, tabObj st.2.2.2.1) :: R) (m a, m b, m x, ⟨#[], .inl rfl⟩) hh hr F N AB (fun y => upd3_self y) (fun _ => rfl)
    (fun i hi I oI st s₂ tk hI ho hAB F' N' => turn i hi I oI st.1 st.2.1 st.2.2.1 st.2.2.2.1 s₂ tk hI st.2.2.2.2 ho hAB F' N') (fun st s₂ ho hAB F' N' => fin st.1 st.2.1 st.2.2.1 st.2.2.2.1 s₂ ho hAB F' N')
end
end Mine
end
-- RH
section
open PySem PySem.W PyProof.Rows PySem.Spec PySem.Calls PyProof.V PyProof.Rows.LCg
set_option linter.unusedVariables false
namespace Mine
/-- an exception that was noted in the frame of env, wherever it is said to be in flight -/
def RX (base g : Heap) (env : Env) (outer : List Env) (e : Addr) (cls : Value) (news : List (Addr × Obj)) (h : Heap) : Prop :=
  ∃ B a0 fl, base.StaysIn B ∧ (∀ b o, g.get? b = some o → b ∉ outer.filterMap (·.frame) → B.get? b = some o) ∧ (∀ q ∈ news, B.get? q.1 = some q.2 ∧ g.get? q.1 = none ∧ base.get? q.1 = none) ∧
    B.StaysIn h ∧ B.get? e = none ∧ h.FunFrames B (env :: outer) ∧ h.TracedAtW B e cls a0 fl ∧ g.UpToSlots h
theorem memX {env : Env} {L b : Addr} {outer : List Env} (hf : env.frame = some L) (hm : b ∈ (env :: outer).filterMap (·.frame)) : b = L ∨ b ∈ outer.filterMap (·.frame) := by
  obtain ⟨e, he, hb⟩ := List.mem_filterMap.mp hm
  rcases List.mem_cons.mp he with rfl | he
  · rw [hf] at hb; exact .inl (Option.some.inj hb).symm
  · exact .inr (List.mem_filterMap.mpr ⟨e, he, hb⟩)
theorem noteFrame_congr {env env' : Env} (hf : env.frame = env'.frame) (e : Value) : noteFrame e env = noteFrame e env' := by
  unfold noteFrame PySem.frameOf
  rw [hf]
section
variable {M : Model} {A : Around} {E : Value → Shared → Prop} {s' : Shared} {base g h : Heap} {outer : List Env} {L e : Addr} {m : Str → Option Value} {env : Env} {Q : Unit → Shared → Prop} {news : List (Addr × Obj)} {cls : Value}
theorem hide_at (hid : List Addr) (hid1 : ∀ c ∈ hid, g.get? c = none ∧ c ≠ L ∧ ∀ q ∈ news, q.1 ≠ c) (hf : env.frame = some L) (hke : env.scope.kind = .function) (K : Below A base outer g) (F : Fr g L h m) (N : News g L h news) :
    ∃ B : Heap, base.StaysIn B ∧ (∀ b o, g.get? b = some o → b ∉ outer.filterMap (·.frame) → B.get? b = some o) ∧ (∀ q ∈ news, B.get? q.1 = some q.2 ∧ g.get? q.1 = none ∧ base.get? q.1 = none) ∧ B.StaysIn h ∧ h.FunFrames B (env :: outer) ∧
      (∀ b, h.get? b = none → B.get? b = none) ∧ (∀ c ∈ hid, B.get? c = none) := by
  have K' := pushX K F hf hke
  have gone : ∀ b o, base.get? b = some o → b ∉ (env :: outer).filterMap (·.frame) ++ hid := fun b o q hm => by
    rcases List.mem_append.mp hm with hm | hm
    · rw [(K'.frames.mem hm).1] at q; cases q
    · rw [fresh_of_stays K.stays (hid1 b hm).1] at q; cases q
  refine ⟨hideAll h ((env :: outer).filterMap (·.frame) ++ hid), fun b o q => hideAll_get _ (K'.stays b o q) (gone b o q), fun b o q nm => hideAll_get _ (F.keep b o q) fun hm => ?_, fun q hq => ⟨hideAll_get _ (N q hq).1 fun hm => ?_, (N q hq).2.2, fresh_of_stays K.stays (N q hq).2.2⟩,
    fun b o q => of_hideAll _ q, funFrames_hide K'.frames fun e he a ha => List.mem_append_left _ (List.mem_filterMap.mpr ⟨e, he, ha⟩), fun b hb => ?_, fun c hc => hideAll_none _ (List.mem_append_right _ hc)⟩
  · rcases List.mem_append.mp hm with hm | hm
    · rcases memX hf hm with z | z
      · rw [z, kts_self F] at q; cases q
      · exact nm z
    · rw [(hid1 b hm).1] at q; cases q
  · rcases List.mem_append.mp hm with hm | hm
    · rcases memX hf hm with z | z
      · exact (N q hq).2.1 z
      · obtain ⟨_, o, ho, _⟩ := K.frames.mem z
        rw [(N q hq).2.2] at ho; cases ho
    · exact (hid1 _ hm).2.2 q hq rfl
  · cases q : (hideAll h ((env :: outer).filterMap (·.frame) ++ hid)).get? b with
    | none => rfl
    | some o => have := of_hideAll _ q; rw [hb] at this; cases this
theorem leave_newE {X : String} (hf : env.frame = some L) (hke : env.scope.kind = .function) (K : Below A base outer g) (hx : Heap.NewExc h s'.heap e X) (F : Fr g L h m) (N : News g L h news)
    (hQ : ∀ h', RaisedSN base g outer e (.type X) news h' → RaisedN base outer e (.type X) news h' → g.UpToSlots h' → Q () { s' with heap := h' }) :
    wpAny M (A.deeper env) (leaving env (.ref e)) Q E s' := by
  obtain ⟨B, b1, b2, b3, b4, b5, b6, _⟩ := hide_at [] (fun _ q => nomatch q) hf hke K F N
  obtain ⟨ob, tp, he, hcls, hd⟩ := hx.there
  refine wpAny_leaving_firstW (a0 := tp) (Around.frames_deeper K.stack) (b5.of_keeps fun b o hb _ => ⟨o, hx.keeps b o hb, rfl⟩) hf he (fun b o hb => hx.keeps b o (b4 b o hb)) (b6 e hx.new) hd rfl rfl fun h' hL => ?_
  obtain ⟨k1, ⟨_, _, k2⟩, k3, k4⟩ := hL
  have R : RaisedSN base g outer e (.type X) news h' := ⟨_, tp, b1, b2, b3, k1, b6 e hx.new, k2, by rw [← hcls]; exact k3⟩
  exact hQ h' R R.toN (((Heap.UpToSlots.of_keeps F.keep).trans (Heap.UpToSlots.of_keeps hx.keeps)).trans k4)
/-- the first note of a new exception, in a comprehension that shares the frame; C is the comprehension's own dict -/
theorem note_first {X : String} {cenv : Env} {C : Addr} (hcf : cenv.frame = env.frame) (hC1 : g.get? C = none ∧ C ≠ L ∧ ∀ q ∈ news, q.1 ≠ C) (hf : env.frame = some L) (hke : env.scope.kind = .function) (K : Below A base outer g) (hx : Heap.NewExc h s'.heap e X) (F : Fr g L h m) (N : News g L h news)
    (hQ : ∀ h', (∃ B a0 fl, base.StaysIn B ∧ (∀ b o, g.get? b = some o → b ∉ outer.filterMap (·.frame) → B.get? b = some o) ∧ (∀ q ∈ news, B.get? q.1 = some q.2 ∧ g.get? q.1 = none ∧ base.get? q.1 = none) ∧
      B.StaysIn h' ∧ B.get? e = none ∧ h'.FunFrames B (env :: outer) ∧ h'.TracedAtW B e (.type X) a0 fl ∧ g.UpToSlots h' ∧ B.get? C = none) → h.UpToSlots h' → Q () { s' with heap := h' }) :
    wpAny M (A.deeper env) (noteFrame (.ref e) cenv) Q E s' := by
  rw [noteFrame_congr hcf]
  obtain ⟨B, b1, b2, b3, b4, b5, b6, b7⟩ := hide_at [C] (fun c hc => by rw [List.mem_singleton.mp hc]; exact hC1) hf hke K F N
  obtain ⟨ob, tp, he, hcls, hd⟩ := hx.there
  unfold noteFrame
  simp only [hf]
  refine wpAny_bind (wpAny_field he hd (x := .none) rfl ?_)
  rw [if_neg (by decide)]
  refine wpAny_entryW (a0 := tp) (Around.frames_deeper K.stack) (b5.of_keeps fun b o hb _ => ⟨o, hx.keeps b o hb, rfl⟩) hf he (fun b o hb => hx.keeps b o (b4 b o hb)) (b6 e hx.new) hd (by show (1 : Nat) < 6; decide) rfl fun h' hL => ?_
  obtain ⟨k1, k2, k3, k4⟩ := hL
  exact hQ h' ⟨B, tp, _, b1, b2, b3, k1, b6 e hx.new, k2, by rw [← hcls]; exact k3, ((Heap.UpToSlots.of_keeps F.keep).trans (Heap.UpToSlots.of_keeps hx.keeps)).trans k4, b7 C List.mem_cons_self⟩ ((Heap.UpToSlots.of_keeps hx.keeps).trans k4)
theorem frames_but {C : Addr} {h' B : Heap} (hs : ∀ b o, b ≠ C → h.get? b = some o → h'.get? b = some o) : ∀ {l : List Env}, h.FunFrames B l → (∀ env ∈ l, env.frame ≠ some C) → h'.FunFrames B l
  | [], _, _ => trivial
  | env :: _, ⟨hk, ⟨L, o, hf, hn, ho, hd⟩, hr⟩, hne => ⟨hk, ⟨L, o, hf, hn, hs _ _ (fun q => hne env (.head _) (q ▸ hf)) ho, hd⟩, frames_but hs hr fun e he => hne e (.tail _ he)⟩
theorem RX.but {C : Addr} {h' : Heap} {mC : Str → Option Value} (hC : h.Ns C mC) (hs : ∀ b o, b ≠ C → h.get? b = some o → h'.get? b = some o) (hne : ∀ v ∈ env :: outer, v.frame ≠ some C) (gC : g.get? C = none)
    (R : ∃ B a0 fl, base.StaysIn B ∧ (∀ b o, g.get? b = some o → b ∉ outer.filterMap (·.frame) → B.get? b = some o) ∧ (∀ q ∈ news, B.get? q.1 = some q.2 ∧ g.get? q.1 = none ∧ base.get? q.1 = none) ∧
      B.StaysIn h ∧ B.get? e = none ∧ h.FunFrames B (env :: outer) ∧ h.TracedAtW B e cls a0 fl ∧ g.UpToSlots h ∧ B.get? C = none) : RX base g env outer e cls news h' := by
  obtain ⟨B, a0, fl, b1, b2, b3, b4, b5, b6, b7, b8, b9⟩ := R
  obtain ⟨oe, vs, T, oT, ts, he, hcls, hd, h1, hnT, hTe, hT, hdT, h3⟩ := b7
  obtain ⟨oC, es, ep, hoC, hdC, _⟩ := hC
  have ne : ∀ {b o vs}, h.get? b = some o → o.data = .fields vs → b ≠ C := fun e d q => by
    rw [q, hoC] at e; cases e; rw [hdC] at d; cases d
  refine ⟨B, a0, fl, b1, b2, b3, fun b o q => hs b o (fun z => by rw [z, b9] at q; cases q) (b4 b o q), b5, frames_but hs b6 hne, ⟨oe, vs, T, oT, ts, hs _ _ (ne he hd) he, hcls, hd, h1, hnT, hTe, hs _ _ (ne hT hdT) hT, hdT, h3⟩, fun b o q hn => ?_⟩
  obtain ⟨sl, hsl⟩ := b8 b o q hn
  exact ⟨sl, hs _ _ (fun z => by rw [z, gC] at q; cases q) hsl⟩
theorem RX.flight {A' : Around} {fr : Option Addr} (R : RX base g env outer e cls news s'.heap) (hQ : ∀ h', RX base g env outer e cls news h' → Q () { s' with heap := h' }) : wpAny M A' (setFlight (.ref e) fr) Q E s' := by
  obtain ⟨B, a0, fl, b1, b2, b3, b4, b5, b6, b7, b8⟩ := R
  obtain ⟨oe, vs, T, oT, ts, he, hcls, hd, h1, hnT, hTe, hT, hdT, h3⟩ := b7
  have hsz3 : 3 < ts.size := (Array.getElem?_eq_some_iff.mp h3).1
  have other : ∀ b, b ≠ T → (s'.heap.update T (Obj.mapFields (·.setIfInBounds 3 (fr.elim Value.none fun f => rawInt f)))).get? b = s'.heap.get? b :=
    fun b hb => Heap.get?_update_other _ _ (Ne.symm hb)
  have noRecord : ∀ b o, s'.heap.get? b = some o → (∀ vs, o.data ≠ .fields vs) → b ≠ T := fun b o hb hnf q => by
    rw [q, hT] at hb; injection hb with hb; subst hb; exact hnf ts hdT
  unfold setFlight
  refine wpAny_bind (wpAny_field he hd h1 ?_)
  rw [if_pos (show (Value.ref T != Value.none) = true from by simp)]
  refine wpAny_setField hT hdT hsz3 (hQ _ ⟨B, a0, (fr.elim Value.none fun f => rawInt f), b1, b2, b3, fun b o hbo => (other b fun q => by rw [q, hnT] at hbo; cases hbo).trans (b4 b o hbo), b5,
    b6.of_keeps fun b o hb hnf => ⟨o, (other b (noRecord b o hb hnf)).trans hb, rfl⟩, ?_, fun b o q hn => ?_⟩)
  · exact ⟨oe, vs, T, _, _, (other e (Ne.symm hTe)).trans he, hcls, hd, h1, hnT, hTe, Heap.get?_update_self _ hT (Obj.isFreed_of_fields (Obj.data_mapFields hdT _)), Obj.data_mapFields hdT _, by simp [hsz3]⟩
  · obtain ⟨sl, hsl⟩ := b8 b o q hn
    exact ⟨sl, (other b (noRecord b _ hsl hn)).trans hsl⟩
theorem RX.pass {A' : Around} {what : String} {cenv : Env} (R : RX base g env outer e cls news s'.heap) (hE : ∀ h', RX base g env outer e cls news h' → E (.ref e) { s' with heap := h' }) : wpAny M A' (PySem.passOn what (.ref e) cenv : Sem Value) (fun _ _ => False) E s' := by
  have R' := R
  obtain ⟨B, a0, fl, b1, b2, b3, b4, b5, b6, b7, b8⟩ := R'
  obtain ⟨oe, vs, T, oT, ts, he, hcls, hd, h1, hnT, hTe, hT, hdT, h3⟩ := b7
  unfold PySem.passOn
  refine wpAny_bind (wpAny_field he hd h1 ?_)
  rw [if_neg (show ¬ ((Value.ref T == Value.none) = true) from by simp)]
  first
    | exact wpAny_bind (wpAny_pure (wpAny_bind (R.flight fun h' R' => wpAny_throw (hE h' R'))))
    | exact wpAny_bind (R.flight fun h' R' => wpAny_throw (hE h' R'))
theorem RX.leave (hf : env.frame = some L) (K : Below A base outer g) (R : RX base g env outer e cls news s'.heap)
    (hQ : ∀ h', RaisedSN base g outer e cls news h' → RaisedN base outer e cls news h' → g.UpToSlots h' → Q () { s' with heap := h' }) :
    wpAny M (A.deeper env) (leaving env (.ref e)) Q E s' := by
  obtain ⟨B, a0, fl, b1, b2, b3, b4, b5, b6, b7, b8⟩ := R
  have done : ∀ h', Heap.LeftW B (env :: outer) e cls a0 s'.heap h' → Q () { s' with heap := h' } := fun h' hL => by
    obtain ⟨k1, ⟨_, _, k2⟩, k3, k4⟩ := hL
    have R : RaisedSN base g outer e cls news h' := ⟨B, a0, b1, b2, b3, k1, b5, k2, k3⟩
    exact hQ h' R R.toN (b8.trans k4)
  by_cases hfl : fl = rawInt L
  · subst hfl
    unfold leaving
    refine wpAny_bind (wpAny_noteFrame_againW hf b7 ?_)
    exact wpAny_setFlight_noneW b4 b6 b7 fun h' k1 k2 k3 k4 => done h' ⟨k1, k2, k3, fun b o hb hn => ⟨o.slots, k4 b o hb hn⟩⟩
  · obtain ⟨oe, vs, T, oT, ts, he, ⟨hcls, h0⟩, hd, h1, hnT, hTe, hT, hdT, h3⟩ := b7
    subst hcls
    unfold leaving noteFrame
    simp only [hf]
    refine wpAny_bind (wpAny_bind (wpAny_field he hd h1 ?_))
    rw [if_pos (show (Value.ref T != Value.none) = true from by simp)]
    refine wpAny_bind (wpAny_field hT hdT h3 ?_)
    rw [if_neg (show ¬ ((fl == rawInt L) = true) from by simpa using hfl)]
    refine wpAny_bind (wpAny_setField hT hdT (Array.getElem?_eq_some_iff.mp h3).1 ?_)
    have other : ∀ b, b ≠ T → (s'.heap.update T (Obj.mapFields (·.setIfInBounds 3 Value.none))).get? b = s'.heap.get? b := fun b hb => Heap.get?_update_other _ _ (Ne.symm hb)
    have noRecord : ∀ b o, s'.heap.get? b = some o → (∀ vs, o.data ≠ .fields vs) → b ≠ T := fun b o hb hnf q => by
      rw [q, hT] at hb; injection hb with hb; subst hb; exact hnf ts hdT
    refine wpAny_newEntryW (Around.frames_deeper K.stack) (b6.of_keeps fun b o hb hnf => ⟨o, (other b (noRecord b o hb hnf)).trans hb, rfl⟩) hf ((other e (Ne.symm hTe)).trans he)
      (fun b o hbo => (other b fun q => by rw [q, hnT] at hbo; cases hbo).trans (b4 b o hbo)) b5 hd (Array.getElem?_eq_some_iff.mp h1).1 h0
      fun h' ⟨x1, x2, x3, x4⟩ => done h' ⟨x1, x2, x3, fun b o hb hnf => x4 b o ((other b (noRecord b o hb hnf)).trans hb) hnf⟩
end
section
variable {prog : Program} {w : World} {A₀ : Around} {E : Value → Shared → Prop} {s : Shared} {base h₀ : Heap} {outer : List Env} {L : Addr} {m : Str → Option Value} {env : Env} {news : List (Addr × Obj)}
/-- the source of a comprehension over a strict zip whose last list is the shorter -/
def SrcB (prog : Program) (w : World) (A₀ : Around) (E : Value → Shared → Prop) (base h₀ : Heap) (L : Addr) (m : Str → Option Value) (env : Env) (outer : List Env) (e1 e2 e3 : PySem.Expr) (a b : Str) (scope : Scope) (cl : List (Str × Addr)) (xv : Value) (s₁ : Shared) : Prop :=
  ∃ (z n : Nat) (tup out : Nat → List Value) (news : List (Addr × Obj)), xv = .ref z ∧ (A₀.deeper env).handled = none ∧ Below A₀ base outer h₀ ∧ Fr h₀ L s₁.heap m ∧ News h₀ L s₁.heap news ∧ ZipK prog w h₀ L news z n tup true s₁.heap ∧ n ≤ sizeLine ∧
    (∀ (i : Nat) C oC m₂ h tk, i < n → NsObj oC m₂ → m₂ a = (tup i)[0]? → m₂ b = (tup i)[1]? → Fr h₀ L h m → News h₀ L h ((C, oC) :: news) →
      ∃ x y v1 v2 v3, tup i = [x, y] ∧ out i = [v1, v2, v3] ∧ Yields prog w (A₀.deeper env) (compEnvC scope cl C env) e1 v1 { s₁ with heap := h, toks := tk } ∧ Yields prog w (A₀.deeper env) (compEnvC scope cl C env) e2 v2 { s₁ with heap := h, toks := tk } ∧ Yields prog w (A₀.deeper env) (compEnvC scope cl C env) e3 v3 { s₁ with heap := h, toks := tk }) ∧
    (∀ (i : Nat), i < n → ∃ x y, tup i = [x, y]) ∧
    (∀ (e : Addr) h tk, RX base h₀ env outer e (.type "ValueError") news h → E (.ref e) { s₁ with heap := h, toks := tk })
theorem ListComp_B {e1 e2 e3 iter : PySem.Expr} {a b : Str} {pa pb tp pe : Pos} {tk ke} {scope : Scope} {cl : List (Str × Addr)} {pos : Pos} {Q : Value → Shared → Prop} (K₀ : Below A₀ base outer h₀) (F₀ : Fr h₀ L s.heap m) (hf : env.frame = some L) (hke : env.scope.kind = .function)
    (hclos : closureFor scope env = pure cl) (hcell : ∀ y ∈ scope.names, y.2 ≠ .cell) (hkind : scope.kind = .function)
    (hnames : ∀ y ∈ scope.names, y.2 = .local → scope.names.lookup y.1 = some .local) (hxa : scope.names.lookup a = some .local) (hxb : scope.names.lookup b = some .local) (hab : a ≠ b)
    (n1 : ∀ C, starEach [e1, e2, e3] (compEnvC scope cl C env) = [(false, eval e1 (compEnvC scope cl C env)), (false, eval e2 (compEnvC scope cl C env)), (false, eval e3 (compEnvC scope cl C env))])
    (h : wpAny (model prog w) (A₀.deeper env) (eval iter env) (SrcB prog w A₀ E base h₀ L m env outer e1 e2 e3 a b scope cl) E s)
    (hs : ∀ x, foldedSetIterable iter env x = pure x := by intro _; rfl) :
    wpAny (model prog w) (A₀.deeper env) (eval (.ListComp (.Tuple [e1, e2, e3] ke pe) [⟨.Tuple [.Name a pa, .Name b pb] tk tp, iter, [], 0⟩] scope pos) env) Q E s := by
  rw [eval_ListComp]
  refine wpAny_comprehension_free (use := none) rfl hs hclos hkind hnames (wpAny_mono h (fun xv s₁ h₁ => ?_) fun _ _ e => e)
  obtain ⟨z, n, tup, out, news, rfl, hh, K, F, N, Z, hsz, hy, h2, hQ⟩ := h₁
  obtain ⟨wr, fp, St, W, hst, hw, hwf, hfp, hz⟩ := Z
  refine (W [] (fun b hb => nomatch hb)).self _ 0 _ _ _ (hst []) ?_
  refine wpAny_newObj_type (wpAny_newFunctionEnv hcell (by intro y hy; simp at hy) (fun h₁ hns₁ hsb₁ => ?_) hkind)
  dsimp only at hns₁ hsb₁ ⊢
  generalize hD : s₁.heap.objs.size = D at *
  generalize hH2 : s₁.heap.push { cls := .type "list", dict := none, data := .seq ([] : List Value).toArray } = H2 at hns₁ hsb₁ ⊢
  have hC : H2.objs.size = D + 1 := by rw [← hH2, Heap.size_push, hD]
  generalize hCe : H2.objs.size = C at *
  have lt : ∀ (b : Nat) o, s₁.heap.get? b = some o → b < D := fun b o e => hD ▸ Heap.lt_size e
  have hfpN : ∀ b : Nat, b ∈ fp → @LT.lt Nat _ b D := hfp
  have old : ∀ b o, s₁.heap.get? b = some o → h₁.get? b = some o := fun b o e => hsb₁.extBut b o (Nat.ne_of_lt (Nat.lt_trans (lt b o e) (by omega))) (Heap.get?_push_of_some _ (hH2 ▸ Heap.get?_push_of_some _ e))
  have hDC : (D : Nat) ≠ C := by omega
  have hacc : h₁.get? D = some { cls := .type "list", data := .seq ([] : List Value).toArray } := hsb₁.extBut _ _ hDC (Heap.get?_push_of_some _ (by rw [← hH2, ← hD]; exact Heap.get?_push_size _ rfl))
  have hLlt : @LT.lt Nat _ L D := by obtain ⟨_, _, _, e, _⟩ := F.ns; exact lt _ _ e
  have fresh : ∀ a : Nat, D ≤ a → h₀.get? a = none ∧ a ≠ L := fun a ha => by
    refine ⟨?_, fun q => absurd hLlt (by rw [← q]; exact Nat.not_lt.mpr ha)⟩
    cases e : h₀.get? a with
    | none => rfl
    | some o => exact absurd (lt _ _ (F.keep _ _ e)) (Nat.not_lt.mpr ha)
  have nlt : ∀ p ∈ news, @LT.lt Nat _ p.1 D := fun p hp => lt _ _ (N p hp).1
  have offp : ∀ b : Nat, b ∈ ([C, D] : List Nat) → b ∉ fp := fun b hb q => by
    have := hfpN b q
    simp only [List.mem_cons, List.not_mem_nil, or_false] at hb
    rcases hb with rfl | rfl <;> omega
  have W2 := W [C, D] offp
  have hCw : C ∉ wr := fun q => W2.wrOff _ q (by simp)
  have hDw : D ∉ wr := fun q => W2.wrOff _ q (by simp)
  have wlt : ∀ b : Nat, b ∈ wr → @LT.lt Nat _ b D := fun b hb => hfpN b (hwf b hb)
  have hsz1 : h₁.objs.size = C + 1 := by rw [hsb₁.1, Heap.size_push, hCe]
  have loop : codeAny (model prog w) (A₀.deeper env) (.compLoop (.ListComp (.Tuple [e1, e2, e3] ke pe) [⟨.Tuple [.Name a pa, .Name b pb] tk tp, iter, [], 0⟩] scope pos) 0 (.ref z) (.ref D) (compEnvC scope cl C env))
      (compPost (model prog w) (A₀.deeper env) E none Q (.ref D) C) { s₁ with heap := h₁, toks := s₁.toks + ([] : List (Str × Value)).length } := by
    refine kcp_loop (fun k s' => ∃ (h' : Heap) (tk i : Nat) (acc : List Value) (m' : Str → Option Value), s' = { s₁ with heap := h', toks := tk } ∧ i ≤ n ∧ k = n + 1 - i ∧ acc.length = i ∧ C + 1 ≤ h'.objs.size ∧ St [C, D] i h' ∧ h'.Ns C m' ∧ Fr h₀ L h' m ∧ News h₀ L h' news ∧
      h'.get? D = some (LCg.lst acc) ∧ TupAcc (C + 1) out acc h') ?_ (n + 1)
      ⟨h₁, _, 0, [], _, rfl, Nat.zero_le _, rfl, rfl, by omega, W2.frame _ _ _ (hst _) fun b o _ e => old b o e, hns₁, F.keeps old, fun p hp => ⟨old _ _ (N p hp).1, (N p hp).2⟩, hacc, fun j v hv => by simp at hv⟩
    rintro k s' ⟨h', tk', i, acc, m', rfl, hi, rfl, hl, hB, hst', hn', F', N', hD', hacc'⟩
    have keepF : ∀ {g g' : Heap}, Fr h₀ L g m → (∀ b o, b ∉ wr → b ≠ C → b ≠ D → g.get? b = some o → g'.get? b = some o) → Fr h₀ L g' m := fun F k =>
      ⟨F.ns.at' fun o e => k _ o (fun q => (hw _ q).2.1 rfl) (Nat.ne_of_lt (by omega)) (Nat.ne_of_lt hLlt) e, fun b o e => k b o (fun q => by rw [(hw _ q).1] at e; cases e) (fun q => by rw [q, (fresh C (by omega)).1] at e; cases e) (fun q => by rw [q, (fresh D (Nat.le_refl _)).1] at e; cases e) (F.keep b o e), F.above⟩
    have keepN : ∀ {g g' : Heap}, News h₀ L g news → (∀ b o, b ∉ wr → b ≠ C → b ≠ D → g.get? b = some o → g'.get? b = some o) → News h₀ L g' news := fun N k p hp =>
      ⟨k _ _ (fun z => (hw _ z).2.2 _ hp rfl) (Nat.ne_of_lt (by have := nlt p hp; omega)) (Nat.ne_of_lt (nlt p hp)) (N p hp).1, (N p hp).2⟩
    by_cases hlt : i < n
    · refine W2.item _ i _ _ _ hlt hst' (fun b hb => ?_) fun h₂ hst₂ hT₂ hsz₂ hk₂ => ?_
      · simp only [List.mem_cons, List.not_mem_nil, or_false] at hb
        show @LT.lt Nat _ b h'.objs.size
        rcases hb with rfl | rfl
        · exact hB
        · exact Nat.lt_of_lt_of_le (by omega) hB
      dsimp only
      refine W2.go _ _ _ _ (i + 1) _ _ _ _ hst₂ fun h₃ hst₃ hsz₃ hk₃ => ?_
      obtain ⟨x, y, hxy⟩ := h2 i hlt
      have hTw : h'.objs.size ∉ wr := fun q => by have q2 := wlt _ q; have q3 : C + 1 ≤ h'.objs.size := hB; omega
      have hT₃ : h₃.IsTuple h'.objs.size #[x, y] := (by have q := hk₃ _ _ hTw hT₂; rw [hxy] at q; exact ⟨_, q, rfl, _, rfl⟩)
      have hn₃ : h₃.Ns C m' := hn'.at' fun o e => hk₃ _ o hCw (hk₂ _ o hCw e)
      refine kcp_assign (env := compEnvC scope cl C env) hh hT₃ (lookup_relabel_local hxa) (lookup_relabel_local hxb) (by simp [compEnvC, relabel, hkind]) hn₃ fun h₄ tk₄ hn₄ hk₄ => ?_
      have k24 : ∀ b o, b ∉ wr → b ≠ C → b ≠ D → h'.get? b = some o → h₄.get? b = some o := fun b o h1 h2 _ e => hk₄ b o h2 (hk₃ b o h1 (hk₂ b o h1 e))
      have F₄ := keepF F' k24
      have N₄ := keepN N' k24
      obtain ⟨oC, heC, hoC⟩ := ns_obj hn₄
      obtain ⟨x', y', v1, v2, v3, hxy', hout, y1, y2, y3⟩ := hy i C oC _ h₄ tk₄ hlt hoC (by rw [hxy]; simp [hab]) (by rw [hxy]; simp) F₄ (fun p hp => by
        rcases List.mem_cons.mp hp with rfl | hp
        · exact ⟨heC, (fresh C (by omega)).2, (fresh C (by omega)).1⟩
        · exact N₄ p hp)
      refine tup3 y1 y2 y3 (n1 C) ?_
      have hD₄ : h₄.get? D = some (LCg.lst acc) := hk₄ _ _ hDC (hk₃ _ _ hDw (hk₂ _ _ hDw hD'))
      have sz₄ : C + 1 ≤ h₄.objs.size := Nat.succ_le_of_lt (Heap.lt_size heC)
      have hD₅ : (h₄.push { cls := .type "tuple", data := .seq [v1, v2, v3].toArray }).get? D = some (LCg.lst acc) := Heap.get?_push_of_some _ hD₄
      refine append_at (hsz := by show acc.toArray.size ≤ sizeLine; rw [List.size_toArray, hl]; omega) hD₅ fun h₆ hs₆ hD₆ => ?_
      have up : ∀ b o, b ≠ D → h₄.get? b = some o → h₆.get? b = some o := fun b o hb e => hs₆.extBut b o hb (Heap.get?_push_of_some _ e)
      have k26 : ∀ b o, b ∉ wr → b ≠ C → b ≠ D → h'.get? b = some o → h₆.get? b = some o := fun b o h1 h2 h3 e => up b o h3 (k24 b o h1 h2 h3 e)
      refine ⟨n + 1 - (i + 1), by omega, h₆, tk₄, i + 1, acc ++ [.ref h₄.objs.size], _, rfl, hlt, rfl, by rw [List.length_append, hl]; rfl, ?_, ?_, hn₄.at' fun o e => up _ o (Ne.symm hDC) e, keepF F' k26, keepN N' k26, ?_, ?_⟩
      · rw [hs₆.1]
        show C + 1 ≤ (h₄.push _).objs.size
        rw [Heap.size_push]; omega
      · refine W2.frame _ _ _ hst₃ fun b o hb e => ?_
        have h1 : b ≠ C := fun q => hb (by simp [q])
        have h2 : b ≠ D := fun q => hb (by simp [q])
        exact up b o h2 (hk₄ b o h1 e)
      · exact hD₆.trans (congrArg some (LCg.lst_snoc acc _))
      · intro j v hv
        rcases Nat.lt_or_ge j acc.length with q | q
        · rw [List.getElem?_append_left q] at hv
          obtain ⟨T, rfl, hT, hBT⟩ := hacc' j v hv
          exact ⟨T, rfl, k26 _ _ (fun q => absurd (wlt T q) (Nat.not_lt.mpr (Nat.le_trans (by omega) hBT))) (Nat.ne_of_gt (by omega)) (Nat.ne_of_gt (by omega)) hT, hBT⟩
        · rw [List.getElem?_append_right q] at hv
          have hj : j = acc.length := by
            rcases Nat.lt_or_ge (j - acc.length) 1 with q2 | q2
            · omega
            · rw [List.getElem?_eq_none (by simpa using q2)] at hv; cases hv
          subst hj
          rw [Nat.sub_self] at hv
          cases hv
          refine ⟨h₄.objs.size, rfl, ?_, sz₄⟩
          rw [hl, hout]
          exact hs₆.extBut _ _ (Nat.ne_of_gt (by omega)) (Heap.get?_push_size _ rfl)
    · obtain rfl : i = n := Nat.le_antisymm hi (Nat.not_lt.mp hlt)
      refine W2.fail _ _ _ _ hh rfl hst' fun h₂ h₃ e tk₂ hk₂ hx => ?_
      have k2 : ∀ b o, b ∉ wr → b ≠ C → b ≠ D → h'.get? b = some o → h₂.get? b = some o := fun b o h1 _ _ e => hk₂ b o h1 e
      have F₂ := keepF F' k2
      have N₂ := keepN N' k2
      have hn₂ : h₂.Ns C m' := hn'.at' fun o e => hk₂ _ o hCw e
      have hC1 : h₀.get? C = none ∧ C ≠ L ∧ ∀ q ∈ news, q.1 ≠ C := ⟨(fresh C (by omega)).1, (fresh C (by omega)).2, fun q hq z => by have q2 := nlt q hq; rw [z] at q2; omega⟩
      have hne : ∀ v ∈ env :: outer, v.frame ≠ some C := fun v hv q => by
        rcases List.mem_cons.mp hv with rfl | hv
        · rw [hf] at q; exact hC1.2.1 (Option.some.inj q).symm
        · obtain ⟨_, o, ho, _⟩ := K.frames.mem (List.mem_filterMap.mpr ⟨v, hv, q⟩)
          rw [hC1.1] at ho; cases ho
      have hn₃ : h₃.Ns C m' := hn₂.at' fun o e => hx.keeps _ _ e
      refine note_first (C := C) rfl hC1 hf hke K hx F₂ N₂ fun h₄ R₄ u₄ => ?_
      have hn₄ : h₄.Ns C m' := u₄.ns hn₂
      refine ⟨m', hn₄, fun h'' hs'' cenv' _ => ?_⟩
      exact RX.pass (RX.but hn₄ (fun b o hb e => hs''.extBut b o hb e) hne hC1.1 R₄) fun h₅ R₅ => hQ e h₅ tk₂ R₅
  exact codeAny_compStart_list loop (W2.self _ 0 _ _ _ (W2.frame _ _ _ (hst _) fun b o _ e => old b o e) loop)
end
end Mine
end
-- RF
section
open PySem PySem.W PyProof.Rows PySem.Spec PySem.Calls PyProof.V
set_option maxRecDepth 100000
set_option maxHeartbeats 4000000
set_option linter.unusedVariables false
set_option pp.deepTerms false
set_option pp.deepTerms.threshold 7
set_option pp.proofs false
namespace Mine
local macro_rules | `(tactic| walk_at "callWith type:zip") => `(tactic| (k_dflt (refine' callWith_typeKw ?_ ?k1 ?k2 ?k3 ?k4; (case k1 => exact .inr rfl); (case k2 => rfl); (case k3 => rfl); (case k4 => rfl); k_whole)))
local macro_rules | `(tactic| walk_at "call type:zip") => `(tactic| (k_dflt (first | (refine' zip2_bad ?zF ?zN ?zm1 ?zm2 ?zn1 ?zn2 ?_; (case zF => k_asm); (case zN => k_asm); (case zm1 => k_mem); (case zm2 => k_mem); (case zn2 => exact rfl); (case zn1 => (show (1 : Nat) < 2; decide)); intro z9 h9 F9 N9 Z9) | (refine' zip3_bad ?zF ?zN ?zm1 ?zm2 ?zm3 ?zn1 ?zn2 ?zn3 ?_; (case zF => k_asm); (case zN => k_asm); (case zm1 => k_mem); (case zm2 => k_mem); (case zm3 => k_mem); (case zn3 => exact rfl); (case zn1 => (show (1 : Nat) < 2; decide)); (case zn2 => (show (1 : Nat) < 2; decide)); intro z9 h9 F9 N9 Z9))))
local macro_rules | `(tactic| walk_at "call type:list") => `(tactic| (k_dflt (refine' list_zip_bad ?zA ?zn ?zF ?zN ?zZ ?_; (case zZ => assumption); (case zn => (show (1 : Nat) ≤ sizeLine; decide)); (case zA => rfl); (case zF => k_asm); (case zN => k_asm); intro h9 h8 e9 tk9 F9 N9 X9)))
local macro_rules | `(tactic| walk_at "leaving ref") => `(tactic| (k_here; k_dflt (refine' leave_newE ?k5 ?k6 ?k1 ?k0 ?k2 ?k3 ?_; (case k0 => assumption); (case k2 => assumption); (case k5 => rfl); (case k6 => rfl); (case k1 => assumption); (case k3 => k_asm); k_whole; intro h' S' R' U'; (try dsimp only at S' R' U' ⊢))))
local macro_rules | `(tactic| walk_at "call builtin:isinstance") => `(tactic| (k_here; k_dflt (refine' isi_op (k := 0) ?kv ?kX ?kF ?_; (case kv => exact Or.inl ⟨rfl, rfl⟩); (case kX => k_asm); (case kF => k_asm); k_whole); intro tk9))
local macro_rules | `(tactic| walk_at "exec Assign cons ListComp") => `(tactic| k_dflt (walk_at "exec Assign"))
local macro_rules | `(tactic| walk_at "eval ListComp") => `(tactic| (k_here; k_dflt (refine' ListComp_B ?x1 ?x2 ?y1 ?y2 ?z1 ?z2 ?z3 ?z4 ?z5 ?z6 ?z7 ?z8 ?_; (case x1 => assumption); (case x2 => k_asm); (case y1 => rfl); (case y2 => rfl); (case z1 => with_unfolding_all rfl); (case z2 => decide); (case z3 => rfl); (case z4 => decide); (case z5 => rfl); (case z6 => rfl); (case z7 => decide); (case z8 => (intro C9; rfl)); k_whole)))
local macro_rules | `(tactic| walk_at "leaving ref") => `(tactic| (k_here; k_dflt (refine' RX.leave ?k5 ?k1 ?k0 ?_; (case k0 => assumption); (case k5 => rfl); (case k1 => assumption); k_whole; intro h' S' R' U'; (try dsimp only at S' R' U' ⊢))))
theorem News.subR {h₀ h : Heap} {L : Addr} {l l' : List (Addr × Obj)} (N : News h₀ L h l) (hs : ∀ p ∈ l', p ∈ l) : News h₀ L h l' := fun p hp => N p (hs p hp)
theorem refused_does (w : World) (news : List (Addr × Obj)) (p : Program) (loose : List Str) (mean : ExcName → Option Value) (mg mb : Str → Option Value) (cn : Str) (cs : Scope) (a : Addr) (ccd : Value) (h₀ : Heap) (L : Addr) (m : Str → Option Value) (s : Shared)
    (Q E : Value → Shared → Prop) (B : Below callerA h₀ [] h₀) (F : Fr h₀ L s.heap m) (X : (Mine.hd.heap_39 w.params).In h₀) (N : News h₀ L s.heap news) (T : Top p loose mean mg mb h₀) (hk : cs.kind = .function)
    (hret : ∀ h' tk', Fr h₀ L h' m → News h₀ L h' news → Q (.bool true) { s with heap := h', toks := tk' }) :
    wpAny (model PySem.Challenge.rw_au6007_01.row.prog w) (callerA.deeper (envOf cn cs L a ccd)) (call (.ref 97) []) Q E s := by
  revert X
  k_fill
  intro X
  refine wpAny_call ?_
  k_dflt (refine' code_defS0 ?k1 ?k2 ?k3 ?k4 ?k5 ?kA ?k6 ?k7 ?k8 ?k9 ?kB ?_ ?cK ?c2 ?c3 ?c4 ?c5; (case kA => exact rfl); (case k2 => k_asm); (case k1 => k_asm); (case k3 => k_asm); (case k4 => k_asm); (case k5 => k_asm); (case k6 => k_is); (case k7 => k_is); (case k8 => k_room); (case k9 => exact BindsTo.of_eq rfl); (case kB => exact locs rfl); (case cK => assumption); (case c2 => exact rfl); (case c3 => exact rfl); (case c4 => exact rfl); (case c5 => decide); k_whole; intro g' L' h' FG' F' N' B' X' T' D'; (try dsimp only); (try k_lift B'); (try k_fold))
  (repeat (first | (k_unfold; (try dsimp only)) | walk1 | (dsimp only; walk1)))
  refine' ⟨_, 1, ?tup1, fun i => [(?tup1 i).getD 0 .none, (?tup1 i).getD 1 .none, .ref 50], _, rfl, rfl, ?a1x1, ?a2x1, ?a3x1, ?a4x1, ?a5x1, ?hyx1, ?h2x1, ?hQx1⟩
  case a1x1 => assumption
  case a2x1 => k_asm
  case a3x1 => k_asm
  case a4x1 => assumption
  case a5x1 => decide
  case h2x1 => exact fun i _ => ⟨_, _, rfl⟩
  case hyx1 =>
    intro i9 C9 oC9 m9 h9 tk9 hi9 hC9 ha9 hb9 F9 N9
    refine ⟨_, _, _, _, _, rfl, rfl, ?y1x1, ?y2x1, ?y3x1⟩
    case y1x1 => (intro Q9 E9 q9; walk1; exact q9)
    case y2x1 => (intro Q9 E9 q9; walk1; exact q9)
    case y3x1 => (intro Q9 E9 q9; walk1; exact q9)
  intro e9 h9 tk9 R9
  (repeat (first | (k_unfold; (try dsimp only)) | walk1 | (dsimp only; walk1)))
  refine' ⟨_, 1, ?tup2, fun i => [(?tup2 i).getD 0 .none, .int 1 ?tokx2, (?tup2 i).getD 1 .none], _, rfl, rfl, ?a1x2, ?a2x2, ?a3x2, ?a4x2, ?a5x2, ?hyx2, ?h2x2, ?hQx2⟩
  case a1x2 => assumption
  case a2x2 => k_asm
  case a3x2 => k_asm
  case a4x2 => assumption
  case a5x2 => decide
  case h2x2 => exact fun i _ => ⟨_, _, rfl⟩
  case hyx2 =>
    intro i9 C9 oC9 m9 h9 tk9 hi9 hC9 ha9 hb9 F9 N9
    refine ⟨_, _, _, _, _, rfl, rfl, ?y1x2, ?y2x2, ?y3x2⟩
    case y1x2 => (intro Q9 E9 q9; walk1; exact q9)
    case y2x2 => (intro Q9 E9 q9; walk1; exact q9)
    case y3x2 => (intro Q9 E9 q9; walk1; exact q9)
  intro e9 h9 tk9 R9
  (repeat (first | (k_unfold; (try dsimp only)) | walk1 | (dsimp only; walk1)))
  all_goals (refine hret _ _ (by assumption) ?zn9; exact News.subR (by assumption) (by intro p9 hp9; (repeat (first | assumption | refine List.mem_cons_of_mem _ ?_))))
end Mine
end
-- D1
section
open PySem PySem.W PyProof.Rows PySem.Spec PySem.Calls PyProof.V
set_option maxRecDepth 100000
set_option maxHeartbeats 8000000
set_option linter.unusedVariables false
set_option pp.deepTerms false
set_option pp.deepTerms.threshold 7
set_option pp.proofs false
namespace Mine
local macro_rules | `(tactic| k_all) => `(tactic| assumption)
local macro_rules | `(tactic| k_tabat) => `(tactic| (refine' RowAt.tab' ?tn ?tr ?ts; (case tn => k_asm); (case tr => assumption); (case ts => (intro p9 hp9; (repeat (first | assumption | refine List.mem_cons_of_mem _ ?_))))))
local macro_rules | `(tactic| walk_at "callWith") => `(tactic| (k_here; k_dflt (refine' callWith_op ?kv ?kX ?_; (case kv => assumption); (case kX => k_asm); k_whole)))
local macro_rules | `(tactic| walk_at "call") => `(tactic| (k_here; k_dflt (
  (refine' Does.use (op_does ?kv _ _ _ _ _) ?k1 ?k2 ?k3 ?k4 ?k5 ?kK ?kd ?ku ?_; (case kv => assumption); (case k1 => k_asm); (case k2 => k_asm); (case k3 => k_asm); (case k4 => k_asm); (case k5 => k_asm); (case kK => first | exact rfl | assumption); (case kd => exact dp_next (by assumption) rfl); (case ku => exact un_next (by assumption) rfl); (intro r9 h9 tk9 hP9 F9 N9); (subst hP9); (try dsimp only); (try k_fold)))))
local macro_rules | `(tactic| walk_at "call builtin:dict.get") => `(tactic| (k_here; k_dflt (refine' get_row ?tn ?tr ?ts ?_; (case tn => k_asm); (case tr => assumption); (case ts => (intro p9 hp9; (repeat (first | assumption | refine List.mem_cons_of_mem _ ?_)))); k_whole); intro t9))
local macro_rules | `(tactic| walk_at "call builtin:isinstance") => `(tactic| (k_here; k_dflt (refine' isi_op ?kv ?kX ?kF ?_; (case kv => assumption); (case kX => k_asm); (case kF => k_asm); k_whole); intro tk9))
theorem mk1 (w : World) (news : List (Addr × Obj)) (qs : Array Value) (hn : OffT news) (x : Str) (t : Tok) (i : Int) (u : Tok) (v : Value) (k : Int) (hv : OpV v k) 
    (p : Program) (loose : List Str) (mean : ExcName → Option Value) (mg mb : Str → Option Value) (dp un : Nat) (gd : Option (List Code)) (cn : Str) (cs : Scope) (a : Addr) (ccd : Value) (cl : List (Str × Addr)) (outer : List Env) (A₀ : Around) (base h₀ : Heap) (L : Addr) (m : Str → Option Value) (s : Shared)
    (Q E : Value → Shared → Prop) (B : Below A₀ base outer h₀) (F : Fr h₀ L s.heap m) (X : (Mine.hd.heap_39 w.params).In h₀) (N : News h₀ L s.heap ((28, tabObj #[]) :: (16, tabObj qs) :: news)) (T : Top p loose mean mg mb h₀) (C30 : CodeHd base 30 28) (C18 : CodeHd base 18 16) (hk : cs.kind = .function) (hd : dp + 20 ≤ 500) (hu : un + 10 * 20 ≤ 5000)
    (hret : ∀ f led c' h' tk', IsMatch w led f (fun D1 D2 => agree D1 D2 x i k) → FnLed led f → OffT led → CodeOf led c' "generic_node_match.<locals>.match" → Fr h₀ L h' m → News h₀ L h' (led ++ (28, tabObj #[rawInt 21, rawInt 8, .ref c']) :: (16, tabObj qs) :: news) → Q (.ref f) { s with heap := h', toks := tk' }) :
    wpAny (model PySem.Challenge.rw_au6007_01.row.prog w) (ktrTop dp un gd cn cs L a ccd cl outer) (call (.ref 31) [.str x t, .int i u, v]) Q E s := by
  have hn1 := hn.of28
  have hn2 := hn.of16
  revert X
  k_fill
  intro X
  refine wpAny_call ?_
  k_dflt (refine' code_defC ?k1 ?k2 ?k3 ?k4 ?k5 ?kA ?kF ?kK ?k6 ?k7 ?k8 ?k9 ?kB ?kD ?_ ?c2 ?c3 ?c4; (case kA => exact rfl); (case kF => exact rfl); (case kK => assumption); (case k1 => k_asm); (case k2 => k_asm); (case k3 => k_asm); (case k4 => k_asm); (case k5 => k_asm); (case k6 => k_is); (case k7 => k_is); (case k8 => exact dp_room (by assumption)); (case k9 => exact BindsTo.of_eq rfl); (case kB => exact rfl); (case kD => decide +kernel); (case c2 => exact rfl); (case c3 => exact rfl); (case c4 => exact rfl); k_whole; intro g' L' h' tk' cells' FG' F' N' Y' B' X' T' l1; (try k_lt l1); k_cells Y'; (try simp only [List.cons_append, List.nil_append] at N'); (try dsimp only); (try k_lift B'); (try k_fold))
  k_steps
  refine hret _ [_, _, _, _, _, _] _ _ _ ?isM ?fn ?off ?code (by assumption) (by assumption)
  case fn => exact ⟨_, _, _, _, List.mem_cons_self⟩
  case off => repeat' (first | exact True.intro | refine And.intro ?_ ?_ | k_ne)
  case code => exact ⟨_, _, _, List.mem_cons_of_mem _ List.mem_cons_self, by assumption, by assumption⟩
  case isM =>
    intro rest d1 d2 D1 D2 R1 R2
    unfold DoesC
    clear B F N T C30 C18 hk hd hu hret hn hn1 hn2
    intro p loose mean mg mb dp un gd cn cs fa ccd cl outer A₀ base h₀ L m s Q E B F X N T C30 C18 hk hd hu hret
    simp only [List.cons_append, List.nil_append] at N hret
    refine wpAny_call ?_
    k_dflt (refine' code_nest ?k1 ?k2 ?k3 ?k4 ?k5 ?kA ?kF ?kK ?k6 ?k7 ?k8 ?k9 ?kB ?_ ?c2 ?c3 ?c4 ?c5; (case kA => exact rfl); (case kF => exact rfl); (case kK => assumption); (case k1 => k_asm); (case k2 => k_asm); (case k3 => k_asm); (case k4 => k_asm); (case k5 => k_asm); (case k6 => k_mem); (case k7 => exact codeRec_news (by k_asm) (by k_mem) (by assumption) (by assumption)); (case k8 => exact dp_room (by assumption)); (case k9 => exact BindsTo.of_eq rfl); (case c5 => decide); (case kB => exact locs rfl); (case c2 => exact rfl); (case c3 => exact rfl); (case c4 => exact rfl); k_whole; intro g' L' h' FG' F' N' B' X' T'; (try dsimp only); (try k_lift B'); (try k_fold))
    k_steps
    exact hret _ _ _ rfl (by assumption) (by assumption)
end Mine
end
-- D2
section
open PySem PySem.W PyProof.Rows PySem.Spec PySem.Calls PyProof.V
set_option maxRecDepth 100000
set_option maxHeartbeats 3000000
set_option linter.unusedVariables false
set_option pp.deepTerms false
set_option pp.deepTerms.threshold 7
set_option pp.proofs false
namespace Mine
local macro_rules | `(tactic| k_all) => `(tactic| assumption)
local macro_rules | `(tactic| k_tabat) => `(tactic| (refine' RowAt.tab' ?tn ?tr ?ts; (case tn => k_asm); (case tr => assumption); (case ts => (intro p9 hp9; (repeat (first | assumption | refine List.mem_cons_of_mem _ ?_))))))
local macro_rules | `(tactic| walk_at "callWith") => `(tactic| (k_here; k_dflt (refine' callWith_op ?kv ?kX ?_; (case kv => assumption); (case kX => k_asm); k_whole)))
local macro_rules | `(tactic| walk_at "call") => `(tactic| (k_here; k_dflt (
  (refine' Does.use (op_does ?kv _ _ _ _ _) ?k1 ?k2 ?k3 ?k4 ?k5 ?kK ?kd ?ku ?_; (case kv => assumption); (case k1 => k_asm); (case k2 => k_asm); (case k3 => k_asm); (case k4 => k_asm); (case k5 => k_asm); (case kK => first | exact rfl | assumption); (case kd => exact dp_next (by assumption) rfl); (case ku => exact un_next (by assumption) rfl); (intro r9 h9 tk9 hP9 F9 N9); (subst hP9); (try dsimp only); (try k_fold)))))
local macro_rules | `(tactic| walk_at "call builtin:dict.get") => `(tactic| (k_here; k_dflt (refine' get_row ?tn ?tr ?ts ?_; (case tn => k_asm); (case tr => assumption); (case ts => (intro p9 hp9; (repeat (first | assumption | refine List.mem_cons_of_mem _ ?_)))); k_whole); intro t9))
local macro_rules | `(tactic| walk_at "call builtin:isinstance") => `(tactic| (k_here; k_dflt (refine' isi_op ?kv ?kX ?kF ?_; (case kv => assumption); (case kX => k_asm); (case kF => k_asm); k_whole); intro tk9))
local macro_rules | `(tactic| walk_at "exec Assign cons ListComp") => `(tactic| k_dflt (walk_at "exec Assign"))
local macro_rules | `(tactic| walk_at "eval ListComp") => `(tactic| (k_here; k_dflt (refine' ListComp_Z ?zF ?z1 ?z2 ?z3 ?z4 ?z5 ?z6 ?z7 ?z8 ?_; (case zF => k_asm); (case z1 => with_unfolding_all rfl); (case z2 => decide); (case z3 => rfl); (case z4 => decide); (case z5 => rfl); (case z6 => rfl); (case z7 => decide); (case z8 => (intro C9; rfl)); k_whole)))
local macro_rules | `(tactic| walk_at "call type:zip") => `(tactic| (k_dflt (first | (refine' zip2_good ?zF ?zN ?zm1 ?zm2 ?zn1 ?zn2 ?_; (case zF => k_asm); (case zN => k_asm); (case zm1 => k_mem); (case zm2 => k_mem); (case zn1 => exact rfl); (case zn2 => exact rfl); intro z9 h9 F9 N9 Z9) | (refine' zip3_good ?zF ?zN ?zm1 ?zm2 ?zm3 ?zn1 ?zn2 ?zn3 ?_; (case zF => k_asm); (case zN => k_asm); (case zm1 => k_mem); (case zm2 => k_mem); (case zm3 => k_mem); (case zn1 => exact rfl); (case zn2 => exact rfl); (case zn3 => exact rfl); intro z9 h9 F9 N9 Z9))))
local macro_rules | `(tactic| walk_at "call type:list") => `(tactic| (k_dflt (first | (refine' list_zip_K2 ?zA ?zF ?zN ?zZ ?_; (case zZ => assumption); (case zA => rfl); (case zF => k_asm); (case zN => k_asm); intro D9 T90 T91 c9 h9 F9 N9 l1 l2; (try simp only [List.getD_cons_zero, List.getD_cons_succ] at N9); (try k_lt l1)) | (refine' list_zip_K3 ?zA ?zF ?zN ?zZ ?_; (case zZ => assumption); (case zA => rfl); (case zF => k_asm); (case zN => k_asm); intro D9 T90 T91 T92 c9 h9 F9 N9 l1 l2; (try simp only [List.getD_cons_zero, List.getD_cons_succ] at N9); (try k_lt l1)))))
local macro_rules | `(tactic| walk_at "callWith type:zip") => `(tactic| (k_dflt (refine' callWith_typeKw ?_ ?k1 ?k2 ?k3 ?k4; (case k1 => exact .inr rfl); (case k2 => rfl); (case k3 => rfl); (case k4 => rfl); k_whole)))
local macro_rules | `(tactic| walk_at "TupsRest") => `(tactic| (k_dflt (first | (refine TupsRest.cons ?_; intro h' tk' o' F' N' l1; (try k_lt l1)) | (refine TupsRest.nil ?_; intro h' tk' F' N'))))
local macro_rules | `(tactic| walk_at "TupEnd") => `(tactic| (k_dflt (refine' TupEnd.same ?tF ?tN ?_; (case tF => assumption); (case tN => assumption))))
local macro_rules | `(tactic| k_all) => `(tactic| (refine ne_of_below (by assumption) ?_; (repeat (refine Nat.le_succ_of_le ?_)); exact Nat.le_refl _))
local macro_rules | `(tactic| walk_at "CompEnd") => `(tactic| (k_dflt (refine' cend_new ?tF ?tN ?to ?tf ?tS ?_; (case tF => assumption); (case tN => assumption); (case to => refine ⟨?_, ?_, ?_⟩ <;> k_ne); (case tf => assumption); (case tS => lcg_src))))
theorem mk2 (w : World) (news : List (Addr × Obj)) (ps qs : Array Value) (hn : OffT news) (kl dl : Addr) (hkl : @LT.lt Nat _ 28 kl) (hdl : @LT.lt Nat _ 28 dl) (x1 : Str) (t1 : Tok) (x2 : Str) (t2 : Tok) (i1 : Int) (u1 : Tok) (i2 : Int) (u2 : Tok) (v : Value) (k : Int) (hv : OpV v k) (cA : Addr)
    (p : Program) (loose : List Str) (mean : ExcName → Option Value) (mg mb : Str → Option Value) (dp un : Nat) (gd : Option (List Code)) (cn : Str) (cs : Scope) (a : Addr) (ccd : Value) (cl : List (Str × Addr)) (outer : List Env) (A₀ : Around) (base h₀ : Heap) (L : Addr) (m : Str → Option Value) (s : Shared)
    (Q E : Value → Shared → Prop) (B : Below A₀ base outer h₀) (F : Fr h₀ L s.heap m) (X : (Mine.hd.heap_39 w.params).In h₀) (N : News h₀ L s.heap ((28, tabObj #[rawInt 21, rawInt 8, .ref cA]) :: (16, tabObj qs) :: (kl, PySem.W.listOf [.str x1 t1, .str x2 t2].toArray 0) :: (dl, PySem.W.listOf [.int i1 u1, .int i2 u2].toArray 0) :: news)) (T : Top p loose mean mg mb h₀) (C30 : CodeHd base 30 28) (C18 : CodeHd base 18 16) (hk : cs.kind = .function) (hd : dp + 20 ≤ 500) (hu : un + 10 * 20 ≤ 5000)
    (hret : ∀ f led c' h' tk', IsMatch w led f (fun D1 D2 => agree D1 D2 x1 i1 k && (agree D1 D2 x2 i2 k && true)) → FnLed led f → OffT led → CodeOf led c' "generic_node_match.<locals>.match" → Fr h₀ L h' m → News h₀ L h' (led ++ (28, tabObj #[rawInt 21, rawInt 8, .ref cA, rawInt 34, rawInt 8, .ref c']) :: (16, tabObj qs) :: (kl, PySem.W.listOf [.str x1 t1, .str x2 t2].toArray 0) :: (dl, PySem.W.listOf [.int i1 u1, .int i2 u2].toArray 0) :: news) → Q (.ref f) { s with heap := h', toks := tk' }) :
    wpAny (model PySem.Challenge.rw_au6007_01.row.prog w) (ktrTop dp un gd cn cs L a ccd cl outer) (call (.ref 31) [.ref kl, .ref dl, v]) Q E s := by
  have hn1 := hn.of28
  have hn2 := hn.of16
  revert X
  k_fill
  intro X
  refine wpAny_call ?_
  k_dflt (refine' code_defC ?k1 ?k2 ?k3 ?k4 ?k5 ?kA ?kF ?kK ?k6 ?k7 ?k8 ?k9 ?kB ?kD ?_ ?c2 ?c3 ?c4; (case kA => exact rfl); (case kF => exact rfl); (case kK => assumption); (case k1 => k_asm); (case k2 => k_asm); (case k3 => k_asm); (case k4 => k_asm); (case k5 => k_asm); (case k6 => k_is); (case k7 => k_is); (case k8 => exact dp_room (by assumption)); (case k9 => exact BindsTo.of_eq rfl); (case kB => exact rfl); (case kD => decide +kernel); (case c2 => exact rfl); (case c3 => exact rfl); (case c4 => exact rfl); k_whole; intro g' L' h' tk' cells' FG' F' N' Y' B' X' T' l1; (have hl9 : ∀ p ∈ news, p.1 < L' := fun p hp => l1 p (by repeat (first | assumption | refine List.mem_cons_of_mem _ ?_))); (try k_lt l1); k_cells Y'; (try simp only [List.cons_append, List.nil_append] at N'); (try dsimp only); (try k_lift B'); (try k_fold))
  (repeat (first | (k_unfold; (try dsimp only)) | walk1 | (dsimp only; walk1)))
  refine ⟨_, 2, _, fun i => [[Value.str x1 t1, .str x2 t2].getD i .none, [Value.int i1 u1, .int i2 u2].getD i .none, v], _, rfl, rfl, by assumption, by assumption, by assumption, by decide, ?hy, ?h2, ?hQ⟩
  case h2 => exact fun i _ => ⟨_, _, rfl⟩
  case hy =>
    intro i9 C9 oC9 m9 h9 tk9 hi9 hC9 ha9 hb9 F9 N9
    refine ⟨_, _, _, _, _, rfl, rfl, ?y1, ?y2, ?y3⟩
    case y1 => (intro Q9 E9 q9; walk1; exact q9)
    case y2 => (intro Q9 E9 q9; walk1; exact q9)
    case y3 => (intro Q9 E9 q9; walk1; exact q9)
  case hQ =>
    intro B9 D9 acc9 h9 tk9 hl9 F9 N9 lt9 hD9 ha9 fr9
    obtain ⟨T90, T91, N10, d0, d1⟩ := acc2 hl9 N9 hD9 ha9 fr9
    simp only [List.getD_cons_zero, List.getD_cons_succ] at N10
    clear N9 ha9 fr9 hl9
    k_lt lt9
    k_steps
    refine hret _ [_, _, _, _, _, _, _, _, _] _ _ _ ?isM ?fn ?off ?code (by assumption) (by assumption)
    case fn => exact ⟨_, _, _, _, List.mem_cons_self⟩
    case off => (repeat' (first | exact True.intro | refine And.intro ?_ ?_ | k_ne))
    case code => exact ⟨_, _, _, List.mem_cons_of_mem _ List.mem_cons_self, by assumption, by assumption⟩
    case isM =>
      intro rest d1 d2 D1 D2 R1 R2
      unfold DoesC
      clear B F N T C30 C18 hk hd hu hret hn hn1 hn2
      intro p loose mean mg mb dp un gd cn cs fa ccd cl outer A₀ base h₀ L m s Q E B F X N T C30 C18 hk hd hu hret
      simp only [List.cons_append, List.nil_append] at N hret
      refine wpAny_call ?_
      k_dflt (refine' code_nest ?k1 ?k2 ?k3 ?k4 ?k5 ?kA ?kF ?kK ?k6 ?k7 ?k8 ?k9 ?kB ?_ ?c2 ?c3 ?c4 ?c5; (case kA => exact rfl); (case kF => exact rfl); (case kK => assumption); (case k1 => k_asm); (case k2 => k_asm); (case k3 => k_asm); (case k4 => k_asm); (case k5 => k_asm); (case k6 => k_mem); (case k7 => exact codeRec_news (by k_asm) (by k_mem) (by assumption) (by assumption)); (case k8 => exact dp_room (by assumption)); (case k9 => exact BindsTo.of_eq rfl); (case c5 => decide); (case kB => exact locs rfl); (case c2 => exact rfl); (case c3 => exact rfl); (case c4 => exact rfl); k_whole; intro g' L' h' FG' F' N' B' X' T'; (try dsimp only); (try k_lift B'); (try k_fold))
      k_steps
      (repeat (first | (k_unfold; (try dsimp only)) | walk1 | (dsimp only; walk1)))
      k_dflt (refine wpAny_For ?_)
      (first | walk1 | (dsimp only; walk1))
      k_dflt (refine' iter_tups ?hh ?iF ?iN ?im ?ir ?_)
      case hh => rfl
      case iF => k_asm
      case iN => k_asm
      case im => k_mem
      case ir => (intro v hv; (repeat (first | exact ⟨_, List.mem_singleton.mp hv⟩ | (rcases List.mem_cons.mp hv with rfl | hv; exact ⟨_, rfl⟩))))
      k_steps
      all_goals (refine hret _ _ _ ?P (by assumption) ?N; (case P => first | exact and_tt (by assumption) (by assumption) | exact and_f2 (by assumption) (by assumption) | exact and_f1 (by assumption)); (case N => first | assumption | exact news_tail (by assumption)))

end Mine
end
-- D3
section
open PySem PySem.W PyProof.Rows PySem.Spec PySem.Calls PyProof.V
set_option maxRecDepth 100000
set_option maxHeartbeats 8000000
set_option linter.unusedVariables false
set_option pp.deepTerms false
set_option pp.deepTerms.threshold 7
set_option pp.proofs false
namespace Mine
local macro_rules | `(tactic| k_all) => `(tactic| assumption)
local macro_rules | `(tactic| k_tabat) => `(tactic| (refine' RowAt.tab' ?tn ?tr ?ts; (case tn => k_asm); (case tr => assumption); (case ts => (intro p9 hp9; (repeat (first | assumption | refine List.mem_cons_of_mem _ ?_))))))
local macro_rules | `(tactic| walk_at "callWith") => `(tactic| (k_here; k_dflt (refine' callWith_op ?kv ?kX ?_; (case kv => assumption); (case kX => k_asm); k_whole)))
local macro_rules | `(tactic| walk_at "call") => `(tactic| (k_here; k_dflt (
  (refine' Does.use (op_does ?kv _ _ _ _ _) ?k1 ?k2 ?k3 ?k4 ?k5 ?kK ?kd ?ku ?_; (case kv => assumption); (case k1 => k_asm); (case k2 => k_asm); (case k3 => k_asm); (case k4 => k_asm); (case k5 => k_asm); (case kK => first | exact rfl | assumption); (case kd => exact dp_next (by assumption) rfl); (case ku => exact un_next (by assumption) rfl); (intro r9 h9 tk9 hP9 F9 N9); (subst hP9); (try dsimp only); (try k_fold)))))
local macro_rules | `(tactic| walk_at "call builtin:dict.get") => `(tactic| (k_here; k_dflt (refine' get_row ?tn ?tr ?ts ?_; (case tn => k_asm); (case tr => assumption); (case ts => (intro p9 hp9; (repeat (first | assumption | refine List.mem_cons_of_mem _ ?_)))); k_whole); intro t9))
local macro_rules | `(tactic| walk_at "call builtin:isinstance") => `(tactic| (k_here; k_dflt (refine' isi_op ?kv ?kX ?kF ?_; (case kv => assumption); (case kX => k_asm); (case kF => k_asm); k_whole); intro tk9))
local macro_rules | `(tactic| walk_at "call type:zip") => `(tactic| (k_dflt (first | (refine' zip2_good ?zF ?zN ?zm1 ?zm2 ?zn1 ?zn2 ?_; (case zF => k_asm); (case zN => k_asm); (case zm1 => k_mem); (case zm2 => k_mem); (case zn1 => exact rfl); (case zn2 => exact rfl); intro z9 h9 F9 N9 Z9) | (refine' zip3_good ?zF ?zN ?zm1 ?zm2 ?zm3 ?zn1 ?zn2 ?zn3 ?_; (case zF => k_asm); (case zN => k_asm); (case zm1 => k_mem); (case zm2 => k_mem); (case zm3 => k_mem); (case zn1 => exact rfl); (case zn2 => exact rfl); (case zn3 => exact rfl); intro z9 h9 F9 N9 Z9))))
local macro_rules | `(tactic| walk_at "call type:list") => `(tactic| (k_dflt (first | (refine' list_zip_K2 ?zA ?zF ?zN ?zZ ?_; (case zZ => assumption); (case zA => rfl); (case zF => k_asm); (case zN => k_asm); intro D9 T90 T91 c9 h9 F9 N9 l1 l2; (try simp only [List.getD_cons_zero, List.getD_cons_succ] at N9); (try k_lt l1)) | (refine' list_zip_K3 ?zA ?zF ?zN ?zZ ?_; (case zZ => assumption); (case zA => rfl); (case zF => k_asm); (case zN => k_asm); intro D9 T90 T91 T92 c9 h9 F9 N9 l1 l2; (try simp only [List.getD_cons_zero, List.getD_cons_succ] at N9); (try k_lt l1)))))
local macro_rules | `(tactic| walk_at "callWith type:zip") => `(tactic| (k_dflt (refine' callWith_typeKw ?_ ?k1 ?k2 ?k3 ?k4; (case k1 => exact .inr rfl); (case k2 => rfl); (case k3 => rfl); (case k4 => rfl); k_whole)))
local macro_rules | `(tactic| walk_at "TupsRest") => `(tactic| (k_dflt (first | (refine TupsRest.cons ?_; intro h' tk' o' F' N' l1; (try k_lt l1)) | (refine TupsRest.nil ?_; intro h' tk' F' N'))))
local macro_rules | `(tactic| walk_at "TupEnd") => `(tactic| (k_dflt (refine' TupEnd.same ?tF ?tN ?_; (case tF => assumption); (case tN => assumption))))
local macro_rules | `(tactic| k_all) => `(tactic| (refine ne_of_below (by assumption) ?_; (repeat (refine Nat.le_succ_of_le ?_)); exact Nat.le_refl _))
local macro_rules | `(tactic| walk_at "CompEnd") => `(tactic| (k_dflt (refine' cend_new ?tF ?tN ?to ?tf ?tS ?_; (case tF => assumption); (case tN => assumption); (case to => refine ⟨?_, ?_, ?_⟩ <;> k_ne); (case tf => assumption); (case tS => lcg_src))))
theorem mk3 (w : World) (news : List (Addr × Obj)) (ps qs : Array Value) (hn : OffT news) (kl dl ol : Addr) (hkl : @LT.lt Nat _ 28 kl) (hdl : @LT.lt Nat _ 28 dl) (hol : @LT.lt Nat _ 28 ol) (x1 : Str) (t1 : Tok) (x2 : Str) (t2 : Tok) (i1 : Int) (u1 : Tok) (i2 : Int) (u2 : Tok) (v1 v2 : Value) (k1 k2 : Int) (hv1 : OpV v1 k1) (hv2 : OpV v2 k2) (cA cB : Addr) (qB : CodeOf news cB "generic_node_match.<locals>.match")
    (p : Program) (loose : List Str) (mean : ExcName → Option Value) (mg mb : Str → Option Value) (dp un : Nat) (gd : Option (List Code)) (cn : Str) (cs : Scope) (a : Addr) (ccd : Value) (cl : List (Str × Addr)) (outer : List Env) (A₀ : Around) (base h₀ : Heap) (L : Addr) (m : Str → Option Value) (s : Shared)
    (Q E : Value → Shared → Prop) (B : Below A₀ base outer h₀) (F : Fr h₀ L s.heap m) (X : (Mine.hd.heap_39 w.params).In h₀) (N : News h₀ L s.heap ((28, tabObj #[rawInt 21, rawInt 8, .ref cA, rawInt 34, rawInt 8, .ref cB]) :: (16, tabObj qs) :: (kl, PySem.W.listOf [.str x1 t1, .str x2 t2].toArray 0) :: (dl, PySem.W.listOf [.int i1 u1, .int i2 u2].toArray 0) :: (ol, PySem.W.listOf [v1, v2].toArray 0) :: news)) (T : Top p loose mean mg mb h₀) (C30 : CodeHd base 30 28) (C18 : CodeHd base 18 16) (hk : cs.kind = .function) (hd : dp + 20 ≤ 500) (hu : un + 10 * 20 ≤ 5000)
    (hret : ∀ f led  h' tk', IsMatch w led f (fun D1 D2 => agree D1 D2 x1 i1 k1 && (agree D1 D2 x2 i2 k2 && true)) → FnLed led f → OffT led → Fr h₀ L h' m → News h₀ L h' (led ++ (28, tabObj #[rawInt 21, rawInt 8, .ref cA, rawInt 34, rawInt 8, .ref cB]) :: (16, tabObj qs) :: (kl, PySem.W.listOf [.str x1 t1, .str x2 t2].toArray 0) :: (dl, PySem.W.listOf [.int i1 u1, .int i2 u2].toArray 0) :: (ol, PySem.W.listOf [v1, v2].toArray 0) :: news) → Q (.ref f) { s with heap := h', toks := tk' }) :
    wpAny (model PySem.Challenge.rw_au6007_01.row.prog w) (ktrTop dp un gd cn cs L a ccd cl outer) (call (.ref 31) [.ref kl, .ref dl, .ref ol]) Q E s := by
  have hn1 := hn.of28
  have hn2 := hn.of16
  revert X
  k_fill
  intro X
  refine wpAny_call ?_
  k_dflt (refine' code_defC ?k1 ?k2 ?k3 ?k4 ?k5 ?kA ?kF ?kK ?k6 ?k7 ?k8 ?k9 ?kB ?kD ?_ ?c2 ?c3 ?c4; (case kA => exact rfl); (case kF => exact rfl); (case kK => assumption); (case k1 => k_asm); (case k2 => k_asm); (case k3 => k_asm); (case k4 => k_asm); (case k5 => k_asm); (case k6 => k_is); (case k7 => k_is); (case k8 => exact dp_room (by assumption)); (case k9 => exact BindsTo.of_eq rfl); (case kB => exact rfl); (case kD => decide +kernel); (case c2 => exact rfl); (case c3 => exact rfl); (case c4 => exact rfl); k_whole; intro g' L' h' tk' cells' FG' F' N' Y' B' X' T' l1; (have hl9 : ∀ p ∈ news, p.1 < L' := fun p hp => l1 p (by repeat (first | assumption | refine List.mem_cons_of_mem _ ?_))); (try k_lt l1); k_cells Y'; (try simp only [List.cons_append, List.nil_append] at N'); (try dsimp only); (try k_lift B'); (try k_fold))
  obtain ⟨oC, vC, tC, mC, dC, sC⟩ := qB
  k_steps
  refine hret _ [_, _, _, _, _, _, _, _, _] _ _ ?isM ?fn ?off (by assumption) (news_dup (x := (cB, oC)) (by assumption) ?mem)
  case fn => exact ⟨_, _, _, _, (List.mem_cons_of_mem _ List.mem_cons_self)⟩
  case off => (refine ⟨⟨hn1 _ mC, hn2 _ mC⟩, ?_⟩; repeat' (first | exact True.intro | refine And.intro ?_ ?_ | k_ne))
  case mem => repeat (first | assumption | refine List.mem_cons_of_mem _ ?_)
  case isM =>
    intro rest d1 d2 D1 D2 R1 R2
    unfold DoesC
    clear B F N T C30 C18 hk hd hu hret hn hn1 hn2
    intro p loose mean mg mb dp un gd cn cs fa ccd cl outer A₀ base h₀ L m s Q E B F X N T C30 C18 hk hd hu hret
    simp only [List.cons_append, List.nil_append] at N hret
    refine wpAny_call ?_
    k_dflt (refine' code_nest ?k1 ?k2 ?k3 ?k4 ?k5 ?kA ?kF ?kK ?k6 ?k7 ?k8 ?k9 ?kB ?_ ?c2 ?c3 ?c4 ?c5; (case kA => exact rfl); (case kF => exact rfl); (case kK => assumption); (case k1 => k_asm); (case k2 => k_asm); (case k3 => k_asm); (case k4 => k_asm); (case k5 => k_asm); (case k6 => k_mem); (case k7 => exact codeRec_news (by k_asm) (by k_mem) (by assumption) (by assumption)); (case k8 => exact dp_room (by assumption)); (case k9 => exact BindsTo.of_eq rfl); (case c5 => decide); (case kB => exact locs rfl); (case c2 => exact rfl); (case c3 => exact rfl); (case c4 => exact rfl); k_whole; intro g' L' h' FG' F' N' B' X' T'; (try dsimp only); (try k_lift B'); (try k_fold))
    k_steps
    (repeat (first | (k_unfold; (try dsimp only)) | walk1 | (dsimp only; walk1)))
    k_dflt (refine wpAny_For ?_)
    (first | walk1 | (dsimp only; walk1))
    k_dflt (refine' iter_tups ?hh ?iF ?iN ?im ?ir ?_)
    case hh => rfl
    case iF => k_asm
    case iN => k_asm
    case im => k_mem
    case ir => (intro v hv; (repeat (first | exact ⟨_, List.mem_singleton.mp hv⟩ | (rcases List.mem_cons.mp hv with rfl | hv; exact ⟨_, rfl⟩))))
    k_steps
    all_goals (refine hret _ _ _ ?P (by assumption) ?N; (case P => first | exact and_tt (by assumption) (by assumption) | exact and_f2 (by assumption) (by assumption) | exact and_f1 (by assumption)); (case N => first | assumption | exact news_tail (by assumption)))

end Mine
end
-- DE3
section
open PySem PySem.W PyProof.Rows PySem.Spec PySem.Calls PyProof.V
set_option maxRecDepth 100000
set_option maxHeartbeats 3000000
set_option linter.unusedVariables false
set_option pp.deepTerms false
set_option pp.deepTerms.threshold 7
set_option pp.proofs false
namespace Mine
local macro_rules | `(tactic| ktr_room) => `(tactic| exact dp_room (by assumption))
theorem mke3 (w : World) (news : List (Addr × Obj)) (ps qs : Array Value) (hn : OffT news) (kl dl ol : Addr) (hkl : @LT.lt Nat _ 28 kl) (hdl : @LT.lt Nat _ 28 dl) (hol : @LT.lt Nat _ 28 ol) (x1 : Str) (t1 : Tok) (x2 : Str) (t2 : Tok) (i1 : Int) (u1 : Tok) (i2 : Int) (u2 : Tok) (v1 v2 : Value) (k1 k2 : Int) (hv1 : OpV v1 k1) (hv2 : OpV v2 k2) (cA cB : Addr) (qB : CodeOf news cB "generic_node_match.<locals>.match")
    (p : Program) (loose : List Str) (mean : ExcName → Option Value) (mg mb : Str → Option Value) (dp un : Nat) (gd : Option (List Code)) (cn : Str) (cs : Scope) (a : Addr) (ccd : Value) (cl : List (Str × Addr)) (outer : List Env) (A₀ : Around) (base h₀ : Heap) (L : Addr) (m : Str → Option Value) (s : Shared)
    (Q E : Value → Shared → Prop) (B : Below A₀ base outer h₀) (F : Fr h₀ L s.heap m) (X : (Mine.hd.heap_39 w.params).In h₀) (N : News h₀ L s.heap ((28, tabObj #[rawInt 21, rawInt 8, .ref cA, rawInt 34, rawInt 8, .ref cB]) :: (16, tabObj qs) :: (kl, PySem.W.listOf [.str x1 t1, .str x2 t2].toArray 0) :: (dl, PySem.W.listOf [.int i1 u1, .int i2 u2].toArray 0) :: (ol, PySem.W.listOf [v1, v2].toArray 0) :: news)) (T : Top p loose mean mg mb h₀) (C30 : CodeHd base 30 28) (C18 : CodeHd base 18 16) (hk : cs.kind = .function) (hd : dp + 22 ≤ 500) (hu : un + 10 * 22 ≤ 5000)
    (hret : ∀ f led  h' tk', IsMatch w led f (fun D1 D2 => agree D1 D2 x1 i1 k1 && (agree D1 D2 x2 i2 k2 && true)) → FnLed led f → OffT led → Fr h₀ L h' m → News h₀ L h' (led ++ (28, tabObj #[rawInt 21, rawInt 8, .ref cA, rawInt 34, rawInt 8, .ref cB]) :: (16, tabObj qs) :: (kl, PySem.W.listOf [.str x1 t1, .str x2 t2].toArray 0) :: (dl, PySem.W.listOf [.int i1 u1, .int i2 u2].toArray 0) :: (ol, PySem.W.listOf [v1, v2].toArray 0) :: news) → Q (.ref f) { s with heap := h', toks := tk' }) :
    wpAny (model PySem.Challenge.rw_au6007_01.row.prog w) (ktrTop dp un gd cn cs L a ccd cl outer) (call (.ref 38) [.ref kl, .ref dl, .ref ol]) Q E s := by
  revert X
  k_fill
  intro X
  refine wpAny_call ?_
  k_dflt ktr_enter
  (repeat (first | (k_unfold; (try dsimp only)) | ((fail_if_success (with_reducible show wpAny _ _ (call (Value.ref 31) _) _ _ _)); (first | walk1 | (dsimp only; walk1)))))
  refine' mk3 w news ps qs hn kl dl ol hkl hdl hol x1 t1 x2 t2 i1 u1 i2 u2 v1 v2 k1 k2 hv1 hv2 cA cB qB _ _ _ _ _ _ _ _ _ _ _ _ _ _ _ _ _ _ _ _ _ _ ?B ?F ?X ?N ?T C30 C18 ?hk ?hd ?hu ?hret
  case N => k_asm
  case F => k_asm
  case B => k_asm
  case T => k_asm
  case X => k_asm
  case hk => first | exact rfl | assumption
  case hd => exact Nat.le_trans (Nat.add_le_add_left (by decide) _) (dp_next (d := 21) hd rfl)
  case hu => exact Nat.le_trans (Nat.add_le_add_left (by decide) _) (un_next (d := 21) hu rfl)
  case hret =>
    intro f9 led9 h9 tk9 hM hF hO F9 N9
    k_steps
    exact hret _ _ _ _ hM hF hO (by assumption) (by assumption)
end Mine
end
-- D4
section
open PySem PySem.W PyProof.Rows PySem.Spec PySem.Calls PyProof.V
set_option maxRecDepth 100000
set_option maxHeartbeats 3000000
set_option linter.unusedVariables false
set_option pp.deepTerms false
set_option pp.deepTerms.threshold 7
set_option pp.proofs false
namespace Mine
local macro_rules | `(tactic| k_all) => `(tactic| assumption)
local macro_rules | `(tactic| k_tabat) => `(tactic| (refine' RowAt.tab' ?tn ?tr ?ts; (case tn => k_asm); (case tr => assumption); (case ts => (intro p9 hp9; (repeat (first | assumption | refine List.mem_cons_of_mem _ ?_))))))
local macro_rules | `(tactic| walk_at "callWith") => `(tactic| (k_here; k_dflt (refine' callWith_op ?kv ?kX ?_; (case kv => assumption); (case kX => k_asm); k_whole)))
local macro_rules | `(tactic| walk_at "call") => `(tactic| (k_here; k_dflt (
  (refine' Does.use (op_does ?kv _ _ _ _ _) ?k1 ?k2 ?k3 ?k4 ?k5 ?kK ?kd ?ku ?_; (case kv => assumption); (case k1 => k_asm); (case k2 => k_asm); (case k3 => k_asm); (case k4 => k_asm); (case k5 => k_asm); (case kK => first | exact rfl | assumption); (case kd => exact dp_next (by assumption) rfl); (case ku => exact un_next (by assumption) rfl); (intro r9 h9 tk9 hP9 F9 N9); (subst hP9); (try dsimp only); (try k_fold)))))
local macro_rules | `(tactic| walk_at "call builtin:dict.get") => `(tactic| (k_here; k_dflt (refine' get_row ?tn ?tr ?ts ?_; (case tn => k_asm); (case tr => assumption); (case ts => (intro p9 hp9; (repeat (first | assumption | refine List.mem_cons_of_mem _ ?_)))); k_whole); intro t9))
local macro_rules | `(tactic| walk_at "call builtin:isinstance") => `(tactic| (k_here; k_dflt (refine' isi_op ?kv ?kX ?kF ?_; (case kv => assumption); (case kX => k_asm); (case kF => k_asm); k_whole); intro tk9))
local macro_rules | `(tactic| walk_at "exec Assign cons ListComp") => `(tactic| k_dflt (walk_at "exec Assign"))
local macro_rules | `(tactic| walk_at "eval ListComp") => `(tactic| (k_here; k_dflt (refine' ListComp_Z ?zF ?z1 ?z2 ?z3 ?z4 ?z5 ?z6 ?z7 ?z8 ?_; (case zF => k_asm); (case z1 => with_unfolding_all rfl); (case z2 => decide); (case z3 => rfl); (case z4 => decide); (case z5 => rfl); (case z6 => rfl); (case z7 => decide); (case z8 => (intro C9; rfl)); k_whole)))
local macro_rules | `(tactic| walk_at "call type:zip") => `(tactic| (k_dflt (first | (refine' zip2_good ?zF ?zN ?zm1 ?zm2 ?zn1 ?zn2 ?_; (case zF => k_asm); (case zN => k_asm); (case zm1 => k_mem); (case zm2 => k_mem); (case zn1 => exact rfl); (case zn2 => exact rfl); intro z9 h9 F9 N9 Z9) | (refine' zip3_good ?zF ?zN ?zm1 ?zm2 ?zm3 ?zn1 ?zn2 ?zn3 ?_; (case zF => k_asm); (case zN => k_asm); (case zm1 => k_mem); (case zm2 => k_mem); (case zm3 => k_mem); (case zn1 => exact rfl); (case zn2 => exact rfl); (case zn3 => exact rfl); intro z9 h9 F9 N9 Z9))))
local macro_rules | `(tactic| walk_at "call type:list") => `(tactic| (k_dflt (first | (refine' list_zip_K2 ?zA ?zF ?zN ?zZ ?_; (case zZ => assumption); (case zA => rfl); (case zF => k_asm); (case zN => k_asm); intro D9 T90 T91 c9 h9 F9 N9 l1 l2; (try simp only [List.getD_cons_zero, List.getD_cons_succ] at N9); (try k_lt l1)) | (refine' list_zip_K3 ?zA ?zF ?zN ?zZ ?_; (case zZ => assumption); (case zA => rfl); (case zF => k_asm); (case zN => k_asm); intro D9 T90 T91 T92 c9 h9 F9 N9 l1 l2; (try simp only [List.getD_cons_zero, List.getD_cons_succ] at N9); (try k_lt l1)))))
local macro_rules | `(tactic| walk_at "callWith type:zip") => `(tactic| (k_dflt (refine' callWith_typeKw ?_ ?k1 ?k2 ?k3 ?k4; (case k1 => exact .inr rfl); (case k2 => rfl); (case k3 => rfl); (case k4 => rfl); k_whole)))
local macro_rules | `(tactic| walk_at "TupsRest") => `(tactic| (k_dflt (first | (refine TupsRest.cons ?_; intro h' tk' o' F' N' l1; (try k_lt l1)) | (refine TupsRest.nil ?_; intro h' tk' F' N'))))
local macro_rules | `(tactic| walk_at "TupEnd") => `(tactic| (k_dflt (refine' TupEnd.same ?tF ?tN ?_; (case tF => assumption); (case tN => assumption))))
local macro_rules | `(tactic| k_all) => `(tactic| (refine ne_of_below (by assumption) ?_; (repeat (refine Nat.le_succ_of_le ?_)); exact Nat.le_refl _))
local macro_rules | `(tactic| walk_at "CompEnd") => `(tactic| (k_dflt (refine' cend_new ?tF ?tN ?to ?tf ?tS ?_; (case tF => assumption); (case tN => assumption); (case to => refine ⟨?_, ?_, ?_⟩ <;> k_ne); (case tf => assumption); (case tS => lcg_src))))
theorem mk4 (w : World) (news : List (Addr × Obj)) (ps qs : Array Value) (hn : OffT news) (kl ol : Addr) (hkl : @LT.lt Nat _ 28 kl) (hol : @LT.lt Nat _ 28 ol) (x1 : Str) (t1 : Tok) (x2 : Str) (t2 : Tok) (i1 : Int) (u1 : Tok) (v1 v2 : Value) (k1 k2 : Int) (hv1 : OpV v1 k1) (hv2 : OpV v2 k2) (cA cB : Addr) (qB : CodeOf news cB "generic_node_match.<locals>.match")
    (p : Program) (loose : List Str) (mean : ExcName → Option Value) (mg mb : Str → Option Value) (dp un : Nat) (gd : Option (List Code)) (cn : Str) (cs : Scope) (a : Addr) (ccd : Value) (cl : List (Str × Addr)) (outer : List Env) (A₀ : Around) (base h₀ : Heap) (L : Addr) (m : Str → Option Value) (s : Shared)
    (Q E : Value → Shared → Prop) (B : Below A₀ base outer h₀) (F : Fr h₀ L s.heap m) (X : (Mine.hd.heap_39 w.params).In h₀) (N : News h₀ L s.heap ((28, tabObj #[rawInt 21, rawInt 8, .ref cA, rawInt 34, rawInt 8, .ref cB]) :: (16, tabObj qs) :: (kl, PySem.W.listOf [.str x1 t1, .str x2 t2].toArray 0) :: (ol, PySem.W.listOf [v1, v2].toArray 0) :: news)) (T : Top p loose mean mg mb h₀) (C30 : CodeHd base 30 28) (C18 : CodeHd base 18 16) (hk : cs.kind = .function) (hd : dp + 20 ≤ 500) (hu : un + 10 * 20 ≤ 5000)
    (hret : ∀ f led  h' tk', IsMatch w led f (fun D1 D2 => agree D1 D2 x1 i1 k1 && (agree D1 D2 x2 i1 k2 && true)) → FnLed led f → OffT led → Fr h₀ L h' m → News h₀ L h' (led ++ (28, tabObj #[rawInt 21, rawInt 8, .ref cA, rawInt 34, rawInt 8, .ref cB]) :: (16, tabObj qs) :: (kl, PySem.W.listOf [.str x1 t1, .str x2 t2].toArray 0) :: (ol, PySem.W.listOf [v1, v2].toArray 0) :: news) → Q (.ref f) { s with heap := h', toks := tk' }) :
    wpAny (model PySem.Challenge.rw_au6007_01.row.prog w) (ktrTop dp un gd cn cs L a ccd cl outer) (call (.ref 31) [.ref kl, .int i1 u1, .ref ol]) Q E s := by
  have hn1 := hn.of28
  have hn2 := hn.of16
  revert X
  k_fill
  intro X
  refine wpAny_call ?_
  k_dflt (refine' code_defC ?k1 ?k2 ?k3 ?k4 ?k5 ?kA ?kF ?kK ?k6 ?k7 ?k8 ?k9 ?kB ?kD ?_ ?c2 ?c3 ?c4; (case kA => exact rfl); (case kF => exact rfl); (case kK => assumption); (case k1 => k_asm); (case k2 => k_asm); (case k3 => k_asm); (case k4 => k_asm); (case k5 => k_asm); (case k6 => k_is); (case k7 => k_is); (case k8 => exact dp_room (by assumption)); (case k9 => exact BindsTo.of_eq rfl); (case kB => exact rfl); (case kD => decide +kernel); (case c2 => exact rfl); (case c3 => exact rfl); (case c4 => exact rfl); k_whole; intro g' L' h' tk' cells' FG' F' N' Y' B' X' T' l1; (have hl9 : ∀ p ∈ news, p.1 < L' := fun p hp => l1 p (by repeat (first | assumption | refine List.mem_cons_of_mem _ ?_))); (try k_lt l1); k_cells Y'; (try simp only [List.cons_append, List.nil_append] at N'); (try dsimp only); (try k_lift B'); (try k_fold))
  obtain ⟨oC, vC, tC, mC, dC, sC⟩ := qB
  (repeat (first | (k_unfold; (try dsimp only)) | walk1 | (dsimp only; walk1)))
  refine ⟨_, 2, _, fun i => [[Value.str x1 t1, .str x2 t2].getD i .none, .int i1 u1, [v1, v2].getD i .none], _, rfl, rfl, by assumption, by assumption, by assumption, by decide, ?hy, ?h2, ?hQ⟩
  case h2 => exact fun i _ => ⟨_, _, rfl⟩
  case hy =>
    intro i9 C9 oC9 m9 h9 tk9 hi9 hC9 ha9 hb9 F9 N9
    refine ⟨_, _, _, _, _, rfl, rfl, ?y1, ?y2, ?y3⟩
    case y1 => (intro Q9 E9 q9; walk1; exact q9)
    case y2 => (intro Q9 E9 q9; walk1; exact q9)
    case y3 => (intro Q9 E9 q9; walk1; exact q9)
  case hQ =>
    intro B9 D9 acc9 h9 tk9 hl9 F9 N9 lt9 hD9 ha9 fr9
    obtain ⟨T90, T91, N10, d0, d1⟩ := acc2 hl9 N9 hD9 ha9 fr9
    simp only [List.getD_cons_zero, List.getD_cons_succ] at N10
    clear N9 ha9 fr9 hl9
    k_lt lt9
    k_steps
    refine hret _ [_, _, _, _, _, _, _, _, _] _ _ ?isM ?fn ?off (by assumption) (news_dup (x := (cB, oC)) (by assumption) ?mem)
    case fn => exact ⟨_, _, _, _, (List.mem_cons_of_mem _ List.mem_cons_self)⟩
    case off => (refine ⟨⟨hn1 _ mC, hn2 _ mC⟩, ?_⟩; repeat' (first | exact True.intro | refine And.intro ?_ ?_ | k_ne))
    case mem => repeat (first | assumption | refine List.mem_cons_of_mem _ ?_)
    case isM =>
      intro rest d1 d2 D1 D2 R1 R2
      unfold DoesC
      clear B F N T C30 C18 hk hd hu hret hn hn1 hn2
      intro p loose mean mg mb dp un gd cn cs fa ccd cl outer A₀ base h₀ L m s Q E B F X N T C30 C18 hk hd hu hret
      simp only [List.cons_append, List.nil_append] at N hret
      refine wpAny_call ?_
      k_dflt (refine' code_nest ?k1 ?k2 ?k3 ?k4 ?k5 ?kA ?kF ?kK ?k6 ?k7 ?k8 ?k9 ?kB ?_ ?c2 ?c3 ?c4 ?c5; (case kA => exact rfl); (case kF => exact rfl); (case kK => assumption); (case k1 => k_asm); (case k2 => k_asm); (case k3 => k_asm); (case k4 => k_asm); (case k5 => k_asm); (case k6 => k_mem); (case k7 => exact codeRec_news (by k_asm) (by k_mem) (by assumption) (by assumption)); (case k8 => exact dp_room (by assumption)); (case k9 => exact BindsTo.of_eq rfl); (case c5 => decide); (case kB => exact locs rfl); (case c2 => exact rfl); (case c3 => exact rfl); (case c4 => exact rfl); k_whole; intro g' L' h' FG' F' N' B' X' T'; (try dsimp only); (try k_lift B'); (try k_fold))
      k_steps
      (repeat (first | (k_unfold; (try dsimp only)) | walk1 | (dsimp only; walk1)))
      k_dflt (refine wpAny_For ?_)
      (first | walk1 | (dsimp only; walk1))
      k_dflt (refine' iter_tups ?hh ?iF ?iN ?im ?ir ?_)
      case hh => rfl
      case iF => k_asm
      case iN => k_asm
      case im => k_mem
      case ir => (intro v hv; (repeat (first | exact ⟨_, List.mem_singleton.mp hv⟩ | (rcases List.mem_cons.mp hv with rfl | hv; exact ⟨_, rfl⟩))))
      k_steps
      all_goals (refine hret _ _ _ ?P (by assumption) ?N; (case P => first | exact and_tt (by assumption) (by assumption) | exact and_f2 (by assumption) (by assumption) | exact and_f1 (by assumption)); (case N => first | assumption | exact news_tail (by assumption)))

end Mine
end
-- D5
section
open PySem PySem.W PyProof.Rows PySem.Spec PySem.Calls PyProof.V
set_option maxRecDepth 100000
set_option maxHeartbeats 8000000
set_option linter.unusedVariables false
set_option pp.deepTerms false
set_option pp.deepTerms.threshold 7
set_option pp.proofs false
namespace Mine
local macro_rules | `(tactic| k_all) => `(tactic| assumption)
local macro_rules | `(tactic| k_tabat) => `(tactic| (refine' RowAt.tab' ?tn ?tr ?ts; (case tn => k_asm); (case tr => assumption); (case ts => (intro p9 hp9; (repeat (first | assumption | refine List.mem_cons_of_mem _ ?_))))))
local macro_rules | `(tactic| walk_at "callWith") => `(tactic| (k_here; k_dflt (refine' callWith_op ?kv ?kX ?_; (case kv => assumption); (case kX => k_asm); k_whole)))
local macro_rules | `(tactic| walk_at "call") => `(tactic| (k_here; k_dflt (
  (refine' Does.use (op_does ?kv _ _ _ _ _) ?k1 ?k2 ?k3 ?k4 ?k5 ?kK ?kd ?ku ?_; (case kv => assumption); (case k1 => k_asm); (case k2 => k_asm); (case k3 => k_asm); (case k4 => k_asm); (case k5 => k_asm); (case kK => first | exact rfl | assumption); (case kd => exact dp_next (by assumption) rfl); (case ku => exact un_next (by assumption) rfl); (intro r9 h9 tk9 hP9 F9 N9); (subst hP9); (try dsimp only); (try k_fold)))))
local macro_rules | `(tactic| walk_at "call builtin:dict.get") => `(tactic| (k_here; k_dflt (refine' get_row ?tn ?tr ?ts ?_; (case tn => k_asm); (case tr => assumption); (case ts => (intro p9 hp9; (repeat (first | assumption | refine List.mem_cons_of_mem _ ?_)))); k_whole); intro t9))
local macro_rules | `(tactic| walk_at "call builtin:isinstance") => `(tactic| (k_here; k_dflt (refine' isi_op ?kv ?kX ?kF ?_; (case kv => assumption); (case kX => k_asm); (case kF => k_asm); k_whole); intro tk9))
local macro_rules | `(tactic| walk_at "TupsRest") => `(tactic| (k_dflt (first | (refine TupsRest.cons ?_; intro h' tk' o' F' N' l1; (try k_lt l1)) | (refine TupsRest.nil ?_; intro h' tk' F' N'))))
local macro_rules | `(tactic| walk_at "TupEnd") => `(tactic| (k_dflt (refine' TupEnd.same ?tF ?tN ?_; (case tF => assumption); (case tN => assumption))))
local macro_rules | `(tactic| k_all) => `(tactic| (refine ne_of_below (by assumption) ?_; (repeat (refine Nat.le_succ_of_le ?_)); exact Nat.le_refl _))
local macro_rules | `(tactic| walk_at "CompEnd") => `(tactic| (k_dflt (refine' cend_new ?tF ?tN ?to ?tf ?tS ?_; (case tF => assumption); (case tN => assumption); (case to => refine ⟨?_, ?_, ?_⟩ <;> k_ne); (case tf => assumption); (case tS => lcg_src))))
theorem mk5 (w : World) (news : List (Addr × Obj)) (ps qs : Array Value) (hn : OffT news) (kl : Addr) (hkl : @LT.lt Nat _ 28 kl) (x1 : Str) (t1 : Tok) (x2 : Str) (t2 : Tok) (i1 : Int) (u1 : Tok) (v : Value) (k : Int) (hv : OpV v k) (cA cB : Addr) (qB : CodeOf news cB "generic_node_match.<locals>.match")
    (p : Program) (loose : List Str) (mean : ExcName → Option Value) (mg mb : Str → Option Value) (dp un : Nat) (gd : Option (List Code)) (cn : Str) (cs : Scope) (a : Addr) (ccd : Value) (cl : List (Str × Addr)) (outer : List Env) (A₀ : Around) (base h₀ : Heap) (L : Addr) (m : Str → Option Value) (s : Shared)
    (Q E : Value → Shared → Prop) (B : Below A₀ base outer h₀) (F : Fr h₀ L s.heap m) (X : (Mine.hd.heap_39 w.params).In h₀) (N : News h₀ L s.heap ((28, tabObj #[rawInt 21, rawInt 8, .ref cA, rawInt 34, rawInt 8, .ref cB]) :: (16, tabObj qs) :: (kl, PySem.W.listOf [.str x1 t1, .str x2 t2].toArray 0) :: news)) (T : Top p loose mean mg mb h₀) (C30 : CodeHd base 30 28) (C18 : CodeHd base 18 16) (hk : cs.kind = .function) (hd : dp + 20 ≤ 500) (hu : un + 10 * 20 ≤ 5000)
    (hret : ∀ f led  h' tk', IsMatch w led f (fun D1 D2 => agree D1 D2 x1 i1 k && (agree D1 D2 x2 i1 k && true)) → FnLed led f → OffT led → Fr h₀ L h' m → News h₀ L h' (led ++ (28, tabObj #[rawInt 21, rawInt 8, .ref cA, rawInt 34, rawInt 8, .ref cB]) :: (16, tabObj qs) :: (kl, PySem.W.listOf [.str x1 t1, .str x2 t2].toArray 0) :: news) → Q (.ref f) { s with heap := h', toks := tk' }) :
    wpAny (model PySem.Challenge.rw_au6007_01.row.prog w) (ktrTop dp un gd cn cs L a ccd cl outer) (call (.ref 31) [.ref kl, .int i1 u1, v]) Q E s := by
  have hn1 := hn.of28
  have hn2 := hn.of16
  revert X
  k_fill
  intro X
  refine wpAny_call ?_
  k_dflt (refine' code_defC ?k1 ?k2 ?k3 ?k4 ?k5 ?kA ?kF ?kK ?k6 ?k7 ?k8 ?k9 ?kB ?kD ?_ ?c2 ?c3 ?c4; (case kA => exact rfl); (case kF => exact rfl); (case kK => assumption); (case k1 => k_asm); (case k2 => k_asm); (case k3 => k_asm); (case k4 => k_asm); (case k5 => k_asm); (case k6 => k_is); (case k7 => k_is); (case k8 => exact dp_room (by assumption)); (case k9 => exact BindsTo.of_eq rfl); (case kB => exact rfl); (case kD => decide +kernel); (case c2 => exact rfl); (case c3 => exact rfl); (case c4 => exact rfl); k_whole; intro g' L' h' tk' cells' FG' F' N' Y' B' X' T' l1; (have hl9 : ∀ p ∈ news, p.1 < L' := fun p hp => l1 p (by repeat (first | assumption | refine List.mem_cons_of_mem _ ?_))); (try k_lt l1); k_cells Y'; (try simp only [List.cons_append, List.nil_append] at N'); (try dsimp only); (try k_lift B'); (try k_fold))
  obtain ⟨oC, vC, tC, mC, dC, sC⟩ := qB
  k_steps
  refine hret _ [_, _, _, _, _, _, _, _, _] _ _ ?isM ?fn ?off (by assumption) (news_dup (x := (cB, oC)) (by assumption) ?mem)
  case fn => exact ⟨_, _, _, _, (List.mem_cons_of_mem _ List.mem_cons_self)⟩
  case off => (refine ⟨⟨hn1 _ mC, hn2 _ mC⟩, ?_⟩; repeat' (first | exact True.intro | refine And.intro ?_ ?_ | k_ne))
  case mem => repeat (first | assumption | refine List.mem_cons_of_mem _ ?_)
  case isM =>
    intro rest d1 d2 D1 D2 R1 R2
    unfold DoesC
    clear B F N T C30 C18 hk hd hu hret hn hn1 hn2
    intro p loose mean mg mb dp un gd cn cs fa ccd cl outer A₀ base h₀ L m s Q E B F X N T C30 C18 hk hd hu hret
    simp only [List.cons_append, List.nil_append] at N hret
    refine wpAny_call ?_
    k_dflt (refine' code_nest ?k1 ?k2 ?k3 ?k4 ?k5 ?kA ?kF ?kK ?k6 ?k7 ?k8 ?k9 ?kB ?_ ?c2 ?c3 ?c4 ?c5; (case kA => exact rfl); (case kF => exact rfl); (case kK => assumption); (case k1 => k_asm); (case k2 => k_asm); (case k3 => k_asm); (case k4 => k_asm); (case k5 => k_asm); (case k6 => k_mem); (case k7 => exact codeRec_news (by k_asm) (by k_mem) (by assumption) (by assumption)); (case k8 => exact dp_room (by assumption)); (case k9 => exact BindsTo.of_eq rfl); (case c5 => decide); (case kB => exact locs rfl); (case c2 => exact rfl); (case c3 => exact rfl); (case c4 => exact rfl); k_whole; intro g' L' h' FG' F' N' B' X' T'; (try dsimp only); (try k_lift B'); (try k_fold))
    k_steps
    (repeat (first | (k_unfold; (try dsimp only)) | walk1 | (dsimp only; walk1)))
    k_dflt (refine wpAny_For ?_)
    (first | walk1 | (dsimp only; walk1))
    k_dflt (refine' iter_tups ?hh ?iF ?iN ?im ?ir ?_)
    case hh => rfl
    case iF => k_asm
    case iN => k_asm
    case im => k_mem
    case ir => (intro v hv; (repeat (first | exact ⟨_, List.mem_singleton.mp hv⟩ | (rcases List.mem_cons.mp hv with rfl | hv; exact ⟨_, rfl⟩))))
    k_steps
    all_goals (refine hret _ _ _ ?P (by assumption) ?N; (case P => first | exact and_tt (by assumption) (by assumption) | exact and_f2 (by assumption) (by assumption) | exact and_f1 (by assumption)); (case N => first | assumption | exact news_tail (by assumption)))

end Mine
end
-- Mk1h
section
open PySem PySem.W PyProof.Rows PySem.Spec PySem.Calls PyProof.V
set_option maxRecDepth 100000
set_option maxHeartbeats 3000000
set_option linter.unusedVariables false
set_option pp.deepTerms false
set_option pp.deepTerms.threshold 7
set_option pp.proofs false
namespace Mine
local macro_rules | `(tactic| k_all) => `(tactic| assumption)
local macro_rules | `(tactic| k_tabat) => `(tactic| (refine' RowAt.tab' ?tn ?tr ?ts; (case tn => k_asm); (case tr => assumption); (case ts => (intro p9 hp9; (repeat (first | assumption | refine List.mem_cons_of_mem _ ?_))))))
local macro_rules | `(tactic| walk_at "callWith") => `(tactic| (k_here; k_dflt (refine' callWith_op ?kv ?kX ?_; (case kv => assumption); (case kX => k_asm); k_whole)))
local macro_rules | `(tactic| walk_at "call") => `(tactic| (k_here; k_dflt (
  (refine' Does.use (op_does ?kv _ _ _ _ _) ?k1 ?k2 ?k3 ?k4 ?k5 ?kK ?kd ?ku ?_; (case kv => assumption); (case k1 => k_asm); (case k2 => k_asm); (case k3 => k_asm); (case k4 => k_asm); (case k5 => k_asm); (case kK => first | exact rfl | assumption); (case kd => exact dp_next (by assumption) rfl); (case ku => exact un_next (by assumption) rfl); (intro r9 h9 tk9 hP9 F9 N9); (subst hP9); (try dsimp only); (try k_fold)))))
local macro_rules | `(tactic| walk_at "call builtin:dict.get") => `(tactic| (k_here; k_dflt (refine' get_row ?tn ?tr ?ts ?_; (case tn => k_asm); (case tr => assumption); (case ts => (intro p9 hp9; (repeat (first | assumption | refine List.mem_cons_of_mem _ ?_)))); k_whole); intro t9))
local macro_rules | `(tactic| walk_at "call builtin:isinstance") => `(tactic| (k_here; k_dflt (refine' isi_op ?kv ?kX ?kF ?_; (case kv => assumption); (case kX => k_asm); (case kF => k_asm); k_whole); intro tk9))
local macro_rules | `(tactic| walk_at "exec Assign cons ListComp") => `(tactic| k_dflt (walk_at "exec Assign"))
local macro_rules | `(tactic| walk_at "eval ListComp") => `(tactic| (k_here; k_dflt (refine' ListComp_Z ?zF ?z1 ?z2 ?z3 ?z4 ?z5 ?z6 ?z7 ?z8 ?_; (case zF => k_asm); (case z1 => with_unfolding_all rfl); (case z2 => decide); (case z3 => rfl); (case z4 => decide); (case z5 => rfl); (case z6 => rfl); (case z7 => decide); (case z8 => (intro C9; rfl)); k_whole)))
local macro_rules | `(tactic| walk_at "call type:zip") => `(tactic| (k_dflt (first | (refine' zip2_good ?zF ?zN ?zm1 ?zm2 ?zn1 ?zn2 ?_; (case zF => k_asm); (case zN => k_asm); (case zm1 => k_mem); (case zm2 => k_mem); (case zn1 => exact rfl); (case zn2 => exact rfl); intro z9 h9 F9 N9 Z9) | (refine' zip3_good ?zF ?zN ?zm1 ?zm2 ?zm3 ?zn1 ?zn2 ?zn3 ?_; (case zF => k_asm); (case zN => k_asm); (case zm1 => k_mem); (case zm2 => k_mem); (case zm3 => k_mem); (case zn1 => exact rfl); (case zn2 => exact rfl); (case zn3 => exact rfl); intro z9 h9 F9 N9 Z9))))
local macro_rules | `(tactic| walk_at "call type:list") => `(tactic| (k_dflt (first | (refine' list_zip_K2 ?zA ?zF ?zN ?zZ ?_; (case zZ => assumption); (case zA => rfl); (case zF => k_asm); (case zN => k_asm); intro D9 T90 T91 c9 h9 F9 N9 l1 l2; (try simp only [List.getD_cons_zero, List.getD_cons_succ] at N9); (try k_lt l1)) | (refine' list_zip_K3 ?zA ?zF ?zN ?zZ ?_; (case zZ => assumption); (case zA => rfl); (case zF => k_asm); (case zN => k_asm); intro D9 T90 T91 T92 c9 h9 F9 N9 l1 l2; (try simp only [List.getD_cons_zero, List.getD_cons_succ] at N9); (try k_lt l1)))))
local macro_rules | `(tactic| walk_at "callWith type:zip") => `(tactic| (k_dflt (refine' callWith_typeKw ?_ ?k1 ?k2 ?k3 ?k4; (case k1 => exact .inr rfl); (case k2 => rfl); (case k3 => rfl); (case k4 => rfl); k_whole)))
local macro_rules | `(tactic| walk_at "TupsRest") => `(tactic| (k_dflt (first | (refine TupsRest.cons ?_; intro h' tk' o' F' N' l1; (try k_lt l1)) | (refine TupsRest.nil ?_; intro h' tk' F' N'))))
local macro_rules | `(tactic| walk_at "TupEnd") => `(tactic| (k_dflt (refine' TupEnd.same ?tF ?tN ?_; (case tF => assumption); (case tN => assumption))))
local macro_rules | `(tactic| k_all) => `(tactic| (refine ne_of_below (by assumption) ?_; (repeat (refine Nat.le_succ_of_le ?_)); exact Nat.le_refl _))
local macro_rules | `(tactic| walk_at "CompEnd") => `(tactic| (k_dflt (refine' cend_new ?tF ?tN ?to ?tf ?tS ?_; (case tF => assumption); (case tN => assumption); (case to => refine ⟨?_, ?_, ?_⟩ <;> k_ne); (case tf => assumption); (case tS => lcg_src))))
theorem mk1h (w : World) (news : List (Addr × Obj)) (ps qs : Array Value) (hn : OffT news) (x : Str) (t : Tok) (i : Int) (u : Tok) (v : Value) (k : Int) (hv : OpV v k) (cB cA : Addr) (qB : CodeOf news cB "generic_node_match.<locals>.match")
    (p : Program) (loose : List Str) (mean : ExcName → Option Value) (mg mb : Str → Option Value) (dp un : Nat) (gd : Option (List Code)) (cn : Str) (cs : Scope) (a : Addr) (ccd : Value) (cl : List (Str × Addr)) (outer : List Env) (A₀ : Around) (base h₀ : Heap) (L : Addr) (m : Str → Option Value) (s : Shared)
    (Q E : Value → Shared → Prop) (B : Below A₀ base outer h₀) (F : Fr h₀ L s.heap m) (X : (Mine.hd.heap_39 w.params).In h₀) (N : News h₀ L s.heap ((28, tabObj #[rawInt 21, rawInt 8, .ref cB, rawInt 34, rawInt 8, .ref cA]) :: (16, tabObj qs) :: news)) (T : Top p loose mean mg mb h₀) (C30 : CodeHd base 30 28) (C18 : CodeHd base 18 16) (hk : cs.kind = .function) (hd : dp + 20 ≤ 500) (hu : un + 10 * 20 ≤ 5000)
    (hret : ∀ f led  h' tk', IsMatch w led f (fun D1 D2 => agree D1 D2 x i k) → FnLed led f → OffT led → Fr h₀ L h' m → News h₀ L h' (led ++ (28, tabObj #[rawInt 21, rawInt 8, .ref cB, rawInt 34, rawInt 8, .ref cA]) :: (16, tabObj qs) :: news) → Q (.ref f) { s with heap := h', toks := tk' }) :
    wpAny (model PySem.Challenge.rw_au6007_01.row.prog w) (ktrTop dp un gd cn cs L a ccd cl outer) (call (.ref 31) [.str x t, .int i u, v]) Q E s := by
  have hn1 := hn.of28
  have hn2 := hn.of16
  revert X
  k_fill
  intro X
  refine wpAny_call ?_
  k_dflt (refine' code_defC ?k1 ?k2 ?k3 ?k4 ?k5 ?kA ?kF ?kK ?k6 ?k7 ?k8 ?k9 ?kB ?kD ?_ ?c2 ?c3 ?c4; (case kA => exact rfl); (case kF => exact rfl); (case kK => assumption); (case k1 => k_asm); (case k2 => k_asm); (case k3 => k_asm); (case k4 => k_asm); (case k5 => k_asm); (case k6 => k_is); (case k7 => k_is); (case k8 => exact dp_room (by assumption)); (case k9 => exact BindsTo.of_eq rfl); (case kB => exact rfl); (case kD => decide +kernel); (case c2 => exact rfl); (case c3 => exact rfl); (case c4 => exact rfl); k_whole; intro g' L' h' tk' cells' FG' F' N' Y' B' X' T' l1; (have hl9 : ∀ p ∈ news, p.1 < L' := fun p hp => l1 p (by repeat (first | assumption | refine List.mem_cons_of_mem _ ?_))); (try k_lt l1); k_cells Y'; (try simp only [List.cons_append, List.nil_append] at N'); (try dsimp only); (try k_lift B'); (try k_fold))
  obtain ⟨oC, vC, tC, mC, dC, sC⟩ := qB
  k_steps
  refine hret _ [_, _, _, _, _, _] _ _ ?isM ?fn ?off (by assumption) (news_dup (x := (cB, oC)) (by assumption) ?mem)
  case fn => exact ⟨_, _, _, _, (List.mem_cons_of_mem _ List.mem_cons_self)⟩
  case off => (refine ⟨⟨hn1 _ mC, hn2 _ mC⟩, ?_⟩; repeat' (first | exact True.intro | refine And.intro ?_ ?_ | k_ne))
  case mem => repeat (first | assumption | refine List.mem_cons_of_mem _ ?_)
  case isM =>
    intro rest d1 d2 D1 D2 R1 R2
    unfold DoesC
    clear B F N T C30 C18 hk hd hu hret hn hn1 hn2
    intro p loose mean mg mb dp un gd cn cs fa ccd cl outer A₀ base h₀ L m s Q E B F X N T C30 C18 hk hd hu hret
    simp only [List.cons_append, List.nil_append] at N hret
    refine wpAny_call ?_
    k_dflt (refine' code_nest ?k1 ?k2 ?k3 ?k4 ?k5 ?kA ?kF ?kK ?k6 ?k7 ?k8 ?k9 ?kB ?_ ?c2 ?c3 ?c4 ?c5; (case kA => exact rfl); (case kF => exact rfl); (case kK => assumption); (case k1 => k_asm); (case k2 => k_asm); (case k3 => k_asm); (case k4 => k_asm); (case k5 => k_asm); (case k6 => k_mem); (case k7 => exact codeRec_news (by k_asm) (by k_mem) (by assumption) (by assumption)); (case k8 => exact dp_room (by assumption)); (case k9 => exact BindsTo.of_eq rfl); (case c5 => decide); (case kB => exact locs rfl); (case c2 => exact rfl); (case c3 => exact rfl); (case c4 => exact rfl); k_whole; intro g' L' h' FG' F' N' B' X' T'; (try dsimp only); (try k_lift B'); (try k_fold))
    k_steps
    k_steps
    all_goals (refine hret _ _ _ ?P (by assumption) (by assumption); (case P => first | rfl | (unfold agree sayB; rfl) | simp [agree, sayB]))

end Mine
end
-- DE1h
section
open PySem PySem.W PyProof.Rows PySem.Spec PySem.Calls PyProof.V
set_option maxRecDepth 100000
set_option maxHeartbeats 3000000
set_option linter.unusedVariables false
set_option pp.deepTerms false
set_option pp.deepTerms.threshold 7
set_option pp.proofs false
namespace Mine
local macro_rules | `(tactic| ktr_room) => `(tactic| exact dp_room (by assumption))
theorem mke1h (w : World) (news : List (Addr × Obj)) (ps qs : Array Value) (hn : OffT news) (x : Str) (t : Tok) (i : Int) (u : Tok) (v : Value) (k : Int) (hv : OpV v k) (cB cA : Addr) (qB : CodeOf news cB "generic_node_match.<locals>.match")
    (p : Program) (loose : List Str) (mean : ExcName → Option Value) (mg mb : Str → Option Value) (dp un : Nat) (gd : Option (List Code)) (cn : Str) (cs : Scope) (a : Addr) (ccd : Value) (cl : List (Str × Addr)) (outer : List Env) (A₀ : Around) (base h₀ : Heap) (L : Addr) (m : Str → Option Value) (s : Shared)
    (Q E : Value → Shared → Prop) (B : Below A₀ base outer h₀) (F : Fr h₀ L s.heap m) (X : (Mine.hd.heap_39 w.params).In h₀) (N : News h₀ L s.heap ((28, tabObj #[rawInt 21, rawInt 8, .ref cB, rawInt 34, rawInt 8, .ref cA]) :: (16, tabObj qs) :: news)) (T : Top p loose mean mg mb h₀) (C30 : CodeHd base 30 28) (C18 : CodeHd base 18 16) (hk : cs.kind = .function) (hd : dp + 22 ≤ 500) (hu : un + 10 * 22 ≤ 5000)
    (hret : ∀ f led  h' tk', IsMatch w led f (fun D1 D2 => agree D1 D2 x i k) → FnLed led f → OffT led → Fr h₀ L h' m → News h₀ L h' (led ++ (28, tabObj #[rawInt 21, rawInt 8, .ref cB, rawInt 34, rawInt 8, .ref cA]) :: (16, tabObj qs) :: news) → Q (.ref f) { s with heap := h', toks := tk' }) :
    wpAny (model PySem.Challenge.rw_au6007_01.row.prog w) (ktrTop dp un gd cn cs L a ccd cl outer) (call (.ref 38) [.str x t, .int i u, v]) Q E s := by
  revert X
  k_fill
  intro X
  refine wpAny_call ?_
  k_dflt ktr_enter
  (repeat (first | (k_unfold; (try dsimp only)) | ((fail_if_success (with_reducible show wpAny _ _ (call (Value.ref 31) _) _ _ _)); (first | walk1 | (dsimp only; walk1)))))
  refine' mk1h w news ps qs hn x t i u v k hv cB cA qB _ _ _ _ _ _ _ _ _ _ _ _ _ _ _ _ _ _ _ _ _ _ ?B ?F ?X ?N ?T C30 C18 ?hk ?hd ?hu ?hret
  case N => k_asm
  case F => k_asm
  case B => k_asm
  case T => k_asm
  case X => k_asm
  case hk => first | exact rfl | assumption
  case hd => exact Nat.le_trans (Nat.add_le_add_left (by decide) _) (dp_next (d := 21) hd rfl)
  case hu => exact Nat.le_trans (Nat.add_le_add_left (by decide) _) (un_next (d := 21) hu rfl)
  case hret =>
    intro f9 led9 h9 tk9 hM hF hO F9 N9
    k_steps
    exact hret _ _ _ _ hM hF hO (by assumption) (by assumption)
end Mine
end
-- Mkp
section
open PySem PySem.W PyProof.Rows PySem.Spec PySem.Calls PyProof.V
set_option maxRecDepth 100000
set_option maxHeartbeats 3000000
set_option linter.unusedVariables false
set_option pp.deepTerms false
set_option pp.deepTerms.threshold 7
set_option pp.proofs false
namespace Mine
local macro_rules | `(tactic| k_all) => `(tactic| assumption)
local macro_rules | `(tactic| k_tabat) => `(tactic| (refine' RowAt.tab' ?tn ?tr ?ts; (case tn => k_asm); (case tr => assumption); (case ts => (intro p9 hp9; (repeat (first | assumption | refine List.mem_cons_of_mem _ ?_))))))
local macro_rules | `(tactic| walk_at "callWith") => `(tactic| (k_here; k_dflt (refine' callWith_op ?kv ?kX ?_; (case kv => assumption); (case kX => k_asm); k_whole)))
local macro_rules | `(tactic| walk_at "call") => `(tactic| (k_here; k_dflt (
  (refine' Does.use (op_does ?kv _ _ _ _ _) ?k1 ?k2 ?k3 ?k4 ?k5 ?kK ?kd ?ku ?_; (case kv => assumption); (case k1 => k_asm); (case k2 => k_asm); (case k3 => k_asm); (case k4 => k_asm); (case k5 => k_asm); (case kK => first | exact rfl | assumption); (case kd => exact dp_next (by assumption) rfl); (case ku => exact un_next (by assumption) rfl); (intro r9 h9 tk9 hP9 F9 N9); (subst hP9); (try dsimp only); (try k_fold)))))
local macro_rules | `(tactic| walk_at "call builtin:dict.get") => `(tactic| (k_here; k_dflt (refine' get_row ?tn ?tr ?ts ?_; (case tn => k_asm); (case tr => assumption); (case ts => (intro p9 hp9; (repeat (first | assumption | refine List.mem_cons_of_mem _ ?_)))); k_whole); intro t9))
local macro_rules | `(tactic| walk_at "call builtin:isinstance") => `(tactic| (k_here; k_dflt (refine' isi_op ?kv ?kX ?kF ?_; (case kv => assumption); (case kX => k_asm); (case kF => k_asm); k_whole); intro tk9))
local macro_rules | `(tactic| walk_at "exec Assign cons ListComp") => `(tactic| k_dflt (walk_at "exec Assign"))
local macro_rules | `(tactic| walk_at "eval ListComp") => `(tactic| (k_here; k_dflt (refine' ListComp_Z ?zF ?z1 ?z2 ?z3 ?z4 ?z5 ?z6 ?z7 ?z8 ?_; (case zF => k_asm); (case z1 => with_unfolding_all rfl); (case z2 => decide); (case z3 => rfl); (case z4 => decide); (case z5 => rfl); (case z6 => rfl); (case z7 => decide); (case z8 => (intro C9; rfl)); k_whole)))
local macro_rules | `(tactic| walk_at "call type:zip") => `(tactic| (k_dflt (first | (refine' zip2_good ?zF ?zN ?zm1 ?zm2 ?zn1 ?zn2 ?_; (case zF => k_asm); (case zN => k_asm); (case zm1 => k_mem); (case zm2 => k_mem); (case zn1 => exact rfl); (case zn2 => exact rfl); intro z9 h9 F9 N9 Z9) | (refine' zip3_good ?zF ?zN ?zm1 ?zm2 ?zm3 ?zn1 ?zn2 ?zn3 ?_; (case zF => k_asm); (case zN => k_asm); (case zm1 => k_mem); (case zm2 => k_mem); (case zm3 => k_mem); (case zn1 => exact rfl); (case zn2 => exact rfl); (case zn3 => exact rfl); intro z9 h9 F9 N9 Z9))))
local macro_rules | `(tactic| walk_at "call type:list") => `(tactic| (k_dflt (first | (refine' list_zip_K2 ?zA ?zF ?zN ?zZ ?_; (case zZ => assumption); (case zA => rfl); (case zF => k_asm); (case zN => k_asm); intro D9 T90 T91 c9 h9 F9 N9 l1 l2; (try simp only [List.getD_cons_zero, List.getD_cons_succ] at N9); (try k_lt l1)) | (refine' list_zip_K3 ?zA ?zF ?zN ?zZ ?_; (case zZ => assumption); (case zA => rfl); (case zF => k_asm); (case zN => k_asm); intro D9 T90 T91 T92 c9 h9 F9 N9 l1 l2; (try simp only [List.getD_cons_zero, List.getD_cons_succ] at N9); (try k_lt l1)))))
local macro_rules | `(tactic| walk_at "callWith type:zip") => `(tactic| (k_dflt (refine' callWith_typeKw ?_ ?k1 ?k2 ?k3 ?k4; (case k1 => exact .inr rfl); (case k2 => rfl); (case k3 => rfl); (case k4 => rfl); k_whole)))
local macro_rules | `(tactic| walk_at "TupsRest") => `(tactic| (k_dflt (first | (refine TupsRest.cons ?_; intro h' tk' o' F' N' l1; (try k_lt l1)) | (refine TupsRest.nil ?_; intro h' tk' F' N'))))
local macro_rules | `(tactic| walk_at "TupEnd") => `(tactic| (k_dflt (refine' TupEnd.same ?tF ?tN ?_; (case tF => assumption); (case tN => assumption))))
local macro_rules | `(tactic| k_all) => `(tactic| (refine ne_of_below (by assumption) ?_; (repeat (refine Nat.le_succ_of_le ?_)); exact Nat.le_refl _))
local macro_rules | `(tactic| walk_at "CompEnd") => `(tactic| (k_dflt (refine' cend_new ?tF ?tN ?to ?tf ?tS ?_; (case tF => assumption); (case tN => assumption); (case to => refine ⟨?_, ?_, ?_⟩ <;> k_ne); (case tf => assumption); (case tS => lcg_src))))
theorem mkp (w : World) (news : List (Addr × Obj)) (ps qs : Array Value) (hn : OffT news) (x : Str) (t : Tok) (i : Int) (u : Tok) 
    (p : Program) (loose : List Str) (mean : ExcName → Option Value) (mg mb : Str → Option Value) (dp un : Nat) (gd : Option (List Code)) (cn : Str) (cs : Scope) (a : Addr) (ccd : Value) (cl : List (Str × Addr)) (outer : List Env) (A₀ : Around) (base h₀ : Heap) (L : Addr) (m : Str → Option Value) (s : Shared)
    (Q E : Value → Shared → Prop) (B : Below A₀ base outer h₀) (F : Fr h₀ L s.heap m) (X : (Mine.hd.heap_39 w.params).In h₀) (N : News h₀ L s.heap ((28, tabObj ps) :: (16, tabObj #[]) :: news)) (T : Top p loose mean mg mb h₀) (C30 : CodeHd base 30 28) (C18 : CodeHd base 18 16) (hk : cs.kind = .function) (hd : dp + 20 ≤ 500) (hu : un + 10 * 20 ≤ 5000)
    (hret : ∀ f led c' h' tk', IsMatch w led f (fun D1 D2 => agree D1 D2 x i 0) → FnLed led f → OffT led → CodeOf led c' "categorical_node_match.<locals>.match" → Fr h₀ L h' m → News h₀ L h' (led ++ (28, tabObj ps) :: (16, tabObj #[rawInt 5, rawInt 8, .ref c']) :: news) → Q (.ref f) { s with heap := h', toks := tk' }) :
    wpAny (model PySem.Challenge.rw_au6007_01.row.prog w) (ktrTop dp un gd cn cs L a ccd cl outer) (call (.ref 19) [.str x t, .int i u]) Q E s := by
  have hn1 := hn.of28
  have hn2 := hn.of16
  revert X
  k_fill
  intro X
  refine wpAny_call ?_
  k_dflt (refine' code_defC ?k1 ?k2 ?k3 ?k4 ?k5 ?kA ?kF ?kK ?k6 ?k7 ?k8 ?k9 ?kB ?kD ?_ ?c2 ?c3 ?c4; (case kA => exact rfl); (case kF => exact rfl); (case kK => assumption); (case k1 => k_asm); (case k2 => k_asm); (case k3 => k_asm); (case k4 => k_asm); (case k5 => k_asm); (case k6 => k_is); (case k7 => k_is); (case k8 => exact dp_room (by assumption)); (case k9 => exact BindsTo.of_eq rfl); (case kB => exact rfl); (case kD => decide +kernel); (case c2 => exact rfl); (case c3 => exact rfl); (case c4 => exact rfl); k_whole; intro g' L' h' tk' cells' FG' F' N' Y' B' X' T' l1; (have hl9 : ∀ p ∈ news, p.1 < L' := fun p hp => l1 p (by repeat (first | assumption | refine List.mem_cons_of_mem _ ?_))); (try k_lt l1); k_cells Y'; (try simp only [List.cons_append, List.nil_append] at N'); (try dsimp only); (try k_lift B'); (try k_fold))
  k_steps
  refine hret _ [_, _, _, _, _] _ _ _ ?isM ?fn ?off ?code (by assumption) (by assumption)
  case fn => exact ⟨_, _, _, _, List.mem_cons_self⟩
  case off => (repeat' (first | exact True.intro | refine And.intro ?_ ?_ | k_ne))
  case code => exact ⟨_, _, _, List.mem_cons_of_mem _ List.mem_cons_self, by assumption, by assumption⟩
  case isM =>
    intro rest d1 d2 D1 D2 R1 R2
    unfold DoesC
    clear B F N T C30 C18 hk hd hu hret hn hn1 hn2
    intro p loose mean mg mb dp un gd cn cs fa ccd cl outer A₀ base h₀ L m s Q E B F X N T C30 C18 hk hd hu hret
    simp only [List.cons_append, List.nil_append] at N hret
    refine wpAny_call ?_
    k_dflt (refine' code_nest ?k1 ?k2 ?k3 ?k4 ?k5 ?kA ?kF ?kK ?k6 ?k7 ?k8 ?k9 ?kB ?_ ?c2 ?c3 ?c4 ?c5; (case kA => exact rfl); (case kF => exact rfl); (case kK => assumption); (case k1 => k_asm); (case k2 => k_asm); (case k3 => k_asm); (case k4 => k_asm); (case k5 => k_asm); (case k6 => k_mem); (case k7 => exact codeRec_news (by k_asm) (by k_mem) (by assumption) (by assumption)); (case k8 => exact dp_room (by assumption)); (case k9 => exact BindsTo.of_eq rfl); (case c5 => decide); (case kB => exact locs rfl); (case c2 => exact rfl); (case c3 => exact rfl); (case c4 => exact rfl); k_whole; intro g' L' h' FG' F' N' B' X' T'; (try dsimp only); (try k_lift B'); (try k_fold))
    k_steps
    k_steps
    all_goals (refine hret _ _ _ ?P (by assumption) (by assumption); (case P => first | rfl | (unfold agree sayB; rfl) | simp [agree, sayB]))

end Mine
end
-- G9
section
open PySem PySem.W PyProof.Rows PySem.Spec PySem.Calls PyProof.V
set_option maxRecDepth 100000
set_option maxHeartbeats 8000000
set_option linter.unusedVariables false
set_option pp.deepTerms false
set_option pp.deepTerms.threshold 7
set_option pp.proofs false
namespace Mine
local macro_rules | `(tactic| k_all) => `(tactic| assumption)
local macro_rules | `(tactic| k_tabat) => `(tactic| (refine' RowAt.tab' ?tn ?tr ?ts; (case tn => k_asm); (case tr => assumption); (case ts => (intro p9 hp9; (repeat (first | assumption | refine List.mem_cons_of_mem _ ?_))))))
local macro_rules | `(tactic| walk_at "callWith") => `(tactic| (k_here; k_dflt (refine' callWith_op ?kv ?kX ?_; (case kv => assumption); (case kX => k_asm); k_whole)))
local macro_rules | `(tactic| walk_at "call") => `(tactic| (k_here; k_dflt (
  (refine' Does.use (op_does ?kv _ _ _ _ _) ?k1 ?k2 ?k3 ?k4 ?k5 ?kK ?kd ?ku ?_; (case kv => assumption); (case k1 => k_asm); (case k2 => k_asm); (case k3 => k_asm); (case k4 => k_asm); (case k5 => k_asm); (case kK => first | exact rfl | assumption); (case kd => exact dp_next (by assumption) rfl); (case ku => exact un_next (by assumption) rfl); (intro r9 h9 tk9 hP9 F9 N9); (subst hP9); (try dsimp only); (try k_fold)))))
local macro_rules | `(tactic| walk_at "call builtin:dict.get") => `(tactic| (k_here; k_dflt (refine' get_row ?tn ?tr ?ts ?_; (case tn => k_asm); (case tr => assumption); (case ts => (intro p9 hp9; (repeat (first | assumption | refine List.mem_cons_of_mem _ ?_)))); k_whole); intro t9))
local macro_rules | `(tactic| walk_at "call builtin:isinstance") => `(tactic| (k_here; k_dflt (refine' isi_op ?kv ?kX ?kF ?_; (case kv => assumption); (case kX => k_asm); (case kF => k_asm); k_whole); intro tk9))
local macro_rules | `(tactic| walk_at "TupsRest") => `(tactic| (k_dflt (first | (refine TupsRest.cons ?_; intro h' tk' o' F' N' l1; (try k_lt l1)) | (refine TupsRest.nil ?_; intro h' tk' F' N'))))
local macro_rules | `(tactic| walk_at "TupEnd") => `(tactic| (k_dflt (refine' TupEnd.same ?tF ?tN ?_; (case tF => assumption); (case tN => assumption))))
local macro_rules | `(tactic| k_all) => `(tactic| (refine ne_of_below (by assumption) ?_; (repeat (refine Nat.le_succ_of_le ?_)); exact Nat.le_refl _))
local macro_rules | `(tactic| walk_at "CompEnd") => `(tactic| (k_dflt (refine' cend_new ?tF ?tN ?to ?tf ?tS ?_; (case tF => assumption); (case tN => assumption); (case to => refine ⟨?_, ?_, ?_⟩ <;> k_ne); (case tf => assumption); (case tS => lcg_src))))
local macro_rules | `(tactic| walk_at "exec FunctionDef") => `(tactic| (k_here; kn_here; k_dflt (refine' nestDef_K ?d0 ?k0 ?a0 ?_; (case d0 => exact rfl); (case k0 => exact rfl); (case a0 => exact rfl)); (k_dflt (refine' nest_T ?F ?N ?T ?C ?cd ?U ?t ?n ?cl ?_; (case F => k_asm); (case N => k_asm); (case T => k_asm); (case cd => exact rfl); (case C => kn_code); (case U => k_updF); (case t => kn_triples); (case n => kn_among); (case cl => exact rfl); k_whole); intro f' c' P' oc' vs' t' ct' dc' h' tk' F' N' d1' d2' hT' l1 l2 l3 l4; (try dsimp only at N'); (have l2' := l2); (try k_lt l1); (try k_lt l2); (try k_lt2 l3); (try k_lt2 l4))))
local macro_rules | `(tactic| walk_at "eval Name") => `(tactic| ((with_reducible show wpAny _ _ (eval _ (genEnv _ _ _ _ _ _)) _ _ _); k_dflt (first | (refine' g_local ?gk ?gx ?gn ?gm ?_; (case gk => rfl); (case gx => rfl); (case gn => assumption); (case gm => assumption); k_whole) | (refine' g_free ?gk ?gx ?gc ?gn ?gm ?go ?_; (case gk => rfl); (case gx => rfl); (case gc => rfl); (case gn => assumption); (case gm => k_mem); (case go => assumption); k_whole))))
theorem mk9 (w : World) (news : List (Addr × Obj)) (ps qs : Array Value) (hn : OffT news) (kl : Addr) (hkl : @LT.lt Nat _ 28 kl) (x1 : Str) (t1 : Tok) (x2 : Str) (t2 : Tok) (i1 : Int) (u1 : Tok) (cA : Addr)
    (p : Program) (loose : List Str) (mean : ExcName → Option Value) (mg mb : Str → Option Value) (dp un : Nat) (gd : Option (List Code)) (cn : Str) (cs : Scope) (a : Addr) (ccd : Value) (cl : List (Str × Addr)) (outer : List Env) (A₀ : Around) (base h₀ : Heap) (L : Addr) (m : Str → Option Value) (s : Shared)
    (Q E : Value → Shared → Prop) (B : Below A₀ base outer h₀) (F : Fr h₀ L s.heap m) (X : (Mine.hd.heap_39 w.params).In h₀) (N : News h₀ L s.heap ((28, tabObj ps) :: (16, tabObj #[rawInt 5, rawInt 8, .ref cA]) :: (kl, PySem.W.listOf [.str x1 t1, .str x2 t2].toArray 0) :: news)) (T : Top p loose mean mg mb h₀) (C30 : CodeHd base 30 28) (C18 : CodeHd base 18 16) (hk : cs.kind = .function) (hd : dp + 20 ≤ 500) (hu : un + 10 * 20 ≤ 5000)
    (hret : ∀ f led c' P oc h' tk', CatMatch w P f led (fun D1 D2 => agree D1 D2 x1 i1 0 && (agree D1 D2 x2 i1 0 && true)) → FnLed led f → OffT led → NoT led → (c', oc) ∈ led → TabO oc c' P → CodeOf led c' "categorical_node_match.<locals>.match" → P ≠ 28 ∧ P ≠ 16 → (∀ q ∈ news, q.1 ≠ P) → (∀ q ∈ led, q.1 ≠ P) →
      Fr h₀ L h' m → News h₀ L h' ((P, tabObj #[]) :: (led ++ (28, tabObj ps) :: (16, tabObj #[rawInt 5, rawInt 8, .ref cA, rawInt 13, rawInt 8, .ref c']) :: (kl, PySem.W.listOf [.str x1 t1, .str x2 t2].toArray 0) :: news)) → Q (.ref f) { s with heap := h', toks := tk' }) :
    wpAny (model PySem.Challenge.rw_au6007_01.row.prog w) (ktrTop dp un gd cn cs L a ccd cl outer) (call (.ref 19) [.ref kl, .int i1 u1]) Q E s := by
  have hn1 := hn.of28
  have hn2 := hn.of16
  revert X
  k_fill
  intro X
  refine wpAny_call ?_
  k_dflt (refine' code_defC ?k1 ?k2 ?k3 ?k4 ?k5 ?kA ?kF ?kK ?k6 ?k7 ?k8 ?k9 ?kB ?kD ?_ ?c2 ?c3 ?c4; (case kA => exact rfl); (case kF => exact rfl); (case kK => assumption); (case k1 => k_asm); (case k2 => k_asm); (case k3 => k_asm); (case k4 => k_asm); (case k5 => k_asm); (case k6 => k_is); (case k7 => k_is); (case k8 => exact dp_room (by assumption)); (case k9 => exact BindsTo.of_eq rfl); (case kB => exact rfl); (case kD => decide +kernel); (case c2 => exact rfl); (case c3 => exact rfl); (case c4 => exact rfl); k_whole; intro g' L' h' tk' cells' FG' F' N' Y' B' X' T' l1; (have hl9 : ∀ p ∈ news, p.1 < L' := fun p hp => l1 p (by repeat (first | assumption | refine List.mem_cons_of_mem _ ?_))); (try k_lt l1); k_cells Y'; (try simp only [List.cons_append, List.nil_append] at N'); (try dsimp only); (try k_lift B'); (try k_fold))
  k_steps
  refine hret _ [_, _, _, _, _, _, _, _] _ _ _ _ _ ?isM ?fn ?off ?nott ?memc (by assumption) ?code ?p2 ?pn ?pl (by assumption) (news_pull2 (by assumption))
  case fn => exact ⟨_, _, _, _, List.mem_cons_self⟩
  case off => (repeat' (first | exact True.intro | refine And.intro ?_ ?_ | k_ne))
  case nott => (repeat' (first | exact True.intro | refine And.intro ?_ ?_ | exact notTab_seq | exact notTab_func | exact notTab_cell (by assumption) | exact notTab_code (by assumption) (by assumption)))
  case memc => exact List.mem_cons_of_mem _ List.mem_cons_self
  case code => exact ⟨_, _, _, List.mem_cons_of_mem _ List.mem_cons_self, by assumption, by assumption⟩
  case p2 => exact ⟨by k_ne, by k_ne⟩
  case pn => exact pn_of (by assumption) (fun q hq => by repeat (first | assumption | refine List.mem_cons_of_mem _ ?_))
  case pl => (repeat (refine List.forall_mem_cons.mpr ⟨(by first | k_ne | exact TabO.ne (by assumption) (by assumption) (by k_mem)), ?_⟩)); exact fun _ h => nomatch h
  case isM =>
    intro rest ps9 d1 d2 D1 D2 hG9 hoff9 R1 R2
    clear B F N T C30 C18 hk hd hu hret hn hn1 hn2
    intro p loose mean mg mb dp un gd cn cs fa ccd cl outer A₀ base h₀ L m s Q E B F X N T hk hd hu AB hret
    simp only [List.cons_append, List.nil_append] at N hret hoff9
    refine wpAny_call ?_
    k_dflt (refine' code_two ?k1 ?k2 ?k3 ?k4 ?k5 ?kA ?kF ?kK ?k6 ?k7 ?k8 ?k9 ?kc ?kp ?kx1 ?kx2 ?kn ?_ ?c2 ?c3 ?c4; (case kA => exact rfl); (case kF => exact rfl); (case kK => assumption); (case k1 => k_asm); (case k2 => k_asm); (case k3 => k_asm); (case k4 => k_asm); (case k5 => k_asm); (case k6 => k_mem); (case k7 => exact codeRec_news (by k_asm) (by k_mem) (by assumption) (by assumption)); (case k8 => exact dp_room (by assumption)); (case k9 => exact BindsTo.of_eq rfl); (case kc => exact fun _ => rfl); (case kp => exact fun _ => rfl); (case kx1 => exact rfl); (case kx2 => exact rfl); (case kn => decide); (case c2 => exact rfl); (case c3 => exact rfl); (case c4 => exact rfl); k_whole; intro g' L' h' tk' o1' o2' FG' F' N' e1' e2' B' X' T' l9; (have l8 := l9 _ List.mem_cons_self); (try dsimp only); (try k_lift B'); (try k_fold))
    (repeat (first | (k_unfold; (try dsimp only)) | walk1 | (dsimp only; walk1)))
    k_dflt (refine' gen_pairs (q := fun i => match i with | 0 => agree D1 D2 x1 i1 0 | _ => agree D1 D2 x2 i1 0) (vals := fun i => match i with | 0 => #[.str x1 t1, .int i1 u1] | _ => #[.str x2 t2, .int i1 u1]) ?gcode ?gglob ?gF ?gT ?gN ?gG ?gne ?gC ?gAB ?ghh ?gco ?gclos ?gcell ?g0 ?gxa ?gxb ?gab ?gkind ?groom ?giter ?gs ?gmD ?gvs ?gv2 ?gelt ?gQ)
    case gcode => rfl
    case gglob => rfl
    case gF => k_asm
    case gT => k_asm
    case gN => exact news_pull2 (by assumption)
    case gG => assumption
    case gne => exact List.forall_mem_cons.mpr ⟨Nat.ne_of_gt (Nat.lt_succ_of_lt (by assumption)), List.forall_mem_cons.mpr ⟨Nat.ne_of_gt (Nat.lt_succ_of_lt (Nat.lt_succ_of_lt (by assumption))), hoff9⟩⟩
    case gC => k_dflt (exact TabO.at (by assumption) (by assumption) (by k_mem))
    case gAB => assumption
    case ghh => rfl
    case gco => rfl
    case gclos => rfl
    case gcell => decide
    case g0 => rfl
    case gxa => rfl
    case gxb => rfl
    case gab => decide
    case gkind => rfl
    case groom => exact room9 hd
    case giter => (intro Q9 E9 q9; k_dflt (refine' nameX_F ?N ?c ?m ?d ?_ ?a ?b; (case a => rfl); (case b => rfl); (case N => k_asm); (case c => rfl); (case m => k_mem); (case d => assumption); exact q9))
    case gs => (intro _; rfl)
    case gmD => k_dflt k_mem
    case gvs => (intro j9 hj9; obtain rfl | rfl := two_of hj9 <;> exact ⟨_, _, rfl, by k_dflt k_mem⟩)
    case gv2 => (intro j9 hj9; obtain rfl | rfl := two_of hj9 <;> exact ⟨_, _, rfl⟩)
    case gelt =>
      intro cg9 C9 A9 E9 i9 va9 vb9 s9 m9 hA9 hi9 hv9 hn9 ha9 hb9 N9
      obtain rfl | rfl := two_of hi9
      all_goals (
        obtain ⟨rfl, rfl⟩ := pair_eq hv9
        (repeat (first | (k_unfold; (try dsimp only)) | walk1 | (dsimp only; walk1)))
        all_goals first | exact ⟨_, _, rfl, fun _ _ e => e⟩ | rfl | (unfold agree sayB; rfl) | simp [agree, sayB])
    case gQ =>
      intro a9 K9 ps8 s8 hG8 F8 N8 AB8 os8 LK8 KK8 GN8
      (repeat (first | (k_unfold; (try dsimp only)) | walk1 | (dsimp only; walk1)))
      k_dflt (refine' all_gen9 F8 N8 AB8 LK8 KK8 GN8 ?_)
      intro s7 F7 N7 AB7 os7
      k_steps
      exact hret ps8 s7 hG8 AB7 (os7.trans os8) (by assumption) (News.sub9 (by assumption) (by intro p9 hp9; (rcases List.mem_cons.mp hp9 with rfl | hp9; k_mem); exact List.mem_cons_of_mem _ (List.mem_cons_of_mem _ (List.mem_cons_of_mem _ hp9))))

end Mine
end
-- G10
section
open PySem PySem.W PyProof.Rows PySem.Spec PySem.Calls PyProof.V
set_option maxRecDepth 100000
set_option maxHeartbeats 8000000
set_option linter.unusedVariables false
set_option pp.deepTerms false
set_option pp.deepTerms.threshold 7
set_option pp.proofs false
namespace Mine
local macro_rules | `(tactic| k_all) => `(tactic| assumption)
local macro_rules | `(tactic| k_tabat) => `(tactic| (refine' RowAt.tab' ?tn ?tr ?ts; (case tn => k_asm); (case tr => assumption); (case ts => (intro p9 hp9; (repeat (first | assumption | refine List.mem_cons_of_mem _ ?_))))))
local macro_rules | `(tactic| walk_at "callWith") => `(tactic| (k_here; k_dflt (refine' callWith_op ?kv ?kX ?_; (case kv => assumption); (case kX => k_asm); k_whole)))
local macro_rules | `(tactic| walk_at "call") => `(tactic| (k_here; k_dflt (
  (refine' Does.use (op_does ?kv _ _ _ _ _) ?k1 ?k2 ?k3 ?k4 ?k5 ?kK ?kd ?ku ?_; (case kv => assumption); (case k1 => k_asm); (case k2 => k_asm); (case k3 => k_asm); (case k4 => k_asm); (case k5 => k_asm); (case kK => first | exact rfl | assumption); (case kd => exact dp_next (by assumption) rfl); (case ku => exact un_next (by assumption) rfl); (intro r9 h9 tk9 hP9 F9 N9); (subst hP9); (try dsimp only); (try k_fold)))))
local macro_rules | `(tactic| walk_at "call builtin:dict.get") => `(tactic| (k_here; k_dflt (refine' get_row ?tn ?tr ?ts ?_; (case tn => k_asm); (case tr => assumption); (case ts => (intro p9 hp9; (repeat (first | assumption | refine List.mem_cons_of_mem _ ?_)))); k_whole); intro t9))
local macro_rules | `(tactic| walk_at "call builtin:isinstance") => `(tactic| (k_here; k_dflt (refine' isi_op ?kv ?kX ?kF ?_; (case kv => assumption); (case kX => k_asm); (case kF => k_asm); k_whole); intro tk9))
local macro_rules | `(tactic| walk_at "call type:zip") => `(tactic| (k_dflt (first | (refine' zip2_good ?zF ?zN ?zm1 ?zm2 ?zn1 ?zn2 ?_; (case zF => k_asm); (case zN => k_asm); (case zm1 => k_mem); (case zm2 => k_mem); (case zn1 => exact rfl); (case zn2 => exact rfl); intro z9 h9 F9 N9 Z9) | (refine' zip3_good ?zF ?zN ?zm1 ?zm2 ?zm3 ?zn1 ?zn2 ?zn3 ?_; (case zF => k_asm); (case zN => k_asm); (case zm1 => k_mem); (case zm2 => k_mem); (case zm3 => k_mem); (case zn1 => exact rfl); (case zn2 => exact rfl); (case zn3 => exact rfl); intro z9 h9 F9 N9 Z9))))
local macro_rules | `(tactic| walk_at "call type:list") => `(tactic| (k_dflt (first | (refine' list_zip_K2 ?zA ?zF ?zN ?zZ ?_; (case zZ => assumption); (case zA => rfl); (case zF => k_asm); (case zN => k_asm); intro D9 T90 T91 c9 h9 F9 N9 l1 l2; (try simp only [List.getD_cons_zero, List.getD_cons_succ] at N9); (try k_lt l1)) | (refine' list_zip_K3 ?zA ?zF ?zN ?zZ ?_; (case zZ => assumption); (case zA => rfl); (case zF => k_asm); (case zN => k_asm); intro D9 T90 T91 T92 c9 h9 F9 N9 l1 l2; (try simp only [List.getD_cons_zero, List.getD_cons_succ] at N9); (try k_lt l1)))))
local macro_rules | `(tactic| walk_at "callWith type:zip") => `(tactic| (k_dflt (refine' callWith_typeKw ?_ ?k1 ?k2 ?k3 ?k4; (case k1 => exact .inr rfl); (case k2 => rfl); (case k3 => rfl); (case k4 => rfl); k_whole)))
local macro_rules | `(tactic| walk_at "TupsRest") => `(tactic| (k_dflt (first | (refine TupsRest.cons ?_; intro h' tk' o' F' N' l1; (try k_lt l1)) | (refine TupsRest.nil ?_; intro h' tk' F' N'))))
local macro_rules | `(tactic| walk_at "TupEnd") => `(tactic| (k_dflt (refine' TupEnd.same ?tF ?tN ?_; (case tF => assumption); (case tN => assumption))))
local macro_rules | `(tactic| k_all) => `(tactic| (refine ne_of_below (by assumption) ?_; (repeat (refine Nat.le_succ_of_le ?_)); exact Nat.le_refl _))
local macro_rules | `(tactic| walk_at "CompEnd") => `(tactic| (k_dflt (refine' cend_new ?tF ?tN ?to ?tf ?tS ?_; (case tF => assumption); (case tN => assumption); (case to => refine ⟨?_, ?_, ?_⟩ <;> k_ne); (case tf => assumption); (case tS => lcg_src))))
local macro_rules | `(tactic| walk_at "eval Name") => `(tactic| ((with_reducible show wpAny _ _ (eval _ (genEnv _ _ _ _ _ _)) _ _ _); k_dflt (first | (refine' g_local ?gk ?gx ?gn ?gm ?_; (case gk => rfl); (case gx => rfl); (case gn => assumption); (case gm => assumption); k_whole) | (refine' g_free ?gk ?gx ?gc ?gn ?gm ?go ?_; (case gk => rfl); (case gx => rfl); (case gc => rfl); (case gn => assumption); (case gm => k_mem); (case go => assumption); k_whole))))
theorem mk10 (w : World) (news : List (Addr × Obj)) (ps qs : Array Value) (hn : OffT news) (kl dl : Addr) (hkl : @LT.lt Nat _ 28 kl) (hdl : @LT.lt Nat _ 28 dl) (x1 : Str) (t1 : Tok) (x2 : Str) (t2 : Tok) (x3 : Str) (t3 : Tok) (i1 : Int) (u1 : Tok) (i2 : Int) (u2 : Tok) (i3 : Int) (u3 : Tok) (cA cB P : Addr) (oC : Obj) (mC : (cB, oC) ∈ news) (hT : TabO oC cB P) (vC : Array Value) (tC : Tok) (dC : oC.data = .fields vC) (sC : vC[1]? = some (.str (Str.ofString "categorical_node_match.<locals>.match") tC))
    (p : Program) (loose : List Str) (mean : ExcName → Option Value) (mg mb : Str → Option Value) (dp un : Nat) (gd : Option (List Code)) (cn : Str) (cs : Scope) (a : Addr) (ccd : Value) (cl : List (Str × Addr)) (outer : List Env) (A₀ : Around) (base h₀ : Heap) (L : Addr) (m : Str → Option Value) (s : Shared)
    (Q E : Value → Shared → Prop) (B : Below A₀ base outer h₀) (F : Fr h₀ L s.heap m) (X : (Mine.hd.heap_39 w.params).In h₀) (N : News h₀ L s.heap ((28, tabObj ps) :: (16, tabObj #[rawInt 5, rawInt 8, .ref cA, rawInt 13, rawInt 8, .ref cB]) :: (kl, PySem.W.listOf [.str x1 t1, .str x2 t2, .str x3 t3].toArray 0) :: (dl, PySem.W.listOf [.int i1 u1, .int i2 u2, .int i3 u3].toArray 0) :: news)) (T : Top p loose mean mg mb h₀) (C30 : CodeHd base 30 28) (C18 : CodeHd base 18 16) (hk : cs.kind = .function) (hd : dp + 20 ≤ 500) (hu : un + 10 * 20 ≤ 5000)
    (hret : ∀ f led h' tk', CatMatch w P f led (fun D1 D2 => agree D1 D2 x1 i1 0 && (agree D1 D2 x2 i2 0 && (agree D1 D2 x3 i3 0 && true))) → FnLed led f → OffT led → NoT led → Fr h₀ L h' m → News h₀ L h' (led ++ (28, tabObj ps) :: (16, tabObj #[rawInt 5, rawInt 8, .ref cA, rawInt 13, rawInt 8, .ref cB]) :: (kl, PySem.W.listOf [.str x1 t1, .str x2 t2, .str x3 t3].toArray 0) :: (dl, PySem.W.listOf [.int i1 u1, .int i2 u2, .int i3 u3].toArray 0) :: news) → Q (.ref f) { s with heap := h', toks := tk' }) :
    wpAny (model PySem.Challenge.rw_au6007_01.row.prog w) (ktrTop dp un gd cn cs L a ccd cl outer) (call (.ref 19) [.ref kl, .ref dl]) Q E s := by
  have hn1 := hn.of28
  have hn2 := hn.of16
  revert X
  k_fill
  intro X
  refine wpAny_call ?_
  k_dflt (refine' code_defC ?k1 ?k2 ?k3 ?k4 ?k5 ?kA ?kF ?kK ?k6 ?k7 ?k8 ?k9 ?kB ?kD ?_ ?c2 ?c3 ?c4; (case kA => exact rfl); (case kF => exact rfl); (case kK => assumption); (case k1 => k_asm); (case k2 => k_asm); (case k3 => k_asm); (case k4 => k_asm); (case k5 => k_asm); (case k6 => k_is); (case k7 => k_is); (case k8 => exact dp_room (by assumption)); (case k9 => exact BindsTo.of_eq rfl); (case kB => exact rfl); (case kD => decide +kernel); (case c2 => exact rfl); (case c3 => exact rfl); (case c4 => exact rfl); k_whole; intro g' L' h' tk' cells' FG' F' N' Y' B' X' T' l1; (have hl9 : ∀ p ∈ news, p.1 < L' := fun p hp => l1 p (by repeat (first | assumption | refine List.mem_cons_of_mem _ ?_))); (try k_lt l1); k_cells Y'; (try simp only [List.cons_append, List.nil_append] at N'); (try dsimp only); (try k_lift B'); (try k_fold))
  k_steps
  refine hret _ [_, _, _, _, _, _, _, _, _] _ _ ?isM ?fn ?off ?nott (by assumption) (news_dup (x := (cB, oC)) (by assumption) ?mem)
  case fn => exact ⟨_, _, _, _, (List.mem_cons_of_mem _ List.mem_cons_self)⟩
  case off => (refine ⟨⟨hn1 _ mC, hn2 _ mC⟩, ?_⟩; repeat' (first | exact True.intro | refine And.intro ?_ ?_ | k_ne))
  case mem => repeat (first | assumption | refine List.mem_cons_of_mem _ ?_)
  case nott => (repeat' (first | exact True.intro | refine And.intro ?_ ?_ | exact notTab_seq | exact notTab_func | exact notTab_cell (by assumption) | exact notTab_code (by assumption) (by assumption)))
  case isM =>
    intro rest ps9 d1 d2 D1 D2 hG9 hoff9 R1 R2
    clear B F N T C30 C18 hk hd hu hret hn hn1 hn2
    intro p loose mean mg mb dp un gd cn cs fa ccd cl outer A₀ base h₀ L m s Q E B F X N T hk hd hu AB hret
    simp only [List.cons_append, List.nil_append] at N hret hoff9
    refine wpAny_call ?_
    k_dflt (refine' code_two ?k1 ?k2 ?k3 ?k4 ?k5 ?kA ?kF ?kK ?k6 ?k7 ?k8 ?k9 ?kc ?kp ?kx1 ?kx2 ?kn ?_ ?c2 ?c3 ?c4; (case kA => exact rfl); (case kF => exact rfl); (case kK => assumption); (case k1 => k_asm); (case k2 => k_asm); (case k3 => k_asm); (case k4 => k_asm); (case k5 => k_asm); (case k6 => k_mem); (case k7 => exact codeRec_news (by k_asm) (by k_mem) (by assumption) (by assumption)); (case k8 => exact dp_room (by assumption)); (case k9 => exact BindsTo.of_eq rfl); (case kc => exact fun _ => rfl); (case kp => exact fun _ => rfl); (case kx1 => exact rfl); (case kx2 => exact rfl); (case kn => decide); (case c2 => exact rfl); (case c3 => exact rfl); (case c4 => exact rfl); k_whole; intro g' L' h' tk' o1' o2' FG' F' N' e1' e2' B' X' T' l9; (have l8 := l9 _ List.mem_cons_self); (try dsimp only); (try k_lift B'); (try k_fold))
    (repeat (first | (k_unfold; (try dsimp only)) | walk1 | (dsimp only; walk1)))
    k_dflt (refine' gen_pairs (q := fun i => match i with | 0 => agree D1 D2 x1 i1 0 | 1 => agree D1 D2 x2 i2 0 | _ => agree D1 D2 x3 i3 0) (vals := fun i => match i with | 0 => #[.str x1 t1, .int i1 u1] | 1 => #[.str x2 t2, .int i2 u2] | _ => #[.str x3 t3, .int i3 u3]) ?gcode ?gglob ?gF ?gT ?gN ?gG ?gne ?gC ?gAB ?ghh ?gco ?gclos ?gcell ?g0 ?gxa ?gxb ?gab ?gkind ?groom ?giter ?gs ?gmD ?gvs ?gv2 ?gelt ?gQ)
    case gcode => rfl
    case gglob => rfl
    case gF => k_asm
    case gT => k_asm
    case gN => exact news_pull2 (by assumption)
    case gG => assumption
    case gne => exact List.forall_mem_cons.mpr ⟨Nat.ne_of_gt (Nat.lt_succ_of_lt (by assumption)), List.forall_mem_cons.mpr ⟨Nat.ne_of_gt (Nat.lt_succ_of_lt (Nat.lt_succ_of_lt (by assumption))), hoff9⟩⟩
    case gC => k_dflt (exact TabO.at (by assumption) (by assumption) (by k_mem))
    case gAB => assumption
    case ghh => rfl
    case gco => rfl
    case gclos => rfl
    case gcell => decide
    case g0 => rfl
    case gxa => rfl
    case gxb => rfl
    case gab => decide
    case gkind => rfl
    case groom => exact room9 hd
    case giter => (intro Q9 E9 q9; k_dflt (refine' nameX_F ?N ?c ?m ?d ?_ ?a ?b; (case a => rfl); (case b => rfl); (case N => k_asm); (case c => rfl); (case m => k_mem); (case d => assumption); exact q9))
    case gs => (intro _; rfl)
    case gmD => k_dflt k_mem
    case gvs => (intro j9 hj9; obtain rfl | rfl | rfl := three_of hj9 <;> exact ⟨_, _, rfl, by k_dflt k_mem⟩)
    case gv2 => (intro j9 hj9; obtain rfl | rfl | rfl := three_of hj9 <;> exact ⟨_, _, rfl⟩)
    case gelt =>
      intro cg9 C9 A9 E9 i9 va9 vb9 s9 m9 hA9 hi9 hv9 hn9 ha9 hb9 N9
      obtain rfl | rfl | rfl := three_of hi9
      all_goals (
        obtain ⟨rfl, rfl⟩ := pair_eq hv9
        (repeat (first | (k_unfold; (try dsimp only)) | walk1 | (dsimp only; walk1)))
        all_goals first | exact ⟨_, _, rfl, fun _ _ e => e⟩ | rfl | (unfold agree sayB; rfl) | simp [agree, sayB])
    case gQ =>
      intro a9 K9 ps8 s8 hG8 F8 N8 AB8 os8 LK8 KK8 GN8
      (repeat (first | (k_unfold; (try dsimp only)) | walk1 | (dsimp only; walk1)))
      k_dflt (refine' all_gen9 F8 N8 AB8 LK8 KK8 GN8 ?_)
      intro s7 F7 N7 AB7 os7
      k_steps
      exact hret ps8 s7 hG8 AB7 (os7.trans os8) (by assumption) (News.sub9 (by assumption) (by intro p9 hp9; (rcases List.mem_cons.mp hp9 with rfl | hp9; k_mem); exact List.mem_cons_of_mem _ (List.mem_cons_of_mem _ (List.mem_cons_of_mem _ hp9))))

end Mine
end
-- G11
section
open PySem PySem.W PyProof.Rows PySem.Spec PySem.Calls PyProof.V
set_option maxRecDepth 100000
set_option maxHeartbeats 8000000
set_option linter.unusedVariables false
set_option pp.deepTerms false
set_option pp.deepTerms.threshold 7
set_option pp.proofs false
namespace Mine
local macro_rules | `(tactic| k_all) => `(tactic| assumption)
local macro_rules | `(tactic| k_tabat) => `(tactic| (refine' RowAt.tab' ?tn ?tr ?ts; (case tn => k_asm); (case tr => assumption); (case ts => (intro p9 hp9; (repeat (first | assumption | refine List.mem_cons_of_mem _ ?_))))))
local macro_rules | `(tactic| walk_at "callWith") => `(tactic| (k_here; k_dflt (refine' callWith_op ?kv ?kX ?_; (case kv => assumption); (case kX => k_asm); k_whole)))
local macro_rules | `(tactic| walk_at "call") => `(tactic| (k_here; k_dflt (
  (refine' Does.use (op_does ?kv _ _ _ _ _) ?k1 ?k2 ?k3 ?k4 ?k5 ?kK ?kd ?ku ?_; (case kv => assumption); (case k1 => k_asm); (case k2 => k_asm); (case k3 => k_asm); (case k4 => k_asm); (case k5 => k_asm); (case kK => first | exact rfl | assumption); (case kd => exact dp_next (by assumption) rfl); (case ku => exact un_next (by assumption) rfl); (intro r9 h9 tk9 hP9 F9 N9); (subst hP9); (try dsimp only); (try k_fold)))))
local macro_rules | `(tactic| walk_at "call builtin:dict.get") => `(tactic| (k_here; k_dflt (refine' get_row ?tn ?tr ?ts ?_; (case tn => k_asm); (case tr => assumption); (case ts => (intro p9 hp9; (repeat (first | assumption | refine List.mem_cons_of_mem _ ?_)))); k_whole); intro t9))
local macro_rules | `(tactic| walk_at "call builtin:isinstance") => `(tactic| (k_here; k_dflt (refine' isi_op ?kv ?kX ?kF ?_; (case kv => assumption); (case kX => k_asm); (case kF => k_asm); k_whole); intro tk9))
local macro_rules | `(tactic| walk_at "call type:zip") => `(tactic| (k_dflt (first | (refine' zip2_good ?zF ?zN ?zm1 ?zm2 ?zn1 ?zn2 ?_; (case zF => k_asm); (case zN => k_asm); (case zm1 => k_mem); (case zm2 => k_mem); (case zn1 => exact rfl); (case zn2 => exact rfl); intro z9 h9 F9 N9 Z9) | (refine' zip3_good ?zF ?zN ?zm1 ?zm2 ?zm3 ?zn1 ?zn2 ?zn3 ?_; (case zF => k_asm); (case zN => k_asm); (case zm1 => k_mem); (case zm2 => k_mem); (case zm3 => k_mem); (case zn1 => exact rfl); (case zn2 => exact rfl); (case zn3 => exact rfl); intro z9 h9 F9 N9 Z9))))
local macro_rules | `(tactic| walk_at "call type:list") => `(tactic| (k_dflt (first | (refine' list_zip_K2 ?zA ?zF ?zN ?zZ ?_; (case zZ => assumption); (case zA => rfl); (case zF => k_asm); (case zN => k_asm); intro D9 T90 T91 c9 h9 F9 N9 l1 l2; (try simp only [List.getD_cons_zero, List.getD_cons_succ] at N9); (try k_lt l1)) | (refine' list_zip_K3 ?zA ?zF ?zN ?zZ ?_; (case zZ => assumption); (case zA => rfl); (case zF => k_asm); (case zN => k_asm); intro D9 T90 T91 T92 c9 h9 F9 N9 l1 l2; (try simp only [List.getD_cons_zero, List.getD_cons_succ] at N9); (try k_lt l1)))))
local macro_rules | `(tactic| walk_at "callWith type:zip") => `(tactic| (k_dflt (refine' callWith_typeKw ?_ ?k1 ?k2 ?k3 ?k4; (case k1 => exact .inr rfl); (case k2 => rfl); (case k3 => rfl); (case k4 => rfl); k_whole)))
local macro_rules | `(tactic| walk_at "TupsRest") => `(tactic| (k_dflt (first | (refine TupsRest.cons ?_; intro h' tk' o' F' N' l1; (try k_lt l1)) | (refine TupsRest.nil ?_; intro h' tk' F' N'))))
local macro_rules | `(tactic| walk_at "TupEnd") => `(tactic| (k_dflt (refine' TupEnd.same ?tF ?tN ?_; (case tF => assumption); (case tN => assumption))))
local macro_rules | `(tactic| k_all) => `(tactic| (refine ne_of_below (by assumption) ?_; (repeat (refine Nat.le_succ_of_le ?_)); exact Nat.le_refl _))
local macro_rules | `(tactic| walk_at "CompEnd") => `(tactic| (k_dflt (refine' cend_new ?tF ?tN ?to ?tf ?tS ?_; (case tF => assumption); (case tN => assumption); (case to => refine ⟨?_, ?_, ?_⟩ <;> k_ne); (case tf => assumption); (case tS => lcg_src))))
local macro_rules | `(tactic| walk_at "eval Name") => `(tactic| ((with_reducible show wpAny _ _ (eval _ (genEnv _ _ _ _ _ _)) _ _ _); k_dflt (first | (refine' g_local ?gk ?gx ?gn ?gm ?_; (case gk => rfl); (case gx => rfl); (case gn => assumption); (case gm => assumption); k_whole) | (refine' g_free ?gk ?gx ?gc ?gn ?gm ?go ?_; (case gk => rfl); (case gx => rfl); (case gc => rfl); (case gn => assumption); (case gm => k_mem); (case go => assumption); k_whole))))
theorem mk11 (w : World) (news : List (Addr × Obj)) (ps qs : Array Value) (hn : OffT news) (kl dl : Addr) (hkl : @LT.lt Nat _ 28 kl) (hdl : @LT.lt Nat _ 28 dl) (x1 : Str) (t1 : Tok) (x2 : Str) (t2 : Tok) (i1 : Int) (u1 : Tok) (i2 : Int) (u2 : Tok) (cA cB P : Addr) (oC : Obj) (mC : (cB, oC) ∈ news) (hT : TabO oC cB P) (vC : Array Value) (tC : Tok) (dC : oC.data = .fields vC) (sC : vC[1]? = some (.str (Str.ofString "categorical_node_match.<locals>.match") tC))
    (p : Program) (loose : List Str) (mean : ExcName → Option Value) (mg mb : Str → Option Value) (dp un : Nat) (gd : Option (List Code)) (cn : Str) (cs : Scope) (a : Addr) (ccd : Value) (cl : List (Str × Addr)) (outer : List Env) (A₀ : Around) (base h₀ : Heap) (L : Addr) (m : Str → Option Value) (s : Shared)
    (Q E : Value → Shared → Prop) (B : Below A₀ base outer h₀) (F : Fr h₀ L s.heap m) (X : (Mine.hd.heap_39 w.params).In h₀) (N : News h₀ L s.heap ((28, tabObj ps) :: (16, tabObj #[rawInt 5, rawInt 8, .ref cA, rawInt 13, rawInt 8, .ref cB]) :: (kl, PySem.W.listOf [.str x1 t1, .str x2 t2].toArray 0) :: (dl, PySem.W.listOf [.int i1 u1, .int i2 u2].toArray 0) :: news)) (T : Top p loose mean mg mb h₀) (C30 : CodeHd base 30 28) (C18 : CodeHd base 18 16) (hk : cs.kind = .function) (hd : dp + 20 ≤ 500) (hu : un + 10 * 20 ≤ 5000)
    (hret : ∀ f led h' tk', CatMatch w P f led (fun D1 D2 => agree D1 D2 x1 i1 0 && (agree D1 D2 x2 i2 0 && true)) → FnLed led f → OffT led → NoT led → Fr h₀ L h' m → News h₀ L h' (led ++ (28, tabObj ps) :: (16, tabObj #[rawInt 5, rawInt 8, .ref cA, rawInt 13, rawInt 8, .ref cB]) :: (kl, PySem.W.listOf [.str x1 t1, .str x2 t2].toArray 0) :: (dl, PySem.W.listOf [.int i1 u1, .int i2 u2].toArray 0) :: news) → Q (.ref f) { s with heap := h', toks := tk' }) :
    wpAny (model PySem.Challenge.rw_au6007_01.row.prog w) (ktrTop dp un gd cn cs L a ccd cl outer) (call (.ref 19) [.ref kl, .ref dl]) Q E s := by
  have hn1 := hn.of28
  have hn2 := hn.of16
  revert X
  k_fill
  intro X
  refine wpAny_call ?_
  k_dflt (refine' code_defC ?k1 ?k2 ?k3 ?k4 ?k5 ?kA ?kF ?kK ?k6 ?k7 ?k8 ?k9 ?kB ?kD ?_ ?c2 ?c3 ?c4; (case kA => exact rfl); (case kF => exact rfl); (case kK => assumption); (case k1 => k_asm); (case k2 => k_asm); (case k3 => k_asm); (case k4 => k_asm); (case k5 => k_asm); (case k6 => k_is); (case k7 => k_is); (case k8 => exact dp_room (by assumption)); (case k9 => exact BindsTo.of_eq rfl); (case kB => exact rfl); (case kD => decide +kernel); (case c2 => exact rfl); (case c3 => exact rfl); (case c4 => exact rfl); k_whole; intro g' L' h' tk' cells' FG' F' N' Y' B' X' T' l1; (have hl9 : ∀ p ∈ news, p.1 < L' := fun p hp => l1 p (by repeat (first | assumption | refine List.mem_cons_of_mem _ ?_))); (try k_lt l1); k_cells Y'; (try simp only [List.cons_append, List.nil_append] at N'); (try dsimp only); (try k_lift B'); (try k_fold))
  k_steps
  refine hret _ [_, _, _, _, _, _, _, _] _ _ ?isM ?fn ?off ?nott (by assumption) (news_dup (x := (cB, oC)) (by assumption) ?mem)
  case fn => exact ⟨_, _, _, _, (List.mem_cons_of_mem _ List.mem_cons_self)⟩
  case off => (refine ⟨⟨hn1 _ mC, hn2 _ mC⟩, ?_⟩; repeat' (first | exact True.intro | refine And.intro ?_ ?_ | k_ne))
  case mem => repeat (first | assumption | refine List.mem_cons_of_mem _ ?_)
  case nott => (repeat' (first | exact True.intro | refine And.intro ?_ ?_ | exact notTab_seq | exact notTab_func | exact notTab_cell (by assumption) | exact notTab_code (by assumption) (by assumption)))
  case isM =>
    intro rest ps9 d1 d2 D1 D2 hG9 hoff9 R1 R2
    clear B F N T C30 C18 hk hd hu hret hn hn1 hn2
    intro p loose mean mg mb dp un gd cn cs fa ccd cl outer A₀ base h₀ L m s Q E B F X N T hk hd hu AB hret
    simp only [List.cons_append, List.nil_append] at N hret hoff9
    refine wpAny_call ?_
    k_dflt (refine' code_two ?k1 ?k2 ?k3 ?k4 ?k5 ?kA ?kF ?kK ?k6 ?k7 ?k8 ?k9 ?kc ?kp ?kx1 ?kx2 ?kn ?_ ?c2 ?c3 ?c4; (case kA => exact rfl); (case kF => exact rfl); (case kK => assumption); (case k1 => k_asm); (case k2 => k_asm); (case k3 => k_asm); (case k4 => k_asm); (case k5 => k_asm); (case k6 => k_mem); (case k7 => exact codeRec_news (by k_asm) (by k_mem) (by assumption) (by assumption)); (case k8 => exact dp_room (by assumption)); (case k9 => exact BindsTo.of_eq rfl); (case kc => exact fun _ => rfl); (case kp => exact fun _ => rfl); (case kx1 => exact rfl); (case kx2 => exact rfl); (case kn => decide); (case c2 => exact rfl); (case c3 => exact rfl); (case c4 => exact rfl); k_whole; intro g' L' h' tk' o1' o2' FG' F' N' e1' e2' B' X' T' l9; (have l8 := l9 _ List.mem_cons_self); (try dsimp only); (try k_lift B'); (try k_fold))
    (repeat (first | (k_unfold; (try dsimp only)) | walk1 | (dsimp only; walk1)))
    k_dflt (refine' gen_pairs (q := fun i => match i with | 0 => agree D1 D2 x1 i1 0 | _ => agree D1 D2 x2 i2 0) (vals := fun i => match i with | 0 => #[.str x1 t1, .int i1 u1] | _ => #[.str x2 t2, .int i2 u2]) ?gcode ?gglob ?gF ?gT ?gN ?gG ?gne ?gC ?gAB ?ghh ?gco ?gclos ?gcell ?g0 ?gxa ?gxb ?gab ?gkind ?groom ?giter ?gs ?gmD ?gvs ?gv2 ?gelt ?gQ)
    case gcode => rfl
    case gglob => rfl
    case gF => k_asm
    case gT => k_asm
    case gN => exact news_pull2 (by assumption)
    case gG => assumption
    case gne => exact List.forall_mem_cons.mpr ⟨Nat.ne_of_gt (Nat.lt_succ_of_lt (by assumption)), List.forall_mem_cons.mpr ⟨Nat.ne_of_gt (Nat.lt_succ_of_lt (Nat.lt_succ_of_lt (by assumption))), hoff9⟩⟩
    case gC => k_dflt (exact TabO.at (by assumption) (by assumption) (by k_mem))
    case gAB => assumption
    case ghh => rfl
    case gco => rfl
    case gclos => rfl
    case gcell => decide
    case g0 => rfl
    case gxa => rfl
    case gxb => rfl
    case gab => decide
    case gkind => rfl
    case groom => exact room9 hd
    case giter => (intro Q9 E9 q9; k_dflt (refine' nameX_F ?N ?c ?m ?d ?_ ?a ?b; (case a => rfl); (case b => rfl); (case N => k_asm); (case c => rfl); (case m => k_mem); (case d => assumption); exact q9))
    case gs => (intro _; rfl)
    case gmD => k_dflt k_mem
    case gvs => (intro j9 hj9; obtain rfl | rfl := two_of hj9 <;> exact ⟨_, _, rfl, by k_dflt k_mem⟩)
    case gv2 => (intro j9 hj9; obtain rfl | rfl := two_of hj9 <;> exact ⟨_, _, rfl⟩)
    case gelt =>
      intro cg9 C9 A9 E9 i9 va9 vb9 s9 m9 hA9 hi9 hv9 hn9 ha9 hb9 N9
      obtain rfl | rfl := two_of hi9
      all_goals (
        obtain ⟨rfl, rfl⟩ := pair_eq hv9
        (repeat (first | (k_unfold; (try dsimp only)) | walk1 | (dsimp only; walk1)))
        all_goals first | exact ⟨_, _, rfl, fun _ _ e => e⟩ | rfl | (unfold agree sayB; rfl) | simp [agree, sayB])
    case gQ =>
      intro a9 K9 ps8 s8 hG8 F8 N8 AB8 os8 LK8 KK8 GN8
      (repeat (first | (k_unfold; (try dsimp only)) | walk1 | (dsimp only; walk1)))
      k_dflt (refine' all_gen9 F8 N8 AB8 LK8 KK8 GN8 ?_)
      intro s7 F7 N7 AB7 os7
      k_steps
      exact hret ps8 s7 hG8 AB7 (os7.trans os8) (by assumption) (News.sub9 (by assumption) (by intro p9 hp9; (rcases List.mem_cons.mp hp9 with rfl | hp9; k_mem); exact List.mem_cons_of_mem _ (List.mem_cons_of_mem _ (List.mem_cons_of_mem _ hp9))))

end Mine
end
-- GE
section
open PySem PySem.W PyProof.Rows PySem.Spec PySem.Calls PyProof.V
set_option maxRecDepth 100000
set_option maxHeartbeats 3000000
set_option linter.unusedVariables false
set_option pp.deepTerms false
set_option pp.deepTerms.threshold 7
set_option pp.proofs false
namespace Mine
local macro_rules | `(tactic| ktr_room) => `(tactic| exact dp_room (by assumption))
theorem mke11 (w : World) (news : List (Addr × Obj)) (ps qs : Array Value) (hn : OffT news) (kl dl : Addr) (hkl : @LT.lt Nat _ 28 kl) (hdl : @LT.lt Nat _ 28 dl) (x1 : Str) (t1 : Tok) (x2 : Str) (t2 : Tok) (i1 : Int) (u1 : Tok) (i2 : Int) (u2 : Tok) (cA cB P : Addr) (oC : Obj) (mC : (cB, oC) ∈ news) (hT : TabO oC cB P) (vC : Array Value) (tC : Tok) (dC : oC.data = .fields vC) (sC : vC[1]? = some (.str (Str.ofString "categorical_node_match.<locals>.match") tC))
    (p : Program) (loose : List Str) (mean : ExcName → Option Value) (mg mb : Str → Option Value) (dp un : Nat) (gd : Option (List Code)) (cn : Str) (cs : Scope) (a : Addr) (ccd : Value) (cl : List (Str × Addr)) (outer : List Env) (A₀ : Around) (base h₀ : Heap) (L : Addr) (m : Str → Option Value) (s : Shared)
    (Q E : Value → Shared → Prop) (B : Below A₀ base outer h₀) (F : Fr h₀ L s.heap m) (X : (Mine.hd.heap_39 w.params).In h₀) (N : News h₀ L s.heap ((28, tabObj ps) :: (16, tabObj #[rawInt 5, rawInt 8, .ref cA, rawInt 13, rawInt 8, .ref cB]) :: (kl, PySem.W.listOf [.str x1 t1, .str x2 t2].toArray 0) :: (dl, PySem.W.listOf [.int i1 u1, .int i2 u2].toArray 0) :: news)) (T : Top p loose mean mg mb h₀) (C30 : CodeHd base 30 28) (C18 : CodeHd base 18 16) (hk : cs.kind = .function) (hd : dp + 22 ≤ 500) (hu : un + 10 * 22 ≤ 5000)
    (hret : ∀ f led h' tk', CatMatch w P f led (fun D1 D2 => agree D1 D2 x1 i1 0 && (agree D1 D2 x2 i2 0 && true)) → FnLed led f → OffT led → NoT led → Fr h₀ L h' m → News h₀ L h' (led ++ (28, tabObj ps) :: (16, tabObj #[rawInt 5, rawInt 8, .ref cA, rawInt 13, rawInt 8, .ref cB]) :: (kl, PySem.W.listOf [.str x1 t1, .str x2 t2].toArray 0) :: (dl, PySem.W.listOf [.int i1 u1, .int i2 u2].toArray 0) :: news) → Q (.ref f) { s with heap := h', toks := tk' }) :
    wpAny (model PySem.Challenge.rw_au6007_01.row.prog w) (ktrTop dp un gd cn cs L a ccd cl outer) (call (.ref 26) [.ref kl, .ref dl]) Q E s := by
  revert X
  k_fill
  intro X
  refine wpAny_call ?_
  k_dflt ktr_enter
  (repeat (first | (k_unfold; (try dsimp only)) | ((fail_if_success (with_reducible show wpAny _ _ (call (Value.ref 19) _) _ _ _)); (first | walk1 | (dsimp only; walk1)))))
  refine' mk11 w news ps qs hn kl dl hkl hdl x1 t1 x2 t2 i1 u1 i2 u2 cA cB P oC mC hT vC tC dC sC _ _ _ _ _ _ _ _ _ _ _ _ _ _ _ _ _ _ _ _ _ _ ?B ?F ?X ?N ?T C30 C18 ?hk ?hd ?hu ?hret
  case N => k_asm
  case F => k_asm
  case B => k_asm
  case T => k_asm
  case X => k_asm
  case hk => first | exact rfl | assumption
  case hd => exact Nat.le_trans (Nat.add_le_add_left (by decide) _) (dp_next (d := 21) hd rfl)
  case hu => exact Nat.le_trans (Nat.add_le_add_left (by decide) _) (un_next (d := 21) hu rfl)
  case hret =>
    intro f9 led9 h9 tk9 hM hF hO hT9 F9 N9
    k_steps
    exact hret _ _ _ _ hM hF hO hT9 (by assumption) (by assumption)
end Mine
end
-- GP
section
open PySem PySem.W PyProof.Rows PySem.Spec PySem.Calls PyProof.V
set_option maxRecDepth 100000
set_option maxHeartbeats 3000000
set_option linter.unusedVariables false
set_option pp.deepTerms false
set_option pp.deepTerms.threshold 7
set_option pp.proofs false
namespace Mine
local macro_rules | `(tactic| k_all) => `(tactic| assumption)
local macro_rules | `(tactic| k_tabat) => `(tactic| (refine' RowAt.tab' ?tn ?tr ?ts; (case tn => k_asm); (case tr => assumption); (case ts => (intro p9 hp9; (repeat (first | assumption | refine List.mem_cons_of_mem _ ?_))))))
local macro_rules | `(tactic| walk_at "callWith") => `(tactic| (k_here; k_dflt (refine' callWith_op ?kv ?kX ?_; (case kv => assumption); (case kX => k_asm); k_whole)))
local macro_rules | `(tactic| walk_at "call") => `(tactic| (k_here; k_dflt (
  (refine' Does.use (op_does ?kv _ _ _ _ _) ?k1 ?k2 ?k3 ?k4 ?k5 ?kK ?kd ?ku ?_; (case kv => assumption); (case k1 => k_asm); (case k2 => k_asm); (case k3 => k_asm); (case k4 => k_asm); (case k5 => k_asm); (case kK => first | exact rfl | assumption); (case kd => exact dp_next (by assumption) rfl); (case ku => exact un_next (by assumption) rfl); (intro r9 h9 tk9 hP9 F9 N9); (subst hP9); (try dsimp only); (try k_fold)))))
local macro_rules | `(tactic| walk_at "call builtin:dict.get") => `(tactic| (k_here; k_dflt (refine' get_row ?tn ?tr ?ts ?_; (case tn => k_asm); (case tr => assumption); (case ts => (intro p9 hp9; (repeat (first | assumption | refine List.mem_cons_of_mem _ ?_)))); k_whole); intro t9))
local macro_rules | `(tactic| walk_at "call builtin:isinstance") => `(tactic| (k_here; k_dflt (refine' isi_op ?kv ?kX ?kF ?_; (case kv => assumption); (case kX => k_asm); (case kF => k_asm); k_whole); intro tk9))
local macro_rules | `(tactic| walk_at "exec Assign cons ListComp") => `(tactic| k_dflt (walk_at "exec Assign"))
local macro_rules | `(tactic| walk_at "eval ListComp") => `(tactic| (k_here; k_dflt (refine' ListComp_Z ?zF ?z1 ?z2 ?z3 ?z4 ?z5 ?z6 ?z7 ?z8 ?_; (case zF => k_asm); (case z1 => with_unfolding_all rfl); (case z2 => decide); (case z3 => rfl); (case z4 => decide); (case z5 => rfl); (case z6 => rfl); (case z7 => decide); (case z8 => (intro C9; rfl)); k_whole)))
local macro_rules | `(tactic| walk_at "call type:zip") => `(tactic| (k_dflt (first | (refine' zip2_good ?zF ?zN ?zm1 ?zm2 ?zn1 ?zn2 ?_; (case zF => k_asm); (case zN => k_asm); (case zm1 => k_mem); (case zm2 => k_mem); (case zn1 => exact rfl); (case zn2 => exact rfl); intro z9 h9 F9 N9 Z9) | (refine' zip3_good ?zF ?zN ?zm1 ?zm2 ?zm3 ?zn1 ?zn2 ?zn3 ?_; (case zF => k_asm); (case zN => k_asm); (case zm1 => k_mem); (case zm2 => k_mem); (case zm3 => k_mem); (case zn1 => exact rfl); (case zn2 => exact rfl); (case zn3 => exact rfl); intro z9 h9 F9 N9 Z9))))
local macro_rules | `(tactic| walk_at "call type:list") => `(tactic| (k_dflt (first | (refine' list_zip_K2 ?zA ?zF ?zN ?zZ ?_; (case zZ => assumption); (case zA => rfl); (case zF => k_asm); (case zN => k_asm); intro D9 T90 T91 c9 h9 F9 N9 l1 l2; (try simp only [List.getD_cons_zero, List.getD_cons_succ] at N9); (try k_lt l1)) | (refine' list_zip_K3 ?zA ?zF ?zN ?zZ ?_; (case zZ => assumption); (case zA => rfl); (case zF => k_asm); (case zN => k_asm); intro D9 T90 T91 T92 c9 h9 F9 N9 l1 l2; (try simp only [List.getD_cons_zero, List.getD_cons_succ] at N9); (try k_lt l1)))))
local macro_rules | `(tactic| walk_at "callWith type:zip") => `(tactic| (k_dflt (refine' callWith_typeKw ?_ ?k1 ?k2 ?k3 ?k4; (case k1 => exact .inr rfl); (case k2 => rfl); (case k3 => rfl); (case k4 => rfl); k_whole)))
local macro_rules | `(tactic| walk_at "TupsRest") => `(tactic| (k_dflt (first | (refine TupsRest.cons ?_; intro h' tk' o' F' N' l1; (try k_lt l1)) | (refine TupsRest.nil ?_; intro h' tk' F' N'))))
local macro_rules | `(tactic| walk_at "TupEnd") => `(tactic| (k_dflt (refine' TupEnd.same ?tF ?tN ?_; (case tF => assumption); (case tN => assumption))))
local macro_rules | `(tactic| k_all) => `(tactic| (refine ne_of_below (by assumption) ?_; (repeat (refine Nat.le_succ_of_le ?_)); exact Nat.le_refl _))
local macro_rules | `(tactic| walk_at "CompEnd") => `(tactic| (k_dflt (refine' cend_new ?tF ?tN ?to ?tf ?tS ?_; (case tF => assumption); (case tN => assumption); (case to => refine ⟨?_, ?_, ?_⟩ <;> k_ne); (case tf => assumption); (case tS => lcg_src))))
theorem mkphT (w : World) (news : List (Addr × Obj)) (ps qs : Array Value) (hn : OffT news) (x : Str) (t : Tok) (i : Int) (u : Tok) (cB cA : Addr) (qB : CodeOf news cB "categorical_node_match.<locals>.match")
    (p : Program) (loose : List Str) (mean : ExcName → Option Value) (mg mb : Str → Option Value) (dp un : Nat) (gd : Option (List Code)) (cn : Str) (cs : Scope) (a : Addr) (ccd : Value) (cl : List (Str × Addr)) (outer : List Env) (A₀ : Around) (base h₀ : Heap) (L : Addr) (m : Str → Option Value) (s : Shared)
    (Q E : Value → Shared → Prop) (B : Below A₀ base outer h₀) (F : Fr h₀ L s.heap m) (X : (Mine.hd.heap_39 w.params).In h₀) (N : News h₀ L s.heap ((28, tabObj ps) :: (16, tabObj #[rawInt 5, rawInt 8, .ref cB, rawInt 13, rawInt 8, .ref cA]) :: news)) (T : Top p loose mean mg mb h₀) (C30 : CodeHd base 30 28) (C18 : CodeHd base 18 16) (hk : cs.kind = .function) (hd : dp + 20 ≤ 500) (hu : un + 10 * 20 ≤ 5000)
    (hret : ∀ f led  h' tk', IsMatch w led f (fun D1 D2 => agree D1 D2 x i 0) → FnLed led f → OffT led → NoT led → Fr h₀ L h' m → News h₀ L h' (led ++ (28, tabObj ps) :: (16, tabObj #[rawInt 5, rawInt 8, .ref cB, rawInt 13, rawInt 8, .ref cA]) :: news) → Q (.ref f) { s with heap := h', toks := tk' }) :
    wpAny (model PySem.Challenge.rw_au6007_01.row.prog w) (ktrTop dp un gd cn cs L a ccd cl outer) (call (.ref 19) [.str x t, .int i u]) Q E s := by
  have hn1 := hn.of28
  have hn2 := hn.of16
  revert X
  k_fill
  intro X
  refine wpAny_call ?_
  k_dflt (refine' code_defC ?k1 ?k2 ?k3 ?k4 ?k5 ?kA ?kF ?kK ?k6 ?k7 ?k8 ?k9 ?kB ?kD ?_ ?c2 ?c3 ?c4; (case kA => exact rfl); (case kF => exact rfl); (case kK => assumption); (case k1 => k_asm); (case k2 => k_asm); (case k3 => k_asm); (case k4 => k_asm); (case k5 => k_asm); (case k6 => k_is); (case k7 => k_is); (case k8 => exact dp_room (by assumption)); (case k9 => exact BindsTo.of_eq rfl); (case kB => exact rfl); (case kD => decide +kernel); (case c2 => exact rfl); (case c3 => exact rfl); (case c4 => exact rfl); k_whole; intro g' L' h' tk' cells' FG' F' N' Y' B' X' T' l1; (have hl9 : ∀ p ∈ news, p.1 < L' := fun p hp => l1 p (by repeat (first | assumption | refine List.mem_cons_of_mem _ ?_))); (try k_lt l1); k_cells Y'; (try simp only [List.cons_append, List.nil_append] at N'); (try dsimp only); (try k_lift B'); (try k_fold))
  obtain ⟨oC, vC, tC, mC, dC, sC⟩ := qB
  k_steps
  refine hret _ [_, _, _, _, _] _ _ ?isM ?fn ?off ?nott (by assumption) (news_dup (x := (cB, oC)) (by assumption) ?mem)
  case fn => exact ⟨_, _, _, _, (List.mem_cons_of_mem _ List.mem_cons_self)⟩
  case nott => (repeat' (first | exact True.intro | refine And.intro ?_ ?_ | exact notTab_seq | exact notTab_func | exact notTab_cell (by assumption) | exact notTab_code (by assumption) (by assumption)))
  case off => (refine ⟨⟨hn1 _ mC, hn2 _ mC⟩, ?_⟩; repeat' (first | exact True.intro | refine And.intro ?_ ?_ | k_ne))
  case mem => repeat (first | assumption | refine List.mem_cons_of_mem _ ?_)
  case isM =>
    intro rest d1 d2 D1 D2 R1 R2
    unfold DoesC
    clear B F N T C30 C18 hk hd hu hret hn hn1 hn2
    intro p loose mean mg mb dp un gd cn cs fa ccd cl outer A₀ base h₀ L m s Q E B F X N T C30 C18 hk hd hu hret
    simp only [List.cons_append, List.nil_append] at N hret
    refine wpAny_call ?_
    k_dflt (refine' code_nest ?k1 ?k2 ?k3 ?k4 ?k5 ?kA ?kF ?kK ?k6 ?k7 ?k8 ?k9 ?kB ?_ ?c2 ?c3 ?c4 ?c5; (case kA => exact rfl); (case kF => exact rfl); (case kK => assumption); (case k1 => k_asm); (case k2 => k_asm); (case k3 => k_asm); (case k4 => k_asm); (case k5 => k_asm); (case k6 => k_mem); (case k7 => exact codeRec_news (by k_asm) (by k_mem) (by assumption) (by assumption)); (case k8 => exact dp_room (by assumption)); (case k9 => exact BindsTo.of_eq rfl); (case c5 => decide); (case kB => exact locs rfl); (case c2 => exact rfl); (case c3 => exact rfl); (case c4 => exact rfl); k_whole; intro g' L' h' FG' F' N' B' X' T'; (try dsimp only); (try k_lift B'); (try k_fold))
    k_steps
    k_steps
    all_goals (refine hret _ _ _ ?P (by assumption) (by assumption); (case P => first | rfl | (unfold agree sayB; rfl) | simp [agree, sayB]))

end Mine
end
-- GQ
section
open PySem PySem.W PyProof.Rows PySem.Spec PySem.Calls PyProof.V
set_option maxRecDepth 100000
set_option maxHeartbeats 3000000
set_option linter.unusedVariables false
set_option pp.deepTerms false
set_option pp.deepTerms.threshold 7
set_option pp.proofs false
namespace Mine
local macro_rules | `(tactic| ktr_room) => `(tactic| exact dp_room (by assumption))
theorem mkephT (w : World) (news : List (Addr × Obj)) (ps qs : Array Value) (hn : OffT news) (x : Str) (t : Tok) (i : Int) (u : Tok) (cB cA : Addr) (qB : CodeOf news cB "categorical_node_match.<locals>.match")
    (p : Program) (loose : List Str) (mean : ExcName → Option Value) (mg mb : Str → Option Value) (dp un : Nat) (gd : Option (List Code)) (cn : Str) (cs : Scope) (a : Addr) (ccd : Value) (cl : List (Str × Addr)) (outer : List Env) (A₀ : Around) (base h₀ : Heap) (L : Addr) (m : Str → Option Value) (s : Shared)
    (Q E : Value → Shared → Prop) (B : Below A₀ base outer h₀) (F : Fr h₀ L s.heap m) (X : (Mine.hd.heap_39 w.params).In h₀) (N : News h₀ L s.heap ((28, tabObj ps) :: (16, tabObj #[rawInt 5, rawInt 8, .ref cB, rawInt 13, rawInt 8, .ref cA]) :: news)) (T : Top p loose mean mg mb h₀) (C30 : CodeHd base 30 28) (C18 : CodeHd base 18 16) (hk : cs.kind = .function) (hd : dp + 22 ≤ 500) (hu : un + 10 * 22 ≤ 5000)
    (hret : ∀ f led  h' tk', IsMatch w led f (fun D1 D2 => agree D1 D2 x i 0) → FnLed led f → OffT led → NoT led → Fr h₀ L h' m → News h₀ L h' (led ++ (28, tabObj ps) :: (16, tabObj #[rawInt 5, rawInt 8, .ref cB, rawInt 13, rawInt 8, .ref cA]) :: news) → Q (.ref f) { s with heap := h', toks := tk' }) :
    wpAny (model PySem.Challenge.rw_au6007_01.row.prog w) (ktrTop dp un gd cn cs L a ccd cl outer) (call (.ref 26) [.str x t, .int i u]) Q E s := by
  revert X
  k_fill
  intro X
  refine wpAny_call ?_
  k_dflt ktr_enter
  (repeat (first | (k_unfold; (try dsimp only)) | ((fail_if_success (with_reducible show wpAny _ _ (call (Value.ref 19) _) _ _ _)); (first | walk1 | (dsimp only; walk1)))))
  refine' mkphT w news ps qs hn x t i u cB cA qB _ _ _ _ _ _ _ _ _ _ _ _ _ _ _ _ _ _ _ _ _ _ ?B ?F ?X ?N ?T C30 C18 ?hk ?hd ?hu ?hret
  case N => k_asm
  case F => k_asm
  case B => k_asm
  case T => k_asm
  case X => k_asm
  case hk => first | exact rfl | assumption
  case hd => exact Nat.le_trans (Nat.add_le_add_left (by decide) _) (dp_next (d := 21) hd rfl)
  case hu => exact Nat.le_trans (Nat.add_le_add_left (by decide) _) (un_next (d := 21) hu rfl)
  case hret =>
    intro f9 led9 h9 tk9 hM hF hO hT9 F9 N9
    k_steps
    exact hret _ _ _ _ hM hF hO hT9 (by assumption) (by assumption)
end Mine
end
-- LA
section
open PySem PySem.W PyProof.Rows PySem.Spec PySem.Calls PyProof.V
set_option maxRecDepth 100000
set_option maxHeartbeats 8000000
set_option linter.unusedVariables false
set_option pp.deepTerms false
set_option pp.deepTerms.threshold 6
set_option pp.proofs false
namespace Mine
theorem way_item {prog : Program} {w : World} {A : Around} {E : Value → Shared → Prop} {s : Shared} {h₀ : Heap} {L : Addr} {led : List (Addr × Obj)} {value slice : PySem.Expr} {W : Addr} {i : Int} {t : Tok} {Q : Value → Shared → Prop} (N : News h₀ L s.heap led) (hm : (W, PySem.W.listOf [.ref 50, .ref 57, .ref 64].toArray 0) ∈ led) (h0 : 0 ≤ i) (h3 : i < 3)
    (h : ∀ v, OpV v i → Q v s) (hs : subscripted slice false (.ref W) (.int i t) = operate [.ref W, .int i t] (getItem (.ref W) (.int i t)) := by with_unfolding_all rfl) :
    wpAny (model prog w) A (subscriptTail value slice (.ref W) (.int i t)) Q E s := by
  have hl : s.heap.IsList W [.ref 50, .ref 57, .ref 64].toArray := ⟨_, (N _ hm).1, rfl, _, rfl⟩
  have : i = 0 ∨ i = 1 ∨ i = 2 := by omega
  rcases this with rfl | rfl | rfl
  · exact tail_any hl.typeIs slot_list_getitem.lookup (wpAny_getItem_list hl (by decide) (by decide) rfl (h _ (.inl ⟨rfl, rfl⟩))) hs
  · exact tail_any hl.typeIs slot_list_getitem.lookup (wpAny_getItem_list hl (by decide) (by decide) rfl (h _ (.inr (.inl ⟨rfl, rfl⟩)))) hs
  · exact tail_any hl.typeIs slot_list_getitem.lookup (wpAny_getItem_list hl (by decide) (by decide) rfl (h _ (.inr (.inr ⟨rfl, rfl⟩)))) hs
local macro_rules | `(tactic| walk_at "subscriptTail Name Name ref int") => `(tactic| (k_here; (with_reducible show wpAny _ _ (subscriptTail (Expr.Name (Str.ofString "ways") _) _ _ _) _ _ _); k_dflt (refine' way_item ?wN ?wm ?w0 ?w3 ?_ ?ws; (case wN => k_asm); (case wm => k_mem); (case ws => with_unfolding_all rfl); (case w0 => l_fact); (case w3 => l_fact)); intro v9 hv9))
local macro_rules | `(tactic| walk_at "subscriptTail Name BinOp ref int") => `(tactic| (k_here; (with_reducible show wpAny _ _ (subscriptTail (Expr.Name (Str.ofString "numbers") _) _ _ _) _ _ _); k_dflt (refine' num_item ?wN ?wm ?wI ?wl ?w0 ?w3 ?_ ?ws; (case wN => k_asm); (case wm => (repeat (first | assumption | refine List.mem_cons_of_mem _ ?_))); (case wI => assumption); (case wl => assumption); (case ws => with_unfolding_all rfl); (case w0 => omega); (case w3 => omega)); intro n9 u9))
local macro_rules | `(tactic| walk_at "compareOp NotEq bool bool") => `(tactic| (k_dflt (refine' bool_ne_same ?we ?_; (case we => first | rfl | (simp only [Bool.and_true])))))
local macro_rules | `(tactic| walk_at "callWith ref") => `(tactic| (k_here; k_dflt (refine' callWith_F ?k1 ?_; (case k1 => first | exact Good.fnAt (by assumption) (by k_asm) (by intro p9 hp9; (repeat (first | assumption | refine List.mem_cons_of_mem _ ?_))) | exact GoodC.fnAt (by assumption) (by k_asm) (by intro p9 hp9; (repeat (first | assumption | refine List.mem_cons_of_mem _ ?_)))); k_whole)))
local macro_rules | `(tactic| walk_at "FnAt") => `(tactic| (k_dflt (first | exact Good.fnAt (by assumption) (by k_asm) (by intro p9 hp9; (repeat (first | assumption | refine List.mem_cons_of_mem _ ?_))) | exact GoodC.fnAt (by assumption) (by k_asm) (by intro p9 hp9; (repeat (first | assumption | refine List.mem_cons_of_mem _ ?_))))))
theorem law_holds : PySem.Challenge.rw_au6007_01.Holds := hd (by
  k_fill
  intro w s₀ s₁ mg mb G Y fa o pm cd doc dV kV ho hd hcd hD hmg hg args vals as hpre hlay hrd hwl hlo
  have KX := km_in_of Y
  km_tabs Y
  have X := (Ground.X G).1
  have V := (Ground.X G).2
  refine Ground.open G ?_
  intro T B D TE TW
  try (refine guard_noD D (by decide +kernel) ?_; clear D)
  km_lay T hmg ho hd cd
  clear hmg
  wrow_args hpre hlay hrd hwl hlo
  all_goals (
    first | refine callC_kw (enter_call ?_) | refine enter_call ?_
    w_top on
    refine kn_postB hT9 ?_ (fun _ => rfl) ?hp
    w_call any ho hd hcd hD T F
    clear hd
    kn_ghosts F T
    k_drop
    skip)
  case hp => exact postW_of (X := (true == true)) rfl (w_eq_bool (w_res rfl) w_lit) rfl
  (try clear hcd); (try clear hD); (try clear ho); (try clear hT8); (try clear hT9); (try clear V); (try clear X); (try clear KX); (try clear B); (try clear TE); (try clear TW); (try clear T); (try clear Y); (try clear G)
  (repeat (first | (k_unfold; (try dsimp only)) | ((fail_if_success (focus (with_reducible show wpAny _ _ (call (Value.ref _) _) _ _ _))); (first | walk1 | (dsimp only; walk1)))))
  k_dflt (refine' numbers_does _ _ _ _ _ _ _ _ _ _ _ _ _ _ _ _ _ _ _ _ _ _ _ _ _ _ _ _ ?Bg1 ?Fg1 ?Xg1 ?Ng1 ?Tg1 ?hkg1 ?hdg1 ?hug1 ?hLg1 ?hIg1 ?hleng1 ?hretg1)
  case Bg1 => k_asm
  case Fg1 => k_asm
  case Xg1 => k_asm
  case Ng1 => k_asm
  case Tg1 => k_asm
  case hkg1 => exact rfl
  case hdg1 => exact Nat.le_of_ble_eq_true rfl
  case hug1 => exact Nat.le_of_ble_eq_true rfl
  case hLg1 => assumption
  case hIg1 => assumption
  case hleng1 => assumption
  intro D9 ys9 c9 nums9 h9 tk9 hI9 hl9 F9 N9
  (repeat (first | (k_unfold; (try dsimp only)) | ((fail_if_success (focus (with_reducible show wpAny _ _ (call (Value.ref _) _) _ _ _))); (first | walk1 | (dsimp only; walk1)))))
  k_dflt (refine' refused_does _ _ _ _ _ _ _ _ _ _ _ _ _ _ _ _ _ ?Bg2 ?Fg2 ?Xg2 ?Ng2 ?Tg2 ?hkg2 ?hretg2)
  case Bg2 => k_asm
  case Fg2 => k_asm
  case Xg2 => k_asm
  case Ng2 => k_asm
  case Tg2 => k_asm
  case hkg2 => exact rfl
  intro h8 tk8 F8 N8
  (repeat (first | (k_unfold; (try dsimp only)) | ((fail_if_success (focus (with_reducible show wpAny _ _ (call (Value.ref _) _) _ _ _))); (first | walk1 | (dsimp only; walk1)))))
  obtain ⟨R0, eR0⟩ : ∃ R0, R0 = [(D9, lc ys9 c9)] := ⟨_, rfl⟩
  have mD : (D9, lc ys9 c9) ∈ R0 := by rw [eR0]; exact List.mem_cons_self
  have ho0 : OffT R0 := by rw [eR0]; exact ⟨⟨list_ne_tab N8 (by k_mem) (by k_mem), list_ne_tab N8 (by k_mem) (by k_mem)⟩, trivial⟩
  have N0 := News.sub9 (l' := (28, tabObj #[]) :: (16, tabObj #[]) :: R0) N8 (by rw [eR0]; (intro p9 hp9; (rcases List.mem_cons.mp hp9 with rfl | hp9; (focus (k_dflt (repeat (first | exact List.mem_cons_self | refine List.mem_cons_of_mem _ ?_ | refine List.mem_append_right _ ?_))))); (rcases List.mem_cons.mp hp9 with rfl | hp9; (focus (k_dflt (repeat (first | exact List.mem_cons_self | refine List.mem_cons_of_mem _ ?_ | refine List.mem_append_right _ ?_))))); (rcases List.mem_cons.mp hp9 with rfl | hp9; (focus (k_dflt (repeat (first | exact List.mem_cons_self | refine List.mem_cons_of_mem _ ?_ | refine List.mem_append_right _ ?_))))); (focus (repeat (first | assumption | exact List.mem_append_left _ (by assumption) | refine List.mem_cons_of_mem _ ?_ | refine List.mem_append_right _ ?_)))))
  clear N8 eR0
  k_dflt (refine' mk1 w R0 _ ?hng31 _ _ _ _ _ _ ?hvg31 _ _ _ _ _ _ _ _ _ _ _ _ _ _ _ _ _ _ _ _ _ _ ?Bg31 ?Fg31 ?Xg31 ?Ng31 ?Tg31 ?C30g31 ?C18g31 ?hkg31 ?hdg31 ?hug31 ?hretg31)
  case Bg31 => k_asm
  case Fg31 => k_asm
  case Xg31 => k_asm
  case Ng31 => exact News.sub9 (l' := _ :: _ :: R0) (by assumption) (by (intro p9 hp9; (rcases List.mem_cons.mp hp9 with rfl | hp9; (focus (k_dflt (repeat (first | exact List.mem_cons_self | refine List.mem_cons_of_mem _ ?_ | refine List.mem_append_right _ ?_))))); (rcases List.mem_cons.mp hp9 with rfl | hp9; (focus (k_dflt (repeat (first | exact List.mem_cons_self | refine List.mem_cons_of_mem _ ?_ | refine List.mem_append_right _ ?_))))); (focus (repeat (first | assumption | exact List.mem_append_left _ (by assumption) | refine List.mem_cons_of_mem _ ?_ | refine List.mem_append_right _ ?_)))))
  case Tg31 => k_asm
  case hng31 => assumption
  case hvg31 => assumption
  case C30g31 => k_dflt assumption
  case C18g31 => k_dflt assumption
  case hkg31 => exact rfl
  case hdg31 => exact Nat.le_of_ble_eq_true rfl
  case hug31 => exact Nat.le_of_ble_eq_true rfl
  intro f1 led1 c1 h1 tk1 hM1 hF1 hO1 hC1 F1 Nx
  have N1 := step_led (extra := []) Nx
  clear Nx
  obtain ⟨R1, eR, sl, sr, ho1⟩ := fold_led led1 R0 hO1 (by assumption)
  rw [eR] at N1
  have G1 : Good w R1 f1 _ := ⟨led1, hM1, hF1, sl⟩
  have Q1 := CodeOf.more hC1 sl
  clear hM1 hF1 hO1 hC1 eR sl
  replace mD := sr _ mD
  clear sr
  (repeat (first | (k_unfold; (try dsimp only)) | ((fail_if_success (focus (with_reducible show wpAny _ _ (call (Value.ref _) _) _ _ _))); (fail_if_success (focus (with_reducible show wpAny _ _ (exec (Stmt.For _ _ _ _ _) _) _ _ _))); (first | walk1 | (dsimp only; walk1)))))
  k_dflt (refine' mk2 w R1 #[] _ ?hng32 _ _ ?hklg32 ?hdlg32 _ _ _ _ _ _ _ _ _ _ ?hvg32 _ _ _ _ _ _ _ _ _ _ _ _ _ _ _ _ _ _ _ _ _ _ _ ?Bg32 ?Fg32 ?Xg32 ?Ng32 ?Tg32 ?C30g32 ?C18g32 ?hkg32 ?hdg32 ?hug32 ?hretg32)
  case Bg32 => k_asm
  case Fg32 => k_asm
  case Xg32 => k_asm
  case Ng32 => exact News.sub9 (l' := _ :: _ :: _ :: _ :: R1) (by assumption) (by (intro p9 hp9; (rcases List.mem_cons.mp hp9 with rfl | hp9; (focus (k_dflt (repeat (first | exact List.mem_cons_self | refine List.mem_cons_of_mem _ ?_ | refine List.mem_append_right _ ?_))))); (rcases List.mem_cons.mp hp9 with rfl | hp9; (focus (k_dflt (repeat (first | exact List.mem_cons_self | refine List.mem_cons_of_mem _ ?_ | refine List.mem_append_right _ ?_))))); (rcases List.mem_cons.mp hp9 with rfl | hp9; (focus (k_dflt (repeat (first | exact List.mem_cons_self | refine List.mem_cons_of_mem _ ?_ | refine List.mem_append_right _ ?_))))); (rcases List.mem_cons.mp hp9 with rfl | hp9; (focus (k_dflt (repeat (first | exact List.mem_cons_self | refine List.mem_cons_of_mem _ ?_ | refine List.mem_append_right _ ?_))))); (focus (repeat (first | assumption | exact List.mem_append_left _ (by assumption) | refine List.mem_cons_of_mem _ ?_ | refine List.mem_append_right _ ?_)))))
  case Tg32 => k_asm
  case hng32 => assumption
  case hvg32 => assumption
  case hklg32 => (first | assumption | omega)
  case hdlg32 => (first | assumption | omega)
  case C30g32 => k_dflt assumption
  case C18g32 => k_dflt assumption
  case hkg32 => exact rfl
  case hdg32 => exact Nat.le_of_ble_eq_true rfl
  case hug32 => exact Nat.le_of_ble_eq_true rfl
  intro f2 led2 c2 h2 tk2 hM2 hF2 hO2 hC2 F2 Nx
  have N2 := step_led (extra := [_, _]) Nx
  clear Nx
  obtain ⟨R2, eR, sl, sr, ho2⟩ := fold_led led2 R1 hO2 (by assumption)
  rw [eR] at N2
  have G2 : Good w R2 f2 _ := ⟨led2, hM2, hF2, sl⟩
  have Q2 := CodeOf.more hC2 sl
  clear hM2 hF2 hO2 hC2 eR sl
  replace G1 := G1.more sr
  replace Q1 := CodeOf.more Q1 sr
  replace mD := sr _ mD
  clear sr
  (repeat (first | (k_unfold; (try dsimp only)) | ((fail_if_success (focus (with_reducible show wpAny _ _ (call (Value.ref _) _) _ _ _))); (fail_if_success (focus (with_reducible show wpAny _ _ (exec (Stmt.For _ _ _ _ _) _) _ _ _))); (first | walk1 | (dsimp only; walk1)))))
  k_dflt (refine' mk3 w R2 #[] _ ?hng33 _ _ _ ?hklg33 ?hdlg33 ?holg33 _ _ _ _ _ _ _ _ _ _ _ _ ?hv1g33 ?hv2g33 _ _ ?qBg33 _ _ _ _ _ _ _ _ _ _ _ _ _ _ _ _ _ _ _ _ _ _ ?Bg33 ?Fg33 ?Xg33 ?Ng33 ?Tg33 ?C30g33 ?C18g33 ?hkg33 ?hdg33 ?hug33 ?hretg33)
  case Bg33 => k_asm
  case Fg33 => k_asm
  case Xg33 => k_asm
  case Ng33 => exact News.sub9 (l' := _ :: _ :: _ :: _ :: _ :: R2) (by assumption) (by (intro p9 hp9; (rcases List.mem_cons.mp hp9 with rfl | hp9; (focus (k_dflt (repeat (first | exact List.mem_cons_self | refine List.mem_cons_of_mem _ ?_ | refine List.mem_append_right _ ?_))))); (rcases List.mem_cons.mp hp9 with rfl | hp9; (focus (k_dflt (repeat (first | exact List.mem_cons_self | refine List.mem_cons_of_mem _ ?_ | refine List.mem_append_right _ ?_))))); (rcases List.mem_cons.mp hp9 with rfl | hp9; (focus (k_dflt (repeat (first | exact List.mem_cons_self | refine List.mem_cons_of_mem _ ?_ | refine List.mem_append_right _ ?_))))); (rcases List.mem_cons.mp hp9 with rfl | hp9; (focus (k_dflt (repeat (first | exact List.mem_cons_self | refine List.mem_cons_of_mem _ ?_ | refine List.mem_append_right _ ?_))))); (rcases List.mem_cons.mp hp9 with rfl | hp9; (focus (k_dflt (repeat (first | exact List.mem_cons_self | refine List.mem_cons_of_mem _ ?_ | refine List.mem_append_right _ ?_))))); (focus (repeat (first | assumption | exact List.mem_append_left _ (by assumption) | refine List.mem_cons_of_mem _ ?_ | refine List.mem_append_right _ ?_)))))
  case Tg33 => k_asm
  case hng33 => assumption
  case hv1g33 => assumption
  case hv2g33 => assumption
  case hklg33 => (first | assumption | omega)
  case hdlg33 => (first | assumption | omega)
  case holg33 => (first | assumption | omega)
  case qBg33 => exact Q2
  case C30g33 => k_dflt assumption
  case C18g33 => k_dflt assumption
  case hkg33 => exact rfl
  case hdg33 => exact Nat.le_of_ble_eq_true rfl
  case hug33 => exact Nat.le_of_ble_eq_true rfl
  intro f3 led3 h3 tk3 hM3 hF3 hO3 F3 Nx
  have N3 := step_led (extra := [_, _, _]) Nx
  clear Nx
  obtain ⟨R3, eR, sl, sr, ho3⟩ := fold_led led3 R2 hO3 (by assumption)
  rw [eR] at N3
  have G3 : Good w R3 f3 _ := ⟨led3, hM3, hF3, sl⟩
  clear hM3 hF3 hO3 eR sl
  replace G1 := G1.more sr
  replace G2 := G2.more sr
  replace Q1 := CodeOf.more Q1 sr
  replace Q2 := CodeOf.more Q2 sr
  replace mD := sr _ mD
  clear sr
  (repeat (first | (k_unfold; (try dsimp only)) | ((fail_if_success (focus (with_reducible show wpAny _ _ (call (Value.ref _) _) _ _ _))); (fail_if_success (focus (with_reducible show wpAny _ _ (exec (Stmt.For _ _ _ _ _) _) _ _ _))); (first | walk1 | (dsimp only; walk1)))))
  k_dflt (refine' mk4 w R3 #[] _ ?hng34 _ _ ?hklg34 ?holg34 _ _ _ _ _ _ _ _ _ _ ?hv1g34 ?hv2g34 _ _ ?qBg34 _ _ _ _ _ _ _ _ _ _ _ _ _ _ _ _ _ _ _ _ _ _ ?Bg34 ?Fg34 ?Xg34 ?Ng34 ?Tg34 ?C30g34 ?C18g34 ?hkg34 ?hdg34 ?hug34 ?hretg34)
  case Bg34 => k_asm
  case Fg34 => k_asm
  case Xg34 => k_asm
  case Ng34 => exact News.sub9 (l' := _ :: _ :: _ :: _ :: R3) (by assumption) (by (intro p9 hp9; (rcases List.mem_cons.mp hp9 with rfl | hp9; (focus (k_dflt (repeat (first | exact List.mem_cons_self | refine List.mem_cons_of_mem _ ?_ | refine List.mem_append_right _ ?_))))); (rcases List.mem_cons.mp hp9 with rfl | hp9; (focus (k_dflt (repeat (first | exact List.mem_cons_self | refine List.mem_cons_of_mem _ ?_ | refine List.mem_append_right _ ?_))))); (rcases List.mem_cons.mp hp9 with rfl | hp9; (focus (k_dflt (repeat (first | exact List.mem_cons_self | refine List.mem_cons_of_mem _ ?_ | refine List.mem_append_right _ ?_))))); (rcases List.mem_cons.mp hp9 with rfl | hp9; (focus (k_dflt (repeat (first | exact List.mem_cons_self | refine List.mem_cons_of_mem _ ?_ | refine List.mem_append_right _ ?_))))); (focus (repeat (first | assumption | exact List.mem_append_left _ (by assumption) | refine List.mem_cons_of_mem _ ?_ | refine List.mem_append_right _ ?_)))))
  case Tg34 => k_asm
  case hng34 => assumption
  case hv1g34 => assumption
  case hv2g34 => assumption
  case hklg34 => (first | assumption | omega)
  case holg34 => (first | assumption | omega)
  case qBg34 => exact Q2
  case C30g34 => k_dflt assumption
  case C18g34 => k_dflt assumption
  case hkg34 => exact rfl
  case hdg34 => exact Nat.le_of_ble_eq_true rfl
  case hug34 => exact Nat.le_of_ble_eq_true rfl
  intro f4 led4 h4 tk4 hM4 hF4 hO4 F4 Nx
  have N4 := step_led (extra := [_, _]) Nx
  clear Nx
  obtain ⟨R4, eR, sl, sr, ho4⟩ := fold_led led4 R3 hO4 (by assumption)
  rw [eR] at N4
  have G4 : Good w R4 f4 _ := ⟨led4, hM4, hF4, sl⟩
  clear hM4 hF4 hO4 eR sl
  replace G1 := G1.more sr
  replace G2 := G2.more sr
  replace G3 := G3.more sr
  replace Q1 := CodeOf.more Q1 sr
  replace Q2 := CodeOf.more Q2 sr
  replace mD := sr _ mD
  clear sr
  (repeat (first | (k_unfold; (try dsimp only)) | ((fail_if_success (focus (with_reducible show wpAny _ _ (call (Value.ref _) _) _ _ _))); (fail_if_success (focus (with_reducible show wpAny _ _ (exec (Stmt.For _ _ _ _ _) _) _ _ _))); (first | walk1 | (dsimp only; walk1)))))
  k_dflt (refine' mk5 w R4 #[] _ ?hng35 _ ?hklg35 _ _ _ _ _ _ _ _ ?hvg35 _ _ ?qBg35 _ _ _ _ _ _ _ _ _ _ _ _ _ _ _ _ _ _ _ _ _ _ ?Bg35 ?Fg35 ?Xg35 ?Ng35 ?Tg35 ?C30g35 ?C18g35 ?hkg35 ?hdg35 ?hug35 ?hretg35)
  case Bg35 => k_asm
  case Fg35 => k_asm
  case Xg35 => k_asm
  case Ng35 => exact News.sub9 (l' := _ :: _ :: _ :: R4) (by assumption) (by (intro p9 hp9; (rcases List.mem_cons.mp hp9 with rfl | hp9; (focus (k_dflt (repeat (first | exact List.mem_cons_self | refine List.mem_cons_of_mem _ ?_ | refine List.mem_append_right _ ?_))))); (rcases List.mem_cons.mp hp9 with rfl | hp9; (focus (k_dflt (repeat (first | exact List.mem_cons_self | refine List.mem_cons_of_mem _ ?_ | refine List.mem_append_right _ ?_))))); (rcases List.mem_cons.mp hp9 with rfl | hp9; (focus (k_dflt (repeat (first | exact List.mem_cons_self | refine List.mem_cons_of_mem _ ?_ | refine List.mem_append_right _ ?_))))); (focus (repeat (first | assumption | exact List.mem_append_left _ (by assumption) | refine List.mem_cons_of_mem _ ?_ | refine List.mem_append_right _ ?_)))))
  case Tg35 => k_asm
  case hng35 => assumption
  case hvg35 => assumption
  case hklg35 => (first | assumption | omega)
  case qBg35 => exact Q2
  case C30g35 => k_dflt assumption
  case C18g35 => k_dflt assumption
  case hkg35 => exact rfl
  case hdg35 => exact Nat.le_of_ble_eq_true rfl
  case hug35 => exact Nat.le_of_ble_eq_true rfl
  intro f5 led5 h5 tk5 hM5 hF5 hO5 F5 Nx
  have N5 := step_led (extra := [_]) Nx
  clear Nx
  obtain ⟨R5, eR, sl, sr, ho5⟩ := fold_led led5 R4 hO5 (by assumption)
  rw [eR] at N5
  have G5 : Good w R5 f5 _ := ⟨led5, hM5, hF5, sl⟩
  clear hM5 hF5 hO5 eR sl
  replace G1 := G1.more sr
  replace G2 := G2.more sr
  replace G3 := G3.more sr
  replace G4 := G4.more sr
  replace Q1 := CodeOf.more Q1 sr
  replace Q2 := CodeOf.more Q2 sr
  replace mD := sr _ mD
  clear sr
  (repeat (first | (k_unfold; (try dsimp only)) | ((fail_if_success (focus (with_reducible show wpAny _ _ (call (Value.ref _) _) _ _ _))); (fail_if_success (focus (with_reducible show wpAny _ _ (exec (Stmt.For _ _ _ _ _) _) _ _ _))); (first | walk1 | (dsimp only; walk1)))))
  k_dflt (refine' mke3 w R5 #[] _ ?hng36 _ _ _ ?hklg36 ?hdlg36 ?holg36 _ _ _ _ _ _ _ _ _ _ _ _ ?hv1g36 ?hv2g36 _ _ ?qBg36 _ _ _ _ _ _ _ _ _ _ _ _ _ _ _ _ _ _ _ _ _ _ ?Bg36 ?Fg36 ?Xg36 ?Ng36 ?Tg36 ?C30g36 ?C18g36 ?hkg36 ?hdg36 ?hug36 ?hretg36)
  case Bg36 => k_asm
  case Fg36 => k_asm
  case Xg36 => k_asm
  case Ng36 => exact News.sub9 (l' := _ :: _ :: _ :: _ :: _ :: R5) (by assumption) (by (intro p9 hp9; (rcases List.mem_cons.mp hp9 with rfl | hp9; (focus (k_dflt (repeat (first | exact List.mem_cons_self | refine List.mem_cons_of_mem _ ?_ | refine List.mem_append_right _ ?_))))); (rcases List.mem_cons.mp hp9 with rfl | hp9; (focus (k_dflt (repeat (first | exact List.mem_cons_self | refine List.mem_cons_of_mem _ ?_ | refine List.mem_append_right _ ?_))))); (rcases List.mem_cons.mp hp9 with rfl | hp9; (focus (k_dflt (repeat (first | exact List.mem_cons_self | refine List.mem_cons_of_mem _ ?_ | refine List.mem_append_right _ ?_))))); (rcases List.mem_cons.mp hp9 with rfl | hp9; (focus (k_dflt (repeat (first | exact List.mem_cons_self | refine List.mem_cons_of_mem _ ?_ | refine List.mem_append_right _ ?_))))); (rcases List.mem_cons.mp hp9 with rfl | hp9; (focus (k_dflt (repeat (first | exact List.mem_cons_self | refine List.mem_cons_of_mem _ ?_ | refine List.mem_append_right _ ?_))))); (focus (repeat (first | assumption | exact List.mem_append_left _ (by assumption) | refine List.mem_cons_of_mem _ ?_ | refine List.mem_append_right _ ?_)))))
  case Tg36 => k_asm
  case hng36 => assumption
  case hv1g36 => assumption
  case hv2g36 => assumption
  case hklg36 => (first | assumption | omega)
  case hdlg36 => (first | assumption | omega)
  case holg36 => (first | assumption | omega)
  case qBg36 => exact Q2
  case C30g36 => k_dflt assumption
  case C18g36 => k_dflt assumption
  case hkg36 => exact rfl
  case hdg36 => exact Nat.le_of_ble_eq_true rfl
  case hug36 => exact Nat.le_of_ble_eq_true rfl
  intro f6 led6 h6 tk6 hM6 hF6 hO6 F6 Nx
  have N6 := step_led (extra := [_, _, _]) Nx
  clear Nx
  obtain ⟨R6, eR, sl, sr, ho6⟩ := fold_led led6 R5 hO6 (by assumption)
  rw [eR] at N6
  have G6 : Good w R6 f6 _ := ⟨led6, hM6, hF6, sl⟩
  clear hM6 hF6 hO6 eR sl
  replace G1 := G1.more sr
  replace G2 := G2.more sr
  replace G3 := G3.more sr
  replace G4 := G4.more sr
  replace G5 := G5.more sr
  replace Q1 := CodeOf.more Q1 sr
  replace Q2 := CodeOf.more Q2 sr
  replace mD := sr _ mD
  clear sr
  (repeat (first | (k_unfold; (try dsimp only)) | ((fail_if_success (focus (with_reducible show wpAny _ _ (call (Value.ref _) _) _ _ _))); (fail_if_success (focus (with_reducible show wpAny _ _ (exec (Stmt.For _ _ _ _ _) _) _ _ _))); (first | walk1 | (dsimp only; walk1)))))
  k_dflt (refine' mke1h w R6 #[] _ ?hng37 _ _ _ _ _ _ ?hvg37 _ _ ?qBg37 _ _ _ _ _ _ _ _ _ _ _ _ _ _ _ _ _ _ _ _ _ _ ?Bg37 ?Fg37 ?Xg37 ?Ng37 ?Tg37 ?C30g37 ?C18g37 ?hkg37 ?hdg37 ?hug37 ?hretg37)
  case Bg37 => k_asm
  case Fg37 => k_asm
  case Xg37 => k_asm
  case Ng37 => exact News.sub9 (l' := _ :: _ :: R6) (by assumption) (by (intro p9 hp9; (rcases List.mem_cons.mp hp9 with rfl | hp9; (focus (k_dflt (repeat (first | exact List.mem_cons_self | refine List.mem_cons_of_mem _ ?_ | refine List.mem_append_right _ ?_))))); (rcases List.mem_cons.mp hp9 with rfl | hp9; (focus (k_dflt (repeat (first | exact List.mem_cons_self | refine List.mem_cons_of_mem _ ?_ | refine List.mem_append_right _ ?_))))); (focus (repeat (first | assumption | exact List.mem_append_left _ (by assumption) | refine List.mem_cons_of_mem _ ?_ | refine List.mem_append_right _ ?_)))))
  case Tg37 => k_asm
  case hng37 => assumption
  case hvg37 => assumption
  case qBg37 => exact Q1
  case C30g37 => k_dflt assumption
  case C18g37 => k_dflt assumption
  case hkg37 => exact rfl
  case hdg37 => exact Nat.le_of_ble_eq_true rfl
  case hug37 => exact Nat.le_of_ble_eq_true rfl
  intro f7 led7 h7 tk7 hM7 hF7 hO7 F7 Nx
  have N7 := step_led (extra := []) Nx
  clear Nx
  obtain ⟨R7, eR, sl, sr, ho7⟩ := fold_led led7 R6 hO7 (by assumption)
  rw [eR] at N7
  have G7 : Good w R7 f7 _ := ⟨led7, hM7, hF7, sl⟩
  clear hM7 hF7 hO7 eR sl
  replace G1 := G1.more sr
  replace G2 := G2.more sr
  replace G3 := G3.more sr
  replace G4 := G4.more sr
  replace G5 := G5.more sr
  replace G6 := G6.more sr
  replace mD := sr _ mD
  clear sr
  (repeat (first | (k_unfold; (try dsimp only)) | ((fail_if_success (focus (with_reducible show wpAny _ _ (call (Value.ref _) _) _ _ _))); (fail_if_success (focus (with_reducible show wpAny _ _ (exec (Stmt.For _ _ _ _ _) _) _ _ _))); (first | walk1 | (dsimp only; walk1)))))
  k_dflt (refine' mkp w R7 _ #[] ?hng38 _ _ _ _ _ _ _ _ _ _ _ _ _ _ _ _ _ _ _ _ _ _ _ _ _ _ ?Bg38 ?Fg38 ?Xg38 ?Ng38 ?Tg38 ?C30g38 ?C18g38 ?hkg38 ?hdg38 ?hug38 ?hretg38)
  case Bg38 => k_asm
  case Fg38 => k_asm
  case Xg38 => k_asm
  case Ng38 => exact News.sub9 (l' := _ :: _ :: R7) (by assumption) (by (intro p9 hp9; (rcases List.mem_cons.mp hp9 with rfl | hp9; (focus (k_dflt (repeat (first | exact List.mem_cons_self | refine List.mem_cons_of_mem _ ?_ | refine List.mem_append_right _ ?_))))); (rcases List.mem_cons.mp hp9 with rfl | hp9; (focus (k_dflt (repeat (first | exact List.mem_cons_self | refine List.mem_cons_of_mem _ ?_ | refine List.mem_append_right _ ?_))))); (focus (repeat (first | assumption | exact List.mem_append_left _ (by assumption) | refine List.mem_cons_of_mem _ ?_ | refine List.mem_append_right _ ?_)))))
  case Tg38 => k_asm
  case hng38 => assumption
  case C30g38 => k_dflt assumption
  case C18g38 => k_dflt assumption
  case hkg38 => exact rfl
  case hdg38 => exact Nat.le_of_ble_eq_true rfl
  case hug38 => exact Nat.le_of_ble_eq_true rfl
  intro f8 led8 c8 h8 tk8 hM8 hF8 hO8 hC8 F8 Nx
  have N8 := step_led (extra := []) Nx
  clear Nx
  obtain ⟨R8, eR, sl, sr, ho8⟩ := fold_led led8 R7 hO8 (by assumption)
  rw [eR] at N8
  have G8 : Good w R8 f8 _ := ⟨led8, hM8, hF8, sl⟩
  have Q8 := CodeOf.more hC8 sl
  clear hM8 hF8 hO8 hC8 eR sl
  replace G1 := G1.more sr
  replace G2 := G2.more sr
  replace G3 := G3.more sr
  replace G4 := G4.more sr
  replace G5 := G5.more sr
  replace G6 := G6.more sr
  replace G7 := G7.more sr
  replace mD := sr _ mD
  clear sr
  (repeat (first | (k_unfold; (try dsimp only)) | ((fail_if_success (focus (with_reducible show wpAny _ _ (call (Value.ref _) _) _ _ _))); (fail_if_success (focus (with_reducible show wpAny _ _ (exec (Stmt.For _ _ _ _ _) _) _ _ _))); (first | walk1 | (dsimp only; walk1)))))
  k_dflt (refine' mk9 w R8 _ #[] ?hng39 _ ?hklg39 _ _ _ _ _ _ _ _ _ _ _ _ _ _ _ _ _ _ _ _ _ _ _ _ _ _ _ _ _ ?Bg39 ?Fg39 ?Xg39 ?Ng39 ?Tg39 ?C30g39 ?C18g39 ?hkg39 ?hdg39 ?hug39 ?hretg39)
  case Bg39 => k_asm
  case Fg39 => k_asm
  case Xg39 => k_asm
  case Ng39 => exact News.sub9 (l' := _ :: _ :: _ :: R8) (by assumption) (by (intro p9 hp9; (rcases List.mem_cons.mp hp9 with rfl | hp9; (focus (k_dflt (repeat (first | exact List.mem_cons_self | refine List.mem_cons_of_mem _ ?_ | refine List.mem_append_right _ ?_))))); (rcases List.mem_cons.mp hp9 with rfl | hp9; (focus (k_dflt (repeat (first | exact List.mem_cons_self | refine List.mem_cons_of_mem _ ?_ | refine List.mem_append_right _ ?_))))); (rcases List.mem_cons.mp hp9 with rfl | hp9; (focus (k_dflt (repeat (first | exact List.mem_cons_self | refine List.mem_cons_of_mem _ ?_ | refine List.mem_append_right _ ?_))))); (focus (repeat (first | assumption | exact List.mem_append_left _ (by assumption) | refine List.mem_cons_of_mem _ ?_ | refine List.mem_append_right _ ?_)))))
  case Tg39 => k_asm
  case hng39 => assumption
  case hklg39 => (first | assumption | omega)
  case C30g39 => k_dflt assumption
  case C18g39 => k_dflt assumption
  case hkg39 => exact rfl
  case hdg39 => exact Nat.le_of_ble_eq_true rfl
  case hug39 => exact Nat.le_of_ble_eq_true rfl
  intro f9 led9 c9' P9 oc9 h9' tk9' hM9 hF9 hO9 hNT mC hTab hC9 P28 hP1 hP2 F9' Nx
  have N9' := step_ledP (extra := [_]) Nx
  clear Nx
  obtain ⟨vC9, tC9, dC, sC⟩ := code_told N9' (fun p hp => List.mem_cons_of_mem _ (List.mem_cons_of_mem _ (List.mem_cons_of_mem _ (List.mem_append_left _ hp)))) mC hC9
  obtain ⟨R9, eR, sl, sr, ho9, hf9⟩ := fold_ledN led9 R8 hO9 (by assumption) P9 hP2 hP1
  rw [eR] at N9'
  have K9 : GoodC w P9 R9 f9 _ := ⟨led9, hM9, hF9, sl⟩
  replace mC := sl _ mC
  clear hM9 hF9 hO9 hNT hC9 eR sl hP1 hP2
  replace G1 := G1.more sr
  replace G2 := G2.more sr
  replace G3 := G3.more sr
  replace G4 := G4.more sr
  replace G5 := G5.more sr
  replace G6 := G6.more sr
  replace G7 := G7.more sr
  replace G8 := G8.more sr
  replace Q8 := CodeOf.more Q8 sr
  replace mD := sr _ mD
  clear sr
  (repeat (first | (k_unfold; (try dsimp only)) | ((fail_if_success (focus (with_reducible show wpAny _ _ (call (Value.ref _) _) _ _ _))); (fail_if_success (focus (with_reducible show wpAny _ _ (exec (Stmt.For _ _ _ _ _) _) _ _ _))); (first | walk1 | (dsimp only; walk1)))))
  k_dflt (refine' mk10 w ((P9, tabObj #[]) :: R9) _ #[] ?hng40 _ _ ?hklg40 ?hdlg40 _ _ _ _ _ _ _ _ _ _ _ _ _ c9' P9 oc9 ?mCg40 ?hTg40 vC9 tC9 ?dCg40 ?sCg40 _ _ _ _ _ _ _ _ _ _ _ _ _ _ _ _ _ _ _ _ _ _ ?Bg40 ?Fg40 ?Xg40 ?Ng40 ?Tg40 ?C30g40 ?C18g40 ?hkg40 ?hdg40 ?hug40 ?hretg40)
  case Bg40 => k_asm
  case Fg40 => k_asm
  case Xg40 => k_asm
  case Ng40 => exact News.sub9 (l' := _ :: _ :: _ :: _ :: (P9, tabObj #[]) :: R9) (by assumption) (by (intro p9 hp9; (rcases List.mem_cons.mp hp9 with rfl | hp9; (focus (k_dflt (repeat (first | exact List.mem_cons_self | refine List.mem_cons_of_mem _ ?_ | refine List.mem_append_right _ ?_))))); (rcases List.mem_cons.mp hp9 with rfl | hp9; (focus (k_dflt (repeat (first | exact List.mem_cons_self | refine List.mem_cons_of_mem _ ?_ | refine List.mem_append_right _ ?_))))); (rcases List.mem_cons.mp hp9 with rfl | hp9; (focus (k_dflt (repeat (first | exact List.mem_cons_self | refine List.mem_cons_of_mem _ ?_ | refine List.mem_append_right _ ?_))))); (rcases List.mem_cons.mp hp9 with rfl | hp9; (focus (k_dflt (repeat (first | exact List.mem_cons_self | refine List.mem_cons_of_mem _ ?_ | refine List.mem_append_right _ ?_))))); (rcases List.mem_cons.mp hp9 with rfl | hp9; (focus (k_dflt (repeat (first | exact List.mem_cons_self | refine List.mem_cons_of_mem _ ?_ | refine List.mem_append_right _ ?_))))); (focus (repeat (first | assumption | exact List.mem_append_left _ (by assumption) | refine List.mem_cons_of_mem _ ?_ | refine List.mem_append_right _ ?_)))))
  case Tg40 => k_asm
  case hng40 => exact ⟨P28, (by assumption)⟩
  case hklg40 => (first | assumption | omega)
  case hdlg40 => (first | assumption | omega)
  case mCg40 => exact List.mem_cons_of_mem _ mC
  case hTg40 => exact hTab
  case dCg40 => exact dC
  case sCg40 => exact sC
  case C30g40 => k_dflt assumption
  case C18g40 => k_dflt assumption
  case hkg40 => exact rfl
  case hdg40 => exact Nat.le_of_ble_eq_true rfl
  case hug40 => exact Nat.le_of_ble_eq_true rfl
  intro f10 led10 h10 tk10 hM10 hF10 hO10 hNT F10 Nx
  have N10 := step_ledQ (extra := [_, _]) Nx
  clear Nx
  have hl9 := led_off N10 (by k_mem) (fun p hp => List.mem_cons_of_mem _ (List.mem_cons_of_mem _ (List.mem_cons_of_mem _ (List.mem_append_left _ hp)))) hNT
  obtain ⟨R10, eR, sl, sr, ho10, hf10⟩ := fold_ledN led10 R9 hO10 (by assumption) P9 hl9 (by assumption)
  rw [eR] at N10
  have K10 : GoodC w P9 R10 f10 _ := ⟨led10, hM10, hF10, sl⟩
  clear hM10 hF10 hO10 hNT hl9 eR sl
  replace G1 := G1.more sr
  replace G2 := G2.more sr
  replace G3 := G3.more sr
  replace G4 := G4.more sr
  replace G5 := G5.more sr
  replace G6 := G6.more sr
  replace G7 := G7.more sr
  replace G8 := G8.more sr
  replace Q8 := CodeOf.more Q8 sr
  replace K9 := K9.more sr
  replace mC := sr _ mC
  replace mD := sr _ mD
  clear sr
  (repeat (first | (k_unfold; (try dsimp only)) | ((fail_if_success (focus (with_reducible show wpAny _ _ (call (Value.ref _) _) _ _ _))); (fail_if_success (focus (with_reducible show wpAny _ _ (exec (Stmt.For _ _ _ _ _) _) _ _ _))); (first | walk1 | (dsimp only; walk1)))))
  k_dflt (refine' mke11 w ((P9, tabObj #[]) :: R10) _ #[] ?hng41 _ _ ?hklg41 ?hdlg41 _ _ _ _ _ _ _ _ _ c9' P9 oc9 ?mCg41 ?hTg41 vC9 tC9 ?dCg41 ?sCg41 _ _ _ _ _ _ _ _ _ _ _ _ _ _ _ _ _ _ _ _ _ _ ?Bg41 ?Fg41 ?Xg41 ?Ng41 ?Tg41 ?C30g41 ?C18g41 ?hkg41 ?hdg41 ?hug41 ?hretg41)
  case Bg41 => k_asm
  case Fg41 => k_asm
  case Xg41 => k_asm
  case Ng41 => exact News.sub9 (l' := _ :: _ :: _ :: _ :: (P9, tabObj #[]) :: R10) (by assumption) (by (intro p9 hp9; (rcases List.mem_cons.mp hp9 with rfl | hp9; (focus (k_dflt (repeat (first | exact List.mem_cons_self | refine List.mem_cons_of_mem _ ?_ | refine List.mem_append_right _ ?_))))); (rcases List.mem_cons.mp hp9 with rfl | hp9; (focus (k_dflt (repeat (first | exact List.mem_cons_self | refine List.mem_cons_of_mem _ ?_ | refine List.mem_append_right _ ?_))))); (rcases List.mem_cons.mp hp9 with rfl | hp9; (focus (k_dflt (repeat (first | exact List.mem_cons_self | refine List.mem_cons_of_mem _ ?_ | refine List.mem_append_right _ ?_))))); (rcases List.mem_cons.mp hp9 with rfl | hp9; (focus (k_dflt (repeat (first | exact List.mem_cons_self | refine List.mem_cons_of_mem _ ?_ | refine List.mem_append_right _ ?_))))); (rcases List.mem_cons.mp hp9 with rfl | hp9; (focus (k_dflt (repeat (first | exact List.mem_cons_self | refine List.mem_cons_of_mem _ ?_ | refine List.mem_append_right _ ?_))))); (focus (repeat (first | assumption | exact List.mem_append_left _ (by assumption) | refine List.mem_cons_of_mem _ ?_ | refine List.mem_append_right _ ?_)))))
  case Tg41 => k_asm
  case hng41 => exact ⟨P28, (by assumption)⟩
  case hklg41 => (first | assumption | omega)
  case hdlg41 => (first | assumption | omega)
  case mCg41 => exact List.mem_cons_of_mem _ mC
  case hTg41 => exact hTab
  case dCg41 => exact dC
  case sCg41 => exact sC
  case C30g41 => k_dflt assumption
  case C18g41 => k_dflt assumption
  case hkg41 => exact rfl
  case hdg41 => exact Nat.le_of_ble_eq_true rfl
  case hug41 => exact Nat.le_of_ble_eq_true rfl
  intro f11 led11 h11 tk11 hM11 hF11 hO11 hNT F11 Nx
  have N11 := step_ledQ (extra := [_, _]) Nx
  clear Nx
  have hl9 := led_off N11 (by k_mem) (fun p hp => List.mem_cons_of_mem _ (List.mem_cons_of_mem _ (List.mem_cons_of_mem _ (List.mem_append_left _ hp)))) hNT
  obtain ⟨R11, eR, sl, sr, ho11, hf11⟩ := fold_ledN led11 R10 hO11 (by assumption) P9 hl9 (by assumption)
  rw [eR] at N11
  have K11 : GoodC w P9 R11 f11 _ := ⟨led11, hM11, hF11, sl⟩
  clear hM11 hF11 hO11 hNT hl9 eR sl
  replace G1 := G1.more sr
  replace G2 := G2.more sr
  replace G3 := G3.more sr
  replace G4 := G4.more sr
  replace G5 := G5.more sr
  replace G6 := G6.more sr
  replace G7 := G7.more sr
  replace G8 := G8.more sr
  replace Q8 := CodeOf.more Q8 sr
  replace K9 := K9.more sr
  replace K10 := K10.more sr
  replace mD := sr _ mD
  clear sr
  (repeat (first | (k_unfold; (try dsimp only)) | ((fail_if_success (focus (with_reducible show wpAny _ _ (call (Value.ref _) _) _ _ _))); (fail_if_success (focus (with_reducible show wpAny _ _ (exec (Stmt.For _ _ _ _ _) _) _ _ _))); (first | walk1 | (dsimp only; walk1)))))
  k_dflt (refine' mkephT w ((P9, tabObj #[]) :: R11) _ #[] ?hng42 _ _ _ _ _ _ ?qBg42 _ _ _ _ _ _ _ _ _ _ _ _ _ _ _ _ _ _ _ _ _ _ ?Bg42 ?Fg42 ?Xg42 ?Ng42 ?Tg42 ?C30g42 ?C18g42 ?hkg42 ?hdg42 ?hug42 ?hretg42)
  case Bg42 => k_asm
  case Fg42 => k_asm
  case Xg42 => k_asm
  case Ng42 => exact News.sub9 (l' := _ :: _ :: (P9, tabObj #[]) :: R11) (by assumption) (by (intro p9 hp9; (rcases List.mem_cons.mp hp9 with rfl | hp9; (focus (k_dflt (repeat (first | exact List.mem_cons_self | refine List.mem_cons_of_mem _ ?_ | refine List.mem_append_right _ ?_))))); (rcases List.mem_cons.mp hp9 with rfl | hp9; (focus (k_dflt (repeat (first | exact List.mem_cons_self | refine List.mem_cons_of_mem _ ?_ | refine List.mem_append_right _ ?_))))); (rcases List.mem_cons.mp hp9 with rfl | hp9; (focus (k_dflt (repeat (first | exact List.mem_cons_self | refine List.mem_cons_of_mem _ ?_ | refine List.mem_append_right _ ?_))))); (focus (repeat (first | assumption | exact List.mem_append_left _ (by assumption) | refine List.mem_cons_of_mem _ ?_ | refine List.mem_append_right _ ?_)))))
  case Tg42 => k_asm
  case hng42 => exact ⟨P28, (by assumption)⟩
  case qBg42 => exact CodeOf.more Q8 (fun p hp => List.mem_cons_of_mem _ hp)
  case C30g42 => k_dflt assumption
  case C18g42 => k_dflt assumption
  case hkg42 => exact rfl
  case hdg42 => exact Nat.le_of_ble_eq_true rfl
  case hug42 => exact Nat.le_of_ble_eq_true rfl
  intro f12 led12 h12 tk12 hM12 hF12 hO12 hNT F12 Nx
  have N12 := step_ledQ (extra := []) Nx
  clear Nx
  have hl9 := led_off N12 (by k_mem) (fun p hp => List.mem_cons_of_mem _ (List.mem_cons_of_mem _ (List.mem_cons_of_mem _ (List.mem_append_left _ hp)))) hNT
  obtain ⟨R12, eR, sl, sr, ho12, hf12⟩ := fold_ledN led12 R11 hO12 (by assumption) P9 hl9 (by assumption)
  rw [eR] at N12
  have G12 : Good w R12 f12 _ := ⟨led12, hM12, hF12, sl⟩
  clear hM12 hF12 hO12 hNT hl9 eR sl
  replace G1 := G1.more sr
  replace G2 := G2.more sr
  replace G3 := G3.more sr
  replace G4 := G4.more sr
  replace G5 := G5.more sr
  replace G6 := G6.more sr
  replace G7 := G7.more sr
  replace G8 := G8.more sr
  replace K9 := K9.more sr
  replace K10 := K10.more sr
  replace K11 := K11.more sr
  replace mD := sr _ mD
  clear sr
  (repeat (first | (k_unfold; (try dsimp only)) | ((fail_if_success (focus (with_reducible show wpAny _ _ (call (Value.ref _) _) _ _ _))); (fail_if_success (focus (with_reducible show wpAny _ _ (exec (Stmt.For _ _ _ _ _) _) _ _ _))); (first | walk1 | (dsimp only; walk1)))))
  k_dflt (refine wpAny_For ?_)
  (repeat (first | (k_unfold; (try dsimp only)) | ((fail_if_success (focus (with_reducible show wpAny _ _ (pyIter _) _ _ _))); (first | walk1 | (dsimp only; walk1)))))
  obtain ⟨R13, m28, m16, sr, hf13, N13⟩ := fold_tabs (by assumption) P28 (by assumption)
  replace G1 := G1.more sr
  replace G2 := G2.more sr
  replace G3 := G3.more sr
  replace G4 := G4.more sr
  replace G5 := G5.more sr
  replace G6 := G6.more sr
  replace G7 := G7.more sr
  replace G8 := G8.more sr
  replace G12 := G12.more sr
  replace K9 := K9.more sr
  replace K10 := K10.more sr
  replace K11 := K11.more sr
  replace mD := sr _ mD
  clear sr
  k_dflt (refine' for_law (Str.ofString "second") (Str.ofString "first") ?lhh ?lhr ?lF N13 ?lAB ?lturn ?lfin)
  case lF => k_asm
  case lhh => rfl
  case lhr => k_dflt assumption
  case lAB => exact AllBare.of_eq hg
  case lfin =>
    intro v91 v92 v93 ps9 s9 hos9 hAB9 F9 N9
    (repeat (first | (k_unfold; (try dsimp only)) | ((fail_if_success (focus (with_reducible show wpAny _ _ (call (Value.ref _) _) _ _ _))); (first | walk1 | (dsimp only; walk1)))))
    exact ⟨rfl, Fr.keep (by assumption), hos9, hAB9, ⟨_, (N9 _ (List.mem_cons_of_mem _ m28)).1⟩, ⟨_, (N9 _ (List.mem_cons_of_mem _ m16)).1⟩, trivial⟩
  intro i9 hi9 I9 oI9 sv1 sv2 sv3 ps0 s9 tk9 hNI hGps0 hos9 hAB9 F9 N9
  (repeat (first | (k_unfold; (try dsimp only)) | ((fail_if_success (focus (with_reducible show wpAny _ _ (call (Value.ref _) _) _ _ _))); (first | walk1 | (dsimp only; walk1)))))
  k_dflt (refine' row_does w _ _ _ _ _ _ _ _ _ _ _ _ _ _ _ _ _ _ _ _ _ _ _ _ _ ?Bg4 ?Fg4 ?Xg4 ?Ng4 ?Tg4 ?hkg4 ?hdg4 ?hug4 ?hretg4)
  case Bg4 => k_asm
  case Fg4 => k_asm
  case Xg4 => k_asm
  case Ng4 => k_asm
  case Tg4 => k_asm
  case hkg4 => exact rfl
  case hdg4 => exact Nat.le_of_ble_eq_true rfl
  case hug4 => exact Nat.le_of_ble_eq_true rfl
  intro d1 o1 DD1 h9 tk9 hr1 F9 N9
  (repeat (first | (k_unfold; (try dsimp only)) | ((fail_if_success (focus (with_reducible show wpAny _ _ (call (Value.ref _) _) _ _ _))); (first | walk1 | (dsimp only; walk1)))))
  k_dflt (refine' row_does w _ _ _ _ _ _ _ _ _ _ _ _ _ _ _ _ _ _ _ _ _ _ _ _ _ ?Bg6 ?Fg6 ?Xg6 ?Ng6 ?Tg6 ?hkg6 ?hdg6 ?hug6 ?hretg6)
  case Bg6 => k_asm
  case Fg6 => k_asm
  case Xg6 => k_asm
  case Ng6 => k_asm
  case Tg6 => k_asm
  case hkg6 => exact rfl
  case hdg6 => exact Nat.le_of_ble_eq_true rfl
  case hug6 => exact Nat.le_of_ble_eq_true rfl
  intro d2 o2 DD2 h9 tk9 hr2 F9 N9
  have hR1 : RowAt w ((d2, o2) :: (d1, o1) :: (I9, oI9) :: R13) d1 DD1 := RowAt.more hr1 (by intro p9 hp9; obtain rfl := List.mem_singleton.mp hp9; (focus (k_dflt (repeat (first | exact List.mem_cons_self | refine List.mem_cons_of_mem _ ?_ | refine List.mem_append_right _ ?_)))))
  have hR2 : RowAt w ((d2, o2) :: (d1, o1) :: (I9, oI9) :: R13) d2 DD2 := RowAt.more hr2 (by intro p9 hp9; obtain rfl := List.mem_singleton.mp hp9; (focus (k_dflt (repeat (first | exact List.mem_cons_self | refine List.mem_cons_of_mem _ ?_ | refine List.mem_append_right _ ?_)))))
  have NC := News.sub9 (l' := ((P9, tabObj ps0) :: ((d2, o2) :: (d1, o1) :: (I9, oI9) :: R13))) N9 (by (intro p9 hp9; (rcases List.mem_cons.mp hp9 with rfl | hp9; (focus (k_dflt (repeat (first | exact List.mem_cons_self | refine List.mem_cons_of_mem _ ?_ | refine List.mem_append_right _ ?_))))); (rcases List.mem_cons.mp hp9 with rfl | hp9; (focus (k_dflt (repeat (first | exact List.mem_cons_self | refine List.mem_cons_of_mem _ ?_ | refine List.mem_append_right _ ?_))))); (rcases List.mem_cons.mp hp9 with rfl | hp9; (focus (k_dflt (repeat (first | exact List.mem_cons_self | refine List.mem_cons_of_mem _ ?_ | refine List.mem_append_right _ ?_))))); (rcases List.mem_cons.mp hp9 with rfl | hp9; (focus (k_dflt (repeat (first | exact List.mem_cons_self | refine List.mem_cons_of_mem _ ?_ | refine List.mem_append_right _ ?_))))); (focus (repeat (first | assumption | exact List.mem_append_left _ (by assumption) | refine List.mem_cons_of_mem _ ?_ | refine List.mem_append_right _ ?_)))))
  have hoffC := canon_off NC hGps0 hr1 hr2 hNI hf13
  clear N9
  (repeat (first | (k_unfold; (try dsimp only)) | ((fail_if_success (focus (with_reducible show wpAny _ _ (call (Value.ref _) _) _ _ _))); (first | walk1 | (dsimp only; walk1)))))
  k_dflt (refine' Good.call (news := ((P9, tabObj ps0) :: ((d2, o2) :: (d1, o1) :: (I9, oI9) :: R13))) G1 (by intro p9 hp9; (focus (repeat (first | assumption | exact List.mem_append_left _ (by assumption) | refine List.mem_cons_of_mem _ ?_ | refine List.mem_append_right _ ?_)))) (RowAt.more hR1 (by intro p9 hp9; (focus (repeat (first | assumption | exact List.mem_append_left _ (by assumption) | refine List.mem_cons_of_mem _ ?_ | refine List.mem_append_right _ ?_))))) (RowAt.more hR2 (by intro p9 hp9; (focus (repeat (first | assumption | exact List.mem_append_left _ (by assumption) | refine List.mem_cons_of_mem _ ?_ | refine List.mem_append_right _ ?_))))) _ _ _ _ _ _ _ _ _ _ _ _ _ _ _ _ _ _ _ _ _ _ ?Bg7 ?Fg7 ?Xg7 ?Ng7 ?Tg7 ?C30g7 ?C18g7 ?hkg7 ?hdg7 ?hug7 ?hretg7)
  case Bg7 => k_asm
  case Fg7 => k_asm
  case Xg7 => k_asm
  case Ng7 => exact News.sub9 (l' := ((P9, tabObj ps0) :: ((d2, o2) :: (d1, o1) :: (I9, oI9) :: R13))) (by assumption) (by (intro p9 hp9; (rcases List.mem_cons.mp hp9 with rfl | hp9; (focus (k_dflt (repeat (first | exact List.mem_cons_self | refine List.mem_cons_of_mem _ ?_ | refine List.mem_append_right _ ?_))))); (rcases List.mem_cons.mp hp9 with rfl | hp9; (focus (k_dflt (repeat (first | exact List.mem_cons_self | refine List.mem_cons_of_mem _ ?_ | refine List.mem_append_right _ ?_))))); (rcases List.mem_cons.mp hp9 with rfl | hp9; (focus (k_dflt (repeat (first | exact List.mem_cons_self | refine List.mem_cons_of_mem _ ?_ | refine List.mem_append_right _ ?_))))); (rcases List.mem_cons.mp hp9 with rfl | hp9; (focus (k_dflt (repeat (first | exact List.mem_cons_self | refine List.mem_cons_of_mem _ ?_ | refine List.mem_append_right _ ?_))))); (focus (repeat (first | assumption | exact List.mem_append_left _ (by assumption) | refine List.mem_cons_of_mem _ ?_ | refine List.mem_append_right _ ?_)))))
  case Tg7 => k_asm
  case C30g7 => k_dflt assumption
  case C18g7 => k_dflt assumption
  case hkg7 => exact rfl
  case hdg7 => exact Nat.le_of_ble_eq_true rfl
  case hug7 => exact Nat.le_of_ble_eq_true rfl
  intro r9 h9 tk9 hP9 F9 N9
  subst hP9
  (repeat (first | (k_unfold; (try dsimp only)) | ((fail_if_success (focus (with_reducible show wpAny _ _ (call (Value.ref _) _) _ _ _))); (first | walk1 | (dsimp only; walk1)))))
  k_dflt (refine' all1_does w ((P9, tabObj ps0) :: ((d2, o2) :: (d1, o1) :: (I9, oI9) :: R13)) _ _ _ _ (RowAt.more hR1 (by intro p9 hp9; (focus (repeat (first | assumption | exact List.mem_append_left _ (by assumption) | refine List.mem_cons_of_mem _ ?_ | refine List.mem_append_right _ ?_))))) (RowAt.more hR2 (by intro p9 hp9; (focus (repeat (first | assumption | exact List.mem_append_left _ (by assumption) | refine List.mem_cons_of_mem _ ?_ | refine List.mem_append_right _ ?_))))) _ _ _ _ _ _ _ _ _ _ _ _ _ _ _ _ _ _ _ _ _ _ _ _ _ _ _ _ _ _ _ ?Bg8 ?Fg8 ?Xg8 ?Ng8 ?Tg8 ?hkg8 ?hdg8 ?hug8 ?hretg8)
  case Bg8 => k_asm
  case Fg8 => k_asm
  case Xg8 => k_asm
  case Ng8 => exact News.sub9 (l' := _ :: _ :: _ :: ((P9, tabObj ps0) :: ((d2, o2) :: (d1, o1) :: (I9, oI9) :: R13))) (by assumption) (by (intro p9 hp9; (rcases List.mem_cons.mp hp9 with rfl | hp9; (focus (k_dflt (repeat (first | exact List.mem_cons_self | refine List.mem_cons_of_mem _ ?_ | refine List.mem_append_right _ ?_))))); (rcases List.mem_cons.mp hp9 with rfl | hp9; (focus (k_dflt (repeat (first | exact List.mem_cons_self | refine List.mem_cons_of_mem _ ?_ | refine List.mem_append_right _ ?_))))); (rcases List.mem_cons.mp hp9 with rfl | hp9; (focus (k_dflt (repeat (first | exact List.mem_cons_self | refine List.mem_cons_of_mem _ ?_ | refine List.mem_append_right _ ?_))))); (rcases List.mem_cons.mp hp9 with rfl | hp9; (focus (k_dflt (repeat (first | exact List.mem_cons_self | refine List.mem_cons_of_mem _ ?_ | refine List.mem_append_right _ ?_))))); (rcases List.mem_cons.mp hp9 with rfl | hp9; (focus (k_dflt (repeat (first | exact List.mem_cons_self | refine List.mem_cons_of_mem _ ?_ | refine List.mem_append_right _ ?_))))); (rcases List.mem_cons.mp hp9 with rfl | hp9; (focus (k_dflt (repeat (first | exact List.mem_cons_self | refine List.mem_cons_of_mem _ ?_ | refine List.mem_append_right _ ?_))))); (rcases List.mem_cons.mp hp9 with rfl | hp9; (focus (k_dflt (repeat (first | exact List.mem_cons_self | refine List.mem_cons_of_mem _ ?_ | refine List.mem_append_right _ ?_))))); (focus (repeat (first | assumption | exact List.mem_append_left _ (by assumption) | refine List.mem_cons_of_mem _ ?_ | refine List.mem_append_right _ ?_)))))
  case Tg8 => k_asm
  case hkg8 => exact rfl
  case hdg8 => exact Nat.le_of_ble_eq_true rfl
  case hug8 => exact Nat.le_of_ble_eq_true rfl
  intro r9 h9 tk9 hP9 F9 N9
  subst hP9
  (repeat (first | (k_unfold; (try dsimp only)) | ((fail_if_success (focus (with_reducible show wpAny _ _ (call (Value.ref _) _) _ _ _))); (first | walk1 | (dsimp only; walk1)))))
  k_dflt (refine' Good.call (news := ((P9, tabObj ps0) :: ((d2, o2) :: (d1, o1) :: (I9, oI9) :: R13))) G2 (by intro p9 hp9; (focus (repeat (first | assumption | exact List.mem_append_left _ (by assumption) | refine List.mem_cons_of_mem _ ?_ | refine List.mem_append_right _ ?_)))) (RowAt.more hR1 (by intro p9 hp9; (focus (repeat (first | assumption | exact List.mem_append_left _ (by assumption) | refine List.mem_cons_of_mem _ ?_ | refine List.mem_append_right _ ?_))))) (RowAt.more hR2 (by intro p9 hp9; (focus (repeat (first | assumption | exact List.mem_append_left _ (by assumption) | refine List.mem_cons_of_mem _ ?_ | refine List.mem_append_right _ ?_))))) _ _ _ _ _ _ _ _ _ _ _ _ _ _ _ _ _ _ _ _ _ _ ?Bg9 ?Fg9 ?Xg9 ?Ng9 ?Tg9 ?C30g9 ?C18g9 ?hkg9 ?hdg9 ?hug9 ?hretg9)
  case Bg9 => k_asm
  case Fg9 => k_asm
  case Xg9 => k_asm
  case Ng9 => exact News.sub9 (l' := ((P9, tabObj ps0) :: ((d2, o2) :: (d1, o1) :: (I9, oI9) :: R13))) (by assumption) (by (intro p9 hp9; (rcases List.mem_cons.mp hp9 with rfl | hp9; (focus (k_dflt (repeat (first | exact List.mem_cons_self | refine List.mem_cons_of_mem _ ?_ | refine List.mem_append_right _ ?_))))); (rcases List.mem_cons.mp hp9 with rfl | hp9; (focus (k_dflt (repeat (first | exact List.mem_cons_self | refine List.mem_cons_of_mem _ ?_ | refine List.mem_append_right _ ?_))))); (rcases List.mem_cons.mp hp9 with rfl | hp9; (focus (k_dflt (repeat (first | exact List.mem_cons_self | refine List.mem_cons_of_mem _ ?_ | refine List.mem_append_right _ ?_))))); (rcases List.mem_cons.mp hp9 with rfl | hp9; (focus (k_dflt (repeat (first | exact List.mem_cons_self | refine List.mem_cons_of_mem _ ?_ | refine List.mem_append_right _ ?_))))); (focus (repeat (first | assumption | exact List.mem_append_left _ (by assumption) | refine List.mem_cons_of_mem _ ?_ | refine List.mem_append_right _ ?_)))))
  case Tg9 => k_asm
  case C30g9 => k_dflt assumption
  case C18g9 => k_dflt assumption
  case hkg9 => exact rfl
  case hdg9 => exact Nat.le_of_ble_eq_true rfl
  case hug9 => exact Nat.le_of_ble_eq_true rfl
  intro r9 h9 tk9 hP9 F9 N9
  subst hP9
  (repeat (first | (k_unfold; (try dsimp only)) | ((fail_if_success (focus (with_reducible show wpAny _ _ (call (Value.ref _) _) _ _ _))); (first | walk1 | (dsimp only; walk1)))))
  k_dflt (refine' all2_does w ((P9, tabObj ps0) :: ((d2, o2) :: (d1, o1) :: (I9, oI9) :: R13)) _ _ _ _ (RowAt.more hR1 (by intro p9 hp9; (focus (repeat (first | assumption | exact List.mem_append_left _ (by assumption) | refine List.mem_cons_of_mem _ ?_ | refine List.mem_append_right _ ?_))))) (RowAt.more hR2 (by intro p9 hp9; (focus (repeat (first | assumption | exact List.mem_append_left _ (by assumption) | refine List.mem_cons_of_mem _ ?_ | refine List.mem_append_right _ ?_))))) _ _ _ _ _ _ _ _ _ _ _ _ _ _ _ _ _ _ _ _ _ _ _ _ _ _ _ _ _ _ _ _ _ _ _ _ _ ?Bg10 ?Fg10 ?Xg10 ?Ng10 ?Tg10 ?hkg10 ?hdg10 ?hug10 ?hretg10)
  case Bg10 => k_asm
  case Fg10 => k_asm
  case Xg10 => k_asm
  case Ng10 => exact News.sub9 (l' := _ :: _ :: _ :: ((P9, tabObj ps0) :: ((d2, o2) :: (d1, o1) :: (I9, oI9) :: R13))) (by assumption) (by (intro p9 hp9; (rcases List.mem_cons.mp hp9 with rfl | hp9; (focus (k_dflt (repeat (first | exact List.mem_cons_self | refine List.mem_cons_of_mem _ ?_ | refine List.mem_append_right _ ?_))))); (rcases List.mem_cons.mp hp9 with rfl | hp9; (focus (k_dflt (repeat (first | exact List.mem_cons_self | refine List.mem_cons_of_mem _ ?_ | refine List.mem_append_right _ ?_))))); (rcases List.mem_cons.mp hp9 with rfl | hp9; (focus (k_dflt (repeat (first | exact List.mem_cons_self | refine List.mem_cons_of_mem _ ?_ | refine List.mem_append_right _ ?_))))); (rcases List.mem_cons.mp hp9 with rfl | hp9; (focus (k_dflt (repeat (first | exact List.mem_cons_self | refine List.mem_cons_of_mem _ ?_ | refine List.mem_append_right _ ?_))))); (rcases List.mem_cons.mp hp9 with rfl | hp9; (focus (k_dflt (repeat (first | exact List.mem_cons_self | refine List.mem_cons_of_mem _ ?_ | refine List.mem_append_right _ ?_))))); (rcases List.mem_cons.mp hp9 with rfl | hp9; (focus (k_dflt (repeat (first | exact List.mem_cons_self | refine List.mem_cons_of_mem _ ?_ | refine List.mem_append_right _ ?_))))); (rcases List.mem_cons.mp hp9 with rfl | hp9; (focus (k_dflt (repeat (first | exact List.mem_cons_self | refine List.mem_cons_of_mem _ ?_ | refine List.mem_append_right _ ?_))))); (focus (repeat (first | assumption | exact List.mem_append_left _ (by assumption) | refine List.mem_cons_of_mem _ ?_ | refine List.mem_append_right _ ?_)))))
  case Tg10 => k_asm
  case hkg10 => exact rfl
  case hdg10 => exact Nat.le_of_ble_eq_true rfl
  case hug10 => exact Nat.le_of_ble_eq_true rfl
  intro r9 h9 tk9 hP9 F9 N9
  subst hP9
  (repeat (first | (k_unfold; (try dsimp only)) | ((fail_if_success (focus (with_reducible show wpAny _ _ (call (Value.ref _) _) _ _ _))); (first | walk1 | (dsimp only; walk1)))))
  k_dflt (refine' Good.call (news := ((P9, tabObj ps0) :: ((d2, o2) :: (d1, o1) :: (I9, oI9) :: R13))) G3 (by intro p9 hp9; (focus (repeat (first | assumption | exact List.mem_append_left _ (by assumption) | refine List.mem_cons_of_mem _ ?_ | refine List.mem_append_right _ ?_)))) (RowAt.more hR1 (by intro p9 hp9; (focus (repeat (first | assumption | exact List.mem_append_left _ (by assumption) | refine List.mem_cons_of_mem _ ?_ | refine List.mem_append_right _ ?_))))) (RowAt.more hR2 (by intro p9 hp9; (focus (repeat (first | assumption | exact List.mem_append_left _ (by assumption) | refine List.mem_cons_of_mem _ ?_ | refine List.mem_append_right _ ?_))))) _ _ _ _ _ _ _ _ _ _ _ _ _ _ _ _ _ _ _ _ _ _ ?Bg11 ?Fg11 ?Xg11 ?Ng11 ?Tg11 ?C30g11 ?C18g11 ?hkg11 ?hdg11 ?hug11 ?hretg11)
  case Bg11 => k_asm
  case Fg11 => k_asm
  case Xg11 => k_asm
  case Ng11 => exact News.sub9 (l' := ((P9, tabObj ps0) :: ((d2, o2) :: (d1, o1) :: (I9, oI9) :: R13))) (by assumption) (by (intro p9 hp9; (rcases List.mem_cons.mp hp9 with rfl | hp9; (focus (k_dflt (repeat (first | exact List.mem_cons_self | refine List.mem_cons_of_mem _ ?_ | refine List.mem_append_right _ ?_))))); (rcases List.mem_cons.mp hp9 with rfl | hp9; (focus (k_dflt (repeat (first | exact List.mem_cons_self | refine List.mem_cons_of_mem _ ?_ | refine List.mem_append_right _ ?_))))); (rcases List.mem_cons.mp hp9 with rfl | hp9; (focus (k_dflt (repeat (first | exact List.mem_cons_self | refine List.mem_cons_of_mem _ ?_ | refine List.mem_append_right _ ?_))))); (rcases List.mem_cons.mp hp9 with rfl | hp9; (focus (k_dflt (repeat (first | exact List.mem_cons_self | refine List.mem_cons_of_mem _ ?_ | refine List.mem_append_right _ ?_))))); (focus (repeat (first | assumption | exact List.mem_append_left _ (by assumption) | refine List.mem_cons_of_mem _ ?_ | refine List.mem_append_right _ ?_)))))
  case Tg11 => k_asm
  case C30g11 => k_dflt assumption
  case C18g11 => k_dflt assumption
  case hkg11 => exact rfl
  case hdg11 => exact Nat.le_of_ble_eq_true rfl
  case hug11 => exact Nat.le_of_ble_eq_true rfl
  intro r9 h9 tk9 hP9 F9 N9
  subst hP9
  (repeat (first | (k_unfold; (try dsimp only)) | ((fail_if_success (focus (with_reducible show wpAny _ _ (call (Value.ref _) _) _ _ _))); (first | walk1 | (dsimp only; walk1)))))
  k_dflt (refine' all2_does w ((P9, tabObj ps0) :: ((d2, o2) :: (d1, o1) :: (I9, oI9) :: R13)) _ _ _ _ (RowAt.more hR1 (by intro p9 hp9; (focus (repeat (first | assumption | exact List.mem_append_left _ (by assumption) | refine List.mem_cons_of_mem _ ?_ | refine List.mem_append_right _ ?_))))) (RowAt.more hR2 (by intro p9 hp9; (focus (repeat (first | assumption | exact List.mem_append_left _ (by assumption) | refine List.mem_cons_of_mem _ ?_ | refine List.mem_append_right _ ?_))))) _ _ _ _ _ _ _ _ _ _ _ _ _ _ _ _ _ _ _ _ _ _ _ _ _ _ _ _ _ _ _ _ _ _ _ _ _ ?Bg12 ?Fg12 ?Xg12 ?Ng12 ?Tg12 ?hkg12 ?hdg12 ?hug12 ?hretg12)
  case Bg12 => k_asm
  case Fg12 => k_asm
  case Xg12 => k_asm
  case Ng12 => exact News.sub9 (l' := _ :: _ :: _ :: ((P9, tabObj ps0) :: ((d2, o2) :: (d1, o1) :: (I9, oI9) :: R13))) (by assumption) (by (intro p9 hp9; (rcases List.mem_cons.mp hp9 with rfl | hp9; (focus (k_dflt (repeat (first | exact List.mem_cons_self | refine List.mem_cons_of_mem _ ?_ | refine List.mem_append_right _ ?_))))); (rcases List.mem_cons.mp hp9 with rfl | hp9; (focus (k_dflt (repeat (first | exact List.mem_cons_self | refine List.mem_cons_of_mem _ ?_ | refine List.mem_append_right _ ?_))))); (rcases List.mem_cons.mp hp9 with rfl | hp9; (focus (k_dflt (repeat (first | exact List.mem_cons_self | refine List.mem_cons_of_mem _ ?_ | refine List.mem_append_right _ ?_))))); (rcases List.mem_cons.mp hp9 with rfl | hp9; (focus (k_dflt (repeat (first | exact List.mem_cons_self | refine List.mem_cons_of_mem _ ?_ | refine List.mem_append_right _ ?_))))); (rcases List.mem_cons.mp hp9 with rfl | hp9; (focus (k_dflt (repeat (first | exact List.mem_cons_self | refine List.mem_cons_of_mem _ ?_ | refine List.mem_append_right _ ?_))))); (rcases List.mem_cons.mp hp9 with rfl | hp9; (focus (k_dflt (repeat (first | exact List.mem_cons_self | refine List.mem_cons_of_mem _ ?_ | refine List.mem_append_right _ ?_))))); (rcases List.mem_cons.mp hp9 with rfl | hp9; (focus (k_dflt (repeat (first | exact List.mem_cons_self | refine List.mem_cons_of_mem _ ?_ | refine List.mem_append_right _ ?_))))); (focus (repeat (first | assumption | exact List.mem_append_left _ (by assumption) | refine List.mem_cons_of_mem _ ?_ | refine List.mem_append_right _ ?_)))))
  case Tg12 => k_asm
  case hkg12 => exact rfl
  case hdg12 => exact Nat.le_of_ble_eq_true rfl
  case hug12 => exact Nat.le_of_ble_eq_true rfl
  intro r9 h9 tk9 hP9 F9 N9
  subst hP9
  (repeat (first | (k_unfold; (try dsimp only)) | ((fail_if_success (focus (with_reducible show wpAny _ _ (call (Value.ref _) _) _ _ _))); (first | walk1 | (dsimp only; walk1)))))
  k_dflt (refine' Good.call (news := ((P9, tabObj ps0) :: ((d2, o2) :: (d1, o1) :: (I9, oI9) :: R13))) G4 (by intro p9 hp9; (focus (repeat (first | assumption | exact List.mem_append_left _ (by assumption) | refine List.mem_cons_of_mem _ ?_ | refine List.mem_append_right _ ?_)))) (RowAt.more hR1 (by intro p9 hp9; (focus (repeat (first | assumption | exact List.mem_append_left _ (by assumption) | refine List.mem_cons_of_mem _ ?_ | refine List.mem_append_right _ ?_))))) (RowAt.more hR2 (by intro p9 hp9; (focus (repeat (first | assumption | exact List.mem_append_left _ (by assumption) | refine List.mem_cons_of_mem _ ?_ | refine List.mem_append_right _ ?_))))) _ _ _ _ _ _ _ _ _ _ _ _ _ _ _ _ _ _ _ _ _ _ ?Bg13 ?Fg13 ?Xg13 ?Ng13 ?Tg13 ?C30g13 ?C18g13 ?hkg13 ?hdg13 ?hug13 ?hretg13)
  case Bg13 => k_asm
  case Fg13 => k_asm
  case Xg13 => k_asm
  case Ng13 => exact News.sub9 (l' := ((P9, tabObj ps0) :: ((d2, o2) :: (d1, o1) :: (I9, oI9) :: R13))) (by assumption) (by (intro p9 hp9; (rcases List.mem_cons.mp hp9 with rfl | hp9; (focus (k_dflt (repeat (first | exact List.mem_cons_self | refine List.mem_cons_of_mem _ ?_ | refine List.mem_append_right _ ?_))))); (rcases List.mem_cons.mp hp9 with rfl | hp9; (focus (k_dflt (repeat (first | exact List.mem_cons_self | refine List.mem_cons_of_mem _ ?_ | refine List.mem_append_right _ ?_))))); (rcases List.mem_cons.mp hp9 with rfl | hp9; (focus (k_dflt (repeat (first | exact List.mem_cons_self | refine List.mem_cons_of_mem _ ?_ | refine List.mem_append_right _ ?_))))); (rcases List.mem_cons.mp hp9 with rfl | hp9; (focus (k_dflt (repeat (first | exact List.mem_cons_self | refine List.mem_cons_of_mem _ ?_ | refine List.mem_append_right _ ?_))))); (focus (repeat (first | assumption | exact List.mem_append_left _ (by assumption) | refine List.mem_cons_of_mem _ ?_ | refine List.mem_append_right _ ?_)))))
  case Tg13 => k_asm
  case C30g13 => k_dflt assumption
  case C18g13 => k_dflt assumption
  case hkg13 => exact rfl
  case hdg13 => exact Nat.le_of_ble_eq_true rfl
  case hug13 => exact Nat.le_of_ble_eq_true rfl
  intro r9 h9 tk9 hP9 F9 N9
  subst hP9
  (repeat (first | (k_unfold; (try dsimp only)) | ((fail_if_success (focus (with_reducible show wpAny _ _ (call (Value.ref _) _) _ _ _))); (first | walk1 | (dsimp only; walk1)))))
  k_dflt (refine' all2_does w ((P9, tabObj ps0) :: ((d2, o2) :: (d1, o1) :: (I9, oI9) :: R13)) _ _ _ _ (RowAt.more hR1 (by intro p9 hp9; (focus (repeat (first | assumption | exact List.mem_append_left _ (by assumption) | refine List.mem_cons_of_mem _ ?_ | refine List.mem_append_right _ ?_))))) (RowAt.more hR2 (by intro p9 hp9; (focus (repeat (first | assumption | exact List.mem_append_left _ (by assumption) | refine List.mem_cons_of_mem _ ?_ | refine List.mem_append_right _ ?_))))) _ _ _ _ _ _ _ _ _ _ _ _ _ _ _ _ _ _ _ _ _ _ _ _ _ _ _ _ _ _ _ _ _ _ _ _ _ ?Bg14 ?Fg14 ?Xg14 ?Ng14 ?Tg14 ?hkg14 ?hdg14 ?hug14 ?hretg14)
  case Bg14 => k_asm
  case Fg14 => k_asm
  case Xg14 => k_asm
  case Ng14 => exact News.sub9 (l' := _ :: _ :: _ :: ((P9, tabObj ps0) :: ((d2, o2) :: (d1, o1) :: (I9, oI9) :: R13))) (by assumption) (by (intro p9 hp9; (rcases List.mem_cons.mp hp9 with rfl | hp9; (focus (k_dflt (repeat (first | exact List.mem_cons_self | refine List.mem_cons_of_mem _ ?_ | refine List.mem_append_right _ ?_))))); (rcases List.mem_cons.mp hp9 with rfl | hp9; (focus (k_dflt (repeat (first | exact List.mem_cons_self | refine List.mem_cons_of_mem _ ?_ | refine List.mem_append_right _ ?_))))); (rcases List.mem_cons.mp hp9 with rfl | hp9; (focus (k_dflt (repeat (first | exact List.mem_cons_self | refine List.mem_cons_of_mem _ ?_ | refine List.mem_append_right _ ?_))))); (rcases List.mem_cons.mp hp9 with rfl | hp9; (focus (k_dflt (repeat (first | exact List.mem_cons_self | refine List.mem_cons_of_mem _ ?_ | refine List.mem_append_right _ ?_))))); (rcases List.mem_cons.mp hp9 with rfl | hp9; (focus (k_dflt (repeat (first | exact List.mem_cons_self | refine List.mem_cons_of_mem _ ?_ | refine List.mem_append_right _ ?_))))); (rcases List.mem_cons.mp hp9 with rfl | hp9; (focus (k_dflt (repeat (first | exact List.mem_cons_self | refine List.mem_cons_of_mem _ ?_ | refine List.mem_append_right _ ?_))))); (rcases List.mem_cons.mp hp9 with rfl | hp9; (focus (k_dflt (repeat (first | exact List.mem_cons_self | refine List.mem_cons_of_mem _ ?_ | refine List.mem_append_right _ ?_))))); (focus (repeat (first | assumption | exact List.mem_append_left _ (by assumption) | refine List.mem_cons_of_mem _ ?_ | refine List.mem_append_right _ ?_)))))
  case Tg14 => k_asm
  case hkg14 => exact rfl
  case hdg14 => exact Nat.le_of_ble_eq_true rfl
  case hug14 => exact Nat.le_of_ble_eq_true rfl
  intro r9 h9 tk9 hP9 F9 N9
  subst hP9
  (repeat (first | (k_unfold; (try dsimp only)) | ((fail_if_success (focus (with_reducible show wpAny _ _ (call (Value.ref _) _) _ _ _))); (first | walk1 | (dsimp only; walk1)))))
  k_dflt (refine' Good.call (news := ((P9, tabObj ps0) :: ((d2, o2) :: (d1, o1) :: (I9, oI9) :: R13))) G5 (by intro p9 hp9; (focus (repeat (first | assumption | exact List.mem_append_left _ (by assumption) | refine List.mem_cons_of_mem _ ?_ | refine List.mem_append_right _ ?_)))) (RowAt.more hR1 (by intro p9 hp9; (focus (repeat (first | assumption | exact List.mem_append_left _ (by assumption) | refine List.mem_cons_of_mem _ ?_ | refine List.mem_append_right _ ?_))))) (RowAt.more hR2 (by intro p9 hp9; (focus (repeat (first | assumption | exact List.mem_append_left _ (by assumption) | refine List.mem_cons_of_mem _ ?_ | refine List.mem_append_right _ ?_))))) _ _ _ _ _ _ _ _ _ _ _ _ _ _ _ _ _ _ _ _ _ _ ?Bg15 ?Fg15 ?Xg15 ?Ng15 ?Tg15 ?C30g15 ?C18g15 ?hkg15 ?hdg15 ?hug15 ?hretg15)
  case Bg15 => k_asm
  case Fg15 => k_asm
  case Xg15 => k_asm
  case Ng15 => exact News.sub9 (l' := ((P9, tabObj ps0) :: ((d2, o2) :: (d1, o1) :: (I9, oI9) :: R13))) (by assumption) (by (intro p9 hp9; (rcases List.mem_cons.mp hp9 with rfl | hp9; (focus (k_dflt (repeat (first | exact List.mem_cons_self | refine List.mem_cons_of_mem _ ?_ | refine List.mem_append_right _ ?_))))); (rcases List.mem_cons.mp hp9 with rfl | hp9; (focus (k_dflt (repeat (first | exact List.mem_cons_self | refine List.mem_cons_of_mem _ ?_ | refine List.mem_append_right _ ?_))))); (rcases List.mem_cons.mp hp9 with rfl | hp9; (focus (k_dflt (repeat (first | exact List.mem_cons_self | refine List.mem_cons_of_mem _ ?_ | refine List.mem_append_right _ ?_))))); (rcases List.mem_cons.mp hp9 with rfl | hp9; (focus (k_dflt (repeat (first | exact List.mem_cons_self | refine List.mem_cons_of_mem _ ?_ | refine List.mem_append_right _ ?_))))); (focus (repeat (first | assumption | exact List.mem_append_left _ (by assumption) | refine List.mem_cons_of_mem _ ?_ | refine List.mem_append_right _ ?_)))))
  case Tg15 => k_asm
  case C30g15 => k_dflt assumption
  case C18g15 => k_dflt assumption
  case hkg15 => exact rfl
  case hdg15 => exact Nat.le_of_ble_eq_true rfl
  case hug15 => exact Nat.le_of_ble_eq_true rfl
  intro r9 h9 tk9 hP9 F9 N9
  subst hP9
  (repeat (first | (k_unfold; (try dsimp only)) | ((fail_if_success (focus (with_reducible show wpAny _ _ (call (Value.ref _) _) _ _ _))); (first | walk1 | (dsimp only; walk1)))))
  k_dflt (refine' all2_does w ((P9, tabObj ps0) :: ((d2, o2) :: (d1, o1) :: (I9, oI9) :: R13)) _ _ _ _ (RowAt.more hR1 (by intro p9 hp9; (focus (repeat (first | assumption | exact List.mem_append_left _ (by assumption) | refine List.mem_cons_of_mem _ ?_ | refine List.mem_append_right _ ?_))))) (RowAt.more hR2 (by intro p9 hp9; (focus (repeat (first | assumption | exact List.mem_append_left _ (by assumption) | refine List.mem_cons_of_mem _ ?_ | refine List.mem_append_right _ ?_))))) _ _ _ _ _ _ _ _ _ _ _ _ _ _ _ _ _ _ _ _ _ _ _ _ _ _ _ _ _ _ _ _ _ _ _ _ _ ?Bg16 ?Fg16 ?Xg16 ?Ng16 ?Tg16 ?hkg16 ?hdg16 ?hug16 ?hretg16)
  case Bg16 => k_asm
  case Fg16 => k_asm
  case Xg16 => k_asm
  case Ng16 => exact News.sub9 (l' := _ :: _ :: _ :: ((P9, tabObj ps0) :: ((d2, o2) :: (d1, o1) :: (I9, oI9) :: R13))) (by assumption) (by (intro p9 hp9; (rcases List.mem_cons.mp hp9 with rfl | hp9; (focus (k_dflt (repeat (first | exact List.mem_cons_self | refine List.mem_cons_of_mem _ ?_ | refine List.mem_append_right _ ?_))))); (rcases List.mem_cons.mp hp9 with rfl | hp9; (focus (k_dflt (repeat (first | exact List.mem_cons_self | refine List.mem_cons_of_mem _ ?_ | refine List.mem_append_right _ ?_))))); (rcases List.mem_cons.mp hp9 with rfl | hp9; (focus (k_dflt (repeat (first | exact List.mem_cons_self | refine List.mem_cons_of_mem _ ?_ | refine List.mem_append_right _ ?_))))); (rcases List.mem_cons.mp hp9 with rfl | hp9; (focus (k_dflt (repeat (first | exact List.mem_cons_self | refine List.mem_cons_of_mem _ ?_ | refine List.mem_append_right _ ?_))))); (rcases List.mem_cons.mp hp9 with rfl | hp9; (focus (k_dflt (repeat (first | exact List.mem_cons_self | refine List.mem_cons_of_mem _ ?_ | refine List.mem_append_right _ ?_))))); (rcases List.mem_cons.mp hp9 with rfl | hp9; (focus (k_dflt (repeat (first | exact List.mem_cons_self | refine List.mem_cons_of_mem _ ?_ | refine List.mem_append_right _ ?_))))); (rcases List.mem_cons.mp hp9 with rfl | hp9; (focus (k_dflt (repeat (first | exact List.mem_cons_self | refine List.mem_cons_of_mem _ ?_ | refine List.mem_append_right _ ?_))))); (focus (repeat (first | assumption | exact List.mem_append_left _ (by assumption) | refine List.mem_cons_of_mem _ ?_ | refine List.mem_append_right _ ?_)))))
  case Tg16 => k_asm
  case hkg16 => exact rfl
  case hdg16 => exact Nat.le_of_ble_eq_true rfl
  case hug16 => exact Nat.le_of_ble_eq_true rfl
  intro r9 h9 tk9 hP9 F9 N9
  subst hP9
  (repeat (first | (k_unfold; (try dsimp only)) | ((fail_if_success (focus (with_reducible show wpAny _ _ (call (Value.ref _) _) _ _ _))); (first | walk1 | (dsimp only; walk1)))))
  k_dflt (refine' Good.call (news := ((P9, tabObj ps0) :: ((d2, o2) :: (d1, o1) :: (I9, oI9) :: R13))) G6 (by intro p9 hp9; (focus (repeat (first | assumption | exact List.mem_append_left _ (by assumption) | refine List.mem_cons_of_mem _ ?_ | refine List.mem_append_right _ ?_)))) (RowAt.more hR1 (by intro p9 hp9; (focus (repeat (first | assumption | exact List.mem_append_left _ (by assumption) | refine List.mem_cons_of_mem _ ?_ | refine List.mem_append_right _ ?_))))) (RowAt.more hR2 (by intro p9 hp9; (focus (repeat (first | assumption | exact List.mem_append_left _ (by assumption) | refine List.mem_cons_of_mem _ ?_ | refine List.mem_append_right _ ?_))))) _ _ _ _ _ _ _ _ _ _ _ _ _ _ _ _ _ _ _ _ _ _ ?Bg17 ?Fg17 ?Xg17 ?Ng17 ?Tg17 ?C30g17 ?C18g17 ?hkg17 ?hdg17 ?hug17 ?hretg17)
  case Bg17 => k_asm
  case Fg17 => k_asm
  case Xg17 => k_asm
  case Ng17 => exact News.sub9 (l' := ((P9, tabObj ps0) :: ((d2, o2) :: (d1, o1) :: (I9, oI9) :: R13))) (by assumption) (by (intro p9 hp9; (rcases List.mem_cons.mp hp9 with rfl | hp9; (focus (k_dflt (repeat (first | exact List.mem_cons_self | refine List.mem_cons_of_mem _ ?_ | refine List.mem_append_right _ ?_))))); (rcases List.mem_cons.mp hp9 with rfl | hp9; (focus (k_dflt (repeat (first | exact List.mem_cons_self | refine List.mem_cons_of_mem _ ?_ | refine List.mem_append_right _ ?_))))); (rcases List.mem_cons.mp hp9 with rfl | hp9; (focus (k_dflt (repeat (first | exact List.mem_cons_self | refine List.mem_cons_of_mem _ ?_ | refine List.mem_append_right _ ?_))))); (rcases List.mem_cons.mp hp9 with rfl | hp9; (focus (k_dflt (repeat (first | exact List.mem_cons_self | refine List.mem_cons_of_mem _ ?_ | refine List.mem_append_right _ ?_))))); (focus (repeat (first | assumption | exact List.mem_append_left _ (by assumption) | refine List.mem_cons_of_mem _ ?_ | refine List.mem_append_right _ ?_)))))
  case Tg17 => k_asm
  case C30g17 => k_dflt assumption
  case C18g17 => k_dflt assumption
  case hkg17 => exact rfl
  case hdg17 => exact Nat.le_of_ble_eq_true rfl
  case hug17 => exact Nat.le_of_ble_eq_true rfl
  intro r9 h9 tk9 hP9 F9 N9
  subst hP9
  (repeat (first | (k_unfold; (try dsimp only)) | ((fail_if_success (focus (with_reducible show wpAny _ _ (call (Value.ref _) _) _ _ _))); (first | walk1 | (dsimp only; walk1)))))
  k_dflt (refine' all2_does w ((P9, tabObj ps0) :: ((d2, o2) :: (d1, o1) :: (I9, oI9) :: R13)) _ _ _ _ (RowAt.more hR1 (by intro p9 hp9; (focus (repeat (first | assumption | exact List.mem_append_left _ (by assumption) | refine List.mem_cons_of_mem _ ?_ | refine List.mem_append_right _ ?_))))) (RowAt.more hR2 (by intro p9 hp9; (focus (repeat (first | assumption | exact List.mem_append_left _ (by assumption) | refine List.mem_cons_of_mem _ ?_ | refine List.mem_append_right _ ?_))))) _ _ _ _ _ _ _ _ _ _ _ _ _ _ _ _ _ _ _ _ _ _ _ _ _ _ _ _ _ _ _ _ _ _ _ _ _ ?Bg18 ?Fg18 ?Xg18 ?Ng18 ?Tg18 ?hkg18 ?hdg18 ?hug18 ?hretg18)
  case Bg18 => k_asm
  case Fg18 => k_asm
  case Xg18 => k_asm
  case Ng18 => exact News.sub9 (l' := _ :: _ :: _ :: ((P9, tabObj ps0) :: ((d2, o2) :: (d1, o1) :: (I9, oI9) :: R13))) (by assumption) (by (intro p9 hp9; (rcases List.mem_cons.mp hp9 with rfl | hp9; (focus (k_dflt (repeat (first | exact List.mem_cons_self | refine List.mem_cons_of_mem _ ?_ | refine List.mem_append_right _ ?_))))); (rcases List.mem_cons.mp hp9 with rfl | hp9; (focus (k_dflt (repeat (first | exact List.mem_cons_self | refine List.mem_cons_of_mem _ ?_ | refine List.mem_append_right _ ?_))))); (rcases List.mem_cons.mp hp9 with rfl | hp9; (focus (k_dflt (repeat (first | exact List.mem_cons_self | refine List.mem_cons_of_mem _ ?_ | refine List.mem_append_right _ ?_))))); (rcases List.mem_cons.mp hp9 with rfl | hp9; (focus (k_dflt (repeat (first | exact List.mem_cons_self | refine List.mem_cons_of_mem _ ?_ | refine List.mem_append_right _ ?_))))); (rcases List.mem_cons.mp hp9 with rfl | hp9; (focus (k_dflt (repeat (first | exact List.mem_cons_self | refine List.mem_cons_of_mem _ ?_ | refine List.mem_append_right _ ?_))))); (rcases List.mem_cons.mp hp9 with rfl | hp9; (focus (k_dflt (repeat (first | exact List.mem_cons_self | refine List.mem_cons_of_mem _ ?_ | refine List.mem_append_right _ ?_))))); (rcases List.mem_cons.mp hp9 with rfl | hp9; (focus (k_dflt (repeat (first | exact List.mem_cons_self | refine List.mem_cons_of_mem _ ?_ | refine List.mem_append_right _ ?_))))); (focus (repeat (first | assumption | exact List.mem_append_left _ (by assumption) | refine List.mem_cons_of_mem _ ?_ | refine List.mem_append_right _ ?_)))))
  case Tg18 => k_asm
  case hkg18 => exact rfl
  case hdg18 => exact Nat.le_of_ble_eq_true rfl
  case hug18 => exact Nat.le_of_ble_eq_true rfl
  intro r9 h9 tk9 hP9 F9 N9
  subst hP9
  (repeat (first | (k_unfold; (try dsimp only)) | ((fail_if_success (focus (with_reducible show wpAny _ _ (call (Value.ref _) _) _ _ _))); (first | walk1 | (dsimp only; walk1)))))
  k_dflt (refine' Good.call (news := ((P9, tabObj ps0) :: ((d2, o2) :: (d1, o1) :: (I9, oI9) :: R13))) G7 (by intro p9 hp9; (focus (repeat (first | assumption | exact List.mem_append_left _ (by assumption) | refine List.mem_cons_of_mem _ ?_ | refine List.mem_append_right _ ?_)))) (RowAt.more hR1 (by intro p9 hp9; (focus (repeat (first | assumption | exact List.mem_append_left _ (by assumption) | refine List.mem_cons_of_mem _ ?_ | refine List.mem_append_right _ ?_))))) (RowAt.more hR2 (by intro p9 hp9; (focus (repeat (first | assumption | exact List.mem_append_left _ (by assumption) | refine List.mem_cons_of_mem _ ?_ | refine List.mem_append_right _ ?_))))) _ _ _ _ _ _ _ _ _ _ _ _ _ _ _ _ _ _ _ _ _ _ ?Bg19 ?Fg19 ?Xg19 ?Ng19 ?Tg19 ?C30g19 ?C18g19 ?hkg19 ?hdg19 ?hug19 ?hretg19)
  case Bg19 => k_asm
  case Fg19 => k_asm
  case Xg19 => k_asm
  case Ng19 => exact News.sub9 (l' := ((P9, tabObj ps0) :: ((d2, o2) :: (d1, o1) :: (I9, oI9) :: R13))) (by assumption) (by (intro p9 hp9; (rcases List.mem_cons.mp hp9 with rfl | hp9; (focus (k_dflt (repeat (first | exact List.mem_cons_self | refine List.mem_cons_of_mem _ ?_ | refine List.mem_append_right _ ?_))))); (rcases List.mem_cons.mp hp9 with rfl | hp9; (focus (k_dflt (repeat (first | exact List.mem_cons_self | refine List.mem_cons_of_mem _ ?_ | refine List.mem_append_right _ ?_))))); (rcases List.mem_cons.mp hp9 with rfl | hp9; (focus (k_dflt (repeat (first | exact List.mem_cons_self | refine List.mem_cons_of_mem _ ?_ | refine List.mem_append_right _ ?_))))); (rcases List.mem_cons.mp hp9 with rfl | hp9; (focus (k_dflt (repeat (first | exact List.mem_cons_self | refine List.mem_cons_of_mem _ ?_ | refine List.mem_append_right _ ?_))))); (focus (repeat (first | assumption | exact List.mem_append_left _ (by assumption) | refine List.mem_cons_of_mem _ ?_ | refine List.mem_append_right _ ?_)))))
  case Tg19 => k_asm
  case C30g19 => k_dflt assumption
  case C18g19 => k_dflt assumption
  case hkg19 => exact rfl
  case hdg19 => exact Nat.le_of_ble_eq_true rfl
  case hug19 => exact Nat.le_of_ble_eq_true rfl
  intro r9 h9 tk9 hP9 F9 N9
  subst hP9
  (repeat (first | (k_unfold; (try dsimp only)) | ((fail_if_success (focus (with_reducible show wpAny _ _ (call (Value.ref _) _) _ _ _))); (first | walk1 | (dsimp only; walk1)))))
  k_dflt (refine' all1_does w ((P9, tabObj ps0) :: ((d2, o2) :: (d1, o1) :: (I9, oI9) :: R13)) _ _ _ _ (RowAt.more hR1 (by intro p9 hp9; (focus (repeat (first | assumption | exact List.mem_append_left _ (by assumption) | refine List.mem_cons_of_mem _ ?_ | refine List.mem_append_right _ ?_))))) (RowAt.more hR2 (by intro p9 hp9; (focus (repeat (first | assumption | exact List.mem_append_left _ (by assumption) | refine List.mem_cons_of_mem _ ?_ | refine List.mem_append_right _ ?_))))) _ _ _ _ _ _ _ _ _ _ _ _ _ _ _ _ _ _ _ _ _ _ _ _ _ _ _ _ _ _ _ ?Bg20 ?Fg20 ?Xg20 ?Ng20 ?Tg20 ?hkg20 ?hdg20 ?hug20 ?hretg20)
  case Bg20 => k_asm
  case Fg20 => k_asm
  case Xg20 => k_asm
  case Ng20 => exact News.sub9 (l' := _ :: _ :: _ :: ((P9, tabObj ps0) :: ((d2, o2) :: (d1, o1) :: (I9, oI9) :: R13))) (by assumption) (by (intro p9 hp9; (rcases List.mem_cons.mp hp9 with rfl | hp9; (focus (k_dflt (repeat (first | exact List.mem_cons_self | refine List.mem_cons_of_mem _ ?_ | refine List.mem_append_right _ ?_))))); (rcases List.mem_cons.mp hp9 with rfl | hp9; (focus (k_dflt (repeat (first | exact List.mem_cons_self | refine List.mem_cons_of_mem _ ?_ | refine List.mem_append_right _ ?_))))); (rcases List.mem_cons.mp hp9 with rfl | hp9; (focus (k_dflt (repeat (first | exact List.mem_cons_self | refine List.mem_cons_of_mem _ ?_ | refine List.mem_append_right _ ?_))))); (rcases List.mem_cons.mp hp9 with rfl | hp9; (focus (k_dflt (repeat (first | exact List.mem_cons_self | refine List.mem_cons_of_mem _ ?_ | refine List.mem_append_right _ ?_))))); (rcases List.mem_cons.mp hp9 with rfl | hp9; (focus (k_dflt (repeat (first | exact List.mem_cons_self | refine List.mem_cons_of_mem _ ?_ | refine List.mem_append_right _ ?_))))); (rcases List.mem_cons.mp hp9 with rfl | hp9; (focus (k_dflt (repeat (first | exact List.mem_cons_self | refine List.mem_cons_of_mem _ ?_ | refine List.mem_append_right _ ?_))))); (rcases List.mem_cons.mp hp9 with rfl | hp9; (focus (k_dflt (repeat (first | exact List.mem_cons_self | refine List.mem_cons_of_mem _ ?_ | refine List.mem_append_right _ ?_))))); (focus (repeat (first | assumption | exact List.mem_append_left _ (by assumption) | refine List.mem_cons_of_mem _ ?_ | refine List.mem_append_right _ ?_)))))
  case Tg20 => k_asm
  case hkg20 => exact rfl
  case hdg20 => exact Nat.le_of_ble_eq_true rfl
  case hug20 => exact Nat.le_of_ble_eq_true rfl
  intro r9 h9 tk9 hP9 F9 N9
  subst hP9
  (repeat (first | (k_unfold; (try dsimp only)) | ((fail_if_success (focus (with_reducible show wpAny _ _ (call (Value.ref _) _) _ _ _))); (first | walk1 | (dsimp only; walk1)))))
  k_dflt (refine' Good.call (news := ((P9, tabObj ps0) :: ((d2, o2) :: (d1, o1) :: (I9, oI9) :: R13))) G8 (by intro p9 hp9; (focus (repeat (first | assumption | exact List.mem_append_left _ (by assumption) | refine List.mem_cons_of_mem _ ?_ | refine List.mem_append_right _ ?_)))) (RowAt.more hR1 (by intro p9 hp9; (focus (repeat (first | assumption | exact List.mem_append_left _ (by assumption) | refine List.mem_cons_of_mem _ ?_ | refine List.mem_append_right _ ?_))))) (RowAt.more hR2 (by intro p9 hp9; (focus (repeat (first | assumption | exact List.mem_append_left _ (by assumption) | refine List.mem_cons_of_mem _ ?_ | refine List.mem_append_right _ ?_))))) _ _ _ _ _ _ _ _ _ _ _ _ _ _ _ _ _ _ _ _ _ _ ?Bg21 ?Fg21 ?Xg21 ?Ng21 ?Tg21 ?C30g21 ?C18g21 ?hkg21 ?hdg21 ?hug21 ?hretg21)
  case Bg21 => k_asm
  case Fg21 => k_asm
  case Xg21 => k_asm
  case Ng21 => exact News.sub9 (l' := ((P9, tabObj ps0) :: ((d2, o2) :: (d1, o1) :: (I9, oI9) :: R13))) (by assumption) (by (intro p9 hp9; (rcases List.mem_cons.mp hp9 with rfl | hp9; (focus (k_dflt (repeat (first | exact List.mem_cons_self | refine List.mem_cons_of_mem _ ?_ | refine List.mem_append_right _ ?_))))); (rcases List.mem_cons.mp hp9 with rfl | hp9; (focus (k_dflt (repeat (first | exact List.mem_cons_self | refine List.mem_cons_of_mem _ ?_ | refine List.mem_append_right _ ?_))))); (rcases List.mem_cons.mp hp9 with rfl | hp9; (focus (k_dflt (repeat (first | exact List.mem_cons_self | refine List.mem_cons_of_mem _ ?_ | refine List.mem_append_right _ ?_))))); (rcases List.mem_cons.mp hp9 with rfl | hp9; (focus (k_dflt (repeat (first | exact List.mem_cons_self | refine List.mem_cons_of_mem _ ?_ | refine List.mem_append_right _ ?_))))); (focus (repeat (first | assumption | exact List.mem_append_left _ (by assumption) | refine List.mem_cons_of_mem _ ?_ | refine List.mem_append_right _ ?_)))))
  case Tg21 => k_asm
  case C30g21 => k_dflt assumption
  case C18g21 => k_dflt assumption
  case hkg21 => exact rfl
  case hdg21 => exact Nat.le_of_ble_eq_true rfl
  case hug21 => exact Nat.le_of_ble_eq_true rfl
  intro r9 h9 tk9 hP9 F9 N9
  subst hP9
  (repeat (first | (k_unfold; (try dsimp only)) | ((fail_if_success (focus (with_reducible show wpAny _ _ (call (Value.ref _) _) _ _ _))); (first | walk1 | (dsimp only; walk1)))))
  k_dflt (refine' all1_does w ((P9, tabObj ps0) :: ((d2, o2) :: (d1, o1) :: (I9, oI9) :: R13)) _ _ _ _ (RowAt.more hR1 (by intro p9 hp9; (focus (repeat (first | assumption | exact List.mem_append_left _ (by assumption) | refine List.mem_cons_of_mem _ ?_ | refine List.mem_append_right _ ?_))))) (RowAt.more hR2 (by intro p9 hp9; (focus (repeat (first | assumption | exact List.mem_append_left _ (by assumption) | refine List.mem_cons_of_mem _ ?_ | refine List.mem_append_right _ ?_))))) _ _ _ _ _ _ _ _ _ _ _ _ _ _ _ _ _ _ _ _ _ _ _ _ _ _ _ _ _ _ _ ?Bg22 ?Fg22 ?Xg22 ?Ng22 ?Tg22 ?hkg22 ?hdg22 ?hug22 ?hretg22)
  case Bg22 => k_asm
  case Fg22 => k_asm
  case Xg22 => k_asm
  case Ng22 => exact News.sub9 (l' := _ :: _ :: _ :: ((P9, tabObj ps0) :: ((d2, o2) :: (d1, o1) :: (I9, oI9) :: R13))) (by assumption) (by (intro p9 hp9; (rcases List.mem_cons.mp hp9 with rfl | hp9; (focus (k_dflt (repeat (first | exact List.mem_cons_self | refine List.mem_cons_of_mem _ ?_ | refine List.mem_append_right _ ?_))))); (rcases List.mem_cons.mp hp9 with rfl | hp9; (focus (k_dflt (repeat (first | exact List.mem_cons_self | refine List.mem_cons_of_mem _ ?_ | refine List.mem_append_right _ ?_))))); (rcases List.mem_cons.mp hp9 with rfl | hp9; (focus (k_dflt (repeat (first | exact List.mem_cons_self | refine List.mem_cons_of_mem _ ?_ | refine List.mem_append_right _ ?_))))); (rcases List.mem_cons.mp hp9 with rfl | hp9; (focus (k_dflt (repeat (first | exact List.mem_cons_self | refine List.mem_cons_of_mem _ ?_ | refine List.mem_append_right _ ?_))))); (rcases List.mem_cons.mp hp9 with rfl | hp9; (focus (k_dflt (repeat (first | exact List.mem_cons_self | refine List.mem_cons_of_mem _ ?_ | refine List.mem_append_right _ ?_))))); (rcases List.mem_cons.mp hp9 with rfl | hp9; (focus (k_dflt (repeat (first | exact List.mem_cons_self | refine List.mem_cons_of_mem _ ?_ | refine List.mem_append_right _ ?_))))); (rcases List.mem_cons.mp hp9 with rfl | hp9; (focus (k_dflt (repeat (first | exact List.mem_cons_self | refine List.mem_cons_of_mem _ ?_ | refine List.mem_append_right _ ?_))))); (focus (repeat (first | assumption | exact List.mem_append_left _ (by assumption) | refine List.mem_cons_of_mem _ ?_ | refine List.mem_append_right _ ?_)))))
  case Tg22 => k_asm
  case hkg22 => exact rfl
  case hdg22 => exact Nat.le_of_ble_eq_true rfl
  case hug22 => exact Nat.le_of_ble_eq_true rfl
  intro r9 h9 tk9 hP9 F9 N9
  subst hP9
  (repeat (first | (k_unfold; (try dsimp only)) | ((fail_if_success (focus (with_reducible show wpAny _ _ (call (Value.ref _) _) _ _ _))); (first | walk1 | (dsimp only; walk1)))))
  k_dflt (refine' GoodC.call (news := ((d2, o2) :: (d1, o1) :: (I9, oI9) :: R13)) K9 (by intro p9 hp9; (focus (repeat (first | assumption | exact List.mem_append_left _ (by assumption) | refine List.mem_cons_of_mem _ ?_ | refine List.mem_append_right _ ?_)))) (RowAt.more hR1 (by intro p9 hp9; (focus (repeat (first | assumption | exact List.mem_append_left _ (by assumption) | refine List.mem_cons_of_mem _ ?_ | refine List.mem_append_right _ ?_))))) (RowAt.more hR2 (by intro p9 hp9; (focus (repeat (first | assumption | exact List.mem_append_left _ (by assumption) | refine List.mem_cons_of_mem _ ?_ | refine List.mem_append_right _ ?_))))) hGps0 hoffC ?Bg23 ?Fg23 ?Xg23 ?Ng23 ?Tg23 ?hkg23 ?hdg23 ?hug23 ?ABg23 ?hretg23)
  case Bg23 => k_asm
  case Fg23 => k_asm
  case Xg23 => k_asm
  case Ng23 => exact News.sub9 (l' := ((P9, tabObj ps0) :: ((d2, o2) :: (d1, o1) :: (I9, oI9) :: R13))) (by assumption) (by (intro p9 hp9; (rcases List.mem_cons.mp hp9 with rfl | hp9; (focus (k_dflt (repeat (first | exact List.mem_cons_self | refine List.mem_cons_of_mem _ ?_ | refine List.mem_append_right _ ?_))))); (rcases List.mem_cons.mp hp9 with rfl | hp9; (focus (k_dflt (repeat (first | exact List.mem_cons_self | refine List.mem_cons_of_mem _ ?_ | refine List.mem_append_right _ ?_))))); (rcases List.mem_cons.mp hp9 with rfl | hp9; (focus (k_dflt (repeat (first | exact List.mem_cons_self | refine List.mem_cons_of_mem _ ?_ | refine List.mem_append_right _ ?_))))); (rcases List.mem_cons.mp hp9 with rfl | hp9; (focus (k_dflt (repeat (first | exact List.mem_cons_self | refine List.mem_cons_of_mem _ ?_ | refine List.mem_append_right _ ?_))))); (focus (repeat (first | assumption | exact List.mem_append_left _ (by assumption) | refine List.mem_cons_of_mem _ ?_ | refine List.mem_append_right _ ?_)))))
  case Tg23 => k_asm
  case hkg23 => exact rfl
  case hdg23 => exact Nat.le_of_ble_eq_true rfl
  case hug23 => exact Nat.le_of_ble_eq_true rfl
  case ABg23 => assumption
  intro ps1 sps1 hGps1 hABps1 hosps1 F9 N9
  (repeat (first | (k_unfold; (try dsimp only)) | ((fail_if_success (focus (with_reducible show wpAny _ _ (call (Value.ref _) _) _ _ _))); (first | walk1 | (dsimp only; walk1)))))
  k_dflt (refine' all2_does w ((P9, tabObj ps1) :: ((d2, o2) :: (d1, o1) :: (I9, oI9) :: R13)) _ _ _ _ (RowAt.more hR1 (by intro p9 hp9; (focus (repeat (first | assumption | exact List.mem_append_left _ (by assumption) | refine List.mem_cons_of_mem _ ?_ | refine List.mem_append_right _ ?_))))) (RowAt.more hR2 (by intro p9 hp9; (focus (repeat (first | assumption | exact List.mem_append_left _ (by assumption) | refine List.mem_cons_of_mem _ ?_ | refine List.mem_append_right _ ?_))))) _ _ _ _ _ _ _ _ _ _ _ _ _ _ _ _ _ _ _ _ _ _ _ _ _ _ _ _ _ _ _ _ _ _ _ _ _ ?Bg24 ?Fg24 ?Xg24 ?Ng24 ?Tg24 ?hkg24 ?hdg24 ?hug24 ?hretg24)
  case Bg24 => k_asm
  case Fg24 => k_asm
  case Xg24 => k_asm
  case Ng24 => exact News.sub9 (l' := _ :: _ :: _ :: ((P9, tabObj ps1) :: ((d2, o2) :: (d1, o1) :: (I9, oI9) :: R13))) (by assumption) (by (intro p9 hp9; (rcases List.mem_cons.mp hp9 with rfl | hp9; (focus (k_dflt (repeat (first | exact List.mem_cons_self | refine List.mem_cons_of_mem _ ?_ | refine List.mem_append_right _ ?_))))); (rcases List.mem_cons.mp hp9 with rfl | hp9; (focus (k_dflt (repeat (first | exact List.mem_cons_self | refine List.mem_cons_of_mem _ ?_ | refine List.mem_append_right _ ?_))))); (rcases List.mem_cons.mp hp9 with rfl | hp9; (focus (k_dflt (repeat (first | exact List.mem_cons_self | refine List.mem_cons_of_mem _ ?_ | refine List.mem_append_right _ ?_))))); (rcases List.mem_cons.mp hp9 with rfl | hp9; (focus (k_dflt (repeat (first | exact List.mem_cons_self | refine List.mem_cons_of_mem _ ?_ | refine List.mem_append_right _ ?_))))); (rcases List.mem_cons.mp hp9 with rfl | hp9; (focus (k_dflt (repeat (first | exact List.mem_cons_self | refine List.mem_cons_of_mem _ ?_ | refine List.mem_append_right _ ?_))))); (rcases List.mem_cons.mp hp9 with rfl | hp9; (focus (k_dflt (repeat (first | exact List.mem_cons_self | refine List.mem_cons_of_mem _ ?_ | refine List.mem_append_right _ ?_))))); (rcases List.mem_cons.mp hp9 with rfl | hp9; (focus (k_dflt (repeat (first | exact List.mem_cons_self | refine List.mem_cons_of_mem _ ?_ | refine List.mem_append_right _ ?_))))); (focus (repeat (first | assumption | exact List.mem_append_left _ (by assumption) | refine List.mem_cons_of_mem _ ?_ | refine List.mem_append_right _ ?_)))))
  case Tg24 => k_asm
  case hkg24 => exact rfl
  case hdg24 => exact Nat.le_of_ble_eq_true rfl
  case hug24 => exact Nat.le_of_ble_eq_true rfl
  intro r9 h9 tk9 hP9 F9 N9
  subst hP9
  (repeat (first | (k_unfold; (try dsimp only)) | ((fail_if_success (focus (with_reducible show wpAny _ _ (call (Value.ref _) _) _ _ _))); (first | walk1 | (dsimp only; walk1)))))
  k_dflt (refine' GoodC.call (news := ((d2, o2) :: (d1, o1) :: (I9, oI9) :: R13)) K10 (by intro p9 hp9; (focus (repeat (first | assumption | exact List.mem_append_left _ (by assumption) | refine List.mem_cons_of_mem _ ?_ | refine List.mem_append_right _ ?_)))) (RowAt.more hR1 (by intro p9 hp9; (focus (repeat (first | assumption | exact List.mem_append_left _ (by assumption) | refine List.mem_cons_of_mem _ ?_ | refine List.mem_append_right _ ?_))))) (RowAt.more hR2 (by intro p9 hp9; (focus (repeat (first | assumption | exact List.mem_append_left _ (by assumption) | refine List.mem_cons_of_mem _ ?_ | refine List.mem_append_right _ ?_))))) hGps1 hoffC ?Bg25 ?Fg25 ?Xg25 ?Ng25 ?Tg25 ?hkg25 ?hdg25 ?hug25 ?ABg25 ?hretg25)
  case Bg25 => k_asm
  case Fg25 => k_asm
  case Xg25 => k_asm
  case Ng25 => exact News.sub9 (l' := ((P9, tabObj ps1) :: ((d2, o2) :: (d1, o1) :: (I9, oI9) :: R13))) (by assumption) (by (intro p9 hp9; (rcases List.mem_cons.mp hp9 with rfl | hp9; (focus (k_dflt (repeat (first | exact List.mem_cons_self | refine List.mem_cons_of_mem _ ?_ | refine List.mem_append_right _ ?_))))); (rcases List.mem_cons.mp hp9 with rfl | hp9; (focus (k_dflt (repeat (first | exact List.mem_cons_self | refine List.mem_cons_of_mem _ ?_ | refine List.mem_append_right _ ?_))))); (rcases List.mem_cons.mp hp9 with rfl | hp9; (focus (k_dflt (repeat (first | exact List.mem_cons_self | refine List.mem_cons_of_mem _ ?_ | refine List.mem_append_right _ ?_))))); (rcases List.mem_cons.mp hp9 with rfl | hp9; (focus (k_dflt (repeat (first | exact List.mem_cons_self | refine List.mem_cons_of_mem _ ?_ | refine List.mem_append_right _ ?_))))); (focus (repeat (first | assumption | exact List.mem_append_left _ (by assumption) | refine List.mem_cons_of_mem _ ?_ | refine List.mem_append_right _ ?_)))))
  case Tg25 => k_asm
  case hkg25 => exact rfl
  case hdg25 => exact Nat.le_of_ble_eq_true rfl
  case hug25 => exact Nat.le_of_ble_eq_true rfl
  case ABg25 => assumption
  intro ps2 sps2 hGps2 hABps2 hosps2 F9 N9
  (repeat (first | (k_unfold; (try dsimp only)) | ((fail_if_success (focus (with_reducible show wpAny _ _ (call (Value.ref _) _) _ _ _))); (first | walk1 | (dsimp only; walk1)))))
  k_dflt (refine' all3_does w ((P9, tabObj ps2) :: ((d2, o2) :: (d1, o1) :: (I9, oI9) :: R13)) _ _ _ _ (RowAt.more hR1 (by intro p9 hp9; (focus (repeat (first | assumption | exact List.mem_append_left _ (by assumption) | refine List.mem_cons_of_mem _ ?_ | refine List.mem_append_right _ ?_))))) (RowAt.more hR2 (by intro p9 hp9; (focus (repeat (first | assumption | exact List.mem_append_left _ (by assumption) | refine List.mem_cons_of_mem _ ?_ | refine List.mem_append_right _ ?_))))) _ _ _ _ _ _ _ _ _ _ _ _ _ _ _ _ _ _ _ _ _ _ _ _ _ _ _ _ _ _ _ _ _ _ _ _ _ _ _ _ _ _ _ ?Bg26 ?Fg26 ?Xg26 ?Ng26 ?Tg26 ?hkg26 ?hdg26 ?hug26 ?hretg26)
  case Bg26 => k_asm
  case Fg26 => k_asm
  case Xg26 => k_asm
  case Ng26 => exact News.sub9 (l' := _ :: _ :: _ :: ((P9, tabObj ps2) :: ((d2, o2) :: (d1, o1) :: (I9, oI9) :: R13))) (by assumption) (by (intro p9 hp9; (rcases List.mem_cons.mp hp9 with rfl | hp9; (focus (k_dflt (repeat (first | exact List.mem_cons_self | refine List.mem_cons_of_mem _ ?_ | refine List.mem_append_right _ ?_))))); (rcases List.mem_cons.mp hp9 with rfl | hp9; (focus (k_dflt (repeat (first | exact List.mem_cons_self | refine List.mem_cons_of_mem _ ?_ | refine List.mem_append_right _ ?_))))); (rcases List.mem_cons.mp hp9 with rfl | hp9; (focus (k_dflt (repeat (first | exact List.mem_cons_self | refine List.mem_cons_of_mem _ ?_ | refine List.mem_append_right _ ?_))))); (rcases List.mem_cons.mp hp9 with rfl | hp9; (focus (k_dflt (repeat (first | exact List.mem_cons_self | refine List.mem_cons_of_mem _ ?_ | refine List.mem_append_right _ ?_))))); (rcases List.mem_cons.mp hp9 with rfl | hp9; (focus (k_dflt (repeat (first | exact List.mem_cons_self | refine List.mem_cons_of_mem _ ?_ | refine List.mem_append_right _ ?_))))); (rcases List.mem_cons.mp hp9 with rfl | hp9; (focus (k_dflt (repeat (first | exact List.mem_cons_self | refine List.mem_cons_of_mem _ ?_ | refine List.mem_append_right _ ?_))))); (rcases List.mem_cons.mp hp9 with rfl | hp9; (focus (k_dflt (repeat (first | exact List.mem_cons_self | refine List.mem_cons_of_mem _ ?_ | refine List.mem_append_right _ ?_))))); (focus (repeat (first | assumption | exact List.mem_append_left _ (by assumption) | refine List.mem_cons_of_mem _ ?_ | refine List.mem_append_right _ ?_)))))
  case Tg26 => k_asm
  case hkg26 => exact rfl
  case hdg26 => exact Nat.le_of_ble_eq_true rfl
  case hug26 => exact Nat.le_of_ble_eq_true rfl
  intro r9 h9 tk9 hP9 F9 N9
  subst hP9
  (repeat (first | (k_unfold; (try dsimp only)) | ((fail_if_success (focus (with_reducible show wpAny _ _ (call (Value.ref _) _) _ _ _))); (first | walk1 | (dsimp only; walk1)))))
  k_dflt (refine' GoodC.call (news := ((d2, o2) :: (d1, o1) :: (I9, oI9) :: R13)) K11 (by intro p9 hp9; (focus (repeat (first | assumption | exact List.mem_append_left _ (by assumption) | refine List.mem_cons_of_mem _ ?_ | refine List.mem_append_right _ ?_)))) (RowAt.more hR1 (by intro p9 hp9; (focus (repeat (first | assumption | exact List.mem_append_left _ (by assumption) | refine List.mem_cons_of_mem _ ?_ | refine List.mem_append_right _ ?_))))) (RowAt.more hR2 (by intro p9 hp9; (focus (repeat (first | assumption | exact List.mem_append_left _ (by assumption) | refine List.mem_cons_of_mem _ ?_ | refine List.mem_append_right _ ?_))))) hGps2 hoffC ?Bg27 ?Fg27 ?Xg27 ?Ng27 ?Tg27 ?hkg27 ?hdg27 ?hug27 ?ABg27 ?hretg27)
  case Bg27 => k_asm
  case Fg27 => k_asm
  case Xg27 => k_asm
  case Ng27 => exact News.sub9 (l' := ((P9, tabObj ps2) :: ((d2, o2) :: (d1, o1) :: (I9, oI9) :: R13))) (by assumption) (by (intro p9 hp9; (rcases List.mem_cons.mp hp9 with rfl | hp9; (focus (k_dflt (repeat (first | exact List.mem_cons_self | refine List.mem_cons_of_mem _ ?_ | refine List.mem_append_right _ ?_))))); (rcases List.mem_cons.mp hp9 with rfl | hp9; (focus (k_dflt (repeat (first | exact List.mem_cons_self | refine List.mem_cons_of_mem _ ?_ | refine List.mem_append_right _ ?_))))); (rcases List.mem_cons.mp hp9 with rfl | hp9; (focus (k_dflt (repeat (first | exact List.mem_cons_self | refine List.mem_cons_of_mem _ ?_ | refine List.mem_append_right _ ?_))))); (rcases List.mem_cons.mp hp9 with rfl | hp9; (focus (k_dflt (repeat (first | exact List.mem_cons_self | refine List.mem_cons_of_mem _ ?_ | refine List.mem_append_right _ ?_))))); (focus (repeat (first | assumption | exact List.mem_append_left _ (by assumption) | refine List.mem_cons_of_mem _ ?_ | refine List.mem_append_right _ ?_)))))
  case Tg27 => k_asm
  case hkg27 => exact rfl
  case hdg27 => exact Nat.le_of_ble_eq_true rfl
  case hug27 => exact Nat.le_of_ble_eq_true rfl
  case ABg27 => assumption
  intro ps3 sps3 hGps3 hABps3 hosps3 F9 N9
  (repeat (first | (k_unfold; (try dsimp only)) | ((fail_if_success (focus (with_reducible show wpAny _ _ (call (Value.ref _) _) _ _ _))); (first | walk1 | (dsimp only; walk1)))))
  k_dflt (refine' all2_does w ((P9, tabObj ps3) :: ((d2, o2) :: (d1, o1) :: (I9, oI9) :: R13)) _ _ _ _ (RowAt.more hR1 (by intro p9 hp9; (focus (repeat (first | assumption | exact List.mem_append_left _ (by assumption) | refine List.mem_cons_of_mem _ ?_ | refine List.mem_append_right _ ?_))))) (RowAt.more hR2 (by intro p9 hp9; (focus (repeat (first | assumption | exact List.mem_append_left _ (by assumption) | refine List.mem_cons_of_mem _ ?_ | refine List.mem_append_right _ ?_))))) _ _ _ _ _ _ _ _ _ _ _ _ _ _ _ _ _ _ _ _ _ _ _ _ _ _ _ _ _ _ _ _ _ _ _ _ _ ?Bg28 ?Fg28 ?Xg28 ?Ng28 ?Tg28 ?hkg28 ?hdg28 ?hug28 ?hretg28)
  case Bg28 => k_asm
  case Fg28 => k_asm
  case Xg28 => k_asm
  case Ng28 => exact News.sub9 (l' := _ :: _ :: _ :: ((P9, tabObj ps3) :: ((d2, o2) :: (d1, o1) :: (I9, oI9) :: R13))) (by assumption) (by (intro p9 hp9; (rcases List.mem_cons.mp hp9 with rfl | hp9; (focus (k_dflt (repeat (first | exact List.mem_cons_self | refine List.mem_cons_of_mem _ ?_ | refine List.mem_append_right _ ?_))))); (rcases List.mem_cons.mp hp9 with rfl | hp9; (focus (k_dflt (repeat (first | exact List.mem_cons_self | refine List.mem_cons_of_mem _ ?_ | refine List.mem_append_right _ ?_))))); (rcases List.mem_cons.mp hp9 with rfl | hp9; (focus (k_dflt (repeat (first | exact List.mem_cons_self | refine List.mem_cons_of_mem _ ?_ | refine List.mem_append_right _ ?_))))); (rcases List.mem_cons.mp hp9 with rfl | hp9; (focus (k_dflt (repeat (first | exact List.mem_cons_self | refine List.mem_cons_of_mem _ ?_ | refine List.mem_append_right _ ?_))))); (rcases List.mem_cons.mp hp9 with rfl | hp9; (focus (k_dflt (repeat (first | exact List.mem_cons_self | refine List.mem_cons_of_mem _ ?_ | refine List.mem_append_right _ ?_))))); (rcases List.mem_cons.mp hp9 with rfl | hp9; (focus (k_dflt (repeat (first | exact List.mem_cons_self | refine List.mem_cons_of_mem _ ?_ | refine List.mem_append_right _ ?_))))); (rcases List.mem_cons.mp hp9 with rfl | hp9; (focus (k_dflt (repeat (first | exact List.mem_cons_self | refine List.mem_cons_of_mem _ ?_ | refine List.mem_append_right _ ?_))))); (focus (repeat (first | assumption | exact List.mem_append_left _ (by assumption) | refine List.mem_cons_of_mem _ ?_ | refine List.mem_append_right _ ?_)))))
  case Tg28 => k_asm
  case hkg28 => exact rfl
  case hdg28 => exact Nat.le_of_ble_eq_true rfl
  case hug28 => exact Nat.le_of_ble_eq_true rfl
  intro r9 h9 tk9 hP9 F9 N9
  subst hP9
  (repeat (first | (k_unfold; (try dsimp only)) | ((fail_if_success (focus (with_reducible show wpAny _ _ (call (Value.ref _) _) _ _ _))); (first | walk1 | (dsimp only; walk1)))))
  k_dflt (refine' Good.call (news := ((P9, tabObj ps3) :: ((d2, o2) :: (d1, o1) :: (I9, oI9) :: R13))) G12 (by intro p9 hp9; (focus (repeat (first | assumption | exact List.mem_append_left _ (by assumption) | refine List.mem_cons_of_mem _ ?_ | refine List.mem_append_right _ ?_)))) (RowAt.more hR1 (by intro p9 hp9; (focus (repeat (first | assumption | exact List.mem_append_left _ (by assumption) | refine List.mem_cons_of_mem _ ?_ | refine List.mem_append_right _ ?_))))) (RowAt.more hR2 (by intro p9 hp9; (focus (repeat (first | assumption | exact List.mem_append_left _ (by assumption) | refine List.mem_cons_of_mem _ ?_ | refine List.mem_append_right _ ?_))))) _ _ _ _ _ _ _ _ _ _ _ _ _ _ _ _ _ _ _ _ _ _ ?Bg29 ?Fg29 ?Xg29 ?Ng29 ?Tg29 ?C30g29 ?C18g29 ?hkg29 ?hdg29 ?hug29 ?hretg29)
  case Bg29 => k_asm
  case Fg29 => k_asm
  case Xg29 => k_asm
  case Ng29 => exact News.sub9 (l' := ((P9, tabObj ps3) :: ((d2, o2) :: (d1, o1) :: (I9, oI9) :: R13))) (by assumption) (by (intro p9 hp9; (rcases List.mem_cons.mp hp9 with rfl | hp9; (focus (k_dflt (repeat (first | exact List.mem_cons_self | refine List.mem_cons_of_mem _ ?_ | refine List.mem_append_right _ ?_))))); (rcases List.mem_cons.mp hp9 with rfl | hp9; (focus (k_dflt (repeat (first | exact List.mem_cons_self | refine List.mem_cons_of_mem _ ?_ | refine List.mem_append_right _ ?_))))); (rcases List.mem_cons.mp hp9 with rfl | hp9; (focus (k_dflt (repeat (first | exact List.mem_cons_self | refine List.mem_cons_of_mem _ ?_ | refine List.mem_append_right _ ?_))))); (rcases List.mem_cons.mp hp9 with rfl | hp9; (focus (k_dflt (repeat (first | exact List.mem_cons_self | refine List.mem_cons_of_mem _ ?_ | refine List.mem_append_right _ ?_))))); (focus (repeat (first | assumption | exact List.mem_append_left _ (by assumption) | refine List.mem_cons_of_mem _ ?_ | refine List.mem_append_right _ ?_)))))
  case Tg29 => k_asm
  case C30g29 => k_dflt assumption
  case C18g29 => k_dflt assumption
  case hkg29 => exact rfl
  case hdg29 => exact Nat.le_of_ble_eq_true rfl
  case hug29 => exact Nat.le_of_ble_eq_true rfl
  intro r9 h9 tk9 hP9 F9 N9
  subst hP9
  (repeat (first | (k_unfold; (try dsimp only)) | ((fail_if_success (focus (with_reducible show wpAny _ _ (call (Value.ref _) _) _ _ _))); (first | walk1 | (dsimp only; walk1)))))
  k_dflt (refine' all1_does w ((P9, tabObj ps3) :: ((d2, o2) :: (d1, o1) :: (I9, oI9) :: R13)) _ _ _ _ (RowAt.more hR1 (by intro p9 hp9; (focus (repeat (first | assumption | exact List.mem_append_left _ (by assumption) | refine List.mem_cons_of_mem _ ?_ | refine List.mem_append_right _ ?_))))) (RowAt.more hR2 (by intro p9 hp9; (focus (repeat (first | assumption | exact List.mem_append_left _ (by assumption) | refine List.mem_cons_of_mem _ ?_ | refine List.mem_append_right _ ?_))))) _ _ _ _ _ _ _ _ _ _ _ _ _ _ _ _ _ _ _ _ _ _ _ _ _ _ _ _ _ _ _ ?Bg30 ?Fg30 ?Xg30 ?Ng30 ?Tg30 ?hkg30 ?hdg30 ?hug30 ?hretg30)
  case Bg30 => k_asm
  case Fg30 => k_asm
  case Xg30 => k_asm
  case Ng30 => exact News.sub9 (l' := _ :: _ :: _ :: ((P9, tabObj ps3) :: ((d2, o2) :: (d1, o1) :: (I9, oI9) :: R13))) (by assumption) (by (intro p9 hp9; (rcases List.mem_cons.mp hp9 with rfl | hp9; (focus (k_dflt (repeat (first | exact List.mem_cons_self | refine List.mem_cons_of_mem _ ?_ | refine List.mem_append_right _ ?_))))); (rcases List.mem_cons.mp hp9 with rfl | hp9; (focus (k_dflt (repeat (first | exact List.mem_cons_self | refine List.mem_cons_of_mem _ ?_ | refine List.mem_append_right _ ?_))))); (rcases List.mem_cons.mp hp9 with rfl | hp9; (focus (k_dflt (repeat (first | exact List.mem_cons_self | refine List.mem_cons_of_mem _ ?_ | refine List.mem_append_right _ ?_))))); (rcases List.mem_cons.mp hp9 with rfl | hp9; (focus (k_dflt (repeat (first | exact List.mem_cons_self | refine List.mem_cons_of_mem _ ?_ | refine List.mem_append_right _ ?_))))); (rcases List.mem_cons.mp hp9 with rfl | hp9; (focus (k_dflt (repeat (first | exact List.mem_cons_self | refine List.mem_cons_of_mem _ ?_ | refine List.mem_append_right _ ?_))))); (rcases List.mem_cons.mp hp9 with rfl | hp9; (focus (k_dflt (repeat (first | exact List.mem_cons_self | refine List.mem_cons_of_mem _ ?_ | refine List.mem_append_right _ ?_))))); (rcases List.mem_cons.mp hp9 with rfl | hp9; (focus (k_dflt (repeat (first | exact List.mem_cons_self | refine List.mem_cons_of_mem _ ?_ | refine List.mem_append_right _ ?_))))); (focus (repeat (first | assumption | exact List.mem_append_left _ (by assumption) | refine List.mem_cons_of_mem _ ?_ | refine List.mem_append_right _ ?_)))))
  case Tg30 => k_asm
  case hkg30 => exact rfl
  case hdg30 => exact Nat.le_of_ble_eq_true rfl
  case hug30 => exact Nat.le_of_ble_eq_true rfl
  intro r9 h9 tk9 hP9 F9 N9
  subst hP9
  (repeat (first | (k_unfold; (try dsimp only)) | ((fail_if_success (focus (with_reducible show wpAny _ _ (call (Value.ref _) _) _ _ _))); (first | walk1 | (dsimp only; walk1)))))
  exact LawTurn.intro hGps3 (hosps3.trans (hosps2.trans (hosps1.trans hos9))) hABps3 (by assumption) (News.sub9 (l' := (I9, oI9) :: (P9, tabObj ps3) :: R13) (by assumption) (by (intro p9 hp9; (rcases List.mem_cons.mp hp9 with rfl | hp9; (focus (k_dflt (repeat (first | exact List.mem_cons_self | refine List.mem_cons_of_mem _ ?_ | refine List.mem_append_right _ ?_))))); (rcases List.mem_cons.mp hp9 with rfl | hp9; (focus (k_dflt (repeat (first | exact List.mem_cons_self | refine List.mem_cons_of_mem _ ?_ | refine List.mem_append_right _ ?_))))); (focus (repeat (first | assumption | exact List.mem_append_left _ (by assumption) | refine List.mem_cons_of_mem _ ?_ | refine List.mem_append_right _ ?_)))))))
end Mine
end
theorem PySem.Challenge.cw_au6007_01_holds : PySem.Challenge.rw_au6007_01.Holds :=
  Mine.law_holds
