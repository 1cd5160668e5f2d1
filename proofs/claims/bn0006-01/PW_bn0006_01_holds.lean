import PyProof.Rows.All
import Wide.All
import OpenK.AllK
import Wide.FinOn
import PySem.Challenge.RW_bn0006_01
open PySem PySem.W PyProof.Rows PySem.Calls
set_option Elab.async false
set_option linter.unusedVariables false
set_option linter.unusedSimpArgs false
set_option maxRecDepth 100000
set_option maxHeartbeats 8000000
namespace Mine
open_top hd for PySem.Challenge.rw_bn0006_01
abbrev Led := List (Addr × Obj)
/-- a call of the def at `f` with the values `vs`, from any frame: it ends, keeps all, and hands back what `Out` says -/
def Says (f : Addr) (dep : Nat) (P : Led → Prop) (vs : List Value) (Out : Led → Value → Prop) : Prop :=
  ∀ (prog : Program) (w : World) (p : Program) (loose : List Str) (mean : ExcName → Option Value) (mg mb : Str → Option Value)
    (dp un : Nat) (gd : Option (List Code)) (cn : Str) (cs : Scope) (a : Addr) (ccd : Value) (cl : List (Str × Addr)) (outer : List Env) (A₀ : Around) (base h₀ : Heap) (L : Addr) (m : Str → Option Value) (news : Led) (s : Shared) (Q E : Value → Shared → Prop),
    Below A₀ base outer h₀ → Fr h₀ L s.heap m → (hd.heap_39 w.params).In h₀ → News h₀ L s.heap news → P news → Top p loose mean mg mb h₀ → cs.kind = .function → dp + dep < recursionLimit → un + 8 * dep < cLine →
    (∀ r tl h' tk', Fr h₀ L h' m → News h₀ L h' (tl ++ news) → Out tl r → Q r { s with heap := h', toks := tk' }) →
    wpAny (model prog w) (ktrTop dp un gd cn cs L a ccd cl outer) (call (.ref f) vs) Q E s

section
variable {f : Addr} {dep : Nat} {P : Led → Prop} {vs : List Value} {Out : Led → Value → Prop}
  {prog : Program} {w : World} {p : Program} {loose : List Str} {mean : ExcName → Option Value} {mg mb : Str → Option Value}
  {dp un : Nat} {gd : Option (List Code)} {cn : Str} {cs : Scope} {a : Addr} {ccd : Value} {cl : List (Str × Addr)} {outer : List Env} {A₀ : Around} {base h₀ : Heap} {L : Addr} {m : Str → Option Value} {news : Led} {s : Shared} {Q E : Value → Shared → Prop}
theorem Says.use (C : Says f dep P vs Out)
    (B : Below A₀ base outer h₀) (F : Fr h₀ L s.heap m) (X : (hd.heap_39 w.params).In h₀) (N : News h₀ L s.heap news) (hP : P news) (T : Top p loose mean mg mb h₀) (hk : cs.kind = .function) (hd : dp + dep < recursionLimit) (hu : un + 8 * dep < cLine)
    (ret : ∀ r tl h' tk', Fr h₀ L h' m → News h₀ L h' (tl ++ news) → Out tl r → Q r { s with heap := h', toks := tk' }) :
    wpAny (model prog w) (ktrTop dp un gd cn cs L a ccd cl outer) (call (.ref f) vs) Q E s :=
  C _ _ _ _ _ _ _ _ _ _ _ _ _ _ _ _ _ _ _ _ _ _ _ _ _ B F X N hP T hk hd hu ret

def OutB (b : Bool) (tl : Led) (r : Value) : Prop := tl = [] ∧ r = .bool b
def OutI (i : Int) (tl : Led) (r : Value) : Prop := tl = [] ∧ ∃ t, r = .int i t
abbrev tupObj (vs : List Value) : Obj := { cls := .type "tuple", data := .seq vs.toArray }
/-- two ints, three ints in a new tuple -/
def OutT2 (i j : Int) (tl : Led) (r : Value) : Prop := ∃ a t u, r = .ref a ∧ tl = [(a, tupObj [.int i t, .int j u])]
def OutT3 (i j k : Int) (tl : Led) (r : Value) : Prop := ∃ a t u v, r = .ref a ∧ tl = [(a, tupObj [.int i t, .int j u, .int k v])]
def Any (_ : Led) : Prop := True

theorem Says.useB {b : Bool} (C : Says f dep P vs (OutB b))
    (B : Below A₀ base outer h₀) (F : Fr h₀ L s.heap m) (X : (hd.heap_39 w.params).In h₀) (N : News h₀ L s.heap news) (hP : P news) (T : Top p loose mean mg mb h₀) (hk : cs.kind = .function) (hd : dp + dep < recursionLimit) (hu : un + 8 * dep < cLine)
    (ret : ∀ h' tk', Fr h₀ L h' m → News h₀ L h' news → Q (.bool b) { s with heap := h', toks := tk' }) :
    wpAny (model prog w) (ktrTop dp un gd cn cs L a ccd cl outer) (call (.ref f) vs) Q E s :=
  C.use B F X N hP T hk hd hu fun _ _ h' tk' F' N' o => by
    obtain ⟨rfl, rfl⟩ := o
    exact ret h' tk' F' N'
theorem Says.useI {i : Int} (C : Says f dep P vs (OutI i))
    (B : Below A₀ base outer h₀) (F : Fr h₀ L s.heap m) (X : (hd.heap_39 w.params).In h₀) (N : News h₀ L s.heap news) (hP : P news) (T : Top p loose mean mg mb h₀) (hk : cs.kind = .function) (hd : dp + dep < recursionLimit) (hu : un + 8 * dep < cLine)
    (ret : ∀ t h' tk', Fr h₀ L h' m → News h₀ L h' news → Q (.int i t) { s with heap := h', toks := tk' }) :
    wpAny (model prog w) (ktrTop dp un gd cn cs L a ccd cl outer) (call (.ref f) vs) Q E s :=
  C.use B F X N hP T hk hd hu fun _ _ h' tk' F' N' o => by
    obtain ⟨rfl, t, rfl⟩ := o
    exact ret t h' tk' F' N'
theorem Says.useT2 {i j : Int} (C : Says f dep P vs (OutT2 i j))
    (B : Below A₀ base outer h₀) (F : Fr h₀ L s.heap m) (X : (hd.heap_39 w.params).In h₀) (N : News h₀ L s.heap news) (hP : P news) (T : Top p loose mean mg mb h₀) (hk : cs.kind = .function) (hd : dp + dep < recursionLimit) (hu : un + 8 * dep < cLine)
    (ret : ∀ a t u h' tk', Fr h₀ L h' m → News h₀ L h' ((a, tupObj [.int i t, .int j u]) :: news) → Q (.ref a) { s with heap := h', toks := tk' }) :
    wpAny (model prog w) (ktrTop dp un gd cn cs L a ccd cl outer) (call (.ref f) vs) Q E s :=
  C.use B F X N hP T hk hd hu fun _ _ h' tk' F' N' o => by
    obtain ⟨a, t, u, rfl, rfl⟩ := o
    exact ret a t u h' tk' F' N'
theorem Says.useT3 {i j k : Int} (C : Says f dep P vs (OutT3 i j k))
    (B : Below A₀ base outer h₀) (F : Fr h₀ L s.heap m) (X : (hd.heap_39 w.params).In h₀) (N : News h₀ L s.heap news) (hP : P news) (T : Top p loose mean mg mb h₀) (hk : cs.kind = .function) (hd : dp + dep < recursionLimit) (hu : un + 8 * dep < cLine)
    (ret : ∀ a t u v h' tk', Fr h₀ L h' m → News h₀ L h' ((a, tupObj [.int i t, .int j u, .int k v]) :: news) → Q (.ref a) { s with heap := h', toks := tk' }) :
    wpAny (model prog w) (ktrTop dp un gd cn cs L a ccd cl outer) (call (.ref f) vs) Q E s :=
  C.use B F X N hP T hk hd hu fun _ _ h' tk' F' N' o => by
    obtain ⟨a, t, u, v, rfl, rfl⟩ := o
    exact ret a t u v h' tk' F' N'
end

section
variable {h₀ h' : Heap} {L : Addr} {m : Str → Option Value} {news news' : Led} {s : Shared} {Q : Value → Shared → Prop} {tk' : Nat}
theorem endB {x y : Bool} (hret : ∀ r tl h' tk', Fr h₀ L h' m → News h₀ L h' (tl ++ news) → OutB x tl r → Q r { s with heap := h', toks := tk' }) (e : y = x) (F : Fr h₀ L h' m) (N : News h₀ L h' news') (hs : ∀ p ∈ news, p ∈ news') : Q (.bool y) { s with heap := h', toks := tk' } :=
  hret _ [] _ _ F (fun p hp => N p (hs p hp)) ⟨rfl, e ▸ rfl⟩
theorem endI {x y : Int} {t : Tok} (hret : ∀ r tl h' tk', Fr h₀ L h' m → News h₀ L h' (tl ++ news) → OutI x tl r → Q r { s with heap := h', toks := tk' }) (e : y = x) (F : Fr h₀ L h' m) (N : News h₀ L h' news') (hs : ∀ p ∈ news, p ∈ news') : Q (.int y t) { s with heap := h', toks := tk' } :=
  hret _ [] _ _ F (fun p hp => N p (hs p hp)) ⟨rfl, t, e ▸ rfl⟩
theorem endT2 {i j i' j' : Int} {t u : Tok} {a : Addr} (hret : ∀ r tl h' tk', Fr h₀ L h' m → News h₀ L h' (tl ++ news) → OutT2 i j tl r → Q r { s with heap := h', toks := tk' }) (F : Fr h₀ L h' m) (N : News h₀ L h' news')
    (hm : (a, tupObj [.int i' t, .int j' u]) ∈ news') (hs : ∀ p ∈ news, p ∈ news') (e1 : i' = i) (e2 : j' = j) : Q (.ref a) { s with heap := h', toks := tk' } := by
  subst e1 e2
  exact hret _ [_] _ _ F (fun p hp => N p ((List.mem_cons.mp hp).elim (fun e => e ▸ hm) (hs p))) ⟨a, t, u, rfl, rfl⟩
theorem endT3 {i j k i' j' k' : Int} {t u v : Tok} {a : Addr} (hret : ∀ r tl h' tk', Fr h₀ L h' m → News h₀ L h' (tl ++ news) → OutT3 i j k tl r → Q r { s with heap := h', toks := tk' }) (F : Fr h₀ L h' m) (N : News h₀ L h' news')
    (hm : (a, tupObj [.int i' t, .int j' u, .int k' v]) ∈ news') (hs : ∀ p ∈ news, p ∈ news') (e1 : i' = i) (e2 : j' = j) (e3 : i' = i → j' = j → k' = k) : Q (.ref a) { s with heap := h', toks := tk' } := by
  have e9 := e3 e1 e2
  clear e3
  subst e1 e2 e9
  exact hret _ [_] _ _ F (fun p hp => N p ((List.mem_cons.mp hp).elim (fun e => e ▸ hm) (hs p))) ⟨a, t, u, v, rfl, rfl⟩
theorem sub0 : ∀ p ∈ news, p ∈ news := fun _ h => h
theorem subS {q : Addr × Obj} (h : ∀ p ∈ news, p ∈ news') : ∀ p ∈ news, p ∈ q :: news' := fun p hp => .tail _ (h p hp)
end

/-- the row and its written heap are named here, that the walk may read it -/
theorem named : PySem.Challenge.rw_bn0006_01 = PySem.Challenge.rw_bn0006_01 ∧ hd.heap_39 = hd.heap_39 := ⟨rfl, rfl⟩

theorem tupK {K : Frag} {h : Heap} {a : Addr} {vs : Array Value} {n : Nat} (X : K.In h) (e : K.lookup a = some ⟨.type "tuple", none, .seq vs n, #[]⟩) : IsTup h a vs := ⟨_, X _ _ e, rfl, n, rfl⟩
section
variable {prog : Program} {w : World} {A : Around} {E : Value → Shared → Prop} {s : Shared} {Q : Value → Shared → Prop} {P : Params} {x y : Int} {t u : Tok}
theorem my_mod (hb : 0 < y) (h : Q (.int (x % y) s.toks) { s with toks := s.toks + 1 }) : wpAny (model prog w) A (binaryOp .Mod (.int x t) (.int y u)) Q E s :=
  mod_int' (by omega) (by rw [Int.fmod_eq_emod_of_nonneg _ (by omega)]; exact h)
theorem my_div (hb : 0 < y) (h : Q (.int (x / y) s.toks) { s with toks := s.toks + 1 }) (hp : PySem.Builtin.divisionGoesByPylong x y = false) : wpAny (model prog w) A (binaryOp .FloorDiv (.int x t) (.int y u)) Q E s :=
  floordiv_int (by omega) (by rw [Int.fdiv_eq_ediv_of_nonneg _ (by omega)]; exact h) (.inl hp)
theorem in22 (X : (hd.heap_39 P).In s.heap) (h : Q (.bool (decide (x = 4 ∨ x = 6 ∨ x = 9 ∨ x = 11))) s) : wpAny (model prog w) A (compareOp .In (.int x u) (.ref 22)) Q E s := by
  refine in_tuple_ints (ns := [4, 6, 9, 11]) (tupK X rfl) (by repeat constructor) ?_
  have e : ([4, 6, 9, 11] : List Int).any (· == x) = decide (x = 4 ∨ x = 6 ∨ x = 9 ∨ x = 11) := by
    rw [Bool.eq_iff_iff]; simp only [List.any_cons, List.any_nil, Bool.or_false, Bool.or_eq_true, beq_iff_eq, decide_eq_true_eq]; omega
  rw [e]; exact h
theorem in44 (X : (hd.heap_39 P).In s.heap) (h : Q (.bool (decide (1 ≤ x ∧ x ≤ 6))) s) : wpAny (model prog w) A (compareOp .In (.int x u) (.ref 44)) Q E s := by
  refine in_tuple_ints (ns := [1, 2, 3, 4, 5, 6]) (tupK X rfl) (by repeat constructor) ?_
  have e : ([1, 2, 3, 4, 5, 6] : List Int).any (· == x) = decide (1 ≤ x ∧ x ≤ 6) := by
    rw [Bool.eq_iff_iff]; simp only [List.any_cons, List.any_nil, Bool.or_false, Bool.or_eq_true, beq_iff_eq, decide_eq_true_eq]; omega
  rw [e]; exact h
theorem in45 (X : (hd.heap_39 P).In s.heap) (h : Q (.bool (decide (7 ≤ x ∧ x ≤ 11))) s) : wpAny (model prog w) A (compareOp .In (.int x u) (.ref 45)) Q E s := by
  refine in_tuple_ints (ns := [7, 8, 9, 10, 11]) (tupK X rfl) (by repeat constructor) ?_
  have e : ([7, 8, 9, 10, 11] : List Int).any (· == x) = decide (7 ≤ x ∧ x ≤ 11) := by
    rw [Bool.eq_iff_iff]; simp only [List.any_cons, List.any_nil, Bool.or_false, Bool.or_eq_true, beq_iff_eq, decide_eq_true_eq]; omega
  rw [e]; exact h
end

--<LINES
local macro_rules | `(tactic| walk_at "compareOp In int ref") => `(tactic| (k_here; k_dflt (first | refine in22 (by k_in) ?_ | refine in44 (by k_in) ?_ | refine in45 (by k_in) ?_)))
local macro_rules | `(tactic| walk_at "binaryOp Mod int int") => `(tactic| (k_here; with_reducible refine my_mod (by first | decide | omega) ?_))
local macro_rules | `(tactic| walk_at "binaryOp FloorDiv int int") => `(tactic| (k_here; with_reducible refine my_div (by first | decide | omega) ?_ (PyProof.noPylong_of_log2 (by decide +kernel))))
local macro_rules | `(tactic| walk_at "ite") => `(tactic| (k_here; k_openite; k_spoken; first
  | (refine ite_pos (by (simp only [decide_eq_true_eq, decide_eq_false_iff_not, Bool.and_eq_true, Bool.or_eq_true, Bool.not_eq_true', beq_iff_eq, bne_iff_ne]; omega)) ?_; walk_say "PRUNED BY ME")
  | (refine ite_neg (by (simp only [decide_eq_true_eq, decide_eq_false_iff_not, Bool.and_eq_true, Bool.or_eq_true, Bool.not_eq_true', beq_iff_eq, bne_iff_ne]; omega)) ?_; walk_say "PRUNED BY ME")))
--LINES>

abbrev Leap (y : Int) : Prop := y % 4 = 0 ∧ (¬ y % 100 = 0 ∨ y % 400 = 0)
theorem isleap_says (y : Int) (t : Tok) : Says 21 1 Any [.int y t] (OutB (decide (Leap y))) := by
  w_top off
  k_with_none
  unfold Says
  intro prog w p loose mean mg mb dp un gd cn cs a ccd cl outer A₀ base h₀ L m news s Q E B F X N hP T hk hdp hun hret
  have hfill : PySem.Challenge.rw_bn0006_01 = PySem.Challenge.rw_bn0006_01 ∧ hd.heap_39 = hd.heap_39 := by
    k_fill
    exact named
  clear hfill
  refine wpAny_call ?_
  k_dflt cell_enter
  k_steps
  all_goals refine endB hret ?_ (by assumption) (by assumption) sub0
  all_goals (refine Bool.eq_iff_iff.mpr ?_; simp only [bne_iff_ne, beq_iff_eq, decide_eq_true_eq, ne_eq]; omega)
--<LINES
local macro_rules | `(tactic| walk_at "call ref") => `(tactic| (k_here; k_dflt (refine' Says.useB (isleap_says _ _) ?B ?F ?X ?N ?hP ?T ?hk ?hd ?hu ?_; (case B => k_asm); (case F => k_asm); (case X => k_asm); (case N => k_asm); (case T => k_asm); (case hP => exact trivial); (case hk => first | exact rfl | assumption); (case hd => ktr_room); (case hu => ktr_units); intro h9 tk9 F9 N9; (try dsimp only); (try k_fold))))
--LINES>

abbrev Legal (y mo d : Int) : Prop := 0 < d ∧ (mo = 2 ∧ Leap y ∧ d ≤ 29 ∨ mo = 2 ∧ d ≤ 28 ∨ mo ≠ 2 ∧ d ≤ 30 ∨ mo ≠ 2 ∧ mo ≠ 4 ∧ mo ≠ 6 ∧ mo ≠ 9 ∧ mo ≠ 11 ∧ d ≤ 31)
theorem legal_says (y mo d : Int) (t1 t2 t3 : Tok) (h0 : Legal y mo d) : Says 29 2 Any [.int y t1, .int mo t2, .int d t3] (OutB true) := by
  simp only [Legal, Leap] at h0
  w_top off
  k_with_none
  unfold Says
  intro prog w p loose mean mg mb dp un gd cn cs a ccd cl outer A₀ base h₀ L m news s Q E B F X N hP T hk hdp hun hret
  have hfill : PySem.Challenge.rw_bn0006_01 = PySem.Challenge.rw_bn0006_01 ∧ hd.heap_39 = hd.heap_39 := by
    k_fill
    exact named
  clear hfill
  refine wpAny_call ?_
  k_dflt cell_enter
  k_steps
  all_goals exact endB hret rfl (by assumption) (by assumption) sub0
--<LINES
local macro_rules | `(tactic| walk_at "call ref") => `(tactic| (k_here; k_dflt (refine' Says.useB (legal_says _ _ _ _ _ _ ?pre0) ?B ?F ?X ?N ?hP ?T ?hk ?hd ?hu ?_; (case B => k_asm); (case F => k_asm); (case X => k_asm); (case N => k_asm); (case T => k_asm); (case pre0 => first | assumption | (simp only [Legal, Leap]; omega)); (case hP => exact trivial); (case hk => first | exact rfl | assumption); (case hd => ktr_room); (case hu => ktr_units); intro h9 tk9 F9 N9; (try dsimp only); (try k_fold))))
--LINES>

abbrev gAdj (y mo : Int) : Int := if mo ≤ 2 then 0 else if Leap y then -1 else -2
def gJd (y mo d : Int) : Int := 1721426 - 1 + 365 * (y - 1) + (y - 1) / 4 + -((y - 1) / 100) + (y - 1) / 400 + ((367 * mo - 362) / 12 + gAdj y mo + d)
theorem gToJd_says (y mo d : Int) (t1 t2 t3 : Tok) (h0 : Legal y mo d) : Says 36 3 Any [.int y t1, .int mo t2, .int d t3] (OutI (gJd y mo d)) := by
  simp only [Legal, Leap] at h0
  w_top off
  k_with_none
  unfold Says
  intro prog w p loose mean mg mb dp un gd cn cs a ccd cl outer A₀ base h₀ L m news s Q E B F X N hP T hk hdp hun hret
  have hfill : PySem.Challenge.rw_bn0006_01 = PySem.Challenge.rw_bn0006_01 ∧ hd.heap_39 = hd.heap_39 := by
    k_fill
    exact named
  clear hfill
  refine wpAny_call ?_
  k_dflt cell_enter
  k_steps
  all_goals refine endI hret ?_ (by assumption) (by assumption) sub0
  all_goals (simp only [gJd, gAdj, Leap]; omega)
--<LINES
local macro_rules | `(tactic| walk_at "call ref") => `(tactic| (k_here; k_dflt (refine' Says.useI (gToJd_says _ _ _ _ _ _ ?pre0) ?B ?F ?X ?N ?hP ?T ?hk ?hd ?hu ?_; (case B => k_asm); (case F => k_asm); (case X => k_asm); (case N => k_asm); (case T => k_asm); (case pre0 => first | assumption | (simp only [Legal, Leap]; omega)); (case hP => exact trivial); (case hk => first | exact rfl | assumption); (case hd => ktr_room); (case hu => ktr_units); intro t9 h9 tk9 F9 N9; (try dsimp only); (try k_fold))))
--LINES>
def gY (jd : Int) : Int :=
  if (jd - 1721426) % 146097 / 36524 = 4 ∨ (jd - 1721426) % 146097 % 36524 % 1461 / 365 = 4 then
    (jd - 1721426) / 146097 * 400 + (jd - 1721426) % 146097 / 36524 * 100 + (jd - 1721426) % 146097 % 36524 / 1461 * 4 + (jd - 1721426) % 146097 % 36524 % 1461 / 365
  else (jd - 1721426) / 146097 * 400 + (jd - 1721426) % 146097 / 36524 * 100 + (jd - 1721426) % 146097 % 36524 / 1461 * 4 + (jd - 1721426) % 146097 % 36524 % 1461 / 365 + 1
def gYd (jd : Int) : Int := jd - gJd (gY jd) 1 1
def gAd (jd : Int) : Int := if gYd jd < 58 + (if Leap (gY jd) then 1 else 0) then 0 else if Leap (gY jd) then 1 else 2
def gM (jd : Int) : Int := ((gYd jd + gAd jd) * 12 + 373) / 367
def gD (jd : Int) : Int := jd - gJd (gY jd) (gM jd) 1 + 1
theorem adj0 {c d : Prop} [Decidable c] [Decidable d] (h : c) : (0 : Int) = if c then 0 else if d then 1 else 2 := (if_pos h).symm
theorem adj1 {c d : Prop} [Decidable c] [Decidable d] (h : ¬ c) (h' : d) : (1 : Int) = if c then 0 else if d then 1 else 2 := by rw [if_neg h, if_pos h']
theorem adj2 {c d : Prop} [Decidable c] [Decidable d] (h : ¬ c) (h' : ¬ d) : (2 : Int) = if c then 0 else if d then 1 else 2 := by rw [if_neg h, if_neg h']
theorem gM_eq {jd Y adj : Int} (eY : gY jd = Y) (h : adj = if jd - gJd Y 1 1 < 58 + (if decide (Leap Y) = true then 1 else 0) then 0 else if Leap Y then 1 else 2) : ((jd - gJd Y 1 1 + adj) * 12 + 373) / 367 = gM jd := by
  subst eY
  simp only [decide_eq_true_eq] at h
  rw [gM, gAd, gYd, h]
theorem gFromJd_says (jd : Int) (t1 : Tok) : Says 43 4 Any [.int jd t1] (OutT3 (gY jd) (gM jd) (gD jd)) := by
  w_top off
  k_with_none
  unfold Says
  intro prog w p loose mean mg mb dp un gd cn cs a ccd cl outer A₀ base h₀ L m news s Q E B F X N hP T hk hdp hun hret
  have hfill : PySem.Challenge.rw_bn0006_01 = PySem.Challenge.rw_bn0006_01 ∧ hd.heap_39 = hd.heap_39 := by
    k_fill
    exact named
  clear hfill
  refine wpAny_call ?_
  k_dflt cell_enter
  k_steps
  all_goals refine endT3 hret (by assumption) (by assumption) (by k_mem) (subS sub0) ?_ ?_ (fun h1 h2 => by rw [gD, ← h1, ← h2])
  all_goals (by_cases hc : ((jd - 1721426) % 146097 / 36524 = 4 ∨ (jd - 1721426) % 146097 % 36524 % 1461 / 365 = 4))
  all_goals first
    | (exfalso; omega)
    | (have eY : gY jd = _ := if_pos hc)
    | (have eY : gY jd = _ := if_neg hc)
  all_goals first
    | exact eY.symm
    | refine gM_eq eY ?_
  all_goals clear eY
  all_goals first
    | exact adj0 (by assumption)
    | exact adj1 (by assumption) (by assumption)
    | exact adj2 (by assumption) (by assumption)
    | exact adj1 (by assumption) (by simp only [Leap]; omega)
    | exact adj2 (by assumption) (by simp only [Leap]; omega)
--<LINES
local macro_rules | `(tactic| walk_at "call ref") => `(tactic| (k_here; k_dflt (refine' Says.useT3 (gFromJd_says _ _) ?B ?F ?X ?N ?hP ?T ?hk ?hd ?hu ?_; (case B => k_asm); (case F => k_asm); (case X => k_asm); (case N => k_asm); (case T => k_asm); (case hP => exact trivial); (case hk => first | exact rfl | assumption); (case hd => ktr_room); (case hu => ktr_units); intro a9 t9 u9 v9 h9 tk9 F9 N9; (try dsimp only); (try k_fold))))
--LINES>
/-- the ledger holds what is needed -/
def Has (need news : Led) : Prop := ∀ p ∈ need, p ∈ news
theorem Has.here {need : Led} : Has need need := fun _ h => h
theorem Has.more {need news : Led} {q : Addr × Obj} (h : Has need news) : Has need (q :: news) := fun p hp => .tail _ (h p hp)

theorem Has.one {news : Led} {q : Addr × Obj} (h : q ∈ news) : Has [q] news := fun p hp => by cases List.mem_singleton.mp hp; exact h

theorem Has.two {news : Led} {q q' : Addr × Obj} (h : q ∈ news) (h' : q' ∈ news) : Has [q, q'] news := fun p hp => by
  rcases List.mem_cons.mp hp with rfl | hp
  · exact h
  · exact Has.one h' _ hp

def opening (first start : Int) (sums : List Int) (c : Int) : Int :=
  if c - first < 0 then start + 365 * (c - first) + 8 * (c - first) / 33
  else if c - first > (sums.length : Int) - 1 then start + 365 * (c - first) + sums.getD ((sums.length : Int) - 1).toNat 0 + 8 * (c - first - ((sums.length : Int) - 1)) / 33
  else start + 365 * (c - first) + sums.getD (c - first).toNat 0

--<LINES
local macro_rules | `(tactic| is_list) => `(tactic| exact News.isList (by k_asm) (by assumption))
--LINES>
theorem opening_says (c first start : Int) (t1 t2 t3 : Tok) (l : Addr) (us : List Value) (n : Nat) (sums : List Int) (hI : IntsAre us sums) (h0 : 0 < sums.length) (h1 : sums.length ≤ 64) :
    Says 109 1 (Has [(l, listOf us.toArray n)]) [.int c t1, .int first t2, .int start t3, .ref l] (OutI (opening first start sums c)) := by
  w_top off
  k_with_none
  unfold Says
  intro prog w p loose mean mg mb dp un gd cn cs a ccd cl outer A₀ base h₀ L m news s Q E B F X N hP T hk hdp hun hret
  have hfill : PySem.Challenge.rw_bn0006_01 = PySem.Challenge.rw_bn0006_01 ∧ hd.heap_39 = hd.heap_39 := by
    k_fill
    exact named
  clear hfill
  refine wpAny_call ?_
  k_dflt cell_enter
  have hm : (l, listOf us.toArray n) ∈ news := hP _ (.head _)
  k_steps
  all_goals refine endI hret ?_ (by assumption) (by assumption) sub0
  all_goals (simp only [opening]; (repeat' split) <;> first | rfl | omega)
--<LINES
local macro_rules | `(tactic| walk_at "call ref") => `(tactic| (k_here; k_dflt (refine' Says.useI (opening_says _ _ _ _ _ _ _ _ _ _ ?hI ?h0 ?h1) ?B ?F ?X ?N ?hP ?T ?hk ?hd ?hu ?_; (case B => k_asm); (case F => k_asm); (case X => k_asm); (case N => k_asm); (case T => k_asm); (case hP => (intro p9 h9; cases List.mem_singleton.mp h9; assumption)); (case hI => assumption); (case h0 => assumption); (case h1 => assumption); (case hk => first | exact rfl | assumption); (case hd => ktr_room); (case hu => ktr_units); intro t9 h9 tk9 F9 N9; (try dsimp only); (try k_fold))))
--LINES>

/-- what is known of the callable that is handed in: it lies in what is needed, and a call of it gives `o` -/
structure Eqx (need : Led) (eq : Addr) (o : Int → Int) : Prop where
  fn : ∃ oc od fd sl, (eq, (⟨oc, od, .func fd, sl⟩ : Obj)) ∈ need
  says : ∀ (c : Int) (t : Tok), Says eq 2 (Has need) [.int c t] (OutI (o c))
theorem Eqx.fnAt {need news : Led} {eq : Addr} {o : Int → Int} {h₀ h : Heap} {L : Addr} (q : Eqx need eq o) (N : News h₀ L h news) (hP : Has need news) : FnAt eq h := by
  obtain ⟨oc, od, fd, sl, hm⟩ := q.fn
  exact FnAt.of N (hP _ hm)
--<LINES
local macro_rules | `(tactic| walk_at "callWith ref") => `(tactic| (k_here; k_dflt (refine' callWith_F ?k1 ?_; (case k1 => exact Eqx.fnAt (by assumption) (by k_asm) (by repeat (first | assumption | refine Has.more ?_))); k_whole)))
local macro_rules | `(tactic| walk_at "FnAt") => `(tactic| (k_dflt (exact Eqx.fnAt (by assumption) (by k_asm) (by repeat (first | assumption | refine Has.more ?_)))))
local macro_rules | `(tactic| walk_at "call ref") => `(tactic| (k_here; k_dflt (refine' Says.useI (Eqx.says ?q _ _) ?B ?F ?X ?N ?hP ?T ?hk ?hd ?hu ?_; (case q => assumption); (case B => k_asm); (case F => k_asm); (case X => k_asm); (case N => k_asm); (case T => k_asm); (case hP => repeat (first | assumption | refine Has.more ?_)); (case hk => first | exact rfl | assumption); (case hd => ktr_room); (case hu => ktr_units); intro t9 h9 tk9 F9 N9; (try dsimp only); (try k_fold))))
--LINES>
theorem WhlIf.both {b : Bool} {T F : Prop} (t : b = true → T) (f : b = false → F) : WhlIf b T F := by
  cases h : b with
  | true => exact WhlIf.yes rfl (t h)
  | false => exact WhlIf.no rfl (f h)
--<LINES
local macro_rules | `(tactic| walk_at "WhlIf") => `(tactic| (first
  | (refine WhlIf.yes (by (simp only [decide_eq_true_eq, decide_eq_false_iff_not, Bool.and_eq_true, Bool.or_eq_true, Bool.not_eq_true', Bool.not_eq_false', Bool.and_eq_false_iff, Bool.or_eq_false_iff, beq_eq_false_iff_ne, bne_eq_false_iff_eq, beq_iff_eq, bne_iff_ne]; omega)) ?_; walk_say "WHILE: ON")
  | (refine WhlIf.no (by (simp only [decide_eq_true_eq, decide_eq_false_iff_not, Bool.and_eq_true, Bool.or_eq_true, Bool.not_eq_true', Bool.not_eq_false', Bool.and_eq_false_iff, Bool.or_eq_false_iff, beq_eq_false_iff_ne, bne_eq_false_iff_eq, beq_iff_eq, bne_iff_ne]; omega)) ?_; walk_say "WHILE: END")
  | (refine WhlIf.both (fun w9 => ?_) (fun w9 => ?_) <;> (try simp only [decide_eq_true_eq, decide_eq_false_iff_not, Bool.and_eq_true, Bool.or_eq_true, Bool.not_eq_true', Bool.not_eq_false', beq_eq_false_iff_ne, bne_eq_false_iff_eq, beq_iff_eq, bne_iff_ne] at w9))))
--LINES>

section
local macro_rules | `(tactic| walk_at "exec While Compare cons nil") => `(tactic| (k_here; k_dflt (refine whl_start 8 ?_)))
local macro_rules | `(tactic| walk_at "exec While UnaryOp") => `(tactic| (k_here; k_dflt (refine whl_start 8 ?_)))
theorem lastEq_a (jd : Int) (t1 : Tok) (need : Led) (eq : Addr) (o : Int → Int) (q : Eqx need eq o) (h1 : o (gY jd) ≤ jd) (h2 : jd < o (gY jd + 1)) :
    Says 59 6 (Has need) [.int jd t1, .ref eq] (OutI (o (gY jd) - 1)) := by
  w_top off
  k_with_none
  unfold Says
  intro prog w p loose mean mg mb dp un gd cn cs a ccd cl outer A₀ base h₀ L m news s Q E B F X N hP T hk hdp hun hret
  have hfill : PySem.Challenge.rw_bn0006_01 = PySem.Challenge.rw_bn0006_01 ∧ hd.heap_39 = hd.heap_39 := by
    k_fill
    exact named
  clear hfill
  refine wpAny_call ?_
  k_dflt cell_enter
  k_steps
  all_goals exact endI hret rfl (by assumption) (by assumption) (subS sub0)
theorem lastEq_b (jd : Int) (t1 : Tok) (need : Led) (eq : Addr) (o : Int → Int) (q : Eqx need eq o) (h1 : o (gY jd - 1) ≤ jd) (h2 : jd < o (gY jd)) (h3 : jd < o (gY jd - 1 + 1)) :
    Says 59 6 (Has need) [.int jd t1, .ref eq] (OutI (o (gY jd - 1) - 1)) := by
  w_top off
  k_with_none
  unfold Says
  intro prog w p loose mean mg mb dp un gd cn cs a ccd cl outer A₀ base h₀ L m news s Q E B F X N hP T hk hdp hun hret
  have hfill : PySem.Challenge.rw_bn0006_01 = PySem.Challenge.rw_bn0006_01 ∧ hd.heap_39 = hd.heap_39 := by
    k_fill
    exact named
  clear hfill
  refine wpAny_call ?_
  k_dflt cell_enter
  k_steps
  all_goals exact endI hret rfl (by assumption) (by assumption) (subS sub0)
end
theorem lastEq_says (jd : Int) (t1 : Tok) (need : Led) (eq : Addr) (o : Int → Int) (q : Eqx need eq o) (c : Int) (hc : gY jd = c ∨ gY jd = c + 1) (h1 : o c ≤ jd) (h2 : jd < o (c + 1)) :
    Says 59 6 (Has need) [.int jd t1, .ref eq] (OutI (o c - 1)) := by
  rcases hc with hc | hc
  · subst hc
    exact lastEq_a jd t1 need eq o q h1 h2
  · have e : c = gY jd - 1 := by omega
    subst e
    exact lastEq_b jd t1 need eq o q h1 (by have e : gY jd - 1 + 1 = gY jd := by omega
                                            rwa [e] at h2) h2
/-- the day `jd` lies in the year that opens in the civil year `c`, as the program's own reckonings see it -/
structure Known (o : Int → Int) (jd c : Int) : Prop where
  greg : gY jd = c ∨ gY jd = c + 1
  lo : o c ≤ jd
  hi : jd < o (c + 1)
  year : ((2 * (o c - 1 - 1948321) - 1) * 100000000 + 36524219878) / (2 * 36524219878) + 1 = c - 621
theorem lastEq_known (jd : Int) (t1 : Tok) (need : Led) (eq : Addr) (o : Int → Int) (c : Int) (q : Eqx need eq o) (K : Known o jd c) :
    Says 59 6 (Has need) [.int jd t1, .ref eq] (OutI (o c - 1)) := lastEq_says jd t1 need eq o q c K.greg K.lo K.hi
--<LINES
local macro_rules | `(tactic| walk_at "call ref") => `(tactic| (k_here; k_dflt (refine' Says.useI (lastEq_known _ _ _ _ _ _ ?pre0 ?pre1) ?B ?F ?X ?N ?hP ?T ?hk ?hd ?hu ?_; (case B => k_asm); (case F => k_asm); (case X => k_asm); (case N => k_asm); (case T => k_asm); (case pre0 => assumption); (case pre1 => assumption); (case hP => repeat (first | assumption | refine Has.more ?_)); (case hk => first | exact rfl | assumption); (case hd => ktr_room); (case hu => ktr_units); intro t9 h9 tk9 F9 N9; (try dsimp only); (try k_fold))))
--LINES>

theorem pyear_says (jd : Int) (t1 : Tok) (need : Led) (eq : Addr) (o : Int → Int) (c : Int) (q : Eqx need eq o) (K : Known o jd c) :
    Says 66 7 (Has need) [.int jd t1, .ref eq] (OutT2 (c - 621) (o c - 1)) := by
  w_top off
  k_with_none
  unfold Says
  intro prog w p loose mean mg mb dp un gd cn cs a ccd cl outer A₀ base h₀ L m news s Q E B F X N hP T hk hdp hun hret
  have hfill : PySem.Challenge.rw_bn0006_01 = PySem.Challenge.rw_bn0006_01 ∧ hd.heap_39 = hd.heap_39 := by
    k_fill
    exact named
  clear hfill
  refine wpAny_call ?_
  k_dflt cell_enter
  k_steps
  all_goals exact endT2 hret (by assumption) (by assumption) (by k_mem) (subS sub0) K.year rfl
--<LINES
local macro_rules | `(tactic| walk_at "call ref") => `(tactic| (k_here; k_dflt (refine' Says.useT2 (pyear_says _ _ _ _ _ _ ?pre0 ?pre1) ?B ?F ?X ?N ?hP ?T ?hk ?hd ?hu ?_; (case B => k_asm); (case F => k_asm); (case X => k_asm); (case N => k_asm); (case T => k_asm); (case pre0 => assumption); (case pre1 => assumption); (case hP => repeat (first | assumption | refine Has.more ?_)); (case hk => first | exact rfl | assumption); (case hd => ktr_room); (case hu => ktr_units); intro a9 t9 u9 h9 tk9 F9 N9; (try dsimp only); (try k_fold))))
--LINES>
def mOff (mo : Int) : Int := if mo ≤ 7 then (mo - 1) * 31 else (mo - 1) * 30 + 6
section
local macro_rules | `(tactic| walk_at "exec While Compare cons nil") => `(tactic| (k_here; k_dflt (refine whl_start 8 ?_)))
local macro_rules | `(tactic| walk_at "exec While UnaryOp") => `(tactic| (k_here; k_dflt (refine whl_start 8 ?_)))
theorem toJdP_b (y mo d : Int) (t1 t2 t3 : Tok) (need : Led) (eq : Addr) (o : Int → Int) (c : Int) (q : Eqx need eq o) (hc : c = y + 621)
    (K0 : Known o (1948321 - 1 + 36524219878 * (y - 1 - 1) / 100000000) (c - 1)) (K1 : Known o (o (c - 1) - 1 + 36524219878 / 100000000 + 2) c) :
    Says 73 8 (Has need) [.int y t1, .int mo t2, .int d t3, .ref eq] (OutI (o c - 1 + mOff mo + d)) := by
  w_top off
  k_with_none
  unfold Says
  intro prog w p loose mean mg mb dp un gd cn cs a ccd cl outer A₀ base h₀ L m news s Q E B F X N hP T hk hdp hun hret
  have hfill : PySem.Challenge.rw_bn0006_01 = PySem.Challenge.rw_bn0006_01 ∧ hd.heap_39 = hd.heap_39 := by
    k_fill
    exact named
  clear hfill
  refine wpAny_call ?_
  k_dflt cell_enter
  k_steps
  all_goals refine endI hret ?_ (by assumption) (by assumption) (subS (subS (subS sub0)))
  all_goals (simp only [mOff]; (repeat' split) <;> omega)
theorem toJdP_a (y mo d : Int) (t1 t2 t3 : Tok) (need : Led) (eq : Addr) (o : Int → Int) (c : Int) (q : Eqx need eq o) (hc : c = y + 621)
    (K0 : Known o (1948321 - 1 + 36524219878 * (y - 1 - 1) / 100000000) (c - 2)) (K1 : Known o (o (c - 2) - 1 + 36524219878 / 100000000 + 2) (c - 1)) (K2 : Known o (o (c - 1) - 1 + 36524219878 / 100000000 + 2) c) :
    Says 73 8 (Has need) [.int y t1, .int mo t2, .int d t3, .ref eq] (OutI (o c - 1 + mOff mo + d)) := by
  w_top off
  k_with_none
  unfold Says
  intro prog w p loose mean mg mb dp un gd cn cs a ccd cl outer A₀ base h₀ L m news s Q E B F X N hP T hk hdp hun hret
  have hfill : PySem.Challenge.rw_bn0006_01 = PySem.Challenge.rw_bn0006_01 ∧ hd.heap_39 = hd.heap_39 := by
    k_fill
    exact named
  clear hfill
  refine wpAny_call ?_
  k_dflt cell_enter
  k_steps
  all_goals refine endI hret ?_ (by assumption) (by assumption) (subS (subS (subS (subS sub0))))
  all_goals (simp only [mOff]; (repeat' split) <;> omega)
end
/-- the program's first guess at the opening of the year `y` comes to lie one or two years ahead of it, and each next guess one year on -/
def Guessed (o : Int → Int) (y : Int) : Prop :=
  (Known o (1948321 - 1 + 36524219878 * (y - 1 - 1) / 100000000) (y + 621 - 1) ∧ Known o (o (y + 621 - 1) - 1 + 36524219878 / 100000000 + 2) (y + 621)) ∨
  (Known o (1948321 - 1 + 36524219878 * (y - 1 - 1) / 100000000) (y + 621 - 2) ∧ Known o (o (y + 621 - 2) - 1 + 36524219878 / 100000000 + 2) (y + 621 - 1) ∧ Known o (o (y + 621 - 1) - 1 + 36524219878 / 100000000 + 2) (y + 621))
theorem toJdP_says (y mo d : Int) (t1 t2 t3 : Tok) (need : Led) (eq : Addr) (o : Int → Int) (q : Eqx need eq o) (G : Guessed o y) :
    Says 73 8 (Has need) [.int y t1, .int mo t2, .int d t3, .ref eq] (OutI (o (y + 621) - 1 + mOff mo + d)) := by
  rcases G with ⟨a, b⟩ | ⟨a, b, c⟩
  · exact toJdP_b y mo d t1 t2 t3 need eq o _ q rfl a b
  · exact toJdP_a y mo d t1 t2 t3 need eq o _ q rfl a b c
--<LINES
local macro_rules | `(tactic| walk_at "call ref") => `(tactic| (k_here; k_dflt (refine' Says.useI (toJdP_says _ _ _ _ _ _ _ _ _ ?pre0 ?pre1) ?B ?F ?X ?N ?hP ?T ?hk ?hd ?hu ?_; (case B => k_asm); (case F => k_asm); (case X => k_asm); (case N => k_asm); (case T => k_asm); (case pre0 => assumption); (case pre1 => assumption); (case hP => repeat (first | assumption | refine Has.more ?_)); (case hk => first | exact rfl | assumption); (case hd => ktr_room); (case hu => ktr_units); intro t9 h9 tk9 F9 N9; (try dsimp only); (try k_fold))))
--LINES>
theorem leapP_says (y : Int) (t1 : Tok) (need : Led) (eq : Addr) (o : Int → Int) (q : Eqx need eq o) (G : Guessed o y) (G' : Guessed o (y + 1)) :
    Says 52 9 (Has need) [.int y t1, .ref eq] (OutB (decide (o (y + 1 + 621) - o (y + 621) > 365))) := by
  w_top off
  k_with_none
  unfold Says
  intro prog w p loose mean mg mb dp un gd cn cs a ccd cl outer A₀ base h₀ L m news s Q E B F X N hP T hk hdp hun hret
  have hfill : PySem.Challenge.rw_bn0006_01 = PySem.Challenge.rw_bn0006_01 ∧ hd.heap_39 = hd.heap_39 := by
    k_fill
    exact named
  clear hfill
  refine wpAny_call ?_
  k_dflt cell_enter
  k_steps
  all_goals refine endB hret ?_ (by assumption) (by assumption) sub0
  all_goals (refine decide_eq_decide.mpr ?_; simp only [mOff]; omega)
--<LINES
local macro_rules | `(tactic| walk_at "call ref") => `(tactic| (k_here; k_dflt (refine' Says.useB (leapP_says _ _ _ _ _ ?pre0 ?pre1 ?pre2) ?B ?F ?X ?N ?hP ?T ?hk ?hd ?hu ?_; (case B => k_asm); (case F => k_asm); (case X => k_asm); (case N => k_asm); (case T => k_asm); (case pre0 => assumption); (case pre1 => assumption); (case pre2 => assumption); (case hP => repeat (first | assumption | refine Has.more ?_)); (case hk => first | exact rfl | assumption); (case hd => ktr_room); (case hu => ktr_units); intro h9 tk9 F9 N9; (try dsimp only); (try k_fold))))
--LINES>
def pM (n : Int) : Int := if n ≤ 186 then -(-n / 31) else -(-(n - 6) / 30)
def pD (n : Int) : Int := if n ≤ 186 then n - (pM n - 1) * 31 else n - (pM n - 1) * 30 - 6
theorem fromJdP_says (jd : Int) (t1 : Tok) (need : Led) (eq : Addr) (o : Int → Int) (c : Int) (q : Eqx need eq o) (K : Known o jd c) :
    Says 80 7 (Has need) [.int jd t1, .ref eq] (OutT3 (c - 621) (pM (jd - (o c - 1))) (pD (jd - (o c - 1)))) := by
  w_top off
  k_with_none
  unfold Says
  intro prog w p loose mean mg mb dp un gd cn cs a ccd cl outer A₀ base h₀ L m news s Q E B F X N hP T hk hdp hun hret
  have hfill : PySem.Challenge.rw_bn0006_01 = PySem.Challenge.rw_bn0006_01 ∧ hd.heap_39 = hd.heap_39 := by
    k_fill
    exact named
  clear hfill
  refine wpAny_call ?_
  k_dflt cell_enter
  k_steps
  all_goals refine endT3 hret (by assumption) (by assumption) (by k_mem) (subS sub0) K.year ?_ (fun _ h2 => ?_)
  all_goals first
    | (rw [pM, if_pos (by omega)]; done)
    | (rw [pM, if_neg (by omega)]; done)
    | (rw [pD, ← h2, if_pos (by omega)]; done)
    | (rw [pD, ← h2, if_neg (by omega)]; done)
--<LINES
local macro_rules | `(tactic| walk_at "call ref") => `(tactic| (k_here; k_dflt (refine' Says.useT3 (fromJdP_says _ _ _ _ _ _ ?pre0 ?pre1) ?B ?F ?X ?N ?hP ?T ?hk ?hd ?hu ?_; (case B => k_asm); (case F => k_asm); (case X => k_asm); (case N => k_asm); (case T => k_asm); (case pre0 => assumption); (case pre1 => assumption); (case hP => repeat (first | assumption | refine Has.more ?_)); (case hk => first | exact rfl | assumption); (case hd => ktr_room); (case hu => ktr_units); intro a9 t9 u9 v9 h9 tk9 F9 N9; (try dsimp only); (try k_fold))))
--LINES>
theorem fromG_says (y mo d : Int) (t1 t2 t3 : Tok) (need : Led) (eq : Addr) (o : Int → Int) (c : Int) (q : Eqx need eq o) (h0 : Legal y mo d) (K : Known o (gJd y mo d) c) :
    Says 87 8 (Has need) [.int y t1, .int mo t2, .int d t3, .ref eq] (OutT3 (c - 621) (pM (gJd y mo d - (o c - 1))) (pD (gJd y mo d - (o c - 1)))) := by
  w_top off
  k_with_none
  unfold Says
  intro prog w p loose mean mg mb dp un gd cn cs a ccd cl outer A₀ base h₀ L m news s Q E B F X N hP T hk hdp hun hret
  have hfill : PySem.Challenge.rw_bn0006_01 = PySem.Challenge.rw_bn0006_01 ∧ hd.heap_39 = hd.heap_39 := by
    k_fill
    exact named
  clear hfill
  refine wpAny_call ?_
  k_dflt cell_enter
  k_steps
  all_goals exact endT3 hret (by assumption) (by assumption) (by k_mem) (subS sub0) rfl rfl (fun _ _ => rfl)
--<LINES
local macro_rules | `(tactic| walk_at "call ref") => `(tactic| (k_here; k_dflt (refine' Says.useT3 (fromG_says _ _ _ _ _ _ _ _ _ _ ?pre0 ?pre1 ?pre2) ?B ?F ?X ?N ?hP ?T ?hk ?hd ?hu ?_; (case B => k_asm); (case F => k_asm); (case X => k_asm); (case N => k_asm); (case T => k_asm); (case pre0 => assumption); (case pre1 => assumption); (case pre2 => assumption); (case hP => repeat (first | assumption | refine Has.more ?_)); (case hk => first | exact rfl | assumption); (case hd => ktr_room); (case hu => ktr_units); intro a9 t9 u9 v9 h9 tk9 F9 N9; (try dsimp only); (try k_fold))))
--LINES>
theorem toG_says (y mo d : Int) (t1 t2 t3 : Tok) (need : Led) (eq : Addr) (o : Int → Int) (q : Eqx need eq o) (G : Guessed o y) :
    Says 94 9 (Has need) [.int y t1, .int mo t2, .int d t3, .ref eq] (OutT3 (gY (o (y + 621) - 1 + mOff mo + d)) (gM (o (y + 621) - 1 + mOff mo + d)) (gD (o (y + 621) - 1 + mOff mo + d))) := by
  w_top off
  k_with_none
  unfold Says
  intro prog w p loose mean mg mb dp un gd cn cs a ccd cl outer A₀ base h₀ L m news s Q E B F X N hP T hk hdp hun hret
  have hfill : PySem.Challenge.rw_bn0006_01 = PySem.Challenge.rw_bn0006_01 ∧ hd.heap_39 = hd.heap_39 := by
    k_fill
    exact named
  clear hfill
  refine wpAny_call ?_
  k_dflt cell_enter
  k_steps
  all_goals exact endT3 hret (by assumption) (by assumption) (by k_mem) (subS sub0) rfl rfl (fun _ _ => rfl)
--<LINES
local macro_rules | `(tactic| walk_at "call ref") => `(tactic| (k_here; k_dflt (refine' Says.useT3 (toG_says _ _ _ _ _ _ _ _ _ ?pre0 ?pre1) ?B ?F ?X ?N ?hP ?T ?hk ?hd ?hu ?_; (case B => k_asm); (case F => k_asm); (case X => k_asm); (case N => k_asm); (case T => k_asm); (case pre0 => assumption); (case pre1 => assumption); (case hP => repeat (first | assumption | refine Has.more ?_)); (case hk => first | exact rfl | assumption); (case hd => ktr_room); (case hu => ktr_units); intro a9 t9 u9 v9 h9 tk9 F9 N9; (try dsimp only); (try k_fold))))
--LINES>
theorem mLen_says (y mo : Int) (t1 t2 : Tok) (need : Led) (eq : Addr) (o : Int → Int) (q : Eqx need eq o) (G : Guessed o y) (G' : Guessed o (y + 1)) :
    Says 101 10 (Has need) [.int y t1, .int mo t2, .ref eq] (OutI (if 7 ≤ mo ∧ mo ≤ 11 ∨ mo = 12 ∧ o (y + 1 + 621) - o (y + 621) > 365 then 30 else if 1 ≤ mo ∧ mo ≤ 6 then 31 else 29)) := by
  w_top off
  k_with_none
  unfold Says
  intro prog w p loose mean mg mb dp un gd cn cs a ccd cl outer A₀ base h₀ L m news s Q E B F X N hP T hk hdp hun hret
  have hfill : PySem.Challenge.rw_bn0006_01 = PySem.Challenge.rw_bn0006_01 ∧ hd.heap_39 = hd.heap_39 := by
    k_fill
    exact named
  clear hfill
  refine wpAny_call ?_
  k_dflt cell_enter
  k_steps
  all_goals refine endI hret ?_ (by assumption) (by assumption) sub0
  all_goals ((repeat' split) <;> omega)
--<LINES
local macro_rules | `(tactic| walk_at "call ref") => `(tactic| (k_here; k_dflt (refine' Says.useI (mLen_says _ _ _ _ _ _ _ ?pre0 ?pre1 ?pre2) ?B ?F ?X ?N ?hP ?T ?hk ?hd ?hu ?_; (case B => k_asm); (case F => k_asm); (case X => k_asm); (case N => k_asm); (case T => k_asm); (case pre0 => assumption); (case pre1 => assumption); (case pre2 => assumption); (case hP => repeat (first | assumption | refine Has.more ?_)); (case hk => first | exact rfl | assumption); (case hd => ktr_room); (case hu => ktr_units); intro t9 h9 tk9 F9 N9; (try dsimp only); (try k_fold))))
--LINES>

def offK : List Int → Int → Int
  | [], _ => 0
  | s :: l, x => if x < s then 0 else 1 + offK l (x - s)
def offR : List Int → Int → Int
  | [], x => x
  | s :: l, x => if x < s then x else offR l (x - s)
theorem offK_go {s x : Int} {l : List Int} (h : s ≤ x) : offK (s :: l) x = 1 + offK l (x - s) := if_neg (by omega)
theorem offK_stop {s x : Int} {l : List Int} (h : ¬ s ≤ x) : offK (s :: l) x = 0 := if_pos (by omega)
theorem offR_go {s x : Int} {l : List Int} (h : s ≤ x) : offR (s :: l) x = offR l (x - s) := if_neg (by omega)
theorem offR_stop {s x : Int} {l : List Int} (h : ¬ s ≤ x) : offR (s :: l) x = x := if_pos (by omega)
section
variable {prog : Program} {w : World} {A : Around} {E : Value → Shared → Prop} {s : Shared} {h₀ : Heap} {L a : Addr} {news : Led} {value slice : PySem.Expr} {us : List Value} {n : Nat} {k : Int} {u : Tok} {x : Value} {Q : Value → Shared → Prop}
theorem my_item (N : News h₀ L s.heap news) (hm : (a, listOf us.toArray n) ∈ news) (h0 : 0 ≤ k) (hfit : k < 2 ^ 63) (hx : us[k.toNat]? = some x) (h : Q x s)
    (hs : subscripted slice false (.ref a) (.int k u) = operate [.ref a, .int k u] (getItem (.ref a) (.int k u)) := by with_unfolding_all rfl) (hg : ∀ r, letTemporaryGo value (.ref a) r = pure () := by intro _; with_unfolding_all rfl) :
    wpAny (model prog w) A (subscriptTail value slice (.ref a) (.int k u)) Q E s := kim_list N hm rfl rfl h0 hfit hx h hs hg
end
section
local macro_rules | `(tactic| walk_at "exec While Compare cons nil") => `(tactic| (k_here; k_dflt (refine whl_start 20 ?_)))
local macro_rules | `(tactic| walk_at "subscriptTail Name Name ref int") => `(tactic| (k_here; k_dflt (refine' my_item ?N ?m ?h0 ?h1 ?hx ?_; (case N => k_asm); (case m => assumption); (case h0 => decide); (case h1 => decide); (case hx => rfl); k_whole)))
theorem off_says (rest : Int) (t1 : Tok) (l : Addr) (n : Nat) (s0 s1 s2 s3 s4 s5 s6 s7 s8 s9 s10 s11 : Int) (u0 u1 u2 u3 u4 u5 u6 u7 u8 u9 u10 u11 : Tok) (hs : rest < s0 + s1 + s2 + s3 + s4 + s5 + s6 + s7 + s8 + s9 + s10 + s11) :
    Says 116 1 (Has [(l, listOf #[.int s0 u0, .int s1 u1, .int s2 u2, .int s3 u3, .int s4 u4, .int s5 u5, .int s6 u6, .int s7 u7, .int s8 u8, .int s9 u9, .int s10 u10, .int s11 u11] n)]) [.int rest t1, .ref l] (OutT2 (offK [s0, s1, s2, s3, s4, s5, s6, s7, s8, s9, s10, s11] rest) (offR [s0, s1, s2, s3, s4, s5, s6, s7, s8, s9, s10, s11] rest)) := by
  w_top off
  k_with_none
  unfold Says
  intro prog w p loose mean mg mb dp un gd cn cs a ccd cl outer A₀ base h₀ L m news s Q E B F X N hP T hk hdp hun hret
  have hfill : PySem.Challenge.rw_bn0006_01 = PySem.Challenge.rw_bn0006_01 ∧ hd.heap_39 = hd.heap_39 := by
    k_fill
    exact named
  clear hfill
  refine wpAny_call ?_
  k_dflt cell_enter
  have hm : (l, listOf #[.int s0 u0, .int s1 u1, .int s2 u2, .int s3 u3, .int s4 u4, .int s5 u5, .int s6 u6, .int s7 u7, .int s8 u8, .int s9 u9, .int s10 u10, .int s11 u11] n) ∈ news := hP _ (.head _)
  k_steps
  all_goals refine endT2 hret (by assumption) (by assumption) (by k_mem) (subS sub0) ?_ ?_
  all_goals (repeat (first | rw [offK_go (by assumption)] | rw [offR_go (by assumption)]))
  all_goals first | rw [offK_stop (by assumption)] | rw [offR_stop (by assumption)] | rw [offK_stop (by omega)] | rw [offR_stop (by omega)]
  all_goals rfl
end
theorem off_knows (rest : Int) (t1 : Tok) (l : Addr) (n : Nat) (s0 s1 s2 s3 s4 s5 s6 s7 s8 s9 s10 s11 : Int) (u0 u1 u2 u3 u4 u5 u6 u7 u8 u9 u10 u11 : Tok) (hs : rest < s0 + s1 + s2 + s3 + s4 + s5 + s6 + s7 + s8 + s9 + s10 + s11) (k r : Int) (hk : k = offK [s0, s1, s2, s3, s4, s5, s6, s7, s8, s9, s10, s11] rest) (hr : r = offR [s0, s1, s2, s3, s4, s5, s6, s7, s8, s9, s10, s11] rest) :
    Says 116 1 (Has [(l, listOf #[.int s0 u0, .int s1 u1, .int s2 u2, .int s3 u3, .int s4 u4, .int s5 u5, .int s6 u6, .int s7 u7, .int s8 u8, .int s9 u9, .int s10 u10, .int s11 u11] n)]) [.int rest t1, .ref l] (OutT2 k r) := by
  subst hk hr
  exact off_says _ _ _ _ _ _ _ _ _ _ _ _ _ _ _ _ _ _ _ _ _ _ _ _ _ _ _ _ hs
--<LINES
local macro_rules | `(tactic| walk_at "call ref") => `(tactic| (k_here; k_dflt (refine' Says.useT2 (off_knows _ _ _ _ _ _ _ _ _ _ _ _ _ _ _ _ _ _ _ _ _ _ _ _ _ _ _ _ ?hs _ _ ?hk9 ?hr9) ?B ?F ?X ?N ?hP ?T ?hk ?hd ?hu ?_; (case B => k_asm); (case F => k_asm); (case X => k_asm); (case N => k_asm); (case T => k_asm); (case hP => exact Has.one (by k_mem)); (case hs => first | assumption | omega); (case hk9 => first | (with_reducible assumption) | exact rfl); (case hr9 => first | (with_reducible assumption) | exact rfl); (case hk => first | exact rfl | assumption); (case hd => ktr_room); (case hu => ktr_units); intro a9 t9 u9 h9 tk9 F9 N9; (try dsimp only); (try k_fold))))
--LINES>

section
open LCg LCt
variable {prog : Program} {w : World} {A : Around} {E : Value → Shared → Prop} {s : Shared} {h₀ : Heap} {L : Addr} {m : Str → Option Value} {env : Env}
def SrcT (ax : Addr) (its : Array Value) (news : Led) : Prop := ∃ o, (ax, o) ∈ news ∧ o.cls = .type "tuple" ∧ ∃ n, o.data = .seq its n
theorem SrcT.tup {ax : Addr} {its : Array Value} {news : Led} {h : Heap} (x : SrcT ax its news) (N : News h₀ L h news) : h.IsTuple ax its := by
  obtain ⟨o, hm, r⟩ := x
  exact ⟨o, (N _ hm).1, r⟩
theorem tup_st {ax I : Addr} {its : Array Value} : ∀ i (h h' : Heap) (o : Obj) (nw : Led), (h.IsTupleIter I ax i ∧ h.IsTuple ax its) → h.get? I = some o → h'.get? I = some o → (∀ b o, h₀.get? b = some o → h'.get? b = some o) → News h₀ L h' nw → SrcT ax its nw → (h'.IsTupleIter I ax i ∧ h'.IsTuple ax its) :=
  fun i h h' o nw st e e' _ N S => ⟨by obtain ⟨o', q, r⟩ := st.1; rw [e] at q; cases q; exact ⟨o, e', r⟩, S.tup N⟩
/-- a comprehension with one test over a made tuple, turn by turn (the library's rule for lists, turned to tuples) -/
theorem comp_tup {ct elt iter : PySem.Expr} {x : Str} {px : Pos} {scope : Scope} {cl : List (Str × Addr)} {pos : Pos} {Q : Value → Shared → Prop} (F₀ : Fr h₀ L s.heap m)
    (hclos : closureFor scope env = pure cl) (hcell : ∀ y ∈ scope.names, y.2 ≠ .cell) (hkind : scope.kind = .function)
    (hnames : ∀ y ∈ scope.names, y.2 = .local → scope.names.lookup y.1 = some .local) (hx : scope.names.lookup x = some .local)
    (h : wpAny (model prog w) A (eval iter env) (fun xv s₁ => ∃ ax its news, xv = .ref ax ∧ A.handled = none ∧ Fr h₀ L s₁.heap m ∧ News h₀ L s₁.heap news ∧ SrcT ax its news ∧ its.size ≤ sizeLine ∧
      ∀ g, CompRestT prog w A h₀ L m env ct elt x scope cl { s₁ with heap := g } (SrcT ax its) (fun i v => its[i]? = some v) (FinE h₀ L m { s₁ with heap := g } Q) its.size 0 [] news) E s)
    (hs : ∀ x, foldedSetIterable iter env x = pure x := by intro _; rfl) :
    wpAny (model prog w) A (eval (.ListComp elt [⟨.Name x px, iter, [ct], 0⟩] scope pos) env) Q E s := by
  rw [eval_ListComp]
  refine wpAny_comprehension_free (use := none) rfl hs hclos hkind hnames (wpAny_mono h (fun xv s₁ h₁ => ?_) fun _ _ e => e)
  obtain ⟨ax, its, news, rfl, hh, F, N, S, hsz, R⟩ := h₁
  have hl : s₁.heap.IsTuple ax its := S.tup N
  have hlt : ax < s₁.heap.objs.size := by obtain ⟨_, e, _⟩ := hl; exact Heap.lt_size e
  refine wpAny_pyIter_tuple hl ?_
  have up : ∀ b o, s₁.heap.get? b = some o → (s₁.heap.push { cls := .type "tuple_iterator", data := .fields #[.ref ax, .int 0 0] }).get? b = some o := fun b o e => Heap.get?_push_of_some _ e
  refine block_T (Walks.tuple hh s₁.heap.objs.size ax (Nat.ne_of_lt hlt) its) hsz (fun i h st => by obtain ⟨o, e, _⟩ := st.1; exact ⟨o, e⟩) tup_st hcell hkind hx ⟨⟨_, Heap.get?_push_size _ rfl, rfl, rfl⟩, hl.push _⟩ (fun b hb => ?_)
    (F.keeps up) (N.grown up) (Nat.ne_of_lt F.ns.lt) (next_is_new F) (fun p hp => Nat.ne_of_lt (Heap.lt_size (N p hp).1)) S (R _) ?_
  · show b < (s₁.heap.push _).objs.size
    rw [Heap.size_push]
    rcases List.mem_cons.mp hb with rfl | hb
    · exact Nat.lt_succ_self _
    · rw [List.mem_singleton.mp hb]; exact Nat.lt_succ_of_lt hlt
  · intro D C h tk m' ys news' F' N' o1 hn hC₀ hD₀ hCL hDL hCD offC fin
    refine ⟨m', hn, fun h'' hs'' => fin D h'' tk (F'.change hs'' hCL hC₀) (fun p hp => ?_) o1⟩
    refine ⟨hs''.extBut _ _ ?_ (N' p hp).1, (N' p hp).2⟩
    rcases List.mem_cons.mp hp with rfl | hp
    · exact Ne.symm hCD
    · exact offC p hp
end

/-- a fact kept out of omega's sight -/
structure Hide (p : Prop) : Prop where
  out : p
def yLen (y : Int) : Int := if Leap y then 366 else 365
section
local macro_rules | `(tactic| walk_at "eval ListComp") => `(tactic| (k_here; k_dflt (refine comp_tup (F₀ := by k_asm) (by with_unfolding_all rfl) (by decide) (by rfl) (by decide) (by rfl) ?_)))
local macro_rules | `(tactic| walk_at "Exists") => `(tactic| (k_dflt (refine ⟨_, _, _, rfl, rfl, by k_asm, by k_asm, ⟨_, by k_mem, rfl, _, rfl⟩, Nat.le_of_ble_eq_true rfl, ?_⟩); intro g9))
local macro_rules | `(tactic| walk_at "CompRestT") => `(tactic| (with_unfolding_all first
  | (refine LCt.CompRestT.succ ?_; intro v' I' oI' C' oC' D' m' h' tk' E' hv' hC' hx' F' N' off' ne'; lcg_open hv'; replace off' := Hide.mk off'; clear ne')
  | refine LCt.CompRestT.zero ?_))
local macro_rules | `(tactic| walk_at "CompEnd") => `(tactic| (k_dflt (refine LCg.CompEnd.intro (by k_asm) (by k_asm) _ (fun _ h9 => h9) (Hide.out (by assumption)) ⟨_, by k_mem, rfl, _, rfl⟩ ?_)))
local macro_rules | `(tactic| walk_at "FinE") => `(tactic| ((unfold LCg.FinE); intro D' h' tk' F' N' o1'; clear o1'; (try simp only [List.nil_append, List.cons_append] at N'); (try dsimp only)))
theorem yLen_says (y : Int) (t1 : Tok) : Says 121 1 Any [.int y t1] (OutI (yLen y)) := by
  w_top off
  k_with_none
  unfold Says
  intro prog w p loose mean mg mb dp un gd cn cs a ccd cl outer A₀ base h₀ L m news s Q E B F X N hP T hk hdp hun hret
  have hfill : PySem.Challenge.rw_bn0006_01 = PySem.Challenge.rw_bn0006_01 ∧ hd.heap_39 = hd.heap_39 := by
    k_fill
    exact named
  clear hfill
  refine wpAny_call ?_
  k_dflt (refine' code_defC ?k1 ?k2 ?k3 ?k4 ?k5 ?kA ?kF ?kK ?k6 ?k7 ?k8 ?k9 ?kB ?kD ?_ ?c2 ?c3 ?c4; (case kA => exact rfl); (case kF => exact rfl); (case kK => assumption); (case k1 => k_asm); (case k2 => k_asm); (case k3 => k_asm); (case k4 => k_asm); (case k5 => k_asm); (case k6 => k_is); (case k7 => k_is); (case k8 => ktr_room); (case k9 => exact BindsTo.of_eq rfl); (case kB => exact rfl); (case kD => decide +kernel); (case c2 => exact rfl); (case c3 => exact rfl); (case c4 => exact rfl); k_whole; intro g' L' h' tk' cells' FG' F' N' Y' B' X' T' l1; (try k_lt l1); k_cells Y'; (try simp only [List.cons_append, List.nil_append] at N'); (try dsimp only); (try k_fold))
  k_steps
  all_goals refine endI hret ?_ (by assumption) (by assumption) (subS (subS (subS sub0)))
  all_goals (simp only [yLen, Leap, List.length_append, List.length_cons, List.length_nil, List.nil_append, List.cons_append]; omega)
end
--<LINES
local macro_rules | `(tactic| walk_at "call ref") => `(tactic| (k_here; k_dflt (refine' Says.useI (yLen_says _ _) ?B ?F ?X ?N ?hP ?T ?hk ?hd ?hu ?_; (case B => k_asm); (case F => k_asm); (case X => k_asm); (case N => k_asm); (case T => k_asm); (case hP => exact trivial); (case hk => first | exact rfl | assumption); (case hd => ktr_room); (case hu => ktr_units); intro t9 h9 tk9 F9 N9; (try dsimp only); (try k_fold))))
--LINES>
def nxY (y mo d : Int) (l : List Int) : Int := if d < l.getD (mo - 1).toNat 0 then y else if mo < (l.length : Int) then y else y + 1
def nxM (mo d : Int) (l : List Int) : Int := if d < l.getD (mo - 1).toNat 0 then mo else if mo < (l.length : Int) then mo + 1 else 1
def nxD (mo d : Int) (l : List Int) : Int := if d < l.getD (mo - 1).toNat 0 then d + 1 else 1
theorem next_says (y mo d : Int) (r : Addr) (t1 t2 t3 : Tok) (l : Addr) (us : List Value) (n : Nat) (ss : List Int) (hI : IntsAre us ss) (hm0 : 1 ≤ mo) (hm1 : mo ≤ (ss.length : Int)) (hm2 : ss.length ≤ 64) :
    Says 135 1 (Has [(r, tupObj [.int y t1, .int mo t2, .int d t3]), (l, listOf us.toArray n)]) [.ref r, .ref l] (OutT3 (nxY y mo d ss) (nxM mo d ss) (nxD mo d ss)) := by
  w_top off
  k_with_none
  unfold Says
  intro prog w p loose mean mg mb dp un gd cn cs a ccd cl outer A₀ base h₀ L m news s Q E B F X N hP T hk hdp hun hret
  have hfill : PySem.Challenge.rw_bn0006_01 = PySem.Challenge.rw_bn0006_01 ∧ hd.heap_39 = hd.heap_39 := by
    k_fill
    exact named
  clear hfill
  refine wpAny_call ?_
  k_dflt cell_enter
  have hr : (r, tupObj [.int y t1, .int mo t2, .int d t3]) ∈ news := hP _ (.head _)
  have hl : (l, listOf us.toArray n) ∈ news := hP _ (.tail _ (.head _))
  k_steps
  all_goals refine endT3 hret (by assumption) (by assumption) (by k_mem) (subS sub0) ?_ ?_ (fun _ _ => ?_)
  all_goals (simp only [nxY, nxM, nxD]; (repeat' split) <;> first | rfl | contradiction | omega)
--<LINES
local macro_rules | `(tactic| walk_at "call ref") => `(tactic| (k_here; k_dflt (refine' Says.useT3 (next_says _ _ _ _ _ _ _ _ _ _ _ ?hI ?h0 ?h1 ?h2) ?B ?F ?X ?N ?hP ?T ?hk ?hd ?hu ?_; (case B => k_asm); (case F => k_asm); (case X => k_asm); (case N => k_asm); (case T => k_asm); (case hP => exact Has.two (by k_mem) (by k_mem)); (case hI => exact IntsAre.cons _ _ (IntsAre.cons _ _ (IntsAre.cons _ _ (IntsAre.cons _ _ (IntsAre.cons _ _ (IntsAre.cons _ _ (IntsAre.cons _ _ (IntsAre.cons _ _ (IntsAre.cons _ _ (IntsAre.cons _ _ (IntsAre.cons _ _ (IntsAre.cons _ _ (IntsAre.nil))))))))))))); (case h0 => omega); (case h1 => (simp only [List.length_cons, List.length_nil]; omega)); (case h2 => (simp only [List.length_cons, List.length_nil]; omega)); (case hk => first | exact rfl | assumption); (case hd => ktr_room); (case hu => ktr_units); intro a9 t9 u9 v9 h9 tk9 F9 N9; (try dsimp only); (try k_fold))))
--LINES>

section
variable {prog : Program} {w : World} {A A₀ : Around} {s : Shared} {K : Frag} {L : Addr} {h₀ base : Heap} {m mg mb : Str → Option Value} {news : Led} {p : Program} {loose : List Str} {mean : ExcName → Option Value}
/-- a def is entered with an empty ledger: all that stands is base, and so it stands behind the call -/
theorem code_def0 {env : Env} {outer : List Env} {R : Result → Shared → Prop} {name qual : Str} {params : Arguments} {body : List Stmt} {scope : Scope} {dV kV doc pm cdv ct oc : Value} {an od : Option Addr} {osl : Array (Option Value)} {f : Addr} {args : Args} {binds : List (Str × Value)}
    (B : Below A₀ base outer h₀) (F : Fr h₀ L s.heap m) (X₀ : K.In h₀) (N : News h₀ L s.heap news) (T : Top p loose mean mg mb h₀) (hA : A.frames = some (env :: outer)) (hf : env.frame = some L) (hke : env.scope.kind = .function)
    (ho : K.lookup f = some ⟨oc, od, .func (fnOf name qual params body scope dV kV doc pm an cdv ct), osl⟩) (hcd : codeIn K cdv qual = true) (hroom : A.depth < recursionLimit)
    (hbind : BindsTo s (fnOf name qual params body scope dV kV doc pm an cdv ct) args binds) (hloc : ∀ y ∈ binds, scope.names.lookup y.1 = some .local)
    (h : ∀ g L' h₁, Fr h₀ L g m → Fr g L' h₁ (fun y => binds.reverse.lookup y) → News g L' h₁ [] → Below A base (env :: outer) g → K.In g → Top p loose mean mg mb g →
      wpAny (model prog w) (A.deeper (envOf qual scope L' f cdv)) (execs body (envOf qual scope L' f cdv))
        (fun fl s' => LeaveK h₀ L m g (fun r s' => News h₀ L s'.heap news → R r s') (match fl with | .ret v => v | _ => .none) s')
        (fun e s' => wpAny (model prog w) (A.deeper (envOf qual scope L' f cdv)) (leaving (envOf qual scope L' f cdv) e) (fun _ s'' => R (.error e) s'') (fun e' s'' => R (.error e') s'') s')
        { s with heap := h₁, toks := s.toks + binds.length })
    (hco : scope.isCoroutine = false) (hgen : scope.isGenerator = false) (hk : scope.kind = .function)
    (hcell : ∀ x ∈ scope.names, x.2 ≠ .cell) : codeAny (model prog w) A (.call (.ref f) args) R s := by
  obtain ⟨FG, BG, st, lv⟩ := groundX (R := fun r s' => News h₀ L s'.heap news → R r s') (news := []) B F News.nil hA hf hke
  refine codeAny_call_def (fd := fnOf name qual params body scope dV kV doc pm an cdv ct) (body := body) (binds := binds) hroom ((X₀.keeps F.keep) _ _ ho) rfl (T.nolimit.keeps F.keep) (codeRec_of (X₀.keeps F.keep) hcd) rfl hbind hcell hloc (fun h₁ hns hk₁ => ?_) hco hgen hk
  refine wpAny_mono (h _ s.heap.objs.size h₁ FG ⟨hns, hk₁, Nat.le_refl _⟩ News.nil BG (X₀.keeps st) (T.keeps st)) (fun fl s' hl => ?_) fun _ _ y => y
  refine lv _ _ hl ?_
  obtain ⟨L', m', news', F', N', _⟩ := hl
  exact fun q hq => ⟨F'.keep _ _ (N q hq).1, (N q hq).2⟩
end
theorem endT3z {h₀ h' : Heap} {L : Addr} {m : Str → Option Value} {news news' : Led} {s : Shared} {Q : Value → Shared → Prop} {tk' : Nat} {i j k i' j' k' : Int} {t u v : Tok} {a : Addr} (hret : ∀ r tl h' tk', Fr h₀ L h' m → News h₀ L h' (tl ++ news) → OutT3 i j k tl r → Q r { s with heap := h', toks := tk' }) (F : Fr h₀ L h' m) (N : News h₀ L h' ((a, tupObj [.int i' t, .int j' u, .int k' v]) :: news'))
    (e1 : i' = i) (e2 : j' = j) (e3 : k' = k) (N0 : News h₀ L h' news) : Q (.ref a) { s with heap := h', toks := tk' } := by
  subst e1 e2 e3
  exact hret _ [_] _ _ F (fun p hp => (List.mem_cons.mp hp).elim (fun e => e ▸ N _ (.head _)) (N0 p)) ⟨a, t, u, v, rfl, rfl⟩
/-! the plain law of the Gregorian reckoning -/
theorem J_eq (y : Int) : gJd y 1 1 = 1721426 + 365 * (y - 1) + (y - 1) / 4 - (y - 1) / 100 + (y - 1) / 400 := by
  simp only [gJd, gAdj]; omega
theorem J_next (y : Int) : gJd (y + 1) 1 1 = gJd y 1 1 + yLen y := by
  rw [J_eq, J_eq, yLen]; simp only [Leap]; split <;> omega
theorem yLen_or (y : Int) : yLen y = 365 ∨ yLen y = 366 := by
  rw [yLen]; split <;> omega
theorem J_mono {a b : Int} (h : a ≤ b) : gJd a 1 1 ≤ gJd b 1 1 := by
  rw [J_eq, J_eq]
  by_cases e : a = b
  · subst e; omega
  · omega
theorem gY_in (jd : Int) : gJd (gY jd) 1 1 ≤ jd ∧ jd < gJd (gY jd) 1 1 + yLen (gY jd) := by
  have hy : ∃ q c k i : Int, gY jd = 400 * q + 100 * c + 4 * k + i + 1 ∧ 0 ≤ c ∧ c ≤ 3 ∧ 0 ≤ k ∧ k ≤ 24 ∧ 0 ≤ i ∧ i ≤ 3 ∧
      146097 * q + 36524 * c + 1461 * k + 365 * i ≤ jd - 1721426 ∧
      (jd - 1721426 < 146097 * q + 36524 * c + 1461 * k + 365 * i + 365 ∨ (i = 3 ∧ (k < 24 ∨ c = 3) ∧ jd - 1721426 < 146097 * q + 36524 * c + 1461 * k + 365 * i + 366)) := by
    by_cases hc : ((jd - 1721426) % 146097 / 36524 = 4 ∨ (jd - 1721426) % 146097 % 36524 % 1461 / 365 = 4)
    · have e : gY jd = _ := if_pos hc
      rw [e]
      clear e
      generalize jd - 1721426 = d at *
      by_cases h4 : d % 146097 / 36524 = 4
      · exact ⟨d / 146097, 3, 24, 3, by omega, by omega, by omega, by omega, by omega, by omega, by omega, by omega, by omega⟩
      · exact ⟨d / 146097, d % 146097 / 36524, d % 146097 % 36524 / 1461, 3, by omega, by omega, by omega, by omega, by omega, by omega, by omega, by omega, by omega⟩
    · have e : gY jd = _ := if_neg hc
      rw [e]
      clear e
      generalize jd - 1721426 = d at *
      exact ⟨d / 146097, d % 146097 / 36524, d % 146097 % 36524 / 1461, d % 146097 % 36524 % 1461 / 365, by omega, by omega, by omega, by omega, by omega, by omega, by omega, by omega, by omega⟩
  obtain ⟨q, c, k, i, e, h1, h2, h3, h4, h5, h6, h7, h8⟩ := hy
  rw [e, J_eq, yLen]
  have e1 : (400 * q + 100 * c + 4 * k + i + 1 - 1) / 4 = 100 * q + 25 * c + k := by omega
  have e2 : (400 * q + 100 * c + 4 * k + i + 1 - 1) / 100 = 4 * q + c := by omega
  have e3 : (400 * q + 100 * c + 4 * k + i + 1 - 1) / 400 = q := by omega
  rw [e1, e2, e3]
  refine ⟨by omega, ?_⟩
  rcases h8 with h8 | ⟨rfl, h9, h8⟩
  · split <;> omega
  · have l : Leap (400 * q + 100 * c + 4 * k + 3 + 1) := by simp only [Leap]; omega
    rw [if_pos l]; omega
theorem gY_of {jd y : Int} (h1 : gJd y 1 1 ≤ jd) (h2 : jd < gJd y 1 1 + yLen y) : gY jd = y := by
  have h := gY_in jd
  rw [← J_next] at h h2
  by_cases a : gY jd < y
  · have := J_mono (show gY jd + 1 ≤ y by omega); omega
  · by_cases b : y < gY jd
    · have := J_mono (show y + 1 ≤ gY jd by omega); omega
    · omega
/-- the lengths of a Gregorian year's months, its length handed in -/
abbrev gSizes (n : Int) : List Int := [31, n - 337, 31, 30, 31, 30, 31, 31, 30, 31, 30, 31]
theorem off_cases {n r : Int} (h0 : 0 ≤ r) (h1 : r < n) :
    (offK (gSizes n) r = 0 ∧ offR (gSizes n) r = r - (0) ∧ 0 ≤ r ∧ r < 31) ∨
    (offK (gSizes n) r = 1 ∧ offR (gSizes n) r = r - (31) ∧ 31 ≤ r ∧ r < n - 306) ∨
    (offK (gSizes n) r = 2 ∧ offR (gSizes n) r = r - (n - 306) ∧ n - 306 ≤ r ∧ r < n - 275) ∨
    (offK (gSizes n) r = 3 ∧ offR (gSizes n) r = r - (n - 275) ∧ n - 275 ≤ r ∧ r < n - 245) ∨
    (offK (gSizes n) r = 4 ∧ offR (gSizes n) r = r - (n - 245) ∧ n - 245 ≤ r ∧ r < n - 214) ∨
    (offK (gSizes n) r = 5 ∧ offR (gSizes n) r = r - (n - 214) ∧ n - 214 ≤ r ∧ r < n - 184) ∨
    (offK (gSizes n) r = 6 ∧ offR (gSizes n) r = r - (n - 184) ∧ n - 184 ≤ r ∧ r < n - 153) ∨
    (offK (gSizes n) r = 7 ∧ offR (gSizes n) r = r - (n - 153) ∧ n - 153 ≤ r ∧ r < n - 122) ∨
    (offK (gSizes n) r = 8 ∧ offR (gSizes n) r = r - (n - 122) ∧ n - 122 ≤ r ∧ r < n - 92) ∨
    (offK (gSizes n) r = 9 ∧ offR (gSizes n) r = r - (n - 92) ∧ n - 92 ≤ r ∧ r < n - 61) ∨
    (offK (gSizes n) r = 10 ∧ offR (gSizes n) r = r - (n - 61) ∧ n - 61 ≤ r ∧ r < n - 31) ∨
    (offK (gSizes n) r = 11 ∧ offR (gSizes n) r = r - (n - 31) ∧ n - 31 ≤ r ∧ r < n) := by
  by_cases a0 : 31 ≤ r
  rotate_left
  · rw [offK_stop a0, offR_stop a0]; exact Or.inl ⟨by omega, by omega, by omega, by omega⟩
  rw [offK_go a0, offR_go a0]
  by_cases a1 : n - 337 ≤ r - 31
  rotate_left
  · rw [offK_stop a1, offR_stop a1]; exact Or.inr (Or.inl ⟨by omega, by omega, by omega, by omega⟩)
  rw [offK_go a1, offR_go a1]
  by_cases a2 : 31 ≤ r - 31 - (n - 337)
  rotate_left
  · rw [offK_stop a2, offR_stop a2]; exact Or.inr (Or.inr (Or.inl ⟨by omega, by omega, by omega, by omega⟩))
  rw [offK_go a2, offR_go a2]
  by_cases a3 : 30 ≤ r - 31 - (n - 337) - 31
  rotate_left
  · rw [offK_stop a3, offR_stop a3]; exact Or.inr (Or.inr (Or.inr (Or.inl ⟨by omega, by omega, by omega, by omega⟩)))
  rw [offK_go a3, offR_go a3]
  by_cases a4 : 31 ≤ r - 31 - (n - 337) - 31 - 30
  rotate_left
  · rw [offK_stop a4, offR_stop a4]; exact Or.inr (Or.inr (Or.inr (Or.inr (Or.inl ⟨by omega, by omega, by omega, by omega⟩))))
  rw [offK_go a4, offR_go a4]
  by_cases a5 : 30 ≤ r - 31 - (n - 337) - 31 - 30 - 31
  rotate_left
  · rw [offK_stop a5, offR_stop a5]; exact Or.inr (Or.inr (Or.inr (Or.inr (Or.inr (Or.inl ⟨by omega, by omega, by omega, by omega⟩)))))
  rw [offK_go a5, offR_go a5]
  by_cases a6 : 31 ≤ r - 31 - (n - 337) - 31 - 30 - 31 - 30
  rotate_left
  · rw [offK_stop a6, offR_stop a6]; exact Or.inr (Or.inr (Or.inr (Or.inr (Or.inr (Or.inr (Or.inl ⟨by omega, by omega, by omega, by omega⟩))))))
  rw [offK_go a6, offR_go a6]
  by_cases a7 : 31 ≤ r - 31 - (n - 337) - 31 - 30 - 31 - 30 - 31
  rotate_left
  · rw [offK_stop a7, offR_stop a7]; exact Or.inr (Or.inr (Or.inr (Or.inr (Or.inr (Or.inr (Or.inr (Or.inl ⟨by omega, by omega, by omega, by omega⟩)))))))
  rw [offK_go a7, offR_go a7]
  by_cases a8 : 30 ≤ r - 31 - (n - 337) - 31 - 30 - 31 - 30 - 31 - 31
  rotate_left
  · rw [offK_stop a8, offR_stop a8]; exact Or.inr (Or.inr (Or.inr (Or.inr (Or.inr (Or.inr (Or.inr (Or.inr (Or.inl ⟨by omega, by omega, by omega, by omega⟩))))))))
  rw [offK_go a8, offR_go a8]
  by_cases a9 : 31 ≤ r - 31 - (n - 337) - 31 - 30 - 31 - 30 - 31 - 31 - 30
  rotate_left
  · rw [offK_stop a9, offR_stop a9]; exact Or.inr (Or.inr (Or.inr (Or.inr (Or.inr (Or.inr (Or.inr (Or.inr (Or.inr (Or.inl ⟨by omega, by omega, by omega, by omega⟩)))))))))
  rw [offK_go a9, offR_go a9]
  by_cases a10 : 30 ≤ r - 31 - (n - 337) - 31 - 30 - 31 - 30 - 31 - 31 - 30 - 31
  rotate_left
  · rw [offK_stop a10, offR_stop a10]; exact Or.inr (Or.inr (Or.inr (Or.inr (Or.inr (Or.inr (Or.inr (Or.inr (Or.inr (Or.inr (Or.inl ⟨by omega, by omega, by omega, by omega⟩))))))))))
  rw [offK_go a10, offR_go a10]
  by_cases a11 : 31 ≤ r - 31 - (n - 337) - 31 - 30 - 31 - 30 - 31 - 31 - 30 - 31 - 30
  rotate_left
  · rw [offK_stop a11, offR_stop a11]; exact Or.inr (Or.inr (Or.inr (Or.inr (Or.inr (Or.inr (Or.inr (Or.inr (Or.inr (Or.inr (Or.inr (⟨by omega, by omega, by omega, by omega⟩)))))))))))
  rw [offK_go a11, offR_go a11]
  omega
theorem gJd_md (y m d : Int) : gJd y m d = gJd y 1 1 + (367 * m - 362) / 12 + gAdj y m + (d - 1) := by
  simp only [gJd, gAdj]; omega
theorem gMD {jd y r : Int} (h : gJd y 1 1 + r = jd) (h0 : 0 ≤ r) (h1 : r < yLen y) :
    offK (gSizes (yLen y)) r + 1 = gM jd ∧ offR (gSizes (yLen y)) r + 1 = gD jd ∧ Legal y (gM jd) (gD jd) ∧ gJd y (gM jd) (gD jd) = jd := by
  have hy : gY jd = y := gY_of (by omega) (by omega)
  have hd : gYd jd = r := by rw [gYd, hy]; omega
  have hM : gM jd = ((r + gAd jd) * 12 + 373) / 367 := by rw [gM, hd]
  have hD : gD jd = jd - gJd y (gM jd) 1 + 1 := by rw [gD, hy]
  have hD' : gD jd = r - ((367 * gM jd - 362) / 12 + gAdj y (gM jd)) + 1 := by rw [hD, gJd_md]; omega
  have hE : gJd y (gM jd) (gD jd) = jd := by rw [gJd_md, hD', ← h]; omega
  have key : offK (gSizes (yLen y)) r + 1 = gM jd ∧ offR (gSizes (yLen y)) r + 1 = gD jd ∧ Legal y (gM jd) (gD jd) := by
    rw [hD']
    clear hD hD' hE
    have hc := off_cases h0 h1
    generalize offK (gSizes (yLen y)) r = a at *
    generalize offR (gSizes (yLen y)) r = b at *
    by_cases l : Leap y
    · have hl : yLen y = 366 := if_pos l
      have hA : gAd jd = if r < 59 then 0 else 1 := by
        rw [gAd, hd, hy]; simp only [if_pos l]; rfl
      rw [hl] at hc
      rw [hA] at hM
      clear hA h hd hy h1 hl
      generalize gM jd = M at *
      rcases hc with hc | hc | hc | hc | hc | hc | hc | hc | hc | hc | hc | hc
      all_goals (
        obtain ⟨e1, e2, e3, e4⟩ := hc
        have em : M = a + 1 := by split at hM <;> omega
        rw [e1] at em
        subst em e1 e2
        simp only [gAdj, Legal, l, if_true, true_and]
        clear hM
        omega)
    · have hl : yLen y = 365 := if_neg l
      have hA : gAd jd = if r < 58 then 0 else 2 := by
        rw [gAd, hd, hy]; simp only [if_neg l]; rfl
      rw [hl] at hc
      rw [hA] at hM
      clear hA h hd hy h1 hl
      generalize gM jd = M at *
      rcases hc with hc | hc | hc | hc | hc | hc | hc | hc | hc | hc | hc | hc
      all_goals (
        obtain ⟨e1, e2, e3, e4⟩ := hc
        have em : M = a + 1 := by split at hM <;> omega
        rw [e1] at em
        subst em e1 e2
        simp only [gAdj, Legal, l, if_false, true_and, false_and, and_false, false_or, or_false]
        clear hM
        omega)
  exact ⟨key.1, key.2.1, key.2.2, hE⟩

abbrev peel (sp ys : Int) (l : List Int) (p : Int × Int) : Int × Int := l.foldl (fun p _ => (if sp ≤ p.1 then p.1 - sp else p.1, if sp ≤ p.1 then p.2 + ys else p.2)) p
theorem peel_spec (sp ys : Int) : ∀ (l : List Int) (r y : Int), 0 ≤ r → ∃ j : Nat, j ≤ l.length ∧ (peel sp ys l (r, y)).1 = r - sp * j ∧ (peel sp ys l (r, y)).2 = y + ys * j ∧ 0 ≤ (peel sp ys l (r, y)).1
  | [], r, y, h => ⟨0, Nat.le_refl _, by simp, by simp, h⟩
  | k :: l, r, y, h => by
    show ∃ j : Nat, j ≤ l.length + 1 ∧ (peel sp ys l (if sp ≤ r then r - sp else r, if sp ≤ r then y + ys else y)).1 = r - sp * j ∧ (peel sp ys l (if sp ≤ r then r - sp else r, if sp ≤ r then y + ys else y)).2 = y + ys * j ∧ 0 ≤ (peel sp ys l (if sp ≤ r then r - sp else r, if sp ≤ r then y + ys else y)).1
    by_cases c : sp ≤ r
    · rw [if_pos c, if_pos c]
      obtain ⟨j, h1, h2, h3, h4⟩ := peel_spec sp ys l (r - sp) (y + ys) (by omega)
      refine ⟨j + 1, by omega, ?_, ?_, h4⟩
      · rw [h2, Int.natCast_succ, Int.mul_add, Int.mul_one]; omega
      · rw [h3, Int.natCast_succ, Int.mul_add, Int.mul_one]; omega
    · rw [if_neg c, if_neg c]
      obtain ⟨j, h1, h2, h3, h4⟩ := peel_spec sp ys l r y h
      exact ⟨j, by omega, h2, h3, h4⟩
theorem roman_start (day : Int) (A B : Int × Int) (hA : A = peel 36524 100 (rangeKs 0 (3 - 0 : Int).toNat) ((day - 1721426).fmod 146097, 400 * (day - 1721426).fdiv 146097 + 1)) (hB : B = peel 1461 4 (rangeKs 0 (24 - 0 : Int).toNat) (A.1, A.2)) :
    gJd B.2 1 1 + B.1 = day ∧ 0 ≤ B.1 := by
  rw [Int.fmod_eq_emod_of_nonneg _ (by omega), Int.fdiv_eq_ediv_of_nonneg _ (by omega)] at hA
  obtain ⟨j, a1, a2, a3, a4⟩ := peel_spec 36524 100 (rangeKs 0 (3 - 0 : Int).toNat) ((day - 1721426) % 146097) (400 * ((day - 1721426) / 146097) + 1) (by omega)
  rw [← hA] at a2 a3 a4
  obtain ⟨k, b1, b2, b3, b4⟩ := peel_spec 1461 4 (rangeKs 0 (24 - 0 : Int).toNat) A.1 A.2 a4
  rw [← hB] at b2 b3 b4
  rw [rangeKs_length] at a1 b1
  rw [J_eq]
  refine ⟨?_, b4⟩
  obtain ⟨q, hq⟩ : ∃ q, q = (day - 1721426) / 146097 := ⟨_, rfl⟩
  rw [← hq] at a3
  have e : day - 1721426 = 146097 * q + (day - 1721426) % 146097 := by omega
  generalize (day - 1721426) % 146097 = m at *
  have e0 : B.2 - 1 = 400 * q + 100 * j + 4 * k := by omega
  rw [e0]
  have e1 : (400 * q + 100 * (j : Int) + 4 * (k : Int)) / 4 = 100 * q + 25 * j + k := by omega
  have e2 : (400 * q + 100 * (j : Int) + 4 * (k : Int)) / 100 = 4 * q + j := by omega
  have e3 : (400 * q + 100 * (j : Int) + 4 * (k : Int)) / 400 = q := by omega
  rw [e1, e2, e3]
  omega
theorem roman_turn {day y r : Int} (h : gJd y 1 1 + r = day) (t : yLen y ≤ r) : gJd (y + 1) 1 1 + (r - yLen y) = day ∧ 0 ≤ r - yLen y := by
  rw [J_next]; omega
theorem roman_meas {y r : Int} (t : yLen y ≤ r) : (r - yLen y).toNat < r.toNat := by
  have := yLen_or y; omega
theorem roman_end {day y r : Int} (h : gJd y 1 1 + r = day) (h0 : 0 ≤ r) (h1 : ¬ yLen y ≤ r) :
    y = gY day ∧ offK [31, yLen y - 337, 31, 30, 31, 30, 31, 31, 30, 31, 30, 31] r + 1 = gM day ∧ offR [31, yLen y - 337, 31, 30, 31, 30, 31, 31, 30, 31, 30, 31] r + 1 = gD day := by
  have k := gMD h h0 (by omega)
  exact ⟨(gY_of (by omega) (by omega)).symm, k.1, k.2.1⟩
theorem roman_says (day : Int) (t1 : Tok) : Says 128 3 Any [.int day t1] (OutT3 (gY day) (gM day) (gD day)) := by
  w_top off
  k_with_none
  unfold Says
  intro prog w p loose mean mg mb dp un gd cn cs a ccd cl outer A₀ base h₀ L m news s Q E B F X N hP T hk hdp hun hret
  have hfill : PySem.Challenge.rw_bn0006_01 = PySem.Challenge.rw_bn0006_01 ∧ hd.heap_39 = hd.heap_39 := by
    k_fill
    exact named
  clear hfill
  refine wpAny_call ?_
  k_dflt (refine' code_def0 ?k1 ?k2 ?k3 ?k4 ?k5 ?kA ?kF ?kK ?k6 ?k7 ?k8 ?k9 ?kB ?_ ?c2 ?c3 ?c4 ?c5; (case kA => exact rfl); (case kF => exact rfl); (case kK => assumption); (case k1 => k_asm); (case k2 => k_asm); (case k3 => k_asm); (case k4 => k_asm); (case k5 => k_asm); (case k6 => k_is); (case k7 => k_is); (case k8 => ktr_room); (case k9 => exact BindsTo.of_eq rfl); (case c5 => decide); (case kB => exact locs rfl); (case c2 => exact rfl); (case c3 => exact rfl); (case c4 => exact rfl); k_whole; intro g' L' h' FG' F' N' B' X' T'; (try dsimp only); (try k_fold))
  clear N
  k_with "exec For Name Call cons nil" => kpr_for
  k_with "pyIter ref" => kpr_short
  k_with "exec While Compare cons nil" => k_while (fun (_ : List Int) r y => gJd y 1 1 + r = day ∧ 0 ≤ r) (fun (_ : List Int) r y => r.toNat) "rest" "year"
  k_with "state" => first | ((with_reducible refine roman_turn ?_ ?_) <;> assumption) | (with_reducible exact roman_start day _ _ rfl rfl)
  k_with "measure" => exact roman_meas (by assumption)
  k_steps
  all_goals exact endT3z hret (by assumption) (by assumption) (roman_end (by assumption) (by assumption) (by assumption)).1 (roman_end (by assumption) (by assumption) (by assumption)).2.1 (roman_end (by assumption) (by assumption) (by assumption)).2.2 (by assumption)
--<LINES
local macro_rules | `(tactic| walk_at "call ref") => `(tactic| (k_here; k_dflt (refine' Says.useT3 (roman_says _ _) ?B ?F ?X ?N ?hP ?T ?hk ?hd ?hu ?_; (case B => k_asm); (case F => k_asm); (case X => k_asm); (case N => k_asm); (case T => k_asm); (case hP => exact trivial); (case hk => first | exact rfl | assumption); (case hd => ktr_room); (case hu => ktr_units); intro a9 t9 u9 v9 h9 tk9 F9 N9; (try dsimp only); (try k_fold))))
--LINES>

theorem civ_end {o : Int → Int} {day first c x : Int} (t : ¬ o (x + 1) ≤ day) (hm : ∀ x, first - 3 < x → x ≤ c → o x ≤ day) (a : first - 3 ≤ x) (b : x ≤ c) : x = c := by
  by_cases e : x = c
  · exact e
  · exact absurd (hm (x + 1) (by omega) (by omega)) t
theorem civ_turn {o : Int → Int} {day c x : Int} (t : o (x + 1) ≤ day) (h : day < o (c + 1)) (b : x ≤ c) : x + 1 ≤ c := by
  by_cases e : x = c
  · subst e; omega
  · omega
section
local macro_rules | `(tactic| walk_at "ite") => `(tactic| (k_here; k_openite; k_spoken; first
  | (refine ite_neg (by (simp only [decide_eq_true_eq, decide_eq_false_iff_not, Bool.and_eq_true, Bool.or_eq_true, Bool.not_eq_true', Bool.not_eq_false', Bool.and_eq_false_iff, Bool.or_eq_false_iff, beq_eq_false_iff_ne, bne_eq_false_iff_eq, beq_iff_eq, bne_iff_ne]; omega)) ?_; walk_say "PRUNED IN HOLDS")
  | (refine ite_pos (by (simp only [decide_eq_true_eq, decide_eq_false_iff_not, Bool.and_eq_true, Bool.or_eq_true, Bool.not_eq_true', Bool.not_eq_false', Bool.and_eq_false_iff, Bool.or_eq_false_iff, beq_eq_false_iff_ne, bne_eq_false_iff_eq, beq_iff_eq, bne_iff_ne]; omega)) ?_; walk_say "PRUNED IN HOLDS")))
theorem holds_says (day first : Int) (t1 t2 : Tok) (need : Led) (eq : Addr) (o : Int → Int) (q : Eqx need eq o) (c c1 k r : Int)
    (hc0 : first - 3 ≤ c) (hc3 : day < o (c + 1)) (hm : ∀ x, first - 3 < x → x ≤ c → o x ≤ day)
    (hs : day - o c < 31 + 31 + 31 + 31 + 31 + 31 + 30 + 30 + 30 + 30 + 30 + (o (c + 1) - o c - 336))
    (kE : k = offK [31, 31, 31, 31, 31, 31, 30, 30, 30, 30, 30, o (c + 1) - o c - 336] (day - o c)) (rE : r = offR [31, 31, 31, 31, 31, 31, 30, 30, 30, 30, 30, o (c + 1) - o c - 336] (day - o c))
    (hb0 : 0 ≤ k) (hb1 : k ≤ 11)
    (K0 : Known o day c) (K1 : Known o (day + 1) c1) (G0 : Guessed o (c - 621)) (G1 : Guessed o (c - 621 + 1)) (LG : Legal (gY day) (gM day) (gD day)) (hJ : gJd (gY day) (gM day) (gD day) = day)
    (e1 : pM (day - (o c - 1)) = k + 1) (e2 : pD (day - (o c - 1)) = r + 1)
    (f1 : c1 - 621 = nxY (c - 621) (k + 1) (r + 1) [31, 31, 31, 31, 31, 31, 30, 30, 30, 30, 30, o (c + 1) - o c - 336])
    (f2 : pM (day + 1 - (o c1 - 1)) = nxM (k + 1) (r + 1) [31, 31, 31, 31, 31, 31, 30, 30, 30, 30, 30, o (c + 1) - o c - 336])
    (f3 : pD (day + 1 - (o c1 - 1)) = nxD (k + 1) (r + 1) [31, 31, 31, 31, 31, 31, 30, 30, 30, 30, 30, o (c + 1) - o c - 336])
    (f4 : o (c - 621 + 621) - 1 + mOff (k + 1) + (r + 1) = day)
    (f5 : (decide (o (c - 621 + 1 + 621) - o (c - 621 + 621) > 365) != (o (c + 1) - o c == 366)) = false)
    (f6 : (if 7 ≤ k + 1 ∧ k + 1 ≤ 11 ∨ k + 1 = 12 ∧ o (c - 621 + 1 + 621) - o (c - 621 + 621) > 365 then 30 else if 1 ≤ k + 1 ∧ k + 1 ≤ 6 then 31 else 29) = [31, 31, 31, 31, 31, 31, 30, 30, 30, 30, 30, o (c + 1) - o c - 336].getD k.toNat 0) :
    Says 142 20 (Has need) [.int day t1, .int first t2, .ref eq] (OutB true) := by
  have KG : Known o (gJd (gY day) (gM day) (gD day)) c := by rw [hJ]; exact K0
  have g1 : gY (o (c - 621 + 621) - 1 + mOff (k + 1) + (r + 1)) = gY day := by rw [f4]
  have g2 : gM (o (c - 621 + 621) - 1 + mOff (k + 1) + (r + 1)) = gM day := by rw [f4]
  have g3 : gD (o (c - 621 + 621) - 1 + mOff (k + 1) + (r + 1)) = gD day := by rw [f4]
  have i1 : pM (gJd (gY day) (gM day) (gD day) - (o c - 1)) = k + 1 := by rw [hJ]; exact e1
  have i2 : pD (gJd (gY day) (gM day) (gD day) - (o c - 1)) = r + 1 := by rw [hJ]; exact e2
  w_top off
  k_with_none
  unfold Says
  intro prog w p loose mean mg mb dp un gd cn cs a ccd cl outer A₀ base h₀ L m news s Q E B F X N hP T hk hdp hun hret
  have hfill : PySem.Challenge.rw_bn0006_01 = PySem.Challenge.rw_bn0006_01 ∧ hd.heap_39 = hd.heap_39 := by
    k_fill
    exact named
  clear hfill
  refine wpAny_call ?_
  k_dflt cell_enter
  k_with "exec While Compare cons nil" => k_while (fun (_ : List Int) x => first - 3 ≤ x ∧ x ≤ c) (fun (_ : List Int) x => (c - x).toNat) "civil"
  k_with "state" => first | exact ⟨by omega, hc0⟩ | exact ⟨by omega, civ_turn (by assumption) hc3 (by assumption)⟩
  k_with "measure" => ((have e9 := civ_turn (by assumption) hc3 (by assumption)); omega)
  k_with "exec Assign" => ((have hx9 := civ_end (by assumption) hm (by assumption) (by assumption)); (rename (¬ o (_ + 1) ≤ day) => t9); clear t9; subst hx9)
  k_steps
  all_goals exact endB hret (by rw [i1, i2, beq_self_eq_true, beq_self_eq_true]; rfl) (by assumption) (by assumption) (by repeat (first | exact sub0 | refine subS ?_))
end
/-- the sums that the law keeps: nought first, each next one the same or one more -/
def SumsOk (a : List Int) : Prop := a.getD 0 0 = 0 ∧ ∀ i : Nat, i + 1 < a.length → a.getD i 0 ≤ a.getD (i + 1) 0 ∧ a.getD (i + 1) 0 ≤ a.getD i 0 + 1
theorem sums_one : SumsOk [0] := ⟨rfl, fun i h => absurd h (by simp)⟩
theorem sums_step {a : List Int} {n : Int} (h : SumsOk a) (h0 : 0 < a.length) : SumsOk (a ++ [a.getD ((-1 : Int) + (a.length : Nat)).toNat 0 + n % 2]) := by
  have e : ((-1 : Int) + (a.length : Nat)).toNat = a.length - 1 := by omega
  rw [e]
  refine ⟨?_, fun i hi => ?_⟩
  · rw [List.getD_eq_getElem?_getD, List.getElem?_append_left h0, ← List.getD_eq_getElem?_getD]; exact h.1
  · rw [List.length_append, List.length_singleton] at hi
    by_cases hl : i + 1 < a.length
    · have a1 : (a ++ [a.getD (a.length - 1) 0 + n % 2]).getD i 0 = a.getD i 0 := by
        rw [List.getD_eq_getElem?_getD, List.getElem?_append_left (by omega), ← List.getD_eq_getElem?_getD]
      have a2 : (a ++ [a.getD (a.length - 1) 0 + n % 2]).getD (i + 1) 0 = a.getD (i + 1) 0 := by
        rw [List.getD_eq_getElem?_getD, List.getElem?_append_left hl, ← List.getD_eq_getElem?_getD]
      rw [a1, a2]; exact h.2 i hl
    · have ei : i = a.length - 1 := by omega
      have a1 : (a ++ [a.getD (a.length - 1) 0 + n % 2]).getD i 0 = a.getD (a.length - 1) 0 := by
        rw [List.getD_eq_getElem?_getD, List.getElem?_append_left (by omega), ← List.getD_eq_getElem?_getD, ei]
      have a2 : (a ++ [a.getD (a.length - 1) 0 + n % 2]).getD (i + 1) 0 = a.getD (a.length - 1) 0 + n % 2 := by
        have e2 : i + 1 = a.length := by omega
        rw [List.getD_eq_getElem?_getD, e2, List.getElem?_append_right (Nat.le_refl _)]; simp
      rw [a1, a2]; omega
theorem pre_lt {ns pre post : List Int} {n : Int} (h : List.take 12 ns = pre ++ n :: post) : pre.length < 12 := by
  have e := congrArg List.length h
  rw [List.length_take, List.length_append, List.length_cons] at e
  omega
section
variable {first start : Int} {sums : List Int}
theorem op_neg {c : Int} (h : c - first ≤ 0) (hS : SumsOk sums) (hl : 0 < sums.length) : opening first start sums c = start + 365 * (c - first) + 8 * (c - first) / 33 := by
  by_cases e : c - first < 0
  · rw [opening, if_pos e]
  · have e2 : c - first = 0 := by omega
    rw [opening, if_neg e, if_neg (by omega), e2]
    have := hS.1
    rw [show (0 : Int).toNat = 0 from rfl, this]; omega
theorem op_mid {i : Nat} (h : i < sums.length) {c : Int} (hc : c = first + i) : opening first start sums c = start + 365 * (i : Int) + sums.getD i 0 := by
  have e : c - first = i := by omega
  rw [opening, e, if_neg (by omega), if_neg (by omega), Int.toNat_natCast]
theorem op_post {c : Int} (hl : 0 < sums.length) (h : (sums.length : Int) - 1 ≤ c - first) : opening first start sums c = start + 365 * (c - first) + sums.getD (sums.length - 1) 0 + 8 * (c - first - ((sums.length : Int) - 1)) / 33 := by
  have e1 : ((sums.length : Int) - 1).toNat = sums.length - 1 := by omega
  rw [opening, if_neg (by omega), e1]
  by_cases e : c - first > (sums.length : Int) - 1
  · rw [if_pos e]
  · have e2 : (c - first).toNat = sums.length - 1 := by omega
    rw [if_neg e, e2]
    generalize sums.getD (sums.length - 1) 0 = g
    omega
theorem sum_range (hS : SumsOk sums) : ∀ i : Nat, i < sums.length → 0 ≤ sums.getD i 0 ∧ sums.getD i 0 ≤ i := by
  intro i
  induction i with
  | zero => intro _; rw [hS.1]; omega
  | succ i ih =>
    intro h
    have a := ih (by omega)
    have b := hS.2 i h
    generalize sums.getD i 0 = x at *
    generalize sums.getD (i + 1) 0 = y at *
    omega
theorem op_step (hS : SumsOk sums) (hl : 0 < sums.length) (c : Int) : opening first start sums c + 365 ≤ opening first start sums (c + 1) ∧ opening first start sums (c + 1) ≤ opening first start sums c + 366 := by
  by_cases a : c - first < 0
  · rw [op_neg (c := c) (by omega) hS hl, op_neg (c := c + 1) (by omega) hS hl]; omega
  · by_cases b : (sums.length : Int) - 1 ≤ c - first
    · rw [op_post (c := c) hl b, op_post (c := c + 1) hl (by omega)]
      generalize sums.getD (sums.length - 1) 0 = g
      omega
    · obtain ⟨i, hi⟩ : ∃ i : Nat, c - first = i := ⟨(c - first).toNat, by omega⟩
      rw [op_mid (i := i) (c := c) (by omega) (by omega), op_mid (i := i + 1) (c := c + 1) (by omega) (by omega)]
      have e := hS.2 i (by omega)
      generalize sums.getD i 0 = x at *
      generalize sums.getD (i + 1) 0 = y at *
      omega
theorem op_close (hS : SumsOk sums) (hl : 0 < sums.length) (hl1 : sums.length ≤ 13) 
    (hs0 : -10 ≤ start - (1948321 + 365 * (first - 622) + 8 * (first - 622) / 33)) (hs1 : start - (1948321 + 365 * (first - 622) + 8 * (first - 622) / 33) ≤ 10) (c : Int) :
    -25 ≤ opening first start sums c - (1948321 + 365 * (c - 622) + 8 * (c - 622) / 33) ∧ opening first start sums c - (1948321 + 365 * (c - 622) + 8 * (c - 622) / 33) ≤ 25 := by
  by_cases a : c - first < 0
  · rw [op_neg (c := c) (by omega) hS hl]; omega
  · by_cases b : (sums.length : Int) - 1 ≤ c - first
    · rw [op_post (c := c) hl b]
      have e := sum_range hS (sums.length - 1) (by omega)
      generalize sums.getD (sums.length - 1) 0 = g at *
      omega
    · obtain ⟨i, hi⟩ : ∃ i : Nat, c - first = i := ⟨(c - first).toNat, by omega⟩
      rw [op_mid (i := i) (c := c) (by omega) (by omega)]
      have e := sum_range hS i (by omega)
      generalize sums.getD i 0 = x at *
      omega
end
theorem o_mono {o : Int → Int} (hst : ∀ c, o c + 365 ≤ o (c + 1) ∧ o (c + 1) ≤ o c + 366) (a : Int) (n : Nat) : o a ≤ o (a + n) := by
  induction n with
  | zero => exact Int.le_of_eq (by rw [show a + ((0 : Nat) : Int) = a by omega])
  | succ n ih =>
    have e := hst (a + n)
    have e2 : a + ((n + 1 : Nat) : Int) = a + n + 1 := by omega
    rw [e2]; omega
theorem known_of {o : Int → Int} (hcl : ∀ c, -25 ≤ o c - (1948321 + 365 * (c - 622) + 8 * (c - 622) / 33) ∧ o c - (1948321 + 365 * (c - 622) + 8 * (c - 622) / 33) ≤ 25)
    {jd c : Int} (h0 : -40100 ≤ c - 622) (h1 : c - 622 ≤ 40100) (lo : o c ≤ jd) (hi : jd < o (c + 1)) : Known o jd c := by
  have a := hcl c
  have b := hcl (c + 1)
  refine ⟨?_, lo, hi, ?_⟩
  · have g := gY_in jd
    rw [← J_next] at g
    have l : gJd c 1 1 ≤ o c := by rw [J_eq]; omega
    have u : o (c + 1) ≤ gJd (c + 1 + 1) 1 1 := by rw [J_eq]; omega
    have n1 : ¬ gY jd + 1 ≤ c := fun h => by have := J_mono h; omega
    have n2 : ¬ c + 1 + 1 ≤ gY jd := fun h => by have := J_mono h; omega
    omega
  · generalize o c = x at *
    omega
theorem guess_of {o : Int → Int} (hst : ∀ c, o c + 365 ≤ o (c + 1) ∧ o (c + 1) ≤ o c + 366) (hcl : ∀ c, -25 ≤ o c - (1948321 + 365 * (c - 622) + 8 * (c - 622) / 33) ∧ o c - (1948321 + 365 * (c - 622) + 8 * (c - 622) / 33) ≤ 25)
    {y : Int} (h0 : -40050 ≤ y) (h1 : y ≤ 40050) : Guessed o y := by
  have nx : ∀ c, -40080 ≤ c - 622 → c - 622 ≤ 40080 → ∀ d, d = c + 1 → Known o (o c - 1 + 36524219878 / 100000000 + 2) d := by
    intro c a b d e
    subst e
    have s0 := hst c
    have s1 := hst (c + 1)
    have e3 : (36524219878 / 100000000 : Int) = 365 := by decide
    rw [e3]
    exact known_of hcl (by omega) (by omega) (by omega) (by omega)
  have q : ∀ c, c = y + 621 - 1 → ∀ g, g = 1948321 - 1 + 36524219878 * (y - 1 - 1) / 100000000 → o (c - 1) ≤ g ∧ g < o (c + 1) := by
    intro c hc g hg
    have a := hcl (c - 1)
    have b := hcl (c + 1)
    generalize o (c - 1) = x at *
    generalize o (c + 1) = z at *
    subst hc
    omega
  have q := q _ rfl _ rfl
  by_cases t : o (y + 621 - 1) ≤ 1948321 - 1 + 36524219878 * (y - 1 - 1) / 100000000
  · refine Or.inl ⟨known_of hcl (by omega) (by omega) t q.2, nx _ (by omega) (by omega) _ (by omega)⟩
  · have e1 : y + 621 - 1 - 1 = y + 621 - 2 := by omega
    have e2 : y + 621 - 2 + 1 = y + 621 - 1 := by omega
    rw [e1] at q
    refine Or.inr ⟨known_of hcl (by omega) (by omega) q.1 (by rw [e2]; omega), nx _ (by omega) (by omega) _ (by omega), nx _ (by omega) (by omega) _ (by omega)⟩
abbrev pSizes (n : Int) : List Int := [31, 31, 31, 31, 31, 31, 30, 30, 30, 30, 30, n - 336]
theorem pers_cases {n r : Int} (h0 : 0 ≤ r) (h1 : r < n) :
    ∃ i : Nat, i ≤ 11 ∧ offK (pSizes n) r = i ∧ offR (pSizes n) r = r - (if i ≤ 6 then 31 * (i : Int) else 30 * (i : Int) + 6) ∧ 0 ≤ offR (pSizes n) r ∧ offR (pSizes n) r < (pSizes n).getD i 0 := by
  by_cases a0 : 31 ≤ r
  rotate_left
  · exact ⟨0, by decide, by rw [offK_stop a0]; rfl, by rw [offR_stop a0]; omega, by rw [offR_stop a0]; omega, by rw [offR_stop a0]; simp; omega⟩
  rw [pSizes, offK_go a0, offR_go a0]
  by_cases a1 : 31 ≤ r - 31
  rotate_left
  · exact ⟨1, by decide, by rw [offK_stop a1]; rfl, by rw [offR_stop a1]; omega, by rw [offR_stop a1]; omega, by rw [offR_stop a1]; simp; omega⟩
  rw [offK_go a1, offR_go a1]
  by_cases a2 : 31 ≤ r - 31 - 31
  rotate_left
  · exact ⟨2, by decide, by rw [offK_stop a2]; rfl, by rw [offR_stop a2]; omega, by rw [offR_stop a2]; omega, by rw [offR_stop a2]; simp; omega⟩
  rw [offK_go a2, offR_go a2]
  by_cases a3 : 31 ≤ r - 31 - 31 - 31
  rotate_left
  · exact ⟨3, by decide, by rw [offK_stop a3]; rfl, by rw [offR_stop a3]; omega, by rw [offR_stop a3]; omega, by rw [offR_stop a3]; simp; omega⟩
  rw [offK_go a3, offR_go a3]
  by_cases a4 : 31 ≤ r - 31 - 31 - 31 - 31
  rotate_left
  · exact ⟨4, by decide, by rw [offK_stop a4]; rfl, by rw [offR_stop a4]; omega, by rw [offR_stop a4]; omega, by rw [offR_stop a4]; simp; omega⟩
  rw [offK_go a4, offR_go a4]
  by_cases a5 : 31 ≤ r - 31 - 31 - 31 - 31 - 31
  rotate_left
  · exact ⟨5, by decide, by rw [offK_stop a5]; rfl, by rw [offR_stop a5]; omega, by rw [offR_stop a5]; omega, by rw [offR_stop a5]; simp; omega⟩
  rw [offK_go a5, offR_go a5]
  by_cases a6 : 30 ≤ r - 31 - 31 - 31 - 31 - 31 - 31
  rotate_left
  · exact ⟨6, by decide, by rw [offK_stop a6]; rfl, by rw [offR_stop a6]; omega, by rw [offR_stop a6]; omega, by rw [offR_stop a6]; simp; omega⟩
  rw [offK_go a6, offR_go a6]
  by_cases a7 : 30 ≤ r - 31 - 31 - 31 - 31 - 31 - 31 - 30
  rotate_left
  · exact ⟨7, by decide, by rw [offK_stop a7]; rfl, by rw [offR_stop a7]; omega, by rw [offR_stop a7]; omega, by rw [offR_stop a7]; simp; omega⟩
  rw [offK_go a7, offR_go a7]
  by_cases a8 : 30 ≤ r - 31 - 31 - 31 - 31 - 31 - 31 - 30 - 30
  rotate_left
  · exact ⟨8, by decide, by rw [offK_stop a8]; rfl, by rw [offR_stop a8]; omega, by rw [offR_stop a8]; omega, by rw [offR_stop a8]; simp; omega⟩
  rw [offK_go a8, offR_go a8]
  by_cases a9 : 30 ≤ r - 31 - 31 - 31 - 31 - 31 - 31 - 30 - 30 - 30
  rotate_left
  · exact ⟨9, by decide, by rw [offK_stop a9]; rfl, by rw [offR_stop a9]; omega, by rw [offR_stop a9]; omega, by rw [offR_stop a9]; simp; omega⟩
  rw [offK_go a9, offR_go a9]
  by_cases a10 : 30 ≤ r - 31 - 31 - 31 - 31 - 31 - 31 - 30 - 30 - 30 - 30
  rotate_left
  · exact ⟨10, by decide, by rw [offK_stop a10]; rfl, by rw [offR_stop a10]; omega, by rw [offR_stop a10]; omega, by rw [offR_stop a10]; simp; omega⟩
  rw [offK_go a10, offR_go a10]
  have a11 : ¬ n - 336 ≤ r - 31 - 31 - 31 - 31 - 31 - 31 - 30 - 30 - 30 - 30 - 30 := by omega
  exact ⟨11, by decide, by rw [offK_stop a11]; rfl, by rw [offR_stop a11]; omega, by rw [offR_stop a11]; omega, by rw [offR_stop a11]; simp; omega⟩
/-- the month and the day of the Persian year, and the day after -/
structure PersDay (n ρ k r : Int) : Prop where
  b0 : 0 ≤ k
  b1 : k ≤ 11
  e1 : pM (ρ + 1) = k + 1
  e2 : pD (ρ + 1) = r + 1
  e4 : mOff (k + 1) + r = ρ
  f1 : ∀ y, nxY y (k + 1) (r + 1) (pSizes n) = if ρ + 1 < n then y else y + 1
  f2 : nxM (k + 1) (r + 1) (pSizes n) = if ρ + 1 < n then pM (ρ + 2) else 1
  f3 : nxD (k + 1) (r + 1) (pSizes n) = if ρ + 1 < n then pD (ρ + 2) else 1
  f6 : (if 7 ≤ k + 1 ∧ k + 1 ≤ 11 ∨ k + 1 = 12 ∧ n > 365 then 30 else if 1 ≤ k + 1 ∧ k + 1 ≤ 6 then 31 else 29) = (pSizes n).getD k.toNat 0
theorem pers_day {n ρ : Int} (hn : n = 365 ∨ n = 366) (h0 : 0 ≤ ρ) (h1 : ρ < n) : PersDay n ρ (offK (pSizes n) ρ) (offR (pSizes n) ρ) := by
  obtain ⟨i, hi, ek, er, r0, r1⟩ := pers_cases h0 h1
  generalize offK (pSizes n) ρ = k at *
  generalize offR (pSizes n) ρ = r at *
  subst ek
  have hlen : ((pSizes n).length : Int) = 12 := rfl
  have hi' : i = 0 ∨ i = 1 ∨ i = 2 ∨ i = 3 ∨ i = 4 ∨ i = 5 ∨ i = 6 ∨ i = 7 ∨ i = 8 ∨ i = 9 ∨ i = 10 ∨ i = 11 := by omega
  have eD : ∀ i : Nat, ((i : Int) + 1 - 1).toNat = i := fun i => by omega
  have eK : ∀ i : Nat, ((i : Int)).toNat = i := fun i => by omega
  have main : (pM (ρ + 1) = i + 1 ∧ pD (ρ + 1) = r + 1 ∧ mOff (i + 1) + r = ρ) ∧
    ((if r + 1 < (pSizes n).getD i 0 then (0 : Int) else if (i : Int) + 1 < 12 then 0 else 1) = if ρ + 1 < n then 0 else 1) ∧
    ((if r + 1 < (pSizes n).getD i 0 then (i : Int) + 1 else if (i : Int) + 1 < 12 then (i : Int) + 1 + 1 else 1) = if ρ + 1 < n then pM (ρ + 2) else 1) ∧
    ((if r + 1 < (pSizes n).getD i 0 then r + 1 + 1 else 1) = if ρ + 1 < n then pD (ρ + 2) else 1) ∧
    ((if 7 ≤ (i : Int) + 1 ∧ (i : Int) + 1 ≤ 11 ∨ (i : Int) + 1 = 12 ∧ n > 365 then 30 else if 1 ≤ (i : Int) + 1 ∧ (i : Int) + 1 ≤ 6 then 31 else 29) = (pSizes n).getD i 0) := by
    obtain ⟨s, hs, hv⟩ : ∃ s, (pSizes n).getD i 0 = s ∧ (i ≤ 5 ∧ s = 31 ∨ 6 ≤ i ∧ i ≤ 10 ∧ s = 30 ∨ i = 11 ∧ s = n - 336) := by
      clear er r0 r1
      rcases hi' with rfl | rfl | rfl | rfl | rfl | rfl | rfl | rfl | rfl | rfl | rfl | rfl
      all_goals first | exact ⟨31, rfl, by omega⟩ | exact ⟨30, rfl, by omega⟩ | exact ⟨n - 336, rfl, by omega⟩
    rw [hs] at r1 ⊢
    clear hs hi' eD eK hlen
    simp only [pM, pD, mOff]
    clear hi
    rcases hv with ⟨hv, rfl⟩ | ⟨hv, hw, rfl⟩ | ⟨rfl, rfl⟩
    · rw [if_pos (by omega)] at er
      refine ⟨⟨?_, ?_, ?_⟩, ?_, ?_, ?_, ?_⟩ <;> (repeat' split) <;> omega
    · by_cases i6 : i ≤ 6
      · have : i = 6 := by omega
        subst this
        rw [if_pos (by omega)] at er
        refine ⟨⟨?_, ?_, ?_⟩, ?_, ?_, ?_, ?_⟩ <;> (repeat' split) <;> omega
      · rw [if_neg i6] at er
        refine ⟨⟨?_, ?_, ?_⟩, ?_, ?_, ?_, ?_⟩ <;> (repeat' split) <;> omega
    · rw [if_neg (by omega)] at er
      refine ⟨⟨?_, ?_, ?_⟩, ?_, ?_, ?_, ?_⟩ <;> (repeat' split) <;> omega
  obtain ⟨⟨m1, m2, m3⟩, m4, m5, m6, m7⟩ := main
  refine ⟨by omega, by omega, m1, m2, m3, fun y => ?_, ?_, ?_, ?_⟩
  · rw [nxY, eD, hlen]
    by_cases a : ρ + 1 < n
    · rw [if_pos a] at m4 ⊢; split
      · rfl
      · rename_i b; rw [if_neg b] at m4; split
        · rfl
        · rename_i c; rw [if_neg c] at m4; omega
    · rw [if_neg a] at m4 ⊢; split
      · rename_i b; rw [if_pos b] at m4; omega
      · rename_i b; rw [if_neg b] at m4; split
        · rename_i c; rw [if_pos c] at m4; omega
        · rfl
  · rw [nxM, eD, hlen]; exact m5
  · rw [nxD, eD]; exact m6
  · rw [eK]; exact m7

theorem round_says (first start past off : Int) (sums : List Int) (t1 t2 : Tok) (need : Led) (eq : Addr) (q : Eqx need eq (opening first start sums))
    (hf0 : -40000 ≤ first - 622) (hf1 : first - 622 ≤ 40000) (hs0 : -10 ≤ start - (1948321 + 365 * (first - 622) + 8 * (first - 622) / 33)) (hs1 : start - (1948321 + 365 * (first - 622) + 8 * (first - 622) / 33) ≤ 10)
    (hS : SumsOk sums) (hl0 : 0 < sums.length) (hl1 : sums.length ≤ 13) (hp0 : -2 ≤ past) (hp1 : past ≤ (sums.length : Int) + 1) (ho0 : 0 ≤ off) (ho1 : off < 366) :
    Says 142 20 (Has need) [.int (opening first start sums (first + past) + off) t1, .int first t2, .ref eq] (OutB true) := by
  have hst := op_step (first := first) (start := start) hS hl0
  have hcl := op_close hS hl0 hl1 hs0 hs1
  generalize opening first start sums = o at *
  obtain ⟨day, hday⟩ : ∃ d, o (first + past) + off = d := ⟨_, rfl⟩
  rw [hday]
  obtain ⟨c, c0, cu, c1, c2⟩ : ∃ c, first + past ≤ c ∧ c ≤ first + past + 1 ∧ o c ≤ day ∧ day < o (c + 1) := by
    have s0 := hst (first + past)
    have s1 := hst (first + past + 1)
    by_cases t : day < o (first + past + 1)
    · exact ⟨_, Int.le_refl _, by omega, by omega, t⟩
    · exact ⟨first + past + 1, by omega, Int.le_refl _, by omega, by omega⟩
  clear hday
  have st := hst c
  obtain ⟨n, en⟩ : ∃ n, n = o (c + 1) - o c := ⟨_, rfl⟩
  obtain ⟨ρ, eρ⟩ : ∃ ρ, ρ = day - o c := ⟨_, rfl⟩
  have P := pers_day (n := n) (ρ := ρ) (by omega) (by omega) (by omega)
  have hm : ∀ x, first - 3 < x → x ≤ c → o x ≤ day := fun x _ b => by
    have e := o_mono hst x (c - x).toNat
    rw [show x + ((c - x).toNat : Int) = c by omega] at e
    omega
  have K0 : Known o day c := known_of hcl (by omega) (by omega) c1 c2
  have G0 : Guessed o (c - 621) := guess_of hst hcl (by omega) (by omega)
  have G1 : Guessed o (c - 621 + 1) := guess_of hst hcl (by omega) (by omega)
  have z0 : c - 621 + 621 = c := by omega
  have z1 : c - 621 + 1 + 621 = c + 1 := by omega
  have gi := gY_in day
  have gm := gMD (jd := day) (y := gY day) (r := day - gJd (gY day) 1 1) (by omega) (by omega) (by omega)
  have e1 : day - (o c - 1) = ρ + 1 := by omega
  have f5 : (decide (o (c - 621 + 1 + 621) - o (c - 621 + 621) > 365) != (o (c + 1) - o c == 366)) = false := by
    rw [z0, z1, ← en]
    rcases (show n = 365 ∨ n = 366 by omega) with rfl | rfl <;> rfl
  by_cases t : day + 1 < o (c + 1)
  · have K1 : Known o (day + 1) c := known_of hcl (by omega) (by omega) (by omega) t
    have e2 : day + 1 - (o c - 1) = ρ + 2 := by omega
    have t' : ρ + 1 < n := by omega
    refine holds_says day first t1 t2 need eq o q c c (offK (pSizes n) ρ) (offR (pSizes n) ρ) (by omega) c2 hm (by omega) (by rw [en, eρ]) (by rw [en, eρ]) P.b0 P.b1 K0 K1 G0 G1 gm.2.2.1 gm.2.2.2 (by rw [e1]; exact P.e1) (by rw [e1]; exact P.e2) ?_ ?_ ?_ ?_ f5 ?_
    · have := P.f1 (c - 621); rw [if_pos t', en] at this; rw [en]; exact this.symm
    · have := P.f2; rw [if_pos t'] at this; rw [e2, ← this, en]
    · have := P.f3; rw [if_pos t'] at this; rw [e2, ← this, en]
    · rw [z0]; have := P.e4; omega
    · rw [z0, z1, ← en]; exact P.f6
  · have s1 := hst (c + 1)
    have K1 : Known o (day + 1) (c + 1) := known_of hcl (by omega) (by omega) (by omega) (by omega)
    have e2 : day + 1 - (o (c + 1) - 1) = 1 := by omega
    have t' : ¬ ρ + 1 < n := by omega
    refine holds_says day first t1 t2 need eq o q c (c + 1) (offK (pSizes n) ρ) (offR (pSizes n) ρ) (by omega) c2 hm (by omega) (by rw [en, eρ]) (by rw [en, eρ]) P.b0 P.b1 K0 K1 G0 G1 gm.2.2.1 gm.2.2.2 (by rw [e1]; exact P.e1) (by rw [e1]; exact P.e2) ?_ ?_ ?_ ?_ f5 ?_
    · have := P.f1 (c - 621); rw [if_neg t', en] at this; rw [en]; rw [this]; omega
    · have := P.f2; rw [if_neg t'] at this; rw [e2, ← en, this]; rfl
    · have := P.f3; rw [if_neg t'] at this; rw [e2, ← en, this]; rfl
    · rw [z0]; have := P.e4; omega
    · rw [z0, z1, ← en]; exact P.f6
section
variable {prog : Program} {w : World} {A : Around} {E : Value → Shared → Prop} {s : Shared} {Q : Value → Shared → Prop} {P : Params} {k : Int} {u : Tok}
theorem marks_item {value slice : PySem.Expr} (X : (hd.heap_39 P).In s.heap) (h0 : 0 ≤ k) (h1 : k ≤ 4) (h : ∀ v t, Q (.int v t) s)
    (hs : subscripted slice false (.ref 102) (.int k u) = operate [.ref 102, .int k u] (getItem (.ref 102) (.int k u)) := by with_unfolding_all rfl) (hg : ∀ r, letTemporaryGo value (.ref 102) r = pure () := by intro _; with_unfolding_all rfl) :
    wpAny (model prog w) A (subscriptTail value slice (.ref 102) (.int k u)) Q E s := by
  have T : IsTup s.heap 102 _ := tupK X rfl
  have hk : k = 0 ∨ k = 1 ∨ k = 2 ∨ k = 3 ∨ k = 4 := by omega
  rcases hk with rfl | rfl | rfl | rfl | rfl
  all_goals exact item_tupleL T (by decide) (by decide) rfl rfl (h _ _) hs hg
end
section
variable {prog : Program} {w : World} {A : Around} {E : Value → Shared → Prop} {s : Shared} {env : Env} {h₀ : Heap} {x : Str} {body : List Stmt} {Q : Flow → Shared → Prop}
/-- the law's first loop: a list that grows by one int a turn -/
theorem sums_loop {l L0 : Addr} {vs : List Value} {ns : List Int} {nn n0 : Nat} {t0 : Tok} {m₀ : Str → Option Value} {rest : Led}
    (hh : A.handled = none) (hl : (l, listOf vs.toArray nn) ∈ rest) (hi : IntsAre vs ns) (F : Fr h₀ env.locals s.heap m₀) (N : News h₀ env.locals s.heap ((L0, listOf #[.int 0 t0] n0) :: rest))
    (turn : ∀ us a nn pre n t h tk own, pre < ns.length → OwnOff own (L0 :: rest.map (·.1)) → IntsAre us a → SumsOk a → a.length = pre + 1 → us.length = a.length → Fr h₀ env.locals h (fun y => if y = x then some (.int n t) else m₀ y) → News h₀ env.locals h (((L0, listOf us.toArray nn) :: rest) ++ own) →
      wpAny (model prog w) A (execs body env) (InvPostN h₀ env.locals (fun m' nx => (∃ us' a' n', nx = (L0, listOf us'.toArray n') :: rest ∧ IntsAre us' a' ∧ SumsOk a' ∧ a'.length = pre + 2) ∧ ∀ z, z ≠ x → m' z = m₀ z) own (L0 :: rest.map (·.1)) { s with heap := h, toks := tk } Q) E { s with heap := h, toks := tk })
    (done : ∀ (u : Str → Option Value) us a nn h tk, IntsAre us a → SumsOk a → a.length = ns.length + 1 → Fr h₀ env.locals h (fun y => if y = x then u y else m₀ y) → News h₀ env.locals h ((L0, listOf us.toArray nn) :: rest) → Q .next { s with heap := h, toks := tk }) :
    wpAny (model prog w) A (pyIter (.ref l)) (fun it s₂ => LoopAtV prog w A h₀ env x body Q E it s₂) E s := by
  refine iter_invNL (fun i m nx => (∃ us a n', nx = (L0, listOf us.toArray n') :: rest ∧ IntsAre us a ∧ SumsOk a ∧ a.length = i + 1) ∧ ∀ z, z ≠ x → m z = m₀ z) hh (.tail _ hl) hi F N ⟨⟨[.int 0 t0], [0], n0, rfl, .cons _ _ .nil, sums_one, rfl⟩, fun _ _ => rfl⟩ ?_ ?_
  · rintro i n t m₁ nx h tk own hn _ hoff _ ⟨⟨us, a, n', rfl, hI, hok, hlen⟩, hm⟩ F₁ N₁
    have e : (fun y => if y = x then some (Value.int n t) else m₁ y) = fun y => if y = x then some (Value.int n t) else m₀ y := by
      funext y
      by_cases hy : y = x
      · simp [hy]
      · simp only [if_neg hy]; exact hm y hy
    rw [e] at F₁
    have hlt : i < ns.length := by
      obtain ⟨h1, _⟩ := List.getElem?_eq_some_iff.mp hn
      exact h1
    refine wpAny_mono (turn us a n' i n t h tk own hlt hoff hI hok hlen hI.length F₁ N₁) (fun f s₂ p => ?_) fun _ _ x => x
    have up : ∀ s₂, InvEndN h₀ env.locals (fun m' nx => (∃ us' a' n', nx = (L0, listOf us'.toArray n') :: rest ∧ IntsAre us' a' ∧ SumsOk a' ∧ a'.length = i + 2) ∧ ∀ z, z ≠ x → m' z = m₀ z) own (L0 :: rest.map (·.1)) { s with heap := h, toks := tk } s₂ →
        InvEndN h₀ env.locals (fun m' nx => (l, listOf vs.toArray nn) ∈ nx ∧ (∃ us' a' n', nx = (L0, listOf us'.toArray n') :: rest ∧ IntsAre us' a' ∧ SumsOk a' ∧ a'.length = i + 1 + 1) ∧ ∀ z, z ≠ x → m' z = m₀ z) own (L0 :: rest.map (·.1)) { s with heap := h, toks := tk } s₂ := by
      rintro s₂ ⟨h', tk', m', news', nx', e', F', N', hn', ho', ha, ⟨us', a', n'', rfl, b1, b2, b3⟩, b4⟩
      exact ⟨h', tk', m', news', _, e', F', N', hn', ho', ha, .tail _ hl, ⟨us', a', n'', rfl, b1, b2, b3⟩, b4⟩
    cases f with
    | ret v => exact p
    | brk => exact p
    | next => exact up _ p
    | cont => exact up _ p
  · rintro m₁ nx h tk _ ⟨⟨us, a, n', rfl, hI, hok, hlen⟩, hm⟩ F₁ N₁
    refine done m₁ us a n' h tk hI hok hlen ?_ N₁
    have e : (fun y => if y = x then m₁ y else m₀ y) = m₁ := by
      funext y
      by_cases hy : y = x
      · simp [hy]
      · simp only [if_neg hy]; exact (hm y hy).symm
    rw [e]; exact F₁
end
/-- the walk halts here -/
def Stop (p : Prop) : Prop := p
theorem Stop.mk {p : Prop} (h : Stop p) : p := h
theorem Stop.out {p : Prop} (h : p) : Stop p := h
theorem gen_toks {α : Type} {M : Model} {A : Around} {t : Sem α} {Q : α → Shared → Prop} {E : Value → Shared → Prop} {h : Heap} {g : Array GenState} {d : Drawn} {X : Nat} {o : OsState} (H : ∀ tk : Nat, wpAny M A t Q E ⟨h, g, d, tk, o⟩) : wpAny M A t Q E ⟨h, g, d, X, o⟩ := H X
theorem eqx_then {G : Prop} {h₀ h : Heap} {L f c' cF cS cL l : Addr} {news : Led} {oc oF oS oL : Obj} {vs : Array Value} {t tF tS : Tok} {first start : Int} {us : List Value} {a : List Int} {nn : Nat} {params : Arguments} {body : PySem.Expr} {scope : Scope} {name qual : Str} {pm ctv : Value}
    (N : News h₀ L h news) (hm : (f, kla_obj name qual params body scope [(Str.ofString "sums", cL), (Str.ofString "start", cS), (Str.ofString "first", cF)] pm c' ctv) ∈ news) (hc : (c', oc) ∈ news) (hd' : oc.data = .fields vs) (hv : vs[1]? = some (.str qual t))
    (mF : (cF, oF) ∈ news) (dF : oF.data = .cell (some (.int first tF))) (mS : (cS, oS) ∈ news) (dS : oS.data = .cell (some (.int start tS))) (mL : (cL, oL) ∈ news) (dL : oL.data = .cell (some (.ref l)))
    (ml : (l, listOf us.toArray nn) ∈ news) (hI : IntsAre us a) (h0 : 0 < a.length) (h1 : a.length ≤ 64)
    (says : ∀ (news : Led), (f, kla_obj name qual params body scope [(Str.ofString "sums", cL), (Str.ofString "start", cS), (Str.ofString "first", cF)] pm c' ctv) ∈ news → (c', oc) ∈ news → (cF, oF) ∈ news → (cS, oS) ∈ news → (cL, oL) ∈ news → (l, listOf us.toArray nn) ∈ news → oc.data = .fields vs → vs[1]? = some (.str qual t) →
      oF.data = .cell (some (.int first tF)) → oS.data = .cell (some (.int start tS)) → oL.data = .cell (some (.ref l)) → IntsAre us a → 0 < a.length → a.length ≤ 64 → ∀ (c : Int) (t1 : Tok) (prog : Program) (w : World) (p : Program) (loose : List Str) (mean : ExcName → Option Value) (mg mb : Str → Option Value)
      (dp un : Nat) (gd : Option (List Code)) (cn : Str) (cs : Scope) (a' : Addr) (ccd : Value) (cl : List (Str × Addr)) (outer : List Env) (A₀ : Around) (base h₀ : Heap) (L : Addr) (m : Str → Option Value) (s : Shared) (Q E : Value → Shared → Prop),
      Below A₀ base outer h₀ → Fr h₀ L s.heap m → (hd.heap_39 w.params).In h₀ → News h₀ L s.heap news → Top p loose mean mg mb h₀ → cs.kind = .function → dp + 2 < recursionLimit → un + 8 * 2 < cLine →
      (∀ r tl h' tk', Fr h₀ L h' m → News h₀ L h' (tl ++ news) → OutI (opening first start a c) tl r → Q r { s with heap := h', toks := tk' }) →
      wpAny (model prog w) (ktrTop dp un gd cn cs L a' ccd cl outer) (call (.ref f) [.int c t1]) Q E s)
    (k : Eqx news f (opening first start a) → G) : G := by
  refine k ⟨⟨_, _, _, _, hm⟩, fun c t1 => ?_⟩
  unfold Says
  intro prog w p loose mean mg mb dp un gd cn cs a' ccd cl outer A₀ base h₀' L' m' news' s Q E B F X N' hP T hk hdp hun hret
  exact says news' (hP _ hm) (hP _ hc) (hP _ mF) (hP _ mS) (hP _ mL) (hP _ ml) hd' hv dF dS dL hI h0 h1 c t1 prog w p loose mean mg mb dp un gd cn cs a' ccd cl outer A₀ base h₀' L' m' s Q E B F X N' T hk hdp hun hret
/-- a return kept aside -/
structure Kept (p : Prop) : Prop where
  out : p
theorem endI_mark {p q : Prop} (h : p) (k : Kept p → q) : q := k ⟨h⟩
theorem endI_unmark {p : Prop} (h : Kept p) : p := h.out
/-- the lambda's line has been applied -/
structure EqMark : Prop
theorem eqMark : EqMark := ⟨⟩
theorem past_lo {x n : Int} (h : 0 ≤ n) : -2 ≤ x % (n + 5) - 2 := by
  have := Int.emod_nonneg x (show n + 5 ≠ 0 by omega); omega
theorem past_hi {x n : Int} (h : 0 ≤ n) : x % (n + 5) - 2 ≤ n + 2 := by
  have := Int.emod_lt_of_pos x (show 0 < n + 5 by omega); omega
/-- an expression whose ways meet in one int -/
inductive JoinEnd (h₀ : Heap) (L : Addr) (m : Str → Option Value) (news : Led) (P : Int → Prop) (s₁ : Shared) : Value → Shared → Prop where
  | mk {i : Int} {t : Tok} {h : Heap} {tk : Nat} : P i → Fr h₀ L h m → News h₀ L h news → JoinEnd h₀ L m news P s₁ (.int i t) { s₁ with heap := h, toks := tk }
theorem JoinEnd.sub {h₀ : Heap} {L : Addr} {m : Str → Option Value} {news all : Led} {P : Int → Prop} {s₁ : Shared} {i : Int} {t : Tok} {h : Heap} {tk : Nat} (F : Fr h₀ L h m) (N : News h₀ L h all) (hs : ∀ p ∈ news, p ∈ all) (hp : P i) :
    JoinEnd h₀ L m news P s₁ (.int i t) { s₁ with heap := h, toks := tk } := .mk hp F fun p hp => N p (hs p hp)
theorem join_int {prog : Program} {w : World} {A : Around} {E : Value → Shared → Prop} {s : Shared} {Q : Value → Shared → Prop} {e : Sem Value} {h₀ : Heap} {L : Addr} {m : Str → Option Value} {news : Led} (P : Int → Prop) (F : Fr h₀ L s.heap m) (N : News h₀ L s.heap news)
    (body : wpAny (model prog w) A e (fun v s' => JoinEnd h₀ L m news P s v s') E s)
    (rest : ∀ i t h tk, P i → Fr h₀ L h m → News h₀ L h news → Q (.int i t) { s with heap := h, toks := tk }) : wpAny (model prog w) A e Q E s :=
  wpAny_mono body (fun _ _ j => by cases j with | mk p F' N' => exact rest _ _ _ _ p F' N') fun _ _ x => x
structure JoinIn : Prop
theorem joinIn : JoinIn := ⟨⟩
structure Join1 : Prop
theorem join1 : Join1 := ⟨⟩
structure Join2 : Prop
theorem join2 : Join2 := ⟨⟩
section
local macro_rules | `(tactic| walk_at "eval IfExp") => `(tactic| (k_here; (fail_if_success (with_reducible (have q8 : JoinIn := by assumption))); (with_reducible (have q8 : Join2 := by assumption)); (rename Fr _ _ _ _ => lF'); (rename News _ _ _ _ => lN'); (with_reducible refine join_int (fun i => True) lF' lN' ?_ ?_); rotate_left; (clear lF' lN'; intro i9 t9 h9 tk9 hp9 F9 N9; (try dsimp only at hp9); (try dsimp only); (try k_fold)); rotate_left; (have kI9 : JoinIn := joinIn); (try dsimp only); (try k_fold)))
local macro_rules | `(tactic| walk_at "eval IfExp") => `(tactic| (k_here; (fail_if_success (with_reducible (have q8 : JoinIn := by assumption))); (with_reducible (have q8 : Join1 := by assumption)); (fail_if_success (with_reducible (have q8 : Join2 := by assumption))); (rename Fr _ _ _ _ => lF'); (rename News _ _ _ _ => lN'); (with_reducible refine join_int (fun i => -10 ≤ i ∧ i ≤ 10) lF' lN' ?_ ?_); rotate_left; (clear lF' lN'; intro i9 t9 h9 tk9 hp9 F9 N9; (have kJ9 : Join2 := join2); (try dsimp only at hp9); (try dsimp only); (try k_fold)); rotate_left; (have kI9 : JoinIn := joinIn); (try dsimp only); (try k_fold)))
local macro_rules | `(tactic| walk_at "eval IfExp") => `(tactic| (k_here; (fail_if_success (with_reducible (have q8 : JoinIn := by assumption))); (fail_if_success (with_reducible (have q8 : Join1 := by assumption))); (rename Fr _ _ _ _ => lF'); (rename News _ _ _ _ => lN'); (with_reducible refine join_int (fun i => -40000 ≤ i ∧ i ≤ 40000) lF' lN' ?_ ?_); rotate_left; (clear lF' lN'; intro i9 t9 h9 tk9 hp9 F9 N9; (have kJ9 : Join1 := join1); (try dsimp only at hp9); (try dsimp only); (try k_fold)); rotate_left; (have kI9 : JoinIn := joinIn); (try dsimp only); (try k_fold)))
local macro_rules | `(tactic| walk_at "JoinEnd") => `(tactic| (refine JoinEnd.sub (by assumption) (by assumption) (by repeat (first | exact sub0 | refine subS ?_)) (by first | trivial | omega | (dsimp only; omega))))
local macro_rules | `(tactic| walk_at "execs cons") => `(tactic| (k_here; (refine gen_toks ?_); intro tk; (with_reducible refine wpAny_execs_cons ?_); try dsimp only))
local macro_rules | `(tactic| walk_at "subscriptTail Name Name ref int") => `(tactic| (k_here; k_dflt (refine' marks_item ?X ?h0 ?h1 ?_; (case X => k_in); (case h0 => exact fmod_lo _ (by decide)); (case h1 => exact Int.le_of_lt_add_one (fmod_hi _ (by decide)))); intro v9 t9))
local macro_rules | `(tactic| walk_at "pyIter ref") => `(tactic| ((with_reducible show wpAny _ _ (pyIter (Value.ref _)) (fun it s₂ => LoopAtV _ _ _ _ _ _ _ _ _ it s₂) _ _); refine Stop.mk ?_))
local macro_rules | `(tactic| walk_at "exec For Name Tuple cons nil") => `(tactic| ((fail_if_success (with_reducible (have q8 : EqMark := by assumption))); k_dflt (refine' eqx_then ?N ?hm ?hc ?hd ?hv ?mF ?dF ?mS ?dS ?mL ?dL ?ml ?hI ?h0 ?h1 ?says ?go; (case N => k_asm); (case hm => exact List.Mem.head _); (case hc => k_mem); (case hd => assumption); (case hv => assumption); (case mF => k_mem); (case dF => assumption); (case mS => k_mem); (case dS => assumption); (case mL => k_mem); (case dL => assumption); (case ml => k_mem); (case hI => assumption); (case h0 => omega); (case h1 => omega); (case says => (intro news hm hc mF mS mL ml hd9 hv9 dF dS dL hI h0 h1 c t1 prog w p loose mean mg mb dp un gd cn cs a' ccd cl outer A₀ base h₀ L m s Q E B F X N T hk hdp hun hret; refine wpAny_call ?_; (refine' kla_code ?k1 ?k2 ?k3 ?k4 ?k5 ?kA ?kF ?kK ?k6 ?k7 ?k8 ?k9 ?kB ?_ ?c2 ?c3 ?c4 ?c5; (case kA => exact rfl); (case kF => exact rfl); (case kK => assumption); (case k1 => k_asm); (case k2 => k_asm); (case k3 => k_asm); (case k4 => k_asm); (case k5 => k_asm); (case k6 => exact hm); (case k7 => exact codeRec_news N hc hd9 hv9); (case k8 => ktr_room); (case k9 => exact rfl); (case c5 => decide); (case kB => exact locs rfl); (case c2 => exact rfl); (case c3 => exact rfl); (case c4 => exact rfl); k_whole; intro g' L' h' FG' F' N' B' X' T'; (try dsimp only); (try k_fold)); (repeat' (first | (k_unfold; (try dsimp only)) | walk1 | (dsimp only; walk1))); exact endI hret rfl (by assumption) (by assumption) sub0))); intro q9; (have kEq9 : EqMark := eqMark)))
local macro_rules | `(tactic| walk_at "InvEndN") => `(tactic| ((rename News _ _ _ _ => nE'); (try simp only [List.push_toArray] at nE'); (refine InvEndN.intro (by assumption) nE' ⟨⟨_, _, _, rfl, IntsAre.append (by assumption) (.cons _ _ .nil), sums_step (by assumption) (by omega), by simp only [List.length_append, List.length_cons, List.length_nil]; omega⟩, by (intro z h1; first | rfl | (simp [h1]; done))⟩ (by rfl) (by (with_unfolding_all ((try simp only [List.nil_append, List.cons_append]); k_allIn))) (by (intro p hp; k_ownIn)))))
local macro_rules | `(tactic| walk_at "call ref") => `(tactic| (k_here; k_dflt (refine' Says.useB (round_says _ _ _ _ _ _ _ _ _ ?q ?f0 ?f1 ?s0 ?s1 ?hS ?l0 ?l1 ?p0 ?p1 ?o0 ?o1) ?B ?F ?X ?N ?hP ?T ?hk ?hd ?hu ?_; (case q => assumption); (case B => k_asm); (case F => k_asm); (case X => k_asm); (case N => k_asm); (case T => k_asm); (case hP => repeat (first | exact Has.here | refine Has.more ?_)); (case f0 => omega); (case f1 => omega); (case s0 => omega); (case s1 => omega); (case hS => assumption); (case l0 => omega); (case l1 => omega); (case p0 => exact past_lo (by omega)); (case p1 => exact Int.le_trans (past_hi (by omega)) (by omega)); (case o0 => omega); (case o1 => omega); (case hk => first | exact rfl | assumption); (case hd => first | ktr_room | decide); (case hu => first | ktr_units | decide | exact Nat.lt_of_ble_eq_true rfl); intro h9 tk9 F9 N9; (try dsimp only); (try k_fold))))
local macro_rules | `(tactic| walk_at "call ref") => `(tactic| (k_here; (with_reducible (have q8 : EqMark := by assumption)); clear q8; k_dflt (refine' Says.useI (Eqx.says ?q _ _) ?B ?F ?X ?N ?hP ?T ?hk ?hd ?hu ?_; (case q => assumption); (case B => k_asm); (case F => k_asm); (case X => k_asm); (case N => k_asm); (case T => k_asm); (case hP => repeat (first | assumption | exact Has.here | refine Has.more ?_)); (case hk => first | exact rfl | assumption); (case hd => first | ktr_room | decide); (case hu => first | ktr_units | decide | exact Nat.lt_of_ble_eq_true rfl); intro t9 h9 tk9 F9 N9; (try dsimp only); (try k_fold))))
theorem law_walk : PySem.Challenge.rw_bn0006_01.Holds := hd (by
  w_top off
  k_with_none
  k_go0
  all_goals try k_fold
  k_steps
  all_goals refine Stop.out ?_
  all_goals (
    (rename Fr _ _ _ _ => lF'); (rename News _ _ _ _ => lN')
    (with_unfolding_all refine sums_loop (by rfl) (List.Mem.head _) (by assumption) lF' lN' ?_ ?_)
    (clear lF' lN'; intro us9 a9 nn9 pre9 n9 t9 h9 tk9 own9 hlt9 hoff9 hI9 hok9 hlen9 hul9 kFr9 kNews9; (have kMark9 : KstMark := kstMark); (try simp only [List.cons_append, List.nil_append] at kNews9); (try simp only [List.map_cons, List.map_nil] at hoff9); (try dsimp only); (try k_fold))
    rotate_left
    (clear lF' lN'; intro u9 us9 a9 nn9 h9 tk9 hI9 hok9 hlen9 kFr9 kNews9; (have hul9 := IntsAre.length hI9); (have hm9 : a9.length ≤ 13 := by omega); (try dsimp only); (try k_fold))
    rotate_left)
  k_steps)
end

end Mine
theorem PySem.Challenge.cw_bn0006_01_holds : PySem.Challenge.rw_bn0006_01.Holds :=
  Mine.law_walk
