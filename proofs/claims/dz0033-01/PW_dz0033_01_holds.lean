import PyProof.Rows.All
import Wide.All
import OpenK.AllK
import Wide.FinOn
import PySem.Challenge.RW_dz0033_01
open PySem PySem.W PyProof.Rows
set_option Elab.async false
set_option maxRecDepth 100000
set_option maxHeartbeats 8000000
namespace Mine
/-! The law of parse257. Each def that the law calls is walked once, as a contract (Con: what a call brings, whoever calls);
the plain law (told_due, due_written) stands apart from the walk. -/
open_top hd for PySem.Challenge.rw_dz0033_01

/-- what a call of the def at f with the arguments vs brings, whoever calls: a value r and new objects tl with Out tl r; all else stays -/
def Con (w : World) (n : Nat) (f : Addr) (vs : List Value) (Out : List (Addr × Obj) → Value → Prop) : Prop :=
  ∀ (mean : ExcName → Option Value) (mg mb : Str → Option Value) (dp un : Nat) (gd : Option (List Code)) (cn : Str) (cs : Scope) (a : Addr) (ccd : Value) (cl : List (Str × Addr)) (outer : List Env) (A₀ : Around) (base h₀ : Heap) (L : Addr) (m : Str → Option Value) (news : List (Addr × Obj)) (s : Shared) (Q E : Value → Shared → Prop),
    Below A₀ base outer h₀ → Fr h₀ L s.heap m → (hd.heap_39 w.params).In h₀ → News h₀ L s.heap news → Top hd.view_39 (looseW hd.view_39 []) mean mg mb h₀ → cs.kind = .function → dp + n < recursionLimit → un + 20 * n < cLine →
    (∀ r tl h' tk', Fr h₀ L h' m → News h₀ L h' (tl ++ news) → (∀ q ∈ news, ∀ p ∈ tl, q.1 < p.1) → Out tl r → Q r { s with heap := h', toks := tk' }) →
    wpAny (model PySem.Challenge.rw_dz0033_01.row.prog w) (ktrTop dp un gd cn cs L a ccd cl outer) (call (.ref f) vs) Q E s

/-! ## the quotes -/
def rep (n : Nat) : Str := ⟨(List.replicate n 34).toArray⟩
theorem rep_length (n : Nat) : (rep n).length = n := by simp [rep, Str.length]
theorem quote_eq : Str.ofString "\"" = ⟨#[34]⟩ := by decide +kernel
theorem is_quote (n : Nat) : ((⟨#[n]⟩ : Str) == Str.ofString "\"") = decide (n = 34) := by
  rw [quote_eq]
  by_cases h : n = 34
  · subst h; rfl
  · rw [decide_eq_false h]
    refine beq_eq_false_iff_ne.mpr fun e => h ?_
    simpa using e
theorem fold_rep : ∀ (n : Nat) (b : Array Nat), (List.replicate n #[34]).foldl (· ++ ·) b = b ++ (List.replicate n 34).toArray := by
  intro n
  induction n with
  | zero => intro b; simp
  | succ n ih =>
    intro b
    rw [List.replicate_succ, List.foldl_cons, ih, List.replicate_succ]
    refine Array.toList_inj.mp ?_
    simp
theorem mul_rep (n : Int) : Txt.mul (Str.ofString "\"") n = rep n.toNat := by
  rw [quote_eq]
  unfold Txt.mul
  by_cases h1 : n < 1
  · rw [if_pos h1]
    have e : n.toNat = 0 := by omega
    rw [e]; rfl
  · rw [if_neg h1]
    by_cases h2 : n = 1
    · subst h2; rfl
    · rw [if_neg (by simpa [Str.length] using h2)]
      unfold rep
      congr 1
      rw [fold_rep]
      simp
theorem half_facts {run : Int} (h0 : 0 ≤ run) : 0 ≤ run.fdiv 2 ∧ 2 * run.fdiv 2 ≤ run := by
  rw [Int.fdiv_eq_ediv_of_nonneg _ (by decide)]
  omega
section
variable {prog : Program} {w : World} {A : Around} {E : Value → Shared → Prop} {s : Shared} {t u : Tok} {Q : Value → Shared → Prop}
theorem mul_q {run : Int} (h0 : 0 ≤ run) (h1 : run ≤ 4000) (h : ∀ t' k, 2 * ((rep (run.fdiv 2).toNat).length : Int) ≤ run → Q (.str (rep (run.fdiv 2).toNat) t') { s with toks := k }) :
    wpAny (model prog w) A (binaryOp .Mult (.str (Str.ofString "\"") t) (.int (run.fdiv 2) u)) Q E s := by
  have hf := half_facts h0
  refine SB.mul (mulOk_of 16 1048576 (by decide) (by omega) (by omega) (by decide) (by decide)) fun t' k => ?_
  rw [mul_rep]
  refine h t' k ?_
  rw [rep_length]
  omega
end
local macro_rules | `(tactic| walk_at "binaryOp Mult str int") => `(tactic| (k_here; (with_reducible show wpAny _ _ (binaryOp Operator.Mult (Value.str (Str.ofString "\"") _) (Value.int (Int.fdiv _ 2) _)) _ _ _); (refine mul_q (by omega) (by omega) ?_); intro _ _ _))

theorem drop_own {h₀ h : Heap} {L : Addr} {news own : List (Addr × Obj)} (N : News h₀ L h (news ++ own)) : News h₀ L h ([] ++ news) := fun p hp => N p (List.mem_append.mpr (.inl hp))

/-! ## _law_name -/
def goName : Str → Int → List Int → Str
  | name, run, [] => name ++ rep (run.fdiv 2).toNat
  | name, run, c :: r => if c = 34 then goName name (run + 1) r else if run.fmod 2 = 1 then name ++ rep (run.fdiv 2).toNat else goName (name ++ rep (run.fdiv 2).toNat ++ ⟨#[c.toNat]⟩) 0 r
def nameF (x : Str) : Str := goName Str.empty 0 (KStt.codes x)
def NameInv (pre : List Int) (name : Str) (run : Int) : Prop :=
  ∀ post, goName Str.empty 0 (pre ++ post) = goName name run post

theorem name_start : NameInv [] (Str.ofString "") 0 ∧ (0 : Int) ≤ 0 ∧ ((Str.ofString "").length : Int) + 0 ≤ (([] : List Int).length : Int) := by
  refine ⟨fun post => ?_, by omega, by decide⟩
  rw [List.nil_append]; rfl
theorem name_q {pre : List Int} {name : Str} {run : Int} {n : Nat} (h : NameInv pre name run) (h0 : 0 ≤ run) (h1 : (name.length : Int) + run ≤ (pre.length : Int)) (hq : ((⟨#[n]⟩ : Str) == Str.ofString "\"") = true) :
    NameInv (pre ++ [(n : Int)]) name (run + 1) ∧ 0 ≤ run + 1 ∧ (name.length : Int) + (run + 1) ≤ ((pre ++ [(n : Int)]).length : Int) := by
  rw [is_quote] at hq
  have hn := of_decide_eq_true hq
  subst hn
  refine ⟨fun post => ?_, by omega, by simp only [List.length_append, List.length_cons, List.length_nil]; omega⟩
  rw [List.append_assoc, h]
  show goName name run (34 :: post) = _
  rw [goName, if_pos rfl]
theorem name_c {pre : List Int} {name : Str} {run : Int} {n : Nat} (h : NameInv pre name run) (h0 : 0 ≤ run) (h1 : (name.length : Int) + run ≤ (pre.length : Int)) (hq : ((⟨#[n]⟩ : Str) == Str.ofString "\"") = false) (hm : run.fmod 2 ≠ 1) (hl : 2 * ((rep (run.fdiv 2).toNat).length : Int) ≤ run) :
    NameInv (pre ++ [(n : Int)]) (name ++ rep (run.fdiv 2).toNat ++ ⟨#[n]⟩) 0 ∧ (0 : Int) ≤ 0 ∧ ((name ++ rep (run.fdiv 2).toNat ++ ⟨#[n]⟩ : Str).length : Int) + 0 ≤ ((pre ++ [(n : Int)]).length : Int) := by
  rw [is_quote] at hq
  have hn := of_decide_eq_false hq
  refine ⟨fun post => ?_, by omega, ?_⟩
  · rw [List.append_assoc, h]
    show goName name run ((n : Int) :: post) = _
    rw [goName, if_neg (by omega), if_neg hm]
    rfl
  · simp only [Str.length_append, List.length_append, List.length_cons, List.length_nil]
    have e : Str.length ⟨#[n]⟩ = 1 := rfl
    omega
theorem name_brk {x : Str} {pre post : List Int} {name : Str} {run : Int} {n : Nat} (h : NameInv pre name run) (e : KStt.codes x = pre ++ (n : Int) :: post) (hq : ((⟨#[n]⟩ : Str) == Str.ofString "\"") = false) (hm : run.fmod 2 = 1) :
    name ++ rep (run.fdiv 2).toNat = nameF x := by
  rw [is_quote] at hq
  have hn := of_decide_eq_false hq
  unfold nameF
  rw [e, h, goName, if_neg (by omega), if_pos hm]
theorem name_end {x : Str} {name : Str} {run : Int} (h : NameInv (KStt.codes x) name run) : name ++ rep (run.fdiv 2).toNat = nameF x := by
  have h' := h []
  rw [List.append_nil] at h'
  unfold nameF
  rw [h', goName]

theorem name_con (w : World) (x : Str) (t : Tok) (hx : x.length ≤ 1000) : Con w 5 53 [.str x t] (fun tl r => tl = [] ∧ ∃ t', r = .str (nameF x) t') := by
  unfold Con
  k_fill
  k_with_none
  w_top off
  k_with "pyIter str" => k_state (fun pre name run => NameInv pre name run ∧ 0 ≤ run ∧ (name.length : Int) + run ≤ (pre.length : Int)) "name" "run"
  k_with "state" => first | exact name_start | exact name_q (by assumption) (by assumption) (by assumption) (by assumption) | exact name_c (by assumption) (by assumption) (by assumption) (by assumption) (by assumption) (by assumption)
  intro mean mg mb dp un gd cn cs a ccd cl outer A₀ base h₀ L m news s Q E B F X N T hk hdp hun hret
  refine wpAny_call ?_
  k_dflt cell_enter
  k_steps
  all_goals k_with_none
  · refine hret _ [] _ _ (by assumption) (drop_own (by assumption)) (by intro _ _ _ h; cases h) ⟨rfl, _, congrArg (Value.str · _) ?_⟩
    exact name_brk (by assumption) (by assumption) (by assumption) (by assumption)
  · refine hret _ [] _ _ (by assumption) (by assumption) (by intro _ _ _ h; cases h) ⟨rfl, _, congrArg (Value.str · _) ?_⟩
    exact name_end (by assumption)

section
variable {w : World} {n : Nat} {f : Addr} {vs : List Value} {Out : List (Addr × Obj) → Value → Prop} {mean : ExcName → Option Value} {mg mb : Str → Option Value} {dp un : Nat} {gd : Option (List Code)} {cn : Str} {cs : Scope} {a : Addr} {ccd : Value} {cl : List (Str × Addr)} {outer : List Env} {A₀ : Around} {base h₀ : Heap} {L : Addr} {m : Str → Option Value} {news : List (Addr × Obj)} {s : Shared} {Q E : Value → Shared → Prop}
def StrOut (y : Str) (tl : List (Addr × Obj)) (r : Value) : Prop := tl = [] ∧ ∃ t', r = .str y t'
def PairOut (p : Str × Str) (tl : List (Addr × Obj)) (r : Value) : Prop := ∃ D t1 t2, tl = [(D, listOf #[.str p.1 t1, .str p.2 t2] 0)] ∧ r = .ref D
theorem con_str {y : Str} (C : Con w n f vs (StrOut y)) (B : Below A₀ base outer h₀) (F : Fr h₀ L s.heap m) (X : (hd.heap_39 w.params).In h₀) (N : News h₀ L s.heap news) (T : Top hd.view_39 (looseW hd.view_39 []) mean mg mb h₀) (hk : cs.kind = .function) (hdp : dp + n < recursionLimit) (hun : un + 20 * n < cLine)
    (ret : ∀ t' h' tk', Fr h₀ L h' m → News h₀ L h' news → Q (.str y t') { s with heap := h', toks := tk' }) :
    wpAny (model PySem.Challenge.rw_dz0033_01.row.prog w) (ktrTop dp un gd cn cs L a ccd cl outer) (call (.ref f) vs) Q E s := by
  refine C _ _ _ _ _ _ _ _ _ _ _ _ _ _ _ _ _ _ _ _ _ B F X N T hk hdp hun ?_
  rintro r tl h' tk' F' N' _ ⟨rfl, t', rfl⟩
  exact ret t' h' tk' F' N'
theorem con_pair {p : Str × Str} (C : Con w n f vs (PairOut p)) (B : Below A₀ base outer h₀) (F : Fr h₀ L s.heap m) (X : (hd.heap_39 w.params).In h₀) (N : News h₀ L s.heap news) (T : Top hd.view_39 (looseW hd.view_39 []) mean mg mb h₀) (hk : cs.kind = .function) (hdp : dp + n < recursionLimit) (hun : un + 20 * n < cLine)
    (ret : ∀ D t1 t2 h' tk', Fr h₀ L h' m → News h₀ L h' ((D, listOf #[.str p.1 t1, .str p.2 t2] 0) :: news) → (∀ p ∈ news, p.1 < D) → Q (.ref D) { s with heap := h', toks := tk' }) :
    wpAny (model PySem.Challenge.rw_dz0033_01.row.prog w) (ktrTop dp un gd cn cs L a ccd cl outer) (call (.ref f) vs) Q E s := by
  refine C _ _ _ _ _ _ _ _ _ _ _ _ _ _ _ _ _ _ _ _ _ B F X N T hk hdp hun ?_
  rintro r tl h' tk' F' N' hl ⟨D, t1, t2, rfl, rfl⟩
  exact ret D t1 t2 h' tk' F' N' fun q hq => hl q hq _ (.head _)
theorem pair_end {p : Str × Str} {x y : Str} {D : Addr} {t1 t2 : Tok} {h' : Heap} {tk' : Nat}
    (hret : ∀ r tl h' tk', Fr h₀ L h' m → News h₀ L h' (tl ++ news) → (∀ q ∈ news, ∀ p ∈ tl, q.1 < p.1) → PairOut p tl r → Q r { s with heap := h', toks := tk' })
    (F : Fr h₀ L h' m) (N : News h₀ L h' ((D, listOf #[.str x t1, .str y t2] 0) :: news)) (hl : ∀ p ∈ news, p.1 < D) (e : p = (x, y)) : Q (.ref D) { s with heap := h', toks := tk' } := by
  subst e
  exact hret _ [_] _ _ F N (by intro q hq p hp; rw [List.mem_singleton.mp hp]; exact hl q hq) ⟨D, t1, t2, rfl, rfl⟩
end
theorem name_con' (w : World) (x : Str) (t : Tok) (hx : x.length ≤ 1000) : Con w 5 53 [.str x t] (StrOut (nameF x)) := name_con w x t hx
local macro_rules | `(tactic| walk_at "call ref") => `(tactic| (k_here; (with_reducible show wpAny _ _ (call (Value.ref 53) [Value.str _ _]) _ _ _); (refine' con_str (name_con' _ _ _ ?hx) ?k1 ?k2 ?k3 ?k4 ?k5 ?k6 ?k7 ?k8 ?_); (case k1 => k_asm); (case k2 => k_asm); (case k3 => k_asm); (case k4 => k_asm); (case k5 => k_asm); (case k6 => first | exact rfl | assumption); (case k7 => ktr_room); (case k8 => ktr_units); (case hx => omega); intro t9 h9 tk9 F9 N9; (try dsimp only); (try k_fold)))

/-! ## _law_due -/
def refusedS : Str := Str.ofString "refused"
def toldS : Str := Str.ofString "told"
def dueF (x : Str) : Str × Str :=
  if Txt.startswith x (Str.ofString "257") = true then
    if Txt.startswith x (Str.ofString "257 \"") = true then (toldS, nameF (Txt.slice x (some 5) none)) else (toldS, Str.ofString "")
  else (refusedS, x)
theorem due_con (w : World) (x : Str) (t : Tok) (hx : x.length ≤ 900) : Con w 10 60 [.str x t] (PairOut (dueF x)) := by
  unfold Con
  k_fill
  k_with_none
  w_top off
  intro mean mg mb dp un gd cn cs a ccd cl outer A₀ base h₀ L m news s Q E B F X N T hk hdp hun hret
  refine wpAny_call ?_
  k_dflt cell_enter
  k_steps
  · refine pair_end hret (by assumption) (by assumption) (by assumption) ?_
    unfold dueF
    rw [if_pos (by assumption), if_pos (by assumption)]; rfl
  · refine pair_end hret (by assumption) (by assumption) (by assumption) ?_
    unfold dueF
    rw [if_pos (by assumption), if_neg (Bool.eq_false_iff.mp (by assumption))]; rfl
  · refine pair_end hret (by assumption) (by assumption) (by assumption) ?_
    unfold dueF
    rw [if_neg (Bool.eq_false_iff.mp (by assumption))]; rfl

/-! ## slices and heads as lists -/
theorem idx_clip (l u : Nat) (n : Nat) : PySem.Builtin.Str.strSliceIndices (some (l : Int)) (some (u : Int)) 1 n = PySem.Builtin.Str.strSliceIndices (some ((min l n : Nat) : Int)) (some ((min u n : Nat) : Int)) 1 n := by
  have h1 : ¬ ((l : Int) < 0) := by omega
  have h2 : ¬ ((u : Int) < 0) := by omega
  have h3 : ¬ (((min l n : Nat) : Int) < 0) := by omega
  have h4 : ¬ (((min u n : Nat) : Int) < 0) := by omega
  have e1 : max (0 : Int) (min (l : Int) (n : Int)) = max (0 : Int) (min ((min l n : Nat) : Int) (n : Int)) := by omega
  have e2 : max (0 : Int) (min (u : Int) (n : Int)) = max (0 : Int) (min ((min u n : Nat) : Int) (n : Int)) := by omega
  simp only [PySem.Builtin.Str.strSliceIndices, h1, h2, h3, h4, if_false, show ((1 : Int) > 0) = True from by simp, if_true, e1, e2]
theorem slice_is (x : Str) (l u : Option Int) : Txt.slice x l u = StrLaws.sliceText x l u := rfl
theorem slice_ab (x : Str) (l u : Nat) (h : l ≤ u) : (Txt.slice x (some (l : Int)) (some (u : Int))).cps.toList = (x.cps.toList.drop l).take (u - l) := by
  rw [slice_is]
  have e : StrLaws.sliceText x (some (l : Int)) (some (u : Int)) = StrLaws.sliceText x (some ((min l x.length : Nat) : Int)) (some ((min u x.length : Nat) : Int)) := by
    unfold StrLaws.sliceText
    rw [idx_clip]
  rw [e, StrLaws.sliceText_nat x (by omega) (by omega)]
  show (x.cps.toList.drop (min l x.length)).take (min u x.length - min l x.length) = _
  have hx : x.cps.toList.length = x.length := by simp [Str.length]
  by_cases h1 : l ≤ x.length
  · rw [Nat.min_eq_left h1]
    by_cases h2 : u ≤ x.length
    · rw [Nat.min_eq_left h2]
    · rw [Nat.min_eq_right (by omega), List.take_of_length_le (by rw [List.length_drop]; omega), List.take_of_length_le (by rw [List.length_drop]; omega)]
  · rw [Nat.min_eq_right (by omega), Nat.min_eq_right (by omega), List.drop_eq_nil_of_le (by omega), List.drop_eq_nil_of_le (by omega)]
    simp
theorem slice_b (x : Str) (u : Nat) : (Txt.slice x none (some (u : Int))).cps.toList = x.cps.toList.take u := by
  have e : Txt.slice x none (some (u : Int)) = Txt.slice x (some ((0 : Nat) : Int)) (some (u : Int)) := by
    rw [slice_is, slice_is]
    unfold StrLaws.sliceText
    rw [StrLaws.sliceIdx_none_lo]
    rfl
  rw [e, slice_ab x 0 u (by omega), List.drop_zero, Nat.sub_zero]
theorem slice_a (x : Str) (l : Nat) : (Txt.slice x (some (l : Int)) none).cps.toList = x.cps.toList.drop l := by
  have hx : x.cps.toList.length = x.length := by simp [Str.length]
  by_cases h1 : l ≤ x.length
  · have e : Txt.slice x (some (l : Int)) none = Txt.slice x (some (l : Int)) (some (x.length : Int)) := by
      rw [slice_is, slice_is]
      unfold StrLaws.sliceText
      rw [StrLaws.sliceIdx_none_hi]
    rw [e, slice_ab x l x.length h1]
    exact List.take_of_length_le (by rw [List.length_drop]; omega)
  · have e : Txt.slice x (some (l : Int)) none = Txt.slice x (some (l : Int)) (some (x.length : Int)) := by
      rw [slice_is, slice_is]
      unfold StrLaws.sliceText
      rw [StrLaws.sliceIdx_none_hi]
    have e2 : StrLaws.sliceText x (some (l : Int)) (some (x.length : Int)) = StrLaws.sliceText x (some ((min l x.length : Nat) : Int)) (some ((min x.length x.length : Nat) : Int)) := by
      unfold StrLaws.sliceText
      rw [idx_clip]
    rw [e, slice_is, e2, StrLaws.sliceText_nat x (by omega) (by omega)]
    show (x.cps.toList.drop (min l x.length)).take (min x.length x.length - min l x.length) = _
    rw [List.drop_eq_nil_of_le (show x.cps.toList.length ≤ min l x.length by omega), List.drop_eq_nil_of_le (by omega)]
    simp
theorem str_eq_iff (x y : Str) : (x == y) = decide (x.cps.toList = y.cps.toList) := by
  by_cases h : x = y
  · subst h; simp
  · rw [beq_eq_false_iff_ne.mpr h, decide_eq_false]
    intro e
    exact h (Str.ext' (Array.toList_inj.mp e))
theorem starts_iff (x y : Str) : Txt.startswith x y = decide (x.cps.toList.take y.cps.toList.length = y.cps.toList) := by
  unfold Txt.startswith PySem.Builtin.Str.subAt
  have hy : y.length = y.cps.toList.length := by simp [Str.length]
  have hx : x.length = x.cps.toList.length := by simp [Str.length]
  by_cases h : y.cps.toList.length ≤ x.cps.toList.length
  · rw [decide_eq_true (by omega), Bool.true_and]
    have e : (x.cps.extract 0 (0 + y.length)).toList = x.cps.toList.take y.cps.toList.length := by
      rw [Array.toList_extract, hy]
      simp
    by_cases q : x.cps.extract 0 (0 + y.length) = y.cps
    · rw [beq_iff_eq.mpr q, decide_eq_true]
      rw [← e, q]
    · rw [beq_eq_false_iff_ne.mpr q, decide_eq_false]
      intro z
      exact q (Array.toList_inj.mp (e.trans z))
  · rw [decide_eq_false (by omega), Bool.false_and, decide_eq_false]
    intro z
    have := congrArg List.length z
    rw [List.length_take] at this
    omega

/-! ## what parse257's loop tells -/
def dec : List Nat → List Nat
  | [] => []
  | [c] => if c = 34 then [] else [c]
  | c :: d :: r => if c = 34 then (if d = 34 then 34 :: dec r else []) else c :: dec (d :: r)
theorem dec_other {c : Nat} (h : c ≠ 34) (r : List Nat) : dec (c :: r) = c :: dec r := by
  cases r with
  | nil => simp [dec, h]
  | cons d r => simp [dec, h]
theorem dec_two (r : List Nat) : dec (34 :: 34 :: r) = 34 :: dec r := by simp [dec]
theorem dec_one (r : List Nat) (h : ∀ c, r[0]? = some c → c ≠ 34) : dec (34 :: r) = [] := by
  cases r with
  | nil => simp [dec]
  | cons d r => simp [dec, h d rfl]
theorem dec_reps (k : Nat) (r : List Nat) : dec (List.replicate (2 * k) 34 ++ r) = List.replicate k 34 ++ dec r := by
  induction k with
  | zero => simp
  | succ k ih =>
    have e : 2 * (k + 1) = 2 * k + 1 + 1 := by omega
    rw [e, List.replicate_succ, List.replicate_succ, List.replicate_succ, List.cons_append, List.cons_append, dec_two, ih, List.cons_append]
theorem goName_dec : ∀ (l : List Nat) (name : Str) (run : Nat), (goName name (run : Int) (l.map fun (c : Nat) => (c : Int))).cps.toList = name.cps.toList ++ dec (List.replicate run 34 ++ l)
  | [], name, run => by
    rw [List.map_nil, goName, Str.cps_append, Array.toList_append, List.append_nil]
    congr 1
    have e : ((run : Int).fdiv 2).toNat = run / 2 := by
      rw [Int.fdiv_eq_ediv_of_nonneg _ (by decide)]
      omega
    rw [e]
    show (List.replicate (run / 2) 34).toArray.toList = _
    rcases Nat.mod_two_eq_zero_or_one run with h | h
    · have q : run = 2 * (run / 2) := by omega
      have := dec_reps (run / 2) []
      rw [List.append_nil, ← q] at this
      rw [this]
      simp [dec]
    · have q : run = 2 * (run / 2) + 1 := by omega
      have := dec_reps (run / 2) [34]
      have q2 : List.replicate run 34 = List.replicate (2 * (run / 2)) 34 ++ [34] := by
        conv => lhs; rw [q]
        rw [List.replicate_succ']
      rw [q2, this]
      simp [dec]
  | c :: r, name, run => by
    rw [List.map_cons, goName]
    by_cases hc : c = 34
    · rw [if_pos (by omega)]
      have := goName_dec r name (run + 1)
      rw [show ((run + 1 : Nat) : Int) = (run : Int) + 1 from rfl] at this
      rw [this, List.replicate_succ', List.append_assoc, hc]
      rfl
    · rw [if_neg (by omega)]
      have e : ((run : Int).fdiv 2).toNat = run / 2 := by
        rw [Int.fdiv_eq_ediv_of_nonneg _ (by decide)]
        omega
      have e2 : (run : Int).fmod 2 = ((run % 2 : Nat) : Int) := by
        rw [Int.fmod_eq_emod_of_nonneg _ (by decide)]
        omega
      rw [e, e2]
      rcases Nat.mod_two_eq_zero_or_one run with h | h
      · rw [if_neg (by omega)]
        have := goName_dec r (name ++ rep (run / 2) ++ ⟨#[((c : Int)).toNat]⟩) 0
        rw [show ((0 : Nat) : Int) = 0 from rfl] at this
        rw [this, Str.cps_append, Str.cps_append, Array.toList_append, Array.toList_append]
        have q : run = 2 * (run / 2) := by omega
        have z := dec_reps (run / 2) (c :: r)
        rw [← q, dec_other hc] at z
        rw [z]
        show name.cps.toList ++ (List.replicate (run / 2) 34) ++ [((c : Int)).toNat] ++ dec (List.replicate 0 34 ++ r) = _
        simp
      · rw [if_pos (by omega), Str.cps_append, Array.toList_append]
        congr 1
        have q : run = 2 * (run / 2) + 1 := by omega
        have z := dec_reps (run / 2) (34 :: c :: r)
        have q2 : List.replicate run 34 ++ c :: r = List.replicate (2 * (run / 2)) 34 ++ 34 :: c :: r := by
          conv => lhs; rw [q]
          rw [List.replicate_succ', List.append_assoc]
          rfl
        rw [q2, z, dec_one _ (by intro d hd; simp at hd; omega), List.append_nil]
        rfl
theorem nameF_dec (x : Str) : (nameF x).cps.toList = dec x.cps.toList := by
  have := goName_dec x.cps.toList Str.empty 0
  unfold nameF KStt.codes
  rw [show ((0 : Nat) : Int) = 0 from rfl] at this
  rw [this]
  simp [Str.empty]

def toldF (x : Str) : Str × Str :=
  if (Txt.slice x none (some 3) != Str.ofString "257") = true then (refusedS, x)
  else if (Txt.slice x (some 3) (some 5) != Str.ofString " \"") = true then (toldS, Str.ofString "")
  else (toldS, ⟨(dec (x.cps.toList.drop 5)).toArray⟩)
theorem lit257 : (Str.ofString "257").cps.toList = [50, 53, 55] := by decide +kernel
theorem lit257q : (Str.ofString "257 \"").cps.toList = [50, 53, 55, 32, 34] := by decide +kernel
theorem litq : (Str.ofString " \"").cps.toList = [32, 34] := by decide +kernel
theorem told_due (x : Str) : toldF x = dueF x := by
  unfold toldF dueF
  rw [starts_iff, starts_iff, lit257, lit257q]
  have h3 : (Txt.slice x none (some 3) != Str.ofString "257") = !decide (x.cps.toList.take 3 = [50, 53, 55]) := by
    show (!(Txt.slice x none (some ((3 : Nat) : Int)) == Str.ofString "257")) = _
    rw [str_eq_iff, slice_b, lit257]
  have h5 : (Txt.slice x (some 3) (some 5) != Str.ofString " \"") = !decide ((x.cps.toList.drop 3).take 2 = [32, 34]) := by
    show (!(Txt.slice x (some ((3 : Nat) : Int)) (some ((5 : Nat) : Int)) == Str.ofString " \"")) = _
    rw [str_eq_iff, slice_ab x 3 5 (by omega), litq]
  rw [h3, h5]
  have e5 : x.cps.toList.take 5 = x.cps.toList.take 3 ++ (x.cps.toList.drop 3).take 2 := by
    rw [show 5 = 3 + 2 from rfl, List.take_add]
  show (if (!decide (x.cps.toList.take 3 = [50, 53, 55])) = true then _ else if (!decide ((x.cps.toList.drop 3).take 2 = [32, 34])) = true then _ else _) = (if decide (x.cps.toList.take 3 = [50, 53, 55]) = true then if decide (x.cps.toList.take 5 = [50, 53, 55, 32, 34]) = true then _ else _ else _)
  by_cases p : x.cps.toList.take 3 = [50, 53, 55]
  · rw [decide_eq_true p, if_neg (by simp), if_pos rfl]
    by_cases q : (x.cps.toList.drop 3).take 2 = [32, 34]
    · rw [decide_eq_true q, if_neg (by simp), if_pos (by rw [e5, p, q]; decide)]
      congr 1
      refine Str.ext' (Array.toList_inj.mp ?_)
      rw [nameF_dec]
      show dec (x.cps.toList.drop 5) = dec (Txt.slice x (some ((5 : Nat) : Int)) none).cps.toList
      rw [slice_a]
    · rw [decide_eq_false q, if_pos (by simp), if_neg]
      intro z
      have z := of_decide_eq_true z
      rw [e5, p] at z
      exact q (by simpa using z)
  · rw [decide_eq_false p, if_pos (by simp), if_neg (by simp)]

/-! ## a name written so comes back -/
def dbl (l : List Nat) : List Nat := l.flatMap fun c => if c = 34 then [34, 34] else [c]
theorem dbl_cons (c : Nat) (r : List Nat) : dbl (c :: r) = (if c = 34 then [34, 34] else [c]) ++ dbl r := List.flatMap_cons
theorem dec_dbl (l b : List Nat) (h : ∀ c, b[0]? = some c → c ≠ 34) : dec (dbl l ++ 34 :: b) = l := by
  induction l with
  | nil => exact dec_one b h
  | cons c r ih =>
    rw [dbl_cons]
    by_cases hc : c = 34
    · subst hc
      rw [if_pos rfl]
      show dec (34 :: 34 :: (dbl r ++ 34 :: b)) = _
      rw [dec_two, ih]
    · rw [if_neg hc]
      show dec (c :: (dbl r ++ 34 :: b)) = _
      rw [dec_other hc, ih]
theorem told_written (w : Str) (t b : List Nat) (hw : w.cps.toList = [50, 53, 55, 32, 34] ++ (dbl t ++ 34 :: b)) (h : ∀ c, b[0]? = some c → c ≠ 34) : toldF w = (toldS, ⟨t.toArray⟩) := by
  have h3 : (Txt.slice w none (some 3) != Str.ofString "257") = !decide (w.cps.toList.take 3 = [50, 53, 55]) := by
    show (!(Txt.slice w none (some ((3 : Nat) : Int)) == Str.ofString "257")) = _
    rw [str_eq_iff, slice_b, lit257]
  have h5 : (Txt.slice w (some 3) (some 5) != Str.ofString " \"") = !decide ((w.cps.toList.drop 3).take 2 = [32, 34]) := by
    show (!(Txt.slice w (some ((3 : Nat) : Int)) (some ((5 : Nat) : Int)) == Str.ofString " \"")) = _
    rw [str_eq_iff, slice_ab w 3 5 (by omega), litq]
  unfold toldF
  rw [h3, h5, hw]
  rw [if_neg (by simp), if_neg (by simp)]
  show (toldS, (⟨(dec (dbl t ++ 34 :: b)).toArray⟩ : Str)) = _
  rw [dec_dbl t b h]

section
open PySem.Spec PySem.Calls PySem.Builtin PySem.Builtin.Str PySem.Builtin.BaseException PySem.Builtin.Exceptions

/-! ## str(e), e of an own exception class, made with one text -/
section
variable {prog : Program} {w : World} {M : Model} {A : Around} {E : Value → Shared → Prop} {s : Shared} {K : Frag} {e t0 C : Addr} {o : Obj} {ws : Array Value} {msg : Str} {tk : Tok}
theorem own_args {items : List Value} {Q : Value × List Value → Shared → Prop} (hx : s.heap.get? e = some o) (hd : o.data = .fields ws) (h0 : ws[0]? = some (.ref t0)) (ht : s.heap.TupAt t0 items) (hq : Q (.ref t0, items) s) :
    wpAny M A (bexcArgs (.ref e)) Q E s := by
  obtain ⟨ot, k, hto, _, htd⟩ := ht
  unfold bexcArgs
  refine wpAny_bind (wpAny_field hx hd h0 (wpAny_bind (wpAny_seqItems hto htd ?_)))
  have q : items.toArray.toList = items := by simp
  show wpAny M A (pure (Value.ref t0, items.toArray.toList)) Q E s
  rw [q]
  exact wpAny_pure hq
theorem own_entry {Q : Fin → Shared → Prop} (hx : s.heap.get? e = some o) (hd : o.data = .fields ws) (h0 : ws[0]? = some (.ref t0)) (ht : s.heap.TupAt t0 [.str msg tk]) (hq : Q (.done (.ret (.str msg tk))) s) :
    wpAny (model prog w) A (Builtin.«BaseException.__str__» ⟨[.ref e], []⟩) Q E s := by
  unfold Builtin.«BaseException.__str__»
  repeat (first | with_reducible refine own_args hx hd h0 ht ?_ | wp_step)
  exact hq
theorem own_type (hx : s.heap.get? e = some o) (hc : o.cls = .ref C) : Looks M s.heap (typeOf (.ref e)) (.ref C) := hc ▸ (Looks.ld hx).andThen .now
theorem own_special {name : Str} {id : String} {args : List Value} {Q : Option Value → Shared → Prop} (X : K.In s.heap) (ty : Looks M s.heap (typeOf (.ref e)) (.ref C)) (hs : findIn K (.ref C) name = some (some (.builtin id)))
    (hb : ∀ self, bindSpecial (.builtin id) self = pure (.builtin id, [self])) (h : wpAny M A (call (.builtin id) (.ref e :: args)) (fun v => Q (some v)) E s) : wpAny M A (callSpecial? (.ref e) name args) Q E s :=
  wpAny_bind (wpAny_bind (ty.here ((looks_findIn X hs).here (wpAny_holding (wpAny_bind ((Looks.of_pure (hb _)).here (wpAny_bind (wpAny_mono h (fun _ _ z => wpAny_pure z) fun _ _ z => z))))))))
theorem own_call {Q : Value → Shared → Prop} (X : K.In s.heap) (hx : s.heap.get? e = some o) (hc : o.cls = .ref C) (hm : mroIn K C (.type "BaseException") = some true) (hd : o.data = .fields ws) (h0 : ws[0]? = some (.ref t0)) (ht : s.heap.TupAt t0 [.str msg tk]) (h : Q (.str msg tk) s) :
    wpAny (model prog w) A (call (.builtin "BaseException.__str__") [.ref e]) Q E s :=
  wpAny_call (codeAny_call_builtin PySem.F.excStr_Exception.str.plain PySem.F.entry_bexc_str (check_slot (i := "BaseException.__str__") (owner := "BaseException") (n := "__str__") (by decide +kernel) (by decide +kernel) ((own_type hx hc).andThen (looks_mroIn X hm)) (PySem.F.args_bexc_str _) (own_entry hx hd h0 ht h)))
theorem own_str {Q : Value → Shared → Prop} (hu : A.in1.in1.units < cLine) (X : K.In s.heap) (hx : s.heap.get? e = some o) (hc : o.cls = .ref C) (hs : findIn K (.ref C) "__str__" = some (some (.builtin "BaseException.__str__"))) (hm : mroIn K C (.type "BaseException") = some true)
    (hd : o.data = .fields ws) (h0 : ws[0]? = some (.ref t0)) (ht : s.heap.TupAt t0 [.str msg tk]) (h : Q (.str msg tk) s) : wpAny (model prog w) A (call (.type "str") [.ref e]) Q E s := by
  refine callType_codes (T := "str") (Bi := Builtin.«object.__init__») (Q₁ := fun r s₁ => ∃ y u, r = .str y u ∧ Q r s₁) PySem.F.called_str (PySem.F.typeCall_str_1 _) PySem.F.entry_object_init ?_ ?_
  · refine codeAny_of_tree ?_
    show wpAny _ A.in1.in1 (do checkBuiltinCall "str.__new__" ⟨[.type "str", .ref e], []⟩; again (.builtin "str.__new__" ⟨[.type "str", .ref e], []⟩)) _ _ s
    refine wpAny_bind (wpAny_of_eq (PySem.F.newCall_str_1 _) (wpAny_pure ⟨plainId_quiet (by decide +kernel) _, codeAny_builtin PySem.F.entry_str_new ?_⟩))
    rw [Around.under_plainId (by decide +kernel) _]
    rw [str_new_tree]
    refine wpAny_bind (wpAny_pure ?_)
    refine wpAny_bind (wpAny_of_eq isSubtype_str_str ?_)
    have key : wpAny (model prog w) A.in1.in1 (PySem.Builtin.Str.strOf (.ref e)) (fun r s₁ => ∃ y u, r = .str y u ∧ Q r s₁) E s := by
      unfold PySem.Builtin.Str.strOf
      rw [show isExactStr (.ref e) = false from rfl]
      refine wpAny_bind (m := cRoomFor _ _) (wpAny_cRoomFor hu ?_)
      refine wpAny_bind (m := callSpecial? (.ref e) (Str.ofString "__str__")) (own_special X (own_type hx hc) hs PySem.F.excStr_Exception.str.bind (own_call X hx hc hm hd h0 ht ?_))
      exact wpAny_pure ⟨_, _, rfl, h⟩
    exact wpAny_bind (wpAny_mono key (fun r s₁ hr => wpAny_pure hr) fun _ _ y => y)
  · rintro obj s₁ ⟨y, u, rfl, hq⟩
    exact ⟨typeIs_str _ _ _, PySem.F.args_object_init_2 _ _, object_init_meets PySem.F.called_str.init.lookup PySem.F.called_str.made (by decide) prog w A.in1 _ s₁ ⟨typeIs_str _ _ _, rfl, hq⟩⟩
theorem own_got {h₀ : Heap} {L : Addr} {news : List (Addr × Obj)} {Q : Value → Shared → Prop} (hu : A.in1.in1.units < cLine) (X : K.In s.heap) (N : News h₀ L s.heap news) (G : Got news e t0 (.ref C) [.str msg tk])
    (hs : findIn K (.ref C) "__str__" = some (some (.builtin "BaseException.__str__"))) (hm : mroIn K C (.type "BaseException") = some true) (h : Q (.str msg tk) s) : wpAny (model prog w) A (call (.type "str") [.ref e]) Q E s := by
  obtain ⟨oe, ot, ws, nt, h1, h2, hc, hd, h0, htc, htd⟩ := G
  exact own_str hu X (N.get h1) hc hs hm hd h0 ⟨ot, nt, N.get h2, htc, htd⟩ h
end
end

/-! ## parse257's loop -/
def DirInv (resp : Str) (i : Int) (d : Str) : Prop := d.cps.toList ++ dec (resp.cps.toList.drop i.toNat) = dec (resp.cps.toList.drop 5)

theorem ne_false {x y : Str} (h : (x != y) = false) : (x == y) = true := by
  rw [show (x != y) = !(x == y) from rfl] at h
  cases q : (x == y) with
  | true => rfl
  | false => rw [q] at h; cases h
theorem ne_true {x y : Str} (h : (x != y) = true) : (x == y) = false := by
  rw [show (x != y) = !(x == y) from rfl] at h
  cases q : (x == y) with
  | false => rfl
  | true => rw [q] at h; cases h
theorem len5 {x : Str} (h : (Txt.slice x (some 3) (some 5) != Str.ofString " \"") = false) : 5 ≤ x.length := by
  have h' : (Txt.slice x (some ((3 : Nat) : Int)) (some ((5 : Nat) : Int)) == Str.ofString " \"") = true := ne_false h
  rw [str_eq_iff, slice_ab x 3 5 (by omega), litq] at h'
  have z := congrArg List.length (of_decide_eq_true h')
  rw [List.length_take, List.length_drop] at z
  have hx : x.cps.toList.length = x.length := by simp [Str.length]
  simp only [List.length_cons, List.length_nil] at z
  omega
theorem item_at {x : Str} {i : Int} (h0 : 0 ≤ i) (h1 : i < (x.length : Int)) : ∃ c, x.cps.toList.drop i.toNat = c :: x.cps.toList.drop (i.toNat + 1) ∧ Txt.item x i = ⟨#[c]⟩ := by
  have hx : x.cps.toList.length = x.length := by simp [Str.length]
  have hlt : i.toNat < x.cps.toList.length := by omega
  refine ⟨x.cps.toList[i.toNat], List.drop_eq_getElem_cons hlt, ?_⟩
  unfold Txt.item Txt.charAt
  rw [StrLaws.seqIndex_nonneg h0 h1]
  have hs : i.toNat < x.cps.size := by simpa using hlt
  have e : x.cps[i.toNat]? = some x.cps.toList[i.toNat] := by
    rw [Array.getElem?_eq_getElem hs]
    simp
  show (⟨#[(x.cps[i.toNat]?).getD 0]⟩ : Str) = _
  rw [e]
  rfl
theorem dir_two {x d : Str} {i : Int} (h : DirInv x i d) (h5 : 5 ≤ i) (hd : (d.length : Int) ≤ i) (h1 : i < (x.length : Int)) (hq : (Txt.item x i == Str.ofString "\"") = true) (h2 : ¬ (x.length : Int) ≤ i + 1) (hr : (Txt.item x (i + 1) != Str.ofString "\"") = false) :
    DirInv x (i + 1 + 1) (d ++ Txt.item x i) ∧ 5 ≤ i + 1 + 1 ∧ i + 1 + 1 ≤ (x.length : Int) ∧ ((d ++ Txt.item x i).length : Int) ≤ i + 1 + 1 := by
  obtain ⟨c, e1, f1⟩ := item_at (by omega) h1
  obtain ⟨c', e2, f2⟩ := item_at (x := x) (i := i + 1) (by omega) (by omega)
  have hr := ne_false hr
  rw [f1, is_quote] at hq
  rw [f2, is_quote] at hr
  have hc := of_decide_eq_true hq
  have hc' := of_decide_eq_true hr
  subst hc
  subst hc'
  have n1 : (i + 1).toNat = i.toNat + 1 := by omega
  have n2 : (i + 1 + 1).toNat = i.toNat + 1 + 1 := by omega
  rw [n1] at e2
  rw [f1]
  refine ⟨?_, by omega, by omega, ?_⟩
  · unfold DirInv at h ⊢
    rw [n2, ← h, e1, e2, dec_two, Str.cps_append, Array.toList_append]
    simp
  · rw [Str.length_append]
    have e : Str.length ⟨#[34]⟩ = 1 := rfl
    omega
theorem dir_one {x d : Str} {i : Int} (h : DirInv x i d) (h5 : 5 ≤ i) (hd : (d.length : Int) ≤ i) (h1 : i < (x.length : Int)) (hq : (Txt.item x i == Str.ofString "\"") = false) :
    DirInv x (i + 1) (d ++ Txt.item x i) ∧ 5 ≤ i + 1 ∧ i + 1 ≤ (x.length : Int) ∧ ((d ++ Txt.item x i).length : Int) ≤ i + 1 := by
  obtain ⟨c, e1, f1⟩ := item_at (by omega) h1
  rw [f1, is_quote] at hq
  have hc := of_decide_eq_false hq
  have n1 : (i + 1).toNat = i.toNat + 1 := by omega
  rw [f1]
  refine ⟨?_, by omega, by omega, ?_⟩
  · unfold DirInv at h ⊢
    rw [n1, ← h, e1, dec_other hc, Str.cps_append, Array.toList_append]
    simp
  · rw [Str.length_append]
    have e : Str.length ⟨#[c]⟩ = 1 := rfl
    omega
theorem told_end {x d : Str} (h1 : (Txt.slice x none (some 3) != Str.ofString "257") = false) (h2 : (Txt.slice x (some 3) (some 5) != Str.ofString " \"") = false) (h : d.cps.toList = dec (x.cps.toList.drop 5)) : toldF x = (Str.ofString "told", d) := by
  unfold toldF
  rw [h1, h2, if_neg (by simp), if_neg (by simp), ← h]
  rfl
theorem dir_end0 {x d : Str} {i : Int} (h : DirInv x i d) (hi : ¬ i < (x.length : Int)) : d.cps.toList = dec (x.cps.toList.drop 5) := by
  unfold DirInv at h
  have hx : x.cps.toList.length = x.length := by simp [Str.length]
  rw [← h, List.drop_eq_nil_of_le (by omega)]
  simp [dec]
theorem dir_end1 {x d : Str} {i : Int} (h : DirInv x i d) (h5 : 5 ≤ i) (h1 : i < (x.length : Int)) (hq : (Txt.item x i == Str.ofString "\"") = true) (h2 : (x.length : Int) ≤ i + 1) : d.cps.toList = dec (x.cps.toList.drop 5) := by
  obtain ⟨c, e1, f1⟩ := item_at (by omega) h1
  rw [f1, is_quote] at hq
  have hc := of_decide_eq_true hq
  subst hc
  unfold DirInv at h
  have hx : x.cps.toList.length = x.length := by simp [Str.length]
  rw [← h, e1, List.drop_eq_nil_of_le (by omega)]
  simp [dec]
theorem dir_end2 {x d : Str} {i : Int} (h : DirInv x i d) (h5 : 5 ≤ i) (h1 : i < (x.length : Int)) (hq : (Txt.item x i == Str.ofString "\"") = true) (h2 : ¬ (x.length : Int) ≤ i + 1) (hr : (Txt.item x (i + 1) != Str.ofString "\"") = true) : d.cps.toList = dec (x.cps.toList.drop 5) := by
  obtain ⟨c, e1, f1⟩ := item_at (by omega) h1
  obtain ⟨c', e2, f2⟩ := item_at (x := x) (i := i + 1) (by omega) (by omega)
  have hr := ne_true hr
  rw [f1, is_quote] at hq
  rw [f2, is_quote] at hr
  have hc := of_decide_eq_true hq
  have hc' := of_decide_eq_false hr
  subst hc
  have n1 : (i + 1).toNat = i.toNat + 1 := by omega
  rw [n1] at e2
  unfold DirInv at h
  rw [← h, e1, e2, dec_one _ (by intro c hc; simp at hc; omega)]
  simp
theorem dir_start {x : Str} (h : (Txt.slice x (some 3) (some 5) != Str.ofString " \"") = false) : DirInv x 5 (Str.ofString "") ∧ (5 : Int) ≤ 5 ∧ (5 : Int) ≤ (x.length : Int) ∧ ((Str.ofString "").length : Int) ≤ 5 := by
  refine ⟨?_, by omega, ?_, by decide⟩
  · rfl
  · have := len5 h; omega
local macro_rules | `(tactic| walk_at "call ref") => `(tactic| (k_here; (with_reducible show wpAny _ _ (call (Value.ref 46) [Value.str _ _]) _ _ _); (refine wpAny_call ?_); k_dflt (refine' code_def ?k1 ?k2 ?k3 ?k4 ?k5 ?kA ?kF ?kK ?k6 ?k7 ?k8 ?k9 ?kB ?_ ?c2 ?c3 ?c4 ?c5; (case kA => exact rfl); (case kF => exact rfl); (case kK => exact rfl); (case k1 => k_asm); (case k2 => k_asm); (case k3 => k_asm); (case k4 => k_asm); (case k5 => k_asm); (case k6 => k_is); (case k7 => k_is); (case k8 => ktr_room); (case k9 => exact BindsTo.of_eq rfl); (case c5 => decide); (case kB => exact locs rfl); (case c2 => exact rfl); (case c3 => exact rfl); (case c4 => exact rfl); k_whole; intro g' L' h' FG' F' N' B' X' T'; (try dsimp only); (try k_lift B'); (try k_fold))))
local macro_rules | `(tactic| walk_at "call type:str") => `(tactic| (k_here; (with_reducible show wpAny _ _ (call (Value.type "str") [Value.ref _]) _ _ _); k_dflt (refine' own_got ?u ?X ?N ?G ?s ?m ?_; (case G => assumption); (case N => assumption); (case X => k_in); (case s => k_is); (case m => k_is); (case u => ktr_units); k_whole)))

/-- as Con, of a call straight from the law's own frame -/
def Con0 (w : World) (n : Nat) (f : Addr) (vs : List Value) (Out : List (Addr × Obj) → Value → Prop) : Prop :=
  ∀ (mean : ExcName → Option Value) (mg mb : Str → Option Value) (dp un : Nat) (gd : Option (List Code)) (cn : Str) (cs : Scope) (a : Addr) (ccd : Value) (A₀ : Around) (base h₀ : Heap) (L : Addr) (m : Str → Option Value) (news : List (Addr × Obj)) (s : Shared) (Q E : Value → Shared → Prop),
    Below A₀ base [] h₀ → Fr h₀ L s.heap m → (hd.heap_39 w.params).In h₀ → News h₀ L s.heap news → Top hd.view_39 (looseW hd.view_39 []) mean mg mb h₀ → (hd.heap_39 w.params).In base → Top hd.view_39 (looseW hd.view_39 []) mean mg mb base → cs.kind = .function → dp + n < recursionLimit → un + 20 * n < cLine →
    (∀ r tl h' tk', Fr h₀ L h' m → News h₀ L h' (tl ++ news) → (∀ q ∈ news, ∀ p ∈ tl, q.1 < p.1) → Out tl r → Q r { s with heap := h', toks := tk' }) →
    wpAny (model PySem.Challenge.rw_dz0033_01.row.prog w) (ktrTop dp un gd cn cs L a ccd [] []) (call (.ref f) vs) Q E s

theorem told_con (w : World) (x : Str) (t : Tok) (hx : x.length ≤ 900) : Con0 w 10 67 [.str x t] (PairOut (toldF x)) := by
  unfold Con0
  k_fill
  k_with_none
  w_top off
  k_with "exec While Compare cons nil" => k_while_given ["resp"] (fun resp _ i d => DirInv resp i d ∧ 5 ≤ i ∧ i ≤ (resp.length : Int) ∧ (d.length : Int) ≤ i) (fun resp _ i _ => resp.length - i.toNat) "i" "dirname"
  k_with "state" => first | exact dir_start (by assumption) | exact dir_two (by assumption) (by assumption) (by assumption) (by assumption) (by assumption) (by assumption) (by assumption) | exact dir_one (by assumption) (by assumption) (by assumption) (by assumption) (by assumption)
  intro mean mg mb dp un gd cn cs a ccd A₀ base h₀ L m news s Q E B F X N T XB TB hk hdp hun hret
  refine wpAny_call ?_
  k_dflt (refine' code_defS0 ?k1 ?k2 ?k3 ?k4 ?k5 ?kA ?k6 ?k7 ?k8 ?k9 ?kB ?_ ?cK ?c2 ?c3 ?c4 ?c5; (case kA => exact rfl); (case k2 => k_asm); (case k1 => k_asm); (case k3 => k_asm); (case k4 => k_asm); (case k5 => k_asm); (case k6 => k_is); (case k7 => k_is); (case k8 => ktr_room); (case k9 => exact BindsTo.of_eq rfl); (case kB => exact locs rfl); (case cK => assumption); (case c2 => exact rfl); (case c3 => exact rfl); (case c4 => exact rfl); (case c5 => decide); k_whole; intro g' L' h' FG' F' N' B' X' T' D'; (try dsimp only); (try k_lift B'); (try k_fold))
  k_steps
  all_goals k_with_none
  · refine pair_end hret (by assumption) (by assumption) (by assumption) ?_
    unfold toldF
    rw [if_pos (by assumption)]; rfl
  · refine pair_end hret (by assumption) (by assumption) (by assumption) ?_
    unfold toldF
    rw [if_neg (Bool.eq_false_iff.mp (by assumption)), if_pos (by assumption)]; rfl
  · exact pair_end hret (by assumption) (by assumption) (by assumption) (told_end (by assumption) (by assumption) (dir_end1 (by assumption) (by assumption) (by assumption) (by assumption) (by assumption)))
  · exact pair_end hret (by assumption) (by assumption) (by assumption) (told_end (by assumption) (by assumption) (dir_end2 (by assumption) (by assumption) (by assumption) (by assumption) (by assumption) (by assumption)))
  · exact pair_end hret (by assumption) (by assumption) (by assumption) (told_end (by assumption) (by assumption) (dir_end0 (by assumption) (by assumption)))

/-! ## _law_text -/
def sgn (x : Int) : Str :=
  if x.fmod 6 = 0 then Str.ofString "\"\"" else if x.fmod 3 = 0 then Str.ofString "\"" else ⟨#[((if x < 0 then -x else x).fmod 1114112).toNat]⟩
def textF (ns : List Int) : Str := Txt.join (Str.ofString "") (ns.map sgn)
theorem sgn_len (x : Int) : (sgn x).length ≤ 2 := by
  unfold sgn
  split
  · decide
  · split
    · decide
    · exact Nat.le_succ 1
theorem sum_sgn (ns : List Int) : ((ns.map sgn).map (·.length)).sum ≤ 2 * ns.length := by
  induction ns with
  | nil => simp
  | cons n r ih =>
    have := sgn_len n
    simp only [List.map_cons, List.sum_cons, List.length_cons]
    omega
theorem empty_lit : Str.ofString "" = Str.empty := by decide +kernel
theorem join_flat : ∀ l : List Str, (Txt.join (Str.ofString "") l).cps.toList = l.flatMap (·.cps.toList) := by
  intro l
  unfold Txt.join
  rw [StrLaws.glued_eq_join, empty_lit]
  have key : ∀ (r : List Str) (x : Str), (Str.join Str.empty (x :: r)).cps.toList = (x :: r).flatMap (·.cps.toList) := by
    intro r
    induction r with
    | nil => intro x; show x.cps.toList = _; simp
    | cons y r ih =>
      intro x
      show (x ++ Str.empty ++ Str.join Str.empty (y :: r)).cps.toList = _
      rw [Str.append_empty, Str.cps_append, Array.toList_append, ih]
      simp only [List.flatMap_cons]
  cases l with
  | nil => rfl
  | cons x r => exact key r x
theorem textF_len (ns : List Int) : (textF ns).length ≤ 2 * ns.length := by
  have h := sum_sgn ns
  have e : (textF ns).length = (textF ns).cps.toList.length := by simp [Str.length]
  unfold textF at e ⊢
  rw [e, join_flat, List.length_flatMap]
  have q : (ns.map sgn).map (fun s => s.cps.toList.length) = (ns.map sgn).map (·.length) := List.map_congr_left fun s _ => by simp [Str.length]
  rw [q]
  exact h
theorem sg_a {ss : List Str} {pre : List Int} {k : Int} (h : ss = pre.map sgn) (h6 : k.fmod 6 = 0) : ss ++ [Str.ofString "\"\""] = (pre ++ [k]).map sgn ∧ (ss ++ [Str.ofString "\"\""]).length = (pre ++ [k]).length := by
  subst h
  refine ⟨?_, by simp⟩
  rw [List.map_append, List.map_singleton, sgn, if_pos h6]
theorem sg_b {ss : List Str} {pre : List Int} {k : Int} (h : ss = pre.map sgn) (h6 : k.fmod 6 ≠ 0) (h3 : k.fmod 3 = 0) : ss ++ [Str.ofString "\""] = (pre ++ [k]).map sgn ∧ (ss ++ [Str.ofString "\""]).length = (pre ++ [k]).length := by
  subst h
  refine ⟨?_, by simp⟩
  rw [List.map_append, List.map_singleton, sgn, if_neg h6, if_pos h3]
theorem sg_c {ss : List Str} {pre : List Int} {k : Int} (h : ss = pre.map sgn) (h6 : k.fmod 6 ≠ 0) (h3 : k.fmod 3 ≠ 0) : ss ++ [(⟨#[((if k < 0 then -k else k).fmod 1114112).toNat]⟩ : Str)] = (pre ++ [k]).map sgn ∧ (ss ++ [(⟨#[((if k < 0 then -k else k).fmod 1114112).toNat]⟩ : Str)]).length = (pre ++ [k]).length := by
  subst h
  refine ⟨?_, by simp⟩
  rw [List.map_append, List.map_singleton, sgn, if_neg h6, if_neg h3]
/-- every sign is a code point -/
abbrev Sig (x : Str) : Prop := ∀ c ∈ x.cps.toList, c < 1114112
theorem sig_sgn (x : Int) : Sig (sgn x) := by
  unfold sgn
  split
  · decide +kernel
  · split
    · decide +kernel
    · intro c hc
      have e : c = ((if x < 0 then -x else x).fmod 1114112).toNat := by simpa using hc
      rw [e, Int.fmod_eq_emod_of_nonneg _ (by decide)]
      omega
theorem sig_text (ns : List Int) : Sig (textF ns) := by
  intro c hc
  unfold textF at hc
  rw [join_flat] at hc
  obtain ⟨s, hs, hcs⟩ := List.mem_flatMap.mp hc
  obtain ⟨n, _, rfl⟩ := List.mem_map.mp hs
  exact sig_sgn n c hcs
section
variable {prog : Program} {w : World} {A : Around} {E : Value → Shared → Prop} {s : Shared} {t : Tok} {Q : Value → Shared → Prop}
theorem join_sgn {h₀ : Heap} {L l : Addr} {news : List (Addr × Obj)} {vs : List Value} {ss : List Str} {ns : List Int} {n : Nat} (N : News h₀ L s.heap news) (hm : (l, listOf vs.toArray n) ∈ news) (hi : StrsAre vs ss) (e : ss = ns.map sgn) (hn : ns.length ≤ 32)
    (h : ∀ t' k, Q (.str (textF ns) t') { s with toks := k }) : wpAny (model prog w) A (call (.builtin "str.join") [.str (Str.ofString "") t, .ref l]) Q E s := by
  subst e
  have := sum_sgn ns
  refine join_list (items := vs.toArray) (ys := ns.map sgn) (News.isList N hm) (by simpa using hi) ?_ h
  rw [List.length_map, show (Str.ofString "").length = 0 from by decide]
  omega
end
local macro_rules | `(tactic| walk_at "call builtin:str.join") => `(tactic| (k_here; (with_reducible show wpAny _ _ (call (Value.builtin "str.join") [Value.str _ _, Value.ref _]) _ _ _); (refine join_sgn (by assumption) (by k_mem) (by assumption) (by assumption) (by omega) ?_); intro _ _))
theorem text_con {w : World} {D : Addr} {ws : List Value} {ns : List Int} (hI : IntsAre ws ns) (hn : ns.length ≤ 32)
    {mean : ExcName → Option Value} {mg mb : Str → Option Value} {dp un : Nat} {gd : Option (List Code)} {cn : Str} {cs : Scope} {a : Addr} {ccd : Value} {cl : List (Str × Addr)} {outer : List Env} {A₀ : Around} {base h₀ : Heap} {L : Addr} {m : Str → Option Value} {s : Shared} {Q E : Value → Shared → Prop}
    (B : Below A₀ base outer h₀) (F : Fr h₀ L s.heap m) (X : (hd.heap_39 w.params).In h₀) (N : News h₀ L s.heap [(D, listOf ws.toArray 0)]) (T : Top hd.view_39 (looseW hd.view_39 []) mean mg mb h₀) (hk : cs.kind = .function) (hdp : dp + 5 < recursionLimit)
    (hret : ∀ (tx : Str) t' h' tk', tx.length ≤ 64 → Sig tx → Fr h₀ L h' m → News h₀ L h' [(D, listOf ws.toArray 0)] → Q (.str tx t') { s with heap := h', toks := tk' }) :
    wpAny (model PySem.Challenge.rw_dz0033_01.row.prog w) (ktrTop dp un gd cn cs L a ccd cl outer) (call (.ref 74) [.ref D]) Q E s := by
  have hfill : (PySem.Challenge.rw_dz0033_01.row.prog = PySem.Challenge.rw_dz0033_01.row.prog) ∧ hd.heap_39 = hd.heap_39 := by
    k_fill
    exact ⟨rfl, rfl⟩
  clear hfill
  k_with_none
  w_top off
  k_with "pyIter ref" => k_state (fun pre signs => signs = pre.map sgn ∧ signs.length = pre.length) "signs$"
  k_with "state" => first | exact sg_a (by assumption) (by assumption) | exact sg_b (by assumption) (by assumption) (by assumption) | exact sg_c (by assumption) (by assumption) (by assumption)
  refine wpAny_call ?_
  k_dflt cell_enter
  k_steps
  all_goals k_with_none
  refine hret _ _ _ _ (by have := textF_len ns; omega) (sig_text ns) (by assumption) ?_
  refine cb_drop (by assumption) ?_
  intro p hp
  simp only [List.mem_cons, List.not_mem_nil, or_false] at hp ⊢
  subst hp
  simp

/-! ## two pairs of texts compared -/
theorem sig_ok {x : Str} (h : Sig x) : PyData.strOk x = true := by
  unfold PyData.strOk
  rw [Array.all_eq_true']
  intro c hc
  exact decide_eq_true (h c (by simpa using hc))
theorem sig_append {x y : Str} (hx : Sig x) (hy : Sig y) : Sig (x ++ y) := by
  intro c hc
  rw [Str.cps_append, Array.toList_append] at hc
  exact (List.mem_append.mp hc).elim (hx c) (hy c)
theorem dec_sub : ∀ (l : List Nat) (c : Nat), c ∈ dec l → c ∈ l
  | [], _, h => by simp [dec] at h
  | [d], c, h => by
    by_cases hd : d = 34
    · simp [dec, hd] at h
    · simpa [dec, hd] using h
  | d :: e :: r, c, h => by
    by_cases hd : d = 34
    · subst hd
      by_cases he : e = 34
      · subst he
        rw [dec_two] at h
        rcases List.mem_cons.mp h with rfl | h
        · exact .head _
        · exact .tail _ (.tail _ (dec_sub r c h))
      · rw [dec_one _ (by intro z hz; simp at hz; omega)] at h
        cases h
    · rw [dec_other hd] at h
      rcases List.mem_cons.mp h with rfl | h
      · exact .head _
      · exact .tail _ (dec_sub (e :: r) c h)
theorem sig_told : Sig toldS := by decide +kernel
theorem sig_refused : Sig refusedS := by decide +kernel
theorem sig_due {x : Str} (h : Sig x) : Sig (dueF x).1 ∧ Sig (dueF x).2 := by
  unfold dueF
  split
  · split
    · refine ⟨sig_told, fun c hc => ?_⟩
      rw [nameF_dec] at hc
      have := dec_sub _ c hc
      rw [show Txt.slice x (some 5) none = Txt.slice x (some ((5 : Nat) : Int)) none from rfl, slice_a] at this
      exact h c (List.mem_of_mem_drop this)
    · exact ⟨sig_told, by decide +kernel⟩
  · exact ⟨sig_refused, h⟩
section
variable {prog : Program} {w : World} {A : Around} {E : Value → Shared → Prop} {s : Shared} {Q : Value → Shared → Prop} {h₀ : Heap} {L a b : Addr} {news : List (Addr × Obj)} {x y x' y' : Str} {t1 t2 t3 t4 : Tok}
theorem ne_pairs (N : News h₀ L s.heap news) (ha : (a, listOf #[.str x t1, .str y t2] 0) ∈ news) (hb : (b, listOf #[.str x' t3, .str y' t4] 0) ∈ news) (e1 : x = x') (e2 : y = y') (hx : Sig x) (hy : Sig y) (hu : A.units + 64 < cLine) (h : Q (.bool false) s) :
    wpAny (model prog w) A (compareOp .NotEq (.ref a) (.ref b)) Q E s := by
  subst e1
  subst e2
  have hs : SeqAt.shaped (PyData.list [PyData.str x, PyData.str y]) = true := by
    simp [SeqAt.shaped, PyData.canLay0, PyData.canLayAll0, PyData.depth, PyData.depthAll, sig_ok hx, sig_ok hy]
  refine ne_dataH (reads_list_at (News.get N ha) rfl rfl (ReadsAll.cons (Reads.str _ _) (ReadsAll.cons (Reads.str _ _) ReadsAll.nil))) (reads_list_at (News.get N hb) rfl rfl (ReadsAll.cons (Reads.str _ _) (ReadsAll.cons (Reads.str _ _) ReadsAll.nil))) hs hs hu ?_
  simp only [PyData.eqv, PyData.eqvAll, beq_self_eq_true, Bool.and_true, Bool.not_true]
  exact h
theorem ne_due {l z : Str} (N : News h₀ L s.heap news) (ha : (a, listOf #[.str (dueF (l ++ z)).1 t1, .str (dueF (l ++ z)).2 t2] 0) ∈ news) (hb : (b, listOf #[.str (dueF (l ++ z)).1 t3, .str (dueF (l ++ z)).2 t4] 0) ∈ news) (hl : Sig l) (hz : Sig z) (hu : A.units + 64 < cLine) (h : Q (.bool false) s) :
    wpAny (model prog w) A (compareOp .NotEq (.ref a) (.ref b)) Q E s :=
  ne_pairs N ha hb rfl rfl (sig_due (sig_append hl hz)).1 (sig_due (sig_append hl hz)).2 hu h
end
theorem glue_len {l x : Str} (hl : l.length ≤ 16) (hx : x.length ≤ 64) : (l ++ x).length ≤ 900 := by
  rw [Str.length_append]; omega

/-! ## the comprehension over a text's signs -/
def dblS (c : Nat) : Str := if ((⟨#[c]⟩ : Str) == Str.ofString "\"") = true then ⟨#[c]⟩ ++ ⟨#[c]⟩ else ⟨#[c]⟩
theorem paired_signs {f : Nat → Str} : ∀ (cs : List Nat) (vs ys : List Value), (∀ (j : Nat) (v : Value), vs[j]? = some v → ∃ c u, cs[j]? = some c ∧ v = .str ⟨#[c]⟩ u) → vs.length = cs.length →
    Paired (fun v r => ∀ c u, v = .str ⟨#[c]⟩ u → ∃ u', r = .str (f c) u') vs ys → StrsAre ys (cs.map f)
  | [], [], ys, _, _, h => by cases h; exact .nil
  | [], _ :: _, _, _, hl, _ => by cases hl
  | _ :: _, [], _, _, hl, _ => by cases hl
  | c :: cs, v :: vs, ys, hv, hl, h => by
    cases h with
    | cons hr ht =>
      obtain ⟨c', u, hc, e⟩ := hv 0 v rfl
      have hc' : c = c' := by simpa using hc
      subst hc'
      obtain ⟨u', rfl⟩ := hr _ _ e
      exact .cons _ _ (paired_signs cs vs _ (fun j w hw => hv (j + 1) w hw) (by simpa using hl) ht)
section
variable {prog : Program} {w : World} {A : Around} {E : Value → Shared → Prop} {s₁ : Shared} {h₀ : Heap} {L : Addr} {m : Str → Option Value} {news : List (Addr × Obj)}
theorem comp_signs {env : Env} {elt : Expr} {x : Str} {scope : Scope} {Q : Value → Shared → Prop} {y : Str} {t : Tok} (f : Nat → Str)
    (hh : A.handled = none) (F : Fr h₀ L s₁.heap m) (N : News h₀ L s₁.heap news) (hsz : y.length ≤ 16777216)
    (g2 : ∀ C c u s₂ m₂ E', s₂.heap.Ns (compEnv scope C env).locals m₂ → m₂ x = some (.str ⟨#[c]⟩ u) → wpAny (model prog w) A (eval elt (compEnv scope C env)) (fun r s₃ => (∃ u', r = .str (f c) u') ∧ Keeps s₂ s₃) E' s₂)
    (g3 : ∀ D (vs : List Value) h' tk, Fr h₀ L h' m → News h₀ L h' news → h'.IsList D vs.toArray → StrsAre vs (y.cps.toList.map f) → Q (.ref D) { s₁ with heap := h', toks := tk }) :
    wpAny (model prog w) A (pyIter (.str y t)) (CompPost prog w A env scope x [] elt Q) E s₁ := by
  unfold CompPost
  refine wpAny_pyIter_str fun o St W hst => ?_
  have up : ∀ (h' : Heap), (∀ b o', b ∉ [s₁.heap.objs.size] → (s₁.heap.push o).get? b = some o' → h'.get? b = some o') → ∀ b o', s₁.heap.get? b = some o' → h'.get? b = some o' :=
    fun h' hk b o' e => hk b o' (old_not_new e) (Heap.get?_push_of_some _ e)
  refine ⟨fun _ => true, fun v r => ∀ c u, v = .str ⟨#[c]⟩ u → ∃ u', r = .str (f c) u', s₁.heap.objs.size, [s₁.heap.objs.size], [s₁.heap.objs.size], y.cps.size, SignAt y, St, rfl, W A hh, hsz, hst, ?_, ⟨?_, ?_⟩, ?_⟩
  · intro b hb
    show b < (s₁.heap.push o).objs.size
    rw [Heap.size_push, List.mem_singleton.mp hb]
    exact Nat.lt_succ_self _
  · intro C i v s₃ m₃ E' hP hn hm _ htk
    exact wpAny_tests_nil ⟨rfl, _, _, rfl, fun _ _ e => e⟩
  · intro C i v s₃ m₃ E' hP hp hn hm _ htk
    obtain ⟨c, u, _, rfl⟩ := hP
    refine wpAny_mono (g2 C c u s₃ m₃ E' hn hm) (fun r s₄ h₄ => ⟨?_, h₄.2⟩) fun _ _ e => e
    intro c' u' e
    have hc : c = c' := by
      have := (Value.str.inj e).1
      simpa using this
    subst hc
    exact h₄.1
  · intro D h' tk ys vs hnew hlD hplD hlen hP hF hk
    refine g3 D ys.toList h' tk (F.keeps (up h' hk)) (N.grown (up h' hk)) (by rw [Array.toArray_toList]; exact hlD) ?_
    refine paired_signs y.cps.toList vs ys.toList (fun j v hv => ?_) (by rw [hlen]; simp) (by rw [List.filter_eq_self.mpr (fun _ _ => rfl)] at hF; exact hF)
    obtain ⟨c, u, hc, e⟩ := hP j v hv
    exact ⟨c, u, by simpa using hc, e⟩
theorem dblS_q {c : Nat} (h : ((⟨#[c]⟩ : Str) == Str.ofString "\"") = true) : (⟨#[c]⟩ ++ ⟨#[c]⟩ : Str) = dblS c := by
  unfold dblS
  rw [if_pos h]
theorem dblS_c {c : Nat} (h : ((⟨#[c]⟩ : Str) == Str.ofString "\"") = false) : (⟨#[c]⟩ : Str) = dblS c := by
  unfold dblS
  rw [if_neg (Bool.eq_false_iff.mp h)]
theorem leaf_q {c : Nat} {u : Tok} {s₂ : Shared} {tk : Nat} (h : ((⟨#[c]⟩ : Str) == Str.ofString "\"") = true) : (∃ u', Value.str (⟨#[c]⟩ ++ ⟨#[c]⟩ : Str) u = .str (dblS c) u') ∧ Keeps s₂ { s₂ with toks := tk } :=
  ⟨⟨u, by rw [dblS_q h]⟩, _, _, rfl, fun _ _ e => e⟩
theorem leaf_c {c : Nat} {u : Tok} {s₂ : Shared} {tk : Nat} (h : ((⟨#[c]⟩ : Str) == Str.ofString "\"") = false) : (∃ u', Value.str (⟨#[c]⟩ : Str) u = .str (dblS c) u') ∧ Keeps s₂ { s₂ with toks := tk } :=
  ⟨⟨u, by rw [← dblS_c h]⟩, _, _, rfl, fun _ _ e => e⟩
/-- the text with its quotes doubled -/
def dblT (x : Str) : Str := Txt.join (Str.ofString "") (x.cps.toList.map dblS)
theorem dblS_list (c : Nat) : (dblS c).cps.toList = if c = 34 then [34, 34] else [c] := by
  unfold dblS
  rw [is_quote]
  by_cases h : c = 34
  · subst h; rfl
  · rw [decide_eq_false h, if_neg (by simp), if_neg h]
theorem dblT_list (x : Str) : (dblT x).cps.toList = dbl x.cps.toList := by
  unfold dblT
  rw [join_flat]
  generalize x.cps.toList = cs
  induction cs with
  | nil => rfl
  | cons c r ih => rw [List.map_cons, List.flatMap_cons, ih, dbl_cons, dblS_list]
theorem dbl_len (l : List Nat) : (dbl l).length ≤ 2 * l.length := by
  induction l with
  | nil => simp [dbl]
  | cons c r ih =>
    rw [dbl_cons, List.length_append, List.length_cons]
    split <;> simp only [List.length_cons, List.length_nil] <;> omega
theorem dblT_len (x : Str) : (dblT x).length ≤ 2 * x.length := by
  have e : (dblT x).length = (dblT x).cps.toList.length := by simp [Str.length]
  have e2 : x.length = x.cps.toList.length := by simp [Str.length]
  rw [e, e2, dblT_list]
  exact dbl_len _
theorem join_dbl {l : Addr} {vs : List Value} {x : Str} {t : Tok} {Q : Value → Shared → Prop} (hl : s₁.heap.IsList l vs.toArray) (hi : StrsAre vs (x.cps.toList.map dblS)) (hn : x.length ≤ 64)
    (h : ∀ t' k, (dblT x).length ≤ 128 → Q (.str (dblT x) t') { s₁ with toks := k }) : wpAny (model prog w) A (call (.builtin "str.join") [.str (Str.ofString "") t, .ref l]) Q E s₁ := by
  have hsum : ((x.cps.toList.map dblS).map (·.length)).sum ≤ 2 * x.cps.toList.length := by
    generalize x.cps.toList = cs
    induction cs with
    | nil => simp
    | cons c r ih =>
      have : (dblS c).length ≤ 2 := by
        have e : (dblS c).length = (dblS c).cps.toList.length := by simp [Str.length]
        rw [e, dblS_list]
        split <;> simp
      simp only [List.map_cons, List.sum_cons, List.length_cons]
      omega
  have e2 : x.length = x.cps.toList.length := by simp [Str.length]
  refine join_list (items := vs.toArray) hl (by simpa using hi) ?_ fun t' k => h t' k (by have := dblT_len x; omega)
  rw [List.length_map, show (Str.ofString "").length = 0 from by decide]
  omega
end
/-! ## the name comes back -/
def NoQ (b : Str) : Prop := ∀ c, b.cps.toList[0]? = some c → c ≠ 34
theorem noq_nil : NoQ (Str.ofString "") := by
  intro c h
  rw [empty_lit] at h
  cases h
theorem blank_lit : Str.ofString " " = ⟨#[32]⟩ := by decide +kernel
theorem noq_blank : NoQ (Str.ofString " ") := by
  intro c h
  rw [blank_lit] at h
  have : 32 = c := by simpa using h
  omega
theorem noq_more (x : Str) : NoQ (Str.ofString " " ++ x) := by
  intro c h
  rw [blank_lit, Str.cps_append, Array.toList_append] at h
  have : 32 = c := by simpa using h
  omega
theorem due_written {x b : Str} (h : NoQ b) : dueF (Str.ofString "257 \"" ++ dblT x ++ Str.ofString "\"" ++ b) = (toldS, x) := by
  rw [← told_due]
  have e : (Str.ofString "257 \"" ++ dblT x ++ Str.ofString "\"" ++ b).cps.toList = [50, 53, 55, 32, 34] ++ (dbl x.cps.toList ++ 34 :: b.cps.toList) := by
    rw [Str.cps_append, Str.cps_append, Str.cps_append, Array.toList_append, Array.toList_append, Array.toList_append, lit257q, dblT_list, quote_eq]
    simp
  rw [told_written _ x.cps.toList b.cps.toList e h]
theorem written_len {x b : Str} (hx : (dblT x).length ≤ 128) (hb : b.length ≤ 100) : (Str.ofString "257 \"" ++ dblT x ++ Str.ofString "\"" ++ b).length ≤ 900 := by
  rw [Str.length_append, Str.length_append, Str.length_append, show (Str.ofString "257 \"").length = 5 from by decide +kernel, show (Str.ofString "\"").length = 1 from by decide +kernel]
  omega
theorem more_len {x : Str} (hx : x.length ≤ 64) : (Str.ofString " " ++ x).length ≤ 100 := by
  rw [Str.length_append, show (Str.ofString " ").length = 1 from by decide +kernel]
  omega
section
variable {prog : Program} {w : World} {A : Around} {E : Value → Shared → Prop} {s : Shared} {Q : Value → Shared → Prop} {h₀ : Heap} {L a b : Addr} {news : List (Addr × Obj)} {x y : Str} {t1 t2 t3 t4 : Tok}
theorem ne_told (N : News h₀ L s.heap news) (ha : (a, listOf #[.str (dueF (Str.ofString "257 \"" ++ dblT x ++ Str.ofString "\"" ++ y)).1 t1, .str (dueF (Str.ofString "257 \"" ++ dblT x ++ Str.ofString "\"" ++ y)).2 t2] 0) ∈ news) (hb : (b, listOf #[.str (Str.ofString "told") t3, .str x t4] 0) ∈ news)
    (hy : NoQ y) (hx : Sig x) (hu : A.units + 64 < cLine) (h : Q (.bool false) s) : wpAny (model prog w) A (compareOp .NotEq (.ref a) (.ref b)) Q E s := by
  rw [due_written hy] at ha
  exact ne_pairs N ha hb rfl rfl sig_told hx hu h
end

/-! ## the law -/
section
variable {w : World} {n : Nat} {f : Addr} {vs : List Value} {mean : ExcName → Option Value} {mg mb : Str → Option Value} {dp un : Nat} {gd : Option (List Code)} {cn : Str} {cs : Scope} {a : Addr} {ccd : Value} {A₀ : Around} {base h₀ : Heap} {L : Addr} {m : Str → Option Value} {news : List (Addr × Obj)} {s : Shared} {Q E : Value → Shared → Prop}
theorem con0_pair {p : Str × Str} (C : Con0 w n f vs (PairOut p)) (B : Below A₀ base [] h₀) (F : Fr h₀ L s.heap m) (X : (hd.heap_39 w.params).In h₀) (N : News h₀ L s.heap news) (T : Top hd.view_39 (looseW hd.view_39 []) mean mg mb h₀) (XB : (hd.heap_39 w.params).In base) (TB : Top hd.view_39 (looseW hd.view_39 []) mean mg mb base) (hk : cs.kind = .function) (hdp : dp + n < recursionLimit) (hun : un + 20 * n < cLine)
    (ret : ∀ D t1 t2 h' tk', Fr h₀ L h' m → News h₀ L h' ((D, listOf #[.str p.1 t1, .str p.2 t2] 0) :: news) → (∀ p ∈ news, p.1 < D) → Q (.ref D) { s with heap := h', toks := tk' }) :
    wpAny (model PySem.Challenge.rw_dz0033_01.row.prog w) (ktrTop dp un gd cn cs L a ccd [] []) (call (.ref f) vs) Q E s := by
  refine C _ _ _ _ _ _ _ _ _ _ _ _ _ _ _ _ _ _ _ B F X N T XB TB hk hdp hun ?_
  rintro r tl h' tk' F' N' hl ⟨D, t1, t2, rfl, rfl⟩
  exact ret D t1 t2 h' tk' F' N' fun q hq => hl q hq _ (.head _)
end
theorem drop2 {h₀ h : Heap} {L : Addr} {p q : Addr × Obj} {news : List (Addr × Obj)} (N : News h₀ L h (p :: q :: news)) : News h₀ L h news := fun r hr => N r (.tail _ (.tail _ hr))
theorem told_con' (w : World) (x : Str) (t : Tok) (hx : x.length ≤ 900) : Con0 w 10 67 [.str x t] (PairOut (dueF x)) := by
  rw [← told_due]
  exact told_con w x t hx

end Mine
open Mine
local macro_rules | `(tactic| walk_at "call ref") => `(tactic| (k_here; (with_reducible show wpAny _ _ (call (Value.ref 74) [Value.ref _]) _ _ _); k_dflt ((refine' text_con ?hI ?hn ?k1 ?k2 ?k3 ?k4 ?k5 ?k6 ?k7 ?_); (case k1 => k_asm); (case k2 => k_asm); (case k3 => k_asm); (case k4 => k_asm); (case k5 => k_asm); (case k6 => exact rfl); (case k7 => decide); (case hI => assumption); (case hn => omega)); intro tx9 t9 h9 tk9 hT9 hS9 F9 N9; (try dsimp only); (try k_fold)))
local macro_rules | `(tactic| walk_at "call ref") => `(tactic| (k_here; (with_reducible show wpAny _ _ (call (Value.ref 67) [Value.str _ _]) _ _ _); k_dflt ((refine' con0_pair (told_con' _ _ _ ?hx) ?k1 ?k2 ?k3 ?k4 ?k5 ?j3 ?j5 ?k6 ?k7 ?k8 ?_); (case k1 => k_asm); (case k2 => k_asm); (case k3 => k_asm); (case k4 => k_asm); (case k5 => k_asm); (case j3 => k_asm); (case j5 => k_asm); (case k6 => exact rfl); (case k7 => decide); (case k8 => decide); (case hx => first | exact glue_len (by decide +kernel) (by assumption) | exact written_len (by assumption) (by first | decide +kernel | exact more_len (by assumption)) | fail "the length")); intro D9 t9 u9 h9 tk9 F9 N9 l9; (try k_lt l9); (try dsimp only); (try k_fold)))
local macro_rules | `(tactic| walk_at "call ref") => `(tactic| (k_here; (with_reducible show wpAny _ _ (call (Value.ref 60) [Value.str _ _]) _ _ _); k_dflt ((refine' con_pair (due_con _ _ _ ?hx) ?k1 ?k2 ?k3 ?k4 ?k5 ?k6 ?k7 ?k8 ?_); (case k1 => k_asm); (case k2 => k_asm); (case k3 => k_asm); (case k4 => k_asm); (case k5 => k_asm); (case k6 => exact rfl); (case k7 => decide); (case k8 => decide); (case hx => first | exact glue_len (by decide +kernel) (by assumption) | exact written_len (by assumption) (by first | decide +kernel | exact more_len (by assumption)) | fail "the length")); intro D9 t9 u9 h9 tk9 F9 N9 l9; (try k_lt l9); (try dsimp only); (try k_fold)))
local macro_rules | `(tactic| walk_at "pyIter str") => `(tactic| (k_here; (with_reducible show wpAny _ _ (pyIter (Value.str _ _)) (CompPost _ _ _ _ _ _ _ _ _) _ _); (rename Fr _ _ _ _ => F'); (rename News _ _ _ _ => N'); k_dflt ((refine' comp_signs dblS ?hh ?F ?N ?hz ?g2 ?g3); (case hh => exact rfl); (case F => exact F'); (case N => exact N'); (case hz => omega)); (case' g2 => intro C9 c9 u9 s9 m9 E9 hn9 hm9); (case' g3 => intro D9 vs9 h9 tk9 F9 N9 hl9 hi9)))
local macro_rules | `(tactic| walk_at "And") => `(tactic| ((with_reducible show (∃ _, _) ∧ Keeps _ _); k_dflt (first | exact leaf_q (by assumption) | exact leaf_c (by assumption))))
local macro_rules | `(tactic| walk_at "call builtin:str.join") => `(tactic| (k_here; (with_reducible show wpAny _ _ (call (Value.builtin "str.join") [Value.str _ _, Value.ref _]) _ _ _); (refine join_dbl (by assumption) (by assumption) (by assumption) ?_); intro _ _ hW9))
local macro_rules | `(tactic| walk_at "compareOp NotEq ref ref") => `(tactic| (k_here; (with_reducible show wpAny _ _ (compareOp CmpOp.NotEq (Value.ref _) (Value.ref _)) _ _ _); k_dflt ((refine' ne_told ?kN ?ka ?kb ?kq ?kz ?ku ?_); (case kN => k_asm); (case ka => with_reducible exact List.mem_cons_of_mem _ (List.mem_cons_self ..)); (case kb => with_reducible exact List.mem_cons_self ..); (case kq => first | exact noq_nil | exact noq_blank | exact noq_more _); (case kz => assumption); (case ku => ke_room)); (with_reducible rename News _ _ _ _ => nX); (have nY := drop2 nX); clear nX))
local macro_rules | `(tactic| walk_at "compareOp NotEq ref ref") => `(tactic| (k_here; (with_reducible show wpAny _ _ (compareOp CmpOp.NotEq (Value.ref _) (Value.ref _)) _ _ _); k_dflt ((refine' ne_due ?kN ?ka ?kb ?kl ?kz ?ku ?_); (case kN => k_asm); (case ka => with_reducible exact List.mem_cons_of_mem _ (List.mem_cons_self ..)); (case kb => with_reducible exact List.mem_cons_self ..); (case kl => decide +kernel); (case kz => assumption); (case ku => ke_room)); (with_reducible rename News _ _ _ _ => nX); (have nY := drop2 nX); clear nX))
theorem PySem.Challenge.cw_dz0033_01_holds : PySem.Challenge.rw_dz0033_01.Holds := by
  refine hd ?_
  k_with_none
  w_top off
  w_strict (k_go0; (all_goals try k_fold); k_steps)
