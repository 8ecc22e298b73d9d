import PyProof.Rows.All
import Wide.All
import OpenK.AllK
import Wide.FinOn
import PySem.Challenge.RW_eh5029_01
open PySem PySem.W PyProof.Rows PySem.Calls
set_option Elab.async false

namespace Mine
theorem noRoad_cut (lk : Look) : ∀ (n : Nat) (l : List Stmt), noRoadLSs lk (l.take n) = true → noRoadLSs lk (l.drop n) = true → noRoadLSs lk l = true
  | 0, l, _, h => by simpa using h
  | n + 1, [], _, _ => by simp [noRoadLSs]
  | n + 1, s :: r, h, h' => by
    simp only [List.take_succ_cons, List.drop_succ_cons, noRoadLSs, Bool.and_eq_true] at h h' ⊢
    exact ⟨h.1, noRoad_cut lk n r h.2 h'⟩

theorem noRoad_cut_false (lk : Look) : ∀ (n : Nat) (l : List Stmt), noRoadLSs lk (l.drop n) = false → noRoadLSs lk l = false
  | 0, l, h => by simpa using h
  | n + 1, [], h => by simpa [noRoadLSs] using h
  | n + 1, s :: r, h => by
    simp only [List.drop_succ_cons, noRoadLSs, Bool.and_eq_false_iff] at h ⊢
    exact .inr (noRoad_cut_false lk n r h)

/-- a text that has no sign of a road: read off its list -/
theorem str_plain (lk : Look) (x : Str) (h1 : (x.cps.toList.any fun c => c == 123 || c == 125 || c == 46) = false) (h2 : lk.word x = true) : lk.str x = true := by
  have hr : roadStr x = false := by
    unfold roadStr
    simp only [← Array.any_toList]
    rw [List.any_eq_false] at h1
    simp only [Bool.or_eq_false_iff, Bool.and_eq_false_iff, List.any_eq_false]
    refine ⟨fun c hc => ?_, .inl fun c hc => ?_⟩
    · have := h1 c hc
      simp only [Bool.or_eq_true, not_or] at this ⊢
      exact this.1
    · have := h1 c hc
      simp only [Bool.or_eq_true, not_or] at this
      exact this.2
  unfold Look.str
  rw [hr, h2]
  simp

theorem noRoad_one (lk : Look) {ts : List PySem.Expr} {x : Str} {k : Nat} {p q : Pos} (h : (lk.stores ts && noRoadLs lk ts) = true)
    (h1 : (x.cps.toList.any fun c => c == 123 || c == 125 || c == 46) = false) (h2 : lk.word x = true) :
    noRoadLSs lk [Stmt.Assign ts (PySem.Expr.Constant (.str x) k p) q] = true := by
  simp only [noRoadLSs, noRoadLS, noRoadL, h, str_plain lk x h1 h2, Bool.and_self, Bool.and_true]

/-- the look at one row that binds a name to a text, its signs read off the list -/
def oneLook (lk : Look) : List Stmt → Bool
  | [Stmt.Assign ts (PySem.Expr.Constant (.str x) _ _) _] => (lk.stores ts && noRoadLs lk ts) && !(x.cps.toList.any fun c => c == 123 || c == 125 || c == 46) && lk.word x
  | _ => false
theorem noRoad_look (lk : Look) (l : List Stmt) (h : oneLook lk l = true) : noRoadLSs lk l = true := by
  unfold oneLook at h
  split at h
  · simp only [Bool.and_eq_true, Bool.not_eq_true'] at h
    exact noRoad_one lk (by rw [Bool.and_eq_true]; exact h.1.1) h.1.2 h.2
  · cases h

theorem not_true {b : Bool} (h : (!b) = true) : b = false := by simpa using h
end Mine

namespace Mine
section
abbrev R := PySem.Challenge.rw_eh5029_01
abbrev lk1 : Look := { strict := false, foot := none, bare := [] }
abbrev lk2 : Look := { strict := true, foot := some R.bound', writes := R.writes, may := R.may }

set_option maxRecDepth 100000 in
set_option maxHeartbeats 4000000 in
theorem lk1_eq : ({ strict := !(importedModules R.row.prog.main.body).all cThrough.contains, foot := none, bare := (["vars", "dir", "locals"] : List Str).filter (readsOut R.row.prog R.row.prog.main.body) } : Look) = lk1 := by
  have a : (importedModules R.row.prog.main.body).all cThrough.contains = true := by k_qdec
  have b : ((["vars", "dir", "locals"] : List Str).all fun n => !(readsOut R.row.prog R.row.prog.main.body n)) = true := by k_qdec
  have c : (["vars", "dir", "locals"] : List Str).filter (readsOut R.row.prog R.row.prog.main.body) = [] := by
    rw [List.filter_eq_nil_iff]
    intro x hx
    have := List.all_eq_true.mp b x hx
    simpa using this
  rw [a, c]
  rfl

set_option maxRecDepth 100000 in
set_option maxHeartbeats 4000000 in
theorem road1 : noRoadLSs lk1 R.row.prog.main.body = true := by
  refine noRoad_cut lk1 5 _ (by k_qdec) ?_
  refine noRoad_cut lk1 1 _ ?_ (by k_qdec)
  exact noRoad_look lk1 _ (by k_qdec)

set_option maxRecDepth 100000 in
set_option maxHeartbeats 4000000 in
theorem road2 : noRoadLSs lk2 R.footing = true := by
  refine noRoad_cut lk2 1 _ ?_ (by k_qdec)
  exact noRoad_look lk2 _ (by k_qdec)

set_option maxRecDepth 100000 in
set_option maxHeartbeats 4000000 in
theorem namesIt_of (l : OpenLaw) {c m : Str} (ha : l.about = [c, m]) (hd : dunder m = false) (h : noRoadLSs { strict := false, foot := none, but := some m } l.footing = false) : l.namesIt = true := by
  unfold OpenLaw.namesIt
  rw [ha]
  simp only [List.any_cons, h, hd, List.any_nil]
  rfl
theorem namesIt : R.namesIt = true :=
  namesIt_of R rfl (not_true (by k_qdec)) (noRoad_cut_false _ 7 _ (not_true (by k_qdec)))

set_option maxRecDepth 100000 in
set_option maxHeartbeats 4000000 in
theorem part : R.row.partSaid = true := by
  unfold OpenRow.partSaid
  (repeat' with_reducible refine look_both ?_ ?_)
  · unfold looksOpen
    rw [lk1_eq]
    (repeat' with_reducible refine look_both ?_ ?_)
    all_goals first | with_reducible exact road1 | k_qdec
  all_goals k_qdec

set_option maxRecDepth 100000 in
set_option maxHeartbeats 4000000 in
theorem said : R.wellSaid = true := by
  unfold OpenLaw.wellSaid
  (repeat' with_reducible refine look_both ?_ ?_)
  · unfold OpenRow.wellSaid
    refine look_both (look_both part ?_) ?_ <;> k_qdec
  all_goals first | with_reducible exact road2 | with_reducible exact namesIt | k_qdec

end
end Mine

namespace Mine
/-- a list cut at each c, in one pass -/
def splitL (c : Nat) : List Nat → List (List Nat)
  | [] => [[]]
  | a :: r => bif Nat.beq a c then [] :: splitL c r else match splitL c r with
    | [] => [[a]]
    | w :: ws => (a :: w) :: ws

theorem splitL_free {c : Nat} : ∀ {p : List Nat}, c ∉ p → splitL c p = [p]
  | [], _ => rfl
  | a :: r, h => by
    have h1 : Nat.beq a c = false := by
      cases e : Nat.beq a c with
      | false => rfl
      | true => exact absurd (List.mem_cons.mpr (.inl (Nat.eq_of_beq_eq_true e).symm)) h
    have h2 := splitL_free (c := c) (p := r) fun q => h (List.mem_cons_of_mem _ q)
    simp only [splitL, h1, h2, cond_false]
theorem splitL_cat {c : Nat} {q : List Nat} : ∀ {p : List Nat}, c ∉ p → splitL c (p ++ c :: q) = p :: splitL c q
  | [], _ => by simp only [List.nil_append, splitL, Nat.beq_refl, cond_true]
  | a :: r, h => by
    have h1 : Nat.beq a c = false := by
      cases e : Nat.beq a c with
      | false => rfl
      | true => exact absurd (List.mem_cons.mpr (.inl (Nat.eq_of_beq_eq_true e).symm)) h
    have h2 := splitL_cat (c := c) (q := q) (p := r) fun q => h (List.mem_cons_of_mem _ q)
    simp only [List.cons_append, splitL, h1, h2, cond_false]

theorem splitL_join {c : Nat} : ∀ {ps : List Str}, ps ≠ [] → (∀ p ∈ ps, c ∉ p.cps.toList) → splitL c (Str.join ⟨#[c]⟩ ps).cps.toList = ps.map (·.cps.toList)
  | [], h, _ => absurd rfl h
  | [p], _, h => by
    show splitL c p.cps.toList = _
    rw [splitL_free (h p (.head _))]; rfl
  | p :: q :: r, _, h => by
    show splitL c (p ++ ⟨#[c]⟩ ++ Str.join ⟨#[c]⟩ (q :: r)).cps.toList = _
    have e : (p ++ ⟨#[c]⟩ ++ Str.join ⟨#[c]⟩ (q :: r)).cps.toList = p.cps.toList ++ c :: (Str.join ⟨#[c]⟩ (q :: r)).cps.toList := by
      show ((p.cps ++ #[c]) ++ (Str.join ⟨#[c]⟩ (q :: r)).cps).toList = _
      simp
    rw [e, splitL_cat (h p (.head _)), splitL_join (by simp) fun x hx => h x (.tail _ hx)]
    rfl

theorem split_ne (x y : Str) : Txt.split x y ≠ [] := by
  unfold Txt.split
  split
  · simp
  · split
    · simp
    · rw [StrLaws.partsBetween_eq]
      obtain ⟨p, r, e⟩ := StrLaws.partsFrom_ne x y.length 0 (Builtin.Str.occurrences x y 0 x.length (x.length + 1))
      rw [e]; simp

theorem split_is (x : Str) (c : Nat) : (Txt.split x ⟨#[c]⟩).map (·.cps.toList) = splitL c x.cps.toList := by
  have h := splitL_join (c := c) (split_ne x ⟨#[c]⟩) (StrLaws.split_free x c)
  rw [StrLaws.join_split] at h
  exact h.symm

theorem split_eq (x : Str) (c : Nat) : Txt.split x ⟨#[c]⟩ = (splitL c x.cps.toList).map fun l => ⟨l.toArray⟩ := by
  rw [← split_is, List.map_map]
  conv => lhs; rw [← List.map_id (Txt.split x ⟨#[c]⟩)]
  apply List.map_congr_left
  intro a _
  rfl

def textAt (l : List Stmt) (i : Nat) : Str := match l[i]? with
  | some (Stmt.Assign _ (PySem.Expr.Constant (.str x) _ _) _) => x
  | _ => Str.ofString ""
/-- the law's own text of the words, read off the row -/
def big : Str := textAt PySem.Challenge.pw_eh5029_01.main.body 5
def Ws : List Str := (splitL 32 big.cps.toList).map fun l => ⟨l.toArray⟩
theorem blank_is : Str.ofString " " = (⟨#[32]⟩ : Str) := by decide
theorem split_big : Txt.split big (Str.ofString " ") = Ws := by rw [blank_is, split_eq]; rfl
set_option maxRecDepth 100000 in
theorem big_len : (big.cps.toList.length == 910 || big.cps.toList.length == 909 || big.cps.toList.length == 908) = true := by k_qdec
set_option maxRecDepth 100000 in
theorem Ws_len : (Ws.length == 32) = true := by k_qdec
set_option maxRecDepth 100000 in
theorem Ws_short : (Ws.all fun x => Nat.ble x.cps.toList.length 1000) = true := by k_qdec
theorem le_of_or {a : Nat} (h : (a == 910 || a == 909 || a == 908) = true) : a ≤ 910 := by
  simp only [Bool.or_eq_true, beq_iff_eq] at h
  omega
theorem fits_gen {x : Str} (h : x.cps.toList.length ≤ 910) : x.length + 2 ≤ sizeLine := by
  rw [sizeLine_eq]
  show x.cps.size + 2 ≤ _
  rw [← Array.length_toList]
  omega
theorem fits_of {x : Str} (h : x = big) : x.length + 2 ≤ sizeLine := fits_gen (h ▸ le_of_or big_len)


def cmpOf : PySem.Expr → Option (Str × CmpOp × Int)
  | .Compare (.Name x _) [op] [.Constant (.int i) _ _] _ => some (x, op, i)
  | _ => none
theorem cmpOf_is {e : PySem.Expr} {x : Str} {op : CmpOp} {i : Int} (h : cmpOf e = some (x, op, i)) : ∃ p1 k p2 p3, e = .Compare (.Name x p1) [op] [.Constant (.int i) k p2] p3 := by
  unfold cmpOf at h
  split at h
  · cases h; exact ⟨_, _, _, _, rfl⟩
  · cases h
def testOf : PySem.Expr → Option (Str × Int × Int)
  | .BoolOp .And [a, b] _ => match cmpOf a, cmpOf b with
    | some (x, .GtE, lo), some (y, .LtE, hi) => if x = y then some (x, lo, hi) else none
    | _, _ => none
  | e => match cmpOf e with
    | some (x, .Eq, i) => some (x, i, i)
    | _ => none
/-- a row «if lo <= x <= hi: return y», or «if x == lo: return y» -/
def rowOf : Stmt → Option (Str × Int × Int × Str)
  | .If t [.Return (some (.Constant (.str y) _ _)) _] [] _ => (testOf t).map fun r => (r.1, r.2.1, r.2.2, y)
  | _ => none
def find (n : Int) : List (Int × Int × Str) → Option Str
  | [] => none
  | (lo, hi, y) :: r => if lo ≤ n ∧ n ≤ hi then some y else find n r

section
variable {prog : Program} {w : World} {A : Around} {E : Value → Shared → Prop} {s : Shared} {env : Env} {x : Str} {n : Int} {tk : Tok}

theorem cmp_step {op : CmpOp} {i : Int} {p1 p2 p3 : Pos} {k : Nat} {b : Bool} {whole : Sem Value} {Q : Bool → Shared → Prop} {j : Nat}
    (hload : ∀ (j : Nat) (pos : Pos) (Q : Value → Shared → Prop), Q (.int n tk) { s with toks := j } → wpAny (model prog w) A (eval (.Name x pos) env) Q E { s with toks := j })
    (hm : behindInMarks op (.Constant (.int i) k p2) = false)
    (hc : ∀ (j : Nat) (u : Tok) (Q : Value → Shared → Prop), Q (.bool b) { s with toks := j } → wpAny (model prog w) A (compareOp op (.int n tk) (.int i u)) Q E { s with toks := j })
    (h : ∀ j, Q b { s with toks := j }) : wpAny (model prog w) A (isTrue (.Compare (.Name x p1) [op] [.Constant (.int i) k p2] p3) env whole) Q E { s with toks := j } :=
  wpAny_isTrue_Compare1 (hload j p1 _ (wpAny_Constant_int (hc _ _ _ (wpAny_truthy_bool (h _))))) hm

theorem test_step {t : PySem.Expr} {lo hi : Int} {whole : Sem Value} {Q : Bool → Shared → Prop} {j : Nat} (ht : testOf t = some (x, lo, hi))
    (hload : ∀ (j : Nat) (pos : Pos) (Q : Value → Shared → Prop), Q (.int n tk) { s with toks := j } → wpAny (model prog w) A (eval (.Name x pos) env) Q E { s with toks := j })
    (h : ∀ j, Q (decide (lo ≤ n ∧ n ≤ hi)) { s with toks := j }) : wpAny (model prog w) A (isTrue t env whole) Q E { s with toks := j } := by
  unfold testOf at ht
  split at ht
  · rename_i a b pos
    split at ht
    · rename_i x' lo' y' hi' ha hb
      split at ht
      · rename_i hxy
        subst hxy
        cases ht
        obtain ⟨p1, k, p2, p3, rfl⟩ := cmpOf_is ha
        obtain ⟨q1, k', q2, q3, rfl⟩ := cmpOf_is hb
        refine isTrue_and (cmp_step (b := decide (lo ≤ n)) hload (by with_unfolding_all rfl) (fun j u Q hq => ge_int hq) fun j => ?_)
        by_cases h1 : lo ≤ n
        · rw [if_pos (by simpa using h1)]
          refine isTrue_and (cmp_step (b := decide (n ≤ hi)) hload (by with_unfolding_all rfl) (fun j u Q hq => le_int hq) fun j => ?_)
          by_cases h2 : n ≤ hi
          · rw [if_pos (by simpa using h2)]
            refine isTrue_and_nil ?_
            have := h j
            rwa [decide_eq_true ⟨h1, h2⟩] at this
          · rw [if_neg (by simpa using h2)]
            have := h j
            rwa [decide_eq_false (fun q => h2 q.2)] at this
        · rw [if_neg (by simpa using h1)]
          have := h j
          rwa [decide_eq_false (fun q => h1 q.1)] at this
      · cases ht
    · cases ht
  · split at ht
    · rename_i i' ha
      cases ht
      obtain ⟨p1, k, p2, p3, rfl⟩ := cmpOf_is ha
      refine cmp_step (b := n == lo) hload (by with_unfolding_all rfl) (fun j u Q hq => eq_int hq) fun j => ?_
      have := h j
      have e : decide (lo ≤ n ∧ n ≤ lo) = (n == lo) := by
        rw [Bool.eq_iff_iff, decide_eq_true_eq, beq_iff_eq]
        omega
      rwa [e] at this
    · cases ht

theorem chainW {Q : Flow → Shared → Prop} {y : Str} (tl : List Stmt)
    (hload : ∀ (j : Nat) (pos : Pos) (Q : Value → Shared → Prop), Q (.int n tk) { s with toks := j } → wpAny (model prog w) A (eval (.Name x pos) env) Q E { s with toks := j })
    (h : ∀ t j, Q (.ret (.str y t)) { s with toks := j }) :
    ∀ (C : List (Int × Int × Str)) (body : List Stmt) (j : Nat), body.map rowOf = C.map (fun c => some (x, c.1, c.2.1, c.2.2)) → find n C = some y →
      wpAny (model prog w) A (execs (body ++ tl) env) Q E { s with toks := j }
  | [], _, _, _, hf => nomatch hf
  | (lo, hi, z) :: C, [], _, hb, _ => nomatch hb
  | (lo, hi, z) :: C, st :: body, j, hb, hf => by
    have h1 : rowOf st = some (x, lo, hi, z) := (List.cons.inj hb).1
    have h2 := (List.cons.inj hb).2
    unfold rowOf at h1
    split at h1
    · rename_i t z' kk pp qq rr
      obtain ⟨⟨x', lo', hi'⟩, ht, e⟩ := Option.map_eq_some_iff.mp h1
      have e1 : x' = x ∧ lo' = lo ∧ hi' = hi ∧ z' = z := by simpa using e
      obtain ⟨e1, e2, e3, e4⟩ := e1
      rw [e1, e2, e3] at ht
      rw [e4]
      refine wpAny_execs_cons (wpAny_If (test_step ht hload fun j => ?_))
      by_cases hc : lo ≤ n ∧ n ≤ hi
      · rw [if_pos (by simpa using hc)]
        have hz : z = y := by
          unfold find at hf
          rw [if_pos hc] at hf
          exact Option.some.inj hf
        subst hz
        exact wpAny_execs_cons (wpAny_Return_some (Constant_str (h _ _)))
      · rw [if_neg (by simpa using hc)]
        refine wpAny_execs_nil ?_
        have hf' : find n C = some y := by
          unfold find at hf
          rwa [if_neg hc] at hf
        exact chainW tl hload h C body j h2 hf'
    · cases h1
end

/-- every number from lo to hi finds x -/
def agree (x : Str) : List (Int × Int × Str) → Int → Int → Bool
  | [], lo, hi => decide (hi < lo)
  | (a, b, y) :: r, lo, hi => if hi < a ∨ b < lo then agree x r lo hi else (y == x) && (decide (a ≤ lo) || agree x r lo (a - 1)) && (decide (hi ≤ b) || agree x r (b + 1) hi)
theorem agree_find {x : Str} : ∀ {C : List (Int × Int × Str)} {lo hi : Int}, agree x C lo hi = true → ∀ n, lo ≤ n → n ≤ hi → find n C = some x
  | [], lo, hi, h, n, h1, h2 => by
    have : hi < lo := by simpa [agree] using h
    omega
  | (a, b, y) :: r, lo, hi, h, n, h1, h2 => by
    unfold agree at h
    unfold find
    split at h
    · rename_i hd
      rw [if_neg (by omega)]
      exact agree_find h n h1 h2
    · simp only [Bool.and_eq_true, Bool.or_eq_true, decide_eq_true_eq, beq_iff_eq] at h
      obtain ⟨⟨rfl, hl⟩, hr⟩ := h
      by_cases hc : a ≤ n ∧ n ≤ b
      · rw [if_pos hc]
      · rw [if_neg hc]
        by_cases hn : n < a
        · rcases hl with hl | hl
          · omega
          · exact agree_find hl n h1 (by omega)
        · rcases hr with hr | hr
          · omega
          · exact agree_find hr n (by omega) h2
/-- a written table of pairs, read off the text -/
def pairsOf : PySem.Expr → List (Int × Str)
  | .Tuple es _ _ => es.filterMap fun e => match e with
    | .Tuple [.Constant (.int i) _ _, .Constant (.str x) _ _] _ _ => some (i, x)
    | _ => none
  | _ => []
def pairsAt (l : List Stmt) (i : Nat) : List (Int × Str) := match l[i]? with
  | some (Stmt.Assign _ e _) => pairsOf e
  | _ => []
def lowRows : List (Int × Str) := pairsAt PySem.Challenge.pw_eh5029_01.main.body 6
def upRows : List (Int × Str) := pairsAt PySem.Challenge.pw_eh5029_01.main.body 7
def routRows : List (Int × Str) := pairsAt PySem.Challenge.pw_eh5029_01.main.body 8
theorem low_len : lowRows.length = 5 := by decide +kernel
theorem up_len : upRows.length = 13 := by decide +kernel
theorem rout_len : routRows.length = 12 := by decide +kernel

abbrev resv : Str := Str.ofString "ISOSAEReservedStandardized"
abbrev tailW : Str := Str.ofString "DataIdentifier"
def nm (x : Str) : Str := if x == resv then x else x ++ tailW
def wrows : List (Int × Str) := Ws.zipIdx.map fun p => (61824 + (p.2 : Int), nm p.1)
theorem word_fits {i : Nat} {x : Str} (h : Ws[i]? = some x) : x.length + tailW.length ≤ sizeLine := by
  have h1 := List.all_eq_true.mp Ws_short x (List.mem_of_getElem? h)
  have h2 := Nat.le_of_ble_eq_true h1
  have h3 : tailW.length = 14 := by decide
  rw [h3, sizeLine_eq]
  show x.cps.size + 14 ≤ _
  rw [← Array.length_toList]
  omega
theorem wrows_get {i : Nat} {x : Str} (h : Ws[i]? = some x) : wrows[i]? = some (61824 + (i : Int), nm x) := by
  unfold wrows
  rw [List.getElem?_map, List.getElem?_zipIdx, h]
  simp
theorem wrows_take {i : Nat} {x : Str} (h : Ws[i]? = some x) : wrows.take (i + 1) = wrows.take i ++ [(61824 + (i : Int), nm x)] := by
  rw [List.take_add_one, wrows_get h]; rfl

/-- the body of the method of that place: the class's row, the def's row -/
def bodyAt (l : List Stmt) (i : Nat) : List Stmt := match l[i]? with
  | some (Stmt.ClassDef _ _ _ b ..) => (match b.getLast? with
    | some (Stmt.FunctionDef _ _ d ..) => d
    | _ => [])
  | _ => []
def chainOf (l : List Stmt) : List (Int × Int × Str) := l.filterMap fun st => (rowOf st).map fun r => r.2
def chainD : List (Int × Int × Str) := chainOf (bodyAt PySem.Challenge.pw_eh5029_01.main.body 1)
def chainR : List (Int × Int × Str) := chainOf (bodyAt PySem.Challenge.pw_eh5029_01.main.body 3)
def rowsD : List (Int × Str) := lowRows ++ wrows ++ upRows
def fits (C : List (Int × Int × Str)) (rows : List (Int × Str)) : Bool :=
  (List.range rows.length).all fun i => agree (rows.getD i (0, Str.ofString "")).2 C (rows.getD i (0, Str.ofString "")).1 ((bif Nat.blt (i + 1) rows.length then (rows.getD (i + 1) (0, Str.ofString "")).1 else 65536) - 1)
    && decide ((rows.getD i (0, Str.ofString "")).1 < (bif Nat.blt (i + 1) rows.length then (rows.getD (i + 1) (0, Str.ofString "")).1 else 65536))
    && decide (0 ≤ (rows.getD i (0, Str.ofString "")).1) && decide ((bif Nat.blt (i + 1) rows.length then (rows.getD (i + 1) (0, Str.ofString "")).1 else 65536) ≤ 65536)
set_option maxRecDepth 100000 in
theorem fitsR : fits chainR routRows = true := by k_qdec
set_option maxRecDepth 100000 in
theorem fitsD : fits chainD rowsD = true := by k_qdec
set_option maxRecDepth 100000 in
theorem rowsD_len : (rowsD.length == 50) = true := by k_qdec
end Mine

namespace Mine
/-- the value is a pair (number, text) of the top's part or of the ledger -/
def RowAt (K : Frag) (NT : List (Addr × Obj)) (v : Value) (f : Int) (x : Str) : Prop :=
  ∃ (a : Addr) (o : Obj) (n : Nat) (t1 t2 : Tok), v = .ref a ∧ (K.lookup a = some o ∨ (a, o) ∈ NT) ∧ o.cls = .type "tuple" ∧ o.data = .seq #[.int f t1, .str x t2] n
inductive Tab (K : Frag) (NT : List (Addr × Obj)) : List Value → List (Int × Str) → Prop
  | nil : Tab K NT [] []
  | cons {v : Value} {f : Int} {x : Str} {vs : List Value} {rows : List (Int × Str)} : RowAt K NT v f x → Tab K NT vs rows → Tab K NT (v :: vs) ((f, x) :: rows)

section
variable {K : Frag} {NT NT' : List (Addr × Obj)} {vs vs' : List Value} {rows rows' : List (Int × Str)}
theorem RowAt.mono {v : Value} {f : Int} {x : Str} (h : RowAt K NT v f x) (hs : ∀ p ∈ NT, p ∈ NT') : RowAt K NT' v f x := by
  obtain ⟨a, o, n, t1, t2, rfl, h1, h2, h3⟩ := h
  exact ⟨a, o, n, t1, t2, rfl, h1.imp id (hs _), h2, h3⟩
theorem RowAt.ofK {a : Addr} {o : Obj} {n : Nat} {t1 t2 : Tok} {f : Int} {x : Str} (h : K.lookup a = some o) (hc : o.cls = .type "tuple") (hd : o.data = .seq #[.int f t1, .str x t2] n) : RowAt K NT (.ref a) f x :=
  ⟨a, o, n, t1, t2, rfl, .inl h, hc, hd⟩
theorem RowAt.ofN {a : Addr} {o : Obj} {n : Nat} {t1 t2 : Tok} {f : Int} {x : Str} (h : (a, o) ∈ NT) (hc : o.cls = .type "tuple") (hd : o.data = .seq #[.int f t1, .str x t2] n) : RowAt K NT (.ref a) f x :=
  ⟨a, o, n, t1, t2, rfl, .inr h, hc, hd⟩
theorem Tab.mono (h : Tab K NT vs rows) (hs : ∀ p ∈ NT, p ∈ NT') : Tab K NT' vs rows := by
  induction h with
  | nil => exact .nil
  | cons a _ ih => exact .cons (a.mono hs) ih
theorem Tab.append (h : Tab K NT vs rows) (h' : Tab K NT vs' rows') : Tab K NT (vs ++ vs') (rows ++ rows') := by
  induction h with
  | nil => exact h'
  | cons a _ ih => exact .cons a ih
theorem Tab.length (h : Tab K NT vs rows) : vs.length = rows.length := by
  induction h with
  | nil => rfl
  | cons _ _ ih => simp [ih]
theorem Tab.get (h : Tab K NT vs rows) : ∀ (i : Nat), i < rows.length → ∃ v, vs[i]? = some v ∧ RowAt K NT v (rows.getD i (0, Str.ofString "")).1 (rows.getD i (0, Str.ofString "")).2 := by
  induction h with
  | nil => intro i hi; exact absurd hi (Nat.not_lt_zero _)
  | cons a _ ih =>
    intro i hi
    cases i with
    | zero => exact ⟨_, rfl, by simpa using a⟩
    | succ i =>
      obtain ⟨v, h1, h2⟩ := ih i (by simpa using hi)
      exact ⟨v, by simpa using h1, by simpa using h2⟩
end

theorem Tab.cast {K : Frag} {NT : List (Addr × Obj)} {vs : List Value} {rows rows' : List (Int × Str)} (h : Tab K NT vs rows) (e : rows = rows') : Tab K NT vs rows' := e ▸ h
def objRow (o : Obj) : Option (Int × Str) := if o.cls = .type "tuple" then (match o.data with
  | .seq a _ => (match a.toList with
    | [.int f _, .str x _] => some (f, x)
    | _ => none)
  | _ => none) else none
def rowIn (K : Frag) : Value → Option (Int × Str)
  | .ref a => (K.lookup a).bind objRow
  | _ => none
theorem rowIn_at {K : Frag} {NT : List (Addr × Obj)} {v : Value} {f : Int} {x : Str} (h : rowIn K v = some (f, x)) : RowAt K NT v f x := by
  unfold rowIn at h
  split at h
  · rename_i a
    obtain ⟨o, ho, h⟩ := Option.bind_eq_some_iff.mp h
    unfold objRow at h
    split at h
    · rename_i hc
      split at h
      · rename_i arr n hd
        split at h
        · rename_i f' t1 x' t2 hl
          cases h
          exact .ofK ho hc (n := n) (t1 := t1) (t2 := t2) (by rw [hd]; congr 1; exact Array.toList_inj.mp hl)
        · cases h
      · cases h
    · cases h
  · cases h
theorem tab_of {K : Frag} {NT : List (Addr × Obj)} : ∀ {vs : List Value} {rows : List (Int × Str)}, vs.map (rowIn K) = rows.map some → Tab K NT vs rows
  | [], [], _ => .nil
  | [], _ :: _, h => nomatch h
  | _ :: _, [], h => nomatch h
  | _ :: _, (_, _) :: _, h => .cons (rowIn_at (List.cons.inj h).1) (tab_of (List.cons.inj h).2)
abbrev rowF (rows : List (Int × Str)) (k : Int) : Int := (rows.getD k.toNat (0, Str.ofString "")).1
abbrev rowS (rows : List (Int × Str)) (k : Int) : Str := (rows.getD k.toNat (0, Str.ofString "")).2
/-- where the row k ends: one ahead of the next one's first, the last at 65535 -/
def past (rows : List (Int × Str)) (k : Int) : Int := if k + 1 < (rows.length : Int) then rowF rows (k + 1) else 65536

section
variable {prog : Program} {w : World} {A : Around} {E : Value → Shared → Prop} {s : Shared} {K : Frag} {L : Addr} {h₀ : Heap} {m : Str → Option Value} {news NT : List (Addr × Obj)} {vs : List Value} {rows : List (Int × Str)}

theorem RowAt.tup {v : Value} {f : Int} {x : Str} (h : RowAt K NT v f x) (X : K.In s.heap) (N : News h₀ L s.heap news) (hs : ∀ p ∈ NT, p ∈ news) : ∃ a t1 t2, v = .ref a ∧ IsTup s.heap a [.int f t1, .str x t2].toArray := by
  obtain ⟨a, o, n, t1, t2, rfl, h1, h2, h3⟩ := h
  refine ⟨a, t1, t2, rfl, o, ?_, h2, n, h3⟩
  rcases h1 with h1 | h1
  · exact X _ _ h1
  · exact (N _ (hs _ h1)).1

theorem row_item {l : Addr} {n : Nat} {value slice : PySem.Expr} {k : Int} {u : Tok} {Q : Value → Shared → Prop} (F : Fr h₀ L s.heap m) (X₀ : K.In h₀) (N : News h₀ L s.heap news) (T : Tab K NT vs rows) (hl : (l, listOf vs.toArray n) ∈ news) (hs : ∀ p ∈ NT, p ∈ news)
    (h0 : 0 ≤ k) (hk : k < (rows.length : Int)) (hlen : rows.length ≤ 1000) (h : ∀ a t1 t2, IsTup s.heap a [.int (rowF rows k) t1, .str (rowS rows k) t2].toArray → Q (.ref a) s)
    (hsb : subscripted slice false (.ref l) (.int k u) = operate [.ref l, .int k u] (getItem (.ref l) (.int k u)) := by with_unfolding_all rfl) :
    wpAny (model prog w) A (subscriptTail value slice (.ref l) (.int k u)) Q E s := by
  obtain ⟨v, hv, hr⟩ := T.get k.toNat (by omega)
  obtain ⟨a, t1, t2, rfl, ht⟩ := hr.tup (X₀.keeps F.keep) N hs
  have hL : s.heap.IsList l vs.toArray := ⟨_, (N _ hl).1, rfl, n, rfl⟩
  exact tail_any hL.typeIs slot_list_getitem.lookup (wpAny_getItem_list hL h0 (by omega) (by simpa using hv) (h a t1 t2 ht)) hsb

theorem row_first {a : Addr} {f : Int} {x : Str} {t1 t2 u : Tok} {value slice : PySem.Expr} {Q : Value → Shared → Prop} (ht : IsTup s.heap a [.int f t1, .str x t2].toArray) (h : Q (.int f t1) s)
    (hsb : subscripted slice false (.ref a) (.int 0 u) = operate [.ref a, .int 0 u] (getItem (.ref a) (.int 0 u)) := by with_unfolding_all rfl) :
    wpAny (model prog w) A (subscriptTail value slice (.ref a) (.int 0 u)) Q E s := item_tupleT ht (by decide) (by decide) rfl rfl h hsb
theorem row_second {a : Addr} {f : Int} {x : Str} {t1 t2 u : Tok} {value slice : PySem.Expr} {Q : Value → Shared → Prop} (ht : IsTup s.heap a [.int f t1, .str x t2].toArray) (h : Q (.str x t2) s)
    (hsb : subscripted slice false (.ref a) (.int 1 u) = operate [.ref a, .int 1 u] (getItem (.ref a) (.int 1 u)) := by with_unfolding_all rfl) :
    wpAny (model prog w) A (subscriptTail value slice (.ref a) (.int 1 u)) Q E s := item_tupleT ht (by decide) (by decide) rfl rfl h hsb
end
end Mine

namespace Mine
theorem allObj_mono : ∀ {ws : List (Addr × String)} {k k' : List (Addr × Obj) → Prop}, (∀ its, k its → k' its) → AllObj ws k → AllObj ws k'
  | [], _, _, h, x => h _ x
  | _ :: _, _, _, h, x => fun o ho => allObj_mono (fun _ => h _) (x o ho)

section
variable {prog : Program} {w : World} {A : Around} {E : Value → Shared → Prop} {s : Shared} {env : Env} {h₀ : Heap} {target : PySem.Expr} {body : List Stmt} {Q : Flow → Shared → Prop} {ws : List (Addr × String)} {keep : List (Addr × Obj)}

/-- a turn's tree, with what its end must show -/
abbrev Turn (prog : Program) (w : World) (A : Around) (E : Value → Shared → Prop) (s : Shared) (env : Env) (h₀ : Heap) (target : PySem.Expr) (body : List Stmt) (Q : Flow → Shared → Prop) (ws : List (Addr × String)) (keep : List (Addr × Obj))
    (Next : (Str → Option Value) → List (Addr × Obj) → Prop) (v : Value) (news : List (Addr × Obj)) (h : Heap) (tk : Nat) : Prop :=
  AllObj ws (fun its => News h₀ env.locals h (its ++ news) →
    wpAny (model prog w) A (assign target env v) (fun _ s₂ => wpAny (model prog w) A (execs body env) (UnrPostW h₀ env.locals { s with heap := h, toks := tk } its (fun m' n' => SubL keep n' ∧ Next m' n') Q) E s₂) E { s with heap := h, toks := tk })

theorem turn_mono {Next Next' : (Str → Option Value) → List (Addr × Obj) → Prop} {v : Value} {news : List (Addr × Obj)} {h : Heap} {tk : Nat} (hn : ∀ m' n', Next m' n' → Next' m' n')
    (x : Turn prog w A E s env h₀ target body Q ws keep Next v news h tk) : Turn prog w A E s env h₀ target body Q ws keep Next' v news h tk := by
  refine allObj_mono (fun its k N => ?_) x
  refine wpAny_mono (k N) (fun _ s₂ y => wpAny_mono y (fun f s₃ p => ?_) fun _ _ e => e) fun _ _ e => e
  have up : UnrEndW h₀ env.locals { s with heap := h, toks := tk } its (fun m' n' => SubL keep n' ∧ Next m' n') s₃ → UnrEndW h₀ env.locals { s with heap := h, toks := tk } its (fun m' n' => SubL keep n' ∧ Next' m' n') s₃ := by
    rintro ⟨h', tk', m', n', e, F, N', o, k', r⟩
    exact ⟨h', tk', m', n', e, F, N', o, k', hn _ _ r⟩
  cases f with
  | ret v => exact p
  | brk => exact p
  | next => exact up p
  | cont => exact up p

theorem int_items (Inv : (Str → Option Value) → List (Addr × Obj) → Prop)
    (turn : ∀ n t m₁ news₁ h tk, Inv m₁ news₁ → Fr h₀ env.locals h m₁ → Turn prog w A E s env h₀ target body Q ws keep Inv (.int n t) news₁ h tk)
    (done : ∀ m₁ news₁ h tk, Inv m₁ news₁ → Fr h₀ env.locals h m₁ → News h₀ env.locals h news₁ → Q .next { s with heap := h, toks := tk }) :
    ∀ {vs : List Value} {ns : List Int} {m : Str → Option Value} {news : List (Addr × Obj)}, IntsAre vs ns → Inv m news → ItemsRest prog w A E h₀ env target body Q s ws keep (vs.map .val) m news
  | [], _, m, news, _, hi => fun h tk F N => done m news h tk hi F N
  | v :: vs, _, m, news, hv, hi => by
    cases hv with
    | cons n t hr =>
      exact ItemsRest.val fun h tk F => turn_mono (fun m' n' i' => int_items Inv turn done hr i') (turn n t m news h tk hi F)

theorem enum_items (P : Nat → Str → Prop) (Inv : Nat → (Str → Option Value) → List (Addr × Obj) → Prop) {len : Nat}
    (turn : ∀ i x t tx T m₁ news₁ h tk, P i x → Inv i m₁ news₁ → IsTup h T #[.int (i : Int) t, .str x tx] → Fr h₀ env.locals h m₁ → Turn prog w A E s env h₀ target body Q ws keep (Inv (i + 1)) (.ref T) news₁ h tk)
    (done : ∀ m₁ news₁ h tk, Inv len m₁ news₁ → Fr h₀ env.locals h m₁ → News h₀ env.locals h news₁ → Q .next { s with heap := h, toks := tk }) :
    ∀ {l : List (Str × Tok)} {i : Nat} {m : Str → Option Value} {news : List (Addr × Obj)}, (∀ k x tx, l[k]? = some (x, tx) → P (i + k) x) → i + l.length = len → Inv i m news → ItemsRest prog w A E h₀ env target body Q s ws keep (enumItems i (strValues l)) m news
  | [], i, m, news, _, hl, hi => fun h tk F N => done m news h tk ((show i = len by simpa using hl) ▸ hi) F N
  | (x, tx) :: l, i, m, news, hP, hl, hi => by
    show ItemsRest prog w A E h₀ env target body Q s ws keep (.pair (fun t => .int (i : Int) t) (.str x tx) :: enumItems (i + 1) (strValues l)) m news
    refine ItemsRest.pair fun T t h tk ht F => turn_mono (fun m' n' i' => enum_items P Inv turn done (fun k y ty hk => ?_) (by simp only [List.length_cons] at hl; omega) i') (turn i x t tx T m news h tk (hP 0 x tx rfl) hi ht F)
    have := hP (k + 1) y ty (by simpa using hk)
    rwa [show i + (k + 1) = i + 1 + k by omega] at this
end

/-- a turn's end over a ledger with an unknown tail: what is kept stands in another class than the iterator's objects -/
theorem turn_end {h₀ : Heap} {L : Addr} {its keep : List (Addr × Obj)} {Next : (Str → Option Value) → List (Addr × Obj) → Prop} {s₁ : Shared} {h' : Heap} {tk : Nat} {m' : Str → Option Value} {all : List (Addr × Obj)} (news' : List (Addr × Obj))
    (F : Fr h₀ L h' m') (N : News h₀ L h' all) (hI : ∀ p ∈ its, p ∈ all) (hn : ∀ p ∈ news', p ∈ all) (off : ∀ p ∈ news', ∀ q ∈ its, p.1 ≠ q.1 ∨ p.2.cls ≠ q.2.cls) (hk : SubL keep news') (r : Next m' news') :
    UnrEndW h₀ L s₁ its (fun m' n' => SubL keep n' ∧ Next m' n') { s₁ with heap := h', toks := tk } :=
  ⟨h', tk, m', news', rfl, F, fun p hp => by
    rcases List.mem_append.mp hp with hp | hp
    · exact N p (hI p hp)
    · exact N p (hn p hp), fun p hp q hq e => by
    have h1 := (N _ (hn p hp)).1
    have h2 := (N _ (hI q hq)).1
    rw [e] at h1
    exact (off p hp q hq).elim (fun n => n e) fun n => n (congrArg Obj.cls (Option.some.inj (h1.symm.trans h2))), hk, r⟩

def AllTup (l : List (Addr × Obj)) : Prop := ∀ p ∈ l, p.2.cls = .type "tuple"
def Above (l : List (Addr × Obj)) (a : Nat) : Prop := ∀ p ∈ l, a < p.1
def AllBelow (a : Addr) (l : List (Addr × Obj)) : Prop := ∀ p ∈ l, p.1 < a
theorem Above.out {l : List (Addr × Obj)} {a : Nat} (h : Above l a) {b : Nat} (hb : b ≤ a) : ∀ p ∈ l, p.1 ≠ b := fun p hp e => Nat.lt_irrefl _ (Nat.lt_of_le_of_lt (e ▸ hb) (h p hp))
/-- the frame's names after a turn: the stored ones are forgotten -/
theorem forget {stored : List Str} {m' m₀ : Str → Option Value} (h : ∀ z, stored.contains z = false → m' z = m₀ z) : m' = fun z => if stored.contains z = true then m' z else m₀ z := by
  funext z
  cases e : stored.contains z with
  | true => simp
  | false => simpa using h z e
end Mine

namespace Mine
/-- what holds between the turns: the rows' list is the ones before and those of the words taken -/
def InvB (K : Frag) (m₀ : Str → Option Value) (stored : List Str) (D rl : Addr) (dobj : Obj) (old : List (Addr × Obj)) (before : List (Int × Str)) (i : Nat) (m : Str → Option Value) (news : List (Addr × Obj)) : Prop :=
  ∃ (u : Str → Option Value) (vs : List Value) (n : Nat) (NT : List (Addr × Obj)), m = (fun z => if stored.contains z = true then u z else m₀ z) ∧ news = (D, dobj) :: (rl, listOf vs.toArray n) :: (old ++ NT) ∧
    Tab K NT vs (before ++ wrows.take i) ∧ Above NT rl ∧ AllTup NT ∧ vs.length ≤ 1000

section
variable {prog : Program} {w : World} {A : Around} {E : Value → Shared → Prop} {s : Shared} {env : Env} {h₀ : Heap} {elts : List PySem.Expr} {k : Nat} {pos : Pos} {body : List Stmt} {Q : Flow → Shared → Prop}

theorem built_loop {K : Frag} {D rl : Addr} {rvs : List Value} {rn : Nat} {old : List (Addr × Obj)} {m₀ : Str → Option Value} {l : List (Str × Tok)} {before : List (Int × Str)} (stored : List Str) (_X : K.In h₀)
    (hh : A.handled = none) (F : Fr h₀ env.locals s.heap m₀) (N : News h₀ env.locals s.heap ((D, listOf (strValues l).toArray 0) :: (rl, listOf rvs.toArray rn) :: old)) (hl : l.map (·.1) = Ws) (hb : Tab K [] rvs before) (hlen : before.length ≤ 900)
    (turn : ∀ i x t tx T (u : Str → Option Value) vs nn NT h tk I o1 o2, Ws[i]? = some x → i < 32 → Tab K NT vs (before ++ wrows.take i) → Above NT rl → AllTup NT → vs.length ≤ 950 →
      (∀ p ∈ (D, listOf (strValues l).toArray 0) :: (rl, listOf rvs.toArray rn) :: old, p.1 < I) → o1.cls = .type "enumerate" → o2.cls = .type "list_iterator" →
      IsTup h T #[.int (i : Int) t, .str x tx] → Fr h₀ env.locals h (fun z => if stored.contains z = true then u z else m₀ z) →
      News h₀ env.locals h ((I + 1, o1) :: (I, o2) :: (D, listOf (strValues l).toArray 0) :: (rl, listOf vs.toArray nn) :: (old ++ NT)) →
      wpAny (model prog w) A (assign (.Tuple elts k pos) env (.ref T)) (fun _ s₂ => wpAny (model prog w) A (execs body env)
        (UnrPostW h₀ env.locals { s with heap := h, toks := tk } [(I + 1, o1), (I, o2)] (fun m' n' => SubL [(D, listOf (strValues l).toArray 0)] n' ∧ InvB K m₀ stored D rl (listOf (strValues l).toArray 0) old before (i + 1) m' n') Q) E s₂) E { s with heap := h, toks := tk })
    (done : ∀ (u : Str → Option Value) vs n NT h tk, Tab K NT vs (before ++ wrows) → Above NT rl → AllTup NT → vs.length ≤ 1000 → Fr h₀ env.locals h (fun z => if stored.contains z = true then u z else m₀ z) →
      News h₀ env.locals h ((D, listOf (strValues l).toArray 0) :: (rl, listOf vs.toArray n) :: (old ++ NT)) → Q .next { s with heap := h, toks := tk }) :
    wpAny (model prog w) A (call (.type "enumerate") [.ref D]) (fun xv s₁ => wpAny (model prog w) A (pyIter xv) (fun it s₂ => TurnsAt prog w A h₀ env (.Tuple elts k pos) body Q E it s₂) E s₁) E s := by
  have hW : Ws.length = 32 := by simpa using Ws_len
  have hll : l.length = 32 := by rw [← hW, ← hl, List.length_map]
  have hwr : wrows.length = 32 := by unfold wrows; rw [List.length_map, List.length_zipIdx, hW]
  refine ktu_enum hh F N (.head _) rfl rfl rfl fun I hI => ?_
  refine enum_items (P := fun i x => Ws[i]? = some x) (Inv := InvB K m₀ stored D rl (listOf (strValues l).toArray 0) old before) (len := 32) ?_ ?_ (fun k x tx hk => ?_) (by simpa using hll)
    ⟨m₀, rvs, rn, [], by funext z; simp, by simp, by simpa using hb, fun _ h => (nomatch h), fun _ h => (nomatch h), by rw [hb.length]; omega⟩
  · rintro i x t tx T m₁ news₁ h tk hx ⟨u, vs, n, NT, rfl, rfl, hT, h1, h2, h3⟩ ht F₁
    have hi : i < 32 := by
      rw [← hW]
      exact (List.getElem?_eq_some_iff.mp hx).1
    have hv : vs.length ≤ 950 := by
      rw [hT.length, List.length_append, List.length_take]
      omega
    exact fun o1 c1 o2 c2 N₁ => turn i x t tx T u vs n NT h tk I o1 o2 hx hi hT h1 h2 hv hI c1 c2 ht F₁ N₁
  · rintro m₁ news₁ h tk ⟨u, vs, n, NT, rfl, rfl, hT, h1, h2, h3⟩ F₁ N₁
    rw [List.take_of_length_le (by omega)] at hT
    exact done u vs n NT h tk hT h1 h2 h3 F₁ N₁
  · show Ws[0 + k]? = some x
    rw [← hl, Nat.zero_add, List.getElem?_map, hk]
    rfl
end

theorem built_end {K : Frag} {m₀ m' : Str → Option Value} {stored : List Str} {h₀ h' : Heap} {L D rl t I : Addr} {dobj x0 tup o1 o2 : Obj} {old all NT : List (Addr × Obj)} {before : List (Int × Str)} {i n n' n2 : Nat} {x y : Str} {t1 t2 : Tok} {f : Int} {vs : List Value} {s₁ : Shared} {tk : Nat}
    (hx : Ws[i]? = some x) (hT : Tab K NT vs (before ++ wrows.take i)) (h1 : Above NT rl) (h2 : AllTup NT) (hv : vs.length ≤ 950) (c1 : o1.cls = .type "enumerate") (c2 : o2.cls = .type "list_iterator")
    (F : Fr h₀ L h' m') (N : News h₀ L h' all) (hm : ∀ z, stored.contains z = false → m' z = m₀ z)
    (hI : SubL [(I + 1, o1), (I, o2), (D, dobj), (rl, listOf (vs.toArray.push (.ref t)) n'), (t, tup)] all) (ho : SubL old all) (hN : ∀ p ∈ NT, p ∈ all)
    (hlt : AllBelow I ((D, dobj) :: (rl, x0) :: old)) (ht : Nat.lt rl t) (hc : tup.cls = .type "tuple") (hdat : tup.data = .seq #[.int f t1, .str y t2] n2) (hf : f = 61824 + (i : Int)) (hy : y = nm x) :
    UnrEndW h₀ L s₁ [(I + 1, o1), (I, o2)] (fun m' nn => SubL [(D, dobj)] nn ∧ InvB K m₀ stored D rl dobj old before (i + 1) m' nn) { s₁ with heap := h', toks := tk } := by
  subst hf hy
  have hI' := hI.mem
  refine turn_end ((D, dobj) :: (rl, listOf (vs ++ [Value.ref t]).toArray n') :: (old ++ (t, tup) :: NT)) F N (fun p hp => hI' p ?_) (fun p hp => ?_) (fun p hp q hq => ?_) ⟨.head _, trivial⟩
    ⟨m', vs ++ [Value.ref t], n', (t, tup) :: NT, forget hm, rfl, ?_, ?_, ?_, ?_⟩
  · rcases List.mem_cons.mp hp with rfl | hp
    · exact .head _
    · rw [List.mem_singleton.mp hp]; exact .tail _ (.head _)
  · rcases List.mem_cons.mp hp with rfl | hp
    · exact hI' _ (by simp)
    · rcases List.mem_cons.mp hp with rfl | hp
      · have e : (vs ++ [Value.ref t]).toArray = vs.toArray.push (.ref t) := by simp
        rw [e]
        exact hI' _ (by simp)
      · rcases List.mem_append.mp hp with hp | hp
        · exact ho.mem p hp
        · rcases List.mem_cons.mp hp with rfl | hp
          · exact hI' _ (by simp)
          · exact hN p hp
  · have hq' : (q.1 = I + 1 ∨ q.1 = I) ∧ (q.2.cls = .type "enumerate" ∨ q.2.cls = .type "list_iterator") := by
      rcases List.mem_cons.mp hq with rfl | hq
      · exact ⟨.inl rfl, .inl c1⟩
      · rw [List.mem_singleton.mp hq]; exact ⟨.inr rfl, .inr c2⟩
    have hp' : p.1 < I ∨ p.2.cls = .type "tuple" := by
      rcases List.mem_cons.mp hp with rfl | hp
      · exact .inl (hlt _ (.head _))
      · rcases List.mem_cons.mp hp with rfl | hp
        · exact .inl (hlt (rl, x0) (.tail _ (.head _)))
        · rcases List.mem_append.mp hp with hp | hp
          · exact .inl (hlt _ (.tail _ (.tail _ hp)))
          · rcases List.mem_cons.mp hp with rfl | hp
            · exact .inr hc
            · exact .inr (h2 p hp)
    rcases hp' with e | e
    · left
      intro q
      rcases hq'.1 with z | z <;> (rw [q, z] at e; exact absurd e (by first | exact Nat.lt_irrefl _ | exact Nat.not_lt.mpr (Nat.le_succ _)))
    · right
      rcases hq'.2 with e' | e' <;> rw [e, e'] <;> decide
  · rw [wrows_take hx, ← List.append_assoc]
    exact (hT.mono fun p hp => .tail _ hp).append (.cons (.ofN (.head _) hc hdat) .nil)
  · intro p hp
    rcases List.mem_cons.mp hp with rfl | hp
    · exact ht
    · exact h1 p hp
  · intro p hp
    rcases List.mem_cons.mp hp with rfl | hp
    · exact hc
    · exact h2 p hp
  · simp only [List.length_append, List.length_cons, List.length_nil]
    omega

section
variable {prog : Program} {w : World} {A : Around} {E : Value → Shared → Prop} {s : Shared} {h₀ : Heap} {L D b : Addr} {m : Str → Option Value} {news news' NT : List (Addr × Obj)} {K : Frag}
theorem extend_top {vs us : List Value} {n n2 : Nat} {rows rows2 : List (Int × Str)} {Q : Value → Shared → Prop} (F : Fr h₀ L s.heap m) (X₀ : K.In h₀) (N : News h₀ L s.heap news) (T : Tab K NT vs rows) (hv : vs.length ≤ 1000)
    (hb : K.lookup b = some ({ cls := .type "tuple", data := .seq us.toArray n2 } : Obj)) (T2 : Tab K NT us rows2) (hne : us ≠ []) (hz : us.length ≤ 1000)
    (U : Upd D (listOf vs.toArray n) (listOf (vs ++ us).toArray (n + 1)) news news') (h : ∀ h', Fr h₀ L h' m → News h₀ L h' news' → Tab K NT (vs ++ us) (rows ++ rows2) → Q .none { s with heap := h' }) :
    wpAny (model prog w) A (call (.builtin "list.extend") [.ref D, .ref b]) Q E s := by
  obtain ⟨pre, post, rfl, rfl, a, c⟩ := U.split
  have z := N (D, listOf vs.toArray n) (List.mem_append.mpr (.inr (.head _)))
  have hk : s.heap.get? b = some ({ cls := .type "tuple", data := .seq us.toArray n2 } : Obj) := X₀.keeps F.keep _ _ hb
  have hd : ¬(!vs.toArray.isEmpty && Builtin.List.listTooLong (vs.toArray.size + us.toArray.size)) = true := PyProof.Rows.extend_door (by rw [List.size_toArray, List.size_toArray, sizeLine_eq]; omega)
  refine call_meets PySem.F.slot_list_extend ⟨_, z.1, rfl⟩ PySem.F.entry_list_extend (PySem.F.args_list_extend_2 _ _) (PySem.AutoSeq1.list_extend_list_tuple_0 D vs.toArray n b us.toArray n2 hd (by rw [List.size_toArray, sizeLine_eq]; omega) (by rw [List.size_toArray, List.size_toArray, sizeLine_eq]; omega)) ⟨z.1, hk, h _ (F.change (Heap.SameBut.update ..) z.2.1 z.2.2) (kl_turn _ N a c ?_ ?_) (T.append T2)⟩
  · apply Array.toList_inj.mp
    simp
  · intro q
    have : us.length = 0 := by
      have := congrArg (fun x => x) q
      simp only [List.size_toArray, List.length_append] at this
      omega
    exact hne (List.eq_nil_of_length_eq_zero this)
end
end Mine

namespace Mine
/-- between the turns: the ledger stands, the stored names are forgotten -/
def InvF (m₀ : Str → Option Value) (stored : List Str) (led : List (Addr × Obj)) (m : Str → Option Value) (news : List (Addr × Obj)) : Prop :=
  ∃ u : Str → Option Value, m = (fun z => if stored.contains z = true then u z else m₀ z) ∧ news = led

section
variable {prog : Program} {w : World} {A : Around} {E : Value → Shared → Prop} {s : Shared} {env : Env} {h₀ : Heap} {target : PySem.Expr} {body : List Stmt} {Q : Flow → Shared → Prop} {ws : List (Addr × String)} {keep : List (Addr × Obj)}
theorem int_itemsP (P : Int → Prop) (Inv : (Str → Option Value) → List (Addr × Obj) → Prop)
    (turn : ∀ n t m₁ news₁ h tk, P n → Inv m₁ news₁ → Fr h₀ env.locals h m₁ → Turn prog w A E s env h₀ target body Q ws keep Inv (.int n t) news₁ h tk)
    (done : ∀ m₁ news₁ h tk, Inv m₁ news₁ → Fr h₀ env.locals h m₁ → News h₀ env.locals h news₁ → Q .next { s with heap := h, toks := tk }) :
    ∀ {vs : List Value} {ns : List Int} {m : Str → Option Value} {news : List (Addr × Obj)}, IntsAre vs ns → (∀ n ∈ ns, P n) → Inv m news → ItemsRest prog w A E h₀ env target body Q s ws keep (vs.map .val) m news
  | [], _, m, news, _, _, hi => fun h tk F N => done m news h tk hi F N
  | v :: vs, _, m, news, hv, hp, hi => by
    cases hv with
    | cons n t hr =>
      exact ItemsRest.val fun h tk F => turn_mono (fun m' n' i' => int_itemsP P Inv turn done hr (fun k hk => hp k (.tail _ hk)) i') (turn n t m news h tk (hp n (.head _)) hi F)

theorem draws_loop {ax : Addr} {vs : List Value} {ns : List Int} {n : Nat} {led : List (Addr × Obj)} {m₀ : Str → Option Value} (stored : List Str) (hh : A.handled = none) (F : Fr h₀ env.locals s.heap m₀) (N : News h₀ env.locals s.heap led)
    (hm : (ax, listOf vs.toArray n) ∈ led) (hi : IntsAre vs ns)
    (turn : ∀ k t (u : Str → Option Value) h tk I o, AllBelow I led → o.cls = .type "list_iterator" → Fr h₀ env.locals h (fun z => if stored.contains z = true then u z else m₀ z) → News h₀ env.locals h ((I, o) :: led) →
      wpAny (model prog w) A (assign target env (.int k t)) (fun _ s₂ => wpAny (model prog w) A (execs body env) (UnrPostW h₀ env.locals { s with heap := h, toks := tk } [(I, o)] (fun m' n' => SubL [(ax, listOf vs.toArray n)] n' ∧ InvF m₀ stored led m' n') Q) E s₂) E { s with heap := h, toks := tk })
    (done : ∀ (u : Str → Option Value) h tk, Fr h₀ env.locals h (fun z => if stored.contains z = true then u z else m₀ z) → News h₀ env.locals h led → Q .next { s with heap := h, toks := tk }) :
    wpAny (model prog w) A (pyIter (.ref ax)) (fun it s₂ => TurnsAt prog w A h₀ env target body Q E it s₂) E s := by
  refine iter_listTurns hh F N hm rfl rfl fun I hI => ?_
  refine int_itemsP (fun _ => True) (InvF m₀ stored led) ?_ ?_ hi (fun _ _ => trivial) ⟨m₀, by funext z; simp, rfl⟩
  · rintro k t m₁ news₁ h tk - ⟨u, rfl, rfl⟩ F₁
    exact fun o ho N₁ => turn k t u h tk I o hI ho F₁ N₁
  · rintro m₁ news₁ h tk ⟨u, rfl, rfl⟩ F₁ N₁
    exact done u h tk F₁ N₁

theorem three_loop {ax : Addr} {a b c : Int} {t1 t2 t3 : Tok} {n : Nat} {led : List (Addr × Obj)} {m₀ : Str → Option Value} (P : Int → Prop) (stored : List Str) (hh : A.handled = none) (F : Fr h₀ env.locals s.heap m₀)
    (N : News h₀ env.locals s.heap led)
    (hm : (ax, ({ cls := .type "tuple", data := .seq #[.int a t1, .int b t2, .int c t3] n } : Obj)) ∈ led) (ha : P a) (hb : P b) (hc : P c)
    (turn : ∀ k t (u : Str → Option Value) h tk I o, P k → AllBelow I led → o.cls = .type "tuple_iterator" → Fr h₀ env.locals h (fun z => if stored.contains z = true then u z else m₀ z) → News h₀ env.locals h ((I, o) :: led) →
      wpAny (model prog w) A (assign target env (.int k t)) (fun _ s₂ => wpAny (model prog w) A (execs body env) (UnrPostW h₀ env.locals { s with heap := h, toks := tk } [(I, o)] (fun m' n' => SubL [(ax, ({ cls := .type "tuple", data := .seq #[.int a t1, .int b t2, .int c t3] n } : Obj))] n' ∧ InvF m₀ stored led m' n') Q) E s₂) E { s with heap := h, toks := tk })
    (done : ∀ (u : Str → Option Value) h tk, Fr h₀ env.locals h (fun z => if stored.contains z = true then u z else m₀ z) → News h₀ env.locals h led → Q .next { s with heap := h, toks := tk }) :
    wpAny (model prog w) A (pyIter (.ref ax)) (fun it s₂ => TurnsAt prog w A h₀ env target body Q E it s₂) E s := by
  refine iter_tupTurns hh F N hm rfl (vs := [.int a t1, .int b t2, .int c t3]) rfl fun I hI => ?_
  refine int_itemsP P (InvF m₀ stored led) ?_ ?_ (ns := [a, b, c]) (.cons _ _ (.cons _ _ (.cons _ _ .nil))) (fun k hk => ?_) ⟨m₀, by funext z; simp, rfl⟩
  · rintro k t m₁ news₁ h tk hk ⟨u, rfl, rfl⟩ F₁
    exact fun o ho N₁ => turn k t u h tk I o hk hI ho F₁ N₁
  · rintro m₁ news₁ h tk ⟨u, rfl, rfl⟩ F₁ N₁
    exact done u h tk F₁ N₁
  · rcases List.mem_cons.mp hk with rfl | hk
    · exact ha
    · rcases List.mem_cons.mp hk with rfl | hk
      · exact hb
      · rw [List.mem_singleton.mp hk]; exact hc

theorem loop_end {m₀ m' : Str → Option Value} {stored : List Str} {h' : Heap} {L I : Addr} {o : Obj} {p0 : Addr × Obj} {led all : List (Addr × Obj)} {s₁ : Shared} {tk : Nat}
    (hlt : AllBelow I led) (F : Fr h₀ L h' m') (N : News h₀ L h' all) (hm : ∀ z, stored.contains z = false → m' z = m₀ z) (hI : (I, o) ∈ all) (hl : ∀ p ∈ led, p ∈ all) (h0 : p0 ∈ led) :
    UnrEndW h₀ L s₁ [(I, o)] (fun m' nn => SubL [p0] nn ∧ InvF m₀ stored led m' nn) { s₁ with heap := h', toks := tk } := by
  refine turn_end led F N (fun p hp => by rw [List.mem_singleton.mp hp]; exact hI) hl (fun p hp q hq => .inl ?_) ⟨h0, trivial⟩ ⟨m', forget hm, rfl⟩
  rw [List.mem_singleton.mp hq]
  exact Nat.ne_of_lt (hlt p hp)
end

def Found (C : List (Int × Int × Str)) (n : Int) (y : Str) : Prop := find n C = some y
section
variable {prog : Program} {w : World} {A : Around} {E : Value → Shared → Prop} {s : Shared} {env : Env} {n : Int} {tk : Tok}
theorem chain_at {Q : Flow → Shared → Prop} {y : Str} {C : List (Int × Int × Str)} (x : Str) (l : List Stmt) (hf : Found C n y)
    (hload : ∀ (j : Nat) (pos : Pos) (Q : Value → Shared → Prop), Q (.int n tk) { s with toks := j } → wpAny (model prog w) A (eval (.Name x pos) env) Q E { s with toks := j })
    (hl : (l.take C.length).map rowOf = C.map (fun c => some (x, c.1, c.2.1, c.2.2)))
    (h : ∀ t j, Q (.ret (.str y t)) { s with toks := j }) : wpAny (model prog w) A (execs l env) Q E s := by
  have := chainW (Q := Q) (l.drop C.length) hload h C (l.take C.length) s.toks hl hf
  rw [List.take_append_drop] at this
  exact this
end


def RowIx (rows : List (Int × Str)) (r : Int) : Prop := 0 ≤ r ∧ r < (rows.length : Int) ∧ rows.length ≤ 1000 ∧ rowF rows r < past rows r
theorem fits_at {C : List (Int × Int × Str)} {rows : List (Int × Str)} (h : fits C rows = true) {r : Int} (h0 : 0 ≤ r) (h1 : r < (rows.length : Int)) :
    rowF rows r < past rows r ∧ 0 ≤ rowF rows r ∧ past rows r ≤ 65536 ∧ ∀ k, rowF rows r ≤ k → k < past rows r → Found C k (rowS rows r) := by
  have hi := List.all_eq_true.mp h r.toNat (List.mem_range.mpr (by omega))
  have hp : (bif Nat.blt (r.toNat + 1) rows.length then (rows.getD (r.toNat + 1) (0, Str.ofString "")).1 else 65536) = past rows r := by
    unfold past rowF
    by_cases hc : r + 1 < (rows.length : Int)
    · rw [if_pos hc, show Nat.blt (r.toNat + 1) rows.length = true from Nat.ble_eq_true_of_le (by omega), show (r + 1).toNat = r.toNat + 1 by omega]; rfl
    · rw [if_neg hc]
      have hb : Nat.blt (r.toNat + 1) rows.length = false := by
        cases e : Nat.blt (r.toNat + 1) rows.length with
        | false => rfl
        | true =>
          have : r.toNat + 1 < rows.length := Nat.le_of_ble_eq_true e
          omega
      rw [hb]; rfl
  rw [hp] at hi
  simp only [Bool.and_eq_true, decide_eq_true_eq] at hi
  obtain ⟨⟨⟨ha, h2⟩, h3⟩, h4⟩ := hi
  exact ⟨h2, h3, h4, fun k hk1 hk2 => agree_find ha k hk1 (by omega)⟩
theorem lenD : rowsD.length = 50 := by simpa using rowsD_len
theorem ixD (n : Int) : RowIx rowsD (Int.fmod n 50) := by
  have h1 := Int.fmod_nonneg_of_pos n (b := 50) (by decide)
  have h2 := Int.fmod_lt_of_pos n (b := 50) (by decide)
  have hl : (rowsD.length : Int) = 50 := by rw [lenD]; rfl
  exact ⟨h1, by omega, by rw [lenD]; decide, (fits_at fitsD h1 (by omega)).1⟩
theorem ixR (n : Int) : RowIx routRows (Int.fmod n 12) := by
  have h1 := Int.fmod_nonneg_of_pos n (b := 12) (by decide)
  have h2 := Int.fmod_lt_of_pos n (b := 12) (by decide)
  have hl : (routRows.length : Int) = 12 := by rw [rout_len]; rfl
  exact ⟨h1, by omega, by rw [rout_len]; decide, (fits_at fitsR h1 (by omega)).1⟩
/-- a number of the row: its text is found, and it is no number to refuse -/
def Hit (C : List (Int × Int × Str)) (rows : List (Int × Str)) (r k : Int) : Prop := Found C k (rowS rows r) ∧ 0 ≤ k ∧ k ≤ 65535
theorem hit_of {C : List (Int × Int × Str)} {rows : List (Int × Str)} (h : fits C rows = true) {r : Int} (x : RowIx rows r) {k : Int} (h1 : rowF rows r ≤ k) (h2 : k < past rows r) : Hit C rows r k := by
  obtain ⟨_, a, b, c⟩ := fits_at h x.1 x.2.1
  exact ⟨c k h1 h2, by omega, by omega⟩
theorem hit_first {C : List (Int × Int × Str)} {rows : List (Int × Str)} (h : fits C rows = true) {r : Int} (x : RowIx rows r) : Hit C rows r (rowF rows r) := hit_of h x (Int.le_refl _) x.2.2.2
theorem hit_last {C : List (Int × Int × Str)} {rows : List (Int × Str)} (h : fits C rows = true) {r : Int} (x : RowIx rows r) : Hit C rows r (past rows r - 1) := hit_of h x (by have := x.2.2.2; omega) (by omega)
theorem hit_mid {C : List (Int × Int × Str)} {rows : List (Int × Str)} (h : fits C rows = true) {r : Int} (x : RowIx rows r) (n : Int) : Hit C rows r (rowF rows r + Int.fmod n (past rows r - rowF rows r)) := by
  have hp : 0 < past rows r - rowF rows r := by have := x.2.2.2; omega
  have h1 := Int.fmod_nonneg_of_pos n hp
  have h2 := Int.fmod_lt_of_pos n hp
  exact hit_of h x (by omega) (by omega)

section
variable {prog : Program} {w : World} {A : Around} {E : Value → Shared → Prop} {s : Shared} {K : Frag} {L : Addr} {h₀ : Heap} {m : Str → Option Value} {news NT : List (Addr × Obj)} {vs : List Value} {rows : List (Int × Str)}
theorem cut_int (P : Int) {tree : Sem Value} {Q : Value → Shared → Prop} (h : wpAny (model prog w) A tree (fun v s' => ∃ t k, v = .int P t ∧ s' = { s with toks := k }) E s) (hQ : ∀ t k, Q (.int P t) { s with toks := k }) :
    wpAny (model prog w) A tree Q E s := wpAny_mono h (by rintro v s' ⟨t, k, rfl, rfl⟩; exact hQ t k) fun _ _ e => e
theorem row_len {l : Addr} {n : Nat} {Q : Value → Shared → Prop} (N : News h₀ L s.heap news) (T : Tab K NT vs rows) (hl : (l, listOf vs.toArray n) ∈ news) (hz : rows.length ≤ 1000) (h : ∀ t k, Q (.int rows.length t) { s with toks := k }) :
    wpAny (model prog w) A (call (.builtin "len") [.ref l]) Q E s := by
  have hL : s.heap.IsList l vs.toArray := ⟨_, (N _ hl).1, rfl, n, rfl⟩
  have e : vs.toArray.size = rows.length := by rw [List.size_toArray]; exact T.length
  exact call_len_list hL (by rw [e]; omega) (by rw [e]; exact h _ _)
theorem past_next {r : Int} (h : r + 1 < (rows.length : Int)) : rowF rows (r + 1) = past rows r := by unfold past; rw [if_pos h]
theorem past_last {r : Int} (h : ¬ r + 1 < (rows.length : Int)) : 65536 = past rows r := by unfold past; rw [if_neg h]
end

theorem cut_past {prog : Program} {w : World} {A : Around} {E : Value → Shared → Prop} {s : Shared} {rows : List (Int × Str)} {r : Int} (_h : RowIx rows r) {tree : Sem Value} {Q : Value → Shared → Prop}
    (h : wpAny (model prog w) A tree (fun v s' => ∃ t k, v = .int (past rows r) t ∧ s' = { s with toks := k }) E s) (hQ : ∀ t k, Q (.int (past rows r) t) { s with toks := k }) : wpAny (model prog w) A tree Q E s := cut_int _ h hQ

section
variable {prog : Program} {w : World} {A : Around} {E : Value → Shared → Prop} {s : Shared} {env : Env} {h₀ : Heap} {target : PySem.Expr} {body : List Stmt} {Q : Flow → Shared → Prop}
theorem row_loop {ax : Addr} {C : List (Int × Int × Str)} {rows : List (Int × Str)} {r d : Int} {t1 t2 t3 : Tok} {n : Nat} {led : List (Addr × Obj)} {m₀ : Str → Option Value} (stored : List Str) (hf : fits C rows = true) (hx : RowIx rows r)
    (hh : A.handled = none) (F : Fr h₀ env.locals s.heap m₀) (N : News h₀ env.locals s.heap led)
    (hm : (ax, ({ cls := .type "tuple", data := .seq #[.int (rowF rows r) t1, .int (past rows r - 1) t2, .int (rowF rows r + Int.fmod d (past rows r - rowF rows r)) t3] n } : Obj)) ∈ led)
    (turn : ∀ k t (u : Str → Option Value) h tk I o, Found C k (rowS rows r) → 0 ≤ k → k ≤ 65535 → AllBelow I led → o.cls = .type "tuple_iterator" → Fr h₀ env.locals h (fun z => if stored.contains z = true then u z else m₀ z) → News h₀ env.locals h ((I, o) :: led) →
      wpAny (model prog w) A (assign target env (.int k t)) (fun _ s₂ => wpAny (model prog w) A (execs body env) (UnrPostW h₀ env.locals { s with heap := h, toks := tk } [(I, o)] (fun m' n' => SubL [(ax, ({ cls := .type "tuple", data := .seq #[.int (rowF rows r) t1, .int (past rows r - 1) t2, .int (rowF rows r + Int.fmod d (past rows r - rowF rows r)) t3] n } : Obj))] n' ∧ InvF m₀ stored led m' n') Q) E s₂) E { s with heap := h, toks := tk })
    (done : ∀ (u : Str → Option Value) h tk, Fr h₀ env.locals h (fun z => if stored.contains z = true then u z else m₀ z) → News h₀ env.locals h led → Q .next { s with heap := h, toks := tk }) :
    wpAny (model prog w) A (pyIter (.ref ax)) (fun it s₂ => TurnsAt prog w A h₀ env target body Q E it s₂) E s :=
  three_loop (Hit C rows r) stored hh F N hm (hit_first hf hx) (hit_last hf hx) (hit_mid hf hx d) (fun k t u h tk I o hk hI ho F₁ N₁ => turn k t u h tk I o hk.1 hk.2.1 hk.2.2 hI ho F₁ N₁) done
end

theorem ne_same {prog : Program} {w : World} {A : Around} {E : Value → Shared → Prop} {s : Shared} {x : Str} {t u : Tok} {Q : Value → Shared → Prop} (h : Q (.bool false) s) : wpAny (model prog w) A (compareOp .NotEq (.str x t) (.str x u)) Q E s :=
  PyProof.Rows.ne_str (by simpa using h)

theorem tab_ofX {K : Frag} {h : Heap} (_X : K.In h) (vs : List Value) (rows : List (Int × Str)) (e : vs.map (rowIn K) = rows.map some) : Tab K [] vs rows := tab_of e

theorem abs_some {prog : Program} {w : World} {A : Around} {E : Value → Shared → Prop} {s : Shared} {a : Int} {t : Tok} {Q : Value → Shared → Prop} (h : ∀ (m : Int) u tk, 0 ≤ m → Q (.int m u) { s with toks := tk }) :
    wpAny (model prog w) A (call (.builtin "abs") [.int a t]) Q E s := PyProof.Rows.call_abs_int fun u tk => h _ u tk (by split <;> omega)
theorem ix6 (n : Int) : 0 ≤ Int.fmod n 6 ∧ Int.fmod n 6 < 6 := ⟨Int.fmod_nonneg_of_pos n (b := 6) (by decide), Int.fmod_lt_of_pos n (b := 6) (by decide)⟩

theorem six_item {prog : Program} {w : World} {A : Around} {E : Value → Shared → Prop} {s : Shared} {a : Addr} {v0 v1 v2 v3 v4 v5 : Value} {k : Int} {u : Tok} {value slice : PySem.Expr} {Q : Value → Shared → Prop} (ht : IsTup s.heap a [v0, v1, v2, v3, v4, v5].toArray) (hk : 0 ≤ k ∧ k < 6)
    (h0 : Q v0 s) (h1 : Q v1 s) (h2 : Q v2 s) (h3 : Q v3 s) (h4 : Q v4 s) (h5 : Q v5 s)
    (hsb : subscripted slice false (.ref a) (.int k u) = operate [.ref a, .int k u] (getItem (.ref a) (.int k u)) := by with_unfolding_all rfl) :
    wpAny (model prog w) A (subscriptTail value slice (.ref a) (.int k u)) Q E s := by
  obtain ⟨ha, hb⟩ := hk
  have hc : k = 0 ∨ k = 1 ∨ k = 2 ∨ k = 3 ∨ k = 4 ∨ k = 5 := by omega
  rcases hc with rfl | rfl | rfl | rfl | rfl | rfl
  · exact item_tupleT ht (by decide) (by decide) rfl rfl h0 hsb
  · exact item_tupleT ht (by decide) (by decide) rfl rfl h1 hsb
  · exact item_tupleT ht (by decide) (by decide) rfl rfl h2 hsb
  · exact item_tupleT ht (by decide) (by decide) rfl rfl h3 hsb
  · exact item_tupleT ht (by decide) (by decide) rfl rfl h4 hsb
  · exact item_tupleT ht (by decide) (by decide) rfl rfl h5 hsb
end Mine

namespace Mine
section
variable {prog : Program} {w : World} {A₀ A : Around} {s : Shared} {base h₀ : Heap} {L : Addr} {env : Env} {m : Str → Option Value} {news : List (Addr × Obj)} {K : Frag} {p : Program} {loose : List Str} {mean : ExcName → Option Value} {mg mb : Str → Option Value}
    {R : Result → Shared → Prop} {name qual : Str} {params : Arguments} {body : List Stmt} {scope : Scope} {dV kV doc pm cdv ct oc : Value} {an od : Option Addr} {osl : Array (Option Value)} {f : Addr} {args : Args} {binds : List (Str × Value)}
/-- a call from the outermost frame, whatever its cells, into a def that catches -/
theorem enter_try (B : Below A₀ base [] h₀) (F : Fr h₀ L s.heap m) (X₀ : K.In h₀) (N : News h₀ L s.heap news) (T : Top p loose mean mg mb h₀) (hA : A.frames = some [env]) (hf : env.frame = some L) (hke : env.scope.kind = .function)
    (ho : K.lookup f = some ⟨oc, od, .func (fnOf name qual params body scope dV kV doc pm an cdv ct), osl⟩) (hcd : codeIn K cdv qual = true) (hroom : A.depth < recursionLimit)
    (hbind : BindsTo s (fnOf name qual params body scope dV kV doc pm an cdv ct) args binds) (hloc : ∀ y ∈ binds, scope.names.lookup y.1 = some .local)
    (h : ∀ g L' h₁, Fr h₀ L g m → Fr g L' h₁ (fun y => binds.reverse.lookup y) → News g L' h₁ news → Below A base [env] g → K.In g → Top p loose mean mg mb g → KtsDicts ([env].filterMap (·.frame)) g →
      wpAny (model prog w) (A.deeper (envOf qual scope L' f cdv)) (execs body (envOf qual scope L' f cdv))
        (fun fl s' => LeaveS0 ([env].filterMap (·.frame)) h₀ L m g R (match fl with | .ret v => v | _ => .none) s')
        (fun e s' => wpAny (model prog w) (A.deeper (envOf qual scope L' f cdv)) (leaving (envOf qual scope L' f cdv) e) (fun _ s'' => R (.error e) s'') (fun e' s'' => R (.error e') s'') s')
        { s with heap := h₁, toks := s.toks + binds.length })
    (hco : scope.isCoroutine = false) (hgen : scope.isGenerator = false) (hk : scope.kind = .function)
    (hcell : ∀ x ∈ scope.names, x.2 ≠ .cell) : codeAny (model prog w) A (.call (.ref f) args) R s := by
  have X := X₀.keeps F.keep
  obtain ⟨FG, BG, st, _⟩ := groundX (R := R) B F N hA hf hke
  have hfr : [env].filterMap (·.frame) = [L] := by simp [hf]
  obtain ⟨oL, es, ep, hLg, hLd, hLk, hLf⟩ := FG.ns
  refine codeAny_call_def (fd := fnOf name qual params body scope dV kV doc pm an cdv ct) (body := body) (binds := binds) hroom (X _ _ ho) rfl (T.nolimit.keeps F.keep) (codeRec_of X hcd) rfl hbind hcell hloc (fun h₁ hns hk₁ => ?_) hco hgen hk
  refine wpAny_mono (h _ s.heap.objs.size h₁ FG ⟨hns, fun b o e => hk₁ b o (of_hideAll _ e), Nat.le_of_eq (hideAll_size _ _)⟩
    (fun p hp => ⟨hk₁ _ _ (N p hp).1, Nat.ne_of_lt (Heap.lt_size (N p hp).1), hideAll_none _ (List.mem_map_of_mem hp)⟩) BG (X₀.keeps st) (T.keeps st) (fun b hb => ?_)) (fun fl s' hl => ?_) fun _ _ y => y
  · rw [hfr] at hb
    rw [List.mem_singleton.mp hb]
    exact ⟨oL, es, ep, hLg, hLd⟩
  · obtain ⟨g', L', m', news', T', F', N', k⟩ := hl
    obtain ⟨sl, hs⟩ := T'.up hLg
    have nL : h₀.get? L = none := kts_self F
    refine k ⟨⟨_, es, ep, F'.keep _ _ hs, hLd, hLk, hLf⟩, fun b o e => ?_, F.above⟩ fun q hq => ⟨(N' q hq).1, fun z => ?_, ?_⟩
    · refine F'.keep b o (T'.other b o (st b o e) fun hm => ?_)
      rw [hfr] at hm
      rw [List.mem_singleton.mp hm, nL] at e
      cases e
    · have h1 := (N' q hq).2.2
      rw [z, hs] at h1
      cases h1
    · cases z : h₀.get? q.1 with
      | none => rfl
      | some o =>
        obtain ⟨sl', hs'⟩ := T'.up (st _ _ z)
        have h1 := (N' q hq).2.2
        rw [hs'] at h1
        cases h1
end

theorem sub_bytes_int : isSubtype (.type "bytes") (.type "int") = pure false := by rw [isSubtype_type]; kernel_rfl
theorem bytes_int {prog : Program} {w : World} {A : Around} {E : Value → Shared → Prop} {s : Shared} {y : Array UInt8} {u : Tok} {Q : Value → Shared → Prop} (h : Q (.bool false) { s with toks := s.toks + 1 }) :
    wpAny (model prog w) A (call (.builtin "isinstance") [.bytes y u, .type "int"]) Q E s := by
  obtain ⟨hh, g, d, t, os⟩ := s
  exact PyProof.Rows.call_isinstance_of (PySem.isinstance_nested_false_bytes (by decide +kernel) PySem.F.isi_meta_int sub_bytes_int h) (by intro e; cases e)
end Mine

namespace Mine
section
variable {K : Frag} {NT : List (Addr × Obj)}
theorem Tab.drop : ∀ {vs : List Value} {rows : List (Int × Str)}, Tab K NT vs rows → ∀ k : Nat, Tab K NT (vs.drop k) (rows.drop k)
  | _, _, .nil, k => by simpa using Tab.nil
  | _, _, .cons a r, 0 => .cons a r
  | _, _, .cons _ r, k + 1 => r.drop k
theorem Tab.take : ∀ {vs : List Value} {rows : List (Int × Str)}, Tab K NT vs rows → ∀ k : Nat, Tab K NT (vs.take k) (rows.take k)
  | _, _, .nil, k => by simpa using Tab.nil
  | _, _, .cons _ _, 0 => .nil
  | _, _, .cons a r, k + 1 => .cons a (r.take k)
end
theorem mid_is : (rowsD.drop 5).take 32 = wrows := by
  have h1 : wrows.length = 32 := by
    have hW : Ws.length = 32 := by simpa using Ws_len
    unfold wrows; rw [List.length_map, List.length_zipIdx, hW]
  unfold rowsD
  rw [List.append_assoc, ← low_len, List.drop_left, ← h1, List.take_left]
theorem map_at {α β : Type} (f : α → β) (d : α) {l : List α} {i : Nat} (h : i < l.length) : (l.map f)[i]? = some (f (l.getD i d)) := by
  rw [List.getElem?_map, List.getD_eq_getElem?_getD, List.getElem?_eq_getElem h]
  rfl
abbrev named : List Int := [61824, 61825, 61826, 61827, 61828, 61829, 61830, 61831, 61832, 61833, 61834, 61835, 61836, 61837, 61838, 61839, 61840, 61841, 61842, 61843, 61844, 61845, 61846, 61847, 61848, 61849, 61850, 61851, 61852, 61853, 61854, 61855]
theorem mid_nums : wrows.map (·.1) = named := by
  have hW : Ws.length = 32 := by simpa using Ws_len
  have e : wrows.map (·.1) = (Ws.zipIdx.map (·.2)).map fun (i : Nat) => 61824 + (i : Int) := by
    unfold wrows
    rw [List.map_map, List.map_map]
    rfl
  rw [e, List.zipIdx_map_snd, hW]
  decide

section
variable {prog : Program} {w : World} {A : Around} {E : Value → Shared → Prop} {s : Shared} {K : Frag} {L : Addr} {h₀ : Heap} {m : Str → Option Value} {news NT : List (Addr × Obj)} {vs : List Value}
theorem rows_slice {l : Addr} {n : Nat} {t u : Tok} {value slice : PySem.Expr} {Q : Value → Shared → Prop} (F : Fr h₀ L s.heap m) (N : News h₀ L s.heap news) (T : Tab K NT vs rowsD) (hl : (l, listOf vs.toArray n) ∈ news)
    (h : ∀ D h' zs, Fr h₀ L h' m → News h₀ L h' ((D, listOf zs.toArray 0) :: news) → (∀ p ∈ news, p.1 < D) → Tab K NT zs wrows → Q (.ref D) { s with heap := h' })
    (hs : subscripted slice false (.ref l) (.ref s.heap.objs.size) = operate [.ref s.heap.objs.size, .ref l] (getItem (.ref l) (.ref s.heap.objs.size))) (ht : ∀ r, letTemporaryGo value (.ref l) r = pure ()) :
    wpAny (model prog w) A (subscriptTail value slice (.ref l) (.ref s.heap.objs.size)) Q E { s with heap := s.heap.push { cls := .type "slice", data := .fields #[.int 5 t, .int 37 u, .none] } } := by
  have hz : vs.length = 50 := by rw [T.length, lenD]
  have hL : s.heap.IsList l vs.toArray := ⟨_, (N _ hl).1, rfl, n, rfl⟩
  have e : kms_pick vs.toArray.toList (some 5) (some 37) = (vs.drop 5).take 32 := by
    show (vs.drop (kms_lo (some 5) vs.length)).take (kms_hi (some 37) vs.length - kms_lo (some 5) vs.length) = _
    rw [hz]
    rfl
  have T2 : Tab K NT ((vs.drop 5).take 32) wrows := mid_is ▸ (T.drop 5).take 32
  exact kms_slice_lit F N hL (IsPart.int _ _) (IsPart.int _ _) e (fun D h' F' N' l1 => h D h' _ F' N' l1 T2) hs ht (by rw [List.size_toArray, hz, sizeLine_eq]; decide)

theorem ne_ints {a b : Addr} {vs us : List Value} {ns : List Int} {n k : Nat} {Q : Value → Shared → Prop} (N : News h₀ L s.heap news) (hl : (a, listOf vs.toArray n) ∈ news) (hi : IntsAre vs ns) (hl' : (b, listOf us.toArray k) ∈ news) (hi' : IntsAre us ns) (hu : A.units + 64 < cLine)
    (h : Q (.bool false) s) : wpAny (model prog w) A (compareOp .NotEq (.ref a) (.ref b)) Q E s :=
  ne_intsK ⟨_, (N _ hl).1, rfl, n, rfl⟩ hi ⟨_, (N _ hl').1, rfl, k, rfl⟩ hi' hu (by simpa using h)
theorem eq_ints {a b : Addr} {vs us : List Value} {ns : List Int} {n k : Nat} {Q : Value → Shared → Prop} (N : News h₀ L s.heap news) (hl : (a, listOf vs.toArray n) ∈ news) (hi : IntsAre vs ns) (hl' : (b, listOf us.toArray k) ∈ news) (hi' : IntsAre us ns) (hu : A.units + 64 < cLine)
    (h : Q (.bool true) s) : wpAny (model prog w) A (compareOp .Eq (.ref a) (.ref b)) Q E s :=
  eq_intsK ⟨_, (N _ hl).1, rfl, n, rfl⟩ hi ⟨_, (N _ hl').1, rfl, k, rfl⟩ hi' hu (by simpa using h)
end

section
variable {prog : Program} {w : World} {A : Around} {E : Value → Shared → Prop} {s : Shared} {K : Frag} {L : Addr} {h₀ : Heap} {m : Str → Option Value} {led NT : List (Addr × Obj)} {env : Env} {elt : PySem.Expr} {x : Str} {scope : Scope} {cl : List (Str × Addr)}

/-- one turn of a block whose element is an int and which changes no object -/
abbrev EltTurn (prog : Program) (w : World) (A : Around) (s : Shared) (env : Env) (elt : PySem.Expr) (x : Str) (scope : Scope) (cl : List (Str × Addr)) (h₀ : Heap) (L : Addr) (m : Str → Option Value) (led : List (Addr × Obj)) (P : Value → Int → Prop) : Prop :=
  ∀ v f I oI C oC D ys m₂ h tk (E' : Value → Shared → Prop), P v f → LCg.NsObj oC m₂ → m₂ x = some v → Fr h₀ L h m → News h₀ L h ((I, oI) :: (C, oC) :: (D, LCg.lst ys) :: led) →
    wpAny (model prog w) A (eval elt (compEnvC scope cl C env)) (fun y s₂ => ∃ t k, y = .int f t ∧ s₂ = { s with heap := h, toks := k }) E' { s with heap := h, toks := tk }

theorem comp_fixed {its : List Value} {fs : List Int} {P : Value → Int → Prop} {S : List (Addr × Obj) → Prop} {Fin : List Value → List (Addr × Obj) → Prop} (hS : S led) (hP : ∀ (i : Nat) v, its[i]? = some v → ∃ f, fs[i]? = some f ∧ P v f) (hlen : fs.length = its.length)
    (turn : EltTurn prog w A s env elt x scope cl h₀ L m led P) (fin : ∀ ys, IntsAre ys fs → Fin ys led) :
    ∀ (k i : Nat) (ys : List Value), i + k = its.length → IntsAre ys (fs.take i) → LCg.CompRest prog w A h₀ L m env elt x scope cl s S (fun i v => its.toArray[i]? = some v) Fin k i ys led
  | 0, i, ys, hk, hy => LCg.CompRest.zero (fin ys (by rwa [List.take_of_length_le (by omega)] at hy))
  | k + 1, i, ys, hk, hy => LCg.CompRest.succ fun v I oI C oC D m₂ h tk E' hv hC hx F N off ne => by
    obtain ⟨f, hf, hp⟩ := hP i v (by simpa using hv)
    refine wpAny_mono (turn v f I oI C oC D ys m₂ h tk E' hp hC hx F N) ?_ fun _ _ e => e
    rintro y s₂ ⟨t, k', rfl, rfl⟩
    refine LCg.CompEnd.intro F N led (fun p hp => hp) off hS (comp_fixed hS hP hlen turn fin k (i + 1) _ (by omega) ?_)
    rw [List.take_add_one, hf]
    exact IntsAre.append hy (.cons f t .nil)

theorem comp_rows {Fin : Shared → List Value → List (Addr × Obj) → Prop} {ax : Addr} {zs : List Value} {n : Nat} (hh : A.handled = none) (F : Fr h₀ L s.heap m) (X₀ : K.In h₀) (N : News h₀ L s.heap led) (T : Tab K NT zs wrows) (hl : (ax, listOf zs.toArray n) ∈ led) (hs : ∀ p ∈ NT, p ∈ led)
    (turn : ∀ a f y t1 t2 I oI C oC D ys m₂ h tk (E' : Value → Shared → Prop), IsTup h a [.int f t1, .str y t2].toArray → LCg.NsObj oC m₂ → m₂ x = some (.ref a) → Fr h₀ L h m → News h₀ L h ((I, oI) :: (C, oC) :: (D, LCg.lst ys) :: led) →
      wpAny (model prog w) A (eval elt (compEnvC scope cl C env)) (fun y s₂ => ∃ t k, y = .int f t ∧ s₂ = { s with heap := h, toks := k }) E' { s with heap := h, toks := tk })
    (fin : ∀ g ys, IntsAre ys named → Fin { s with heap := g } ys led) : LCg.CompSrc prog w A h₀ L m env elt x scope cl Fin (.ref ax) s := by
  have hW : wrows.length = 32 := by
    have hW : Ws.length = 32 := by simpa using Ws_len
    unfold wrows; rw [List.length_map, List.length_zipIdx, hW]
  have hz : zs.length = 32 := by rw [T.length, hW]
  refine LCg.CompSrc.ledger hh F N (its := zs.toArray) (k := n) hl (by rw [List.size_toArray, hz, sizeLine_eq]; decide) fun g => ?_
  refine comp_fixed (its := zs) (fs := named) (P := fun v f => ∃ y, RowAt K NT v f y) (.inr ⟨_, hl, rfl, _, rfl⟩) ?_ (by rw [hz]; rfl) ?_ (fin g) zs.toArray.size 0 [] (by simp) .nil
  · intro i v hv
    have hi : i < wrows.length := by
      rw [← T.length]
      exact (List.getElem?_eq_some_iff.mp hv).1
    obtain ⟨v', h1, h2⟩ := T.get i hi
    rw [hv] at h1
    cases h1
    refine ⟨_, ?_, _, h2⟩
    exact mid_nums ▸ map_at _ _ hi
  · rintro v f I oI C oC D ys m₂ h tk E' ⟨y, hr⟩ hC hx F' N'
    obtain ⟨a, t1, t2, rfl, ht⟩ := hr.tup (s := { s with heap := h, toks := tk }) (X₀.keeps F'.keep) N' fun p hp => .tail _ (.tail _ (.tail _ (hs p hp)))
    exact turn a f y t1 t2 I oI C oC D ys m₂ h tk E' ht hC hx F' N'

/-- a written tuple of ints as a block's source -/
def SrcT (prog : Program) (w : World) (A : Around) (h₀ : Heap) (L : Addr) (m : Str → Option Value) (env : Env) (elt : PySem.Expr) (x : Str) (scope : Scope) (cl : List (Str × Addr)) (Fin : Shared → List Value → List (Addr × Obj) → Prop) (xv : Value) (s₁ : Shared) : Prop :=
  ∃ ax its n news, xv = .ref ax ∧ A.handled = none ∧ Fr h₀ L s₁.heap m ∧ News h₀ L s₁.heap news ∧ (ax, ({ cls := .type "tuple", data := .seq its n } : Obj)) ∈ news ∧ its.size ≤ sizeLine ∧
    ∀ s₂ : Shared, (∃ h, s₂ = { s₁ with heap := h }) → LCg.CompRest prog w A h₀ L m env elt x scope cl s₂ (fun nn => (ax, ({ cls := .type "tuple", data := .seq its n } : Obj)) ∈ nn) (fun i v => its[i]? = some v) (Fin s₂) its.size 0 [] news

theorem comp_tuple {iter : PySem.Expr} {px : Pos} {pos : Pos} {Q : Value → Shared → Prop} (_F₀ : Fr h₀ L s.heap m)
    (hclos : closureFor scope env = pure cl) (hcell : ∀ y ∈ scope.names, y.2 ≠ .cell) (hkind : scope.kind = .function)
    (hnames : ∀ y ∈ scope.names, y.2 = .local → scope.names.lookup y.1 = some .local) (hx : scope.names.lookup x = some .local)
    (h : wpAny (model prog w) A (eval iter env) (SrcT prog w A h₀ L m env elt x scope cl (fun s₂ => LCg.FinE h₀ L m s₂ Q)) E s)
    (hs : ∀ x, foldedSetIterable iter env x = pure x := by intro _; rfl) :
    wpAny (model prog w) A (eval (.ListComp elt [⟨.Name x px, iter, [], 0⟩] scope pos) env) Q E s := by
  rw [eval_ListComp]
  refine wpAny_comprehension_free (use := none) rfl hs hclos hkind hnames (wpAny_mono h (fun xv s₁ h₁ => ?_) fun _ _ e => e)
  obtain ⟨ax, its, n, news, rfl, hh, F, N, hm, hsz, R⟩ := h₁
  have hl : s₁.heap.IsTuple ax its := ⟨_, (N _ hm).1, rfl, n, rfl⟩
  have hlt : ax < s₁.heap.objs.size := Heap.lt_size (N _ hm).1
  refine wpAny_pyIter_tuple hl ?_
  have up : ∀ b o, s₁.heap.get? b = some o → (s₁.heap.push { cls := .type "tuple_iterator", data := .fields #[.ref ax, .int 0 0] }).get? b = some o := fun b o e => Heap.get?_push_of_some _ e
  refine LCg.block_U (Walks.tuple hh s₁.heap.objs.size ax (Nat.ne_of_lt hlt) its) hsz (fun i h st => by obtain ⟨o, e, _⟩ := st.1; exact ⟨o, e⟩)
    (fun i h h' o nw st e e' k N S => ⟨by obtain ⟨o', q, r⟩ := st.1; rw [e] at q; cases q; exact ⟨o, e', r⟩, ⟨_, (N _ S).1, rfl, n, rfl⟩⟩) hcell hkind hx ⟨⟨_, Heap.get?_push_size _ rfl, rfl, rfl⟩, ⟨_, up _ _ (N _ hm).1, rfl, n, rfl⟩⟩ (fun b hb => ?_)
    (F.keeps up) (N.grown up) (Nat.ne_of_lt F.ns.lt) (next_is_new F) (fun p hp => Nat.ne_of_lt (Heap.lt_size (N p hp).1)) hm (R _ ⟨_, rfl⟩) ?_
  · show b < (s₁.heap.push _).objs.size
    rw [Heap.size_push]
    rcases List.mem_cons.mp hb with rfl | hb
    · exact Nat.lt_succ_self _
    · rw [List.mem_singleton.mp hb]; exact Nat.lt_succ_of_lt hlt
  · intro D C h tk m' ys news' F' N' o1 hn hC₀ hD₀ hCL hDL hCD offC fin
    refine ⟨m', hn, fun h'' hs'' => fin D h'' tk (F'.change hs'' hCL hC₀) (fun p hp => ?_) o1⟩
    refine ⟨hs''.extBut _ _ ?_ (N' p hp).1, (N' p hp).2⟩
    rcases List.mem_cons.mp hp with rfl | hp
    · exact Ne.symm hCD
    · exact offC p hp

theorem comp_picks {Fin : Shared → List Value → List (Addr × Obj) → Prop} {ax : Addr} {t1 t2 t3 t4 : Tok} {n : Nat} (hh : A.handled = none) (F : Fr h₀ L s.heap m) (N : News h₀ L s.heap led)
    (hl : (ax, ({ cls := .type "tuple", data := .seq [Value.int 4 t1, .int 8 t2, .int 9 t3, .int 10 t4].toArray n } : Obj)) ∈ led)
    (turn : ∀ k tk0 I oI C oC D ys m₂ h tk (E' : Value → Shared → Prop), RowIx routRows k → LCg.NsObj oC m₂ → m₂ x = some (.int k tk0) → Fr h₀ L h m → News h₀ L h ((I, oI) :: (C, oC) :: (D, LCg.lst ys) :: led) →
      wpAny (model prog w) A (eval elt (compEnvC scope cl C env)) (fun y s₂ => ∃ t j, y = .int (rowF routRows k) t ∧ s₂ = { s with heap := h, toks := j }) E' { s with heap := h, toks := tk })
    (fin : ∀ g ys, IntsAre ys [57856, 65280, 65281, 65282] → Fin { s with heap := g } ys led) : SrcT prog w A h₀ L m env elt x scope cl Fin (.ref ax) s := by
  refine ⟨ax, _, n, led, rfl, hh, F, N, hl, by rw [List.size_toArray, sizeLine_eq]; show 4 ≤ _; decide, ?_⟩
  rintro s₂ ⟨g, rfl⟩
  refine comp_fixed (its := [Value.int 4 t1, .int 8 t2, .int 9 t3, .int 10 t4]) (fs := [57856, 65280, 65281, 65282]) (P := fun v f => ∃ k t, v = .int k t ∧ RowIx routRows k ∧ rowF routRows k = f) hl (fun i v hv => ?_) rfl ?_ (fin g) 4 0 [] rfl .nil
  · have ix : ∀ k : Int, 0 ≤ k → k < 12 → RowIx routRows k := fun k a b => by
      have hl : (routRows.length : Int) = 12 := by rw [rout_len]; rfl
      exact ⟨a, by omega, by rw [rout_len]; decide, (fits_at fitsR a (by omega)).1⟩
    match i, hv with
    | 0, hv => cases hv; exact ⟨_, rfl, _, _, rfl, ix 4 (by decide) (by decide), by decide +kernel⟩
    | 1, hv => cases hv; exact ⟨_, rfl, _, _, rfl, ix 8 (by decide) (by decide), by decide +kernel⟩
    | 2, hv => cases hv; exact ⟨_, rfl, _, _, rfl, ix 9 (by decide) (by decide), by decide +kernel⟩
    | 3, hv => cases hv; exact ⟨_, rfl, _, _, rfl, ix 10 (by decide) (by decide), by decide +kernel⟩
    | i + 4, hv => exact absurd hv (by simp)
  · rintro v f I oI C oC D ys m₂ h tk E' ⟨k, t, rfl, hk, rfl⟩ hC hx F' N'
    exact turn k t I oI C oC D ys m₂ h tk E' hk hC hx F' N'
end
end Mine

local macro_rules | `(tactic| walk_at "subscriptTail BinOp Subscript Add List Slice ref ref") => `(tactic| (k_here; k_dflt (refine kba_turn (value' := PySem.Expr.Name (PySem.Str.ofString "_") ⟨0, 0, 0, 0⟩) (fun _ => rfl) ?_)))
local macro_rules | `(tactic| walk_at "call type:list cons nil") => `(tactic| (k_here; (with_reducible show wpAny _ _ (call (Value.type _) [Value.ref _]) _ _ _); (with_unfolding_all refine' list_copyKT ?k1 ?k2 (tupK ?kx ?kl) ?_ ?z; (case k1 => k_asm); (case k2 => k_asm); (case kx => k_in); (case kl => k_is); (case z => size_fits); k_whole); intro D' c' h' F' N' l1; (try k_lt l1); (try k_sweep)))
local macro_rules | `(tactic| walk_at "call builtin:str.split cons nil") => `(tactic| (k_here; (refine KSpl.split1 (by k_asm) (by k_asm) (by decide) ?_ (Mine.fits_of rfl)); intro D' l' h' k' e' a' F' N' l1; (try k_lt l1)))
local macro_rules | `(tactic| walk_at "exec For Tuple Call cons nil") => `(tactic| (k_here; (rename Fr _ _ _ _ => lF'); (with_unfolding_all refine' For_turns lF' ?_; k_whole)))
local macro_rules | `(tactic| k_all) => `(tactic| exact Mine.Above.out (by with_reducible assumption) (by omega))
local macro_rules | `(tactic| walk_at "call builtin:list.append cons nil") => `(tactic| (k_here; (with_reducible show wpAny _ _ (call (Value.builtin _) [Value.ref _, _]) _ _ _); k_dflt (refine' append_K ?k1 ?k2 ?k3 ?_ ?z; (case k1 => k_asm); (case k2 => k_asm); (case k3 => k_upd); (case z => (rename (List.length _ ≤ 950) => hv9; (rw [List.size_toArray, sizeLine_eq]; omega))); k_whole); intro h' F' N'; (try k_sweep)))
local macro_rules | `(tactic| walk_at "binaryOp Add str str") => `(tactic| (k_here; (rename (Mine.Ws[_]? = some _) => hx9); refine PyProof.Rows.add_str ?_ (Mine.word_fits hx9); intro _ _))
local macro_rules | `(tactic| walk_at "call builtin:list.extend cons nil") => `(tactic| (k_here; (with_reducible show wpAny _ _ (call (Value.builtin _) [Value.ref _, Value.ref _]) _ _ _); (rename Mine.Tab _ _ _ _ => hT9); (rename (List.length _ ≤ 1000) => hv9); k_dflt (refine' Mine.extend_top (rows2 := Mine.upRows) ?kF ?kX ?kN hT9 hv9 ?kb ?kt ?kne ?kz ?kU ?_; (case kF => k_asm); (case kX => k_asm); (case kN => k_asm); (case kb => k_is); (case kt => exact Mine.tab_of (by kernel_rfl)); (case kne => exact List.cons_ne_nil _ _); (case kz => decide); (case kU => k_upd)); intro h' F' N' hT'; (try k_sweep)))
local macro_rules | `(tactic| walk_at "exec For Name Call cons nil") => `(tactic| (k_here; (rename Fr _ _ _ _ => lF'); (with_unfolding_all refine' For_turns lF' ?_; k_whole)))
local macro_rules | `(tactic| walk_at "subscriptTail Name Name ref int") => `(tactic| (k_here; (rename Mine.RowIx _ _ => hx9); k_dflt (refine' Mine.row_item ?kF ?kX ?kN ?kT ?kl ?ks hx9.1 hx9.2.1 hx9.2.2.1 ?_; (case kF => k_asm); (case kX => k_asm); (case kN => k_asm); (case kl => k_mem); (case kT => assumption); (case ks => first | exact fun _ h => absurd h List.not_mem_nil | exact fun p hp => by repeat (first | exact hp | apply List.mem_cons_of_mem)); k_whole); intro a' t1' t2' hT'))
local macro_rules | `(tactic| walk_at "subscriptTail Name BinOp ref int") => `(tactic| (k_here; (rename Mine.RowIx _ _ => hx9); k_dflt (refine' Mine.row_item ?kF ?kX ?kN ?kT ?kl ?ks ?k0 ?k1 hx9.2.2.1 ?_; (case kF => k_asm); (case kX => k_asm); (case kN => k_asm); (case kl => k_mem); (case kT => assumption); (case ks => first | exact fun _ h => absurd h List.not_mem_nil | exact fun p hp => by repeat (first | exact hp | apply List.mem_cons_of_mem)); (case k0 => (have hx0 := hx9.1; omega)); (case k1 => first | assumption | omega | (simp_all; done)); k_whole); intro a' t1' t2' hT'))
local macro_rules | `(tactic| walk_at "subscriptTail Subscript") => `(tactic| (k_here; first | (refine Mine.row_first (by assumption) ?_) | (refine Mine.row_second (by assumption) ?_)))
local macro_rules | `(tactic| walk_at "eval IfExp") => `(tactic| (k_here; (rename Mine.RowIx _ _ => hx9); refine Mine.cut_past hx9 (wpAny_IfExp ?_) (fun t' k' => ?_)))
local macro_rules | `(tactic| walk_at "call builtin:len cons nil") => `(tactic| (k_here; (rename Mine.RowIx _ _ => hx9); k_dflt (refine' Mine.row_len ?kN ?kT ?kl hx9.2.2.1 ?_; (case kN => k_asm); (case kl => k_mem); (case kT => assumption); k_whole); intro t' k'))
local macro_rules | `(tactic| walk_at "Exists") => `(tactic| first | exact ⟨_, _, congrArg (fun z => Value.int z _) (Mine.past_next (by first | assumption | omega | (simp_all; done))), rfl⟩ | exact ⟨_, _, congrArg (fun z => Value.int z _) (Mine.past_last (by first | assumption | omega | (simp_all; done))), rfl⟩)
local macro_rules | `(tactic| walk_at "binaryOp Mod int int") => `(tactic| (k_here; (rename Mine.RowIx _ _ => hx9); k_dflt (refine PyProof.Rows.mod_int (fun e => absurd (Int.sub_eq_zero.mp e) (Int.ne_of_gt hx9.2.2.2)) ?_)))
local macro_rules | `(tactic| walk_at "execs cons If") => `(tactic| (k_here; (with_reducible show wpAny _ _ (execs (Stmt.If (PySem.Expr.BoolOp BoolOp.And _ _) _ _ _ :: _) _) _ _ _); (rename Mine.Found Mine.chainD _ _ => hf9); k_dflt (refine' Mine.chain_at (Str.ofString "did") _ hf9 ?hld ?hll ?_; (case hll => kernel_rfl); (case hld => (intro j' pos' Q' hq'; first | exact ld (by k_asm) (by rfl) hq' | exact nameX_L (by k_asm) (by rfl) hq'))); intro t' k'))
local macro_rules | `(tactic| walk_at "execs cons If") => `(tactic| (k_here; (with_reducible show wpAny _ _ (execs (Stmt.If (PySem.Expr.BoolOp BoolOp.And _ _) _ _ _ :: _) _) _ _ _); (rename Mine.Found Mine.chainR _ _ => hf9); k_dflt (refine' Mine.chain_at (Str.ofString "routine_id") _ hf9 ?hld ?hll ?_; (case hll => kernel_rfl); (case hld => (intro j' pos' Q' hq'; first | exact ld (by k_asm) (by rfl) hq' | exact nameX_L (by k_asm) (by rfl) hq'))); intro t' k'))
local macro_rules | `(tactic| walk_at "compareOp NotEq str str") => `(tactic| (k_here; refine Mine.ne_same ?_))
local macro_rules | `(tactic| walk_at "call builtin:abs cons nil") => `(tactic| (k_here; refine Mine.abs_some ?_; intro m' u' k' hm'))
local macro_rules | `(tactic| walk_at "subscriptTail Tuple cons BinOp ref int") => `(tactic| (k_here; (rename (0 ≤ _ ∧ _ < 6) => hx9); k_dflt (refine Mine.six_item (News.isTup (by k_asm) (by k_mem)) hx9 ?_ ?_ ?_ ?_ ?_ ?_)))
local macro_rules | `(tactic| walk_at "call ref cons nil") => `(tactic| (k_here; kts_any; k_dflt (refine wpAny_call ?_; refine' Mine.enter_try ?k1 ?k2 ?k3 ?k4 ?k5 ?kA ?kF ?kK ?k6 ?k7 ?k8 ?k9 ?kB ?_ ?c2 ?c3 ?c4 ?c5; (case kA => exact rfl); (case kF => exact rfl); (case kK => exact rfl); (case k1 => k_asm); (case k2 => k_asm); (case k3 => k_asm); (case k4 => k_asm); (case k5 => k_asm); (case k6 => k_is); (case k7 => k_is); (case k8 => k_room); (case k9 => first | exact BindsTo.of_eq rfl | exact binds_K (by k_in) rfl (by k_is) rfl rfl rfl); (case c5 => decide); (case kB => exact locs rfl); (case c2 => exact rfl); (case c3 => exact rfl); (case c4 => exact rfl); k_whole); intro g' L' h' FG' F' N' B' X' T' D'; (try dsimp only); (try k_lift B'); (try k_fold)))
local macro_rules | `(tactic| walk_at "call builtin:isinstance cons nil") => `(tactic| (k_here; first
  | (with_reducible refine PySem.IsiPair.int_int ?_)
  | (with_reducible refine PySem.IsiPair.str_int ?_)
  | (with_reducible refine PySem.IsiPair.NoneType_int ?_)
  | (with_reducible refine Mine.bytes_int ?_)
  | ((with_reducible show wpAny _ _ (call _ [Value.bytes _ _, _]) _ _ _); k_dflt (refine' kia_one kitx_bytes ?X trivial ?ee ?nb ?_; (case X => k_in); (case ee => kit_is); (case nb => kit_nb); k_whole; intro _))
  | ((with_reducible show wpAny _ _ (call _ [Value.ref _, Value.type "int"]) _ _ _); k_dflt (refine' PySem.IsiPair.list_int (News.get ?isN ?isM) ?isC ?_; (case isN => k_asm); (case isM => k_mem); (case isC => rfl); k_whole))))
local macro_rules | `(tactic| walk_at "subscriptTail Name Slice ref ref") => `(tactic| (k_here; (rename Mine.Tab _ _ _ Mine.rowsD => hT9); k_dflt (refine' Mine.rows_slice ?kF ?kN hT9 ?kl ?_ ?ks ?kt; (case kF => k_asm); (case kN => k_asm); (case kl => k_mem); (case ks => with_unfolding_all rfl); (case kt => (intro _; with_unfolding_all rfl))); intro D' h' zs' F' N' l1 hZ'; (try k_lt l1); (try k_sweep)))
local macro_rules | `(tactic| walk_at "eval ListComp") => `(tactic| (k_here; (with_reducible show wpAny _ _ (eval (PySem.Expr.ListComp (PySem.Expr.Subscript (PySem.Expr.Name _ _) _ _) _ _ _) _) _ _ _); k_dflt (refine LCg.ListComp_U (F₀ := by k_asm) (by with_unfolding_all rfl) (by decide) (by rfl) (by decide) (by rfl) ?_)))
local macro_rules | `(tactic| walk_at "eval ListComp") => `(tactic| (k_here; (with_reducible show wpAny _ _ (eval (PySem.Expr.ListComp (PySem.Expr.Subscript (PySem.Expr.Subscript _ _ _) _ _) _ _ _) _) _ _ _); k_dflt (refine Mine.comp_tuple (by k_asm) (by with_unfolding_all rfl) (by decide) (by rfl) (by decide) (by rfl) ?_)))
local macro_rules | `(tactic| walk_at "compareOp NotEq ref ref") => `(tactic| (k_here; (with_reducible show wpAny _ _ (compareOp CmpOp.NotEq (Value.ref _) (Value.ref _)) _ _ _); (rename IntsAre _ _ => hi9); k_dflt (refine' Mine.ne_ints ?kN ?kl ?ki ?kl2 hi9 ?ku ?_; (case kN => k_asm); (case kl => k_mem); (case kl2 => k_mem); (case ki => repeat (first | exact IntsAre.nil | apply IntsAre.cons)); (case ku => units_room); k_whole)))
local macro_rules | `(tactic| walk_at "compareOp Eq ref ref") => `(tactic| (k_here; (with_reducible show wpAny _ _ (compareOp CmpOp.Eq (Value.ref _) (Value.ref _)) _ _ _); (rename IntsAre _ _ => hi9); k_dflt (refine' Mine.eq_ints ?kN ?kl ?ki ?kl2 hi9 ?ku ?_; (case kN => k_asm); (case kl => k_mem); (case kl2 => k_mem); (case ki => repeat (first | exact IntsAre.nil | apply IntsAre.cons)); (case ku => units_room); k_whole)))
local macro_rules | `(tactic| walk_at "subscriptTail Name Constant ref int") => `(tactic| (k_here; k_dflt (first | (refine Mine.row_first (by assumption) ?_) | (refine Mine.row_second (by assumption) ?_))))


set_option maxRecDepth 100000 in
set_option maxHeartbeats 40000000 in
theorem PySem.Challenge.cw_eh5029_01_holds : PySem.Challenge.rw_eh5029_01.Holds := by
  w_on
  refine holds_law Mine.said fun said => ?_
  k_head
  (case hw => w_witness2)
  k_go0
  (all_goals try k_fold)
  focus (repeat' ((fail_if_success (with_reducible show wpAny _ _ (call (Value.type "enumerate") _) _ _ _)); first | (k_unfold; (try dsimp only)) | (k_end; wrow_close) | walk1 | (dsimp only; walk1) | (leave1; walk_say "STEP leave1"; (try dsimp only)) | fail "no step"))
  with_unfolding_all refine' Mine.built_loop (before := Mine.lowRows) [Str.ofString "i", Str.ofString "word"] ?mwkx ?mwhh ?mwF ?mwN ?mwhl ?mwhb ?mwhlen ?mwturn ?mwdone
  (case mwkx => k_asm)
  (case mwhh => rfl)
  (case mwF => k_asm)
  (case mwN => k_asm)
  (case mwhl => rename (List.map _ _ = Txt.split _ _) => eW; exact Eq.trans eW Mine.split_big)
  (case mwhb => exact Mine.tab_of (by kernel_rfl))
  (case mwhlen => rw [Mine.low_len]; decide)
  (case mwturn => 
    intro i x t tx T u vs nn NT h tk I o1 o2 hx hi hT hn1 hn2 hv hI c1 c2 ht F' N'
    have hI2 : Mine.AllBelow I _ := hI
    k_lt hI
    simp only [List.cons_append, List.nil_append] at N'
    (try k_fold)
    repeat' ((fail_if_success (with_reducible show UnrEndW _ _ _ _ _ _)); first | (k_unfold; (try dsimp only)) | (k_end; wrow_close) | walk1 | (dsimp only; walk1) | (leave1; walk_say "STEP leave1"; (try dsimp only)) | fail "no step")
    all_goals (
      rename Fr _ _ _ _ => lF
      rename News _ _ _ _ => lN
      rename (Mine.Ws[_]? = some _) => hx
      rename Mine.Tab _ _ _ _ => hT
      rename Mine.AllTup _ => hn2
      rename Mine.Above _ _ => hn1
      rename (List.length _ ≤ 950) => hv
      rename (_ = Value.type "enumerate") => c1
      rename (_ = Value.type "list_iterator") => c2
      rename Mine.AllBelow _ _ => hI2
      refine' Mine.built_end hx hT hn1 hn2 hv c1 c2 lF lN ?mwzm ?mwzI ?mwzo ?mwzN hI2 ?mwzt ?mwzc ?mwzd ?mwzf ?mwzy
      (case mwzI => (refine ⟨?_, ?_, ?_, ?_, ?_, trivial⟩ <;> k_mem))
      (case mwzo => repeat (first | exact trivial | refine ⟨by k_mem, ?_⟩))
      (case mwzN => exact fun p hp => by repeat (first | exact hp | apply List.mem_cons_of_mem))
      (case mwzt => (show @LT.lt Nat _ _ _; omega))
      (case mwzc => rfl)
      (case mwzd => rfl)
      (case mwzf => rfl)
      (case mwzm => (intro z hz; (have h1 : z ≠ Str.ofString "word" := by (rintro rfl; exact absurd hz (by decide))); (have h2 : z ≠ Str.ofString "i" := by (rintro rfl; exact absurd hz (by decide))); simp only [if_neg h1, if_neg h2, hz]; rfl))
      (case mwzy => unfold Mine.nm; simp_all))
    all_goals (try k_data))
  (case mwdone =>
    intro u vs nn NT h tk hT hn1 hn2 hv F' N'
    simp only [List.cons_append, List.nil_append] at N'
    (try k_fold)
    focus (repeat' ((fail_if_success (with_reducible show wpAny _ _ (exec (Stmt.For (PySem.Expr.Name _ _) (PySem.Expr.Name _ _) _ _ _) _) _ _ _)); first | (k_unfold; (try dsimp only)) | (k_end; wrow_close) | walk1 | (dsimp only; walk1) | (leave1; walk_say "STEP leave1"; (try dsimp only)) | fail "no step"))
    rename Mine.Tab _ _ _ (_ ++ Mine.upRows) => hT'
    have hTD : Mine.Tab _ NT _ Mine.rowsD := hT'
    rename Frag.In _ _ => hXX
    have hTR := Mine.tab_ofX hXX [.ref 83, .ref 84, .ref 85, .ref 86, .ref 87, .ref 88, .ref 89, .ref 90, .ref 91, .ref 92, .ref 93, .ref 94] Mine.routRows (by kernel_rfl)
    rename Fr _ _ _ _ => lF0
    with_unfolding_all refine' For_turns lF0 ?_
    focus (repeat' ((fail_if_success (with_reducible show wpAny _ _ (pyIter (Value.ref _)) _ _ _)); first | (k_unfold; (try dsimp only)) | (k_end; wrow_close) | walk1 | (dsimp only; walk1) | (leave1; walk_say "STEP leave1"; (try dsimp only)) | fail "no step"))
    with_unfolding_all refine' Mine.draws_loop [Str.ofString "n", Str.ofString "r", Str.ofString "number", Str.ofString "m"] ?mwdhh ?mwdF ?mwdN ?mwdhm ?mwdhi ?mwdturn ?mwddone
    (case mwdhh => rfl)
    (case mwdF => k_asm)
    (case mwdN => k_asm)
    (case mwdhm => k_mem)
    (case mwdhi => assumption)
    (case mwdturn =>
      intro k t u h tk I o hI ho F' N'
      have hI2 := hI
      k_lt hI
      have hxD := Mine.ixD k
      (try k_fold)
      focus (repeat' ((fail_if_success (with_reducible show wpAny _ _ (pyIter (Value.ref _)) _ _ _)); first | (k_unfold; (try dsimp only)) | (k_end; wrow_close) | walk1 | (dsimp only; walk1) | (leave1; walk_say "STEP leave1"; (try dsimp only)) | fail "no step"))
      rename Mine.RowIx _ _ => hxD
      with_unfolding_all refine' Mine.row_loop (C := Mine.chainD) [Str.ofString "number"] Mine.fitsD hxD ?mwehh ?mweF ?mweN ?mwehm ?mweturn ?mwedone
      (case mwehh => rfl)
      (case mweF => k_asm)
      (case mweN => k_asm)
      (case mwehm => k_mem)
      (case mweturn => 
        intro k2 t2 u2 h2 tk2 I2 o2 hf0 hk0 hk1 hI3 ho2 F' N'
        have hI4 := hI3
        k_lt hI3
        (try k_fold)
        focus (repeat' ((fail_if_success (with_reducible show UnrEndW _ _ _ _ _ _)); first | (k_unfold; (try dsimp only)) | (k_end; wrow_close) | walk1 | (dsimp only; walk1) | (leave1; walk_say "STEP leave1"; (try dsimp only)) | fail "no step"))
        all_goals (
          rename Fr _ _ _ _ => lF
          rename News _ _ _ _ => lN
          rename Mine.AllBelow _ _ => hB
          refine' Mine.loop_end hB lF lN ?mwzm ?mwzI ?mwzl ?mwz0
          (case mwzI => k_mem)
          (case mwz0 => k_mem)
          (case mwzl => exact fun p hp => by repeat (first | exact hp | apply List.mem_cons_of_mem))
          (case mwzm => (intro z hz; (have h1 : z ≠ Str.ofString "number" := by (rintro rfl; exact absurd hz (by decide))); simp only [if_neg h1, hz]; rfl)))
        all_goals (try k_data))
      (case mwedone =>
        intro u3 h3 tk3 F' N'
        (try k_fold)
        rename Mine.RowIx _ _ => hxD
        clear hxD
        have hxR := Mine.ixR k
        focus (repeat' ((fail_if_success (with_reducible show wpAny _ _ (pyIter (Value.ref _)) _ _ _)); first | (k_unfold; (try dsimp only)) | (k_end; wrow_close) | walk1 | (dsimp only; walk1) | (leave1; walk_say "STEP leave1"; (try dsimp only)) | fail "no step"))
        rename Mine.RowIx _ _ => hxR
        with_unfolding_all refine' Mine.row_loop (C := Mine.chainR) [Str.ofString "number"] Mine.fitsR hxR ?mwehh ?mweF ?mweN ?mwehm ?mweturn ?mwedone
        (case mwehh => rfl)
        (case mweF => k_asm)
        (case mweN => k_asm)
        (case mwehm => k_mem)
        (case mweturn => 
          intro k2 t2 u2 h2 tk2 I2 o2 hf0 hk0 hk1 hI3 ho2 F' N'
          have hI4 := hI3
          k_lt hI3
          (try k_fold)
          focus (repeat' ((fail_if_success (with_reducible show UnrEndW _ _ _ _ _ _)); first | (k_unfold; (try dsimp only)) | (k_end; wrow_close) | walk1 | (dsimp only; walk1) | (leave1; walk_say "STEP leave1"; (try dsimp only)) | fail "no step"))
          all_goals (
            rename Fr _ _ _ _ => lF
            rename News _ _ _ _ => lN
            rename Mine.AllBelow _ _ => hB
            refine' Mine.loop_end hB lF lN ?mwzm ?mwzI ?mwzl ?mwz0
            (case mwzI => k_mem)
            (case mwz0 => k_mem)
            (case mwzl => exact fun p hp => by repeat (first | exact hp | apply List.mem_cons_of_mem))
            (case mwzm => (intro z hz; (have h1 : z ≠ Str.ofString "number" := by (rintro rfl; exact absurd hz (by decide))); simp only [if_neg h1, hz]; rfl)))
          all_goals (try k_data))
        (case mwedone =>
          intro u3 h3 tk3 F' N'
          (try k_fold)
          rename Mine.RowIx _ _ => hxR
          clear hxR
          focus (repeat' ((fail_if_success (with_reducible show wpAny _ _ (exec (Stmt.If _ _ _ _) _) _ _ _)); first | (k_unfold; (try dsimp only)) | (k_end; wrow_close) | walk1 | (dsimp only; walk1) | (leave1; walk_say "STEP leave1"; (try dsimp only)) | fail "no step"))
          have hx6 := Mine.ix6 k
          focus (repeat' ((fail_if_success (with_reducible show wpAny _ _ (subscriptTail _ _ _ _) _ _ _)); first | (k_unfold; (try dsimp only)) | (k_end; wrow_close) | walk1 | (dsimp only; walk1) | (leave1; walk_say "STEP leave1"; (try dsimp only)) | fail "no step"))
          (first | (k_unfold; (try dsimp only)) | (k_end; wrow_close) | walk1 | (dsimp only; walk1) | (leave1; walk_say "STEP leave1"; (try dsimp only)) | fail "no step")

          repeat' ((fail_if_success (with_reducible show UnrEndW _ _ _ _ _ _)); first | (k_unfold; (try dsimp only)) | (k_end; wrow_close) | walk1 | (dsimp only; walk1) | (leave1; walk_say "STEP leave1"; (try dsimp only)) | fail "no step")
          all_goals (
            rename Fr _ _ _ _ => lF
            rename News _ _ _ _ => lN
            rename Mine.AllBelow _ _ => hB
            refine' Mine.loop_end hB lF lN ?mwzm ?mwzI ?mwzl ?mwz0
            (case mwzI => k_mem)
            (case mwz0 => k_mem)
            (case mwzl => exact fun p hp => by repeat (first | exact hp | apply List.mem_cons_of_mem))
            (case mwzm => (intro z hz; (have h1 : z ≠ Str.ofString "number" := by (rintro rfl; exact absurd hz (by decide))); (have h2 : z ≠ Str.ofString "n" := by (rintro rfl; exact absurd hz (by decide))); (have h3 : z ≠ Str.ofString "r" := by (rintro rfl; exact absurd hz (by decide))); (have h4 : z ≠ Str.ofString "m" := by (rintro rfl; exact absurd hz (by decide))); (have h5 : [Str.ofString "number"].contains z = false := by (cases e : [Str.ofString "number"].contains z with | false => rfl | true => exact absurd (by simpa using e) h1)); simp only [if_neg h1, if_neg h2, if_neg h3, if_neg h4, h5, hz]; rfl)))
          all_goals (try k_data))))
    (case mwddone => 
      intro u h tk F' N'
      (try k_fold)
      focus (repeat' ((fail_if_success (with_reducible show wpAny _ _ (exec (Stmt.For _ _ _ _ _) _) _ _ _)); first | (k_unfold; (try dsimp only)) | (k_end; wrow_close) | walk1 | (dsimp only; walk1) | (leave1; walk_say "STEP leave1"; (try dsimp only)) | fail "no step"))
      rename Fr _ _ _ _ => lF0
      with_unfolding_all refine' For_turns lF0 ?_
      focus (repeat' ((fail_if_success (with_reducible show wpAny _ _ (pyIter (Value.ref _)) _ _ _)); first | (k_unfold; (try dsimp only)) | (k_end; wrow_close) | walk1 | (dsimp only; walk1) | (leave1; walk_say "STEP leave1"; (try dsimp only)) | fail "no step"))
      with_unfolding_all refine' Mine.draws_loop [Str.ofString "number"] ?mwnhh ?mwnF ?mwnN ?mwnhm ?mwnhi ?mwnturn ?mwndone
      (case mwnhh => rfl)
      (case mwnF => k_asm)
      (case mwnN => k_asm)
      (case mwnhm => k_mem)
      (case mwnhi => repeat (first | exact IntsAre.nil | apply IntsAre.cons))
      (case mwnturn => 
        intro k t u h tk I o hI ho F' N'
        have hI2 := hI
        k_lt hI
        (try k_fold)
        focus (repeat' ((fail_if_success (with_reducible show UnrEndW _ _ _ _ _ _)); first | (k_unfold; (try dsimp only)) | (k_end; wrow_close) | walk1 | (dsimp only; walk1) | (leave1; walk_say "STEP leave1"; (try dsimp only)) | fail "no step"))
        all_goals (
          rename Fr _ _ _ _ => lF
          rename News _ _ _ _ => lN
          rename Mine.AllBelow _ _ => hB
          refine' Mine.loop_end hB lF lN ?mwzm ?mwzI ?mwzl ?mwz0
          (case mwzI => k_mem)
          (case mwz0 => k_mem)
          (case mwzl => exact fun p hp => by repeat (first | exact hp | apply List.mem_cons_of_mem))
          (case mwzm => (intro z hz; (have h1 : z ≠ Str.ofString "number" := by (rintro rfl; exact absurd hz (by decide))); simp only [if_neg h1, hz]; rfl)))
        all_goals (try k_data))
      (case mwndone => 
        intro u h tk F' N'
        (try k_fold)
        focus (repeat' ((fail_if_success (with_reducible show LCg.CompSrc _ _ _ _ _ _ _ _ _ _ _ _ _ _)); first | (k_unfold; (try dsimp only)) | (k_end; wrow_close) | walk1 | (dsimp only; walk1) | (leave1; walk_say "STEP leave1"; (try dsimp only)) | fail "no step"))
        rename Mine.Tab _ _ _ Mine.wrows => hTW
        k_dflt (refine' Mine.comp_rows ?mwchh ?mwcF ?mwcX ?mwcN hTW ?mwcl ?mwcs ?mwcturn ?mwcfin)
        (case mwchh => rfl)
        (case mwcF => k_asm)
        (case mwcX => k_asm)
        (case mwcN => k_asm)
        (case mwcl => k_mem)
        (case mwcs => exact fun p hp => by repeat (first | exact hp | apply List.mem_cons_of_mem))
        (case mwcturn =>
          intro a f y t1 t2 I oI C oC D ys m₂ h tk E' ht hC hx F' N'
          (try k_fold)
          focus (repeat' ((fail_if_success (with_reducible show Exists _)); first | (k_unfold; (try dsimp only)) | (k_end; wrow_close) | walk1 | (dsimp only; walk1) | (leave1; walk_say "STEP leave1"; (try dsimp only)) | fail "no step"))
          exact ⟨_, _, rfl, rfl⟩)
        (case mwcfin =>
          intro g ys hI
          focus (repeat' ((fail_if_success (with_reducible show Mine.SrcT _ _ _ _ _ _ _ _ _ _ _ _ _ _)); first | (k_unfold; (try dsimp only)) | (k_end; wrow_close) | walk1 | (dsimp only; walk1) | (leave1; walk_say "STEP leave1"; (try dsimp only)) | fail "no step"))
          k_dflt (refine' Mine.comp_picks ?mwchh ?mwcF ?mwcN ?mwcl ?mwcturn ?mwcfin)
          (case mwchh => rfl)
          (case mwcF => k_asm)
          (case mwcN => k_asm)
          (case mwcl => k_mem)
          (case mwcturn =>
            intro k tk0 I oI C oC D ys m₂ h tk E' hk hC hx F' N'
            (try k_fold)
            focus (repeat' ((fail_if_success (with_reducible show Exists _)); first | (k_unfold; (try dsimp only)) | (k_end; wrow_close) | walk1 | (dsimp only; walk1) | (leave1; walk_say "STEP leave1"; (try dsimp only)) | fail "no step"))
            exact ⟨_, _, rfl, rfl⟩)
          (case mwcfin =>
            intro g ys hI
            repeat' (first | (k_unfold; (try dsimp only)) | (k_end; wrow_close) | walk1 | (dsimp only; walk1) | (leave1; walk_say "STEP leave1"; (try dsimp only)) | fail "no step"))))))
  all_goals (try k_data)
