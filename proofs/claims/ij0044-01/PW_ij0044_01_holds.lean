import PyProof.Rows.All
import Wide.All
import OpenK.AllK
import Wide.FinOn
import PyProof.FactsAll.tuple_2
import PyProof.FactsAll.range_2
import PySem.Challenge.RW_ij0044_01
set_option Elab.async false
set_option rowWalk.seconds 0
open PySem.W in
local macro_rules | `(tactic| walk_at $s:str) => `(tactic| k_extra $s)
section
open PySem PySem.W PyProof.Rows PySem.Calls PySem.Spec
set_option maxRecDepth 100000
set_option maxHeartbeats 4000000
namespace Mine
/-- a tuple of a text and an int -/
noncomputable abbrev pairO (x : Str) (t : Tok) (i : Int) (u : Tok) (n : Nat) : Obj := { cls := .type "tuple", data := .seq #[.str x t, .int i u] n }
/-- the order of pairs -/
noncomputable def pLt (p q : Str × Int) : Bool := if p.1 = q.1 then decide (p.2 < q.2) else decide (p.1.cps.toList < q.1.cps.toList)
section
variable {prog : Program} {w : World} {A : Around} {E : Value → Shared → Prop} {s : Shared}
theorem lt_pair_tree {a b : Addr} {x y : Str} {i j : Int} {t u t' u' : Tok} {n n' : Nat} {P : Fin → Shared → Prop}
    (ha : s.heap.get? a = some (pairO x t i u n)) (hb : s.heap.get? b = some (pairO y t' j u' n'))
    (h : P (.done (.ret (.bool (pLt (x, i) (y, j))))) s) : wpAny (model prog w) A (Builtin.«tuple.__lt__» ⟨[.ref a, .ref b], []⟩) P E s := by
  have hTb : s.TypeIs (.ref b) "tuple" := ⟨_, hb, rfl⟩
  show wpAny _ _ (isInstance (.ref b) (.type "tuple") >>= _) _ _ s
  refine wpAny_bind (wpAny_isInstance hTb isSubtype_tuple_tuple ?_)
  simp only [Bool.not_true, Bool.false_eq_true, if_false]
  refine wpAny_bind (wpAny_tupleItemsOf ha rfl ?_)
  refine wpAny_bind (wpAny_tupleItemsOf hb rfl ?_)
  simp only [List.zip_cons_cons, List.zip_nil_right, List.zip_nil_left, List.forIn_cons, List.forIn_nil]
  refine wpAny_bind (wpAny_bind (wpAny_bind (wpAny_eqBool_str ?_)))
  by_cases hxy : x = y
  · rw [decide_eq_true hxy]
    simp only [Bool.not_true, Bool.false_eq_true, if_false]
    refine wpAny_pure ?_
    dsimp only
    refine wpAny_bind (wpAny_bind (wpAny_eqBool_int ?_))
    by_cases hij : i = j
    · subst hij
      simp only [beq_self_eq_true, Bool.not_true, Bool.false_eq_true, if_false]
      refine wpAny_pure ?_
      dsimp only
      refine wpAny_pure ?_
      refine wpAny_pure ?_
      subst hxy
      have : pLt (x, i) (x, i) = false := by simp [pLt]
      rw [this] at h
      exact h
    · have e : (i == j) = false := by simpa using hij
      rw [e]
      simp only [Bool.not_false, if_true]
      refine wpAny_bind (wpAny_rule ?_)
      refine wpAny_bind (wpAny_mono (lt_int (prog := prog) (w := w) (t := u) (u := u') (Q := fun v s' => v = .bool (decide (i < j)) ∧ s' = s) ⟨rfl, rfl⟩) ?_ fun _ _ e => e)
      rintro v s' ⟨rfl, rfl⟩
      have : pLt (x, i) (y, j) = decide (i < j) := by simp [pLt, hxy]
      rw [this] at h
      exact wpAny_bind (wpAny_pure (wpAny_pure (wpAny_pure (wpAny_pure h))))
  · rw [decide_eq_false hxy]
    simp only [Bool.not_false, if_true]
    refine wpAny_bind (wpAny_rule ?_)
    refine wpAny_bind (wpAny_mono (lt_str (prog := prog) (w := w) (t := t) (u := t') (Q := fun v s' => v = .bool (x.cps.toList < y.cps.toList) ∧ s' = s) ⟨rfl, rfl⟩) ?_ fun _ _ e => e)
    rintro v s' ⟨rfl, rfl⟩
    have : pLt (x, i) (y, j) = decide (x.cps.toList < y.cps.toList) := by simp [pLt, hxy]
    rw [this] at h
    exact wpAny_bind (wpAny_pure (wpAny_pure (wpAny_pure (wpAny_pure h))))
theorem lt_pair {a b : Addr} {x y : Str} {i j : Int} {t u t' u' : Tok} {n n' : Nat} {Q : Value → Shared → Prop}
    (ha : s.heap.get? a = some (pairO x t i u n)) (hb : s.heap.get? b = some (pairO y t' j u' n')) (hu : A.units < cLine)
    (h : Q (.bool (pLt (x, i) (y, j))) s) : wpAny (model prog w) A (compareOp .Lt (.ref a) (.ref b)) Q E s := by
  have hTa : s.TypeIs (.ref a) "tuple" := ⟨_, ha, rfl⟩
  have hTb : s.TypeIs (.ref b) "tuple" := ⟨_, hb, rfl⟩
  exact wpAny_richCompare_same_room (op := .Lt) hTa hTb F.slot_tuple_lt
      (wpAny_call_entry F.slot_tuple_lt hTa F.entry_tuple_lt (lt_pair_tree ha hb ⟨_, rfl, (fun e => nomatch e), h⟩) (F.args_tuple_lt_2 _ _)) hu
end
end Mine
end
section
namespace Mine
noncomputable def sdF {α : Type} (lt : α → α → Bool) (new : α) (start : Nat) : Nat → List α → Nat → List α
  | 0, its, _ => its
  | f + 1, its, pos => if start < pos then
      match its[(pos - 1) / 2]? with
      | none => its
      | some p => if lt new p then sdF lt new start f (its.set pos p) ((pos - 1) / 2) else its.set pos new
    else its.set pos new
/-- what _siftdown makes of a list -/
noncomputable def sd {α : Type} (lt : α → α → Bool) (new : α) (start : Nat) (its : List α) (pos : Nat) : List α := sdF lt new start (pos + 1) its pos
theorem sdF_eq {α : Type} (lt : α → α → Bool) (new : α) (start : Nat) : ∀ (f g : Nat) (its : List α) (pos : Nat), pos < f → pos < g → sdF lt new start f its pos = sdF lt new start g its pos
  | 0, _, _, _, h, _ => absurd h (Nat.not_lt_zero _)
  | _, 0, _, _, _, h => absurd h (Nat.not_lt_zero _)
  | f + 1, g + 1, its, pos, hf, hg => by
    unfold sdF
    by_cases h : start < pos
    · rw [if_pos h, if_pos h]
      cases its[(pos - 1) / 2]? with
      | none => rfl
      | some p =>
        dsimp only
        rw [sdF_eq lt new start f g _ _ (by lia) (by lia)]
    · rw [if_neg h, if_neg h]
theorem sd_eq {α : Type} (lt : α → α → Bool) (new : α) (start : Nat) (its : List α) (pos : Nat) : sd lt new start its pos = if start < pos then
    match its[(pos - 1) / 2]? with
    | none => its
    | some p => if lt new p then sd lt new start (its.set pos p) ((pos - 1) / 2) else its.set pos new
  else its.set pos new := by
  show sdF lt new start (pos + 1) its pos = _
  unfold sdF
  by_cases h : start < pos
  · rw [if_pos h, if_pos h]
    cases its[(pos - 1) / 2]? with
    | none => rfl
    | some p =>
      dsimp only
      rw [show sd lt new start (its.set pos p) ((pos - 1) / 2) = sdF lt new start ((pos - 1) / 2 + 1) (its.set pos p) ((pos - 1) / 2) from rfl, sdF_eq lt new start pos ((pos - 1) / 2 + 1) _ _ (by lia) (by lia)]
  · rw [if_neg h, if_neg h]
theorem sd_ind {α : Type} (lt : α → α → Bool) (new : α) (start : Nat) {motive : List α → Nat → Prop} (case1 : ∀ its pos, start < pos → its[(pos - 1) / 2]? = none → motive its pos)
    (case2 : ∀ its pos, start < pos → ∀ p, its[(pos - 1) / 2]? = some p → lt new p = true → motive (its.set pos p) ((pos - 1) / 2) → motive its pos)
    (case3 : ∀ its pos, start < pos → ∀ p, its[(pos - 1) / 2]? = some p → ¬ lt new p = true → motive its pos) (case4 : ∀ its pos, ¬ start < pos → motive its pos) (its : List α) (pos : Nat) : motive its pos := by
  induction pos using Nat.strongRecOn generalizing its with
  | _ pos ih =>
    by_cases h : start < pos
    · cases e : its[(pos - 1) / 2]? with
      | none => exact case1 its pos h e
      | some p =>
        by_cases hl : lt new p = true
        · exact case2 its pos h p e hl (ih _ (by lia) _)
        · exact case3 its pos h p e hl
    · exact case4 its pos h
theorem sd_len {α : Type} (lt : α → α → Bool) (new : α) (start : Nat) (its : List α) (pos : Nat) : (sd lt new start its pos).length = its.length := by
  induction its, pos using sd_ind lt new start with
  | case1 its pos h e => rw [sd_eq, if_pos h]; simp only [e]
  | case2 its pos h p e hl ih => rw [sd_eq, if_pos h]; simp only [e, hl, if_true]; rw [ih]; simp
  | case3 its pos h p e hl => rw [sd_eq, if_pos h]; simp only [e, hl]; simp
  | case4 its pos h => rw [sd_eq, if_neg h]; simp
end Mine
namespace Mine
/-- the child that _siftup goes down to -/
noncomputable def suChild {α : Type} (lt : α → α → Bool) (its : List α) (pos : Nat) : Nat :=
  match its[2 * pos + 1]?, its[2 * pos + 2]? with
  | some a, some b => if lt a b then 2 * pos + 1 else 2 * pos + 2
  | _, _ => 2 * pos + 1
theorem suChild_gt {α : Type} (lt : α → α → Bool) (its : List α) (pos : Nat) : pos < suChild lt its pos := by
  unfold suChild
  split
  · split <;> lia
  · lia
theorem suChild_lt {α : Type} (lt : α → α → Bool) (its : List α) (pos : Nat) (h : 2 * pos + 1 < its.length) : suChild lt its pos < its.length := by
  unfold suChild
  split
  · rename_i e
    have := (List.getElem?_eq_some_iff.mp e).1
    split <;> lia
  · lia
noncomputable def suF {α : Type} (lt : α → α → Bool) : Nat → List α → Nat → List α × Nat
  | 0, its, pos => (its, pos)
  | f + 1, its, pos => if 2 * pos + 1 < its.length then
      match its[suChild lt its pos]? with
      | none => (its, pos)
      | some c => suF lt f (its.set pos c) (suChild lt its pos)
    else (its, pos)
/-- the way down of _siftup -/
noncomputable def suGo {α : Type} (lt : α → α → Bool) (its : List α) (pos : Nat) : List α × Nat := suF lt (its.length - pos) its pos
theorem suF_eq {α : Type} (lt : α → α → Bool) : ∀ (f g : Nat) (its : List α) (pos : Nat), its.length - pos ≤ f → its.length - pos ≤ g → suF lt f its pos = suF lt g its pos
  | 0, 0, _, _, _, _ => rfl
  | 0, g + 1, its, pos, hf, hg => by
    unfold suF
    rw [if_neg (by lia)]
  | f + 1, 0, its, pos, hf, hg => by
    unfold suF
    rw [if_neg (by lia)]
  | f + 1, g + 1, its, pos, hf, hg => by
    unfold suF
    by_cases h : 2 * pos + 1 < its.length
    · rw [if_pos h, if_pos h]
      cases its[suChild lt its pos]? with
      | none => rfl
      | some c =>
        have := suChild_gt lt its pos
        exact suF_eq lt f g _ _ (by rw [List.length_set]; lia) (by rw [List.length_set]; lia)
    · rw [if_neg h, if_neg h]
theorem suGo_eq {α : Type} (lt : α → α → Bool) (its : List α) (pos : Nat) : suGo lt its pos = if 2 * pos + 1 < its.length then
    match its[suChild lt its pos]? with
    | none => (its, pos)
    | some c => suGo lt (its.set pos c) (suChild lt its pos)
  else (its, pos) := by
  have e : suGo lt its pos = suF lt (its.length + 1) its pos := suF_eq lt _ _ _ _ (Nat.le_refl _) (by lia)
  rw [e]
  unfold suF
  by_cases h : 2 * pos + 1 < its.length
  · rw [if_pos h, if_pos h]
    cases its[suChild lt its pos]? with
    | none => rfl
    | some c =>
      have := suChild_gt lt its pos
      exact suF_eq lt _ _ _ _ (by rw [List.length_set]; lia) (Nat.le_refl _)
  · rw [if_neg h, if_neg h]
theorem suGo_ind {α : Type} (lt : α → α → Bool) {motive : List α → Nat → Prop} (case1 : ∀ its pos, 2 * pos + 1 < its.length → its[suChild lt its pos]? = none → motive its pos)
    (case2 : ∀ its pos, 2 * pos + 1 < its.length → ∀ c, its[suChild lt its pos]? = some c → motive (its.set pos c) (suChild lt its pos) → motive its pos)
    (case3 : ∀ its pos, ¬ 2 * pos + 1 < its.length → motive its pos) (its : List α) (pos : Nat) : motive its pos := by
  have key : ∀ n its pos, its.length - pos = n → motive its pos := by
    intro n
    induction n using Nat.strongRecOn with
    | _ n ih =>
      intro its pos hn
      by_cases h : 2 * pos + 1 < its.length
      · cases e : its[suChild lt its pos]? with
        | none => exact case1 its pos h e
        | some c =>
          have := suChild_gt lt its pos
          exact case2 its pos h c e (ih _ (by rw [List.length_set]; lia) _ _ rfl)
      · exact case3 its pos h
  exact key _ its pos rfl
/-- what _siftup makes of a list -/
noncomputable def su {α : Type} (lt : α → α → Bool) (new : α) (its : List α) (pos : Nat) : List α :=
  sd lt new pos ((suGo lt its pos).1.set (suGo lt its pos).2 new) (suGo lt its pos).2
end Mine
namespace Mine
theorem suGo_step {α : Type} {lt : α → α → Bool} {its : List α} {pos c : Nat} {v : α} (h : 2 * pos + 1 < its.length) (hc : suChild lt its pos = c) (hv : its[c]? = some v) : suGo lt (its.set pos v) c = suGo lt its pos := by
  conv => rhs; rw [suGo_eq, if_pos h]
  subst hc
  simp only [hv]
theorem suGo_end {α : Type} {lt : α → α → Bool} {its : List α} {pos : Nat} (h : ¬ 2 * pos + 1 < its.length) : suGo lt its pos = (its, pos) := by
  rw [suGo_eq, if_neg h]
theorem suChild_l {α : Type} {lt : α → α → Bool} {its : List α} {pos : Nat} {a b : α} (ha : its[2 * pos + 1]? = some a) (hb : its[2 * pos + 2]? = some b) (h : lt a b = true) : suChild lt its pos = 2 * pos + 1 := by
  unfold suChild; simp [ha, hb, h]
theorem suChild_r {α : Type} {lt : α → α → Bool} {its : List α} {pos : Nat} {a b : α} (ha : its[2 * pos + 1]? = some a) (hb : its[2 * pos + 2]? = some b) (h : lt a b = false) : suChild lt its pos = 2 * pos + 2 := by
  unfold suChild; simp [ha, hb, h]
theorem suChild_1 {α : Type} {lt : α → α → Bool} {its : List α} {pos : Nat} (h : ¬ 2 * pos + 2 < its.length) : suChild lt its pos = 2 * pos + 1 := by
  unfold suChild
  have : its[2 * pos + 2]? = none := List.getElem?_eq_none (by lia)
  rw [this]
  split
  · rename_i e; cases e
  · rfl
end Mine
namespace Mine
theorem sd_mem {α : Type} {lt : α → α → Bool} {new : α} {start : Nat} {its : List α} {pos : Nat} {v : α} (h : v ∈ sd lt new start its pos) : v ∈ its ∨ v = new := by
  induction its, pos using sd_ind lt new start with
  | case1 its pos h1 e => rw [sd_eq, if_pos h1] at h; simp only [e] at h; exact .inl h
  | case2 its pos h1 p e hl ih =>
    rw [sd_eq, if_pos h1] at h
    simp only [e, hl, if_true] at h
    rcases ih h with h | h
    · rcases List.mem_or_eq_of_mem_set h with h | rfl
      · exact .inl h
      · exact .inl (List.mem_of_getElem? e)
    · exact .inr h
  | case3 its pos h1 p e hl =>
    rw [sd_eq, if_pos h1] at h
    simp only [e, hl] at h
    exact List.mem_or_eq_of_mem_set h
  | case4 its pos h1 =>
    rw [sd_eq, if_neg h1] at h
    exact List.mem_or_eq_of_mem_set h
theorem suGo_len {α : Type} (lt : α → α → Bool) (its : List α) (pos : Nat) : (suGo lt its pos).1.length = its.length := by
  induction its, pos using suGo_ind lt with
  | case1 its pos h e => rw [suGo_eq, if_pos h]; simp only [e]
  | case2 its pos h c e ih => rw [suGo_eq, if_pos h]; simp only [e]; rw [ih]; simp
  | case3 its pos h => rw [suGo_eq, if_neg h]
theorem suGo_mem {α : Type} {lt : α → α → Bool} {its : List α} {pos : Nat} {v : α} (h : v ∈ (suGo lt its pos).1) : v ∈ its := by
  induction its, pos using suGo_ind lt with
  | case1 its pos h1 e => rw [suGo_eq, if_pos h1] at h; simp only [e] at h; exact h
  | case2 its pos h1 c e ih =>
    rw [suGo_eq, if_pos h1] at h
    simp only [e] at h
    rcases List.mem_or_eq_of_mem_set (ih h) with h | rfl
    · exact h
    · exact List.mem_of_getElem? e
  | case3 its pos h1 => rw [suGo_eq, if_neg h1] at h; exact h
theorem su_len {α : Type} (lt : α → α → Bool) (new : α) (its : List α) (pos : Nat) : (su lt new its pos).length = its.length := by
  unfold su; rw [sd_len, List.length_set, suGo_len]
theorem su_mem {α : Type} {lt : α → α → Bool} {new : α} {its : List α} {pos : Nat} {v : α} (h : v ∈ su lt new its pos) : v ∈ its ∨ v = new := by
  unfold su at h
  rcases sd_mem h with h | h
  · rcases List.mem_or_eq_of_mem_set h with h | h
    · exact .inl (suGo_mem h)
    · exact .inr h
  · exact .inr h
/-- heapify of seven, after k of its three turns -/
noncomputable def hfy {α : Type} (lt : α → α → Bool) : Nat → List α → List α
  | 0, xs => xs
  | k + 1, xs => match (hfy lt k xs)[2 - k]? with
    | some v => su lt v (hfy lt k xs) (2 - k)
    | none => hfy lt k xs
theorem hfy_len {α : Type} (lt : α → α → Bool) (xs : List α) : ∀ k, (hfy lt k xs).length = xs.length
  | 0 => rfl
  | k + 1 => by
    unfold hfy
    split
    · rw [su_len, hfy_len lt xs k]
    · exact hfy_len lt xs k
theorem hfy_mem {α : Type} {lt : α → α → Bool} {xs : List α} {v : α} : ∀ {k}, v ∈ hfy lt k xs → v ∈ xs
  | 0, h => h
  | k + 1, h => by
    unfold hfy at h
    split at h
    · rename_i u e
      rcases su_mem h with h | rfl
      · exact hfy_mem h
      · exact hfy_mem (List.mem_of_getElem? e)
    · exact hfy_mem h
end Mine
end
section
open PySem PySem.W PyProof.Rows
set_option maxRecDepth 100000
set_option maxHeartbeats 8000000
namespace Mine
open_top hd for PySem.Challenge.rw_ij0044_01
end Mine
end
section
open PySem PySem.W PyProof.Rows PySem.Calls PySem.Spec
set_option maxRecDepth 100000
set_option maxHeartbeats 4000000
namespace Mine
/-- a goal that the walk leaves alone -/
noncomputable def Hold (P : Prop) : Prop := P
theorem hold {P : Prop} (h : Hold P) : P := h
theorem unhold {P : Prop} (h : P) : Hold P := h
/-- v is a pair of the ledger, told k -/
noncomputable def PairAt (news : List (Addr × Obj)) (v : Value) (k : Str × Int) : Prop :=
  ∃ b t u n, v = .ref b ∧ (b, pairO k.1 t k.2 u n) ∈ news
theorem lk_here {x : Str} {v : Value} {m : Str → Option Value} : (fun y => if y = x then some v else m y) x = some v := if_pos rfl
theorem lk_there {x z : Str} {r v : Option Value} {m : Str → Option Value} (h : z ≠ x) (e : m z = r) : (fun y => if y = x then v else m y) z = r := (if_neg h).trans e
theorem lk_hereO {x : Str} {v : Option Value} {m : Str → Option Value} : (fun y => if y = x then v else m y) x = v := if_pos rfl
section
variable {prog : Program} {w : World} {A : Around} {E : Value → Shared → Prop} {s : Shared} {h₀ : Heap} {L D : Addr} {m : Str → Option Value} {news news' rest : List (Addr × Obj)} {its : List Value} {n : Nat} {k : Int} {t u : Tok} {κ : Value → Str × Int}
theorem st_of {cn : Str} {cs : Scope} {a : Addr} {ccd : Value} {x : Str} {v : Value} {Q : Unit → Shared → Prop} (F : Fr h₀ L s.heap m) (N : News h₀ L s.heap news)
    (h : ∀ h' tk, Fr h₀ L h' (fun y => if y = x then some v else m y) → News h₀ L h' news → Q () { s with heap := h', toks := tk })
    (hk : cs.kind = .function := by rfl) (hx : (envOf cn cs L a ccd).kindOf x = some .local := by rfl) : wpAny (model prog w) A (storeName (envOf cn cs L a ccd) x v) Q E s :=
  stN F N (fun h' F' N' => h h' _ F' N') hk hx
theorem st_ofI {cn : Str} {cs : Scope} {a : Addr} {ccd : Value} {x : Str} {Q : Unit → Shared → Prop} (F : Fr h₀ L s.heap m) (N : News h₀ L s.heap news)
    (h : ∀ h' t' tk, Fr h₀ L h' (fun y => if y = x then some (.int k t') else m y) → News h₀ L h' news → Q () { s with heap := h', toks := tk })
    (hk : cs.kind = .function := by rfl) (hx : (envOf cn cs L a ccd).kindOf x = some .local := by rfl) : wpAny (model prog w) A (storeName (envOf cn cs L a ccd) x (.int k t)) Q E s :=
  stN F N (fun h' F' N' => h h' _ _ F' N') hk hx
theorem st_ofS {cn : Str} {cs : Scope} {a : Addr} {ccd : Value} {x z : Str} {Q : Unit → Shared → Prop} (F : Fr h₀ L s.heap m) (N : News h₀ L s.heap news)
    (h : ∀ h' t' tk, Fr h₀ L h' (fun y => if y = x then some (.str z t') else m y) → News h₀ L h' news → Q () { s with heap := h', toks := tk })
    (hk : cs.kind = .function := by rfl) (hx : (envOf cn cs L a ccd).kindOf x = some .local := by rfl) : wpAny (model prog w) A (storeName (envOf cn cs L a ccd) x (.str z t)) Q E s :=
  stN F N (fun h' F' N' => h h' _ _ F' N') hk hx
theorem rshift_one {Q : Value → Shared → Prop} (h : Q (.int (k / 2) s.toks) { s with toks := s.toks + 1 }) : wpAny (model prog w) A (binaryOp .RShift (.int k t) (.int 1 u)) Q E s := by
  refine rshift_int (by decide) ?_
  have e : k.fdiv (2 ^ (1 : Int).toNat) = k / 2 := by
    show k.fdiv 2 = k / 2
    exact Int.fdiv_eq_ediv_of_nonneg _ (by decide)
  rw [e]; exact h
theorem len_at {Q : Value → Shared → Prop} (N : News h₀ L s.heap news) (hm : (D, listOf its.toArray n) ∈ news) (hf : its.length < 2 ^ 20)
    (h : ∀ t tk, Q (.int its.length t) { s with toks := tk }) : wpAny (model prog w) A (call (.builtin "len") [.ref D]) Q E s := by
  have hl : s.heap.IsList D its.toArray := PySem.IsL.isList (n := n) (N _ hm).1
  refine len_list hl (by rw [List.size_toArray]; lia) ?_
  rw [List.size_toArray]
  exact h _ _
theorem item_pair {value slice : PySem.Expr} {Q : Value → Shared → Prop} (N : News h₀ L s.heap ((D, listOf its.toArray n) :: rest)) (hκ : ∀ v ∈ its, PairAt rest v (κ v))
    (h0 : 0 ≤ k) (h1 : k < its.length) (hf : its.length < 2 ^ 20) (h : ∀ b, its[k.toNat]? = some (.ref b) → PairAt rest (.ref b) (κ (.ref b)) → Q (.ref b) s)
    (hs : subscripted slice false (.ref D) (.int k u) = operate [.ref D, .int k u] (getItem (.ref D) (.int k u)) := by with_unfolding_all rfl) :
    wpAny (model prog w) A (subscriptTail value slice (.ref D) (.int k u)) Q E s := by
  have hl : s.heap.IsList D its.toArray := PySem.IsL.isList (n := n) (N _ (.head _)).1
  have hk : k.toNat < its.length := by lia
  have hx : its[k.toNat]? = some its[k.toNat] := List.getElem?_eq_getElem hk
  have hp := hκ its[k.toNat] (List.getElem_mem hk)
  obtain ⟨b, t, u', n', e, hm⟩ := id hp
  rw [e] at hx hp
  have hfit : k < 2 ^ 63 := by lia
  exact tail_any hl.typeIs slot_list_getitem.lookup (wpAny_getItem_list hl h0 hfit (by simpa using hx) (h b hx hp)) hs
theorem append_pair {v : Value} {Q : Value → Shared → Prop} (F : Fr h₀ L s.heap m) (N : News h₀ L s.heap ((D, listOf its.toArray n) :: rest)) (hne : ∀ q ∈ rest, q.1 ≠ D) (hf : its.length < 2 ^ 20)
    (h : ∀ h' n', Fr h₀ L h' m → News h₀ L h' ((D, listOf (its ++ [v]).toArray n') :: rest) → Q .none { s with heap := h' }) : wpAny (model prog w) A (call (.builtin "list.append") [.ref D, v]) Q E s := by
  refine append_K F N (Upd.head hne) (fun h' F' N' => h h' (n + 1) F' ?_) (by rw [List.size_toArray, sizeLine_eq]; lia)
  rw [List.push_toArray] at N'
  exact N'
theorem pop_pair {v : Value} {xs : List Value} {Q : Value → Shared → Prop} (F : Fr h₀ L s.heap m) (N : News h₀ L s.heap ((D, listOf its.toArray n) :: rest)) (hne : ∀ q ∈ rest, q.1 ≠ D) (hf : its.length < 2 ^ 20) (e : its = xs ++ [v])
    (h : ∀ h' n', Fr h₀ L h' m → News h₀ L h' ((D, listOf xs.toArray n') :: rest) → Q v { s with heap := h' }) : wpAny (model prog w) A (call (.builtin "list.pop") [.ref D]) Q E s := by
  subst e
  exact kl_pop F N (p := xs) (y := v) (by show kl_last (xs ++ [v]) = _; exact kpa_last v xs) (Upd.head hne) (by show (xs ++ [v]).length ≤ sizeLine; rw [sizeLine_eq]; lia) fun h' F' N' => h h' _ F' N'
theorem truthy_pair {Q : Bool → Shared → Prop} (N : News h₀ L s.heap ((D, listOf its.toArray n) :: rest)) (hf : its.length < 2 ^ 20) (h : ∀ tk, Q (decide (0 < its.length)) { s with toks := tk }) : wpAny (model prog w) A (truthy (.ref D)) Q E s := by
  have hl : s.heap.IsList D its.toArray := PySem.IsL.isList (n := n) (N _ (.head _)).1
  refine wpAny_truthy_list hl (by rw [List.size_toArray]; lia) ?_
  have e : (!its.toArray.isEmpty) = decide (0 < its.length) := by cases its <;> simp
  rw [e]
  exact h _
theorem news_tail {h : Heap} {p : Addr × Obj} {l : List (Addr × Obj)} (N : News h₀ L h (p :: l)) : News h₀ L h l := fun q hq => N q (.tail _ hq)
theorem pairs_set {xs : List Value} {v : Value} {j : Nat} (h : ∀ v ∈ xs, PairAt rest v (κ v)) (hv : PairAt rest v (κ v)) : ∀ u ∈ xs.set j v, PairAt rest u (κ u) := fun u hu => by
  rcases List.mem_or_eq_of_mem_set hu with hu | rfl
  · exact h u hu
  · exact hv
theorem pairs_app {xs : List Value} {v : Value} (h : ∀ v ∈ xs, PairAt rest v (κ v)) (hv : PairAt rest v (κ v)) : ∀ u ∈ xs ++ [v], PairAt rest u (κ u) := fun u hu => by
  rcases List.mem_append.mp hu with hu | hu
  · exact h u hu
  · rw [List.mem_singleton.mp hu]; exact hv
theorem lt_at {a b : Addr} {Q : Value → Shared → Prop} (N : News h₀ L s.heap news) (hs : ∀ p ∈ rest, p ∈ news) (ha : PairAt rest (.ref a) (κ (.ref a))) (hb : PairAt rest (.ref b) (κ (.ref b))) (hu : A.units < cLine)
    (h : Q (.bool (pLt (κ (.ref a)) (κ (.ref b)))) s) : wpAny (model prog w) A (compareOp .Lt (.ref a) (.ref b)) Q E s := by
  obtain ⟨_, t, u, n, e, hm⟩ := ha
  cases e
  obtain ⟨_, t', u', n', e, hm'⟩ := hb
  cases e
  exact lt_pair (N _ (hs _ hm)).1 (N _ (hs _ hm')).1 hu h
theorem upd_head {v : Value} (N : News h₀ L s.heap ((D, listOf its.toArray n) :: rest)) (hne : ∀ q ∈ rest, q.1 ≠ D) (j : Nat) :
    News h₀ L (s.heap.update D (Obj.mapSeq (·.setIfInBounds j v))) ((D, listOf (its.set j v).toArray n) :: rest) := by
  refine ki_turn (pre := []) _ N (fun _ h => nomatch h) hne ?_ ?_
  · show its.toArray.setIfInBounds j v = (its.set j v).toArray
    apply Array.toList_inj.mp
    simp
  · simp
theorem set_at {v : Value} {Q : Unit → Shared → Prop} (F : Fr h₀ L s.heap m) (N : News h₀ L s.heap ((D, listOf its.toArray n) :: rest)) (hne : ∀ q ∈ rest, q.1 ≠ D)
    (h0 : 0 ≤ k) (h1 : k < its.length) (hf : its.length < 2 ^ 20)
    (h : ∀ h', Fr h₀ L h' m → News h₀ L h' ((D, listOf (its.set k.toNat v).toArray n) :: rest) → Q () { s with heap := h' }) :
    wpAny (model prog w) A (setItem (.ref D) (.int k t) v) Q E s := by
  have z := N (D, listOf its.toArray n) (.head _)
  have hfit : k < 2 ^ 63 := by lia
  exact ki_setAt z.1 h0 hfit (by rw [List.size_toArray]; lia) (h _ (F.change (Heap.SameBut.update ..) z.2.1 z.2.2) (upd_head N hne _))
end
section
variable {prog : Program} {w : World} {A : Around} {E : Value → Shared → Prop} {env : Env} {test : PySem.Expr} {body orelse : List Stmt} {Q : Flow → Shared → Prop}
noncomputable def WPost {S : Type} (I : S → Shared → Prop) (μ : S → Nat) (x : S) (Q : Flow → Shared → Prop) (f : Flow) (s : Shared) : Prop := match f with
  | .next => ∃ y, μ y < μ x ∧ I y s
  | .cont => ∃ y, μ y < μ x ∧ I y s
  | .brk => Q .next s
  | .ret v => Q (.ret v) s
theorem wpost_brk {S : Type} {I : S → Shared → Prop} {μ : S → Nat} {x : S} {Q : Flow → Shared → Prop} {s : Shared} (h : Q .next s) : WPost I μ x Q .brk s := h
theorem wpost_ret {S : Type} {I : S → Shared → Prop} {μ : S → Nat} {x : S} {Q : Flow → Shared → Prop} {s : Shared} {v : Value} (h : Q (.ret v) s) : WPost I μ x Q (.ret v) s := h
theorem wpost_next {S : Type} {I : S → Shared → Prop} {μ : S → Nat} {x y : S} {Q : Flow → Shared → Prop} {s : Shared} (h : μ y < μ x) (hi : I y s) : WPost I μ x Q .next s := ⟨y, h, hi⟩
theorem wpost_cont {S : Type} {I : S → Shared → Prop} {μ : S → Nat} {x y : S} {Q : Flow → Shared → Prop} {s : Shared} (h : μ y < μ x) (hi : I y s) : WPost I μ x Q .cont s := ⟨y, h, hi⟩
theorem whlIf_split {b : Bool} {T F : Prop} (h1 : b = true → T) (h2 : b = false → F) : WhlIf b T F := by
  cases b with
  | true => exact WhlIf.yes rfl (h1 rfl)
  | false => exact WhlIf.no rfl (h2 rfl)
theorem while_ind {S : Type} (I : S → Shared → Prop) (μ : S → Nat) {pos : Pos} (hE : PassesOwn (model prog w) A env E)
    (turn : ∀ x s, I x s → wpAny (model prog w) A (isTrue test env (eval test env)) (fun b s₂ => WhlIf b (wpAny (model prog w) A (execs body env) (WPost I μ x Q) E s₂) (wpAny (model prog w) A (execs orelse env) Q E s₂)) E s)
    (x : S) {s : Shared} (h : I x s) : wpAny (model prog w) A (exec (.While test body orelse pos) env) Q E s := by
  refine whl_start 0 ?_
  have key : ∀ n, ∀ x s, μ x = n → I x s → ∀ k, WhlRest prog w A E env test body orelse Q k s := by
    intro n
    induction n using Nat.strongRecOn with
    | ind n ih =>
      intro x s hn hI k
      refine whl_turn (k := 0) hE ?_
      refine wpAny_mono (turn x s hI) (fun b s₂ hb => ?_) fun _ _ e => e
      cases b with
      | false => exact hb
      | true =>
        have hb' : wpAny (model prog w) A (execs body env) (WPost I μ x Q) E s₂ := hb
        refine WhlIf.yes rfl (wpAny_mono hb' (fun f s₃ hf => ?_) fun _ _ e => e)
        cases f with
        | next => obtain ⟨y, hy, hJ⟩ := hf; exact ih _ (hn ▸ hy) y s₃ rfl hJ 0
        | cont => obtain ⟨y, hy, hJ⟩ := hf; exact ih _ (hn ▸ hy) y s₃ rfl hJ 0
        | brk => exact hf
        | ret v => exact hf
  exact key _ x s rfl h 0
end
-- LINES
end Mine
end
section
open PySem PySem.W PyProof.Rows PySem.Calls PySem.Spec
set_option maxRecDepth 100000
set_option maxHeartbeats 4000000
namespace Mine
section
variable {prog : Program} {w : World} {A : Around} {E : Value → Shared → Prop} {s : Shared} {env : Env} {target : PySem.Expr} {it : Value} {body orelse : List Stmt} {Q : Flow → Shared → Prop}
/-- what is left of a for loop -/
noncomputable def ForRest (prog : Program) (w : World) (A : Around) (E : Value → Shared → Prop) (env : Env) (target : PySem.Expr) (it : Value) (body orelse : List Stmt) (Q : Flow → Shared → Prop) (s : Shared) : Prop :=
  codeAny (model prog w) A (.forLoop target it body orelse env) (fun r s' => match r with | .ok f => Q f s' | .error e => cameBackBy (model prog w) A env E e s') s
theorem for_start {iter : PySem.Expr} {pos : Pos}
    (h : wpAny (model prog w) A (eval iter env) (fun x s₁ => wpAny (model prog w) A (pyIter x) (fun it s₂ => ForRest prog w A E env target it body orelse Q s₂) E s₁) E s)
    (hs : ∀ x, foldedSetIterable iter env x = pure x := by intro _; rfl) :
    wpAny (model prog w) A (exec (.For target iter body orelse pos) env) Q E s := wpAny_For h hs
noncomputable def FPost {S : Type} (I : S → Shared → Prop) (μ : S → Nat) (x : S) (Q : Flow → Shared → Prop) (f : Flow) (s : Shared) : Prop := match f with
  | .next => ∃ y, μ y < μ x ∧ I y s
  | .cont => ∃ y, μ y < μ x ∧ I y s
  | .brk => Q .next s
  | .ret v => Q (.ret v) s
theorem fpost_brk {S : Type} {I : S → Shared → Prop} {μ : S → Nat} {x : S} {Q : Flow → Shared → Prop} {s : Shared} (h : Q .next s) : FPost I μ x Q .brk s := h
theorem fpost_ret {S : Type} {I : S → Shared → Prop} {μ : S → Nat} {x : S} {Q : Flow → Shared → Prop} {s : Shared} {v : Value} (h : Q (.ret v) s) : FPost I μ x Q (.ret v) s := h
theorem fpost_next {S : Type} {I : S → Shared → Prop} {μ : S → Nat} {x y : S} {Q : Flow → Shared → Prop} {s : Shared} (h : μ y < μ x) (hi : I y s) : FPost I μ x Q .next s := ⟨y, h, hi⟩
theorem fpost_cont {S : Type} {I : S → Shared → Prop} {μ : S → Nat} {x y : S} {Q : Flow → Shared → Prop} {s : Shared} (h : μ y < μ x) (hi : I y s) : FPost I μ x Q .cont s := ⟨y, h, hi⟩
/-- what a turn of a for begins with -/
noncomputable def NextIs (prog : Program) (w : World) (A : Around) (E : Value → Shared → Prop) (env : Env) (target : PySem.Expr) (body orelse : List Stmt) (P : Flow → Shared → Prop) (Q : Flow → Shared → Prop) (r : Option Value) (s : Shared) : Prop := match r with
  | none => wpAny (model prog w) A (execs orelse env) Q E s
  | some v => wpAny (model prog w) A (assign target env v) (fun _ s₂ => wpAny (model prog w) A (execs body env) P E s₂) E s
theorem for_ind {S : Type} (I : S → Shared → Prop) (μ : S → Nat) (hE : PassesOwn (model prog w) A env E)
    (turn : ∀ x s, I x s → wpAny (model prog w) A (pyNext it) (NextIs prog w A E env target body orelse (FPost I μ x Q) Q) E s)
    (x : S) {s : Shared} (h : I x s) (ht : ∀ v, letOwnedTupleGo target it v = pure () := by intro _; rfl) : ForRest prog w A E env target it body orelse Q s := by
  refine codeAny_forLoop (fun n s => ∃ x, μ x = n ∧ I x s) ?_ (μ x) ⟨x, rfl, h⟩ ht
  rintro n s ⟨x, rfl, hI⟩
  refine wpAny_mono (turn x s hI) (fun r s₁ hr => ?_) hE
  cases r with
  | none => exact wpAny_mono hr (fun _ _ x => x) hE
  | some v =>
    have hr' : wpAny (model prog w) A (assign target env v) (fun _ s₂ => wpAny (model prog w) A (execs body env) (FPost I μ x Q) E s₂) E s₁ := hr
    refine wpAny_mono hr' (fun _ s₂ h₂ => wpAny_mono h₂ (fun f s₃ hf => ?_) hE) hE
    cases f with
    | next => obtain ⟨y, hy, hJ⟩ := hf; exact ⟨_, hy, y, rfl, hJ⟩
    | cont => obtain ⟨y, hy, hJ⟩ := hf; exact ⟨_, hy, y, rfl, hJ⟩
    | brk => exact hf
    | ret v => exact hf
end
section
variable {prog : Program} {w : World} {A : Around} {E : Value → Shared → Prop} {s : Shared} {env : Env} {Q : Flow → Shared → Prop}
theorem execs_append (xs ys : List Stmt) (env : Env) : execs (xs ++ ys) env = (do match ← execs xs env with | .next => execs ys env | f => pure f) := by
  induction xs with
  | nil => rw [List.nil_append, show execs [] env = pure Flow.next from rfl, pure_bind]
  | cons x xs ih =>
    rw [List.cons_append, execs_cons, execs_cons, bind_assoc]
    congr 1
    funext f
    cases f with
    | next => exact ih
    | brk => simp only [pure_bind]
    | cont => simp only [pure_bind]
    | ret v => simp only [pure_bind]
/-- a place where ways meet -/
noncomputable def Meet (J : Shared → Prop) (Q : Flow → Shared → Prop) (f : Flow) (s : Shared) : Prop := match f with
  | .next => J s
  | f => Q f s
theorem execs_cut (k : Nat) {body : List Stmt} (J : Shared → Prop) (h1 : ∀ s', J s' → wpAny (model prog w) A (execs (body.drop k) env) Q E s') (h2 : wpAny (model prog w) A (execs (body.take k) env) (Meet J Q) E s) : wpAny (model prog w) A (execs body env) Q E s := by
  rw [← List.take_append_drop k body, execs_append]
  refine wpAny_bind (wpAny_mono h2 (fun f s' h => ?_) fun _ _ e => e)
  cases f with
  | next => exact h1 s' h
  | brk => exact wpAny_pure h
  | cont => exact wpAny_pure h
  | ret v => exact wpAny_pure h
end
section
variable {prog : Program} {w : World} {A : Around} {E : Value → Shared → Prop} {s : Shared} {env : Env} {Q : Flow → Shared → Prop} {a b c d e : Stmt} {rest : List Stmt}
theorem execs_cut5 (J : Shared → Prop) (h1 : ∀ s', J s' → wpAny (model prog w) A (execs rest env) Q E s') (h2 : wpAny (model prog w) A (execs [a, b, c, d, e] env) (Meet J Q) E s) : wpAny (model prog w) A (execs (a :: b :: c :: d :: e :: rest) env) Q E s := execs_cut 5 J h1 h2
theorem execs_cut3 (J : Shared → Prop) (h1 : ∀ s', J s' → wpAny (model prog w) A (execs rest env) Q E s') (h2 : wpAny (model prog w) A (execs [a, b, c] env) (Meet J Q) E s) : wpAny (model prog w) A (execs (a :: b :: c :: rest) env) Q E s := execs_cut 3 J h1 h2
theorem meet_ret {J : Shared → Prop} {v : Value} (h : Q (.ret v) s) : Meet J Q (.ret v) s := h
theorem execs_cut2 (J : Shared → Prop) (h1 : ∀ s', J s' → wpAny (model prog w) A (execs rest env) Q E s') (h2 : wpAny (model prog w) A (execs [a, b] env) (Meet J Q) E s) : wpAny (model prog w) A (execs (a :: b :: rest) env) Q E s := execs_cut 2 J h1 h2
end
noncomputable abbrev rangeIO (x left step : Int) : Obj := { cls := .type "range_iterator", dict := none, data := .fields #[rawInt x, rawInt left, rawInt step], slots := #[] }
section
variable {prog : Program} {w : World} {A : Around} {E : Value → Shared → Prop} {s : Shared} {h₀ : Heap} {L I : Addr} {m : Str → Option Value} {news rest : List (Addr × Obj)}
theorem fr_but {h h' : Heap} (F : Fr h₀ L h m) (hs : Heap.SameBut I h h') (hL : I ≠ L) (hn : h₀.get? I = none) : Fr h₀ L h' m := F.change hs hL hn
theorem next_range {x left step : Int} {Q : Option Value → Shared → Prop} (F : Fr h₀ L s.heap m) (N : News h₀ L s.heap ((I, rangeIO x left step) :: rest)) (hne : ∀ q ∈ rest, q.1 ≠ I) (hleft : 0 < left)
    (h : ∀ h' t tk, Fr h₀ L h' m → News h₀ L h' ((I, rangeIO (x + step) (left - 1) step) :: rest) → Q (some (.int x t)) { s with heap := h', toks := tk }) :
    wpAny (model prog w) A (pyNext (.ref I)) Q E s := by
  have z := N _ (.head _)
  refine wpAny_pyNext_range_item z.1 hleft fun h' hit hs => h h' _ _ (F.change hs z.2.1 z.2.2) ?_
  intro p hp
  rcases List.mem_cons.mp hp with rfl | hp
  · exact ⟨hit, z.2⟩
  · exact ⟨(hs.2 _ (hne p hp)).trans (N p (.tail _ hp)).1, (N p (.tail _ hp)).2⟩
theorem next_range_end {x left step : Int} {Q : Option Value → Shared → Prop} (hh : A.handled = none) (F : Fr h₀ L s.heap m) (N : News h₀ L s.heap ((I, rangeIO x left step) :: rest)) (hne : ∀ q ∈ rest, q.1 ≠ I) (hleft : left ≤ 0)
    (h : ∀ h' tk, Fr h₀ L h' m → News h₀ L h' rest → Q none { s with heap := h', toks := tk }) :
    wpAny (model prog w) A (pyNext (.ref I)) Q E s := by
  have z := N _ (.head _)
  refine wpAny_pyNext_range_end hh z.1 hleft fun h' hs => h h' _ ⟨F.ns.at' fun o e => hs L o (Ne.symm z.2.1) e, fun b o e => hs b o (fun e' => by have z2 := z.2.2; rw [← e', e] at z2; cases z2) (F.keep b o e), F.above⟩ ?_
  intro p hp
  exact ⟨hs _ _ (hne p hp) (N p (.tail _ hp)).1, (N p (.tail _ hp)).2⟩
end
end Mine
end
section
open PySem PySem.W PyProof.Rows PySem.Calls PySem.Spec
set_option maxRecDepth 100000
set_option maxHeartbeats 4000000
namespace Mine
theorem sub_ri_reversed : isSubtype (.type "range_iterator") (.type "reversed") = pure false := by rw [isSubtype_type]; kernel_rfl
section
variable {prog : Program} {w : World} {A : Around} {E : Value → Shared → Prop} {s : Shared} {h₀ : Heap} {L I : Addr} {m : Str → Option Value} {news rest : List (Addr × Obj)} {r : Addr} {t u v : Tok}
theorem call_range_reversed {Q : Value → Shared → Prop} (hr : IsRange s.heap r 0 3 1 t u v)
    (h : Q (.ref s.heap.objs.size) { s with heap := s.heap.push (rangeIO 2 3 (-1)) }) : wpAny (model prog w) A (call (.builtin "range.__reversed__") [.ref r]) Q E s := by
  have hT : s.TypeIs (.ref r) "range" := ⟨_, hr, rfl⟩
  refine wpAny_call_entry F.slot_range_reversed hT F.entry_range_reversed ?_ (F.args_range_reversed_1 _)
  unfold Builtin.«range.__reversed__»
  refine wpAny_bind (wpAny_of_eq (a := Value.ref r) rfl ?_)
  have hf : wpAny (model prog w) A.in1 (Builtin.Range.rangeFields (.ref r)) (fun x s' => x = (0, 3, 1) ∧ s' = s) E s := by
    unfold Builtin.Range.rangeFields
    refine wpAny_bind (wpAny_field hr rfl (x := .int 0 t) rfl ?_)
    refine wpAny_bind (wpAny_of_eq (a := some 0) rfl ?_)
    refine wpAny_bind (wpAny_field hr rfl (x := .int 3 u) rfl ?_)
    refine wpAny_bind (wpAny_of_eq (a := some 3) rfl ?_)
    refine wpAny_bind (wpAny_field hr rfl (x := .int 1 v) rfl ?_)
    refine wpAny_bind (wpAny_of_eq (a := some 1) rfl ?_)
    exact wpAny_pure ⟨rfl, rfl⟩
  refine wpAny_bind (wpAny_mono hf (fun x s' hx => ?_) fun _ _ e => e)
  obtain ⟨rfl, rfl⟩ := hx
  dsimp only
  have e1 : (Builtin.Range.rangeFitsLong 0 && Builtin.Range.rangeFitsLong 3 && Builtin.Range.rangeFitsLong 1 && Builtin.Range.rangeFitsLong (-1) && Builtin.Range.rangeFitsLong (0 - 1) && Builtin.Range.rangeFitsLong (Builtin.Range.rangeSize 0 3 1)) = true := by decide +kernel
  rw [e1]
  simp only [Bool.not_true, Bool.false_eq_true, if_false, if_true]
  rw [show Builtin.Range.rangeSize 0 3 1 = 3 by decide +kernel]
  refine wpAny_bind (wpAny_newObj_type (wpAny_pure ⟨_, rfl, ?_⟩))
  exact h
theorem code_reversed_range {Q₁ : Value → Shared → Prop} (hr : IsRange s.heap r 0 3 1 t u v)
    (h : Q₁ (.ref s.heap.objs.size) { s with heap := s.heap.push (rangeIO 2 3 (-1)) }) :
    codeAny (model prog w) A (.call (.builtin "reversed.__new__") ⟨[.type "reversed", .ref r], []⟩) (wants Q₁ E) s := by
  have hT : s.TypeIs (.ref r) "range" := ⟨_, hr, rfl⟩
  refine codeAny_of_tree ?_
  show wpAny _ A.in1 (do checkBuiltinCall "reversed.__new__" ⟨[.type "reversed", .ref r], []⟩; again (.builtin "reversed.__new__" ⟨[.type "reversed", .ref r], []⟩)) _ _ s
  refine wpAny_bind (wpAny_of_eq (F.newCall_reversed_1 _) (wpAny_pure ⟨plainId_quiet F.plain_reversed_new _, codeAny_builtin F.entry_reversed_new ?_⟩))
  rw [Around.under_plainId F.plain_reversed_new _]
  unfold Builtin.«reversed.__new__»
  refine wpAny_bind (wpAny_of_eq (newClass_reversed _) ?_)
  try dsimp only
  refine wpAny_bind (wpAny_of_eq (a := ()) (by first | rfl | kernel_rfl) ?_)
  refine wpAny_bind (wpAny_of_eq (a := ()) (by first | rfl | kernel_rfl) ?_)
  try dsimp only
  refine wpAny_bind (wpAny_specialOf hT F.slot_range_reversed.lookup ?_)
  try dsimp only
  refine wpAny_bind (wpAny_of_eq (F.slot_range_reversed.bind _) ?_)
  try dsimp only
  first
  | rw [if_neg (show ¬ ((Value.builtin "range.__reversed__" == Value.none) = true) from Bool.false_ne_true)]
  | (show wpAny _ _ (if (Value.builtin "range.__reversed__" == Value.none) = true then _ else _) _ _ _; rw [if_neg (show ¬ ((Value.builtin "range.__reversed__" == Value.none) = true) from Bool.false_ne_true)])
  refine wpAny_bind (wpAny_rule ?_)
  refine wpAny_bind (m := runValue (.call (.builtin "range.__reversed__") ⟨[.ref r], []⟩)) (show wpAny _ _ (call (.builtin "range.__reversed__") [.ref r]) _ _ _ from call_range_reversed hr ?_)
  first
  | exact wpAny_pure h
  | exact wpAny_bind (wpAny_pure (wpAny_pure h))
theorem call_reversed_range {Q : Value → Shared → Prop} (hr : IsRange s.heap r 0 3 1 t u v)
    (h : Q (.ref s.heap.objs.size) { s with heap := s.heap.push (rangeIO 2 3 (-1)) }) : wpAny (model prog w) A (call (.type "reversed") [.ref r]) Q E s := by
  refine callType_other (U := "range_iterator") (Q₁ := fun obj s₁ => obj = .ref s.heap.objs.size ∧ s₁ = { s with heap := s.heap.push (rangeIO 2 3 (-1)) }) (by decide +kernel) F.create_reversed ⟨_, _, F.mro_reversed⟩ F.made_reversed sub_ri_reversed (F.typeCall_reversed_1 _) (code_reversed_range hr ⟨rfl, rfl⟩) ?_
  rintro obj s₁ ⟨rfl, rfl⟩
  exact ⟨⟨_, Heap.get?_push_size _ rfl, rfl⟩, h⟩
theorem rev_range3 {Q : Value → Shared → Prop} (F : Fr h₀ L s.heap m) (N : News h₀ L s.heap news) (hr : IsRange s.heap r 0 3 1 t u v)
    (h : ∀ D h', Fr h₀ L h' m → News h₀ L h' ((D, rangeIO 2 3 (-1)) :: news) → (∀ p ∈ news, p.1 ≠ D) → Q (.ref D) { s with heap := h' }) : wpAny (model prog w) A (call (.type "reversed") [.ref r]) Q E s := by
  refine call_reversed_range hr ?_
  exact h _ _ (F.push _) (News.push F N _) fun p hp => Nat.ne_of_lt (Heap.lt_size (N p hp).1)
theorem iter_rangeI {x left step : Int} {Q : Value → Shared → Prop} (N : News h₀ L s.heap news) (hm : (I, rangeIO x left step) ∈ news) (h : Q (.ref I) s) : wpAny (model prog w) A (pyIter (.ref I)) Q E s :=
  wpAny_pyIter_rangeiter (N _ hm).1 h
end
end Mine
end
section
open PySem PySem.W PyProof.Rows PySem.Calls PySem.Spec
set_option maxRecDepth 100000
set_option maxHeartbeats 4000000
namespace Mine
section
variable {prog : Program} {w : World} {A : Around} {E : Value → Shared → Prop} {s : Shared} {h₀ : Heap} {L : Addr} {m : Str → Option Value} {env : Env}
theorem comp_inv {elt : PySem.Expr} {x : Str} {scope : Scope} {cl : List (Str × Addr)} {S : List (Addr × Obj) → Prop} {P : Nat → Value → Prop} {Fin : List Value → List (Addr × Obj) → Prop} {n : Nat} {news : List (Addr × Obj)}
    (Inv : Nat → List Value → List (Addr × Obj) → Prop) (h0 : Inv 0 [] news)
    (step : ∀ i ys news, i < n → Inv i ys news → ∀ v I oI C oC D m₂ h tk (E' : Value → Shared → Prop), P i v → LCg.NsObj oC m₂ → m₂ x = some v → Fr h₀ L h m → News h₀ L h ((I, oI) :: (C, oC) :: (D, LCg.lst ys) :: news) → LCg.Off3 I C D news → ((@Ne Nat I C) ∧ (@Ne Nat I D) ∧ (@Ne Nat C D)) →
      wpAny (model prog w) A (eval elt (compEnvC scope cl C env)) (LCg.CompEnd h₀ L m { s with heap := h, toks := tk } I oI C oC D (LCg.lst ys) S (fun y news' => Inv (i + 1) (ys ++ [y]) news')) E' { s with heap := h, toks := tk })
    (fin : ∀ ys news, Inv n ys news → Fin ys news) : LCg.CompRest prog w A h₀ L m env elt x scope cl s S P Fin n 0 [] news := by
  have key : ∀ k i ys news, k + i = n → Inv i ys news → LCg.CompRest prog w A h₀ L m env elt x scope cl s S P Fin k i ys news := by
    intro k
    induction k with
    | zero =>
      intro i ys news e hi
      have : i = n := by lia
      subst this
      exact LCg.CompRest.zero (fin ys news hi)
    | succ k ih =>
      intro i ys news e hi
      refine LCg.CompRest.succ fun v I oI C oC D m₂ h tk E' hP hC hm F N O ne => ?_
      refine wpAny_mono (step i ys news (by lia) hi v I oI C oC D m₂ h tk E' hP hC hm F N O ne) (fun y s₂ hy => ?_) fun _ _ e => e
      obtain ⟨h', tk', news', rfl, F', N', O', hS', r'⟩ := hy
      exact ⟨h', tk', news', rfl, F', N', O', hS', ih (i + 1) _ _ (by lia) r'⟩
  exact key n 0 [] news (by lia) h0
end
end Mine
end
section
open PySem PySem.W PyProof.Rows PySem.Calls PySem.Spec
open PySem.Builtin PySem.Builtin.Str
set_option maxRecDepth 100000
set_option maxHeartbeats 4000000
namespace Mine
theorem entry_ascii : entryFor table "ascii" = some Builtin.«ascii» := entryFor_of_tree (by kernel_rfl)
theorem kind_ascii : builtinKind "ascii" = none := by decide +kernel
theorem plain_ascii : plainId "ascii" = true := by decide +kernel
theorem args_ascii1 (a : Value) : argsOk "ascii" ⟨[a], []⟩ := by unfold argsOk; kernel_rfl
noncomputable def escA (c : Nat) : List Nat := if c < 128 then [c] else [92, 120, 101, 57]
theorem flat_congr {f g : Nat → Array Nat} {l : Array Nat} (h : ∀ c ∈ l, f c = g c) : l.flatMap f = l.flatMap g := by
  apply Array.toList_inj.mp
  rw [Array.toList_flatMap, Array.toList_flatMap]
  have h' : ∀ c ∈ l.toList, f c = g c := fun c hc => h c (Array.mem_toList_iff.mp hc)
  generalize l.toList = xs at h'
  induction xs with
  | nil => rfl
  | cons a r ih =>
    rw [List.flatMap_cons, List.flatMap_cons, h' a (.head _), ih fun c hc => h' c (.tail _ hc)]
section
variable {prog : Program} {w : World} {A : Around} {E : Value → Shared → Prop} {s : Shared}
theorem ascii_of_str {x : Str} {t : Tok} {Q : Value → Shared → Prop} (hx : (reprText x).length ≤ 1000) (hc : ∀ c ∈ (reprText x).cps, c < 128 ∨ c = 233)
    (h : ∀ t tk, Q (.str ⟨(reprText x).cps.flatMap fun c => (escA c).toArray⟩ t) { s with toks := tk }) : wpAny (model prog w) A (call (.builtin "ascii") [.str x t]) Q E s := by
  have hsz : (reprText x).length ≤ sizeLine := by rw [sizeLine_eq]; lia
  refine Calls.call_function_entry kind_ascii plain_ascii entry_ascii (args_ascii1 _) ?_
  unfold Builtin.«ascii»
  refine wpAny_bind (m := oneArg "ascii" _) (wpAny_pure ?_)
  simp only [cRoomFor, show ([Value.str x t].any Value.onHeap) = false from rfl, Bool.false_eq_true, if_false, pure_bind]
  refine wpAny_bind (m := callSpecialIfBound? (.str x t) (Str.ofString "__repr__")) (wpAny_callSpecialIfBound?_slot (name := Str.ofString "__repr__") (typeIs_str _ _ _) F.slot_str_repr (call_gives F.slot_str_repr (typeIs_str _ _ _) F.entry_str_repr (F.args_str_repr_1 _) (gives_str_repr x t) ⟨hsz, ?_⟩))
  dsimp only
  refine wpAny_bind (wpAny_of_eq (a := some (reprText x)) rfl ?_)
  dsimp only
  by_cases hall : ((reprText x).cps.all fun x => decide (x < 128)) = true
  · rw [if_pos hall]
    refine wpAny_bind (wpAny_rule (wpAny_pure ⟨_, rfl, ?_⟩))
    have e : (⟨(reprText x).cps.flatMap fun c => (escA c).toArray⟩ : Str) = reprText x := by
      have h1 : (reprText x).cps.flatMap (fun c => (escA c).toArray) = (reprText x).cps.flatMap (fun c => #[c]) := flat_congr fun c hcm => by
        have := Array.all_eq_true_iff_forall_mem.mp hall c hcm
        unfold escA
        rw [if_pos (by simpa using this)]
      rw [h1]
      have h2 : (reprText x).cps.flatMap (fun c => #[c]) = (reprText x).cps := by
        apply Array.toList_inj.mp
        rw [Array.toList_flatMap]
        simp
      rw [h2]
    have h' := h s.toks (s.toks + 1)
    rw [e] at h'
    exact h'
  · rw [if_neg hall]
    refine wpAny_bind (wpAny_letGo ?_)
    have hno : (decide (10 * (reprText x).length > sizeLine)) = false := by
      rw [sizeLine_eq]; exact decide_eq_false (by lia)
    rw [hno]
    simp only [Bool.false_and, Bool.false_eq_true, if_false]
    rw [flat_congr (g := fun c => (escA c).toArray) (fun c hcm => ?_)]
    · have hlen : (reprText x).cps.toList.flatMap escA = ((reprText x).cps.flatMap fun c => (escA c).toArray).toList := by
        rw [Array.toList_flatMap]
      have hle : ((reprText x).cps.toList.flatMap escA).length ≤ 4 * (reprText x).cps.toList.length := by
        generalize (reprText x).cps.toList = l
        induction l with
        | nil => exact Nat.le_refl _
        | cons a r ih =>
          rw [List.flatMap_cons, List.length_append, List.length_cons]
          have : (escA a).length ≤ 4 := by unfold escA; split <;> simp
          lia
      refine wpAny_bind (wpAny_mkStr (wpAny_pure ⟨_, rfl, h _ _⟩) ?_)
      show ((reprText x).cps.flatMap fun c => (escA c).toArray).size ≤ sizeLine
      rw [← Array.length_toList, ← hlen, sizeLine_eq]
      have : (reprText x).cps.toList.length ≤ 1000 := by rw [Array.length_toList]; exact hx
      lia
    · rcases hc c hcm with h1 | rfl
      · unfold escA
        rw [if_pos h1]
        show (if c < 128 then [c] else _).toArray = _
        rw [if_pos h1]
      · rfl
end
end Mine
end
section
open PySem PySem.W PyProof.Rows PySem.Calls PySem.Spec
set_option maxRecDepth 100000
set_option maxHeartbeats 4000000
namespace Mine
theorem lines_D2 : True := by
  w_top off
  k_with_none
  k_with "eval Name" => (k_here; (with_reducible show wpAny _ _ (eval (PySem.Expr.Name _ _) (envOf _ _ _ _ _)) _ _ _); k_dflt (refine' ld ?zzk1 ?zzk2 ?_; (case zzk1 => k_asm); (case zzk2 => (repeat (first | assumption | exact if_pos rfl | refine (if_neg (by decide +kernel)).trans ?_))); k_whole))
  k_with "subscriptTail Name Name ref int" => (k_here; k_dflt (refine' item_pair ?zzk1 ?zzk2 ?zzk3 ?zzk4 ?zzk5 ?_ ?zzk6; (case zzk1 => k_asm); (case zzk2 => k_asm); (case zzk3 => lia); (case zzk4 => lia); (case zzk5 => lia); (case zzk6 => with_unfolding_all rfl); k_whole); intro _ _ _)
  k_with "compareOp Lt ref ref" => (k_here; k_dflt (refine' lt_at ?zzk1 ?zzk2 ?zzk3 ?zzk4 ?zzk5 ?_; (case zzk1 => k_asm); (case zzk2 => exact fun _ h => List.Mem.tail _ h); (case zzk3 => k_asm); (case zzk4 => k_asm); (case zzk5 => ktr_units); k_whole))
  k_with "setItem ref int ref" => (k_here; k_dflt (refine' set_at ?zzk1 ?zzk2 ?zzk3 ?zzk4 ?zzk5 ?zzk6 ?_; (case zzk1 => k_asm); (case zzk2 => first | k_asm | exact news_tail (by k_asm)); (case zzk3 => k_asm); (case zzk4 => lia); (case zzk5 => lia); (case zzk6 => lia); k_whole); intro _ _ _; (try k_sweep))
  k_with "exec While Compare cons nil" => refine hold ?_
  k_with "storeName" => (k_here; k_dflt (first | (refine' st_ofI ?zzk1 ?zzk2 ?_; (case zzk1 => k_asm); (case zzk2 => k_asm); k_whole; intro _ _ _ _ _) | (refine' st_ofS ?zzk1 ?zzk2 ?_; (case zzk1 => k_asm); (case zzk2 => k_asm); k_whole; intro _ _ _ _ _) | (refine' st_of ?zzk1 ?zzk2 ?_; (case zzk1 => k_asm); (case zzk2 => k_asm); k_whole; intro _ _ _ _)); (try k_sweep); (try dsimp only))
  k_with "binaryOp RShift int int" => refine rshift_one ?_
  k_with "call builtin:len" => (k_here; (with_reducible show wpAny _ _ (call (Value.builtin "len") [Value.ref _]) _ _ _); k_dflt (refine' len_at ?zzk1 ?zzk2 ?zzk3 ?_; (case zzk1 => k_asm); (case zzk2 => k_mem); (case zzk3 => (try simp only [List.length_append, List.length_singleton, List.length_set]); lia); k_whole); intro _ _; (try dsimp only))
  k_with "subscriptTail Name Constant ref int" => (k_here; k_dflt (refine' item_pair ?zzk1 ?zzk2 ?zzk3 ?zzk4 ?zzk5 ?_ ?zzk6; (case zzk1 => k_asm); (case zzk2 => k_asm); (case zzk3 => lia); (case zzk4 => lia); (case zzk5 => lia); (case zzk6 => with_unfolding_all rfl); k_whole); intro _ _ _)
  k_with "call builtin:list.append" => (k_here; (with_reducible show wpAny _ _ (call (Value.builtin _) [Value.ref _, _]) _ _ _); k_dflt (refine' append_pair ?zzk1 ?zzk2 ?zzk3 ?zzk4 ?_; (case zzk1 => k_asm); (case zzk2 => k_asm); (case zzk3 => k_asm); (case zzk4 => lia); k_whole); intro _ _ _ _; (try k_sweep); (try dsimp only))
  k_with "call builtin:list.pop" => (k_here; (with_reducible show wpAny _ _ (call (Value.builtin _) [Value.ref _]) _ _ _); k_dflt (refine' pop_pair ?zzk1 ?zzk2 ?zzk3 ?zzk4 ?zzk5 ?_; (case zzk1 => k_asm); (case zzk2 => k_asm); (case zzk3 => k_asm); (case zzk4 => (try simp only [List.length_append, List.length_singleton]); lia); (case zzk5 => first | assumption | exact rfl); k_whole); intro _ _ _ _; (try k_sweep); (try dsimp only))
  k_with "truthy ref" => (k_here; k_dflt (refine' truthy_pair ?zzk1 ?zzk2 ?_; (case zzk1 => k_asm); (case zzk2 => lia); k_whole); intro _; (try dsimp only))
  k_with "WhlIf" => (refine' whlIf_split ?_ ?_ <;> (intro hc'; (try dsimp only); (try simp only [decide_eq_true_eq, decide_eq_false_iff_not] at hc'); (try (revert hc'; intro _))))
  k_with "WPost" => (try dsimp only); first | (refine wpost_brk ?_; (try dsimp only)) | (refine wpost_ret ?_; (try dsimp only)) | refine hold ?_
  trivial
/-- the way a def of ours is called: from any frame -/
noncomputable abbrev Call1 (w : World) (p : Program) (loose : List Str) (mean : ExcName → Option Value) (mg mb : Str → Option Value) (f : Addr) (news : List (Addr × Obj)) (vs : List Value) (room : Nat) (units : Nat)
    (Ret : (Value → Shared → Prop) → Heap → Addr → (Str → Option Value) → Shared → Prop) : Prop :=
  ∀ (dp un : Nat) (gd : Option (List Code)) (cn : Str) (cs : Scope) (a : Addr) (ccd : Value) (cl : List (Str × Addr)) (outer : List Env) (A₀ : Around) (base h₀ : Heap) (L : Addr) (m : Str → Option Value) (s : Shared) (Q E : Value → Shared → Prop),
    Below A₀ base outer h₀ → Fr h₀ L s.heap m → (hd.heap_39 w.params).In h₀ → News h₀ L s.heap news → Top p loose mean mg mb h₀ → cs.kind = .function →
    dp + room < recursionLimit → un + units < cLine → Ret Q h₀ L m s →
      wpAny (model PySem.Challenge.rw_ij0044_01.row.prog w) (ktrTop dp un gd cn cs L a ccd cl outer) (call (.ref f) vs) Q E s
theorem fr_is {h₀ h : Heap} {L : Addr} {m m' : Str → Option Value} (F : Fr h₀ L h m) (e : m = m') : Fr h₀ L h m' := e ▸ F
/-- between two turns of _siftdown -/
inductive TurnD (hp : Addr) (n : Nat) (rest : List (Addr × Obj)) (κ : Value → Str × Int) (start : Int) (t1 : Tok) (b : Addr) (its : List Value) (pos : Nat) (g' : Heap) (L' : Addr) (s : Shared) (x : List Value × Nat) : Shared → Prop where
  | mk (h' : Heap) (tk : Nat) (m' : Str → Option Value) (t : Tok) : Fr g' L' h' m' → News g' L' h' ((hp, listOf x.1.toArray n) :: rest) → m' (Str.ofString "heap") = some (Value.ref hp) → m' (Str.ofString "startpos") = some (Value.int start t1) →
      m' (Str.ofString "pos") = some (Value.int x.2 t) → m' (Str.ofString "newitem") = some (Value.ref b) → x.2 < x.1.length → x.1.length = its.length → (∀ v ∈ x.1, PairAt rest v (κ v)) →
      sd (fun a b => pLt (κ a) (κ b)) (Value.ref b) start.toNat x.1 x.2 = sd (fun a b => pLt (κ a) (κ b)) (Value.ref b) start.toNat its pos → TurnD hp n rest κ start t1 b its pos g' L' s x { s with heap := h', toks := tk }
theorem siftdown_spec (w : World) (p : Program) (loose : List Str) (mean : ExcName → Option Value) (mg mb : Str → Option Value) (hp : Addr) (its : List Value) (n : Nat) (rest : List (Addr × Obj))
    (hne : ∀ q ∈ rest, q.1 ≠ hp) (κ : Value → Str × Int) (hκ : ∀ v ∈ its, PairAt rest v (κ v)) (start pos : Int) (t1 t2 : Tok) (hs : 0 ≤ start) (hp0 : 0 ≤ pos) (hpos : pos < its.length) (hfit : its.length < 2 ^ 20) :
    Call1 w p loose mean mg mb 148 ((hp, listOf its.toArray n) :: rest) [.ref hp, .int start t1, .int pos t2] 1 8
      (fun Q h₀ L m s => ∀ (h' : Heap) (tk' : Nat) (new : Value), its[pos.toNat]? = some new → Fr h₀ L h' m → News h₀ L h' ((hp, listOf (sd (fun a b => pLt (κ a) (κ b)) new start.toNat its pos.toNat).toArray n) :: rest) → Q .none { s with heap := h', toks := tk' }) := by
  unfold Call1
  k_fill
  intro dp un gd cn cs a ccd cl outer A₀ base h₀ L m s Q E B F X N T hk hroom hun hret
  refine wpAny_call ?_
  k_dflt cell_enter
  rename_i g' L' h' FG F' N' B' X' T'
  generalize (s.toks + _ : Nat) = tk₀
  generalize hm₀ : (fun (y : Str) => (List.lookup y _ : Option Value)) = m₀ at F'
  have hm1 : m₀ (Str.ofString "heap") = some (Value.ref hp) := by rw [← hm₀]; exact rfl
  have hm2 : m₀ (Str.ofString "startpos") = some (Value.int start t1) := by rw [← hm₀]; exact rfl
  have hm3 : m₀ (Str.ofString "pos") = some (Value.int pos t2) := by rw [← hm₀]; exact rfl
  clear hm₀
  k_steps
  rename_i b hb hpb h₁ tk₁ F₁ N₁
  refine unhold ?_
  refine while_ind (TurnD hp n rest κ start t1 b its pos.toNat g' L' s) (fun x => x.2) ?hE ?turn (its, pos.toNat) ?h0
  case hE => first | passes_own | with_unfolding_all passes_own
  case h0 =>
    refine .mk h₁ _ _ t2 F₁ N₁ ?_ ?_ ?_ lk_here ?_ rfl hκ rfl
    · (repeat (first | assumption | exact if_pos rfl | refine (if_neg (by decide +kernel)).trans ?_))
    · (repeat (first | assumption | exact if_pos rfl | refine (if_neg (by decide +kernel)).trans ?_))
    · rw [show ((pos.toNat : Nat) : Int) = pos by lia]
      (repeat (first | assumption | exact if_pos rfl | refine (if_neg (by decide +kernel)).trans ?_))
    · dsimp only; lia
  case turn =>
    clear hm1 hm2 hm3 F₁ N₁ N F
    rintro ⟨xs, j⟩ st ⟨h₂, tk, m₁, t3, F₂, N₂, hm1, hm2, hm3, hm4, hj2, hlen, hκ', hsd⟩
    dsimp only at N₂ hm3 hj2 hlen hκ' hsd
    k_steps
    · rename_i hc h₃ t₃ tk₃ c hc2 hpc h₄ tk₄ hlt h₅ h₆ t₆ tk₆ F₆ N₆
      refine unhold ?_
      have hj : start.toNat < j := by lia
      have hjj : (((j : Int) - 1) / 2).toNat = (j - 1) / 2 := by lia
      have hj0 : ((j : Int)).toNat = j := by lia
      rw [hjj] at hc2
      rw [hj0] at N₆
      refine wpost_cont (y := (xs.set j (Value.ref c), (j - 1) / 2)) (by dsimp only; lia) (.mk _ _ _ t₆ F₆ N₆ ?_ ?_ ?_ ?_ ?_ ?_ ?_ ?_)
      · (repeat (first | assumption | exact if_pos rfl | refine (if_neg (by decide +kernel)).trans ?_))
      · (repeat (first | assumption | exact if_pos rfl | refine (if_neg (by decide +kernel)).trans ?_))
      · dsimp only; rw [show (((j - 1) / 2 : Nat) : Int) = ((j : Int) - 1) / 2 by lia]; (repeat (first | assumption | exact if_pos rfl | refine (if_neg (by decide +kernel)).trans ?_))
      · (repeat (first | assumption | exact if_pos rfl | refine (if_neg (by decide +kernel)).trans ?_))
      · dsimp only; rw [List.length_set]; lia
      · dsimp only; rw [List.length_set]; exact hlen
      · intro v hv
        rcases List.mem_or_eq_of_mem_set hv with hv | rfl
        · exact hκ' v hv
        · exact hpc
      · dsimp only
        rw [← hsd]
        conv => rhs; rw [sd_eq, if_pos hj]
        simp only [hc2, hlt, if_true]
    · rename_i hc h₃ t₃ tk₃ c hc2 hpc h₄ tk₄ hlt h₅ F₆ N₆ kF kN Tc kX
      have hj : start.toNat < j := by lia
      have hjj : (((j : Int) - 1) / 2).toNat = (j - 1) / 2 := by lia
      have hj0 : ((j : Int)).toNat = j := by lia
      rw [hjj] at hc2
      rw [hj0] at kN
      refine hret _ _ _ hb kF ?_
      rw [← hsd, sd_eq, if_pos hj]
      simp only [hc2, hlt]
      exact kN
    · rename_i hc h₅ F₆ N₆ kF kN Tc kX
      have hj : ¬ start.toNat < j := by lia
      have hj0 : ((j : Int)).toNat = j := by lia
      rw [hj0] at kN
      refine hret _ _ _ hb kF ?_
      rw [← hsd, sd_eq, if_neg hj]
      exact kN
end Mine
end
section
open PySem PySem.W PyProof.Rows PySem.Calls PySem.Spec
set_option maxRecDepth 100000
set_option maxHeartbeats 4000000
namespace Mine
theorem lines_D3 : True := by
  w_top off
  k_with_none
  k_with "eval Name" => (k_here; (with_reducible show wpAny _ _ (eval (PySem.Expr.Name _ _) (envOf _ _ _ _ _)) _ _ _); k_dflt (refine' ld ?zzk1 ?zzk2 ?_; (case zzk1 => k_asm); (case zzk2 => (repeat (first | assumption | exact if_pos rfl | refine (if_neg (by decide +kernel)).trans ?_))); k_whole))
  k_with "subscriptTail Name Name ref int" => (k_here; k_dflt (refine' item_pair ?zzk1 ?zzk2 ?zzk3 ?zzk4 ?zzk5 ?_ ?zzk6; (case zzk1 => k_asm); (case zzk2 => k_asm); (case zzk3 => lia); (case zzk4 => lia); (case zzk5 => lia); (case zzk6 => with_unfolding_all rfl); k_whole); intro _ _ _)
  k_with "compareOp Lt ref ref" => (k_here; k_dflt (refine' lt_at ?zzk1 ?zzk2 ?zzk3 ?zzk4 ?zzk5 ?_; (case zzk1 => k_asm); (case zzk2 => exact fun _ h => List.Mem.tail _ h); (case zzk3 => k_asm); (case zzk4 => k_asm); (case zzk5 => ktr_units); k_whole))
  k_with "setItem ref int ref" => (k_here; k_dflt (refine' set_at ?zzk1 ?zzk2 ?zzk3 ?zzk4 ?zzk5 ?zzk6 ?_; (case zzk1 => k_asm); (case zzk2 => first | k_asm | exact news_tail (by k_asm)); (case zzk3 => k_asm); (case zzk4 => lia); (case zzk5 => lia); (case zzk6 => lia); k_whole); intro _ _ _; (try k_sweep))
  k_with "exec While Compare cons nil" => refine hold ?_
  k_with "storeName" => (k_here; k_dflt (first | (refine' st_ofI ?zzk1 ?zzk2 ?_; (case zzk1 => k_asm); (case zzk2 => k_asm); k_whole; intro _ _ _ _ _) | (refine' st_ofS ?zzk1 ?zzk2 ?_; (case zzk1 => k_asm); (case zzk2 => k_asm); k_whole; intro _ _ _ _ _) | (refine' st_of ?zzk1 ?zzk2 ?_; (case zzk1 => k_asm); (case zzk2 => k_asm); k_whole; intro _ _ _ _)); (try k_sweep); (try dsimp only))
  k_with "binaryOp RShift int int" => refine rshift_one ?_
  k_with "call builtin:len" => (k_here; (with_reducible show wpAny _ _ (call (Value.builtin "len") [Value.ref _]) _ _ _); k_dflt (refine' len_at ?zzk1 ?zzk2 ?zzk3 ?_; (case zzk1 => k_asm); (case zzk2 => k_mem); (case zzk3 => (try simp only [List.length_append, List.length_singleton, List.length_set]); lia); k_whole); intro _ _; (try dsimp only))
  k_with "subscriptTail Name Constant ref int" => (k_here; k_dflt (refine' item_pair ?zzk1 ?zzk2 ?zzk3 ?zzk4 ?zzk5 ?_ ?zzk6; (case zzk1 => k_asm); (case zzk2 => k_asm); (case zzk3 => lia); (case zzk4 => lia); (case zzk5 => lia); (case zzk6 => with_unfolding_all rfl); k_whole); intro _ _ _)
  k_with "call builtin:list.append" => (k_here; (with_reducible show wpAny _ _ (call (Value.builtin _) [Value.ref _, _]) _ _ _); k_dflt (refine' append_pair ?zzk1 ?zzk2 ?zzk3 ?zzk4 ?_; (case zzk1 => k_asm); (case zzk2 => k_asm); (case zzk3 => k_asm); (case zzk4 => lia); k_whole); intro _ _ _ _; (try k_sweep); (try dsimp only))
  k_with "call builtin:list.pop" => (k_here; (with_reducible show wpAny _ _ (call (Value.builtin _) [Value.ref _]) _ _ _); k_dflt (refine' pop_pair ?zzk1 ?zzk2 ?zzk3 ?zzk4 ?zzk5 ?_; (case zzk1 => k_asm); (case zzk2 => k_asm); (case zzk3 => k_asm); (case zzk4 => (try simp only [List.length_append, List.length_singleton]); lia); (case zzk5 => first | assumption | exact rfl); k_whole); intro _ _ _ _; (try k_sweep); (try dsimp only))
  k_with "truthy ref" => (k_here; k_dflt (refine' truthy_pair ?zzk1 ?zzk2 ?_; (case zzk1 => k_asm); (case zzk2 => lia); k_whole); intro _; (try dsimp only))
  k_with "WhlIf" => (refine' whlIf_split ?_ ?_ <;> (intro hc'; (try dsimp only); (try simp only [decide_eq_true_eq, decide_eq_false_iff_not] at hc'); (try (revert hc'; intro _))))
  k_with "WPost" => (try dsimp only); first | (refine wpost_brk ?_; (try dsimp only)) | (refine wpost_ret ?_; (try dsimp only)) | refine hold ?_
  trivial
theorem lines_D31 : True := by
  k_with "call ref" => (k_here; (with_reducible show wpAny _ _ (call (Value.ref 148) _) _ _ _); k_dflt (refine' siftdown_spec _ _ _ _ _ _ _ _ _ _ ?zzhne _ ?hκ _ _ _ _ ?zzhs ?zzhp0 ?zzhpos ?zzhfit _ _ _ _ _ _ _ _ _ _ _ _ _ _ _ _ _ ?zzB ?zzF ?zzX ?zzN ?zzT ?zzhk ?zzhroom ?zzhun ?_; (case zzB => k_asm); (case zzF => k_asm); (case zzX => k_asm); (case zzN => k_asm); (case zzT => k_asm); (case zzhk => first | exact rfl | assumption); (case zzhne => k_asm); (case hκ => first | k_asm | exact pairs_set (by assumption) (by assumption) | exact pairs_app (by assumption) (by assumption)); (case zzhs => lia); (case zzhp0 => (try simp only [List.length_append, List.length_singleton, List.length_set]); lia); (case zzhpos => (try simp only [List.length_append, List.length_singleton, List.length_set]); lia); (case zzhfit => (try simp only [List.length_append, List.length_singleton, List.length_set]); lia); (case zzhroom => ktr_room); (case zzhun => ktr_units); k_whole); intro _ _ _ _ _ _; (try dsimp only))
  trivial
/-- between two turns of _siftup -/
inductive TurnU (hp : Addr) (n : Nat) (rest : List (Addr × Obj)) (κ : Value → Str × Int) (pos : Int) (b : Addr) (its : List Value) (g' : Heap) (L' : Addr) (s : Shared) (x : List Value × Nat) : Shared → Prop where
  | mk (h' : Heap) (tk : Nat) (m' : Str → Option Value) (t3 t4 t5 t6 : Tok) : Fr g' L' h' m' → News g' L' h' ((hp, listOf x.1.toArray n) :: rest) → m' (Str.ofString "heap") = some (Value.ref hp) → m' (Str.ofString "startpos") = some (Value.int pos t3) → m' (Str.ofString "endpos") = some (Value.int its.length t4) →
      m' (Str.ofString "pos") = some (Value.int x.2 t5) → m' (Str.ofString "childpos") = some (Value.int (2 * x.2 + 1) t6) → m' (Str.ofString "newitem") = some (Value.ref b) → x.2 < x.1.length → x.1.length = its.length → (∀ v ∈ x.1, PairAt rest v (κ v)) →
      suGo (fun a b => pLt (κ a) (κ b)) x.1 x.2 = suGo (fun a b => pLt (κ a) (κ b)) its pos.toNat → TurnU hp n rest κ pos b its g' L' s x { s with heap := h', toks := tk }
theorem siftup_spec (w : World) (p : Program) (loose : List Str) (mean : ExcName → Option Value) (mg mb : Str → Option Value) (hp : Addr) (its : List Value) (n : Nat) (rest : List (Addr × Obj))
    (hne : ∀ q ∈ rest, q.1 ≠ hp) (κ : Value → Str × Int) (hκ : ∀ v ∈ its, PairAt rest v (κ v)) (pos : Int) (t2 : Tok) (hp0 : 0 ≤ pos) (hpos : pos < its.length) (hfit : its.length < 2 ^ 20) :
    Call1 w p loose mean mg mb 155 ((hp, listOf its.toArray n) :: rest) [.ref hp, .int pos t2] 2 16
      (fun Q h₀ L m s => ∀ (h' : Heap) (tk' : Nat) (new : Value), its[pos.toNat]? = some new → Fr h₀ L h' m → News h₀ L h' ((hp, listOf (su (fun a b => pLt (κ a) (κ b)) new its pos.toNat).toArray n) :: rest) → Q .none { s with heap := h', toks := tk' }) := by
  unfold Call1
  k_fill
  intro dp un gd cn cs a ccd cl outer A₀ base h₀ L m s Q E B F X N T hk hroom hun hret
  refine wpAny_call ?_
  k_dflt cell_enter
  rename_i g' L' h' FG F' N' B' X' T'
  generalize (s.toks + _ : Nat) = tk₀
  generalize hm₀ : (fun (y : Str) => (List.lookup y _ : Option Value)) = m₀ at F'
  have hm1 : m₀ (Str.ofString "heap") = some (Value.ref hp) := by rw [← hm₀]; exact rfl
  have hm3 : m₀ (Str.ofString "pos") = some (Value.int pos t2) := by rw [← hm₀]; exact rfl
  clear hm₀
  k_steps
  rename_i tA tkA hA tB tkB hB tC tkC b hb hpb hD tkD h₁ tE tk₁ F₁ N₁
  refine unhold ?_
  refine while_ind (TurnU hp n rest κ pos b its g' L' s) (fun x => x.1.length - x.2) ?hE ?turn (its, pos.toNat) ?h0
  case hE => first | passes_own | with_unfolding_all passes_own
  case h0 =>
    have e0 : ((pos.toNat : Nat) : Int) = pos := by lia
    refine .mk h₁ _ _ tC tB t2 tE F₁ N₁ ?_ ?_ ?_ ?_ ?_ ?_ ?_ rfl hκ rfl
    · (repeat (first | assumption | exact if_pos rfl | refine (if_neg (by decide +kernel)).trans ?_))
    · (repeat (first | assumption | exact if_pos rfl | refine (if_neg (by decide +kernel)).trans ?_))
    · (repeat (first | assumption | exact if_pos rfl | refine (if_neg (by decide +kernel)).trans ?_))
    · dsimp only; rw [e0]; (repeat (first | assumption | exact if_pos rfl | refine (if_neg (by decide +kernel)).trans ?_))
    · dsimp only; rw [e0]; (repeat (first | assumption | exact if_pos rfl | refine (if_neg (by decide +kernel)).trans ?_))
    · (repeat (first | assumption | exact if_pos rfl | refine (if_neg (by decide +kernel)).trans ?_))
    · dsimp only; lia
  case turn =>
    clear hm1 hm3 F₁ N₁ N F
    rintro ⟨xs, j⟩ st ⟨h₂, tk, m₁, t3, t4, t5, t6, F₂, N₂, hm1, hm2, hm3, hm4, hm5, hm6, hj2, hlen, hκ', hsu⟩
    dsimp only at N₂ hm4 hm5 hj2 hlen hκ' hsu
    k_steps
    · rename_i hc h₃ t₃ tk₃ hc2 c1 hc1 hpc1 c2 hc2' hpc2 hlt c hcc hpc h₄ h₅ t₅ tk₅ h₆ t₆ tk₆ F₆ N₆
      refine unhold ?_
      have e1 : (2 * (j : Int) + 1).toNat = 2 * j + 1 := by lia
      have e2 : (2 * (j : Int) + 1 + 1).toNat = 2 * j + 2 := by lia
      have e3 : ((j : Int)).toNat = j := by lia
      rw [e1] at hc1 hcc
      rw [e2] at hc2'
      rw [e3] at N₆
      refine wpost_next (y := (xs.set j (Value.ref c), 2 * j + 1)) (by dsimp only; rw [List.length_set]; lia) (.mk _ _ _ t3 t4 t₅ t₆ F₆ N₆ ?_ ?_ ?_ ?_ ?_ ?_ ?_ ?_ ?_ ?_)
      · (repeat (first | assumption | exact if_pos rfl | refine (if_neg (by decide +kernel)).trans ?_))
      · (repeat (first | assumption | exact if_pos rfl | refine (if_neg (by decide +kernel)).trans ?_))
      · (repeat (first | assumption | exact if_pos rfl | refine (if_neg (by decide +kernel)).trans ?_))
      · dsimp only; rw [show ((2 * j + 1 : Nat) : Int) = 2 * (j : Int) + 1 by lia]; (repeat (first | assumption | exact if_pos rfl | refine (if_neg (by decide +kernel)).trans ?_))
      · dsimp only; rw [show ((2 * j + 1 : Nat) : Int) = 2 * (j : Int) + 1 by lia]; (repeat (first | assumption | exact if_pos rfl | refine (if_neg (by decide +kernel)).trans ?_))
      · (repeat (first | assumption | exact if_pos rfl | refine (if_neg (by decide +kernel)).trans ?_))
      · dsimp only; rw [List.length_set]; lia
      · dsimp only; rw [List.length_set]; exact hlen
      · exact pairs_set hκ' hpc
      · dsimp only
        rw [← hsu]
        exact suGo_step (by lia) (suChild_l hc1 hc2' hlt) hcc
    · rename_i hc h₃ t₃ tk₃ hc2 c1 hc1 hpc1 c2 hc2' hpc2 hlt hX tX tkX c hcc hpc h₄ h₅ t₅ tk₅ h₆ t₆ tk₆ F₆ N₆
      refine unhold ?_
      have e1 : (2 * (j : Int) + 1).toNat = 2 * j + 1 := by lia
      have e2 : (2 * (j : Int) + 1 + 1).toNat = 2 * j + 2 := by lia
      have e3 : ((j : Int)).toNat = j := by lia
      rw [e1] at hc1
      rw [e2] at hc2' hcc
      rw [e3] at N₆
      refine wpost_next (y := (xs.set j (Value.ref c), 2 * j + 2)) (by dsimp only; rw [List.length_set]; lia) (.mk _ _ _ t3 t4 t₅ t₆ F₆ N₆ ?_ ?_ ?_ ?_ ?_ ?_ ?_ ?_ ?_ ?_)
      · (repeat (first | assumption | exact if_pos rfl | refine (if_neg (by decide +kernel)).trans ?_))
      · (repeat (first | assumption | exact if_pos rfl | refine (if_neg (by decide +kernel)).trans ?_))
      · (repeat (first | assumption | exact if_pos rfl | refine (if_neg (by decide +kernel)).trans ?_))
      · dsimp only; rw [show ((2 * j + 2 : Nat) : Int) = 2 * (j : Int) + 1 + 1 by lia]; (repeat (first | assumption | exact if_pos rfl | refine (if_neg (by decide +kernel)).trans ?_))
      · dsimp only; rw [show ((2 * j + 2 : Nat) : Int) = 2 * (j : Int) + 1 + 1 by lia]; (repeat (first | assumption | exact if_pos rfl | refine (if_neg (by decide +kernel)).trans ?_))
      · (repeat (first | assumption | exact if_pos rfl | refine (if_neg (by decide +kernel)).trans ?_))
      · dsimp only; rw [List.length_set]; lia
      · dsimp only; rw [List.length_set]; exact hlen
      · exact pairs_set hκ' hpc
      · dsimp only
        rw [← hsu]
        exact suGo_step (by lia) (suChild_r hc1 hc2' hlt) hcc
    · rename_i hc h₃ t₃ tk₃ hc2 c hcc hpc h₄ h₅ t₅ tk₅ h₆ t₆ tk₆ F₆ N₆
      refine unhold ?_
      have e1 : (2 * (j : Int) + 1).toNat = 2 * j + 1 := by lia
      have e3 : ((j : Int)).toNat = j := by lia
      rw [e1] at hcc
      rw [e3] at N₆
      refine wpost_next (y := (xs.set j (Value.ref c), 2 * j + 1)) (by dsimp only; rw [List.length_set]; lia) (.mk _ _ _ t3 t4 t₅ t₆ F₆ N₆ ?_ ?_ ?_ ?_ ?_ ?_ ?_ ?_ ?_ ?_)
      · (repeat (first | assumption | exact if_pos rfl | refine (if_neg (by decide +kernel)).trans ?_))
      · (repeat (first | assumption | exact if_pos rfl | refine (if_neg (by decide +kernel)).trans ?_))
      · (repeat (first | assumption | exact if_pos rfl | refine (if_neg (by decide +kernel)).trans ?_))
      · dsimp only; rw [show ((2 * j + 1 : Nat) : Int) = 2 * (j : Int) + 1 by lia]; (repeat (first | assumption | exact if_pos rfl | refine (if_neg (by decide +kernel)).trans ?_))
      · dsimp only; rw [show ((2 * j + 1 : Nat) : Int) = 2 * (j : Int) + 1 by lia]; (repeat (first | assumption | exact if_pos rfl | refine (if_neg (by decide +kernel)).trans ?_))
      · (repeat (first | assumption | exact if_pos rfl | refine (if_neg (by decide +kernel)).trans ?_))
      · dsimp only; rw [List.length_set]; lia
      · dsimp only; rw [List.length_set]; exact hlen
      · exact pairs_set hκ' hpc
      · dsimp only
        rw [← hsu]
        exact suGo_step (by lia) (suChild_1 (by lia)) hcc
    · rename_i hc h₃ F₃ N₃ h₄ tk₄ new hn F₄ N₄ kF kN Tc kX
      have e3 : ((j : Int)).toNat = j := by lia
      rw [e3] at hn kN
      have hnew : new = Value.ref b := by
        rw [List.getElem?_set_self hj2] at hn
        exact (Option.some.inj hn).symm
      subst hnew
      refine hret _ _ _ hb kF ?_
      unfold su
      rw [← hsu, suGo_end (by lia)]
      exact kN
end Mine
end
section
open PySem PySem.W PyProof.Rows PySem.Calls PySem.Spec
set_option maxRecDepth 100000
set_option maxHeartbeats 4000000
namespace Mine
theorem lines_D4 : True := by
  w_top off
  k_with_none
  k_with "eval Name" => (k_here; (with_reducible show wpAny _ _ (eval (PySem.Expr.Name _ _) (envOf _ _ _ _ _)) _ _ _); k_dflt (refine' ld ?zzk1 ?zzk2 ?_; (case zzk1 => k_asm); (case zzk2 => (repeat (first | assumption | exact if_pos rfl | refine (if_neg (by decide +kernel)).trans ?_))); k_whole))
  k_with "subscriptTail Name Name ref int" => (k_here; k_dflt (refine' item_pair ?zzk1 ?zzk2 ?zzk3 ?zzk4 ?zzk5 ?_ ?zzk6; (case zzk1 => k_asm); (case zzk2 => k_asm); (case zzk3 => lia); (case zzk4 => lia); (case zzk5 => lia); (case zzk6 => with_unfolding_all rfl); k_whole); intro _ _ _)
  k_with "compareOp Lt ref ref" => (k_here; k_dflt (refine' lt_at ?zzk1 ?zzk2 ?zzk3 ?zzk4 ?zzk5 ?_; (case zzk1 => k_asm); (case zzk2 => exact fun _ h => List.Mem.tail _ h); (case zzk3 => k_asm); (case zzk4 => k_asm); (case zzk5 => ktr_units); k_whole))
  k_with "setItem ref int ref" => (k_here; k_dflt (refine' set_at ?zzk1 ?zzk2 ?zzk3 ?zzk4 ?zzk5 ?zzk6 ?_; (case zzk1 => k_asm); (case zzk2 => first | k_asm | exact news_tail (by k_asm)); (case zzk3 => k_asm); (case zzk4 => lia); (case zzk5 => lia); (case zzk6 => lia); k_whole); intro _ _ _; (try k_sweep))
  k_with "exec While Compare cons nil" => refine hold ?_
  k_with "storeName" => (k_here; k_dflt (first | (refine' st_ofI ?zzk1 ?zzk2 ?_; (case zzk1 => k_asm); (case zzk2 => k_asm); k_whole; intro _ _ _ _ _) | (refine' st_ofS ?zzk1 ?zzk2 ?_; (case zzk1 => k_asm); (case zzk2 => k_asm); k_whole; intro _ _ _ _ _) | (refine' st_of ?zzk1 ?zzk2 ?_; (case zzk1 => k_asm); (case zzk2 => k_asm); k_whole; intro _ _ _ _)); (try k_sweep); (try dsimp only))
  k_with "binaryOp RShift int int" => refine rshift_one ?_
  k_with "call builtin:len" => (k_here; (with_reducible show wpAny _ _ (call (Value.builtin "len") [Value.ref _]) _ _ _); k_dflt (refine' len_at ?zzk1 ?zzk2 ?zzk3 ?_; (case zzk1 => k_asm); (case zzk2 => k_mem); (case zzk3 => (try simp only [List.length_append, List.length_singleton, List.length_set]); lia); k_whole); intro _ _; (try dsimp only))
  k_with "subscriptTail Name Constant ref int" => (k_here; k_dflt (refine' item_pair ?zzk1 ?zzk2 ?zzk3 ?zzk4 ?zzk5 ?_ ?zzk6; (case zzk1 => k_asm); (case zzk2 => k_asm); (case zzk3 => lia); (case zzk4 => lia); (case zzk5 => lia); (case zzk6 => with_unfolding_all rfl); k_whole); intro _ _ _)
  k_with "call builtin:list.append" => (k_here; (with_reducible show wpAny _ _ (call (Value.builtin _) [Value.ref _, _]) _ _ _); k_dflt (refine' append_pair ?zzk1 ?zzk2 ?zzk3 ?zzk4 ?_; (case zzk1 => k_asm); (case zzk2 => k_asm); (case zzk3 => k_asm); (case zzk4 => lia); k_whole); intro _ _ _ _; (try k_sweep); (try dsimp only))
  k_with "call builtin:list.pop" => (k_here; (with_reducible show wpAny _ _ (call (Value.builtin _) [Value.ref _]) _ _ _); k_dflt (refine' pop_pair ?zzk1 ?zzk2 ?zzk3 ?zzk4 ?zzk5 ?_; (case zzk1 => k_asm); (case zzk2 => k_asm); (case zzk3 => k_asm); (case zzk4 => (try simp only [List.length_append, List.length_singleton]); lia); (case zzk5 => first | assumption | exact rfl); k_whole); intro _ _ _ _; (try k_sweep); (try dsimp only))
  k_with "truthy ref" => (k_here; k_dflt (refine' truthy_pair ?zzk1 ?zzk2 ?_; (case zzk1 => k_asm); (case zzk2 => lia); k_whole); intro _; (try dsimp only))
  k_with "WhlIf" => (refine' whlIf_split ?_ ?_ <;> (intro hc'; (try dsimp only); (try simp only [decide_eq_true_eq, decide_eq_false_iff_not] at hc'); (try (revert hc'; intro _))))
  k_with "WPost" => (try dsimp only); first | (refine wpost_brk ?_; (try dsimp only)) | (refine wpost_ret ?_; (try dsimp only)) | refine hold ?_
  k_with "call ref" => (k_here; (with_reducible show wpAny _ _ (call (Value.ref 148) _) _ _ _); k_dflt (refine' siftdown_spec _ _ _ _ _ _ _ _ _ _ ?zzhne _ ?hκ _ _ _ _ ?zzhs ?zzhp0 ?zzhpos ?zzhfit _ _ _ _ _ _ _ _ _ _ _ _ _ _ _ _ _ ?zzB ?zzF ?zzX ?zzN ?zzT ?zzhk ?zzhroom ?zzhun ?_; (case zzB => k_asm); (case zzF => k_asm); (case zzX => k_asm); (case zzN => k_asm); (case zzT => k_asm); (case zzhk => first | exact rfl | assumption); (case zzhne => k_asm); (case hκ => first | k_asm | exact pairs_set (by assumption) (by assumption) | exact pairs_app (by assumption) (by assumption)); (case zzhs => lia); (case zzhp0 => (try simp only [List.length_append, List.length_singleton, List.length_set]); lia); (case zzhpos => (try simp only [List.length_append, List.length_singleton, List.length_set]); lia); (case zzhfit => (try simp only [List.length_append, List.length_singleton, List.length_set]); lia); (case zzhroom => ktr_room); (case zzhun => ktr_units); k_whole); intro _ _ _ _ _ _; (try dsimp only))
  trivial
theorem lines_D41 : True := by
  k_with "call ref" => (k_here; (with_reducible show wpAny _ _ (call (Value.ref 155) _) _ _ _); k_dflt (refine' siftup_spec _ _ _ _ _ _ _ _ _ _ ?zzhne _ ?hκ _ _ ?zzhp0 ?zzhpos ?zzhfit _ _ _ _ _ _ _ _ _ _ _ _ _ _ _ _ _ ?zzB ?zzF ?zzX ?zzN ?zzT ?zzhk ?zzhroom ?zzhun ?_; (case zzB => k_asm); (case zzF => k_asm); (case zzX => k_asm); (case zzN => k_asm); (case zzT => k_asm); (case zzhk => first | exact rfl | assumption); (case zzhne => k_asm); (case hκ => first | k_asm | exact pairs_set (by assumption) (by assumption) | exact pairs_app (by assumption) (by assumption)); (case zzhp0 => lia); (case zzhpos => (try simp only [List.length_append, List.length_singleton, List.length_set]); lia); (case zzhfit => (try simp only [List.length_append, List.length_singleton, List.length_set]); lia); (case zzhroom => ktr_room); (case zzhun => ktr_units); k_whole); intro _ _ _ _ _ _; (try dsimp only))
  trivial
theorem heappush_spec (w : World) (p : Program) (loose : List Str) (mean : ExcName → Option Value) (mg mb : Str → Option Value) (hp : Addr) (its : List Value) (n : Nat) (rest : List (Addr × Obj))
    (hne : ∀ q ∈ rest, q.1 ≠ hp) (κ : Value → Str × Int) (hκ : ∀ v ∈ its, PairAt rest v (κ v)) (v : Addr) (hv : PairAt rest (.ref v) (κ (.ref v))) (hfit : its.length < 2 ^ 20 - 1) :
    Call1 w p loose mean mg mb 113 ((hp, listOf its.toArray n) :: rest) [.ref hp, .ref v] 3 24
      (fun Q h₀ L m s => ∀ (h' : Heap) (tk' n' : Nat), Fr h₀ L h' m → News h₀ L h' ((hp, listOf (sd (fun a b => pLt (κ a) (κ b)) (.ref v) 0 (its ++ [.ref v]) its.length).toArray n') :: rest) → Q .none { s with heap := h', toks := tk' }) := by
  unfold Call1
  k_fill
  intro dp un gd cn cs a ccd cl outer A₀ base h₀ L m s Q E B F X N T hk hroom hun hret
  refine wpAny_call ?_
  k_dflt cell_enter
  rename_i g' L' h' FG F' N' B' X' T'
  generalize (s.toks + _ : Nat) = tk₀
  generalize hm₀ : (fun (y : Str) => (List.lookup y _ : Option Value)) = m₀ at F'
  have hm1 : m₀ (Str.ofString "heap") = some (Value.ref hp) := by rw [← hm₀]; exact rfl
  have hm3 : m₀ (Str.ofString "item") = some (Value.ref v) := by rw [← hm₀]; exact rfl
  clear hm₀
  k_steps
  rename_i h₁ n₁ F₁ N₁ t₁ tk₁ h₂ tk₂ new hn F₂ N₂ kF kN Tc kX
  have e1 : (((its ++ [Value.ref v]).length : Int) - 1).toNat = its.length := by
    rw [List.length_append, List.length_singleton]; lia
  rw [e1] at hn kN
  have e2 : new = Value.ref v := by
    rw [List.getElem?_append_right (Nat.le_refl _), Nat.sub_self] at hn
    exact (Option.some.inj hn).symm
  subst e2
  exact hret _ _ _ kF kN
theorem heapreplace_spec (w : World) (p : Program) (loose : List Str) (mean : ExcName → Option Value) (mg mb : Str → Option Value) (hp : Addr) (its : List Value) (n : Nat) (rest : List (Addr × Obj))
    (hne : ∀ q ∈ rest, q.1 ≠ hp) (κ : Value → Str × Int) (hκ : ∀ v ∈ its, PairAt rest v (κ v)) (v : Addr) (hv : PairAt rest (.ref v) (κ (.ref v))) (h1 : 0 < its.length) (hfit : its.length < 2 ^ 20) :
    Call1 w p loose mean mg mb 127 ((hp, listOf its.toArray n) :: rest) [.ref hp, .ref v] 3 24
      (fun Q h₀ L m s => ∀ (h' : Heap) (tk' : Nat) (b : Addr), its[0]? = some (.ref b) → PairAt rest (.ref b) (κ (.ref b)) → Fr h₀ L h' m → News h₀ L h' ((hp, listOf (su (fun a b => pLt (κ a) (κ b)) (.ref v) (its.set 0 (.ref v)) 0).toArray n) :: rest) → Q (.ref b) { s with heap := h', toks := tk' }) := by
  unfold Call1
  k_fill
  intro dp un gd cn cs a ccd cl outer A₀ base h₀ L m s Q E B F X N T hk hroom hun hret
  refine wpAny_call ?_
  k_dflt cell_enter
  rename_i g' L' h' FG F' N' B' X' T'
  generalize (s.toks + _ : Nat) = tk₀
  generalize hm₀ : (fun (y : Str) => (List.lookup y _ : Option Value)) = m₀ at F'
  have hm1 : m₀ (Str.ofString "heap") = some (Value.ref hp) := by rw [← hm₀]; exact rfl
  have hm3 : m₀ (Str.ofString "item") = some (Value.ref v) := by rw [← hm₀]; exact rfl
  clear hm₀
  k_steps
  rename_i b hb hpb h₁ tk₁ h₂ F₂ N₂ h₃ tk₃ new hn F₃ N₃ kF kN Tc kX
  have e2 : new = Value.ref v := by
    rw [show Int.toNat 0 = 0 from rfl, List.getElem?_set_self h1] at hn
    exact (Option.some.inj hn).symm
  subst e2
  exact hret _ _ _ hb hpb kF kN
theorem heappop_spec (w : World) (p : Program) (loose : List Str) (mean : ExcName → Option Value) (mg mb : Str → Option Value) (hp : Addr) (xs : List Value) (v : Value) (n : Nat) (rest : List (Addr × Obj))
    (hne : ∀ q ∈ rest, q.1 ≠ hp) (κ : Value → Str × Int) (hκ0 : ∀ v ∈ xs, PairAt rest v (κ v)) (hv : PairAt rest v (κ v)) (hfit : xs.length < 2 ^ 20 - 1) :
    Call1 w p loose mean mg mb 120 ((hp, listOf (xs ++ [v]).toArray n) :: rest) [.ref hp] 3 24
      (fun Q h₀ L m s => ∀ (h' : Heap) (tk' n' : Nat) (b : Addr) (ys : List Value), (xs = [] ∧ v = .ref b ∧ ys = [] ∨ xs[0]? = some (.ref b) ∧ ys = su (fun a b => pLt (κ a) (κ b)) v (xs.set 0 v) 0) → PairAt rest (.ref b) (κ (.ref b)) → Fr h₀ L h' m → News h₀ L h' ((hp, listOf ys.toArray n') :: rest) → Q (.ref b) { s with heap := h', toks := tk' }) := by
  obtain ⟨v, t, u, n₀, rfl, hm⟩ := id hv
  unfold Call1
  k_fill
  intro dp un gd cn cs a ccd cl outer A₀ base h₀ L m s Q E B F X N T hk hroom hun hret
  refine wpAny_call ?_
  k_dflt cell_enter
  rename_i g' L' h' FG F' N' B' X' T'
  generalize (s.toks + _ : Nat) = tk₀
  generalize hm₀ : (fun (y : Str) => (List.lookup y _ : Option Value)) = m₀ at F'
  have hm1 : m₀ (Str.ofString "heap") = some (Value.ref hp) := by rw [← hm₀]; exact rfl
  clear hm₀
  k_steps
  · rename_i h₁ n₁ h₂ tk₂ tk₃ hlt b hb hpb h₃ tk₄ h₄ F₄ N₄ h₅ tk₅ new hn F₅ N₅ kF kN Tc kX
    have e2 : new = Value.ref v := by
      rw [show Int.toNat 0 = 0 from rfl, List.getElem?_set_self hlt] at hn
      exact (Option.some.inj hn).symm
    subst e2
    exact hret _ _ _ _ _ (.inr ⟨hb, rfl⟩) hpb kF kN
  · rename_i h₁ n₁ h₂ tk₂ F₂ N₂ tk₃ hlt kF kN Tc kX
    have e : xs = [] := by
      cases xs with
      | nil => rfl
      | cons a r => exact absurd (Nat.succ_pos r.length) hlt
    exact hret _ _ _ _ _ (.inl ⟨e, rfl, rfl⟩) hv kF (e ▸ kN)
theorem heappushpop_spec (w : World) (p : Program) (loose : List Str) (mean : ExcName → Option Value) (mg mb : Str → Option Value) (hp : Addr) (its : List Value) (n : Nat) (rest : List (Addr × Obj))
    (hne : ∀ q ∈ rest, q.1 ≠ hp) (κ : Value → Str × Int) (hκ : ∀ v ∈ its, PairAt rest v (κ v)) (v : Addr) (hv : PairAt rest (.ref v) (κ (.ref v))) (h1 : 0 < its.length) (hfit : its.length < 2 ^ 20) :
    Call1 w p loose mean mg mb 134 ((hp, listOf its.toArray n) :: rest) [.ref hp, .ref v] 3 24
      (fun Q h₀ L m s => ∀ (h' : Heap) (tk' n' : Nat) (b c : Addr) (ys : List Value), its[0]? = some (.ref b) → (pLt (κ (.ref b)) (κ (.ref v)) = true ∧ c = b ∧ ys = su (fun a b => pLt (κ a) (κ b)) (.ref v) (its.set 0 (.ref v)) 0 ∨ pLt (κ (.ref b)) (κ (.ref v)) = false ∧ c = v ∧ ys = its) → PairAt rest (.ref c) (κ (.ref c)) → Fr h₀ L h' m → News h₀ L h' ((hp, listOf ys.toArray n') :: rest) → Q (.ref c) { s with heap := h', toks := tk' }) := by
  unfold Call1
  k_fill
  intro dp un gd cn cs a ccd cl outer A₀ base h₀ L m s Q E B F X N T hk hroom hun hret
  refine wpAny_call ?_
  k_dflt cell_enter
  rename_i g' L' h' FG F' N' B' X' T'
  generalize (s.toks + _ : Nat) = tk₀
  generalize hm₀ : (fun (y : Str) => (List.lookup y _ : Option Value)) = m₀ at F'
  have hm1 : m₀ (Str.ofString "heap") = some (Value.ref hp) := by rw [← hm₀]; exact rfl
  have hm3 : m₀ (Str.ofString "item") = some (Value.ref v) := by rw [← hm₀]; exact rfl
  clear hm₀
  k_steps
  · rename_i tk₁ b₀ hb₀ hpb₀ hlt tk₂ b hb hpb D₁ h₁ l₁ h₂ h₃ tk₃ h₄ F₄ N₄ h₅ tk₆ new hn F₅ N₅ kF kN Tc kX
    have e2 : new = Value.ref v := by
      rw [show Int.toNat 0 = 0 from rfl, List.getElem?_set_self h1] at hn
      exact (Option.some.inj hn).symm
    have e3 : b₀ = b := by
      rw [hb₀] at hb
      cases hb; rfl
    subst e2 e3
    exact hret _ _ _ _ _ _ hb (.inl ⟨hlt, rfl, rfl⟩) hpb kF kN
  · rename_i tk₁ b hb hpb hlt kF kN Tc kX
    exact hret _ _ _ _ _ _ hb (.inr ⟨hlt, rfl, rfl⟩) hv kF kN
section
variable {prog : Program} {w : World} {A : Around} {E : Value → Shared → Prop} {s : Shared} {h₀ : Heap} {L D : Addr} {news : List (Addr × Obj)} {its : List Value} {n : Nat} {t u : Tok}
theorem len_seven {Q : Value → Shared → Prop} (N : News h₀ L s.heap news) (hm : (D, listOf its.toArray n) ∈ news) (h7 : its.length = 7)
    (h : ∀ t tk, Q (.int 7 t) { s with toks := tk }) : wpAny (model prog w) A (call (.builtin "len") [.ref D]) Q E s := by
  refine len_at N hm (by lia) fun t tk => ?_
  rw [h7]
  exact h t tk
theorem half_seven {Q : Value → Shared → Prop} (h : Q (.int 3 s.toks) { s with toks := s.toks + 1 }) : wpAny (model prog w) A (binaryOp .FloorDiv (.int 7 t) (.int 2 u)) Q E s :=
  floordiv_int (by decide) h
end
theorem lines_D42 : True := by
  k_with "call builtin:len" => (k_here; (with_reducible show wpAny _ _ (call (Value.builtin "len") [Value.ref _]) _ _ _); k_dflt (refine' len_seven ?zzk1 ?zzk2 ?zzk3 ?_; (case zzk1 => k_asm); (case zzk2 => k_mem); (case zzk3 => assumption); k_whole); intro _ _; (try dsimp only))
  k_with "binaryOp FloorDiv int int" => refine half_seven ?_
  trivial
theorem pairAt_mono {l l' : List (Addr × Obj)} {v : Value} {k : Str × Int} (h : PairAt l v k) (hs : ∀ p ∈ l, p ∈ l') : PairAt l' v k := by
  obtain ⟨b, t, u, n, e, hm⟩ := h
  exact ⟨b, t, u, n, e, hs _ hm⟩
theorem news_swap {h₀ h : Heap} {L : Addr} {p q : Addr × Obj} {l : List (Addr × Obj)} (N : News h₀ L h (p :: q :: l)) : News h₀ L h (q :: p :: l) := fun r hr => by
  rcases List.mem_cons.mp hr with rfl | hr
  · exact N _ (.tail _ (.head _))
  · rcases List.mem_cons.mp hr with rfl | hr
    · exact N _ (.head _)
    · exact N _ (.tail _ (.tail _ hr))
theorem lines_D43 : True := by
  k_with "exec For Name Call cons nil" => (k_here; k_dflt (refine for_start ?_ ?zzhs; (case zzhs => intro _; rfl)))
  k_with "call type:reversed" => (k_here; (with_reducible show wpAny _ _ (call (Value.type _) [Value.ref _]) _ _ _); k_dflt (refine' rev_range3 ?zzF ?zzN ?zzr ?_; (case zzF => k_asm); (case zzN => k_asm); (case zzr => k_asm); k_whole); intro _ _ _ _ _; (try k_sweep))
  k_with "pyIter ref" => (k_here; k_dflt (refine' iter_rangeI ?zzN ?zzm ?_; (case zzN => k_asm); (case zzm => exact List.Mem.head _); k_whole))
  trivial
theorem heapify_spec (w : World) (p : Program) (loose : List Str) (mean : ExcName → Option Value) (mg mb : Str → Option Value) (hp : Addr) (its : List Value) (n : Nat) (rest : List (Addr × Obj))
    (hne : ∀ q ∈ rest, q.1 ≠ hp) (κ : Value → Str × Int) (hκ : ∀ v ∈ its, PairAt rest v (κ v)) (h7 : its.length = 7) :
    Call1 w p loose mean mg mb 141 ((hp, listOf its.toArray n) :: rest) [.ref hp] 4 40
      (fun Q h₀ L m s => ∀ (h' : Heap) (tk' : Nat), Fr h₀ L h' m → News h₀ L h' ((hp, listOf (hfy (fun a b => pLt (κ a) (κ b)) 3 its).toArray n) :: rest) → Q .none { s with heap := h', toks := tk' }) := by
  unfold Call1
  k_fill
  intro dp un gd cn cs a ccd cl outer A₀ base h₀ L m s Q E B F X N T hk hroom hun hret
  refine wpAny_call ?_
  k_dflt cell_enter
  rename_i g' L' h' FG F' N' B' X' T'
  generalize (s.toks + _ : Nat) = tk₀
  generalize hm₀ : (fun (y : Str) => (List.lookup y _ : Option Value)) = m₀ at F'
  have hm1 : m₀ (Str.ofString "x") = some (Value.ref hp) := by rw [← hm₀]; exact rfl
  clear hm₀
  k_steps
  rename_i tA tkA hA tB tkB hB tkC tD tE tF hR hS D₁ h₁ F₁ N₁ l₁
  have hD : D₁ ≠ hp := fun e => l₁ _ (.head _) e.symm
  have hκ1 : ∀ v, v ∈ its → PairAt ((D₁, rangeIO 2 3 (-1)) :: rest) v (κ v) := fun v hv => pairAt_mono (hκ v hv) fun _ h => .tail _ h
  generalize tkC = tk₁
  dsimp only
  refine for_ind (fun (x : Nat) st => ∃ h' tk m', x ≤ 3 ∧ st = { s with heap := h', toks := tk } ∧ Fr g' L' h' m' ∧ News g' L' h' ((hp, listOf (hfy (fun a b => pLt (κ a) (κ b)) x its).toArray n) :: (D₁, rangeIO (2 - x) (3 - x) (-1)) :: rest)
      ∧ m' (Str.ofString "x") = some (Value.ref hp)) (fun x => 3 - x) ?hE ?turn 0 ?h0
  case hE => first | passes_own | with_unfolding_all passes_own
  case h0 =>
    refine ⟨h₁, _, _, by decide, rfl, F₁, news_swap N₁, ?_⟩
    (repeat (first | assumption | exact if_pos rfl | refine (if_neg (by decide +kernel)).trans ?_))
  case turn =>
    clear F₁ N₁ hm1 F N
    rintro x st ⟨h₂, tk, m₁, hx, rfl, F₂, N₂, hm1⟩
    have hne1 : ∀ q ∈ (hp, listOf (hfy (fun a b => pLt (κ a) (κ b)) x its).toArray n) :: rest, q.1 ≠ D₁ := fun q hq => by
      rcases List.mem_cons.mp hq with rfl | hq
      · exact fun e => hD e.symm
      · exact l₁ q (.tail _ hq)
    by_cases h3 : x = 3
    · subst h3
      refine next_range_end rfl F₂ (news_swap N₂) hne1 (by decide) fun h₃ tk₃ F₃ N₃ => ?_
      unfold NextIs
      dsimp only
      k_steps
      rename_i kF kN Tc kX
      exact hret _ _ kF kN
    · have hx' : x < 3 := by lia
      refine next_range F₂ (news_swap N₂) hne1 (by lia) fun h₃ t₃ tk₃ F₃ N₃ => ?_
      have N₄ := news_swap N₃
      clear N₃ N₂
      have hne2 : ∀ q ∈ (D₁, rangeIO (2 - (x : Int) + -1) (3 - (x : Int) - 1) (-1)) :: rest, q.1 ≠ hp := fun q hq => by
        rcases List.mem_cons.mp hq with rfl | hq
        · exact hD
        · exact hne q hq
      have hκ2 : ∀ v ∈ hfy (fun a b => pLt (κ a) (κ b)) x its, PairAt ((D₁, rangeIO (2 - (x : Int) + -1) (3 - (x : Int) - 1) (-1)) :: rest) v (κ v) := fun v hv => pairAt_mono (hκ v (hfy_mem hv)) fun _ h => .tail _ h
      have hlen : (hfy (fun a b => pLt (κ a) (κ b)) x its).length = 7 := by rw [hfy_len, h7]
      unfold NextIs
      dsimp only
      k_steps
      rename_i h₄ t₄ tk₄ F₄ N₄' h₅ tk₅ new hn F₅ N₅
      have e1 : ((2 : Int) - x).toNat = 2 - x := by lia
      rw [e1] at hn N₅
      have e2 : su (fun a b => pLt (κ a) (κ b)) new (hfy (fun a b => pLt (κ a) (κ b)) x its) (2 - x) = hfy (fun a b => pLt (κ a) (κ b)) (x + 1) its := by
        conv => rhs; unfold hfy
        simp only [hn]
      have e3 : (2 : Int) - x + -1 = 2 - ((x + 1 : Nat) : Int) := by lia
      have e4 : (3 : Int) - x - 1 = 3 - ((x + 1 : Nat) : Int) := by lia
      rw [e2, e3, e4] at N₅
      refine fpost_next (y := x + 1) (by lia) ⟨_, _, _, by lia, rfl, F₅, N₅, ?_⟩
      (repeat (first | assumption | exact if_pos rfl | refine (if_neg (by decide +kernel)).trans ?_))
end Mine
end
local macro_rules | `(tactic| k_all) => `(tactic| assumption)
section
open PySem PySem.W PyProof.Rows PySem.Calls PySem.Spec
set_option maxRecDepth 100000
set_option maxHeartbeats 4000000
namespace Mine
theorem lines_E1 : True := by
  w_top off
  k_with_none
  k_with "eval Name" => (k_here; (with_reducible show wpAny _ _ (eval (PySem.Expr.Name _ _) (envOf _ _ _ _ _)) _ _ _); k_dflt (refine' ld ?zzk1 ?zzk2 ?_; (case zzk1 => k_asm); (case zzk2 => (repeat (first | assumption | exact if_pos rfl | refine (if_neg (by decide +kernel)).trans ?_))); k_whole))
  k_with "subscriptTail Name Name ref int" => (k_here; k_dflt (refine' item_pair ?zzk1 ?zzk2 ?zzk3 ?zzk4 ?zzk5 ?_ ?zzk6; (case zzk1 => k_asm); (case zzk2 => k_asm); (case zzk3 => lia); (case zzk4 => lia); (case zzk5 => lia); (case zzk6 => with_unfolding_all rfl); k_whole); intro _ _ _)
  k_with "compareOp Lt ref ref" => (k_here; k_dflt (refine' lt_at ?zzk1 ?zzk2 ?zzk3 ?zzk4 ?zzk5 ?_; (case zzk1 => k_asm); (case zzk2 => exact fun _ h => List.Mem.tail _ h); (case zzk3 => k_asm); (case zzk4 => k_asm); (case zzk5 => ktr_units); k_whole))
  k_with "setItem ref int ref" => (k_here; k_dflt (refine' set_at ?zzk1 ?zzk2 ?zzk3 ?zzk4 ?zzk5 ?zzk6 ?_; (case zzk1 => k_asm); (case zzk2 => first | k_asm | exact news_tail (by k_asm)); (case zzk3 => k_asm); (case zzk4 => lia); (case zzk5 => lia); (case zzk6 => lia); k_whole); intro _ _ _; (try k_sweep))
  k_with "exec While Compare cons nil" => refine hold ?_
  k_with "storeName" => (k_here; k_dflt (first | (refine' st_ofI ?zzk1 ?zzk2 ?_; (case zzk1 => k_asm); (case zzk2 => k_asm); k_whole; intro _ _ _ _ _) | (refine' st_ofS ?zzk1 ?zzk2 ?_; (case zzk1 => k_asm); (case zzk2 => k_asm); k_whole; intro _ _ _ _ _) | (refine' st_of ?zzk1 ?zzk2 ?_; (case zzk1 => k_asm); (case zzk2 => k_asm); k_whole; intro _ _ _ _)); (try k_sweep); (try dsimp only))
  k_with "binaryOp RShift int int" => refine rshift_one ?_
  k_with "call builtin:len" => (k_here; (with_reducible show wpAny _ _ (call (Value.builtin "len") [Value.ref _]) _ _ _); k_dflt (refine' len_at ?zzk1 ?zzk2 ?zzk3 ?_; (case zzk1 => k_asm); (case zzk2 => k_mem); (case zzk3 => (try simp only [List.length_append, List.length_singleton, List.length_set]); lia); k_whole); intro _ _; (try dsimp only))
  k_with "subscriptTail Name Constant ref int" => (k_here; k_dflt (refine' item_pair ?zzk1 ?zzk2 ?zzk3 ?zzk4 ?zzk5 ?_ ?zzk6; (case zzk1 => k_asm); (case zzk2 => k_asm); (case zzk3 => lia); (case zzk4 => lia); (case zzk5 => lia); (case zzk6 => with_unfolding_all rfl); k_whole); intro _ _ _)
  k_with "call builtin:list.append" => (k_here; (with_reducible show wpAny _ _ (call (Value.builtin _) [Value.ref _, _]) _ _ _); k_dflt (refine' append_pair ?zzk1 ?zzk2 ?zzk3 ?zzk4 ?_; (case zzk1 => k_asm); (case zzk2 => k_asm); (case zzk3 => k_asm); (case zzk4 => lia); k_whole); intro _ _ _ _; (try k_sweep); (try dsimp only))
  k_with "call builtin:list.pop" => (k_here; (with_reducible show wpAny _ _ (call (Value.builtin _) [Value.ref _]) _ _ _); k_dflt (refine' pop_pair ?zzk1 ?zzk2 ?zzk3 ?zzk4 ?zzk5 ?_; (case zzk1 => k_asm); (case zzk2 => k_asm); (case zzk3 => k_asm); (case zzk4 => (try simp only [List.length_append, List.length_singleton]); lia); (case zzk5 => first | assumption | exact rfl); k_whole); intro _ _ _ _; (try k_sweep); (try dsimp only))
  k_with "truthy ref" => (k_here; k_dflt (refine' truthy_pair ?zzk1 ?zzk2 ?_; (case zzk1 => k_asm); (case zzk2 => lia); k_whole); intro _; (try dsimp only))
  k_with "WhlIf" => (refine' whlIf_split ?_ ?_ <;> (intro hc'; (try dsimp only); (try simp only [decide_eq_true_eq, decide_eq_false_iff_not] at hc'); (try (revert hc'; intro _))))
  k_with "WPost" => (try dsimp only); first | (refine wpost_brk ?_; (try dsimp only)) | (refine wpost_ret ?_; (try dsimp only)) | refine hold ?_
  trivial
section
variable {prog : Program} {w : World} {A : Around} {E : Value → Shared → Prop} {s : Shared} {h₀ : Heap} {L D : Addr} {news : List (Addr × Obj)} {its : List Value} {n : Nat} {t u : Tok}
theorem mod_as {a b c : Int} {Q : Value → Shared → Prop} (hb : b ≠ 0) (e : a.fmod b = c) (h : Q (.int c s.toks) { s with toks := s.toks + 1 }) : wpAny (model prog w) A (binaryOp .Mod (.int a t) (.int b u)) Q E s := by
  subst e
  exact mod_int hb h
end
noncomputable def signsN : List Nat := [32, 33, 34, 39, 90, 92, 10, 97, 233]
theorem item9 {j : Int} (h0 : 0 ≤ j) (h9 : j < 9) : ∃ c ∈ signsN, Txt.item (Str.ofString " !\"'Z\\\naé") j = ⟨#[c]⟩ := by
  have : j = 0 ∨ j = 1 ∨ j = 2 ∨ j = 3 ∨ j = 4 ∨ j = 5 ∨ j = 6 ∨ j = 7 ∨ j = 8 := by lia
  rcases this with rfl | rfl | rfl | rfl | rfl | rfl | rfl | rfl | rfl
  · exact ⟨32, by decide, by decide +kernel⟩
  · exact ⟨33, by decide, by decide +kernel⟩
  · exact ⟨34, by decide, by decide +kernel⟩
  · exact ⟨39, by decide, by decide +kernel⟩
  · exact ⟨90, by decide, by decide +kernel⟩
  · exact ⟨92, by decide, by decide +kernel⟩
  · exact ⟨10, by decide, by decide +kernel⟩
  · exact ⟨97, by decide, by decide +kernel⟩
  · exact ⟨233, by decide, by decide +kernel⟩
theorem item9' (x : Int) : ∃ c ∈ signsN, Txt.item (Str.ofString " !\"'Z\\\naé") (x.fmod 9) = ⟨#[c]⟩ := by
  have e : x.fmod 9 = x % 9 := Int.fmod_eq_emod_of_nonneg _ (by decide)
  rw [e]
  exact item9 (by lia) (by lia)
theorem strs_snoc {ys : List Value} {xs : List Str} {y : Str} {t : Tok} (h : StrsAre ys xs) : StrsAre (ys ++ [.str y t]) (xs ++ [y]) := by
  induction h with
  | nil => exact .cons y t .nil
  | cons z u _ ih => exact .cons z u ih
theorem comp_end_text {h₀ : Heap} {L I C D : Addr} {m : Str → Option Value} {s₁ : Shared} {oI oC : Obj} {ys : List Value} {cs : List Nat} {i : Nat} {news : List (Addr × Obj)} {h' : Heap} {tk t : Nat} {x : Int}
    (F : Fr h₀ L h' m) (N : News h₀ L h' ((I, oI) :: (C, oC) :: (D, LCg.lst ys) :: news)) (off : LCg.Off3 I C D news) (hcs : cs.length = i) (hys : StrsAre ys (cs.map fun c => ⟨#[c]⟩)) (hall : ∀ c ∈ cs, c ∈ signsN) :
    LCg.CompEnd h₀ L m s₁ I oI C oC D (LCg.lst ys) (fun _ => True) (fun y nw => nw = news ∧ ∃ cs : List Nat, cs.length = i + 1 ∧ StrsAre (ys ++ [y]) (cs.map fun c => ⟨#[c]⟩) ∧ ∀ c ∈ cs, c ∈ signsN)
      (.str (Txt.item (Str.ofString " !\"'Z\\\naé") (x.fmod 9)) t) { s₁ with heap := h', toks := tk } := by
  obtain ⟨c, hc, e⟩ := item9' x
  rw [e]
  refine ⟨h', tk, news, rfl, F, N, off, trivial, rfl, cs ++ [c], by simp [hcs], ?_, ?_⟩
  · rw [List.map_append, List.map_singleton]
    exact strs_snoc hys
  · intro d hd
    rcases List.mem_append.mp hd with hd | hd
    · exact hall d hd
    · rw [List.mem_singleton.mp hd]; exact hc
theorem join_at {prog : Program} {w : World} {A : Around} {E : Value → Shared → Prop} {s : Shared} {h₀ : Heap} {L D : Addr} {news : List (Addr × Obj)} {ys : List Value} {xs : List Str} {t : Tok} {Q : Value → Shared → Prop}
    (N : News h₀ L s.heap ((D, LCg.lst ys) :: news)) (hys : StrsAre ys xs) (hw : (xs.map (·.length)).sum + xs.length ≤ 1048576)
    (h : ∀ t' tk, Q (.str (Txt.join (Str.ofString "") xs) t') { s with toks := tk }) : wpAny (model prog w) A (call (.builtin "str.join") [.str (Str.ofString "") t, .ref D]) Q E s := by
  have hl : s.heap.IsList D ys.toArray := ⟨_, (N _ (.head _)).1, rfl, _, rfl⟩
  exact join_listW hl hys (by decide +kernel) hw h
noncomputable def IsText (x : Str) : Prop := x.cps.toList.length ≤ 4 ∧ ∀ c ∈ x.cps.toList, c ∈ signsN
theorem join_flat : ∀ xs : List Str, (Txt.join (Str.ofString "") xs).cps.toList = (xs.map fun x => x.cps.toList).flatten := by
  have key : ∀ xs : List Str, (Str.join (Str.ofString "") xs).cps.toList = (xs.map fun x => x.cps.toList).flatten := by
    intro xs
    induction xs with
    | nil => rfl
    | cons x r ih =>
      cases r with
      | nil =>
        show x.cps.toList = _
        simp
      | cons y r =>
        rw [show Str.join (Str.ofString "") (x :: y :: r) = x ++ Str.ofString "" ++ Str.join (Str.ofString "") (y :: r) from rfl, List.map_cons, List.flatten_cons, ← ih]
        rw [show Str.ofString "" = (⟨#[]⟩ : Str) by decide +kernel]
        show ((x.cps ++ #[]) ++ (Str.join (⟨#[]⟩ : Str) (y :: r)).cps).toList = _
        simp
  intro xs
  show (PySem.Builtin.Str.glued (Str.ofString "") xs).cps.toList = _
  rw [StrLaws.glued_eq_join]
  exact key xs
theorem join_singles (cs : List Nat) : (Txt.join (Str.ofString "") (cs.map fun c => (⟨#[c]⟩ : Str))).cps.toList = cs := by
  rw [join_flat, List.map_map]
  induction cs with
  | nil => rfl
  | cons c r ih => rw [List.map_cons, List.flatten_cons, ih]; rfl
noncomputable def signs9 : Str := ⟨#[32, 33, 34, 39, 90, 92, 10, 97, 233]⟩
theorem signs9_eq : (Str.ofString " !\"" ++ Str.ofString "'Z" ++ ({ cps := #[Int.toNat 92] } : Str) ++ Str.ofString "\na" ++ ({ cps := #[Int.toNat 233] } : Str)) = signs9 := by decide +kernel
theorem lines_E11 : True := by
  k_with "CompSrc" => refine hold ?_
  trivial
theorem lines_E12 : True := by
  k_with "call builtin:str.join" => (k_here; k_dflt (refine' join_at ?zzk1 ?zzk2 ?zzk3 ?_; (case zzk1 => k_asm); (case zzk2 => assumption); (case zzk3 => assumption); k_whole); intro _ _; (try dsimp only))
  trivial
theorem text_spec (w : World) (p : Program) (loose : List Str) (mean : ExcName → Option Value) (mg mb : Str → Option Value) (news : List (Addr × Obj)) (k : Int) (t2 : Tok) :
    Call1 w p loose mean mg mb 160 news [.int k t2] 2 16
      (fun Q h₀ L m s => ∀ (h' : Heap) (tk' : Nat) (t : Tok) (x : Str), IsText x → Fr h₀ L h' m → News h₀ L h' news → Q (.str x t) { s with heap := h', toks := tk' }) := by
  unfold Call1
  k_fill
  intro dp un gd cn cs a ccd cl outer A₀ base h₀ L m s Q E B F X N T hk hroom hun hret
  refine wpAny_call ?_
  k_dflt (refine' code_defC ?k1 ?k2 ?k3 ?k4 ?k5 ?kA ?kF ?kK ?k6 ?k7 ?k8 ?k9 ?kB ?kD ?_ ?c2 ?c3 ?c4; (case kA => exact rfl); (case kF => exact rfl); (case kK => assumption); (case k1 => k_asm); (case k2 => k_asm); (case k3 => k_asm); (case k4 => k_asm); (case k5 => k_asm); (case k6 => k_is); (case k7 => k_is); (case k8 => ktr_room); (case k9 => exact BindsTo.of_eq rfl); (case kB => exact rfl); (case kD => decide +kernel); (case c2 => exact rfl); (case c3 => exact rfl); (case c4 => exact rfl); k_whole)
  intro g' L' h' tk₀ cells FG F' N' Y B' X' T' l₁
  obtain ⟨o1, o2, hE, d1, d2⟩ := CellsAre.two Y
  subst hE
  clear Y
  replace d1 : o1.data = .cell none := d1
  replace d2 : o2.data = .cell (some (.int k t2)) := d2
  replace F' : Fr g' L' h' (fun _ => none) := F'
  simp only [List.cons_append, List.nil_append] at N'
  have hA1 : ∀ p ∈ news, p.1 ≠ L' + 1 := fun p hp => Nat.ne_of_lt (Nat.lt_succ_of_lt (l₁ p hp))
  have hA2 : ∀ p ∈ news, p.1 ≠ L' + 1 + 1 := fun p hp => Nat.ne_of_lt (Nat.lt_succ_of_lt (Nat.lt_succ_of_lt (l₁ p hp)))
  (try dsimp only)
  (try k_fold)
  k_steps
  rename_i tA kA lA tB kB lB tC kC lC tD kD lD h₁ o₁ F₁ N₁ d₁ h₂ tkF t₁ u₁ v₁ hr F₂ N₂ hkeep
  clear lA lB lC lD F₁ N₁
  have hk5 : k.fmod 5 = k % 5 := Int.fmod_eq_emod_of_nonneg _ (by decide)
  have hk5a : 0 ≤ k % 5 := by lia
  have hk5b : k % 5 < 5 := by lia
  rw [hk5] at hr
  refine unhold ?_
  refine LCg.CompSrc.range (n := (k % 5).toNat) rfl F₂ N₂ hr (small_one (by lia) (by lia) (by lia) (by lia)) ?_ (by rw [sizeLine_eq]; lia) fun g => comp_inv (fun i ys nw => nw = (L' + 1 + 1, o₁) :: (L' + 1, o2) :: news ∧ ∃ cs : List Nat, cs.length = i ∧ StrsAre ys (cs.map fun c => ⟨#[c]⟩) ∧ ∀ c ∈ cs, c ∈ signsN) ⟨rfl, [], rfl, .nil, fun _ h => nomatch h⟩ ?_ ?_
  · rw [rangeSize_one]
    split <;> lia
  · rintro i ys nw hi ⟨rfl, cs, hcs, hys, hall⟩ v I oI C oC D m₂ h₃ tk₃ E' ⟨t₃, rfl⟩ hoC hm₂ F₃ N₃ off ne
    have hi4 : i = 0 ∨ i = 1 ∨ i = 2 ∨ i = 3 := by lia
    dsimp only
    rcases hi4 with rfl | rfl | rfl | rfl
    · replace hm₂ : m₂ (Str.ofString "place") = some (Value.int 0 t₃) := hm₂
      k_steps
      exact comp_end_text F₃ N₃ off hcs hys hall
    · replace hm₂ : m₂ (Str.ofString "place") = some (Value.int 1 t₃) := hm₂
      k_steps
      exact comp_end_text F₃ N₃ off hcs hys hall
    · replace hm₂ : m₂ (Str.ofString "place") = some (Value.int 2 t₃) := hm₂
      k_steps
      exact comp_end_text F₃ N₃ off hcs hys hall
    · replace hm₂ : m₂ (Str.ofString "place") = some (Value.int 3 t₃) := hm₂
      k_steps
      exact comp_end_text F₃ N₃ off hcs hys hall
  · rintro ys nw ⟨rfl, cs, hcs, hys, hall⟩
    intro D h₃ tk₃ F₃ N₃ off
    dsimp only
    have hcs4 : cs.length ≤ 4 := by lia
    have hw : ((cs.map fun c => (⟨#[c]⟩ : Str)).map (·.length)).sum + (cs.map fun c => (⟨#[c]⟩ : Str)).length ≤ 1048576 := by
      rw [List.map_map, List.length_map]
      have : (cs.map ((fun x => Str.length x) ∘ fun c => (⟨#[c]⟩ : Str))).sum = cs.length := by
        clear hcs hys hall hcs4
        induction cs with
        | nil => rfl
        | cons c r ih => rw [List.map_cons, List.sum_cons, ih]; simp [Str.length]; lia
      rw [this]; lia
    k_steps
    rename_i t₄ tk₄ kF kN Tc kX
    refine hret _ _ _ _ ?_ kF fun p hp => kN p (.tail _ (.tail _ (.tail _ hp)))
    unfold IsText
    rw [join_singles]
    exact ⟨hcs4, hall⟩
end Mine
end
section
open PySem PySem.W PyProof.Rows PySem.Calls PySem.Spec
open PySem.Builtin PySem.Builtin.Str
set_option maxRecDepth 100000
set_option maxHeartbeats 4000000
namespace Mine
/-- the three conversions -/
inductive Kd where
  | r | a | s
  deriving DecidableEq
noncomputable def Kd.str : Kd → Str
  | .r => Str.ofString "r"
  | .a => Str.ofString "a"
  | .s => Str.ofString "s"
noncomputable def dbl (l : List Nat) : Bool := l.contains 39 && !l.contains 34
noncomputable def qt (l : List Nat) : Nat := if dbl l then 34 else 39
noncomputable def esc (kd : Kd) (q c : Nat) : List Nat := if c = 10 then [92, 110] else if c = 233 ∧ kd = .a then [92, 120, 101, 57] else if c = 92 ∨ c = q then [92, c] else [c]
/-- a text as its conversion writes it -/
noncomputable def wrl (kd : Kd) (l : List Nat) : List Nat := match kd with
  | .s => l
  | .r => qt l :: (l.flatMap (esc .r (qt l)) ++ [qt l])
  | .a => qt l :: (l.flatMap (esc .a (qt l)) ++ [qt l])
noncomputable def wr (kd : Kd) (x : Str) : Str := ⟨(wrl kd x.cps.toList).toArray⟩
theorem str_ext {x y : Str} (e : x.cps.toList = y.cps.toList) : x = y := by
  cases x; cases y
  exact congrArg Str.mk (Array.toList_inj.mp e)
theorem contains_list (x : Str) (c : Nat) : x.cps.contains c = x.cps.toList.contains c := by
  rw [Array.contains_toList]
theorem reprQuote_qt (x : Str) : reprQuote x = qt x.cps.toList := by
  unfold reprQuote qt dbl
  rw [contains_list, contains_list]
theorem reprChar_esc {q c : Nat} (hq : q = 34 ∨ q = 39) (hc : c ∈ signsN) : reprChar q c = esc .r q c := by
  simp only [signsN, List.mem_cons, List.not_mem_nil, or_false] at hc
  rcases hq with rfl | rfl <;> rcases hc with rfl | rfl | rfl | rfl | rfl | rfl | rfl | rfl | rfl <;> decide +kernel
theorem fold_flat {f : Nat → List Nat} : ∀ (l : List Nat) (acc : Array Nat), (l.foldl (fun out c => out ++ (f c).toArray) acc).toList = acc.toList ++ l.flatMap f
  | [], acc => by simp
  | c :: r, acc => by rw [List.foldl_cons, fold_flat r]; simp
theorem flat_cong {f g : Nat → List Nat} {l : List Nat} (h : ∀ c ∈ l, f c = g c) : l.flatMap f = l.flatMap g := by
  induction l with
  | nil => rfl
  | cons a r ih => rw [List.flatMap_cons, List.flatMap_cons, h a (.head _), ih fun c hc => h c (.tail _ hc)]
theorem qt_is (l : List Nat) : qt l = 34 ∨ qt l = 39 := by unfold qt; split <;> simp
theorem reprText_wr {x : Str} (hx : IsText x) : reprText x = wr .r x := by
  have e : (reprText x).cps.toList = (wr .r x).cps.toList := by
    unfold reprText wr wrl
    rw [← Array.foldl_toList]
    show (Array.push _ _).toList = _
    rw [Array.toList_push, fold_flat, reprQuote_qt]
    have h : x.cps.toList.flatMap (reprChar (qt x.cps.toList)) = x.cps.toList.flatMap (esc .r (qt x.cps.toList)) := by
      exact flat_cong fun c hc => reprChar_esc (qt_is _) (hx.2 c hc)
    rw [h]
    simp
  exact str_ext e
theorem esc_len (kd : Kd) (q c : Nat) : (esc kd q c).length ≤ 4 := by
  unfold esc
  split
  · simp
  · split
    · simp
    · split <;> simp
theorem flat_len {f : Nat → List Nat} (hf : ∀ c, (f c).length ≤ 4) : ∀ l : List Nat, (l.flatMap f).length ≤ 4 * l.length
  | [] => Nat.le_refl _
  | a :: r => by
    have := flat_len hf r
    have := hf a
    rw [List.flatMap_cons, List.length_append, List.length_cons]
    lia
theorem wrl_len (kd : Kd) (l : List Nat) : (wrl kd l).length ≤ 4 * l.length + 2 := by
  cases kd with
  | s => show l.length ≤ _; lia
  | r =>
    have := flat_len (esc_len .r (qt l)) l
    show (_ :: (_ ++ [_])).length ≤ _
    rw [List.length_cons, List.length_append, List.length_singleton]; lia
  | a =>
    have := flat_len (esc_len .a (qt l)) l
    show (_ :: (_ ++ [_])).length ≤ _
    rw [List.length_cons, List.length_append, List.length_singleton]; lia
theorem wr_len {kd : Kd} {x : Str} (hx : IsText x) : (wr kd x).length ≤ 18 := by
  have := wrl_len kd x.cps.toList
  have := hx.1
  show (wrl kd x.cps.toList).toArray.size ≤ 18
  rw [List.size_toArray]
  lia
theorem esc_chars {kd : Kd} {q c d : Nat} (hq : q = 34 ∨ q = 39) (hc : c ∈ signsN) (hd : d ∈ esc kd q c) : d < 128 ∨ d = 233 := by
  simp only [signsN, List.mem_cons, List.not_mem_nil, or_false] at hc
  unfold esc at hd
  split at hd
  · simp at hd; lia
  · split at hd
    · simp at hd; lia
    · split at hd
      · simp at hd; lia
      · simp at hd; lia
theorem wrl_chars {kd : Kd} {l : List Nat} (hl : ∀ c ∈ l, c ∈ signsN) {d : Nat} (hd : d ∈ wrl kd l) : d < 128 ∨ d = 233 := by
  have hq := qt_is l
  have h1 : ∀ c ∈ l, c < 128 ∨ c = 233 := fun c hc => by
    have := hl c hc
    simp only [signsN, List.mem_cons, List.not_mem_nil, or_false] at this
    lia
  have h2 : ∀ kd, d ∈ qt l :: (l.flatMap (esc kd (qt l)) ++ [qt l]) → d < 128 ∨ d = 233 := fun kd hd => by
    rcases List.mem_cons.mp hd with rfl | hd
    · lia
    · rcases List.mem_append.mp hd with hd | hd
      · obtain ⟨c, hc, hd⟩ := List.mem_flatMap.mp hd
        exact esc_chars hq (hl c hc) hd
      · rw [List.mem_singleton.mp hd]; lia
  cases kd with
  | s => exact h1 d hd
  | r => exact h2 .r hd
  | a => exact h2 .a hd
theorem escA_esc {q c : Nat} (hq : q = 34 ∨ q = 39) (hc : c ∈ signsN) : (esc .r q c).flatMap escA = esc .a q c := by
  simp only [signsN, List.mem_cons, List.not_mem_nil, or_false] at hc
  rcases hq with rfl | rfl <;> rcases hc with rfl | rfl | rfl | rfl | rfl | rfl | rfl | rfl | rfl <;> decide
theorem ascii_wr {x : Str} (hx : IsText x) : (⟨(wr .r x).cps.flatMap fun c => (escA c).toArray⟩ : Str) = wr .a x := by
  refine str_ext ?_
  show ((wr .r x).cps.flatMap fun c => (escA c).toArray).toList = (wr .a x).cps.toList
  rw [Array.toList_flatMap]
  show (wrl .r x.cps.toList).flatMap (fun c => escA c) = wrl .a x.cps.toList
  have hq := qt_is x.cps.toList
  have hqe : escA (qt x.cps.toList) = [qt x.cps.toList] := by unfold escA; rw [if_pos (by lia)]
  unfold wrl
  dsimp only
  rw [List.flatMap_cons, List.flatMap_append, hqe, List.flatMap_singleton, hqe, List.flatMap_assoc]
  rw [flat_cong (f := fun c => List.flatMap (fun c => escA c) (esc .r (qt x.cps.toList) c)) (g := esc .a (qt x.cps.toList)) fun c hc => escA_esc hq (hx.2 c hc)]
  rfl
end Mine
end
section
open PySem PySem.W PyProof.Rows PySem.Calls PySem.Spec
set_option maxRecDepth 100000
set_option maxHeartbeats 4000000
namespace Mine
theorem lines_E2 : True := by
  w_top off
  k_with_none
  k_with "eval Name" => (k_here; (with_reducible show wpAny _ _ (eval (PySem.Expr.Name _ _) (envOf _ _ _ _ _)) _ _ _); k_dflt (refine' ld ?zzk1 ?zzk2 ?_; (case zzk1 => k_asm); (case zzk2 => (repeat (first | assumption | exact if_pos rfl | refine (if_neg (by decide +kernel)).trans ?_))); k_whole))
  k_with "subscriptTail Name Name ref int" => (k_here; k_dflt (refine' item_pair ?zzk1 ?zzk2 ?zzk3 ?zzk4 ?zzk5 ?_ ?zzk6; (case zzk1 => k_asm); (case zzk2 => k_asm); (case zzk3 => lia); (case zzk4 => lia); (case zzk5 => lia); (case zzk6 => with_unfolding_all rfl); k_whole); intro _ _ _)
  k_with "compareOp Lt ref ref" => (k_here; k_dflt (refine' lt_at ?zzk1 ?zzk2 ?zzk3 ?zzk4 ?zzk5 ?_; (case zzk1 => k_asm); (case zzk2 => exact fun _ h => List.Mem.tail _ h); (case zzk3 => k_asm); (case zzk4 => k_asm); (case zzk5 => ktr_units); k_whole))
  k_with "setItem ref int ref" => (k_here; k_dflt (refine' set_at ?zzk1 ?zzk2 ?zzk3 ?zzk4 ?zzk5 ?zzk6 ?_; (case zzk1 => k_asm); (case zzk2 => first | k_asm | exact news_tail (by k_asm)); (case zzk3 => k_asm); (case zzk4 => lia); (case zzk5 => lia); (case zzk6 => lia); k_whole); intro _ _ _; (try k_sweep))
  k_with "exec While Compare cons nil" => refine hold ?_
  k_with "storeName" => (k_here; k_dflt (first | (refine' st_ofI ?zzk1 ?zzk2 ?_; (case zzk1 => k_asm); (case zzk2 => k_asm); k_whole; intro _ _ _ _ _) | (refine' st_ofS ?zzk1 ?zzk2 ?_; (case zzk1 => k_asm); (case zzk2 => k_asm); k_whole; intro _ _ _ _ _) | (refine' st_of ?zzk1 ?zzk2 ?_; (case zzk1 => k_asm); (case zzk2 => k_asm); k_whole; intro _ _ _ _)); (try k_sweep); (try dsimp only))
  k_with "binaryOp RShift int int" => refine rshift_one ?_
  k_with "call builtin:len" => (k_here; (with_reducible show wpAny _ _ (call (Value.builtin "len") [Value.ref _]) _ _ _); k_dflt (refine' len_at ?zzk1 ?zzk2 ?zzk3 ?_; (case zzk1 => k_asm); (case zzk2 => k_mem); (case zzk3 => (try simp only [List.length_append, List.length_singleton, List.length_set]); lia); k_whole); intro _ _; (try dsimp only))
  k_with "subscriptTail Name Constant ref int" => (k_here; k_dflt (refine' item_pair ?zzk1 ?zzk2 ?zzk3 ?zzk4 ?zzk5 ?_ ?zzk6; (case zzk1 => k_asm); (case zzk2 => k_asm); (case zzk3 => lia); (case zzk4 => lia); (case zzk5 => lia); (case zzk6 => with_unfolding_all rfl); k_whole); intro _ _ _)
  k_with "call builtin:list.append" => (k_here; (with_reducible show wpAny _ _ (call (Value.builtin _) [Value.ref _, _]) _ _ _); k_dflt (refine' append_pair ?zzk1 ?zzk2 ?zzk3 ?zzk4 ?_; (case zzk1 => k_asm); (case zzk2 => k_asm); (case zzk3 => k_asm); (case zzk4 => lia); k_whole); intro _ _ _ _; (try k_sweep); (try dsimp only))
  k_with "call builtin:list.pop" => (k_here; (with_reducible show wpAny _ _ (call (Value.builtin _) [Value.ref _]) _ _ _); k_dflt (refine' pop_pair ?zzk1 ?zzk2 ?zzk3 ?zzk4 ?zzk5 ?_; (case zzk1 => k_asm); (case zzk2 => k_asm); (case zzk3 => k_asm); (case zzk4 => (try simp only [List.length_append, List.length_singleton]); lia); (case zzk5 => first | assumption | exact rfl); k_whole); intro _ _ _ _; (try k_sweep); (try dsimp only))
  k_with "truthy ref" => (k_here; k_dflt (refine' truthy_pair ?zzk1 ?zzk2 ?_; (case zzk1 => k_asm); (case zzk2 => lia); k_whole); intro _; (try dsimp only))
  k_with "WhlIf" => (refine' whlIf_split ?_ ?_ <;> (intro hc'; (try dsimp only); (try simp only [decide_eq_true_eq, decide_eq_false_iff_not] at hc'); (try (revert hc'; intro _))))
  k_with "WPost" => (try dsimp only); first | (refine wpost_brk ?_; (try dsimp only)) | (refine wpost_ret ?_; (try dsimp only)) | refine hold ?_
  k_with "CompSrc" => refine hold ?_
  k_with "call builtin:str.join" => (k_here; k_dflt (refine' join_at ?zzk1 ?zzk2 ?zzk3 ?_; (case zzk1 => k_asm); (case zzk2 => assumption); (case zzk3 => assumption); k_whole); intro _ _; (try dsimp only))
  trivial
section
variable {prog : Program} {w : World} {A : Around} {E : Value → Shared → Prop} {s : Shared}
theorem repr_wr {x : Str} {t : Tok} {Q : Value → Shared → Prop} (hx : IsText x) (h : ∀ t tk, Q (.str (wr .r x) t) { s with toks := tk }) : wpAny (model prog w) A (call (.builtin "repr") [.str x t]) Q E s := by
  refine P.repr_of_str ?_ ?_
  · rw [reprText_wr hx]; exact h _ _
  · rw [reprText_wr hx]
    have := wr_len (kd := .r) hx
    rw [sizeLine_eq]; lia
theorem ascii_wr_call {x : Str} {t : Tok} {Q : Value → Shared → Prop} (hx : IsText x) (h : ∀ t tk, Q (.str (wr .a x) t) { s with toks := tk }) : wpAny (model prog w) A (call (.builtin "ascii") [.str x t]) Q E s := by
  refine ascii_of_str ?_ ?_ ?_
  · rw [reprText_wr hx]
    have := wr_len (kd := .r) hx
    lia
  · rw [reprText_wr hx]
    intro c hc
    exact wrl_chars (kd := .r) hx.2 (by simpa [wr] using hc)
  · intro t tk
    rw [reprText_wr hx, ascii_wr hx]
    exact h t tk
end
theorem lines_E21 : True := by
  k_with "call builtin:repr" => (k_here; k_dflt (refine' repr_wr ?zzk1 ?_; (case zzk1 => assumption); k_whole); intro _ _; (try dsimp only))
  k_with "call builtin:ascii" => (k_here; k_dflt (refine' ascii_wr_call ?zzk1 ?_; (case zzk1 => assumption); k_whole); intro _ _; (try dsimp only))
  trivial
theorem convert_spec (w : World) (p : Program) (loose : List Str) (mean : ExcName → Option Value) (mg mb : Str → Option Value) (news : List (Addr × Obj)) (kd : Kd) (x : Str) (hx : IsText x) (self : Addr) (t1 t2 : Tok) :
    Call1 w p loose mean mg mb 85 news [.ref self, .str x t1, .str kd.str t2] 2 16
      (fun Q h₀ L m s => ∀ (h' : Heap) (tk' : Nat) (t : Tok), Fr h₀ L h' m → News h₀ L h' news → Q (.str (wr kd x) t) { s with heap := h', toks := tk' }) := by
  unfold Call1
  k_fill
  intro dp un gd cn cs a ccd cl outer A₀ base h₀ L m s Q E B F X N T hk hroom hun hret
  refine wpAny_call ?_
  have hlen : x.length ≤ 4 := by have := hx.1; rw [Array.length_toList] at this; exact this
  cases kd with
  | r =>
    unfold Kd.str
    k_dflt cell_enter
    rename_i g' L' h' FG F' N' B' X' T'
    generalize (s.toks + _ : Nat) = tk₀
    generalize hm₀ : (fun (y : Str) => (List.lookup y _ : Option Value)) = m₀ at F'
    have hm1 : m₀ (Str.ofString "value") = some (Value.str x t1) := by rw [← hm₀]; exact rfl
    have hm2 : m₀ (Str.ofString "conversion") = some (Value.str (Str.ofString "r") t2) := by rw [← hm₀]; exact rfl
    clear hm₀
    k_steps
    rename_i t₁ tk₁ kF kN Tc kX
    exact hret _ _ _ kF kN
  | a =>
    unfold Kd.str
    k_dflt cell_enter
    rename_i g' L' h' FG F' N' B' X' T'
    generalize (s.toks + _ : Nat) = tk₀
    generalize hm₀ : (fun (y : Str) => (List.lookup y _ : Option Value)) = m₀ at F'
    have hm1 : m₀ (Str.ofString "value") = some (Value.str x t1) := by rw [← hm₀]; exact rfl
    have hm2 : m₀ (Str.ofString "conversion") = some (Value.str (Str.ofString "a") t2) := by rw [← hm₀]; exact rfl
    clear hm₀
    k_steps
    rename_i t₁ tk₁ kF kN Tc kX
    exact hret _ _ _ kF kN
  | s =>
    unfold Kd.str
    k_dflt cell_enter
    rename_i g' L' h' FG F' N' B' X' T'
    generalize (s.toks + _ : Nat) = tk₀
    generalize hm₀ : (fun (y : Str) => (List.lookup y _ : Option Value)) = m₀ at F'
    have hm1 : m₀ (Str.ofString "value") = some (Value.str x t1) := by rw [← hm₀]; exact rfl
    have hm2 : m₀ (Str.ofString "conversion") = some (Value.str (Str.ofString "s") t2) := by rw [← hm₀]; exact rfl
    clear hm₀
    k_steps
    rename_i kF kN Tc kX
    exact hret _ _ _ kF kN
end Mine
end
section
open PySem PySem.W PyProof.Rows PySem.Calls PySem.Spec
set_option maxRecDepth 100000
set_option maxHeartbeats 4000000
namespace Mine
theorem lines_E3 : True := by
  w_top off
  k_with_none
  k_with "eval Name" => (k_here; (with_reducible show wpAny _ _ (eval (PySem.Expr.Name _ _) (envOf _ _ _ _ _)) _ _ _); k_dflt (refine' ld ?zzk1 ?zzk2 ?_; (case zzk1 => k_asm); (case zzk2 => (repeat (first | assumption | exact if_pos rfl | refine (if_neg (by decide +kernel)).trans ?_))); k_whole))
  k_with "subscriptTail Name Name ref int" => (k_here; k_dflt (refine' item_pair ?zzk1 ?zzk2 ?zzk3 ?zzk4 ?zzk5 ?_ ?zzk6; (case zzk1 => k_asm); (case zzk2 => k_asm); (case zzk3 => lia); (case zzk4 => lia); (case zzk5 => lia); (case zzk6 => with_unfolding_all rfl); k_whole); intro _ _ _)
  k_with "compareOp Lt ref ref" => (k_here; k_dflt (refine' lt_at ?zzk1 ?zzk2 ?zzk3 ?zzk4 ?zzk5 ?_; (case zzk1 => k_asm); (case zzk2 => exact fun _ h => List.Mem.tail _ h); (case zzk3 => k_asm); (case zzk4 => k_asm); (case zzk5 => ktr_units); k_whole))
  k_with "setItem ref int ref" => (k_here; k_dflt (refine' set_at ?zzk1 ?zzk2 ?zzk3 ?zzk4 ?zzk5 ?zzk6 ?_; (case zzk1 => k_asm); (case zzk2 => first | k_asm | exact news_tail (by k_asm)); (case zzk3 => k_asm); (case zzk4 => lia); (case zzk5 => lia); (case zzk6 => lia); k_whole); intro _ _ _; (try k_sweep))
  k_with "exec While Compare cons nil" => refine hold ?_
  k_with "storeName" => (k_here; k_dflt (first | (refine' st_ofI ?zzk1 ?zzk2 ?_; (case zzk1 => k_asm); (case zzk2 => k_asm); k_whole; intro _ _ _ _ _) | (refine' st_ofS ?zzk1 ?zzk2 ?_; (case zzk1 => k_asm); (case zzk2 => k_asm); k_whole; intro _ _ _ _ _) | (refine' st_of ?zzk1 ?zzk2 ?_; (case zzk1 => k_asm); (case zzk2 => k_asm); k_whole; intro _ _ _ _)); (try k_sweep); (try dsimp only))
  k_with "binaryOp RShift int int" => refine rshift_one ?_
  k_with "call builtin:len" => (k_here; (with_reducible show wpAny _ _ (call (Value.builtin "len") [Value.ref _]) _ _ _); k_dflt (refine' len_at ?zzk1 ?zzk2 ?zzk3 ?_; (case zzk1 => k_asm); (case zzk2 => k_mem); (case zzk3 => (try simp only [List.length_append, List.length_singleton, List.length_set]); lia); k_whole); intro _ _; (try dsimp only))
  k_with "subscriptTail Name Constant ref int" => (k_here; k_dflt (refine' item_pair ?zzk1 ?zzk2 ?zzk3 ?zzk4 ?zzk5 ?_ ?zzk6; (case zzk1 => k_asm); (case zzk2 => k_asm); (case zzk3 => lia); (case zzk4 => lia); (case zzk5 => lia); (case zzk6 => with_unfolding_all rfl); k_whole); intro _ _ _)
  k_with "call builtin:list.append" => (k_here; (with_reducible show wpAny _ _ (call (Value.builtin _) [Value.ref _, _]) _ _ _); k_dflt (refine' append_pair ?zzk1 ?zzk2 ?zzk3 ?zzk4 ?_; (case zzk1 => k_asm); (case zzk2 => k_asm); (case zzk3 => k_asm); (case zzk4 => lia); k_whole); intro _ _ _ _; (try k_sweep); (try dsimp only))
  k_with "call builtin:list.pop" => (k_here; (with_reducible show wpAny _ _ (call (Value.builtin _) [Value.ref _]) _ _ _); k_dflt (refine' pop_pair ?zzk1 ?zzk2 ?zzk3 ?zzk4 ?zzk5 ?_; (case zzk1 => k_asm); (case zzk2 => k_asm); (case zzk3 => k_asm); (case zzk4 => (try simp only [List.length_append, List.length_singleton]); lia); (case zzk5 => first | assumption | exact rfl); k_whole); intro _ _ _ _; (try k_sweep); (try dsimp only))
  k_with "truthy ref" => (k_here; k_dflt (refine' truthy_pair ?zzk1 ?zzk2 ?_; (case zzk1 => k_asm); (case zzk2 => lia); k_whole); intro _; (try dsimp only))
  k_with "WhlIf" => (refine' whlIf_split ?_ ?_ <;> (intro hc'; (try dsimp only); (try simp only [decide_eq_true_eq, decide_eq_false_iff_not] at hc'); (try (revert hc'; intro _))))
  k_with "WPost" => (try dsimp only); first | (refine wpost_brk ?_; (try dsimp only)) | (refine wpost_ret ?_; (try dsimp only)) | refine hold ?_
  k_with "CompSrc" => refine hold ?_
  k_with "call builtin:str.join" => (k_here; k_dflt (refine' join_at ?zzk1 ?zzk2 ?zzk3 ?_; (case zzk1 => k_asm); (case zzk2 => assumption); (case zzk3 => assumption); k_whole); intro _ _; (try dsimp only))
  trivial
theorem double_spec (w : World) (p : Program) (loose : List Str) (mean : ExcName → Option Value) (mg mb : Str → Option Value) (news : List (Addr × Obj)) (x : Str) (hx : IsText x) (t1 : Tok) :
    Call1 w p loose mean mg mb 167 news [.str x t1] 1 8
      (fun Q h₀ L m s => ∀ (h' : Heap) (tk' : Nat), Fr h₀ L h' m → News h₀ L h' news → Q (.bool (dbl x.cps.toList)) { s with heap := h', toks := tk' }) := by
  unfold Call1
  k_fill
  intro dp un gd cn cs a ccd cl outer A₀ base h₀ L m s Q E B F X N T hk hroom hun hret
  refine wpAny_call ?_
  have hlen : x.length ≤ 4 := by have := hx.1; rw [Array.length_toList] at this; exact this
  k_dflt cell_enter
  rename_i g' L' h' FG F' N' B' X' T'
  generalize (s.toks + _ : Nat) = tk₀
  generalize hm₀ : (fun (y : Str) => (List.lookup y _ : Option Value)) = m₀ at F'
  have hm1 : m₀ (Str.ofString "text") = some (Value.str x t1) := by rw [← hm₀]; exact rfl
  clear hm₀
  k_steps
  all_goals (have q1 : Str.ofString "'" = (⟨#[39]⟩ : Str) := by decide +kernel)
  all_goals (have q2 : Str.ofString "\"" = (⟨#[34]⟩ : Str) := by decide +kernel)
  · rename_i hc kF kN Tc kX
    have e := StrLaws.found_one x 39
    rw [q1] at hc ⊢
    rw [hc] at e
    have e2 : (39 ∈ x.cps.toList) = False := by simpa using e.symm
    have e3 : dbl x.cps.toList = !(Builtin.Str.occurrences x ⟨#[39]⟩ 0 x.length 1).isEmpty := by
      rw [hc]
      unfold dbl
      rw [List.contains_eq_mem]
      simp [e2]
    rw [← e3]
    exact hret _ _ kF kN
  · rename_i hc kF kN Tc kX
    have e := StrLaws.found_one x 39
    have f := StrLaws.found_one x 34
    rw [q1] at hc
    rw [hc] at e
    rw [q2]
    have e2 : (39 ∈ x.cps.toList) = True := by simpa using e.symm
    have e3 : dbl x.cps.toList = !!(Builtin.Str.occurrences x ⟨#[34]⟩ 0 x.length 1).isEmpty := by
      rw [f]
      unfold dbl
      rw [List.contains_eq_mem, List.contains_eq_mem]
      simp [e2]
    rw [← e3]
    exact hret _ _ kF kN
end Mine
end
section
open PySem PySem.W PyProof.Rows PySem.Calls PySem.Spec
set_option maxRecDepth 100000
set_option maxHeartbeats 4000000
namespace Mine
/-- the end of a turn of a for: what it is shown to keep -/
noncomputable def TPost (h₀ : Heap) (L : Addr) (Inv : (Str → Option Value) → List (Addr × Obj) → Prop) (own : List (Addr × Obj)) (s : Shared) (Q : Flow → Shared → Prop) (f : Flow) (s' : Shared) : Prop := match f with
  | .next => ∃ h' tk' m' news', s' = { s with heap := h', toks := tk' } ∧ Fr h₀ L h' m' ∧ News h₀ L h' (own ++ news') ∧ (∀ p ∈ own, ∀ q ∈ news', p.1 ≠ q.1) ∧ Inv m' news'
  | .cont => ∃ h' tk' m' news', s' = { s with heap := h', toks := tk' } ∧ Fr h₀ L h' m' ∧ News h₀ L h' (own ++ news') ∧ (∀ p ∈ own, ∀ q ∈ news', p.1 ≠ q.1) ∧ Inv m' news'
  | .brk => Q .next s'
  | .ret v => Q (.ret v) s'
section
variable {prog : Program} {w : World} {A : Around} {E : Value → Shared → Prop} {s : Shared} {env : Env} {h₀ : Heap} {m : Str → Option Value} {news : List (Addr × Obj)} {y : Str} {py : Pos} {body : List Stmt} {Q : Flow → Shared → Prop}
theorem for_walks {I : Addr} {n : Nat} {P : Nat → Value → Prop} {St : Nat → Heap → Prop} (W : Walks prog w A I [I] [I] n P St) (hE : PassesOwn (model prog w) A env E)
    (hyk : env.kindOf y = some .local) (hp : (env.scope.kind == .class || (env.scope.kind == .module && env.locals != env.globals)) = false)
    (hst : St 0 s.heap) (F : Fr h₀ env.locals s.heap m) (N : News h₀ env.locals s.heap news) (hIL : I ≠ env.locals) (hI₀ : h₀.get? I = none) (hIn : ∀ p ∈ news, p.1 ≠ I) (hIs : ∀ i h, St i h → ∃ o, h.get? I = some o)
    (Inv : Nat → (Str → Option Value) → List (Addr × Obj) → Prop) (h0 : Inv 0 m news)
    (step : ∀ i v m₁ news₁ own h tk, i < n → P i v → Inv i m₁ news₁ → (∀ p ∈ own, ∀ q ∈ news₁, p.1 ≠ q.1) → Fr h₀ env.locals h (fun z => if z = y then some v else m₁ z) → News h₀ env.locals h (own ++ news₁) →
      wpAny (model prog w) A (execs body env) (TPost h₀ env.locals (Inv (i + 1)) own { s with heap := h, toks := tk } Q) E { s with heap := h, toks := tk })
    (done : ∀ h tk m' news', Inv n m' news' → Fr h₀ env.locals h m' → News h₀ env.locals h news' → Q .next { s with heap := h, toks := tk }) :
    ForRest prog w A E env (.Name y py) (.ref I) body [] Q s := by
  unfold ForRest
  refine codeAny_forLoop_frV (fp := [I]) (wr := [I]) W hyk hp (fun h => hIL (List.mem_singleton.mp h).symm) (fun b hb => by rw [List.mem_singleton.mp hb]; exact hI₀) (fun p hp hm => hIn p hp (List.mem_singleton.mp hm)) hst F N (fun i m' nw => Inv i m' nw) h0 ?_ ?_
  · rintro i v m₁ news₁ s₁ own ⟨h, tk, rfl⟩ hi hP hI hn1 hsub hat hown hst₁ F₁ N₁
    have hap : ∀ p ∈ own, ∀ q ∈ news₁, p.1 ≠ q.1 := fun p hp q hq e => by
      have := List.mem_singleton.mp (hsub p hp)
      exact hn1 q hq (List.mem_singleton.mpr (e ▸ this))
    refine wpAny_mono (step i v m₁ news₁ own h tk hi hP hI hap F₁ N₁) (fun f s₂ hf => ?_) hE
    obtain ⟨oI, hoI⟩ := hIs _ _ hst₁
    have hmem := hown I (List.mem_singleton.mpr rfl) hI₀ oI hoI
    have conv : (∃ h' tk' m' news', s₂ = { s with heap := h', toks := tk' } ∧ Fr h₀ env.locals h' m' ∧ News h₀ env.locals h' (own ++ news') ∧ (∀ p ∈ own, ∀ q ∈ news', p.1 ≠ q.1) ∧ Inv (i + 1) m' news') →
        LoopStepU h₀ env.locals [I] own (Inv (i + 1)) { s with heap := h, toks := tk } .next s₂ := by
      rintro ⟨h', tk', m', news', rfl, F', N', ap', hJ⟩
      exact ⟨rfl, h', tk', m', news', rfl, F', N', fun q hq hm => ap' _ hmem q hq (List.mem_singleton.mp hm).symm, hJ⟩
    cases f with
    | next => exact conv hf
    | cont => exact conv hf
    | brk => exact hf
    | ret v => exact hf
  · rintro h' tk m' news' F' N' _ hJ
    exact done h' tk m' news' hJ F' N'
theorem for_text {x : Str} {t : Tok} (hh : A.handled = none) (hE : PassesOwn (model prog w) A env E)
    (hyk : env.kindOf y = some .local) (hp : (env.scope.kind == .class || (env.scope.kind == .module && env.locals != env.globals)) = false)
    (F : Fr h₀ env.locals s.heap m) (N : News h₀ env.locals s.heap news)
    (Inv : Nat → (Str → Option Value) → List (Addr × Obj) → Prop) (h0 : Inv 0 m news)
    (step : ∀ i c t m₁ news₁ own h tk, x.cps.toList[i]? = some c → Inv i m₁ news₁ → (∀ p ∈ own, ∀ q ∈ news₁, p.1 ≠ q.1) → Fr h₀ env.locals h (fun z => if z = y then some (.str ⟨#[c]⟩ t) else m₁ z) → News h₀ env.locals h (own ++ news₁) →
      wpAny (model prog w) A (execs body env) (TPost h₀ env.locals (Inv (i + 1)) own { s with heap := h, toks := tk } Q) E { s with heap := h, toks := tk })
    (done : ∀ h tk m' news', Inv x.cps.toList.length m' news' → Fr h₀ env.locals h m' → News h₀ env.locals h news' → Q .next { s with heap := h, toks := tk }) :
    wpAny (model prog w) A (pyIter (.str x t)) (fun it s₂ => ForRest prog w A E env (.Name y py) it body [] Q s₂) E s := by
  have fresh : h₀.get? s.heap.objs.size = none := by
    cases hq : h₀.get? s.heap.objs.size with
    | none => rfl
    | some o' => exact absurd (Heap.lt_size (F.keep _ _ hq)) (Nat.lt_irrefl _)
  have hL : s.heap.objs.size ≠ env.locals := Nat.ne_of_gt F.ns.lt
  have hn : ∀ p ∈ news, p.1 ≠ s.heap.objs.size := fun p hp => Nat.ne_of_lt (Heap.lt_size (N p hp).1)
  have step' : ∀ i v m₁ news₁ own h tk, i < x.cps.size → SignAt x i v → Inv i m₁ news₁ → (∀ p ∈ own, ∀ q ∈ news₁, p.1 ≠ q.1) → Fr h₀ env.locals h (fun z => if z = y then some v else m₁ z) → News h₀ env.locals h (own ++ news₁) →
      wpAny (model prog w) A (execs body env) (TPost h₀ env.locals (Inv (i + 1)) own { s with heap := h, toks := tk } Q) E { s with heap := h, toks := tk } := by
    rintro i v m₁ news₁ own h tk hi ⟨c, u, hc, rfl⟩ hI hap F₁ N₁
    exact step i c u m₁ news₁ own h tk (by rw [← hc]; simp) hI hap F₁ N₁
  have done' : ∀ h tk m' news', Inv x.cps.size m' news' → Fr h₀ env.locals h m' → News h₀ env.locals h news' → Q .next { s with heap := h, toks := tk } := fun h tk m' news' hI => done h tk m' news' (by rw [Array.length_toList]; exact hI)
  cases ha : x.cps.all (· < 128)
  · exact wpAny_pyIter_wide ha (for_walks (Walks.strWide hh _ x t) hE hyk hp ⟨_, Heap.get?_push_size _ rfl, rfl, rfl⟩ (F.push _) (fun p hp => ⟨Heap.get?_push_of_some _ (N p hp).1, (N p hp).2⟩) hL fresh hn (fun _ _ st => let ⟨o, ho, _⟩ := st; ⟨o, ho⟩) Inv h0 step' done')
  · exact wpAny_pyIter_ascii ha (for_walks (Walks.strAscii hh _ x t) hE hyk hp ⟨_, Heap.get?_push_size _ rfl, rfl, rfl⟩ (F.push _) (fun p hp => ⟨Heap.get?_push_of_some _ (N p hp).1, (N p hp).2⟩) hL fresh hn (fun _ _ st => let ⟨o, ho, _⟩ := st; ⟨o, ho⟩) Inv h0 step' done')
end
end Mine
end
section
open PySem PySem.W PyProof.Rows PySem.Calls PySem.Spec
set_option maxRecDepth 100000
set_option maxHeartbeats 4000000
namespace Mine
theorem sgn_true {c d : Nat} (h : ((⟨#[c]⟩ : Str) == ⟨#[d]⟩) = true) : c = d := by
  have := eq_of_beq h
  injection this with h1
  have := congrArg Array.toList h1
  injection this
theorem sgn_false {c d : Nat} (h : ((⟨#[c]⟩ : Str) == ⟨#[d]⟩) = false) : c ≠ d := by
  rintro rfl
  simp at h
theorem nl_is : Str.ofString "\n" = (⟨#[10]⟩ : Str) := by decide +kernel
theorem esc_nl {kd : Kd} {q c : Nat} (h : ((⟨#[c]⟩ : Str) == Str.ofString "\n") = true) : ((⟨#[Int.toNat 92]⟩ : Str) ++ Str.ofString "n").cps.toList = esc kd q c := by
  rw [nl_is] at h
  have := sgn_true h
  unfold esc; rw [if_pos this]; decide +kernel
theorem esc_a {q c : Nat} (h : ((⟨#[c]⟩ : Str) == Str.ofString "\n") = false) (h2 : ((⟨#[c]⟩ : Str) == ⟨#[Int.toNat 233]⟩) = true) : ((⟨#[Int.toNat 92]⟩ : Str) ++ Str.ofString "xe9").cps.toList = esc .a q c := by
  rw [nl_is] at h
  have := sgn_false h
  have h3 := sgn_true h2
  unfold esc; rw [if_neg this, if_pos ⟨h3, rfl⟩]; decide +kernel
theorem esc_bs {kd : Kd} {q c d : Nat} (h : ((⟨#[c]⟩ : Str) == Str.ofString "\n") = false) (h2 : ¬ (c = 233 ∧ kd = .a)) (h3 : ((⟨#[c]⟩ : Str) == ⟨#[d]⟩) = true) (hd : d = 92 ∨ d = q) : ((⟨#[Int.toNat 92]⟩ : Str) ++ (⟨#[c]⟩ : Str)).cps.toList = esc kd q c := by
  rw [nl_is] at h
  have := sgn_false h
  have h4 := sgn_true h3
  subst h4
  unfold esc; rw [if_neg this, if_neg h2, if_pos hd]; rfl
theorem esc_id {kd : Kd} {q c : Nat} (h : ((⟨#[c]⟩ : Str) == Str.ofString "\n") = false) (h2 : ¬ (c = 233 ∧ kd = .a)) (h3 : ((⟨#[c]⟩ : Str) == ⟨#[Int.toNat 92]⟩) = false) (h4 : ((⟨#[c]⟩ : Str) == ⟨#[q]⟩) = false) : (⟨#[c]⟩ : Str).cps.toList = esc kd q c := by
  rw [nl_is] at h
  have := sgn_false h
  have h5 := sgn_false h3
  have h6 := sgn_false h4
  unfold esc; rw [if_neg this, if_neg h2, if_neg (by rintro (h | h); exact h5 h; exact h6 h)]
theorem not_a_f {kd : Kd} {c : Nat} (h : ((⟨#[c]⟩ : Str) == ⟨#[Int.toNat 233]⟩) = false) : ¬ (c = 233 ∧ kd = .a) := fun ⟨e, _⟩ => sgn_false h e
theorem not_a_r {c : Nat} : ¬ (c = 233 ∧ Kd.r = Kd.a) := fun ⟨_, e⟩ => nomatch e
/-- what the loop of _law_written keeps -/
noncomputable def WInv (kd : Kd) (x : Str) (t2 : Tok) (D : Addr) (news : List (Addr × Obj)) (i : Nat) (m' : Str → Option Value) (nw : List (Addr × Obj)) : Prop :=
  ∃ ys n xs, nw = (D, listOf ys.toArray n) :: news ∧ m' (Str.ofString "kind") = some (Value.str kd.str t2)
    ∧ (∃ t, m' (Str.ofString "quote") = some (Value.str ⟨#[qt x.cps.toList]⟩ t)) ∧ m' (Str.ofString "parts") = some (Value.ref D) ∧ StrsAre ys xs ∧ xs.length = i + 1 ∧ (∀ z ∈ xs, z.length ≤ 4) ∧ i ≤ x.cps.toList.length
    ∧ (xs.map fun z => z.cps.toList).flatten = qt x.cps.toList :: (x.cps.toList.take i).flatMap (esc kd (qt x.cps.toList))
theorem w_end {kd : Kd} {x z : Str} {t2 tz : Tok} {D L : Addr} {news own : List (Addr × Obj)} {i c n o : Nat} {h₀ h h' : Heap} {s : Shared} {Q : Flow → Shared → Prop} {tk tk' : Nat} {ys : List Value} {xs : List Str} {v : Value} {m₁ : Str → Option Value}
    (hc : x.cps.toList[i]? = some c) (F' : Fr h₀ L h' (fun z => if z = Str.ofString "sign" then some v else m₁ z)) (N' : News h₀ L h' ((D, listOf (ys ++ [Value.str z tz]).toArray n) :: (own ++ news)))
    (hap : ∀ p ∈ own, ∀ q ∈ (D, listOf ys.toArray o) :: news, p.1 ≠ q.1)
    (hm1 : m₁ (Str.ofString "kind") = some (Value.str kd.str t2)) (hm2 : ∃ t, m₁ (Str.ofString "quote") = some (Value.str ⟨#[qt x.cps.toList]⟩ t)) (hm3 : m₁ (Str.ofString "parts") = some (Value.ref D))
    (hys : StrsAre ys xs) (hxl : xs.length = i + 1) (hx4 : ∀ z ∈ xs, z.length ≤ 4)
    (hfl : (xs.map fun z => z.cps.toList).flatten = qt x.cps.toList :: (x.cps.toList.take i).flatMap (esc kd (qt x.cps.toList)))
    (hz : z.cps.toList = esc kd (qt x.cps.toList) c) :
    TPost h₀ L (WInv kd x t2 D news (i + 1)) own { s with heap := h, toks := tk } Q .next { s with heap := h', toks := tk' } := by
  refine ⟨h', tk', _, (D, listOf (ys ++ [Value.str z tz]).toArray n) :: news, rfl, F', fun p hp => N' p ?_, ?_, ys ++ [Value.str z tz], n, xs ++ [z], rfl, ?_, ?_, ?_, strs_snoc hys, ?_, ?_, ?_, ?_⟩
  · rcases List.mem_append.mp hp with hp | hp
    · exact .tail _ (List.mem_append.mpr (.inl hp))
    · rcases List.mem_cons.mp hp with rfl | hp
      · exact .head _
      · exact .tail _ (List.mem_append.mpr (.inr hp))
  · intro p hp q hq
    rcases List.mem_cons.mp hq with rfl | hq
    · exact hap p hp (D, listOf ys.toArray o) (.head _)
    · exact hap p hp q (.tail _ hq)
  · exact (if_neg (by decide +kernel)).trans hm1
  · obtain ⟨t, ht⟩ := hm2
    exact ⟨t, (if_neg (by decide +kernel)).trans ht⟩
  · exact (if_neg (by decide +kernel)).trans hm3
  · simp [hxl]
  · intro y hy
    rcases List.mem_append.mp hy with hy | hy
    · exact hx4 y hy
    · rw [List.mem_singleton.mp hy]
      have := esc_len kd (qt x.cps.toList) c
      rw [← hz, Array.length_toList] at this
      exact this
  · exact (List.getElem?_eq_some_iff.mp hc).1
  · rw [List.map_append, List.flatten_append, hfl, List.map_singleton, List.flatten_singleton, hz]
    have : x.cps.toList.take (i + 1) = x.cps.toList.take i ++ [c] := by
      rw [List.take_add_one, hc]; rfl
    rw [this, List.flatMap_append, List.flatMap_singleton]
    rfl
theorem strs_len {ys : List Value} {xs : List Str} (h : StrsAre ys xs) : ys.length = xs.length := by
  induction h with
  | nil => rfl
  | cons z u _ ih => simp [ih]
theorem sum_len {xs : List Str} {k : Nat} (h : ∀ z ∈ xs, z.length ≤ k) : (xs.map (·.length)).sum ≤ k * xs.length := by
  induction xs with
  | nil => simp
  | cons a r ih =>
    rw [List.map_cons, List.sum_cons, List.length_cons, Nat.mul_add, Nat.mul_one]
    have := h a (.head _)
    have := ih fun z hz => h z (.tail _ hz)
    lia
theorem wr_join {kd : Kd} {x : Str} {xs : List Str} (hk : kd = .r ∨ kd = .a) (h : (xs.map fun z => z.cps.toList).flatten = qt x.cps.toList :: (x.cps.toList.take x.cps.toList.length).flatMap (esc kd (qt x.cps.toList))) :
    Txt.join (Str.ofString "") (xs ++ [⟨#[qt x.cps.toList]⟩]) = wr kd x := by
  apply str_ext
  rw [join_flat, List.map_append, List.flatten_append, h, List.take_length]
  rcases hk with rfl | rfl <;> rfl
section
variable {prog : Program} {w : World} {A : Around} {E : Value → Shared → Prop} {s : Shared} {h₀ : Heap} {L a b : Addr} {m : Str → Option Value} {news : List (Addr × Obj)} {Q : Value → Shared → Prop}
theorem list_in {its : Array Value} {n : Nat} (N : News h₀ L s.heap news) (hm : (a, listOf its n) ∈ news) : s.heap.IsList a its := ⟨_, (N _ hm).1, rfl, n, rfl⟩
/-- the sum of two lists of the ledger -/
theorem add_at {xs ys : List Value} {n k : Nat} (F : Fr h₀ L s.heap m) (N : News h₀ L s.heap news) (ha : (a, listOf xs.toArray n) ∈ news) (hb : (b, listOf ys.toArray k) ∈ news) (hz : xs.length + ys.length ≤ 1000000)
    (h : ∀ D h', Fr h₀ L h' m → News h₀ L h' ((D, listOf (xs ++ ys).toArray 0) :: news) → (∀ p ∈ news, p.1 < D) → Q (.ref D) { s with heap := h' }) : wpAny (model prog w) A (binaryOp .Add (.ref a) (.ref b)) Q E s :=
  kmk_add_lit F N (list_in N ha) (list_in N hb) rfl (by simpa using h) (by rw [sizeLine_eq]; simp only [List.size_toArray, Array.length_toList]; lia)
theorem join_in {D : Addr} {ys : List Value} {xs : List Str} {n : Nat} {t : Tok} (N : News h₀ L s.heap news) (hm : (D, listOf ys.toArray n) ∈ news) (hys : StrsAre ys xs) (hw : (xs.map (·.length)).sum + xs.length ≤ 1048576)
    (h : ∀ t' tk, Q (.str (Txt.join (Str.ofString "") xs) t') { s with toks := tk }) : wpAny (model prog w) A (call (.builtin "str.join") [.str (Str.ofString "") t, .ref D]) Q E s :=
  join_listW (list_in N hm) hys (by decide +kernel) hw h
end
end Mine
end
section
open PySem PySem.W PyProof.Rows PySem.Calls PySem.Spec
set_option maxRecDepth 100000
set_option maxHeartbeats 4000000
namespace Mine
theorem lines_E4 : True := by
  w_top off
  k_with_none
  k_with "eval Name" => (k_here; (with_reducible show wpAny _ _ (eval (PySem.Expr.Name _ _) (envOf _ _ _ _ _)) _ _ _); k_dflt (refine' ld ?zzk1 ?zzk2 ?_; (case zzk1 => k_asm); (case zzk2 => (repeat (first | assumption | exact if_pos rfl | refine (if_neg (by decide +kernel)).trans ?_))); k_whole))
  k_with "subscriptTail Name Name ref int" => (k_here; k_dflt (refine' item_pair ?zzk1 ?zzk2 ?zzk3 ?zzk4 ?zzk5 ?_ ?zzk6; (case zzk1 => k_asm); (case zzk2 => k_asm); (case zzk3 => lia); (case zzk4 => lia); (case zzk5 => lia); (case zzk6 => with_unfolding_all rfl); k_whole); intro _ _ _)
  k_with "compareOp Lt ref ref" => (k_here; k_dflt (refine' lt_at ?zzk1 ?zzk2 ?zzk3 ?zzk4 ?zzk5 ?_; (case zzk1 => k_asm); (case zzk2 => exact fun _ h => List.Mem.tail _ h); (case zzk3 => k_asm); (case zzk4 => k_asm); (case zzk5 => ktr_units); k_whole))
  k_with "setItem ref int ref" => (k_here; k_dflt (refine' set_at ?zzk1 ?zzk2 ?zzk3 ?zzk4 ?zzk5 ?zzk6 ?_; (case zzk1 => k_asm); (case zzk2 => first | k_asm | exact news_tail (by k_asm)); (case zzk3 => k_asm); (case zzk4 => lia); (case zzk5 => lia); (case zzk6 => lia); k_whole); intro _ _ _; (try k_sweep))
  k_with "exec While Compare cons nil" => refine hold ?_
  k_with "storeName" => (k_here; k_dflt (first | (refine' st_ofI ?zzk1 ?zzk2 ?_; (case zzk1 => k_asm); (case zzk2 => k_asm); k_whole; intro _ _ _ _ _) | (refine' st_ofS ?zzk1 ?zzk2 ?_; (case zzk1 => k_asm); (case zzk2 => k_asm); k_whole; intro _ _ _ _ _) | (refine' st_of ?zzk1 ?zzk2 ?_; (case zzk1 => k_asm); (case zzk2 => k_asm); k_whole; intro _ _ _ _)); (try k_sweep); (try dsimp only))
  k_with "binaryOp RShift int int" => refine rshift_one ?_
  k_with "call builtin:len" => (k_here; (with_reducible show wpAny _ _ (call (Value.builtin "len") [Value.ref _]) _ _ _); k_dflt (refine' len_at ?zzk1 ?zzk2 ?zzk3 ?_; (case zzk1 => k_asm); (case zzk2 => k_mem); (case zzk3 => (try simp only [List.length_append, List.length_singleton, List.length_set]); lia); k_whole); intro _ _; (try dsimp only))
  k_with "subscriptTail Name Constant ref int" => (k_here; k_dflt (refine' item_pair ?zzk1 ?zzk2 ?zzk3 ?zzk4 ?zzk5 ?_ ?zzk6; (case zzk1 => k_asm); (case zzk2 => k_asm); (case zzk3 => lia); (case zzk4 => lia); (case zzk5 => lia); (case zzk6 => with_unfolding_all rfl); k_whole); intro _ _ _)
  k_with "call builtin:list.append" => (k_here; (with_reducible show wpAny _ _ (call (Value.builtin _) [Value.ref _, _]) _ _ _); k_dflt (refine' append_pair ?zzk1 ?zzk2 ?zzk3 ?zzk4 ?_; (case zzk1 => k_asm); (case zzk2 => k_asm); (case zzk3 => k_asm); (case zzk4 => lia); k_whole); intro _ _ _ _; (try k_sweep); (try dsimp only))
  k_with "call builtin:list.pop" => (k_here; (with_reducible show wpAny _ _ (call (Value.builtin _) [Value.ref _]) _ _ _); k_dflt (refine' pop_pair ?zzk1 ?zzk2 ?zzk3 ?zzk4 ?zzk5 ?_; (case zzk1 => k_asm); (case zzk2 => k_asm); (case zzk3 => k_asm); (case zzk4 => (try simp only [List.length_append, List.length_singleton]); lia); (case zzk5 => first | assumption | exact rfl); k_whole); intro _ _ _ _; (try k_sweep); (try dsimp only))
  k_with "truthy ref" => (k_here; k_dflt (refine' truthy_pair ?zzk1 ?zzk2 ?_; (case zzk1 => k_asm); (case zzk2 => lia); k_whole); intro _; (try dsimp only))
  k_with "WhlIf" => (refine' whlIf_split ?_ ?_ <;> (intro hc'; (try dsimp only); (try simp only [decide_eq_true_eq, decide_eq_false_iff_not] at hc'); (try (revert hc'; intro _))))
  k_with "WPost" => (try dsimp only); first | (refine wpost_brk ?_; (try dsimp only)) | (refine wpost_ret ?_; (try dsimp only)) | refine hold ?_
  k_with "CompSrc" => refine hold ?_
  k_with "call builtin:str.join" => (k_here; k_dflt (refine' join_at ?zzk1 ?zzk2 ?zzk3 ?_; (case zzk1 => k_asm); (case zzk2 => assumption); (case zzk3 => assumption); k_whole); intro _ _; (try dsimp only))
  trivial
theorem lines_E41 : True := by
  k_with "call ref" => (k_here; (with_reducible show wpAny _ _ (call (Value.ref 167) _) _ _ _); k_dflt (refine' double_spec _ _ _ _ _ _ _ _ ?zzhx _ _ _ _ _ _ _ _ _ _ _ _ _ _ _ _ _ _ ?zzB ?zzF ?zzX ?zzN ?zzT ?zzhk ?zzhroom ?zzhun ?_; (case zzB => k_asm); (case zzF => k_asm); (case zzX => k_asm); (case zzN => k_asm); (case zzT => k_asm); (case zzhk => first | exact rfl | assumption); (case zzhx => k_asm); (case zzhroom => ktr_room); (case zzhun => ktr_units); k_whole); intro _ _ _ _; (try k_sweep); (try dsimp only))
  k_with "exec For Name Name cons nil" => (k_here; k_dflt (refine for_start ?_ ?zzhs; (case zzhs => intro _; rfl)))
  k_with "pyIter str" => refine hold ?_
  trivial
theorem lines_E42 : True := by
  k_with "binaryOp Add ref ref" => (k_here; (with_reducible show wpAny _ _ (binaryOp _ (Value.ref _) (Value.ref _)) _ _ _); k_dflt (refine' add_at ?zzF ?zzN ?zza ?zzb ?zzz ?_; (case zzF => k_asm); (case zzN => k_asm); (case zza => k_mem); (case zzb => k_mem); (case zzz => (simp only [List.length_append, List.length_cons, List.length_nil]; lia)); k_whole); intro _ _ _ _ l1; (try k_lt l1); (try (revert l1; intro _)); (try k_sweep); (try dsimp only))
  trivial
theorem lines_E43 : True := by
  k_with "call builtin:str.join" => (k_here; k_dflt (refine' join_in ?zzk1 ?zzk0 ?zzk2 ?zzk3 ?_; (case zzk1 => k_asm); (case zzk0 => k_mem); (case zzk2 => assumption); (case zzk3 => assumption); k_whole); intro _ _; (try dsimp only))
  trivial
theorem lines_E44 : True := by
  k_with "Meet" => ((try dsimp only); first | (refine meet_ret ?_; (try dsimp only)) | refine hold ?_)
  trivial
theorem kd_a {kd : Kd} (h : (kd.str == Str.ofString "a") = true) : kd = .a := by
  cases kd with
  | a => rfl
  | r => exact absurd h (by decide +kernel)
  | s => exact absurd h (by decide +kernel)
theorem esc_ak {kd : Kd} {q c : Nat} (hk : (kd.str == Str.ofString "a") = true) (h : ((⟨#[c]⟩ : Str) == Str.ofString "\n") = false) (h2 : ((⟨#[c]⟩ : Str) == ⟨#[Int.toNat 233]⟩) = true) : ((⟨#[Int.toNat 92]⟩ : Str) ++ Str.ofString "xe9").cps.toList = esc kd q c := by
  rw [kd_a hk]; exact esc_a h h2
theorem not_a_k {kd : Kd} {c : Nat} (h : (kd.str == Str.ofString "a") = false) : ¬ (c = 233 ∧ kd = .a) := fun ⟨_, e⟩ => by
  subst e
  exact absurd h (by decide +kernel)
theorem written_spec (w : World) (p : Program) (loose : List Str) (mean : ExcName → Option Value) (mg mb : Str → Option Value) (news : List (Addr × Obj)) (kd : Kd) (x : Str) (hx : IsText x) (t1 t2 : Tok) :
    Call1 w p loose mean mg mb 181 news [.str x t1, .str kd.str t2] 2 16
      (fun Q h₀ L m s => ∀ (h' : Heap) (tk' : Nat) (t : Tok), Fr h₀ L h' m → News h₀ L h' news → Q (.str (wr kd x) t) { s with heap := h', toks := tk' }) := by
  unfold Call1
  k_fill
  intro dp un gd cn cs a ccd cl outer A₀ base h₀ L m s Q E B F X N T hk hroom hun hret
  refine wpAny_call ?_
  have hlen : x.length ≤ 4 := by have := hx.1; rw [Array.length_toList] at this; exact this
  k_dflt cell_enter
  rename_i g' L' h' FG F' N' B' X' T'
  generalize (s.toks + _ : Nat) = tk₀
  generalize hm₀ : (fun (y : Str) => (List.lookup y _ : Option Value)) = m₀ at F'
  have hm1 : m₀ (Str.ofString "text") = some (Value.str x t1) := by rw [← hm₀]; exact rfl
  have hm2 : m₀ (Str.ofString "kind") = some (Value.str kd.str t2) := by rw [← hm₀]; exact rfl
  clear hm₀
  refine execs_cut3 (fun st => (kd = .r ∨ kd = .a) ∧ ∃ h' tk m' D tA tq, st = { s with heap := h', toks := tk } ∧ Fr g' L' h' m' ∧ News g' L' h' ((D, listOf [Value.str ⟨#[qt x.cps.toList]⟩ tA].toArray 0) :: news) ∧ (∀ q ∈ news, q.1 ≠ D)
    ∧ m' (Str.ofString "text") = some (.str x t1) ∧ m' (Str.ofString "kind") = some (.str kd.str t2) ∧ m' (Str.ofString "quote") = some (.str ⟨#[qt x.cps.toList]⟩ tq) ∧ m' (Str.ofString "parts") = some (.ref D)) ?rest ?pre
  case pre =>
    cases hkd : kd with
    | s =>
      rw [hkd] at hm2
      unfold Kd.str at hm2
      k_steps
      rename_i kF kN Tc kX
      subst hkd
      exact hret _ _ _ kF kN
    | _ =>
      rw [hkd] at hm2
      unfold Kd.str at hm2
      k_steps
      all_goals
        rename_i tkA hd hA tA tkB D hB l₁ h₁ tk₁ F₁ N₁
        first
          | have hqs : Str.ofString "\"" = ⟨#[qt x.cps.toList]⟩ := by (unfold qt; rw [hd]; decide +kernel)
          | have hqs : Str.ofString "'" = ⟨#[qt x.cps.toList]⟩ := by (unfold qt; rw [hd]; decide +kernel)
        rw [hqs] at F₁ N₁
        refine unhold ?_
        refine ⟨by first | exact .inl rfl | exact .inr rfl | exact .inl trivial | exact .inr trivial | simp, _, _, _, D, _, _, rfl, F₁, N₁, fun q hq => Nat.ne_of_lt (l₁ q hq), by (repeat (first | assumption | exact if_pos rfl | refine (if_neg (by decide +kernel)).trans ?_)), ?_, by (repeat (first | assumption | exact if_pos rfl | refine (if_neg (by decide +kernel)).trans ?_)), by (repeat (first | assumption | exact if_pos rfl | refine (if_neg (by decide +kernel)).trans ?_))⟩
        unfold Kd.str
        (repeat (first | assumption | exact if_pos rfl | refine (if_neg (by decide +kernel)).trans ?_))
  case rest =>
    clear hm1 hm2 F' N' N F
    rintro st ⟨hkk, h₁, tk₁, m₁, D, tA, tq, rfl, F₁, N₁, hne, hm1, hm2, hmq, hmp⟩
    k_steps
    have F₂ : Fr g' L' h₁ m₁ := by assumption
    refine unhold ?_
    refine for_text (h₀ := g') (Q := _) rfl ?hE ?hy ?hp F₂ N₁ (WInv kd x t2 D news) ?h0 ?step ?done
    case hE => first | passes_own | with_unfolding_all passes_own
    case hy => rfl
    case hp => rfl
    case h0 =>
      refine ⟨_, 0, [⟨#[qt x.cps.toList]⟩], rfl, hm2, ⟨tq, hmq⟩, hmp, .cons _ _ .nil, rfl, ?_, Nat.zero_le _, rfl⟩
      intro z hz
      rw [List.mem_singleton.mp hz]; exact (by decide : (1 : Nat) ≤ 4)
    case step =>
      clear F₂ N₁ hm1 hm2 hmq hmp
      rintro i c t m₁ news₁ own h tk hc ⟨ys, n, xs, rfl, hm1, ⟨t3, hm2⟩, hm3, hys, hxl, hx4, hi4, hfl⟩ hap F₂ N₂
      have N₃ : News g' L' h ((D, listOf ys.toArray n) :: (own ++ news)) := fun p hp => N₂ p (by
        rcases List.mem_cons.mp hp with rfl | hp
        · exact List.mem_append.mpr (.inr (.head _))
        · rcases List.mem_append.mp hp with hp | hp
          · exact List.mem_append.mpr (.inl hp)
          · exact List.mem_append.mpr (.inr (.tail _ hp)))
      have hne2 : ∀ q ∈ own ++ news, q.1 ≠ D := fun q hq => by
        rcases List.mem_append.mp hq with hq | hq
        · exact hap q hq _ (.head _)
        · exact hne q hq
      clear N₂
      have hsz : ys.length < 2 ^ 20 := by
        have := hx.1
        rw [strs_len hys, hxl]; lia
      k_steps
      all_goals first
        | exact w_end hc (by assumption) (by assumption) hap hm1 ⟨t3, hm2⟩ hm3 hys hxl hx4 hfl (esc_nl (by assumption))
        | exact w_end hc (by assumption) (by assumption) hap hm1 ⟨t3, hm2⟩ hm3 hys hxl hx4 hfl (esc_ak (by assumption) (by assumption) (by assumption))
        | exact w_end hc (by assumption) (by assumption) hap hm1 ⟨t3, hm2⟩ hm3 hys hxl hx4 hfl (esc_bs (d := 92) (by assumption) (by first | exact not_a_f (by assumption) | exact not_a_k (by assumption)) (by assumption) (.inl rfl))
        | exact w_end hc (by assumption) (by assumption) hap hm1 ⟨t3, hm2⟩ hm3 hys hxl hx4 hfl (esc_bs (d := qt x.cps.toList) (by assumption) (by first | exact not_a_f (by assumption) | exact not_a_k (by assumption)) (by assumption) (.inr rfl))
        | exact w_end hc (by assumption) (by assumption) hap hm1 ⟨t3, hm2⟩ hm3 hys hxl hx4 hfl (esc_id (by assumption) (by first | exact not_a_f (by assumption) | exact not_a_k (by assumption)) (by assumption) (by assumption))
    case done =>
      clear F₂ N₁ hm1 hm2 hmq hmp
      rintro h tk m' nw ⟨ys, n, xs, rfl, hm1, ⟨t3, hm2⟩, hm3, hys, hxl, hx4, hi4, hfl⟩ F₂ N₂
      have hyl := strs_len hys
      have hs := strs_snoc (y := ⟨#[qt x.cps.toList]⟩) (t := t3) hys
      have hw : ((xs ++ [(⟨#[qt x.cps.toList]⟩ : Str)]).map (·.length)).sum + (xs ++ [(⟨#[qt x.cps.toList]⟩ : Str)]).length ≤ 1048576 := by
        have hx1 := hx.1
        have := sum_len (k := 4) (xs := xs ++ [(⟨#[qt x.cps.toList]⟩ : Str)]) fun z hz => by
          rcases List.mem_append.mp hz with hz | hz
          · exact hx4 z hz
          · rw [List.mem_singleton.mp hz]; exact (by decide : (1 : Nat) ≤ 4)
        rw [List.length_append, hxl, List.length_singleton] at *
        lia
      have hx1 := hx.1
      have e1 := wr_join hkk hfl
      k_steps
      rename_i t₄ tk₄ kF kN Tc kX
      rw [e1]
      refine hret _ _ _ kF fun p hp => kN p ?_
      exact .tail _ (.tail _ (.tail _ hp))
end Mine
end
section
open PySem PySem.W PyProof.Rows PySem.Calls PySem.Spec
set_option maxRecDepth 100000
set_option maxHeartbeats 4000000
namespace Mine
section
variable {prog : Program} {w : World} {A : Around} {E : Value → Shared → Prop} {s : Shared} {env : Env} {h₀ : Heap} {m : Str → Option Value} {news : List (Addr × Obj)} {xi xc : Str} {body : List Stmt} {Q : Flow → Shared → Prop}
/-- the end of a turn of a for over enumerate: what it is shown to keep -/
noncomputable def EPost (h₀ : Heap) (L : Addr) (Inv : (Str → Option Value) → Prop) (own news : List (Addr × Obj)) (s : Shared) (f : Flow) (s' : Shared) : Prop :=
  f = .next ∧ ∃ h' tk' m', s' = { s with heap := h', toks := tk' } ∧ Fr h₀ L h' m' ∧ News h₀ L h' (own ++ news) ∧ Inv m'
noncomputable def signKind : ItemKind Nat := ⟨fun c v => ∃ u, v = .str ⟨#[c]⟩ u, fun v => match v with | .str z _ => z.cps[0]? | _ => none, fun _ _ h => by obtain ⟨t, rfl⟩ := h; rfl⟩
theorem for_enum_text {x : Str} {t : Tok} (hh : A.handled = none) (F : Fr h₀ env.locals s.heap m) (N : News h₀ env.locals s.heap news)
    (Inv : Nat → (Str → Option Value) → Prop) (h0 : Inv 0 m)
    (step : ∀ i c t t' m₁ own h tk, x.cps.toList[i]? = some c → Inv i m₁ → Fr h₀ env.locals h (fun z => if z = xc then some (.str ⟨#[c]⟩ t') else if z = xi then some (.int i t) else m₁ z) → News h₀ env.locals h (own ++ news) →
      wpAny (model prog w) A (execs body env) (EPost h₀ env.locals (Inv (i + 1)) own news { s with heap := h, toks := tk }) E { s with heap := h, toks := tk })
    (done : ∀ h tk m', Inv x.cps.toList.length m' → Fr h₀ env.locals h m' → News h₀ env.locals h news → Q .next { s with heap := h, toks := tk }) :
    wpAny (model prog w) A (call (.type "enumerate") [.str x t]) (fun xv s₁ => wpAny (model prog w) A (pyIter xv) (fun it s₂ => PairAt3 prog w A h₀ env xi xc body Q E it s₂) E s₁) E s := by
  refine call_enumerate_str fun h' he hit hz keep => ?_
  have F' : Fr h₀ env.locals h' m := F.kept keep
  have N' : News h₀ env.locals h' news := N.grown keep
  have hlt := F.ns.lt
  have fresh : ∀ k, h₀.get? (s.heap.objs.size + k) = none := fun k => by
    cases hq : h₀.get? (s.heap.objs.size + k) with
    | none => rfl
    | some o' => exact absurd (Heap.lt_size (F.keep _ _ hq)) (Nat.not_lt.mpr (Nat.le_add_right _ _))
  have key : ∀ {fp : List Addr} {n : Nat} {P : Nat → Value → Prop} {St : Nat → Heap → Prop} (D : Draws prog w A.in1 s.heap.objs.size fp n P St), fp = [s.heap.objs.size] → n = x.cps.size → (∀ i v, P i v → SignAt x i v) → St 0 h' →
      wpAny (model prog w) A (pyIter (.ref (s.heap.objs.size + 1))) (fun it s₂ => PairAt3 prog w A h₀ env xi xc body Q E it s₂) E { s with heap := h' } := by
    intro fp n P St D hfp hn hP hst
    subst hfp
    refine enumSrc (K := signKind) (as := x.cps.toList) (s := { s with heap := h' }) D he hst (Nat.succ_ne_self _) (fun hm => Nat.succ_ne_self _ (List.mem_singleton.mp hm)) (.head _) (fun hm => ?_) (fresh 1) (fresh 0) (fun b hb q hq e => ?_) (by rw [hn, Array.length_toList]) (fun i v hv => ?_) F' N' xi xc body Q (fun i m' nw => nw = news ∧ Inv i m') ⟨rfl, h0⟩ ?_ ?_
    · rcases List.mem_cons.mp hm with e | hm
      · exact Nat.ne_of_lt (Nat.lt_succ_of_lt hlt) e
      · exact Nat.ne_of_lt hlt (List.mem_singleton.mp hm)
    · have hq2 : q.1 < s.heap.objs.size := Heap.lt_size (N q hq).1
      rcases List.mem_cons.mp hb with e2 | hb
      · exact Nat.ne_of_lt (Nat.lt_succ_of_lt hq2) (e.symm.trans e2)
      · exact Nat.ne_of_lt hq2 (e.symm.trans (List.mem_singleton.mp hb))
    · obtain ⟨c, u, hc, rfl⟩ := hP i v hv
      exact ⟨c, by rw [← hc]; simp, u, rfl⟩
    · rintro i c t' v m₁ news₁ s₁ own ⟨h, tk, rfl⟩ hc ⟨u, rfl⟩ ⟨rfl, hI⟩ _ _ F₁ N₁
      refine wpAny_mono (step i c t' u m₁ own h tk hc hI F₁ N₁) (fun f s₂ hf => ?_) fun _ _ e => e
      obtain ⟨rfl, h'', tk', m', rfl, F₂, N₂, hJ⟩ := hf
      exact ⟨rfl, h'', tk', m', news₁, rfl, F₂, N₂, rfl, rfl, hJ⟩
    · rintro h tk m' nw F₂ N₂ _ ⟨rfl, hI⟩
      exact done h tk m' hI F₂ N₂
  cases ha : x.cps.all (· < 128)
  · have e : strIterType x = "str_iterator" := by simp [strIterType, ha]
    rw [e] at hit
    exact key (St := fun i h => h.IsStrIter s.heap.objs.size "str_iterator" x t i) (Draws.strWide (A := A.in1) (show A.in1.handled = none from hh) s.heap.objs.size x t) rfl rfl (fun _ _ h => h) hit
  · have e : strIterType x = "str_ascii_iterator" := by simp [strIterType, ha]
    rw [e] at hit
    exact key (St := fun i h => h.IsStrIter s.heap.objs.size "str_ascii_iterator" x t i) (Draws.strAscii (A := A.in1) (show A.in1.handled = none from hh) s.heap.objs.size x t) rfl rfl (fun _ _ h => h) hit
end
end Mine
end
section
open PySem PySem.W PyProof.Rows PySem.Calls PySem.Spec
set_option maxRecDepth 100000
set_option maxHeartbeats 4000000
namespace Mine
/-- the signs and the end, in the order of a conversion -/
noncomputable def sgs (kd : Kd) (d : Bool) : List Nat := match kd, d with
  | .s, _ => [46, 10, 32, 33, 34, 39, 90, 92, 97, 233]
  | .r, false => [32, 33, 34, 46, 90, 39, 92, 10, 97, 233]
  | .r, true => [32, 33, 46, 39, 90, 92, 10, 97, 233]
  | .a, false => [32, 33, 34, 46, 90, 39, 92, 10, 233, 97]
  | .a, true => [32, 33, 46, 39, 90, 92, 10, 233, 97]
noncomputable def sgsS (kd : Kd) (d : Bool) : Str := ⟨(sgs kd d).toArray⟩
noncomputable def toldB (kd : Kd) (d : Bool) : Int := match kd, d with
  | .s, _ => 0
  | _, true => 0
  | _, false => 100000
/-- the number of signs from a place on -/
noncomputable def tgo (S : List Nat) : List Nat → Nat → Int
  | [], _ => 0
  | c :: r, p => (S.idxOf c : Int) * 10 ^ (4 - p) + tgo S r (p + 1)
noncomputable def toldl (kd : Kd) (l : List Nat) : Int := toldB kd (dbl l) + tgo (sgs kd (dbl l)) (l ++ [46]) 0
noncomputable def told (kd : Kd) (x : Str) : Int := toldl kd x.cps.toList
noncomputable def signsE : List Nat := 46 :: signsN
theorem tgo_snoc (S : List Nat) (c : Nat) : ∀ (l : List Nat) (p : Nat), tgo S (l ++ [c]) p = tgo S l p + (S.idxOf c : Int) * 10 ^ (4 - (p + l.length))
  | [], p => by simp [tgo]
  | a :: r, p => by
    rw [List.cons_append, tgo, tgo, tgo_snoc S c r (p + 1), List.length_cons]
    rw [show p + 1 + r.length = p + (r.length + 1) by lia]
    lia
theorem tgo_take {S : List Nat} {l : List Nat} {i c : Nat} (h : l[i]? = some c) : tgo S (l.take (i + 1)) 0 = tgo S (l.take i) 0 + (S.idxOf c : Int) * 10 ^ (4 - i) := by
  have hi := (List.getElem?_eq_some_iff.mp h).1
  rw [List.take_add_one, h]
  show tgo S (l.take i ++ [c]) 0 = _
  rw [tgo_snoc, List.length_take, Nat.min_eq_left (Nat.le_of_lt hi), Nat.zero_add]
theorem idx_le (kd : Kd) (d : Bool) {c : Nat} (hc : c ∈ signsE) (h : c = 34 → d = false ∨ kd = .s) : (sgs kd d).idxOf c < 10 ∧ c ∈ sgs kd d := by
  simp only [signsE, signsN, List.mem_cons, List.not_mem_nil, or_false] at hc
  rcases hc with rfl | rfl | rfl | rfl | rfl | rfl | rfl | rfl | rfl | rfl <;> cases kd <;> cases d <;> first | decide | (have := h rfl; simp at this)
theorem find_sgs (kd : Kd) (d : Bool) {c : Nat} (hc : c ∈ signsE) (h : c = 34 → d = false ∨ kd = .s) : Txt.find (sgsS kd d) ⟨#[c]⟩ = ((sgs kd d).idxOf c : Int) := by
  simp only [signsE, signsN, List.mem_cons, List.not_mem_nil, or_false] at hc
  rcases hc with rfl | rfl | rfl | rfl | rfl | rfl | rfl | rfl | rfl | rfl <;> cases kd <;> cases d <;> first | decide +kernel | (have := h rfl; simp at this)
theorem dot_list (x : Str) : (x ++ Str.ofString ".").cps.toList = x.cps.toList ++ [46] := by
  show (x.cps ++ (Str.ofString ".").cps).toList = _
  rw [Array.toList_append]; congr 1
theorem not_dq {l : List Nat} {c : Nat} (hc : c ∈ l ++ [46]) (h : c = 34) (kd : Kd) : dbl l = false ∨ kd = .s := by
  subst h
  left
  rcases List.mem_append.mp hc with hc | hc
  · unfold dbl
    have : l.contains 34 = true := List.contains_iff_mem.mpr hc
    rw [this]; simp
  · exact absurd (List.mem_singleton.mp hc) (by decide)
noncomputable def TInv (kd : Kd) (x : Str) (i : Nat) (m' : Str → Option Value) : Prop :=
  (∃ t, m' (Str.ofString "signs") = some (Value.str (sgsS kd (dbl x.cps.toList)) t)) ∧ (∃ t, m' (Str.ofString "told") = some (Value.int (toldB kd (dbl x.cps.toList) + tgo (sgs kd (dbl x.cps.toList)) ((x ++ Str.ofString ".").cps.toList.take i) 0) t)) ∧ i ≤ (x ++ Str.ofString ".").cps.toList.length
theorem TInv.zero {kd : Kd} {x : Str} {m : Str → Option Value} {z : Str} {y : Int} {t u : Tok} (h1 : m (Str.ofString "signs") = some (.str z t)) (e1 : z = sgsS kd (dbl x.cps.toList)) (h2 : m (Str.ofString "told") = some (.int y u)) (e2 : y = toldB kd (dbl x.cps.toList)) : TInv kd x 0 m :=
  ⟨⟨t, e1 ▸ h1⟩, ⟨u, by rw [h2, e2, List.take_zero]; unfold tgo; rw [Int.add_zero]⟩, Nat.zero_le _⟩
theorem TInv.next {kd : Kd} {x : Str} {m : Str → Option Value} {i c : Nat} {y : Int} {t u : Tok} (hc : (x ++ Str.ofString ".").cps.toList[i]? = some c) (h1 : m (Str.ofString "signs") = some (.str (sgsS kd (dbl x.cps.toList)) t))
    (h2 : m (Str.ofString "told") = some (.int y u)) (e2 : y = toldB kd (dbl x.cps.toList) + tgo (sgs kd (dbl x.cps.toList)) ((x ++ Str.ofString ".").cps.toList.take i) 0 + ((sgs kd (dbl x.cps.toList)).idxOf c : Int) * 10 ^ (4 - i)) : TInv kd x (i + 1) m :=
  ⟨⟨t, h1⟩, ⟨u, by rw [h2, e2, tgo_take hc, Int.add_assoc]⟩, (List.getElem?_eq_some_iff.mp hc).1⟩
theorem TInv.done {kd : Kd} {x : Str} {m : Str → Option Value} (h : TInv kd x (x ++ Str.ofString ".").cps.toList.length m) : ∃ t, m (Str.ofString "told") = some (.int (told kd x) t) := by
  obtain ⟨_, ⟨t, h⟩, _⟩ := h
  refine ⟨t, ?_⟩
  rw [h, List.take_length, dot_list]
  rfl
end Mine
end
section
open PySem PySem.W PyProof.Rows PySem.Calls PySem.Spec
set_option maxRecDepth 100000
set_option maxHeartbeats 4000000
namespace Mine
theorem lines_E5 : True := by
  w_top off
  k_with_none
  k_with "eval Name" => (k_here; (with_reducible show wpAny _ _ (eval (PySem.Expr.Name _ _) (envOf _ _ _ _ _)) _ _ _); k_dflt (refine' ld ?zzk1 ?zzk2 ?_; (case zzk1 => k_asm); (case zzk2 => (repeat (first | assumption | exact if_pos rfl | refine (if_neg (by decide +kernel)).trans ?_))); k_whole))
  k_with "subscriptTail Name Name ref int" => (k_here; k_dflt (refine' item_pair ?zzk1 ?zzk2 ?zzk3 ?zzk4 ?zzk5 ?_ ?zzk6; (case zzk1 => k_asm); (case zzk2 => k_asm); (case zzk3 => lia); (case zzk4 => lia); (case zzk5 => lia); (case zzk6 => with_unfolding_all rfl); k_whole); intro _ _ _)
  k_with "compareOp Lt ref ref" => (k_here; k_dflt (refine' lt_at ?zzk1 ?zzk2 ?zzk3 ?zzk4 ?zzk5 ?_; (case zzk1 => k_asm); (case zzk2 => exact fun _ h => List.Mem.tail _ h); (case zzk3 => k_asm); (case zzk4 => k_asm); (case zzk5 => ktr_units); k_whole))
  k_with "setItem ref int ref" => (k_here; k_dflt (refine' set_at ?zzk1 ?zzk2 ?zzk3 ?zzk4 ?zzk5 ?zzk6 ?_; (case zzk1 => k_asm); (case zzk2 => first | k_asm | exact news_tail (by k_asm)); (case zzk3 => k_asm); (case zzk4 => lia); (case zzk5 => lia); (case zzk6 => lia); k_whole); intro _ _ _; (try k_sweep))
  k_with "exec While Compare cons nil" => refine hold ?_
  k_with "storeName" => (k_here; k_dflt (first | (refine' st_ofI ?zzk1 ?zzk2 ?_; (case zzk1 => k_asm); (case zzk2 => k_asm); k_whole; intro _ _ _ _ _) | (refine' st_ofS ?zzk1 ?zzk2 ?_; (case zzk1 => k_asm); (case zzk2 => k_asm); k_whole; intro _ _ _ _ _) | (refine' st_of ?zzk1 ?zzk2 ?_; (case zzk1 => k_asm); (case zzk2 => k_asm); k_whole; intro _ _ _ _)); (try k_sweep); (try dsimp only))
  k_with "binaryOp RShift int int" => refine rshift_one ?_
  k_with "call builtin:len" => (k_here; (with_reducible show wpAny _ _ (call (Value.builtin "len") [Value.ref _]) _ _ _); k_dflt (refine' len_at ?zzk1 ?zzk2 ?zzk3 ?_; (case zzk1 => k_asm); (case zzk2 => k_mem); (case zzk3 => (try simp only [List.length_append, List.length_singleton, List.length_set]); lia); k_whole); intro _ _; (try dsimp only))
  k_with "subscriptTail Name Constant ref int" => (k_here; k_dflt (refine' item_pair ?zzk1 ?zzk2 ?zzk3 ?zzk4 ?zzk5 ?_ ?zzk6; (case zzk1 => k_asm); (case zzk2 => k_asm); (case zzk3 => lia); (case zzk4 => lia); (case zzk5 => lia); (case zzk6 => with_unfolding_all rfl); k_whole); intro _ _ _)
  k_with "call builtin:list.append" => (k_here; (with_reducible show wpAny _ _ (call (Value.builtin _) [Value.ref _, _]) _ _ _); k_dflt (refine' append_pair ?zzk1 ?zzk2 ?zzk3 ?zzk4 ?_; (case zzk1 => k_asm); (case zzk2 => k_asm); (case zzk3 => k_asm); (case zzk4 => lia); k_whole); intro _ _ _ _; (try k_sweep); (try dsimp only))
  k_with "call builtin:list.pop" => (k_here; (with_reducible show wpAny _ _ (call (Value.builtin _) [Value.ref _]) _ _ _); k_dflt (refine' pop_pair ?zzk1 ?zzk2 ?zzk3 ?zzk4 ?zzk5 ?_; (case zzk1 => k_asm); (case zzk2 => k_asm); (case zzk3 => k_asm); (case zzk4 => (try simp only [List.length_append, List.length_singleton]); lia); (case zzk5 => first | assumption | exact rfl); k_whole); intro _ _ _ _; (try k_sweep); (try dsimp only))
  k_with "truthy ref" => (k_here; k_dflt (refine' truthy_pair ?zzk1 ?zzk2 ?_; (case zzk1 => k_asm); (case zzk2 => lia); k_whole); intro _; (try dsimp only))
  k_with "WhlIf" => (refine' whlIf_split ?_ ?_ <;> (intro hc'; (try dsimp only); (try simp only [decide_eq_true_eq, decide_eq_false_iff_not] at hc'); (try (revert hc'; intro _))))
  k_with "WPost" => (try dsimp only); first | (refine wpost_brk ?_; (try dsimp only)) | (refine wpost_ret ?_; (try dsimp only)) | refine hold ?_
  k_with "CompSrc" => refine hold ?_
  k_with "call builtin:str.join" => (k_here; k_dflt (refine' join_at ?zzk1 ?zzk2 ?zzk3 ?_; (case zzk1 => k_asm); (case zzk2 => assumption); (case zzk3 => assumption); k_whole); intro _ _; (try dsimp only))
  trivial
section
variable {prog : Program} {w : World} {A : Around} {E : Value → Shared → Prop} {s : Shared} {t u : Tok} {i : Nat} {a : Int} {Q : Value → Shared → Prop}
theorem pow_ten (hi : i ≤ 4) (h : ∀ t tk, Q (.int (10 ^ (4 - i)) t) { s with toks := tk }) : wpAny (model prog w) A (binaryOp .Pow (.int 10 t) (.int (4 - (i : Int)) u)) Q E s := by
  have e : ((4 : Int) - i).toNat = 4 - i := by lia
  refine pow_int_small (by lia) (by lia) (by decide) ?_
  rw [e]
  exact h _ _
theorem mul_ten (hi : i ≤ 4) (h : ∀ t tk, Q (.int (a * 10 ^ (4 - i)) t) { s with toks := tk }) : wpAny (model prog w) A (binaryOp .Mult (.int a t) (.int (10 ^ (4 - i)) u)) Q E s := by
  refine mul_int (h _ _) (IntMulOk.of_right ?_)
  have hk : i = 0 ∨ i = 1 ∨ i = 2 ∨ i = 3 ∨ i = 4 := by lia
  rcases hk with rfl | rfl | rfl | rfl | rfl <;> decide +kernel
end
theorem lines_E51 : True := by
  k_with "binaryOp Pow int int" => (k_here; (with_reducible show wpAny _ _ (binaryOp _ (Value.int 10 _) (Value.int (4 - Nat.cast _) _)) _ _ _); k_dflt (refine' pow_ten ?zzh ?_; (case zzh => assumption); k_whole); intro _ _; (try dsimp only))
  k_with "binaryOp Mult int int" => (k_here; (with_reducible show wpAny _ _ (binaryOp _ (Value.int _ _) (Value.int (10 ^ (4 - _)) _)) _ _ _); k_dflt (refine' mul_ten ?zzh ?_; (case zzh => assumption); k_whole); intro _ _; (try dsimp only))
  k_with "call ref" => (k_here; (with_reducible show wpAny _ _ (call (Value.ref 167) _) _ _ _); k_dflt (refine' double_spec _ _ _ _ _ _ _ _ ?zzhx _ _ _ _ _ _ _ _ _ _ _ _ _ _ _ _ _ _ ?zzB ?zzF ?zzX ?zzN ?zzT ?zzhk ?zzhroom ?zzhun ?_; (case zzB => k_asm); (case zzF => k_asm); (case zzX => k_asm); (case zzN => k_asm); (case zzT => k_asm); (case zzhk => first | exact rfl | assumption); (case zzhx => k_asm); (case zzhroom => ktr_room); (case zzhun => ktr_units); k_whole); intro _ _ _ _; (try k_sweep); (try dsimp only))
  trivial
theorem lines_E52 : True := by
  k_with "call type:enumerate" => refine hold ?_
  trivial
theorem lines_E53 : True := by
  k_with "loadName" => (k_here; k_dflt (refine' ldn ?zzk1 ?zzk2 ?_; (case zzk1 => k_asm); (case zzk2 => (repeat (first | assumption | exact if_pos rfl | refine (if_neg (by decide +kernel)).trans ?_))); k_whole))
  trivial
/-- the signs' order of _law_told, at its start -/
noncomputable def sg0 (d : Bool) : Str := ⟨if d then #[32, 33, 46, 39, 90, 92, 10] else #[32, 33, 34, 46, 90, 39, 92, 10]⟩
theorem sg0_len (d : Bool) : (sg0 d).length ≤ 8 := by cases d <;> decide
theorem told_spec (w : World) (p : Program) (loose : List Str) (mean : ExcName → Option Value) (mg mb : Str → Option Value) (news : List (Addr × Obj)) (kd : Kd) (x : Str) (hx : IsText x) (t1 t2 : Tok) :
    Call1 w p loose mean mg mb 174 news [.str x t1, .str kd.str t2] 2 16
      (fun Q h₀ L m s => ∀ (h' : Heap) (tk' : Nat) (t : Tok), Fr h₀ L h' m → News h₀ L h' news → Q (.int (told kd x) t) { s with heap := h', toks := tk' }) := by
  unfold Call1
  k_fill
  intro dp un gd cn cs a ccd cl outer A₀ base h₀ L m s Q E B F X N T hk hroom hun hret
  refine wpAny_call ?_
  have hlen : x.length ≤ 4 := by have := hx.1; rw [Array.length_toList] at this; exact this
  k_dflt cell_enter
  rename_i g' L' h' FG F' N' B' X' T'
  generalize (s.toks + _ : Nat) = tk₀
  generalize hm₀ : (fun (y : Str) => (List.lookup y _ : Option Value)) = m₀ at F'
  have hm1 : m₀ (Str.ofString "text") = some (Value.str x t1) := by rw [← hm₀]; exact rfl
  have hm2 : m₀ (Str.ofString "kind") = some (Value.str kd.str t2) := by rw [← hm₀]; exact rfl
  clear hm₀
  refine execs_cut5 (fun st => ∃ h' tk m', st = { s with heap := h', toks := tk } ∧ Fr g' L' h' m' ∧ News g' L' h' news ∧ m' (Str.ofString "text") = some (.str x t1) ∧ TInv kd x 0 m') ?rest ?pre
  case pre =>
    clear hret
    refine execs_cut2 (fun st => ∃ h' tk m' z t, st = { s with heap := h', toks := tk } ∧ Fr g' L' h' m' ∧ News g' L' h' news ∧ m' (Str.ofString "text") = some (.str x t1) ∧ m' (Str.ofString "kind") = some (.str kd.str t2) ∧ m' (Str.ofString "signs") = some (.str z t) ∧ z = sg0 (dbl x.cps.toList)) ?rest1 ?pre1
    case pre1 =>
      k_steps
      all_goals
        refine ⟨_, _, _, _, _, rfl, by assumption, by assumption, by (repeat (first | assumption | exact if_pos rfl | refine (if_neg (by decide +kernel)).trans ?_)), by (repeat (first | assumption | exact if_pos rfl | refine (if_neg (by decide +kernel)).trans ?_)), by (repeat (first | assumption | exact if_pos rfl | refine (if_neg (by decide +kernel)).trans ?_)), ?_⟩
        first
          | (have hd1 : dbl x.cps.toList = true := by assumption); rw [hd1]
          | (have hd1 : dbl x.cps.toList = false := by assumption); rw [hd1]
        decide +kernel
    case rest1 =>
      clear hm1 hm2 F' N' N F
      rintro st ⟨h₁, tk₁, m₁, z, tz, rfl, F₁, N₁, hm1, hm2, hm3, hz⟩
      have hz8 : z.length ≤ 8 := by rw [hz]; exact sg0_len _
      cases kd with
      | _ =>
        unfold Kd.str at hm2
        k_steps
        all_goals
          refine ⟨_, _, _, rfl, by assumption, by assumption, by (repeat (first | assumption | exact if_pos rfl | refine (if_neg (by decide +kernel)).trans ?_)), TInv.zero (by (repeat (first | assumption | exact if_pos rfl | refine (if_neg (by decide +kernel)).trans ?_))) ?_ (by (repeat (first | assumption | exact if_pos rfl | refine (if_neg (by decide +kernel)).trans ?_))) ?_⟩
          all_goals (try rw [hz])
          all_goals
            first
              | ((have hd1 : dbl x.cps.toList = true := by assumption); rw [hd1]; decide +kernel)
              | ((have hd1 : dbl x.cps.toList = false := by assumption); rw [hd1]; decide +kernel)
              | (cases dbl x.cps.toList <;> decide +kernel)
  case rest =>
    clear hm1 hm2 F' N'
    rintro st ⟨h₁, tk₁, m₁, rfl, F₁, N₁, hm1, hI⟩
    k_steps
    have F₁ : Fr g' L' h₁ m₁ := by assumption
    have N₁ : News g' L' h₁ news := by assumption
    refine unhold ?_
    refine for_enum_text rfl F₁ N₁ (TInv kd x) hI ?step ?done
    case step =>
      rintro i c ti tc m₁ own h tk hc ⟨⟨t3, hm1⟩, ⟨t4, hm2⟩, hi⟩ F₂ N₂
      have hcm := List.mem_of_getElem? hc
      have hlt := (List.getElem?_eq_some_iff.mp hc).1
      rw [dot_list] at hcm hlt
      rw [List.length_append, List.length_singleton] at hlt
      have hx1 := hx.1
      have hi5 : i ≤ 4 := by lia
      have hce : c ∈ signsE := by
        rcases List.mem_append.mp hcm with hcm | hcm
        · exact .tail _ (hx.2 c hcm)
        · rw [List.mem_singleton.mp hcm]; exact .head _
      have hf := find_sgs kd (dbl x.cps.toList) hce fun e => not_dq hcm e kd
      clear N F hlt hx1 hi
      obtain ⟨y, hy⟩ : ∃ y : Int, y = toldB kd (dbl x.cps.toList) + tgo (sgs kd (dbl x.cps.toList)) ((x ++ Str.ofString ".").cps.toList.take i) 0 := ⟨_, rfl⟩
      rw [← hy] at hm2
      obtain ⟨S, hS⟩ : ∃ S : Str, S = sgsS kd (dbl x.cps.toList) := ⟨_, rfl⟩
      rw [← hS] at hm1 hf
      k_steps
      · exfalso
        have hbad : Txt.find S ⟨#[c]⟩ = -1 := by assumption
        rw [hf] at hbad
        lia
      · rename_i F₃ N₃
        refine ⟨rfl, _, _, _, rfl, F₃, N₃, TInv.next hc (by rw [← hS]; (repeat (first | assumption | exact if_pos rfl | refine (if_neg (by decide +kernel)).trans ?_))) (by (repeat (first | assumption | exact if_pos rfl | refine (if_neg (by decide +kernel)).trans ?_))) ?_⟩
        rw [hf, hy]
    case done =>
      intro h tk m' hI F₂ N₂
      obtain ⟨t5, hm1⟩ := hI.done
      k_steps
      rename_i kF kN Tc kX
      exact hret _ _ _ kF kN
end Mine
end
section
open PySem PySem.W PyProof.Rows PySem.Calls PySem.Spec
set_option maxRecDepth 100000
set_option maxHeartbeats 4000000
namespace Mine
section
variable {N : Nat} {key : Nat → Int}
/-- a tree of questions, answered by a number of each item -/
noncomputable def Tv (N : Nat) (key : Nat → Int) {α : Type} : KasT α → (α → Prop) → Prop
  | .ret a, P => P a
  | .ask i j k, P => i < N ∧ j < N ∧ Tv N key (k (decide (key i < key j))) P
theorem Tv_bind {α β : Type} {f : α → KasT β} {P : β → Prop} : ∀ (t : KasT α), Tv N key t (fun a => Tv N key (f a) P) → Tv N key (t.bind f) P
  | .ret _, h => h
  | .ask i j k, h => ⟨h.1, h.2.1, Tv_bind (k _) h.2.2⟩
theorem Tv_ask {α : Type} {i j : Nat} {T₁ T₂ : KasT α} {P : α → Prop} (hi : i < N) (hj : j < N) (h1 : key i < key j → Tv N key T₁ P) (h2 : key j ≤ key i → Tv N key T₂ P) :
    Tv N key (.ask i j fun c => if c = true then T₁ else T₂) P := by
  refine ⟨hi, hj, ?_⟩
  by_cases h : key i < key j
  · rw [decide_eq_true h]; exact h1 h
  · rw [decide_eq_false h]; exact h2 (Int.not_lt.mp h)
/-- the number of the item that lies at a place -/
noncomputable def Vk (key : Nat → Int) (p : Array Nat) (i : Nat) : Int := key (p.getD i 0)
noncomputable def Srt (key : Nat → Int) (p : Array Nat) (n : Nat) : Prop := ∀ i j, i ≤ j → j < n → Vk key p i ≤ Vk key p j
noncomputable def Dec (key : Nat → Int) (p : Array Nat) (n : Nat) : Prop := ∀ i j, i ≤ j → j < n → Vk key p j ≤ Vk key p i
noncomputable def Bnd (N : Nat) (p : Array Nat) : Prop := ∀ i, p.getD i 0 < N
theorem getD_is (p : Array Nat) (i : Nat) : p.getD i 0 = (p[i]?).getD 0 := by simp [Array.getD_eq_getD_getElem?]
theorem Vk_congr {p q : Array Nat} {i j : Nat} (h : p[i]? = q[j]?) : Vk key p i = Vk key q j := by unfold Vk; rw [getD_is, getD_is, h]
theorem Bnd.perm {p q : Array Nat} (hp : q.Perm p) (h : Bnd N p) : Bnd N q := by
  intro i
  by_cases hi : i < q.size
  · have hm : q[i] ∈ p.toList := (Array.perm_iff_toList_perm.mp hp).mem_iff.mp (by simp)
    obtain ⟨j, hj, e⟩ := List.getElem_of_mem hm
    have e2 : q.getD i 0 = p.getD j 0 := by
      rw [getD_is, getD_is, getElem?_pos q i hi, ← Array.getElem?_toList, List.getElem?_eq_getElem hj, e]
    rw [e2]; exact h j
  · have e2 : q.getD i 0 = p.getD p.size 0 := by
      rw [getD_is, getD_is]; simp [hi]
    rw [e2]; exact h _
theorem Vk_rev {p : Array Nat} {i j : Nat} (hj : j ≤ p.size) (k : Nat) : Vk key (kas_rev p i j) k = if i ≤ k ∧ k < j then Vk key p (i + j - 1 - k) else Vk key p k := by
  have e := getElem?_mirror_all (i := i) hj k
  unfold kas_rev
  by_cases h1 : i ≤ k ∧ k < j
  · rw [if_pos h1] at e ⊢; exact Vk_congr e
  · rw [if_neg h1] at e ⊢; exact Vk_congr e
theorem Vk_rev_equal {p : Array Nat} {i j : Nat} (hj : j ≤ p.size) (heq : ∀ k, i ≤ k → k < j → Vk key p k = Vk key p (j - 1)) (k : Nat) : Vk key (kas_rev p i j) k = Vk key p k := by
  rw [Vk_rev hj]
  split
  · rw [heq _ (by lia) (by lia), heq k (by lia) (by lia)]
  · rfl
theorem Vk_bubble {p : Array Nat} {src d : Nat} (hs : src < p.size) (hd : d ≤ src) (k : Nat) :
    Vk key (bubble p src d) k = if k = src - d then Vk key p src else if src - d < k ∧ k ≤ src then Vk key p (k - 1) else Vk key p k := by
  have e := getElem?_bubble hs d hd k
  by_cases h1 : k = src - d
  · rw [if_pos h1] at e ⊢; exact Vk_congr e
  · rw [if_neg h1] at e ⊢
    by_cases h2 : src - d < k ∧ k ≤ src
    · rw [if_pos h2] at e ⊢; exact Vk_congr e
    · rw [if_neg h2] at e ⊢; exact Vk_congr e
theorem rev_perm (p : Array Nat) (i j : Nat) : (kas_rev p i j).Perm p := mirror_perm _ _ _ _
theorem Srt.snoc {p : Array Nat} {n : Nat} (h : Srt key p n) (h2 : Vk key p (n - 1) ≤ Vk key p n) : Srt key p (n + 1) := by
  intro i j hij hj
  rcases Nat.lt_or_ge j n with h1 | h1
  · exact h i j hij h1
  · have : j = n := by lia
    subst this
    rcases Nat.lt_or_ge i j with h3 | h3
    · exact Int.le_trans (h i (j - 1) (by lia) (by lia)) h2
    · have : i = j := by lia
      subst this; exact Int.le_refl _
theorem Dec.snoc {p : Array Nat} {n : Nat} (h : Dec key p n) (h2 : Vk key p n ≤ Vk key p (n - 1)) : Dec key p (n + 1) := by
  intro i j hij hj
  rcases Nat.lt_or_ge j n with h1 | h1
  · exact h i j hij h1
  · have : j = n := by lia
    subst this
    rcases Nat.lt_or_ge i j with h3 | h3
    · exact Int.le_trans h2 (h i (j - 1) (by lia) (by lia))
    · have : i = j := by lia
      subst this; exact Int.le_refl _
theorem asc_ok {P : Nat → Prop} {p : Array Nat} (hB : Bnd N p) : ∀ (f n : Nat), 1 ≤ n → Srt key p n → (∀ m, n ≤ m → m ≤ n + f → Srt key p m → (m = n + f ∨ Vk key p m < Vk key p (m - 1)) → P m) → Tv N key (kas_asc p f n) P
  | 0, n, _, hs, h => h n (Nat.le_refl _) (Nat.le_refl _) hs (.inl rfl)
  | f + 1, n, h1, hs, h => by
    refine Tv_ask (hB _) (hB _) (fun hl => ?_) (fun hl => ?_)
    · exact h n (Nat.le_refl _) (by lia) hs (.inr hl)
    · exact asc_ok hB f (n + 1) (by lia) (hs.snoc hl) fun m a b c d => h m (by lia) (by lia) c (by
        rcases d with d | d
        · exact .inl (by lia)
        · exact .inr d)
theorem desc_ok {P : Array Nat × Nat × Nat → Prop} : ∀ (f : Nat) (p : Array Nat) (n q : Nat), Bnd N p → q + 1 ≤ n → n + f ≤ p.size → Dec key p n → (∀ k, n - (q + 1) ≤ k → k < n → Vk key p k = Vk key p (n - 1)) →
    (∀ p' m q', p'.Perm p → n ≤ m → m ≤ n + f → q' + 1 ≤ m → Dec key p' m → (∀ k, m - (q' + 1) ≤ k → k < m → Vk key p' k = Vk key p' (m - 1)) → P (p', m, q')) → Tv N key (kas_desc f p n q) P
  | 0, p, n, q, _, hq, _, hd, he, h => h p n q (Array.Perm.refl _) (Nat.le_refl _) (Nat.le_refl _) hq hd he
  | f + 1, p, n, q, hB, hq, hz, hd, he, h => by
    refine Tv_ask (hB _) (hB _) (fun hl => ?_) (fun hl => ?_)
    · split
      · rename_i hq0
        have hv : ∀ k, Vk key (kas_rev p (n - (q + 1)) n) k = Vk key p k := Vk_rev_equal (by lia) he
        refine desc_ok f _ (n + 1) 0 (hB.perm (rev_perm _ _ _)) (by lia) (by rw [(rev_perm p _ _).size_eq]; lia) ?_ ?_ fun p' m q' a b c d e g => h p' m q' (a.trans (rev_perm _ _ _)) (by lia) (by lia) d e g
        · intro i j hij hj
          rw [hv, hv]
          exact hd.snoc (Int.le_of_lt hl) i j hij hj
        · intro k h1 h2
          have : k = n := by lia
          subst this; rfl
      · refine desc_ok f _ (n + 1) 0 hB (by lia) (by lia) (hd.snoc (Int.le_of_lt hl)) ?_ fun p' m q' a b c d e g => h p' m q' a (by lia) (by lia) d e g
        intro k h1 h2
        have : k = n := by lia
        subst this; rfl
    · refine Tv_ask (hB _) (hB _) (fun hl2 => ?_) (fun hl2 => ?_)
      · exact h p n q (Array.Perm.refl _) (Nat.le_refl _) (by lia) hq hd he
      · refine desc_ok f _ (n + 1) (q + 1) hB (by lia) (by lia) (hd.snoc hl2) ?_ fun p' m q' a b c d e g => h p' m q' a (by lia) (by lia) d e g
        intro k h1 h2
        have e1 : Vk key p n = Vk key p (n - 1) := Int.le_antisymm hl2 hl
        show _ = Vk key p n
        rcases Nat.lt_or_ge k n with h3 | h3
        · rw [he k (by lia) h3, e1]
        · have : k = n := by lia
          subst this; rfl
theorem tail3_ok {P : Nat × Array Nat → Prop} {n nrem : Nat} {p : Array Nat} (hB : Bnd N p) (h1 : 1 ≤ n) (h2 : n ≤ nrem) (hz : nrem ≤ p.size) (hd : Dec key p n)
    (h : ∀ m p', p'.Perm p → 1 ≤ m → m ≤ nrem → Srt key p' m → P (m, p')) : Tv N key (kas_tail3 n nrem p) P := by
  refine Tv_bind _ (asc_ok (hB.perm (rev_perm _ _ _)) _ _ h1 ?_ fun m a b c _ => h m _ (rev_perm _ _ _) (by lia) (by lia) c)
  intro i j hij hj
  rw [Vk_rev (by lia), Vk_rev (by lia), if_pos ⟨Nat.zero_le _, by lia⟩, if_pos ⟨Nat.zero_le _, hj⟩]
  exact hd _ _ (by lia) (by lia)
theorem descPart_ok {P : Nat × Array Nat → Prop} {n nrem : Nat} {p : Array Nat} (hB : Bnd N p) (h1 : 1 ≤ n) (h2 : n + 1 ≤ nrem) (hz : nrem ≤ p.size) (hd : Dec key p (n + 1))
    (h : ∀ m p', p'.Perm p → 1 ≤ m → m ≤ nrem → Srt key p' m → P (m, p')) : Tv N key (kas_descPart n nrem p) P := by
  refine Tv_bind _ (desc_ok _ p (n + 1) 0 hB (by lia) (by lia) hd ?_ fun p' m q' a b c d e g => ?_)
  · intro k h3 h4
    have : k = n := by lia
    subst this; rfl
  · have hz' : p'.size = p.size := a.size_eq
    dsimp only
    split
    · have hv : ∀ k, Vk key (kas_rev p' (m - (q' + 1)) m) k = Vk key p' k := Vk_rev_equal (by lia) g
      refine tail3_ok ((hB.perm a).perm (rev_perm _ _ _)) (by lia) (by lia) (by rw [(rev_perm p' _ _).size_eq]; lia) ?_ fun m' p'' x y z u => h m' p'' ((x.trans (rev_perm _ _ _)).trans a) y z u
      intro i j hij hj
      rw [hv, hv]; exact e i j hij hj
    · exact tail3_ok (hB.perm a) (by lia) (by lia) (by lia) e fun m' p'' x y z u => h m' p'' (x.trans a) y z u
theorem count_ok {P : Nat × Array Nat → Prop} {nrem : Nat} {p : Array Nat} (hB : Bnd N p) (h1 : 1 ≤ nrem) (hz : nrem ≤ p.size)
    (h : ∀ m p', p'.Perm p → 1 ≤ m → m ≤ nrem → Srt key p' m → P (m, p')) : Tv N key (kas_count nrem p) P := by
  refine Tv_bind _ (asc_ok hB _ 1 (Nat.le_refl _) (fun i j hij hj => by have h1 : i = 0 := by lia
                                                                        have h2 : j = 0 := by lia
                                                                        subst h1; subst h2; exact Int.le_refl _) fun n a b c d => ?_)
  by_cases hn : n = nrem
  · rw [if_pos (by simpa using hn)]
    exact h n p (Array.Perm.refl _) a (by lia) c
  · rw [if_neg (by simpa using hn)]
    have hd' : Vk key p n < Vk key p (n - 1) := by
      rcases d with d | d
      · lia
      · exact d
    split
    · rename_i hn1
      refine Tv_ask (hB _) (hB _) (fun hl => h n p (Array.Perm.refl _) a (by lia) c) (fun hl => ?_)
      have heq : ∀ k, 0 ≤ k → k < n → Vk key p k = Vk key p (n - 1) := fun k _ hk => Int.le_antisymm (c k (n - 1) (by lia) (by lia)) (Int.le_trans hl (c 0 k (by lia) hk))
      have hv : ∀ k, Vk key (kas_rev p 0 n) k = Vk key p k := Vk_rev_equal (by lia) heq
      refine descPart_ok (hB.perm (rev_perm _ _ _)) a (by lia) (by rw [(rev_perm p _ _).size_eq]; lia) ?_ fun m p' x y z u => h m p' (x.trans (rev_perm _ _ _)) y z u
      have : Dec key p n := fun i j hij hj => by rw [heq i (by lia) (by lia), heq j (by lia) hj]; exact Int.le_refl _
      intro i j hij hj
      rw [hv, hv]; exact this.snoc (Int.le_of_lt hd') i j hij hj
    · have : n = 1 := by lia
      subst this
      refine descPart_ok hB (Nat.le_refl _) (by lia) hz ?_ h
      have : Dec key p 1 := fun i j hij hj => by
        have h1 : i = 0 := by lia
        have h2 : j = 0 := by lia
        subst h1; subst h2; exact Int.le_refl _
      exact this.snoc (Int.le_of_lt hd')
theorem place_ok {P : Nat → Prop} {p : Array Nat} {k : Nat} (hB : Bnd N p) (hs : Srt key p k) : ∀ (f l r : Nat), l ≤ r → r ≤ k → r - l ≤ f → (∀ i, i < l → Vk key p i ≤ Vk key p k) → (∀ i, r ≤ i → i < k → Vk key p k < Vk key p i) →
    (∀ l', l' ≤ k → (∀ i, i < l' → Vk key p i ≤ Vk key p k) → (∀ i, l' ≤ i → i < k → Vk key p k < Vk key p i) → P l') → Tv N key (kas_place p k f l r) P
  | 0, l, r, hlr, hrk, hf, h1, h2, h => by
    have : l = r := by lia
    subst this; exact h l hrk h1 h2
  | f + 1, l, r, hlr, hrk, hf, h1, h2, h => by
    unfold kas_place
    split
    · have : l = r := by lia
      subst this; exact h l hrk h1 h2
    · rename_i hlt
      refine Tv_ask (hB _) (hB _) (fun hl => ?_) (fun hl => ?_)
      · refine place_ok hB hs f _ _ (by lia) (by lia) (by lia) h1 (fun i hi hik => ?_) h
        exact Int.lt_of_lt_of_le hl (hs _ _ hi hik)
      · refine place_ok hB hs f _ _ (by lia) (by lia) (by lia) (fun i hi => ?_) h2 h
        exact Int.le_trans (hs i ((l + r) / 2) (by lia) (by lia)) hl
theorem bin_ok {P : Array Nat → Prop} : ∀ (f : Nat) (p : Array Nat) (k : Nat), Bnd N p → k + f ≤ p.size → Srt key p k → (∀ p', p'.Perm p → Srt key p' (k + f) → P p') → Tv N key (kas_bin f p k) P
  | 0, p, k, _, _, hs, h => h p (Array.Perm.refl _) hs
  | f + 1, p, k, hB, hz, hs, h => by
    refine Tv_bind _ (place_ok hB hs k 0 k (Nat.zero_le _) (Nat.le_refl _) (Nat.sub_le _ _) (fun i hi => absurd hi (Nat.not_lt_zero _)) (fun i h1 h2 => absurd h2 (by lia)) fun l hl h1 h2 => ?_)
    have hp : (bubble p k (k - l)).Perm p := bubble_perm _ _ _
    refine bin_ok f _ (k + 1) (hB.perm hp) (by rw [hp.size_eq]; lia) ?_ fun p' a b => h p' (a.trans hp) (by rw [show k + (f + 1) = k + 1 + f by lia]; exact b)
    have hb : ∀ i, Vk key (bubble p k (k - l)) i = if i = l then Vk key p k else if l < i ∧ i ≤ k then Vk key p (i - 1) else Vk key p i := fun i => by
      rw [Vk_bubble (by lia) (by lia), show k - (k - l) = l by lia]
    intro i j hij hj
    rw [hb, hb]
    by_cases ei : i = l
    · rw [if_pos ei]
      by_cases ej : j = l
      · rw [if_pos ej]; exact Int.le_refl _
      · rw [if_neg ej, if_pos (by lia)]; exact Int.le_of_lt (h2 _ (by lia) (by lia))
    · rw [if_neg ei]
      by_cases ei2 : l < i ∧ i ≤ k
      · rw [if_pos ei2, if_neg (by lia), if_pos (by lia)]
        exact hs _ _ (by lia) (by lia)
      · rw [if_neg ei2]
        by_cases ej : j = l
        · rw [if_pos ej]; exact h1 i (by lia)
        · rw [if_neg ej]
          by_cases ej2 : l < j ∧ j ≤ k
          · rw [if_pos ej2]; exact hs _ _ (by lia) (by lia)
          · rw [if_neg ej2]; exact hs _ _ hij (by lia)
theorem sort_ok {P : Array Nat → Prop} {n : Nat} (hN : N = n) (h1 : 1 ≤ n) (h : ∀ p, p.Perm (List.toArray (List.range n)) → Srt key p n → P p) : Tv N key (kas_sort n) P := by
  subst hN
  have hB : Bnd N (List.toArray (List.range N)) := fun i => by
    rw [getD_is]
    by_cases hi : i < N
    · simp [hi]
    · simp [hi]; lia
  have hz : (List.toArray (List.range N)).size = N := by simp
  refine Tv_bind _ (count_ok hB h1 (by lia) fun m p' a b c d => ?_)
  dsimp only
  have hz' : p'.size = N := a.size_eq.trans hz
  split
  · rw [Nat.max_eq_left b]
    refine bin_ok _ p' m (hB.perm a) (by lia) d fun p'' x y => h p'' (x.trans a) ?_
    rw [show m + (N - m) = N by lia] at y; exact y
  · have : m = N := by lia
    subst this; exact h p' a d
/-- from the answers to the walk -/
theorem Tv_walk {α : Type} {cmp : Nat → Nat → (Bool → Shared → Prop) → Shared → Prop} {R : Shared → Prop} (hc : ∀ i j C s, i < N → j < N → R s → (∀ s', R s' → C (decide (key i < key j)) s') → cmp i j C s) {P : α → Prop} {Q : α → Shared → Prop}
    (hq : ∀ a s, P a → R s → Q a s) : ∀ (t : KasT α) (s : Shared), Tv N key t P → R s → t.kasWp cmp Q s
  | .ret a, s, h, hr => hq a s h hr
  | .ask i j k, s, h, hr => hc i j _ s h.1 h.2.1 hr fun s' hr' => Tv_walk hc hq (k _) s' h.2.2 hr'
end
end Mine
end
section
open PySem PySem.W PyProof.Rows PySem.Calls PySem.Spec
set_option maxRecDepth 100000
set_option maxHeartbeats 4000000
namespace Mine
/-- a tuple of two ints -/
noncomputable abbrev twoO (x : Int) (t : Tok) (i : Int) (u : Tok) (n : Nat) : Obj := { cls := .type "tuple", data := .seq #[.int x t, .int i u] n }
/-- a value that is, in a heap's part, a tuple of two ints -/
noncomputable def TwoAt (news : List (Addr × Obj)) (v : Value) (p : Int × Int) : Prop := ∃ a t u n, v = .ref a ∧ (a, twoO p.1 t p.2 u n) ∈ news
theorem TwoAt.mono {l l' : List (Addr × Obj)} {v : Value} {p : Int × Int} (h : TwoAt l v p) (hs : ∀ q ∈ l, q ∈ l') : TwoAt l' v p := by
  obtain ⟨a, t, u, n, e, hm⟩ := h
  exact ⟨a, t, u, n, e, hs _ hm⟩
/-- one number for a pair -/
noncomputable def pk (p : Int × Int) : Int := p.1 * 64 + p.2
section
variable {prog : Program} {w : World} {A : Around} {E : Value → Shared → Prop} {s : Shared} {h₀ : Heap} {L l : Addr} {m : Str → Option Value} {news : List (Addr × Obj)} {vs : List Value}
theorem two_lt {a b : Addr} {x y i j : Int} {t t' u u' : Tok} {n n' : Nat} {Q : Bool → Shared → Prop} (ha : s.heap.get? a = some (twoO x t i u n)) (hb : s.heap.get? b = some (twoO y t' j u' n'))
    (hi : 0 ≤ i ∧ i < 64) (hj : 0 ≤ j ∧ j < 64) (h : Q (decide (pk (x, i) < pk (y, j))) s) : wpAny (model prog w) A (keyLt' (tuples' true) (.ref a) (.ref b)) Q (fun _ _ => False) s := by
  have hlex : ∀ b : Bool, (b = true ↔ x < y ∨ x = y ∧ i < j) → Q b s := fun b hb => by
    have : b = decide (pk (x, i) < pk (y, j)) := by
      rw [Bool.eq_iff_iff, hb, decide_eq_true_iff]
      unfold pk
      dsimp only
      lia
    rw [this]; exact h
  refine kat_lt ha rfl hb rfl ?_
  show KatLex prog w A true _ Q [(Value.int x t, Value.int y t'), (Value.int i u, Value.int j u')] 0 s
  refine kat_cons (wpAny_eqBool_int ?_)
  refine kat_go (fun e => ?_) (fun e => ?_)
  · have hxy : x = y := by simpa using e
    refine kat_yes (kat_cons (wpAny_eqBool_int (kat_go (fun e2 => ?_) (fun e2 => ?_))))
    · have hij : i = j := by simpa using e2
      refine kat_yes (kat_nil (hlex _ ?_))
      simp
      lia
    · refine kat_no (kat_one _ _ (lt_int ?_))
      show PySem.W.BoolBack Q _ _
      exact hlex _ (by rw [decide_eq_true_iff]; lia)
  · have hxy : x ≠ y := by simpa using e
    refine kat_no ?_
    refine oneLt_int ?_
    exact hlex _ (by rw [decide_eq_true_iff]; lia)
theorem two_kind {κ : Value → Int × Int} {Q : SortKind → Shared → Prop} (N : News h₀ L s.heap news) (hv : ∀ v ∈ vs, TwoAt news v (κ v)) (hne : 0 < vs.length) (h : Q (tuples' true) s) :
    wpAny (model prog w) A (keyKind' vs.toArray) Q E s := by
  have key : ∀ vs : List Value, (∀ v ∈ vs, TwoAt news v (κ v)) → ∃ fs, fs.length = vs.length ∧ KatTups s.heap vs fs ∧ ∀ f ∈ fs, ∃ x t, f = .int x t := by
    intro vs
    induction vs with
    | nil => exact fun _ => ⟨[], rfl, KatTups.nil, fun _ h => nomatch h⟩
    | cons v r ih =>
      intro hv
      obtain ⟨fs, h1, h2, h3⟩ := ih fun v hm => hv v (.tail _ hm)
      obtain ⟨a, t, u, n, rfl, hm⟩ := hv v (.head _)
      refine ⟨.int (κ (.ref a)).1 t :: fs, by simp [h1], KatTups.cons (N _ hm).1 rfl rfl rfl h2, fun f hf => ?_⟩
      rcases List.mem_cons.mp hf with rfl | hf
      · exact ⟨_, _, rfl⟩
      · exact h3 f hf
  obtain ⟨fs, h1, h2, h3⟩ := key vs hv
  refine kat_kind h2 (by lia) (T := .type "int") (fun f hf => ?_) rfl h
  obtain ⟨x, t, rfl⟩ := h3 f hf
  kas_ty
/-- sorted, of tuples of two ints -/
theorem sorted_two {κ : Value → Int × Int} {Q : Value → Shared → Prop} (F : Fr h₀ L s.heap m) (N : News h₀ L s.heap news) (hl : s.heap.IsList l vs.toArray) (h2 : 2 ≤ vs.length) (h64 : vs.length < 64)
    (hv : ∀ v ∈ vs, TwoAt news v (κ v)) (hb : ∀ v ∈ vs, 0 ≤ (κ v).2 ∧ (κ v).2 < 64)
    (h : ∀ D ws c h', Fr h₀ L h' m → News h₀ L h' ((D, listOf (List.toArray ws) c) :: news) → (∀ q ∈ news, q.1 < D) → ws.Perm vs → ws.Pairwise (fun a b => pk (κ a) ≤ pk (κ b)) → Q (.ref D) { s with heap := h' }) :
    wpAny (model prog w) A (call (.builtin "sorted") [.ref l]) Q E s := by
  refine kat_sorted F N hl h2 h64 fun D e1 h' F' N' l1 => ?_
  refine two_kind (κ := κ) (s := { s with heap := h' }) N' (fun v hm => (hv v hm).mono fun q hq => .tail _ hq) (by lia) ?_
  have hget : ∀ i, i < vs.length → vs.getD i Value.none ∈ vs := fun i hi => by
    rw [List.getD_eq_getElem?_getD, List.getElem?_eq_getElem hi]; exact List.getElem_mem hi
  refine Tv_walk (N := vs.length) (key := fun i => pk (κ (vs.getD i Value.none))) (R := fun s' => s' = { s with heap := h' }) (P := fun p => p.Perm (List.toArray (List.range vs.length)) ∧ Srt (fun i => pk (κ (vs.getD i Value.none))) p vs.length) (fun i j C s' hi hj hR hC => ?_) (fun p s' hP hR => ?_) _ _ (sort_ok rfl (by lia) fun p a b => ⟨a, b⟩) rfl
  · subst hR
    unfold kas_ask
    obtain ⟨a, t, u, n, e, hm⟩ := hv _ (hget i hi)
    obtain ⟨a', t', u', n', e', hm'⟩ := hv _ (hget j hj)
    have b1 := hb _ (hget i hi)
    have b2 := hb _ (hget j hj)
    replace hC := hC _ rfl
    generalize κ (vs.getD i Value.none) = p at *
    generalize κ (vs.getD j Value.none) = q at *
    rw [e, e']
    exact two_lt (N' _ (.tail _ hm)).1 (N' _ (.tail _ hm')).1 b1 b2 hC
  · subst hR
    obtain ⟨hp, hs⟩ := hP
    refine KasFin.intro F' N' (.head fun q hq => Nat.ne_of_lt (l1 q hq)) fun h'' c F'' N'' => h D _ c h'' F'' N'' l1 ?_ ?_
    · have e : vs = (List.range vs.length).map fun i => vs.getD i Value.none := by
        apply List.ext_getElem
        · simp
        · intro i h1 h2
          simp [h1]
      have hp' := (Array.perm_iff_toList_perm.mp hp).map fun i => vs.getD i Value.none
      rw [List.toList_toArray, ← e] at hp'
      exact hp'
    · rw [List.pairwise_map]
      have hz : p.size = vs.length := by rw [hp.size_eq]; simp
      rw [List.pairwise_iff_getElem]
      intro i j hi hj hij
      have := hs i j (Nat.le_of_lt hij) (by rw [Array.length_toList] at hj; lia)
      unfold Vk at this
      rw [getD_is, getD_is] at this
      rw [Array.length_toList] at hi hj
      rw [getElem?_pos p i hi, getElem?_pos p j hj] at this
      exact this
end
end Mine
end
section
set_option maxRecDepth 100000
namespace Mine
section
variable {α : Type} (K : α → Int)
/-- the number of the item at a place -/
noncomputable def kv (its : List α) (i : Nat) : Int := ((its[i]?).map K).getD 0
noncomputable def klt : α → α → Bool := fun a b => decide (K a < K b)
variable {K}
theorem kv_at {its : List α} {i : Nat} {a : α} (h : its[i]? = some a) : kv K its i = K a := by unfold kv; rw [h]; rfl
theorem kv_set {its : List α} {p : Nat} {v : α} (hp : p < its.length) (i : Nat) : kv K (its.set p v) i = if i = p then K v else kv K its i := by
  unfold kv
  rw [List.getElem?_set]
  by_cases h : p = i
  · subst h; simp [hp]
  · rw [if_neg h, if_neg (Ne.symm h)]
/-- the heap's law below a place -/
noncomputable def HeapFrom (K : α → Int) (s : Nat) (its : List α) : Prop := ∀ i, 0 < i → i < its.length → s ≤ (i - 1) / 2 → kv K its ((i - 1) / 2) ≤ kv K its i
/-- a place below another, on the way down -/
inductive Desc (s : Nat) : Nat → Prop where
  | here : Desc s s
  | down {p : Nat} : s < p → Desc s ((p - 1) / 2) → Desc s p
theorem Desc.le {s p : Nat} (h : Desc s p) : s ≤ p := by cases h <;> lia
theorem sd_heap {new : α} {s : Nat} {its : List α} {pos : Nat} (hd : Desc s pos) (hp : pos < its.length)
    (ha : ∀ i, 0 < i → i < its.length → s ≤ (i - 1) / 2 → i ≠ pos → (i - 1) / 2 ≠ pos → kv K its ((i - 1) / 2) ≤ kv K its i)
    (hb : ∀ c, 0 < c → c < its.length → (c - 1) / 2 = pos → K new ≤ kv K its c)
    (hc : ∀ c, 0 < c → c < its.length → (c - 1) / 2 = pos → s < pos → kv K its ((pos - 1) / 2) ≤ kv K its c) : HeapFrom K s (sd (klt K) new s its pos) := by
  induction its, pos using sd_ind (klt K) new s with
  | case1 its pos h e => have := List.getElem?_eq_none_iff.mp e; lia
  | case2 its pos h p e hl ih =>
    rw [sd_eq, if_pos h]; simp only [e, hl, if_true]
    have hlt : K new < K p := of_decide_eq_true hl
    have hpp : kv K its ((pos - 1) / 2) = K p := kv_at e
    have hd' : Desc s ((pos - 1) / 2) := by
      cases hd with
      | here => lia
      | down _ h => exact h
    have hs := hd'.le
    refine ih hd' (by rw [List.length_set]; lia) ?_ ?_ ?_
    · intro i h0 hi h1 h2 h3
      rw [List.length_set] at hi
      rw [kv_set hp, kv_set hp]
      by_cases e1 : (i - 1) / 2 = pos
      · rw [if_pos e1]
        have : i ≠ pos := by lia
        rw [if_neg this]
        have := hc i h0 hi e1 h
        lia
      · rw [if_neg e1]
        by_cases e2 : i = pos
        · subst e2; exact absurd rfl h3
        · rw [if_neg e2]; exact ha i h0 hi h1 e2 e1
    · intro c h0 hi h1
      rw [List.length_set] at hi
      rw [kv_set hp]
      by_cases e2 : c = pos
      · rw [if_pos e2]; lia
      · rw [if_neg e2]
        have := ha c h0 hi (by lia) e2 (by lia)
        rw [h1] at this
        lia
    · intro c h0 hi h1 h4
      rw [List.length_set] at hi
      rw [kv_set hp, kv_set hp]
      have hs2 : s ≤ ((pos - 1) / 2 - 1) / 2 := by
        cases hd' with
        | here => lia
        | down _ h => exact h.le
      have h5 := ha ((pos - 1) / 2) (by lia) (by lia) hs2 (by lia) (by lia)
      rw [if_neg (by lia)]
      by_cases e2 : c = pos
      · rw [if_pos e2]; lia
      · rw [if_neg e2]
        have := ha c h0 hi (by lia) e2 (by lia)
        rw [h1] at this
        lia
  | case3 its pos h p e hl =>
    rw [sd_eq, if_pos h]; simp only [e, hl]
    have hle : K p ≤ K new := by
      have : ¬ K new < K p := fun q => hl (decide_eq_true q)
      lia
    have hpp : kv K its ((pos - 1) / 2) = K p := kv_at e
    intro i h0 hi h1
    rw [if_neg (by simp)] at hi ⊢
    rw [List.length_set] at hi
    rw [kv_set hp, kv_set hp]
    by_cases e1 : (i - 1) / 2 = pos
    · rw [if_pos e1, if_neg (by lia)]; exact hb i h0 hi e1
    · rw [if_neg e1]
      by_cases e2 : i = pos
      · rw [if_pos e2]; subst e2; lia
      · rw [if_neg e2]; exact ha i h0 hi h1 e2 e1
  | case4 its pos h =>
    rw [sd_eq, if_neg h]
    have := hd.le
    intro i h0 hi h1
    rw [List.length_set] at hi
    rw [kv_set hp, kv_set hp]
    by_cases e1 : (i - 1) / 2 = pos
    · rw [if_pos e1, if_neg (by lia)]; exact hb i h0 hi e1
    · rw [if_neg e1]
      by_cases e2 : i = pos
      · lia
      · rw [if_neg e2]; exact ha i h0 hi h1 e2 e1
theorem set_perm {its : List α} {p q : Nat} {a v : α} (hp : p < its.length) (hq : its[q]? = some a) (hne : p ≠ q) : ((its.set p a).set q v).Perm (its.set p v) := by
  obtain ⟨hq1, hq2⟩ := List.getElem?_eq_some_iff.mp hq
  have h1 : p < (its.set p v).length := by rw [List.length_set]; exact hp
  have h2 : q < (its.set p v).length := by rw [List.length_set]; exact hq1
  have := List.set_set_perm h1 h2
  have e1 : (its.set p v)[q] = a := by rw [List.getElem_set_ne hne]; exact hq2
  have e2 : (its.set p v)[p] = v := List.getElem_set_self ..
  rw [e1, e2, List.set_set] at this
  exact this
theorem sd_perm {lt : α → α → Bool} {new : α} {s : Nat} {its : List α} {pos : Nat} (hp : pos < its.length) : (sd lt new s its pos).Perm (its.set pos new) := by
  induction its, pos using sd_ind lt new s with
  | case1 its pos h e => have := List.getElem?_eq_none_iff.mp e; lia
  | case2 its pos h p e hl ih =>
    rw [sd_eq, if_pos h]; simp only [e, hl, if_true]
    exact (ih (by rw [List.length_set]; lia)).trans (set_perm hp e (by lia))
  | case3 its pos h p e hl => rw [sd_eq, if_pos h]; simp only [e, hl]; exact List.Perm.refl _
  | case4 its pos h => rw [sd_eq, if_neg h]
theorem suGo_ok {new : α} {s : Nat} {its : List α} {pos : Nat} (hd : Desc s pos) (hp : pos < its.length)
    (ha : ∀ i, 0 < i → i < its.length → s ≤ (i - 1) / 2 → i ≠ pos → (i - 1) / 2 ≠ pos → kv K its ((i - 1) / 2) ≤ kv K its i)
    (hc : ∀ c, 0 < c → c < its.length → (c - 1) / 2 = pos → s < pos → kv K its ((pos - 1) / 2) ≤ kv K its c) :
    let r := suGo (klt K) its pos
    Desc s r.2 ∧ r.2 < its.length ∧ ¬ 2 * r.2 + 1 < its.length ∧ (∀ i, 0 < i → i < its.length → s ≤ (i - 1) / 2 → i ≠ r.2 → (i - 1) / 2 ≠ r.2 → kv K r.1 ((i - 1) / 2) ≤ kv K r.1 i) ∧ (r.1.set r.2 new).Perm (its.set pos new) := by
  induction its, pos using suGo_ind (klt K) with
  | case1 its pos h e => have := List.getElem?_eq_none_iff.mp e; have := suChild_lt (klt K) its pos h; lia
  | case2 its pos h c e ih =>
    have hr : suGo (klt K) its pos = suGo (klt K) (its.set pos c) (suChild (klt K) its pos) := (suGo_step h rfl e).symm
    have hm := suChild_lt (klt K) its pos h
    have hpar : (suChild (klt K) its pos - 1) / 2 = pos := by
      unfold suChild
      split
      · split <;> lia
      · lia
    have hgt := suChild_gt (klt K) its pos
    have hsm : ∀ i, 0 < i → i < its.length → (i - 1) / 2 = pos → K c ≤ kv K its i := by
      intro i h0 hi h1
      have hi' : i = 2 * pos + 1 ∨ i = 2 * pos + 2 := by lia
      by_cases h2 : 2 * pos + 2 < its.length
      · have ea := List.getElem?_eq_getElem h
        have eb := List.getElem?_eq_getElem h2
        cases hq : klt K its[2 * pos + 1] its[2 * pos + 2] with
        | true =>
          have := suChild_l ea eb hq
          rw [this, ea] at e
          cases e
          have hq' : K its[2 * pos + 1] < K its[2 * pos + 2] := of_decide_eq_true hq
          rcases hi' with rfl | rfl
          · rw [kv_at ea]; exact Int.le_refl _
          · rw [kv_at eb]; lia
        | false =>
          have := suChild_r ea eb hq
          rw [this, eb] at e
          cases e
          have hq' : ¬ K its[2 * pos + 1] < K its[2 * pos + 2] := of_decide_eq_false hq
          rcases hi' with rfl | rfl
          · rw [kv_at ea]; lia
          · rw [kv_at eb]; exact Int.le_refl _
      · have := suChild_1 (lt := klt K) h2
        rw [this] at e
        have : i = 2 * pos + 1 := by lia
        subst this
        rw [kv_at e]; exact Int.le_refl _
    have hcv : kv K its (suChild (klt K) its pos) = K c := kv_at e
    generalize hg : suChild (klt K) its pos = g at *
    have hs := hd.le
    have := ih (.down (by lia) (by rw [hpar]; exact hd)) (by rw [List.length_set]; exact hm) ?_ ?_
    · rw [hr]
      dsimp only at this ⊢
      rw [List.length_set] at this
      obtain ⟨a1, a2, a3, a4, a5⟩ := this
      exact ⟨a1, a2, a3, a4, a5.trans (set_perm hp e (by lia))⟩
    · intro i h0 hi h1 h2 h3
      rw [List.length_set] at hi
      rw [kv_set hp, kv_set hp]
      by_cases e1 : (i - 1) / 2 = pos
      · rw [if_pos e1, if_neg (by lia)]; exact hsm i h0 hi e1
      · rw [if_neg e1]
        by_cases e2 : i = pos
        · rw [if_pos e2]
          subst e2
          have := hc g (by lia) hm hpar (by lia)
          lia
        · rw [if_neg e2]; exact ha i h0 hi h1 e2 e1
    · intro i h0 hi h1 h2
      rw [List.length_set] at hi
      rw [kv_set hp, kv_set hp, hpar, if_pos rfl, if_neg (by lia)]
      have := ha i h0 hi (by lia) (by lia) (by lia)
      rw [h1] at this
      lia
  | case3 its pos h =>
    rw [suGo_end h]
    exact ⟨hd, hp, h, ha, List.Perm.refl _⟩
theorem su_ok {new : α} {its : List α} {pos : Nat} (hp : pos < its.length) (h : HeapFrom K (pos + 1) its) : HeapFrom K pos (su (klt K) new its pos) ∧ (su (klt K) new its pos).Perm (its.set pos new) := by
  obtain ⟨a1, a2, a3, a4, a5⟩ := suGo_ok (new := new) (K := K) (s := pos) (.here) hp (fun i h0 hi h1 h2 h3 => h i h0 hi (by lia)) (fun c h0 hi h1 h2 => absurd h2 (Nat.lt_irrefl _))
  have hl := suGo_len (klt K) its pos
  unfold su
  generalize suGo (klt K) its pos = r at *
  have hr : r.2 < r.1.length := by lia
  constructor
  · refine sd_heap a1 (by rw [List.length_set]; lia) ?_ ?_ ?_
    · intro i h0 hi h1 h2 h3
      rw [List.length_set] at hi
      rw [kv_set hr, kv_set hr, if_neg h3, if_neg h2]
      exact a4 i h0 (by lia) h1 h2 h3
    · intro c h0 hi h1
      rw [List.length_set] at hi
      lia
    · intro c h0 hi h1
      rw [List.length_set] at hi
      lia
  · refine (sd_perm (by rw [List.length_set]; lia)).trans ?_
    rw [List.set_set]
    exact a5
noncomputable def Heap' (K : α → Int) (its : List α) : Prop := HeapFrom K 0 its
theorem heap_min {its : List α} (h : Heap' K its) : ∀ i, i < its.length → kv K its 0 ≤ kv K its i := by
  intro i
  induction i using Nat.strongRecOn with
  | _ i ih =>
    intro hi
    by_cases h0 : i = 0
    · subst h0; exact Int.le_refl _
    · exact Int.le_trans (ih ((i - 1) / 2) (by lia) (by lia)) (h i (by lia) hi (Nat.zero_le _))
theorem heap_least {its : List α} {b v : α} (h : Heap' K its) (hb : its[0]? = some b) (hv : v ∈ its) : K b ≤ K v := by
  obtain ⟨i, hi, e⟩ := List.getElem_of_mem hv
  have := heap_min h i hi
  rw [kv_at hb, kv_at (by rw [List.getElem?_eq_getElem hi, e])] at this
  exact this
theorem push_ok {its : List α} {v : α} (h : Heap' K its) : Heap' K (sd (klt K) v 0 (its ++ [v]) its.length) ∧ (sd (klt K) v 0 (its ++ [v]) its.length).Perm (v :: its) := by
  have hd : ∀ p, Desc 0 p := fun p => by
    induction p using Nat.strongRecOn with
    | _ p ih =>
      by_cases h0 : p = 0
      · subst h0; exact .here
      · exact .down (by lia) (ih _ (by lia))
  constructor
  · refine sd_heap (hd _) (by simp) ?_ ?_ ?_
    · intro i h0 hi _ h2 h3
      have hi' : i < its.length := by simp at hi; lia
      have e : ∀ j, j < its.length → kv K (its ++ [v]) j = kv K its j := fun j hj => by
        unfold kv; rw [List.getElem?_append_left hj]
      rw [e _ (by lia), e _ hi']
      exact h i h0 hi' (Nat.zero_le _)
    · intro c h0 hi h1; simp at hi; lia
    · intro c h0 hi h1; simp at hi; lia
  · refine (sd_perm (by simp)).trans ?_
    have : (its ++ [v]).set its.length v = its ++ [v] := by
      rw [List.set_append_right _ _ (Nat.le_refl _), Nat.sub_self]; rfl
    rw [this]
    exact List.perm_append_comm
theorem replace_ok {b : α} {tl : List α} {v : α} (h : Heap' K (b :: tl)) : Heap' K (su (klt K) v ((b :: tl).set 0 v) 0) ∧ (su (klt K) v ((b :: tl).set 0 v) 0).Perm (v :: tl) := by
  have h1 : HeapFrom K (0 + 1) (v :: tl) := by
    intro i h0 hi h1
    have e : ∀ j, 0 < j → kv K (v :: tl) j = kv K (b :: tl) j := fun j hj => by
      obtain ⟨k, rfl⟩ : ∃ k, j = k + 1 := ⟨j - 1, by lia⟩
      unfold kv; rw [List.getElem?_cons_succ, List.getElem?_cons_succ]
    rw [e _ (by lia), e _ h0]
    exact h i h0 hi (Nat.zero_le _)
  obtain ⟨a, b'⟩ := su_ok (new := v) (K := K) (its := v :: tl) (pos := 0) (by simp) h1
  exact ⟨a, b'⟩
theorem heap_prefix {xs : List α} {v : α} (h : Heap' K (xs ++ [v])) : Heap' K xs := by
  intro i h0 hi _
  have e : ∀ j, j < xs.length → kv K (xs ++ [v]) j = kv K xs j := fun j hj => by
    unfold kv; rw [List.getElem?_append_left hj]
  rw [← e _ (by lia), ← e _ hi]
  exact h i h0 (by simp; lia) (Nat.zero_le _)
theorem hfy_ok {xs : List α} (h7 : xs.length = 7) : ∀ k, k ≤ 3 → HeapFrom K (3 - k) (hfy (klt K) k xs) ∧ (hfy (klt K) k xs).Perm xs
  | 0, _ => by
    refine ⟨?_, List.Perm.refl _⟩
    intro i h0 hi h1
    unfold hfy at hi
    lia
  | k + 1, hk => by
    obtain ⟨a, b⟩ := hfy_ok h7 k (by lia)
    have hl := hfy_len (klt K) xs k
    unfold hfy
    have e : (hfy (klt K) k xs)[2 - k]? = some ((hfy (klt K) k xs)[2 - k]'(by lia)) := List.getElem?_eq_getElem (by lia)
    rw [e]
    dsimp only
    obtain ⟨c, d⟩ := su_ok (new := (hfy (klt K) k xs)[2 - k]'(by lia)) (K := K) (its := hfy (klt K) k xs) (pos := 2 - k) (by lia) (by rw [show 2 - k + 1 = 3 - k by lia]; exact a)
    refine ⟨by rw [show 3 - (k + 1) = 2 - k by lia]; exact c, d.trans ?_⟩
    rw [List.set_getElem_self]
    exact b
theorem heapify_ok {xs : List α} (h7 : xs.length = 7) : Heap' K (hfy (klt K) 3 xs) ∧ (hfy (klt K) 3 xs).Perm xs := hfy_ok h7 3 (Nat.le_refl _)
end
end Mine
end
section
open PySem PySem.W PyProof.Rows PySem.Calls PySem.Spec
set_option maxRecDepth 100000
set_option maxHeartbeats 4000000
namespace Mine
/-- the answer of two texts at the first place in which they differ -/
noncomputable def sep : List Nat → List Nat → Option Bool
  | a :: r, b :: t => if a = b then sep r t else some (decide (a < b))
  | _, _ => none
theorem sep_lt : ∀ {a b : List Nat} {r : Bool} (u v : List Nat), sep a b = some r → (a ++ u < b ++ v ↔ r = true)
  | [], _, _, _, _, h => by simp [sep] at h
  | _ :: _, [], _, _, _, h => by simp [sep] at h
  | a :: x, b :: y, r, u, v, h => by
    unfold sep at h
    rw [List.cons_append, List.cons_append, List.cons_lt_cons_iff]
    by_cases e : a = b
    · rw [if_pos e] at h
      rw [← sep_lt u v h]
      constructor
      · rintro (h1 | ⟨_, h1⟩)
        · lia
        · exact h1
      · exact fun h1 => .inr ⟨e, h1⟩
    · rw [if_neg e] at h
      cases h
      rw [decide_eq_true_iff]
      constructor
      · rintro (h1 | ⟨h1, _⟩)
        · exact h1
        · exact absurd h1 e
      · exact fun h1 => .inl h1
theorem app_lt : ∀ (a u v : List Nat), (a ++ u < a ++ v ↔ u < v)
  | [], _, _ => Iff.rfl
  | a :: x, u, v => by
    rw [List.cons_append, List.cons_append, List.cons_lt_cons_iff, ← app_lt x u v]
    constructor
    · rintro (h | ⟨_, h⟩)
      · lia
      · exact h
    · exact fun h => .inr ⟨rfl, h⟩
theorem lt_self (l : List Nat) : ¬ l < l := List.lt_irrefl l
theorem tgo_bound {S : List Nat} : ∀ (l : List Nat) (p : Nat), (∀ c ∈ l, S.idxOf c < 10) → p + l.length ≤ 5 → 0 ≤ tgo S l p ∧ tgo S l p < 10 ^ (5 - p)
  | [], p, _, _ => ⟨Int.le_refl _, by show (0 : Int) < _; exact Int.pow_pos (by decide)⟩
  | c :: r, p, h, hp => by
    rw [List.length_cons] at hp
    obtain ⟨a, b⟩ := tgo_bound r (p + 1) (fun d hd => h d (.tail _ hd)) (by lia)
    have hc := h c (.head _)
    have e : (10 : Int) ^ (5 - p) = 10 * 10 ^ (4 - p) := by rw [show 5 - p = (4 - p) + 1 by lia, Int.pow_succ]; lia
    rw [show 5 - (p + 1) = 4 - p by lia] at b
    unfold tgo
    rw [e]
    generalize (10 : Int) ^ (4 - p) = T at *
    have h0 : (0 : Int) ≤ (S.idxOf c : Int) := Int.natCast_nonneg _
    have h9 : (S.idxOf c : Int) ≤ 9 := by lia
    generalize (S.idxOf c : Int) = k at *
    have h1 : 0 ≤ k * T := Int.mul_nonneg h0 (by lia)
    have h2 : k * T ≤ 9 * T := Int.mul_le_mul_of_nonneg_right h9 (by lia)
    lia
theorem digit_lt {x y T r r' : Int} (hr : 0 ≤ r ∧ r < T) (hr' : 0 ≤ r' ∧ r' < T) (hne : x ≠ y) : x * T + r < y * T + r' ↔ x < y := by
  constructor
  · intro h
    rcases Int.lt_or_gt_of_ne hne with h1 | h1
    · exact h1
    · have : (y + 1) * T ≤ x * T := Int.mul_le_mul_of_nonneg_right h1 (by lia)
      rw [Int.add_mul, Int.one_mul] at this
      lia
  · intro h
    have : (x + 1) * T ≤ y * T := Int.mul_le_mul_of_nonneg_right h (by lia)
    rw [Int.add_mul, Int.one_mul] at this
    lia
/-- codes of signs, and a code of the end, that stand in the order of a list -/
structure Codes (S : List Nat) (e : Nat → List Nat) (z : List Nat) (ok : Nat → Prop) : Prop where
  two : ∀ c d u v, ok c → ok d → c ≠ d → (e c ++ u < e d ++ v ↔ S.idxOf c < S.idxOf d)
  fin : ∀ c u, ok c → (z < e c ++ u ↔ S.idxOf 46 < S.idxOf c)
  out : ∀ c u, ok c → (e c ++ u < z ↔ S.idxOf c < S.idxOf 46)
  ten : ∀ c, ok c → S.idxOf c < 10
  tenE : S.idxOf 46 < 10
  ne : ∀ c d, ok c → ok d → c ≠ d → S.idxOf c ≠ S.idxOf d
  neE : ∀ c, ok c → S.idxOf c ≠ S.idxOf 46
theorem codes_lt {S : List Nat} {e : Nat → List Nat} {z : List Nat} {ok : Nat → Prop} (C : Codes S e z ok) : ∀ (x y : List Nat) (p : Nat), (∀ c ∈ x, ok c) → (∀ c ∈ y, ok c) → p + x.length ≤ 4 → p + y.length ≤ 4 →
    (x.flatMap e ++ z < y.flatMap e ++ z ↔ tgo S (x ++ [46]) p < tgo S (y ++ [46]) p)
  | [], [], p, _, _, _, _ => by
    constructor
    · exact fun h => absurd h (lt_self _)
    · exact fun h => absurd h (Int.lt_irrefl _)
  | [], d :: y, p, _, hy, _, hp => by
    rw [List.length_cons] at hp
    have b := tgo_bound (S := S) (y ++ [46]) (p + 1) (fun c hc => by
      rcases List.mem_append.mp hc with hc | hc
      · exact C.ten c (hy c (.tail _ hc))
      · rw [List.mem_singleton.mp hc]; exact C.tenE) (by simp; lia)
    rw [show 5 - (p + 1) = 4 - p by lia] at b
    rw [List.flatMap_cons, List.append_assoc, List.flatMap_nil, List.nil_append, C.fin d _ (hy d (.head _))]
    show _ ↔ (S.idxOf 46 : Int) * 10 ^ (4 - p) + 0 < (S.idxOf d : Int) * 10 ^ (4 - p) + tgo S (y ++ [46]) (p + 1)
    rw [digit_lt ⟨Int.le_refl _, by lia⟩ b (by have := C.neE d (hy d (.head _)); lia)]
    lia
  | c :: x, [], p, hx, _, hp, _ => by
    rw [List.length_cons] at hp
    have b := tgo_bound (S := S) (x ++ [46]) (p + 1) (fun c hc => by
      rcases List.mem_append.mp hc with hc | hc
      · exact C.ten c (hx c (.tail _ hc))
      · rw [List.mem_singleton.mp hc]; exact C.tenE) (by simp; lia)
    rw [show 5 - (p + 1) = 4 - p by lia] at b
    rw [List.flatMap_cons, List.append_assoc, List.flatMap_nil, List.nil_append, C.out c _ (hx c (.head _))]
    show _ ↔ (S.idxOf c : Int) * 10 ^ (4 - p) + tgo S (x ++ [46]) (p + 1) < (S.idxOf 46 : Int) * 10 ^ (4 - p) + 0
    rw [digit_lt b ⟨Int.le_refl _, by lia⟩ (by have := C.neE c (hx c (.head _)); lia)]
    lia
  | c :: x, d :: y, p, hx, hy, hp, hq => by
    rw [List.length_cons] at hp hq
    have b := tgo_bound (S := S) (x ++ [46]) (p + 1) (fun c hc => by
      rcases List.mem_append.mp hc with hc | hc
      · exact C.ten c (hx c (.tail _ hc))
      · rw [List.mem_singleton.mp hc]; exact C.tenE) (by simp; lia)
    have b' := tgo_bound (S := S) (y ++ [46]) (p + 1) (fun c hc => by
      rcases List.mem_append.mp hc with hc | hc
      · exact C.ten c (hy c (.tail _ hc))
      · rw [List.mem_singleton.mp hc]; exact C.tenE) (by simp; lia)
    rw [show 5 - (p + 1) = 4 - p by lia] at b b'
    rw [List.flatMap_cons, List.append_assoc, List.flatMap_cons, List.append_assoc]
    show _ ↔ (S.idxOf c : Int) * 10 ^ (4 - p) + tgo S (x ++ [46]) (p + 1) < (S.idxOf d : Int) * 10 ^ (4 - p) + tgo S (y ++ [46]) (p + 1)
    by_cases e : c = d
    · subst e
      rw [app_lt, codes_lt C x y (p + 1) (fun c hc => hx c (.tail _ hc)) (fun c hc => hy c (.tail _ hc)) (by lia) (by lia)]
      lia
    · rw [C.two c d _ _ (hx c (.head _)) (hy d (.head _)) e, digit_lt b b' (by have := C.ne c d (hx c (.head _)) (hy d (.head _)) e; lia)]
      lia
noncomputable def okS (d : Bool) (c : Nat) : Prop := c ∈ signsN ∧ (d = true → c ≠ 34)
noncomputable def sepAll (S : List Nat) (e : Nat → List Nat) (z : List Nat) (l : List Nat) : Bool :=
  l.all fun c => decide (S.idxOf c < 10) && decide (sep z (e c) = some (decide (S.idxOf 46 < S.idxOf c))) && decide (sep (e c) z = some (decide (S.idxOf c < S.idxOf 46))) && decide (S.idxOf c ≠ S.idxOf 46) &&
    l.all fun d => decide (c = d) || (decide (sep (e c) (e d) = some (decide (S.idxOf c < S.idxOf d))) && decide (S.idxOf c ≠ S.idxOf d))
theorem codesAll {S : List Nat} {e : Nat → List Nat} {z l : List Nat} {ok : Nat → Prop} (hok : ∀ c, ok c → c ∈ l) (h : sepAll S e z l = true) (hE : S.idxOf 46 < 10) : Codes S e z ok := by
  have key : ∀ c ∈ l, S.idxOf c < 10 ∧ sep z (e c) = some (decide (S.idxOf 46 < S.idxOf c)) ∧ sep (e c) z = some (decide (S.idxOf c < S.idxOf 46)) ∧ S.idxOf c ≠ S.idxOf 46 ∧
      ∀ d ∈ l, c = d ∨ (sep (e c) (e d) = some (decide (S.idxOf c < S.idxOf d)) ∧ S.idxOf c ≠ S.idxOf d) := by
    intro c hc
    have := List.all_eq_true.mp h c hc
    simp only [Bool.and_eq_true, decide_eq_true_eq] at this
    obtain ⟨⟨⟨⟨a, b⟩, d⟩, f⟩, g⟩ := this
    refine ⟨a, b, d, f, fun d hd => ?_⟩
    have := List.all_eq_true.mp g d hd
    simp only [Bool.or_eq_true, Bool.and_eq_true, decide_eq_true_eq] at this
    exact this
  constructor
  · intro c d u v hc hd hne
    rcases (key c (hok c hc)).2.2.2.2 d (hok d hd) with h | h
    · exact absurd h hne
    · rw [sep_lt u v h.1, decide_eq_true_iff]
  · intro c u hc
    have := sep_lt [] u (key c (hok c hc)).2.1
    rw [List.append_nil, decide_eq_true_iff] at this
    exact this
  · intro c u hc
    have := sep_lt u [] (key c (hok c hc)).2.2.1
    rw [List.append_nil, decide_eq_true_iff] at this
    exact this
  · exact fun c hc => (key c (hok c hc)).1
  · exact hE
  · intro c d hc hd hne
    rcases (key c (hok c hc)).2.2.2.2 d (hok d hd) with h | h
    · exact absurd h hne
    · exact h.2
  · exact fun c hc => (key c (hok c hc)).2.2.2.1
noncomputable def signs8 : List Nat := [32, 33, 39, 90, 92, 10, 97, 233]
theorem ok8 {c : Nat} (h : okS true c) : c ∈ signs8 := by
  obtain ⟨h, h2⟩ := h
  have h3 := h2 rfl
  simp only [signsN, List.mem_cons, List.not_mem_nil, or_false] at h
  simp only [signs8, List.mem_cons, List.not_mem_nil, or_false]
  lia
theorem codes_r (d : Bool) : Codes (sgs .r d) (esc .r (if d then 34 else 39)) [if d then 34 else 39] (okS d) := by
  cases d
  · exact codesAll (l := signsN) (fun c h => h.1) (by decide +kernel) (by decide)
  · exact codesAll (l := signs8) (fun c h => ok8 h) (by decide +kernel) (by decide)
theorem codes_a (d : Bool) : Codes (sgs .a d) (esc .a (if d then 34 else 39)) [if d then 34 else 39] (okS d) := by
  cases d
  · exact codesAll (l := signsN) (fun c h => h.1) (by decide +kernel) (by decide)
  · exact codesAll (l := signs8) (fun c h => ok8 h) (by decide +kernel) (by decide)
theorem codes_s (d : Bool) : Codes (sgs .s d) (fun c => [c]) [] (fun c => c ∈ signsN) := by
  have hs : ∀ c ∈ signsN, (sgs .s d).idxOf c < 10 ∧ 0 < (sgs .s d).idxOf c ∧ ∀ e ∈ signsN, c ≠ e → ((c < e ↔ (sgs .s d).idxOf c < (sgs .s d).idxOf e) ∧ (sgs .s d).idxOf c ≠ (sgs .s d).idxOf e) := by
    show ∀ c ∈ signsN, [46, 10, 32, 33, 34, 39, 90, 92, 97, 233].idxOf c < 10 ∧ 0 < [46, 10, 32, 33, 34, 39, 90, 92, 97, 233].idxOf c ∧ ∀ e ∈ signsN, c ≠ e → ((c < e ↔ [46, 10, 32, 33, 34, 39, 90, 92, 97, 233].idxOf c < [46, 10, 32, 33, 34, 39, 90, 92, 97, 233].idxOf e) ∧ [46, 10, 32, 33, 34, 39, 90, 92, 97, 233].idxOf c ≠ [46, 10, 32, 33, 34, 39, 90, 92, 97, 233].idxOf e)
    decide +kernel
  have h0 : (sgs .s d).idxOf 46 = 0 := by show [46, 10, 32, 33, 34, 39, 90, 92, 97, 233].idxOf 46 = 0; decide
  constructor
  · intro c e u v hc he hne
    rw [List.singleton_append, List.singleton_append, List.cons_lt_cons_iff, ← (((hs c hc).2.2 e he hne).1)]
    constructor
    · rintro (h | ⟨h, _⟩)
      · exact h
      · exact absurd h hne
    · exact fun h => .inl h
  · intro c u hc
    rw [h0]
    exact ⟨fun _ => (hs c hc).2.1, fun _ => List.nil_lt_cons _ _⟩
  · intro c u hc
    rw [h0]
    exact ⟨fun h => absurd h (List.not_lt_nil _), fun h => absurd h (Nat.not_lt_zero _)⟩
  · exact fun c hc => (hs c hc).1
  · rw [h0]; decide
  · exact fun c e hc he hne => ((hs c hc).2.2 e he hne).2
  · intro c hc; rw [h0]; have := (hs c hc).2.1; lia
theorem okS_of {l : List Nat} (h : ∀ c ∈ l, c ∈ signsN) : ∀ c ∈ l, okS (dbl l) c := fun c hc => ⟨h c hc, fun hd e => by
  rcases not_dq (c := c) (l := l) (List.mem_append.mpr (.inl hc)) e .r with h | h
  · rw [h] at hd; cases hd
  · cases h⟩
theorem tgo_le {kd : Kd} {l : List Nat} (h : ∀ c ∈ l, c ∈ signsN) (h4 : l.length ≤ 4) : 0 ≤ tgo (sgs kd (dbl l)) (l ++ [46]) 0 ∧ tgo (sgs kd (dbl l)) (l ++ [46]) 0 < 100000 := by
  have := tgo_bound (S := sgs kd (dbl l)) (l ++ [46]) 0 (fun c hc => (idx_le kd (dbl l) (by
    rcases List.mem_append.mp hc with hc | hc
    · exact .tail _ (h c hc)
    · rw [List.mem_singleton.mp hc]; exact .head _) fun e => not_dq hc e kd).1) (by simp; lia)
  exact this
/-- the order of what is written is the order of what is told -/
theorem told_lt {kd : Kd} {x y : List Nat} (hx : ∀ c ∈ x, c ∈ signsN) (hy : ∀ c ∈ y, c ∈ signsN) (hx4 : x.length ≤ 4) (hy4 : y.length ≤ 4) : wrl kd x < wrl kd y ↔ toldl kd x < toldl kd y := by
  have bx := tgo_le (kd := kd) hx hx4
  have by_ := tgo_le (kd := kd) hy hy4
  have hq : ∀ l, qt l = if dbl l then 34 else 39 := fun l => rfl
  cases kd with
  | s =>
    have := codes_lt (codes_s (dbl x)) x y 0 hx hy (by lia) (by lia)
    rw [List.append_nil, List.append_nil, List.flatMap_singleton', List.flatMap_singleton'] at this
    show x < y ↔ 0 + tgo (sgs .s (dbl x)) (x ++ [46]) 0 < 0 + tgo (sgs .s (dbl x)) (y ++ [46]) 0
    rw [this]
    lia
  | r =>
    show qt x :: (x.flatMap (esc .r (qt x)) ++ [qt x]) < qt y :: (y.flatMap (esc .r (qt y)) ++ [qt y]) ↔ toldB .r (dbl x) + tgo (sgs .r (dbl x)) (x ++ [46]) 0 < toldB .r (dbl y) + tgo (sgs .r (dbl y)) (y ++ [46]) 0
    have ox := okS_of hx
    have oy := okS_of hy
    rw [List.cons_lt_cons_iff, hq x, hq y]
    generalize dbl x = d at *
    generalize dbl y = d' at *
    by_cases e : d = d'
    · subst e
      have := codes_lt (codes_r d) x y 0 ox oy (by lia) (by lia)
      rw [this]
      lia
    · cases d <;> cases d' <;> first | (exact absurd rfl e) | (simp only [toldB]; simp; lia)
  | a =>
    show qt x :: (x.flatMap (esc .a (qt x)) ++ [qt x]) < qt y :: (y.flatMap (esc .a (qt y)) ++ [qt y]) ↔ toldB .a (dbl x) + tgo (sgs .a (dbl x)) (x ++ [46]) 0 < toldB .a (dbl y) + tgo (sgs .a (dbl y)) (y ++ [46]) 0
    have ox := okS_of hx
    have oy := okS_of hy
    rw [List.cons_lt_cons_iff, hq x, hq y]
    generalize dbl x = d at *
    generalize dbl y = d' at *
    by_cases e : d = d'
    · subst e
      have := codes_lt (codes_a d) x y 0 ox oy (by lia) (by lia)
      rw [this]
      lia
    · cases d <;> cases d' <;> first | (exact absurd rfl e) | (simp only [toldB]; simp; lia)
theorem told_eq {kd : Kd} {x y : List Nat} (hx : ∀ c ∈ x, c ∈ signsN) (hy : ∀ c ∈ y, c ∈ signsN) (hx4 : x.length ≤ 4) (hy4 : y.length ≤ 4) : wrl kd x = wrl kd y ↔ toldl kd x = toldl kd y := by
  have h1 := told_lt (kd := kd) hx hy hx4 hy4
  have h2 := told_lt (kd := kd) hy hx hy4 hx4
  constructor
  · intro e
    rw [e] at h1 h2
    have a : ¬ toldl kd x < toldl kd y := fun h => lt_self _ (h1.mpr h)
    have b : ¬ toldl kd y < toldl kd x := fun h => lt_self _ (h2.mpr h)
    lia
  · intro e
    have a : ¬ wrl kd x < wrl kd y := fun h => by have := h1.mp h; lia
    have b : ¬ wrl kd y < wrl kd x := fun h => by have := h2.mp h; lia
    exact List.le_antisymm b a
theorem order {kd : Kd} {x y : Str} {i j : Int} (hx : IsText x) (hy : IsText y) (hi : 0 ≤ i ∧ i < 64) (hj : 0 ≤ j ∧ j < 64) : pLt (wr kd x, i) (wr kd y, j) = decide (pk (told kd x, i) < pk (told kd y, j)) := by
  have h1 := told_lt (kd := kd) hx.2 hy.2 hx.1 hy.1
  have h2 := told_eq (kd := kd) hx.2 hy.2 hx.1 hy.1
  have e1 : wr kd x = wr kd y ↔ wrl kd x.cps.toList = wrl kd y.cps.toList := by
    constructor
    · intro e
      have := congrArg (fun s => s.cps.toList) e
      simpa [wr] using this
    · intro e; unfold wr; rw [e]
  unfold pLt pk told
  dsimp only
  by_cases e : wr kd x = wr kd y
  · rw [if_pos e]
    have := h2.mp (e1.mp e)
    rw [this]
    congr 1
    apply propext
    lia
  · rw [if_neg e]
    have hne : toldl kd x.cps.toList ≠ toldl kd y.cps.toList := fun q => e (e1.mpr (h2.mpr q))
    have e3 : (wr kd x).cps.toList = wrl kd x.cps.toList := by unfold wr; simp
    have e4 : (wr kd y).cps.toList = wrl kd y.cps.toList := by unfold wr; simp
    rw [e3, e4]
    have : (wrl kd x.cps.toList < wrl kd y.cps.toList) = (toldl kd x.cps.toList * 64 + i < toldl kd y.cps.toList * 64 + j) := by
      apply propext
      rw [h1]
      lia
    simp only [this]
end Mine
end
section
open PySem PySem.W PyProof.Rows PySem.Calls PySem.Spec
set_option maxRecDepth 100000
set_option maxHeartbeats 4000000
namespace Mine
/-- the four objects of a comprehension over enumerate are none of a ledger -/
noncomputable def Off4 (e it C D : Addr) (nw : List (Addr × Obj)) : Prop := ∀ p ∈ nw, p.1 ≠ e ∧ p.1 ≠ it ∧ p.1 ≠ C ∧ p.1 ≠ D
/-- the end of an item of a comprehension over enumerate -/
noncomputable def EEnd (h₀ : Heap) (L : Addr) (m : Str → Option Value) (s : Shared) (own : List (Addr × Obj)) (e it C D : Addr) (rest : Value → List (Addr × Obj) → Prop) (y : Value) (s' : Shared) : Prop :=
  ∃ h' tk' nw', s' = { s with heap := h', toks := tk' } ∧ Fr h₀ L h' m ∧ News h₀ L h' (own ++ nw') ∧ Off4 e it C D nw' ∧ rest y nw'
/-- between two items of a comprehension over enumerate -/
inductive TurnE (h₀ : Heap) (L : Addr) (m : Str → Option Value) (its : List Value) (e it ax C D : Addr) (Inv : Nat → List Value → List (Addr × Obj) → Prop) (s₂ : Shared) : Nat → Shared → Prop where
  | mk (h' : Heap) (tk i : Nat) (ys : List Value) (m' : Str → Option Value) (nw : List (Addr × Obj)) (oE oI : Obj) : i ≤ its.length → ys.length = i → ((∃ old, IsEnum h' e it i old) ∧ h'.IsListIter it ax i ∧ h'.IsList ax its.toArray) → Fr h₀ L h' m → h'.Ns C m' →
      News h₀ L h' ((e, oE) :: (it, oI) :: (D, LCg.lst ys) :: nw) → Off4 e it C D nw → Inv i ys nw → TurnE h₀ L m its e it ax C D Inv s₂ (its.length + 1 - i) { s₂ with heap := h', toks := tk }
section
variable {prog : Program} {w : World} {A : Around} {E : Value → Shared → Prop} {h₀ : Heap} {L : Addr} {m : Str → Option Value} {env : Env}
theorem enum_block {elt iter : PySem.Expr} {x x₂ : Str} {px px₂ tp : Pos} {tk} {scope : Scope} {cl : List (Str × Addr)} {pos : Pos} {s₂ : Shared} {e it ax : Addr} {its : List Value} {oA : Obj} {k : Nat} {news : List (Addr × Obj)} {RR : Value → Addr → Result → Shared → Prop}
    (hcell : ∀ y ∈ scope.names, y.2 ≠ .cell) (hkind : scope.kind = .function) (hx : scope.names.lookup x = some .local) (hx₂ : scope.names.lookup x₂ = some .local) (hxx : x ≠ x₂) (hh : A.handled = none) (hsz : its.length ≤ 1000)
    (he : IsEnum s₂.heap e it 0 .none) (hit : s₂.heap.IsListIter it ax 0) (hA : oA = { cls := .type "list", data := .seq its.toArray k })
    (F : Fr h₀ L s₂.heap m) (N : News h₀ L s₂.heap news) (hei : e ≠ it) (he₀ : h₀.get? e = none) (hi₀ : h₀.get? it = none) (hLe : L ≠ e) (hLi : L ≠ it) (off : ∀ p ∈ news, p.1 ≠ e ∧ p.1 ≠ it)
    (Inv : Nat → List Value → List (Addr × Obj) → Prop) (h0 : Inv 0 [] news) (hIA : ∀ i ys nw, Inv i ys nw → (ax, oA) ∈ nw)
    (step : ∀ i ys nw, i < its.length → Inv i ys nw → ∀ v t oE oI oC C D m₂ h tk (E' : Value → Shared → Prop), its[i]? = some v → LCg.NsObj oC m₂ → m₂ x = some (.int (i : Int) t) → m₂ x₂ = some v → Fr h₀ L h m → News h₀ L h ((e, oE) :: (it, oI) :: (C, oC) :: (D, LCg.lst ys) :: nw) → Off4 e it C D nw → (C ≠ e ∧ C ≠ it ∧ D ≠ e ∧ D ≠ it ∧ C ≠ D) →
      wpAny (model prog w) A (eval elt (compEnvC scope cl C env)) (EEnd h₀ L m { s₂ with heap := h, toks := tk } [(e, oE), (it, oI), (C, oC), (D, LCg.lst ys)] e it C D (fun y nw' => Inv (i + 1) (ys ++ [y]) nw')) E' { s₂ with heap := h, toks := tk })
    (hRR : ∀ D C h tk m' ys nw, Fr h₀ L h m → News h₀ L h ((D, LCg.lst ys) :: nw) → (∀ p ∈ nw, p.1 ≠ D ∧ p.1 ≠ C) → h.Ns C m' → h₀.get? C = none → C ≠ L → D ≠ L → C ≠ D → Inv its.length ys nw → RR (.ref D) C (.ok .next) { s₂ with heap := h, toks := tk }) :
    wpAny (model prog w) A (newList []) (fun acc s₃ => wpAny (model prog w) A (newFunctionEnv scope env.globals cl [] env.qual none .none (some env)) (fun cenv s₄ =>
      codeAny (model prog w) A (.compStart (.ListComp elt [⟨.Tuple [.Name x px, .Name x₂ px₂] tk tp, iter, [], 0⟩] scope pos) 0 (.ref e) acc { cenv with scope := relabel scope env }) (RR acc cenv.locals) s₄) E s₃) E s₂ := by
  have hil : it < s₂.heap.objs.size := by obtain ⟨o, q, _⟩ := hit; exact Heap.lt_size q
  have hel : e < s₂.heap.objs.size := Heap.lt_size he
  have hAx := N _ (hIA _ _ _ h0)
  have hax : ax ≠ it := fun q => ((off _ (hIA _ _ _ h0)).2 q)
  have hae : ax ≠ e := fun q => ((off _ (hIA _ _ _ h0)).1 q)
  have W := WalksT.enumerateD (prog := prog) (w := w) (A := A) (Draws.list (A := A.in1) (show A.in1.handled = none from hh) it ax hax its.toArray) e hei (fun hm => by
    rcases List.mem_cons.mp hm with q | hm
    · exact hei q
    · exact hae (List.mem_singleton.mp hm).symm) (.head _)
  -- what stays of the source, of the iterator and of enumerate
  have stay : ∀ {i : Nat} {h h' : Heap} {oE oI : Obj}, ((∃ old, IsEnum h e it i old) ∧ h.IsListIter it ax i ∧ h.IsList ax its.toArray) → h.get? e = some oE → h.get? it = some oI → h'.get? e = some oE → h'.get? it = some oI → h'.get? ax = some oA →
      ((∃ old, IsEnum h' e it i old) ∧ h'.IsListIter it ax i ∧ h'.IsList ax its.toArray) := by
    rintro i h h' oE oI ⟨⟨old, a⟩, ⟨o, b1, b2⟩, c⟩ e1 e2 e3 e4 e5
    refine ⟨⟨old, ?_⟩, ⟨o, ?_, b2⟩, ⟨_, e5, by rw [hA], k, by rw [hA]⟩⟩
    · have a' : h.get? e = some _ := a
      rw [e1] at a'
      show h'.get? e = some _
      rw [e3, a']
    · rw [e2] at b1; rw [e4, b1]
  refine wpAny_newObj_type (wpAny_newFunctionEnv hcell (by intro y hy; simp at hy) (fun h₁ hns₁ hsb₁ => ?_) hkind)
  dsimp only at hns₁ hsb₁ ⊢
  generalize hH2 : s₂.heap.push { cls := .type "list", dict := none, data := .seq ([] : List Value).toArray } = H2 at hns₁ hsb₁ ⊢
  have hC : H2.objs.size = s₂.heap.objs.size + 1 := by rw [← hH2, Heap.size_push]
  have hCD : H2.objs.size ≠ s₂.heap.objs.size := by rw [hC]; exact Nat.succ_ne_self _
  have below : ∀ b, b < s₂.heap.objs.size → b ≠ H2.objs.size ∧ b ≠ s₂.heap.objs.size := fun b hb => ⟨by rw [hC]; exact Nat.ne_of_lt (Nat.lt_succ_of_lt hb), Nat.ne_of_lt hb⟩
  have old : ∀ b o, s₂.heap.get? b = some o → h₁.get? b = some o := fun b o q => hsb₁.extBut b o (below b (Heap.lt_size q)).1 (Heap.get?_push_of_some _ (hH2 ▸ Heap.get?_push_of_some _ q))
  have hacc : h₁.get? s₂.heap.objs.size = some (LCg.lst []) := hsb₁.extBut _ _ (Ne.symm hCD) (Heap.get?_push_of_some _ (hH2 ▸ Heap.get?_push_size _ rfl))
  have fresh₀ : ∀ a, s₂.heap.objs.size ≤ a → h₀.get? a = none := fun a ha => by
    cases q : h₀.get? a with
    | none => rfl
    | some o' => exact absurd (Heap.lt_size (F.keep a o' q)) (Nat.not_lt.mpr ha)
  have hD₀ : h₀.get? s₂.heap.objs.size = none := fresh₀ _ (Nat.le_refl _)
  have hC₀ : h₀.get? H2.objs.size = none := fresh₀ _ (by rw [hC]; exact Nat.le_succ _)
  have hDL : s₂.heap.objs.size ≠ L := Ne.symm (below L F.ns.lt).2
  have hCL : H2.objs.size ≠ L := Ne.symm (below L F.ns.lt).1
  obtain ⟨hCe, hDe⟩ := below e hel
  obtain ⟨hCi, hDi⟩ := below it hil
  generalize hDs : s₂.heap.objs.size = D at *
  generalize H2.objs.size = C at *
  have loop : ∀ s₃ : Shared, s₃ = { s₂ with heap := h₁, toks := s₂.toks + ([] : List (Str × Value)).length } →
      codeAny (model prog w) A (.compLoop (.ListComp elt [⟨.Tuple [.Name x px, .Name x₂ px₂] tk tp, iter, [], 0⟩] scope pos) 0 (.ref e) (.ref D) (compEnvC scope cl C env)) (RR (.ref D) C) s₃ := by
    rintro s₃ rfl
    refine LCp.codeAny_compLoop_pair
      (TurnE h₀ L m its e it ax C D Inv s₂) ?_ (its.length + 1) ?_
    · rintro j s' ⟨h', tk', i, ys, m', nw, oE, oI, hi, hyl, hst, F', hn', N', off', hI⟩
      have offm : ∀ p ∈ (D, LCg.lst ys) :: nw, p.1 ∉ [e, it] := fun p hp hm => by
        have q : p.1 = e ∨ p.1 = it := by
          rcases List.mem_cons.mp hm with q | hm
          · exact .inl q
          · exact .inr (List.mem_singleton.mp hm)
        rcases List.mem_cons.mp hp with rfl | hp
        · rcases q with q | q
          · exact hDe q.symm
          · exact hDi q.symm
        · rcases q with q | q
          · exact (off' p hp).1 q
          · exact (off' p hp).2.1 q
      have hCm : C ∉ [e, it] := fun hm => by
        rcases List.mem_cons.mp hm with q | hm
        · exact hCe q.symm
        · exact hCi (List.mem_singleton.mp hm).symm
      have hLm : L ∉ [e, it] := fun hm => by
        rcases List.mem_cons.mp hm with q | hm
        · exact hLe q
        · exact hLi (List.mem_singleton.mp hm)
      have h₀m : ∀ b o, h₀.get? b = some o → b ∉ [e, it] := fun b o q hm => by
        rcases List.mem_cons.mp hm with r | hm
        · rw [r, he₀] at q; cases q
        · rw [List.mem_singleton.mp hm, hi₀] at q; cases q
      have frk : ∀ {g g' : Heap}, Fr h₀ L g m → (∀ b o, b ∉ [e, it] → g.get? b = some o → g'.get? b = some o) → Fr h₀ L g' m := fun F hk =>
        ⟨F.ns.at' fun o q => hk L o hLm q, fun b o q => hk b o (h₀m b o q) (F.keep b o q), F.above⟩
      have nwk : ∀ {g g' : Heap}, News h₀ L g ((D, LCg.lst ys) :: nw) → (∀ b o, b ∉ [e, it] → g.get? b = some o → g'.get? b = some o) → News h₀ L g' ((D, LCg.lst ys) :: nw) := fun N hk p hp => ⟨hk _ _ (offm p hp) (N p hp).1, (N p hp).2⟩
      have Nt : News h₀ L h' ((D, LCg.lst ys) :: nw) := fun p hp => N' p (.tail _ (.tail _ hp))
      by_cases hlt : i < its.length
      · refine W.item i _ _ _ (by rw [List.size_toArray]; exact hlt) hst fun T vals h₂ tk₂ hP hT1 hT hMid hk₂ => ?_
        obtain ⟨t, v, hv, rfl⟩ := hP
        rw [List.getElem?_toArray] at hv
        refine W.go _ _ _ _ _ _ _ _ hMid fun h₃ hst₃ hk₃ => ?_
        have hk23 : ∀ b o, b ∉ [e, it] → h'.get? b = some o → h₃.get? b = some o := fun b o hb q => hk₃ b o hb (hk₂ b o hb q)
        obtain ⟨oT, eT, cT, nT, dT⟩ := hT
        have hTup : IsTup h₃ T #[.int i t, v] := ⟨oT, hk₃ T oT (W.apart _ _ _ hMid) eT, cT, nT, dT⟩
        have F₃ := frk F' hk23
        have N₃ := nwk Nt hk23
        refine assign_Tuple_tuple hh hTup rfl rfl fun h₅ he₅ => ?_
        have ke : ∀ b o, h₃.get? b = some o → h₅.get? b = some o := fun b o q => he₅ b o (Nat.ne_of_lt (Heap.lt_size q)) q
        refine assignInOrder_cons (wpAny_assign_Name (wpAny_storeName_local (lookup_relabel_local hx) ((hn'.at' fun o q => hk23 _ o hCm q).at' fun o q => ke _ o q) (fun h₆ hn₆ hs₆ => ?_) (by simp [compEnvC, relabel, hkind])))
        refine assignInOrder_cons (wpAny_assign_Name (wpAny_storeName_local (lookup_relabel_local hx₂) hn₆ (fun h₇ hn₇ hs₇ => ?_) (by simp [compEnvC, relabel, hkind])))
        refine assignInOrder_nil ?_
        have k7 : ∀ b o, b ≠ C → h₃.get? b = some o → h₇.get? b = some o := fun b o hb q => hs₇.extBut b o hb (hs₆.extBut b o hb (ke b o q))
        have F₇ : Fr h₀ L h₇ m := ((F₃.keeps ke).change hs₆ hCL hC₀).change hs₇ hCL hC₀
        have N₇ : News h₀ L h₇ ((D, LCg.lst ys) :: nw) := fun p hp => ⟨k7 _ _ (by
          rcases List.mem_cons.mp hp with rfl | hp
          · exact Ne.symm hCD
          · exact (off' p hp).2.2.1) (N₃ p hp).1, (N₃ p hp).2⟩
        have hst₇ := W.frame _ _ _ hst₃ fun b hb o q => k7 b o (fun r => by
          rcases List.mem_cons.mp hb with rb | hb
          · exact hCe (rb.symm.trans r)
          · rcases List.mem_cons.mp hb with rb | hb
            · exact hCi (rb.symm.trans r)
            · have rb := List.mem_singleton.mp hb
              exact (off' _ (hIA _ _ _ hI)).2.2.1 (rb.symm.trans r)) q
        obtain ⟨⟨oldE, hE7⟩, ⟨oI7, hI7, rI7⟩, hl7⟩ := hst₇
        have hst₇ := (⟨⟨oldE, hE7⟩, ⟨oI7, hI7, rI7⟩, hl7⟩ : (∃ old, IsEnum h₇ e it ((i + 1 : Nat) : Int) old) ∧ h₇.IsListIter it ax (i + 1) ∧ h₇.IsList ax its.toArray)
        obtain ⟨oC, heC, hoC⟩ := LCg.ns_obj hn₇
        obtain ⟨oE7, hE7'⟩ : ∃ o, h₇.get? e = some o := ⟨_, hE7⟩
        have N₇' : News h₀ L h₇ ((e, oE7) :: (it, oI7) :: (C, oC) :: (D, LCg.lst ys) :: nw) := fun p hp => by
          rcases List.mem_cons.mp hp with rfl | hp
          · exact ⟨hE7', Ne.symm hLe, he₀⟩
          · rcases List.mem_cons.mp hp with rfl | hp
            · exact ⟨hI7, Ne.symm hLi, hi₀⟩
            · rcases List.mem_cons.mp hp with rfl | hp
              · exact ⟨heC, hCL, hC₀⟩
              · exact N₇ p hp
        refine wpAny_mono (step i ys nw hlt hI v t oE7 oI7 oC C D _ h₇ _ _ hv hoC (by simp [hxx]) (by simp) F₇ N₇' off' ⟨Ne.symm hCe, Ne.symm hCi, Ne.symm hDe, Ne.symm hDi, hCD⟩) (fun y s₄ h₄ => ?_) fun _ _ q => q
        obtain ⟨h₈, tk₈, nw₈, rfl, F₈, N₈, off₈, hI₈⟩ := h₄
        have z1 := (N₈ (e, oE7) (.head _)).1
        have z2 := (N₈ (it, oI7) (.tail _ (.head _))).1
        have z3 := (N₈ (C, oC) (.tail _ (.tail _ (.head _)))).1
        have z4 := (N₈ (D, LCg.lst ys) (.tail _ (.tail _ (.tail _ (.head _))))).1
        have N₈' : News h₀ L h₈ nw₈ := fun p hp => N₈ p (.tail _ (.tail _ (.tail _ (.tail _ hp))))
        have hst₈ := stay hst₇ hE7' hI7 z1 z2 (N₈' _ (hIA _ _ _ hI₈)).1
        refine append_at (hsz := by show ys.toArray.size ≤ sizeLine; rw [List.size_toArray, hyl, sizeLine_eq]; lia) z4 fun h₉ hs₉ hD₉ => ?_
        have y1 : h₉.get? e = some oE7 := hs₉.extBut _ _ (hDe) z1
        have y2 : h₉.get? it = some oI7 := hs₉.extBut _ _ (hDi) z2
        have N₉ : News h₀ L h₉ nw₈ := fun p hp => ⟨hs₉.extBut _ _ (off₈ p hp).2.2.2 (N₈' p hp).1, (N₈' p hp).2⟩
        refine ⟨its.length + 1 - (i + 1), by lia, .mk h₉ tk₈ (i + 1) (ys ++ [y]) _ nw₈ oE7 oI7 hlt (by simp [hyl]) (stay hst₈ z1 z2 y1 y2 (N₉ _ (hIA _ _ _ hI₈)).1) (F₈.change hs₉ hDL hD₀) ((hoC.ns z3).sameBut hs₉ hCD) (fun p hp => ?_) off₈ hI₈⟩
        rcases List.mem_cons.mp hp with rfl | hp
        · exact ⟨y1, Ne.symm hLe, he₀⟩
        · rcases List.mem_cons.mp hp with rfl | hp
          · exact ⟨y2, Ne.symm hLi, hi₀⟩
          · rcases List.mem_cons.mp hp with rfl | hp
            · exact ⟨hD₉.trans (congrArg some (LCg.lst_snoc ys y)), hDL, hD₀⟩
            · exact N₉ p hp
      · have : i = its.length := by lia
        subst this
        refine W.done _ _ _ (by rw [List.size_toArray]; exact hst) fun h₂ tk₂ hk₂ => ?_
        exact hRR D C h₂ tk₂ m' ys nw (frk F' hk₂) (nwk Nt hk₂) (fun p hp => ⟨(off' p hp).2.2.2, (off' p hp).2.2.1⟩) (hn'.at' fun o q => hk₂ _ o hCm q) hC₀ hCL hDL hCD hI
    · have hE1 : IsEnum h₁ e it 0 .none := old _ _ he
      obtain ⟨oI, qI, rI⟩ := hit
      obtain ⟨oE, hoE⟩ : ∃ o, h₁.get? e = some o := ⟨_, hE1⟩
      refine .mk h₁ _ 0 [] _ news oE oI (Nat.zero_le _) rfl ⟨⟨_, hE1⟩, ⟨oI, old _ _ qI, rI⟩, ⟨oA, old _ _ hAx.1, by rw [hA], k, by rw [hA]⟩⟩ (F.keeps old) hns₁ (fun p hp => ?_) (fun p hp => ⟨(off p hp).1, (off p hp).2, (below _ (hDs ▸ Heap.lt_size (N p hp).1)).1, (below _ (hDs ▸ Heap.lt_size (N p hp).1)).2⟩) h0
      rcases List.mem_cons.mp hp with rfl | hp
      · exact ⟨hoE, Ne.symm hLe, he₀⟩
      · rcases List.mem_cons.mp hp with rfl | hp
        · exact ⟨old _ _ qI, Ne.symm hLi, hi₀⟩
        · rcases List.mem_cons.mp hp with rfl | hp
          · exact ⟨hacc, hDL, hD₀⟩
          · exact ⟨old _ _ (N p hp).1, (N p hp).2⟩
  exact codeAny_compStart_list (loop _ rfl) (W.self 0 _ _ _ ⟨⟨_, old _ _ he⟩, (by obtain ⟨o, q, r⟩ := hit; exact ⟨o, old _ _ q, r⟩), ⟨oA, old _ _ hAx.1, by rw [hA], k, by rw [hA]⟩⟩ (loop _ rfl))
/-- where a comprehension over enumerate of a list begins -/
inductive ESrc (prog : Program) (w : World) (A : Around) (h₀ : Heap) (L : Addr) (m : Str → Option Value) (env : Env) (elt : PySem.Expr) (x x₂ : Str) (scope : Scope) (cl : List (Str × Addr)) (Fin : Shared → List Value → List (Addr × Obj) → Prop) (xv : Value) (s₂ : Shared) : Prop where
  | mk (e it ax : Addr) (its : List Value) (oA : Obj) (k : Nat) (news : List (Addr × Obj)) (Inv : Nat → List Value → List (Addr × Obj) → Prop) : (xv = .ref e) → (A.handled = none) → (its.length ≤ 1000) → (IsEnum s₂.heap e it 0 .none) → (s₂.heap.IsListIter it ax 0) → (oA = { cls := .type "list", data := .seq its.toArray k }) → (Fr h₀ L s₂.heap m) → (News h₀ L s₂.heap news) → (e ≠ it) → (h₀.get? e = none) → (h₀.get? it = none) → (L ≠ e) → (L ≠ it) → ((∀ p ∈ news, p.1 ≠ e ∧ p.1 ≠ it)) → (Inv 0 [] news) → ((∀ i ys nw, Inv i ys nw → (ax, oA) ∈ nw)) → ((∀ i ys nw, i < its.length → Inv i ys nw → ∀ v t oE oI oC C D m₂ h tk (E' : Value → Shared → Prop), its[i]? = some v → LCg.NsObj oC m₂ → m₂ x = some (.int (i : Int) t) → m₂ x₂ = some v → Fr h₀ L h m → News h₀ L h ((e, oE) :: (it, oI) :: (C, oC) :: (D, LCg.lst ys) :: nw) → Off4 e it C D nw → (C ≠ e ∧ C ≠ it ∧ D ≠ e ∧ D ≠ it ∧ C ≠ D) →
      wpAny (model prog w) A (eval elt (compEnvC scope cl C env)) (EEnd h₀ L m { s₂ with heap := h, toks := tk } [(e, oE), (it, oI), (C, oC), (D, LCg.lst ys)] e it C D (fun y nw' => Inv (i + 1) (ys ++ [y]) nw')) E' { s₂ with heap := h, toks := tk })) → ((∀ ys nw, Inv its.length ys nw → Fin s₂ ys nw)) → ESrc prog w A h₀ L m env elt x x₂ scope cl Fin xv s₂
theorem assign_enum {elt iter : PySem.Expr} {x x₂ y : Str} {px px₂ tp py : Pos} {tk} {scope : Scope} {cl : List (Str × Addr)} {pos spos : Pos} {Q : Flow → Shared → Prop} {s : Shared} (_F₀ : Fr h₀ L s.heap m) (hLe : env.locals = L)
    (hsw : swapsWith (.ListComp elt [⟨.Tuple [.Name x px, .Name x₂ px₂] tk tp, iter, [], 0⟩] scope pos) (some (.Name y py)) spos.line env = pure true)
    (hclos : closureFor scope env = pure cl) (hcell : ∀ z ∈ scope.names, z.2 ≠ .cell) (hkind : scope.kind = .function)
    (hnames : ∀ z ∈ scope.names, z.2 = .local → scope.names.lookup z.1 = some .local) (hx : scope.names.lookup x = some .local) (hx₂ : scope.names.lookup x₂ = some .local) (hxx : x ≠ x₂)
    (hy : env.kindOf y = some .local) (hp : (env.scope.kind == .class || (env.scope.kind == .module && env.locals != env.globals)) = false)
    (h : wpAny (model prog w) A (eval iter env) (ESrc prog w A h₀ L m env elt x x₂ scope cl (fun s₂ => LCg.FinA h₀ L m s₂ y Q)) E s)
    (hs : ∀ x, foldedSetIterable iter env x = pure x := by intro _; rfl) :
    wpAny (model prog w) A (exec (.Assign [.Name y py] (.ListComp elt [⟨.Tuple [.Name x px, .Name x₂ px₂] tk tp, iter, [], 0⟩] scope pos) spos) env) Q E s := by
  subst hLe
  rw [exec_Assign_Name_used _ _ _ _ hsw]
  refine wpAny_bind (wpAny_standAt (wpAny_bind ?_))
  show wpAny _ A (do let _ ← comprehension (.ListComp elt [⟨.Tuple [.Name x px, .Name x₂ px₂] tk tp, iter, [], 0⟩] scope pos) scope env _ (newList []) false (eval iter env) (some (assign (.Name y py) env))) _ _ s
  refine wpAny_bind (wpAny_mono (wpAny_comprehension_free (use := some (assign (.Name y py) env)) (Q := fun _ s' => Q .next s') rfl hs hclos hkind hnames
    (wpAny_mono h (fun xv s₁ h₁ => ?_) fun _ _ e => e)) (fun _ s' hq => wpAny_pure (wpAny_pure hq)) fun _ _ e => e)
  obtain ⟨e, it, ax, its, oA, k, news, Inv, rfl, hh, hsz, he, hit, hA, F, N, hei, he₀, hi₀, hLe, hLi, off, h0, hIA, step, fin⟩ := h₁
  refine wpAny_pyIter_enum he ?_
  refine enum_block hcell hkind hx hx₂ hxx hh hsz he hit hA F N hei he₀ hi₀ hLe hLi off Inv h0 hIA step ?_
  intro D C h' tk m' ys nw F' N' o1 hn hC₀ hCL hDL hCD hI
  show wpAny _ A (assign (.Name y py) env (.ref D)) _ _ _
  refine wpAny_assign_Name (wpAny_storeName_local hy F'.ns (fun h₂ hn₂ hs₂ => ?_) hp)
  have hL₀ : h₀.get? env.locals = none := Heap.get?_none_of_le F'.above
  have F₂ : Fr h₀ env.locals h₂ (fun z => if z = y then some (.ref D) else m z) := ⟨hn₂, fun b o q => hs₂.extBut b o (fun r => by rw [r, hL₀] at q; cases q) (F'.keep b o q), F'.above⟩
  refine ⟨m', hn.sameBut hs₂ hCL, fun h'' hs'' => fin ys nw hI D h'' _ (F₂.change hs'' hCL hC₀) (fun p hp => ?_) ?_⟩
  · have z : h₂.get? p.1 = some p.2 := hs₂.extBut _ _ (N' p hp).2.1 (N' p hp).1
    refine ⟨hs''.extBut _ _ ?_ z, (N' p hp).2⟩
    rcases List.mem_cons.mp hp with rfl | hp
    · exact Ne.symm hCD
    · exact (o1 p hp).2
  · have key : ∀ l : List (Addr × Obj), (∀ p ∈ l, p.1 ≠ D) → LCg.Off1 D l := fun l => by
      induction l with
      | nil => exact fun _ => trivial
      | cons a r ih => exact fun h => ⟨h a (.head _), ih fun p hp => h p (.tail _ hp)⟩
    exact key _ fun p hp => (o1 p hp).1
theorem enum_start {elt : PySem.Expr} {x x₂ : Str} {scope : Scope} {cl : List (Str × Addr)} {Fin : Shared → List Value → List (Addr × Obj) → Prop} {T : Addr} {its : List Value} {k : Nat} {news : List (Addr × Obj)} {s : Shared}
    (hh : A.handled = none) (F : Fr h₀ L s.heap m) (N : News h₀ L s.heap news) (hm : (T, listOf its.toArray k) ∈ news) (hsz : its.length ≤ 1000)
    (Inv : Nat → List Value → List (Addr × Obj) → Prop) (h0 : Inv 0 [] news) (hIA : ∀ i ys nw, Inv i ys nw → (T, listOf its.toArray k) ∈ nw)
    (step : ∀ i ys nw, i < its.length → Inv i ys nw → ∀ e it v t oE oI oC C D m₂ h tk (E' : Value → Shared → Prop), its[i]? = some v → LCg.NsObj oC m₂ → m₂ x = some (.int (i : Int) t) → m₂ x₂ = some v → Fr h₀ L h m → News h₀ L h ((e, oE) :: (it, oI) :: (C, oC) :: (D, LCg.lst ys) :: nw) → Off4 e it C D nw → (C ≠ e ∧ C ≠ it ∧ D ≠ e ∧ D ≠ it ∧ C ≠ D) →
      wpAny (model prog w) A (eval elt (compEnvC scope cl C env)) (EEnd h₀ L m { s with heap := h, toks := tk } [(e, oE), (it, oI), (C, oC), (D, LCg.lst ys)] e it C D (fun y nw' => Inv (i + 1) (ys ++ [y]) nw')) E' { s with heap := h, toks := tk })
    (fin : ∀ g ys nw, Inv its.length ys nw → Fin { s with heap := g } ys nw) :
    wpAny (model prog w) A (call (.type "enumerate") [.ref T]) (ESrc prog w A h₀ L m env elt x x₂ scope cl Fin) E s := by
  refine call_enumerate_list (list_in N hm) fun h' he hit hz keep => ?_
  have fresh : ∀ a, s.heap.objs.size ≤ a → h₀.get? a = none := fun a ha => by
    cases q : h₀.get? a with
    | none => rfl
    | some o' => exact absurd (Heap.lt_size (F.keep a o' q)) (Nat.not_lt.mpr ha)
  have hlt := F.ns.lt
  refine ⟨s.heap.objs.size + 1, s.heap.objs.size, T, its, _, k, news, Inv, rfl, hh, hsz, he, hit, rfl, F.kept keep, N.grown keep, Nat.succ_ne_self _, fresh _ (Nat.le_succ _), fresh _ (Nat.le_refl _), Nat.ne_of_lt (Nat.lt_succ_of_lt hlt), Nat.ne_of_lt hlt, fun p hp => ?_, h0, hIA, ?_, fun ys nw hI => fin _ ys nw hI⟩
  · have := Heap.lt_size (N p hp).1
    exact ⟨Nat.ne_of_lt (Nat.lt_succ_of_lt this), Nat.ne_of_lt this⟩
  · intro i ys nw hi hI v t oE oI oC C D m₂ h tk E' hv hC h1 h2 F' N' off ne
    exact step i ys nw hi hI _ _ v t oE oI oC C D m₂ h tk E' hv hC h1 h2 F' N' off ne
end
end Mine
end
section
open PySem PySem.W PyProof.Rows PySem.Calls PySem.Spec
set_option maxRecDepth 100000
set_option maxHeartbeats 4000000
namespace Mine
theorem strs_get {ts : List Value} {XS : List Str} (h : StrsAre ts XS) : ∀ {i : Nat} {v : Value}, ts[i]? = some v → ∃ x t, v = .str x t ∧ XS[i]? = some x := by
  induction h with
  | nil => intro i v h; simp at h
  | cons z u _ ih =>
    intro i v hv
    cases i with
    | zero => simp at hv; exact ⟨z, u, hv.symm, by simp⟩
    | succ i => simp at hv; obtain ⟨x, t, e1, e2⟩ := ih hv; exact ⟨x, t, e1, by simpa using e2⟩
/-- the tuples of a comprehension over enumerate, so far -/
noncomputable def PrsInv (at' : List (Addr × Obj) → Value → Nat → Prop) (base : List (Addr × Obj)) (i : Nat) (ys : List Value) (nw : List (Addr × Obj)) : Prop :=
  ∃ prs, nw = base ++ prs ∧ ys.length = i ∧ ∀ j v, ys[j]? = some v → at' prs v j
theorem prs_end {at' : List (Addr × Obj) → Value → Nat → Prop} (mono : ∀ l l' v j, (∀ q ∈ l, q ∈ l') → at' l v j → at' l' v j) {base prs : List (Addr × Obj)} {i : Nat} {ys : List Value} {h₀ h' : Heap} {L t e it C D : Addr} {m : Str → Option Value} {o oE oI oC : Obj} {s : Shared} {tk' : Nat} {R : Prop}
    (F : Fr h₀ L h' m) (N : News h₀ L h' ((t, o) :: (e, oE) :: (it, oI) :: (C, oC) :: (D, LCg.lst ys) :: (base ++ prs))) (off : Off4 e it C D (base ++ prs)) (l : e < t ∧ it < t ∧ C < t ∧ D < t ∧ R) (hyl : ys.length = i) (h : ∀ j v, ys[j]? = some v → at' prs v j) (hn : at' ((t, o) :: prs) (.ref t) i) :
    EEnd h₀ L m s [(e, oE), (it, oI), (C, oC), (D, LCg.lst ys)] e it C D (fun y nw' => PrsInv at' base (i + 1) (ys ++ [y]) nw') (.ref t) { s with heap := h', toks := tk' } := by
  refine ⟨h', tk', base ++ (t, o) :: prs, rfl, F, fun p hp => N p ?_, fun p hp => ?_, (t, o) :: prs, rfl, by simp [hyl], fun j v hv => ?_⟩
  · simp only [List.cons_append, List.nil_append, List.mem_cons, List.mem_append] at hp ⊢
    rcases hp with h | h | h | h | h | h | h
    · exact .inr (.inl h)
    · exact .inr (.inr (.inl h))
    · exact .inr (.inr (.inr (.inl h)))
    · exact .inr (.inr (.inr (.inr (.inl h))))
    · exact .inr (.inr (.inr (.inr (.inr (.inl h)))))
    · exact .inl h
    · exact .inr (.inr (.inr (.inr (.inr (.inr h)))))
  · rcases List.mem_append.mp hp with hp | hp
    · exact off p (List.mem_append.mpr (.inl hp))
    · rcases List.mem_cons.mp hp with rfl | hp
      · exact ⟨Nat.ne_of_gt l.1, Nat.ne_of_gt l.2.1, Nat.ne_of_gt l.2.2.1, Nat.ne_of_gt l.2.2.2.1⟩
      · exact off p (List.mem_append.mpr (.inr hp))
  · by_cases hj : j < ys.length
    · rw [List.getElem?_append_left hj] at hv
      exact mono _ _ _ _ (fun q hq => .tail _ hq) (h j v hv)
    · rw [List.getElem?_append_right (by lia)] at hv
      obtain ⟨h1, h2⟩ := List.getElem?_eq_some_iff.mp hv
      simp at h1
      have : j = i := by lia
      subst this
      have : v = .ref t := by rw [← h2]; simp
      rw [this]; exact hn
noncomputable def pairAtX (kd : Kd) (XS : List Str) (l : List (Addr × Obj)) (v : Value) (j : Nat) : Prop := ∃ x, XS[j]? = some x ∧ PairAt l v (wr kd x, (j : Int))
noncomputable def twoAtX (kd : Kd) (XS : List Str) (l : List (Addr × Obj)) (v : Value) (j : Nat) : Prop := ∃ x, XS[j]? = some x ∧ TwoAt l v (told kd x, (j : Int))
theorem pairAtX_mono (kd : Kd) (XS : List Str) : ∀ l l' v j, (∀ q ∈ l, q ∈ l') → pairAtX kd XS l v j → pairAtX kd XS l' v j := by
  rintro l l' v j hs ⟨x, hx, b, t, u, n, e, hm⟩
  exact ⟨x, hx, b, t, u, n, e, hs _ hm⟩
theorem twoAtX_mono (kd : Kd) (XS : List Str) : ∀ l l' v j, (∀ q ∈ l, q ∈ l') → twoAtX kd XS l v j → twoAtX kd XS l' v j := by
  rintro l l' v j hs ⟨x, hx, hm⟩
  exact ⟨x, hx, hm.mono hs⟩
end Mine
end
section
open PySem PySem.W PyProof.Rows PySem.Calls PySem.Spec
set_option maxRecDepth 100000
set_option maxHeartbeats 4000000
namespace Mine
open Classical in
/-- the place of a value in a list -/
noncomputable def plc (vs : List Value) (v : Value) : Nat := if h : ∃ j, vs[j]? = some v then h.choose else 0
theorem plc_lt {vs : List Value} {v : Value} (h : 0 < vs.length) : plc vs v < vs.length := by
  unfold plc
  split
  · rename_i q
    exact (List.getElem?_eq_some_iff.mp q.choose_spec).1
  · exact h
theorem plc_at {vs : List Value} {v : Value} (h : v ∈ vs) : vs[plc vs v]? = some v := by
  have q : ∃ j, vs[j]? = some v := List.mem_iff_getElem?.mp h
  unfold plc
  rw [dif_pos q]
  exact q.choose_spec
noncomputable def nth (XS : List Str) (j : Nat) : Str := XS.getD j ⟨#[]⟩
theorem nth_at {XS : List Str} {j : Nat} {x : Str} (h : XS[j]? = some x) : nth XS j = x := by unfold nth; rw [List.getD_eq_getElem?_getD, h]; rfl
theorem nth_mem {XS : List Str} {j : Nat} (h : j < XS.length) : nth XS j ∈ XS := by
  unfold nth
  rw [List.getD_eq_getElem?_getD, List.getElem?_eq_getElem h]
  exact List.getElem_mem h
/-- the number by which places are put in order -/
noncomputable def Kp (kd : Kd) (XS : List Str) (j : Nat) : Int := pk (told kd (nth XS j), (j : Int))
theorem Kp_inj {kd : Kd} {XS : List Str} {i j : Nat} (hi : i < 64) (hj : j < 64) (h : Kp kd XS i = Kp kd XS j) : i = j := by
  unfold Kp pk at h
  dsimp only at h
  lia
noncomputable def kap (kd : Kd) (XS : List Str) (vs : List Value) (v : Value) : Str × Int := (wr kd (nth XS (plc vs v)), (plc vs v : Int))
noncomputable def tap (kd : Kd) (XS : List Str) (us : List Value) (u : Value) : Int × Int := (told kd (nth XS (plc us u)), (plc us u : Int))
/-- the number of a value -/
noncomputable def Kv (kd : Kd) (XS : List Str) (vs : List Value) (v : Value) : Int := Kp kd XS (plc vs v)
theorem tap_pk (kd : Kd) (XS : List Str) (us : List Value) (u : Value) : pk (tap kd XS us u) = Kp kd XS (plc us u) := rfl
theorem kap_lt {kd : Kd} {XS : List Str} {vs : List Value} (hX : ∀ x ∈ XS, IsText x) (h0 : 0 < vs.length) (hl : vs.length = XS.length) (h64 : XS.length < 64) :
    (fun a b => pLt (kap kd XS vs a) (kap kd XS vs b)) = klt (Kv kd XS vs) := by
  funext a b
  have ha := plc_lt (v := a) h0
  have hb := plc_lt (v := b) h0
  unfold kap klt Kv Kp
  exact order (hX _ (nth_mem (by lia))) (hX _ (nth_mem (by lia))) (by lia) (by lia)
theorem kap_pair {kd : Kd} {XS : List Str} {vs : List Value} {P : List (Addr × Obj)} (hpr : ∀ j v, vs[j]? = some v → pairAtX kd XS P v j) {v : Value} (h : v ∈ vs) : PairAt P v (kap kd XS vs v) := by
  obtain ⟨x, hx, hp⟩ := hpr _ _ (plc_at h)
  unfold kap
  rw [nth_at hx]
  exact hp
theorem tap_two {kd : Kd} {XS : List Str} {us : List Value} {P : List (Addr × Obj)} (htl : ∀ j v, us[j]? = some v → twoAtX kd XS P v j) {u : Value} (h : u ∈ us) : TwoAt P u (tap kd XS us u) := by
  obtain ⟨x, hx, hp⟩ := htl _ _ (plc_at h)
  unfold tap
  rw [nth_at hx]
  exact hp
theorem plc_pair {kd : Kd} {XS : List Str} {vs : List Value} {P : List (Addr × Obj)} {h₀ h : Heap} {L : Addr} (N : News h₀ L h P) (hpr : ∀ j v, vs[j]? = some v → pairAtX kd XS P v j) {j : Nat} {v : Value} (hj : vs[j]? = some v) : plc vs v = j := by
  obtain ⟨x, hx, b, t, u, n, rfl, hm⟩ := hpr _ _ hj
  obtain ⟨x', hx', b', t', u', n', e, hm'⟩ := hpr _ _ (plc_at (List.mem_of_getElem? hj))
  cases e
  have e1 := (N _ hm).1
  have e2 := (N _ hm').1
  rw [e1] at e2
  simp only [Option.some.injEq, Obj.mk.injEq, Data.seq.injEq, Array.mk.injEq, List.cons.injEq, Value.int.injEq, true_and, and_true] at e2
  lia
theorem plc_two {kd : Kd} {XS : List Str} {vs : List Value} {P : List (Addr × Obj)} {h₀ h : Heap} {L : Addr} (N : News h₀ L h P) (hpr : ∀ j v, vs[j]? = some v → twoAtX kd XS P v j) {j : Nat} {v : Value} (hj : vs[j]? = some v) : plc vs v = j := by
  obtain ⟨x, hx, b, t, u, n, rfl, hm⟩ := hpr _ _ hj
  obtain ⟨x', hx', b', t', u', n', e, hm'⟩ := hpr _ _ (plc_at (List.mem_of_getElem? hj))
  cases e
  have e1 := (N _ hm).1
  have e2 := (N _ hm').1
  rw [e1] at e2
  simp only [Option.some.injEq, Obj.mk.injEq, Data.seq.injEq, Array.mk.injEq, List.cons.injEq, Value.int.injEq, true_and, and_true] at e2
  lia
section
variable {α β : Type} {f : α → Nat} {g : β → Nat} {K : Nat → Int}
/-- the least of the one list is the least of the other -/
theorem pop_law (hK : ∀ i j, i < 64 → j < 64 → K i = K j → i = j) (hf : ∀ a, f a < 64) (hg : ∀ b, g b < 64) {c : α} {xs : List α} {r : β} {ys : List β} (hp : ((c :: xs).map f).Perm ((r :: ys).map g))
    (hc : ∀ x ∈ c :: xs, K (f c) ≤ K (f x)) (hr : (r :: ys).Pairwise (fun a b => K (g a) ≤ K (g b))) : f c = g r ∧ (xs.map f).Perm (ys.map g) := by
  have e : f c = g r := by
    refine hK _ _ (hf _) (hg _) (Int.le_antisymm ?_ ?_)
    · have : g r ∈ (c :: xs).map f := hp.mem_iff.mpr (by simp)
      obtain ⟨x, hx, e⟩ := List.mem_map.mp this
      rw [← e]
      exact hc x hx
    · have : f c ∈ (r :: ys).map g := hp.mem_iff.mp (by simp)
      obtain ⟨y, hy, e⟩ := List.mem_map.mp this
      rw [← e]
      rcases List.mem_cons.mp hy with rfl | hy
      · exact Int.le_refl _
      · exact List.rel_of_pairwise_cons hr hy
  refine ⟨e, ?_⟩
  rw [List.map_cons, List.map_cons, e] at hp
  exact hp.cons_inv
theorem push_law {xs xs' : List α} {ys ys' : List β} {v : α} {u : β} (hp : (xs.map f).Perm (ys.map g)) (e : f v = g u) (hx : xs'.Perm (v :: xs)) (hy : ys'.Perm (ys ++ [u])) : (xs'.map f).Perm (ys'.map g) := by
  refine (hx.map f).trans (List.Perm.trans ?_ (hy.map g).symm)
  rw [List.map_cons, List.map_append, List.map_cons, List.map_nil, e]
  exact (hp.cons _).trans (List.perm_append_singleton _ _).symm
end
end Mine
end
section
open PySem PySem.W PyProof.Rows PySem.Calls PySem.Spec
set_option maxRecDepth 100000
set_option maxHeartbeats 4000000
namespace Mine
/-- gone, wanted, pile, and the rest of the ledger -/
noncomputable abbrev T3 (G W Pl : Addr) (gs ws its : List Value) (a b c : Nat) (B : List (Addr × Obj)) : List (Addr × Obj) := (G, listOf gs.toArray a) :: (W, listOf ws.toArray b) :: (Pl, listOf its.toArray c) :: B
noncomputable def Ap (G W Pl : Addr) (B : List (Addr × Obj)) : Prop := G ≠ W ∧ G ≠ Pl ∧ W ≠ Pl ∧ ∀ q ∈ B, q.1 ≠ G ∧ q.1 ≠ W ∧ q.1 ≠ Pl
noncomputable def Sub (xs vs : List Value) : Prop := ∀ v ∈ xs, v ∈ vs
noncomputable def Refs (xs : List Value) : Prop := ∀ v ∈ xs, ∃ a, v = .ref a
noncomputable def Inc (P B : List (Addr × Obj)) : Prop := ∀ q ∈ P, q ∈ B
theorem Inc.cons {P B : List (Addr × Obj)} {x : Addr × Obj} (h : Inc P B) : Inc P (x :: B) := fun q hq => .tail _ (h q hq)
theorem Inc.refl {P : List (Addr × Obj)} : Inc P P := fun _ h => h
theorem news_sub {h₀ h : Heap} {L : Addr} {l l' : List (Addr × Obj)} (N : News h₀ L h l) (hs : ∀ q ∈ l', q ∈ l) : News h₀ L h l' := fun p hp => N p (hs p hp)
/-- what stands through the loops -/
structure Stat (kd : Kd) (XS : List Str) (vs us : List Value) (P : List (Addr × Obj)) : Prop where
  hX : ∀ x ∈ XS, IsText x
  h7 : 7 ≤ XS.length
  h13 : XS.length ≤ 13
  hv : vs.length = XS.length
  hu : us.length = XS.length
  pr : ∀ j v, vs[j]? = some v → pairAtX kd XS P v j
  tl : ∀ j v, us[j]? = some v → twoAtX kd XS P v j
section
variable {h₀ h : Heap} {L G W Pl D : Addr} {gs ws its : List Value} {a b c : Nat} {B P : List (Addr × Obj)} {o : Obj} {kd : Kd} {XS : List Str} {vs us : List Value}
theorem ap_cons (l : ∀ p ∈ T3 G W Pl gs ws its a b c B, p.1 < D) (h : Ap G W Pl B) : Ap G W Pl ((D, o) :: B) := by
  refine ⟨h.1, h.2.1, h.2.2.1, fun q hq => ?_⟩
  rcases List.mem_cons.mp hq with rfl | hq
  · exact ⟨Nat.ne_of_gt (l _ (.head _)), Nat.ne_of_gt (l _ (.tail _ (.head _))), Nat.ne_of_gt (l _ (.tail _ (.tail _ (.head _))))⟩
  · exact h.2.2.2 q hq
theorem ap_sub {B' : List (Addr × Obj)} (h : Ap G W Pl B) (hs : ∀ q ∈ B', q ∈ B) : Ap G W Pl B' := ⟨h.1, h.2.1, h.2.2.1, fun q hq => h.2.2.2 q (hs q hq)⟩
theorem n3 (N : News h₀ L h ((D, o) :: T3 G W Pl gs ws its a b c B)) : News h₀ L h (T3 G W Pl gs ws its a b c ((D, o) :: B)) := news_sub N fun q hq => by
  rcases List.mem_cons.mp hq with rfl | hq
  · exact .tail _ (.head _)
  rcases List.mem_cons.mp hq with rfl | hq
  · exact .tail _ (.tail _ (.head _))
  rcases List.mem_cons.mp hq with rfl | hq
  · exact .tail _ (.tail _ (.tail _ (.head _)))
  rcases List.mem_cons.mp hq with rfl | hq
  · exact .head _
  · exact .tail _ (.tail _ (.tail _ (.tail _ hq)))
/-- the pile ahead -/
theorem nP (N : News h₀ L h (T3 G W Pl gs ws its a b c B)) : News h₀ L h ((Pl, listOf its.toArray c) :: (G, listOf gs.toArray a) :: (W, listOf ws.toArray b) :: B) := news_sub N fun q hq => by
  rcases List.mem_cons.mp hq with rfl | hq
  · exact .tail _ (.tail _ (.head _))
  rcases List.mem_cons.mp hq with rfl | hq
  · exact .head _
  rcases List.mem_cons.mp hq with rfl | hq
  · exact .tail _ (.head _)
  · exact .tail _ (.tail _ (.tail _ hq))
theorem nP' (N : News h₀ L h ((Pl, listOf its.toArray c) :: (G, listOf gs.toArray a) :: (W, listOf ws.toArray b) :: B)) : News h₀ L h (T3 G W Pl gs ws its a b c B) := news_sub N fun q hq => by
  rcases List.mem_cons.mp hq with rfl | hq
  · exact .tail _ (.head _)
  rcases List.mem_cons.mp hq with rfl | hq
  · exact .tail _ (.tail _ (.head _))
  rcases List.mem_cons.mp hq with rfl | hq
  · exact .head _
  · exact .tail _ (.tail _ (.tail _ hq))
theorem apP (h : Ap G W Pl B) : ∀ q ∈ (G, listOf gs.toArray a) :: (W, listOf ws.toArray b) :: B, q.1 ≠ Pl := fun q hq => by
  rcases List.mem_cons.mp hq with rfl | hq
  · exact h.2.1
  rcases List.mem_cons.mp hq with rfl | hq
  · exact h.2.2.1
  · exact (h.2.2.2 q hq).2.2
theorem apG (h : Ap G W Pl B) : ∀ q ∈ (W, listOf ws.toArray b) :: (Pl, listOf its.toArray c) :: B, q.1 ≠ G := fun q hq => by
  rcases List.mem_cons.mp hq with rfl | hq
  · exact Ne.symm h.1
  rcases List.mem_cons.mp hq with rfl | hq
  · exact Ne.symm h.2.1
  · exact (h.2.2.2 q hq).1
theorem nW (N : News h₀ L h (T3 G W Pl gs ws its a b c B)) : News h₀ L h ((W, listOf ws.toArray b) :: (G, listOf gs.toArray a) :: (Pl, listOf its.toArray c) :: B) := news_swap N
theorem apW (h : Ap G W Pl B) : ∀ q ∈ (G, listOf gs.toArray a) :: (Pl, listOf its.toArray c) :: B, q.1 ≠ W := fun q hq => by
  rcases List.mem_cons.mp hq with rfl | hq
  · exact h.1
  rcases List.mem_cons.mp hq with rfl | hq
  · exact Ne.symm h.2.2.1
  · exact (h.2.2.2 q hq).2.1
theorem Stat.refs (S : Stat kd XS vs us P) {xs : List Value} (h : Sub xs vs) : Refs xs := fun v hv => by
  obtain ⟨j, hj⟩ := List.mem_iff_getElem?.mp (h v hv)
  obtain ⟨x, hx, b, t, u, n, e, hm⟩ := S.pr _ _ hj
  exact ⟨b, e⟩
theorem Stat.refsU (S : Stat kd XS vs us P) {xs : List Value} (h : Sub xs us) : Refs xs := fun v hv => by
  obtain ⟨j, hj⟩ := List.mem_iff_getElem?.mp (h v hv)
  obtain ⟨x, hx, b, t, u, n, e, hm⟩ := S.tl _ _ hj
  exact ⟨b, e⟩
theorem Stat.v0 (S : Stat kd XS vs us P) : 0 < vs.length := by have := S.h7; have := S.hv; lia
theorem Stat.u0 (S : Stat kd XS vs us P) : 0 < us.length := by have := S.h7; have := S.hu; lia
theorem Stat.vlt (S : Stat kd XS vs us P) (v : Value) : plc vs v < 13 := by have := plc_lt (v := v) S.v0; have := S.h13; have := S.hv; lia
theorem Stat.ult (S : Stat kd XS vs us P) (v : Value) : plc us v < 13 := by have := plc_lt (v := v) S.u0; have := S.h13; have := S.hu; lia
theorem Stat.klt (S : Stat kd XS vs us P) : (fun a b => pLt (kap kd XS vs a) (kap kd XS vs b)) = klt (Kv kd XS vs) := kap_lt S.hX S.v0 S.hv (by have := S.h13; lia)
theorem Stat.klt1 (S : Stat kd XS vs us P) (a b : Value) : pLt (kap kd XS vs a) (kap kd XS vs b) = decide (Kv kd XS vs a < Kv kd XS vs b) := congrFun (congrFun S.klt a) b
theorem Stat.kp (S : Stat kd XS vs us P) {v : Value} (h : v ∈ vs) {B : List (Addr × Obj)} (hs : ∀ q ∈ P, q ∈ B) : PairAt B v (kap kd XS vs v) := pairAt_mono (kap_pair S.pr h) hs
theorem Stat.tp (S : Stat kd XS vs us P) {v : Value} (h : v ∈ us) {B : List (Addr × Obj)} (hs : ∀ q ∈ P, q ∈ B) : TwoAt B v (tap kd XS us v) := (tap_two S.tl h).mono hs
end
section
variable {prog : Program} {w : World} {A : Around} {E : Value → Shared → Prop} {s : Shared} {h₀ : Heap} {L G W Pl l : Addr} {m : Str → Option Value} {gs ws its xs : List Value} {a b c n : Nat} {B P news : List (Addr × Obj)} {kd : Kd} {XS : List Str} {vs us : List Value} {k : Int} {u : Tok} {Q : Value → Shared → Prop}
theorem append_G {v : Value} (F : Fr h₀ L s.heap m) (N : News h₀ L s.heap (T3 G W Pl gs ws its a b c B)) (ap : Ap G W Pl B) (hf : gs.length < 2 ^ 20)
    (h : ∀ h' a', Fr h₀ L h' m → News h₀ L h' (T3 G W Pl (gs ++ [v]) ws its a' b c B) → Q .none { s with heap := h' }) : wpAny (model prog w) A (call (.builtin "list.append") [.ref G, v]) Q E s :=
  append_pair F N (apG ap) hf h
theorem append_W {v : Value} (F : Fr h₀ L s.heap m) (N : News h₀ L s.heap (T3 G W Pl gs ws its a b c B)) (ap : Ap G W Pl B) (hf : ws.length < 2 ^ 20)
    (h : ∀ h' b', Fr h₀ L h' m → News h₀ L h' (T3 G W Pl gs (ws ++ [v]) its a b' c B) → Q .none { s with heap := h' }) : wpAny (model prog w) A (call (.builtin "list.append") [.ref W, v]) Q E s :=
  append_pair F (nW N) (apW ap) hf fun h' b' F' N' => h h' b' F' (nW N')
/-- an item of a list of references -/
theorem item_ref {value slice : PySem.Expr} (N : News h₀ L s.heap news) (hm : (l, listOf xs.toArray n) ∈ news) (hr : Refs xs) (h0 : 0 ≤ k) (h1 : k < xs.length) (hf : xs.length < 2 ^ 20)
    (h : ∀ b, xs[k.toNat]? = some (.ref b) → Q (.ref b) s) (hs : subscripted slice false (.ref l) (.int k u) = operate [.ref l, .int k u] (getItem (.ref l) (.int k u)) := by with_unfolding_all rfl) :
    wpAny (model prog w) A (subscriptTail value slice (.ref l) (.int k u)) Q E s := by
  have hl : s.heap.IsList l xs.toArray := PySem.IsL.isList (n := n) (N _ hm).1
  have hk : k.toNat < xs.length := by lia
  have hx : xs[k.toNat]? = some xs[k.toNat] := List.getElem?_eq_getElem hk
  obtain ⟨b, e⟩ := hr _ (List.getElem_mem hk)
  rw [e] at hx
  have hfit : k < 2 ^ 63 := by lia
  exact tail_any hl.typeIs slot_list_getitem.lookup (wpAny_getItem_list hl h0 hfit (by simpa using hx) (h b hx)) hs
/-- an item of a list of ints -/
theorem item_int {value slice : PySem.Expr} {ns : List Int} (N : News h₀ L s.heap news) (hm : (l, listOf xs.toArray n) ∈ news) (hr : IntsAre xs ns) (h0 : 0 ≤ k) (h1 : k < xs.length) (hf : xs.length < 2 ^ 20)
    (h : ∀ x t, Q (.int x t) s) (hs : subscripted slice false (.ref l) (.int k u) = operate [.ref l, .int k u] (getItem (.ref l) (.int k u)) := by with_unfolding_all rfl) :
    wpAny (model prog w) A (subscriptTail value slice (.ref l) (.int k u)) Q E s := by
  have hl : s.heap.IsList l xs.toArray := PySem.IsL.isList (n := n) (N _ hm).1
  have hk : k.toNat < xs.length := by lia
  have hx : xs[k.toNat]? = some xs[k.toNat] := List.getElem?_eq_getElem hk
  obtain ⟨x, t, e⟩ := hr.all _ (List.getElem_mem hk)
  rw [e] at hx
  have hfit : k < 2 ^ 63 := by lia
  exact tail_any hl.typeIs slot_list_getitem.lookup (wpAny_getItem_list hl h0 hfit (by simpa using hx) (h x t)) hs
/-- a slice of a list of the ledger -/
theorem slice_at {value slice : PySem.Expr} {vl vu : Value} {lo hi : Option Int} (F : Fr h₀ L s.heap m) (N : News h₀ L s.heap news) (hm : (l, listOf xs.toArray n) ∈ news) (pl : IsPart vl lo) (pu : IsPart vu hi) (hz : xs.length ≤ 100000)
    (h : ∀ D h', Fr h₀ L h' m → News h₀ L h' ((D, listOf (kms_pick xs lo hi).toArray 0) :: news) → (∀ p ∈ news, p.1 < D) → Q (.ref D) { s with heap := h' })
    (hs : subscripted slice false (.ref l) (.ref s.heap.objs.size) = operate [.ref s.heap.objs.size, .ref l] (getItem (.ref l) (.ref s.heap.objs.size))) (ht : ∀ r, letTemporaryGo value (.ref l) r = pure ()) :
    wpAny (model prog w) A (subscriptTail value slice (.ref l) (.ref s.heap.objs.size)) Q E { s with heap := s.heap.push { cls := .type "slice", data := .fields #[vl, vu, .none] } } :=
  kms_slice_lit F N (list_in N hm) pl pu rfl (by simpa using h) hs ht (by rw [sizeLine_eq, List.size_toArray]; lia)
theorem pick_tail (xs : List Value) : kms_pick xs (some 1) none = xs.drop 1 := by
  unfold kms_pick kms_lo kms_hi
  have e : min (Int.toNat 1) xs.length = min 1 xs.length := rfl
  simp only [show ¬ (1 : Int) < 0 by decide, if_false, e]
  cases xs with
  | nil => rfl
  | cons x r => simp
theorem pick_seven {xs : List Value} (h : 7 ≤ xs.length) : kms_pick xs none (some 7) = xs.take 7 := by
  unfold kms_pick kms_lo kms_hi
  have e : min (Int.toNat 7) xs.length = 7 := Nat.min_eq_left h
  simp only [show ¬ (7 : Int) < 0 by decide, if_false, e]
  simp
theorem slice_t3 {value slice : PySem.Expr} {vl vu : Value} (F : Fr h₀ L s.heap m) (N : News h₀ L s.heap (T3 G W Pl gs ws its a b c B)) (ap : Ap G W Pl B) (hm : (l, listOf xs.toArray n) ∈ B) (pl : IsPart vl (some 1)) (pu : IsPart vu none) (hz : xs.length ≤ 100000)
    (h : ∀ D h', Fr h₀ L h' m → News h₀ L h' (T3 G W Pl gs ws its a b c ((D, listOf (xs.drop 1).toArray 0) :: B)) → Ap G W Pl ((D, listOf (xs.drop 1).toArray 0) :: B) → Q (.ref D) { s with heap := h' })
    (hs : subscripted slice false (.ref l) (.ref s.heap.objs.size) = operate [.ref s.heap.objs.size, .ref l] (getItem (.ref l) (.ref s.heap.objs.size))) (ht : ∀ r, letTemporaryGo value (.ref l) r = pure ()) :
    wpAny (model prog w) A (subscriptTail value slice (.ref l) (.ref s.heap.objs.size)) Q E { s with heap := s.heap.push { cls := .type "slice", data := .fields #[vl, vu, .none] } } :=
  slice_at F N (.tail _ (.tail _ (.tail _ hm))) pl pu hz (fun D h' F' N' l1 => by
    rw [pick_tail] at N'
    exact h D h' F' (n3 N') (ap_cons l1 ap)) hs ht
theorem list1_t3 {v : Value} (F : Fr h₀ L s.heap m) (N : News h₀ L s.heap (T3 G W Pl gs ws its a b c B)) (ap : Ap G W Pl B)
    (h : ∀ D h', Fr h₀ L h' m → News h₀ L h' (T3 G W Pl gs ws its a b c ((D, listOf [v].toArray 0) :: B)) → Ap G W Pl ((D, listOf [v].toArray 0) :: B) → Q (.ref D) { s with heap := h' }) : wpAny (model prog w) A (newList [v]) Q E s :=
  newList_K F N fun D h' F' N' l1 => h D h' F' (n3 N') (ap_cons l1 ap)
theorem tup2_t3 {v v' : Value} (F : Fr h₀ L s.heap m) (N : News h₀ L s.heap (T3 G W Pl gs ws its a b c B)) (ap : Ap G W Pl B)
    (h : ∀ D h', Fr h₀ L h' m → News h₀ L h' (T3 G W Pl gs ws its a b c ((D, ({ cls := .type "tuple", data := .seq [v, v'].toArray } : Obj)) :: B)) → Ap G W Pl ((D, ({ cls := .type "tuple", data := .seq [v, v'].toArray } : Obj)) :: B) → Q (.ref D) { s with heap := h' }) : wpAny (model prog w) A (newTuple [v, v']) Q E s :=
  kup_newTuple F N (fun D h' F' N' l1 => h D h' F' (n3 N') (ap_cons l1 ap)) (by size_fits)
theorem add_t3 {l₁ l₂ : Addr} {xs ys : List Value} {n k : Nat} (F : Fr h₀ L s.heap m) (N : News h₀ L s.heap (T3 G W Pl gs ws its a b c B)) (ap : Ap G W Pl B) (ha : (l₁, listOf xs.toArray n) ∈ B) (hb : (l₂, listOf ys.toArray k) ∈ B) (hz : xs.length + ys.length ≤ 1000000)
    (h : ∀ D h', Fr h₀ L h' m → News h₀ L h' (T3 G W Pl gs ws its a b c ((D, listOf (xs ++ ys).toArray 0) :: B)) → Ap G W Pl ((D, listOf (xs ++ ys).toArray 0) :: B) → Q (.ref D) { s with heap := h' }) : wpAny (model prog w) A (binaryOp .Add (.ref l₁) (.ref l₂)) Q E s :=
  add_at F N (.tail _ (.tail _ (.tail _ ha))) (.tail _ (.tail _ (.tail _ hb))) hz fun D h' F' N' l1 => h D h' F' (n3 N') (ap_cons l1 ap)
/-- sorted, of told ones -/
theorem sorted_t3 (S : Stat kd XS vs us P) (hPB : ∀ q ∈ P, q ∈ B) (F : Fr h₀ L s.heap m) (N : News h₀ L s.heap (T3 G W Pl gs ws its a b c B)) (ap : Ap G W Pl B) (hm : (l, listOf xs.toArray n) ∈ B) (h2 : 2 ≤ xs.length) (h64 : xs.length < 64) (hs : Sub xs us)
    (h : ∀ D ys c' h', Fr h₀ L h' m → News h₀ L h' (T3 G W Pl gs ws its a b c ((D, listOf (List.toArray ys) c') :: B)) → Ap G W Pl ((D, listOf (List.toArray ys) c') :: B) → ys.Perm xs → ys.Pairwise (fun x y => Kp kd XS (plc us x) ≤ Kp kd XS (plc us y)) → Refs ys → ys.length = xs.length → Q (.ref D) { s with heap := h' }) :
    wpAny (model prog w) A (call (.builtin "sorted") [.ref l]) Q E s := by
  refine sorted_two (κ := tap kd XS us) F N (list_in N (.tail _ (.tail _ (.tail _ hm)))) h2 h64 (fun v hv => S.tp (hs v hv) fun q hq => .tail _ (.tail _ (.tail _ (hPB q hq)))) (fun v _ => ?_) fun D ys c' h' F' N' l1 hp hw => h D ys c' h' F' (n3 N') (ap_cons l1 ap) hp hw (S.refsU fun x hx => hs x (hp.mem_iff.mp hx)) hp.length_eq
  unfold tap
  have := S.ult v
  dsimp only
  lia
end
section
variable (w : World) (p : Program) (loose : List Str) (mean : ExcName → Option Value) (mg mb : Str → Option Value) {G W Pl : Addr} {gs ws its : List Value} {a b c : Nat} {B P : List (Addr × Obj)} {kd : Kd} {XS : List Str} {vs us : List Value}
theorem sub_pairs (S : Stat kd XS vs us P) (hPB : ∀ q ∈ P, q ∈ B) (hs : Sub its vs) : ∀ v ∈ its, PairAt ((G, listOf gs.toArray a) :: (W, listOf ws.toArray b) :: B) v (kap kd XS vs v) := fun v hv => S.kp (hs v hv) fun q hq => .tail _ (.tail _ (hPB q hq))
theorem r_replace (S : Stat kd XS vs us P) (hPB : ∀ q ∈ P, q ∈ B) (ap : Ap G W Pl B) (hs : Sub its vs) (hH : Heap' (Kv kd XS vs) its) (v : Addr) (hv : Value.ref v ∈ vs) (h1 : 0 < its.length) (hfit : its.length < 2 ^ 20) :
    Call1 w p loose mean mg mb 127 (T3 G W Pl gs ws its a b c B) [.ref Pl, .ref v] 3 24
      (fun Q h₀ L m s => ∀ (h' : Heap) (tk' : Nat) (r : Addr) (tl its' : List Value), its = .ref r :: tl → (∀ x ∈ its, Kv kd XS vs (.ref r) ≤ Kv kd XS vs x) → its'.Perm (.ref v :: tl) → Heap' (Kv kd XS vs) its' → Fr h₀ L h' m → News h₀ L h' (T3 G W Pl gs ws its' a b c B) → Q (.ref r) { s with heap := h', toks := tk' }) := by
  intro dp un gd cn cs a' ccd cl outer A₀ base h₀ L m s Q E B' F X N T hk hroom hun hret
  refine heapreplace_spec w p loose mean mg mb Pl its c _ (apP ap) (kap kd XS vs) (sub_pairs S hPB hs) v (S.kp hv fun q hq => .tail _ (.tail _ (hPB q hq))) h1 hfit dp un gd cn cs a' ccd cl outer A₀ base h₀ L m s Q E B' F X (nP N) T hk hroom hun ?_
  intro h' tk' r hr hpr F' N'
  cases its with
  | nil => cases hr
  | cons x tl =>
    obtain rfl : x = .ref r := by simpa using hr
    rw [S.klt] at N'
    obtain ⟨z1, z2⟩ := replace_ok (v := Value.ref v) hH
    exact hret h' tk' r tl _ rfl (fun x hx => heap_least hH rfl hx) z2 z1 F' (nP' N')
theorem r_pushpop (S : Stat kd XS vs us P) (hPB : ∀ q ∈ P, q ∈ B) (ap : Ap G W Pl B) (hs : Sub its vs) (hH : Heap' (Kv kd XS vs) its) (v : Addr) (hv : Value.ref v ∈ vs) (h1 : 0 < its.length) (hfit : its.length < 2 ^ 20) :
    Call1 w p loose mean mg mb 134 (T3 G W Pl gs ws its a b c B) [.ref Pl, .ref v] 3 24
      (fun Q h₀ L m s => ∀ (h' : Heap) (tk' c' : Nat) (r : Addr) (its' : List Value), (.ref r :: its').Perm (.ref v :: its) → (∀ x ∈ .ref r :: its', Kv kd XS vs (.ref r) ≤ Kv kd XS vs x) → Heap' (Kv kd XS vs) its' → Fr h₀ L h' m → News h₀ L h' (T3 G W Pl gs ws its' a b c' B) → Q (.ref r) { s with heap := h', toks := tk' }) := by
  intro dp un gd cn cs a' ccd cl outer A₀ base h₀ L m s Q E B' F X N T hk hroom hun hret
  refine heappushpop_spec w p loose mean mg mb Pl its c _ (apP ap) (kap kd XS vs) (sub_pairs S hPB hs) v (S.kp hv fun q hq => .tail _ (.tail _ (hPB q hq))) h1 hfit dp un gd cn cs a' ccd cl outer A₀ base h₀ L m s Q E B' F X (nP N) T hk hroom hun ?_
  intro h' tk' c' r₀ r ys hr hor hpr F' N'
  cases its with
  | nil => cases hr
  | cons x tl =>
    obtain rfl : x = .ref r₀ := by simpa using hr
    rw [S.klt, S.klt1] at hor
    rcases hor with ⟨hlt, rfl, rfl⟩ | ⟨hlt, rfl, rfl⟩
    · obtain ⟨z1, z2⟩ := replace_ok (v := Value.ref v) hH
      have hlt' := of_decide_eq_true hlt
      have hp : (Value.ref r :: su (klt (Kv kd XS vs)) (Value.ref v) ((Value.ref r :: tl).set 0 (Value.ref v)) 0).Perm (Value.ref v :: Value.ref r :: tl) := (z2.cons _).trans (List.Perm.swap _ _ _)
      refine hret h' tk' c' r _ hp (fun x hx => ?_) z1 F' (nP' N')
      rcases List.mem_cons.mp (hp.mem_iff.mp hx) with rfl | hx
      · exact Int.le_of_lt hlt'
      · exact heap_least hH rfl hx
    · have hlt' := of_decide_eq_false hlt
      refine hret h' tk' c' r _ (List.Perm.refl _) (fun x hx => ?_) hH F' (nP' N')
      rcases List.mem_cons.mp hx with rfl | hx
      · exact Int.le_refl _
      · exact Int.le_trans (Int.not_lt.mp hlt') (heap_least hH rfl hx)
theorem r_push (S : Stat kd XS vs us P) (hPB : ∀ q ∈ P, q ∈ B) (ap : Ap G W Pl B) (hs : Sub its vs) (hH : Heap' (Kv kd XS vs) its) (v : Addr) (hv : Value.ref v ∈ vs) (hfit : its.length < 2 ^ 20 - 1) :
    Call1 w p loose mean mg mb 113 (T3 G W Pl gs ws its a b c B) [.ref Pl, .ref v] 3 24
      (fun Q h₀ L m s => ∀ (h' : Heap) (tk' c' : Nat) (its' : List Value), its'.Perm (.ref v :: its) → Heap' (Kv kd XS vs) its' → Fr h₀ L h' m → News h₀ L h' (T3 G W Pl gs ws its' a b c' B) → Q .none { s with heap := h', toks := tk' }) := by
  intro dp un gd cn cs a' ccd cl outer A₀ base h₀ L m s Q E B' F X N T hk hroom hun hret
  refine heappush_spec w p loose mean mg mb Pl its c _ (apP ap) (kap kd XS vs) (sub_pairs S hPB hs) v (S.kp hv fun q hq => .tail _ (.tail _ (hPB q hq))) hfit dp un gd cn cs a' ccd cl outer A₀ base h₀ L m s Q E B' F X (nP N) T hk hroom hun ?_
  intro h' tk' c' F' N'
  rw [S.klt] at N'
  obtain ⟨z1, z2⟩ := push_ok (v := Value.ref v) hH
  exact hret h' tk' c' _ z2 z1 F' (nP' N')
theorem r_pop (S : Stat kd XS vs us P) (hPB : ∀ q ∈ P, q ∈ B) (ap : Ap G W Pl B) (hs : Sub its vs) (hH : Heap' (Kv kd XS vs) its) (h1 : 0 < its.length) (hfit : its.length < 2 ^ 20 - 1) :
    Call1 w p loose mean mg mb 120 (T3 G W Pl gs ws its a b c B) [.ref Pl] 3 24
      (fun Q h₀ L m s => ∀ (h' : Heap) (tk' c' : Nat) (r : Addr) (its' : List Value), (.ref r :: its').Perm its → (∀ x ∈ .ref r :: its', Kv kd XS vs (.ref r) ≤ Kv kd XS vs x) → Heap' (Kv kd XS vs) its' → Fr h₀ L h' m → News h₀ L h' (T3 G W Pl gs ws its' a b c' B) → Q (.ref r) { s with heap := h', toks := tk' }) := by
  intro dp un gd cn cs a' ccd cl outer A₀ base h₀ L m s Q E B' F X N T hk hroom hun hret
  obtain ⟨xs, v, e⟩ : ∃ xs v, its = xs ++ [v] := ⟨its.dropLast, its.getLast (List.ne_nil_of_length_pos h1), (List.dropLast_concat_getLast _).symm⟩
  subst e
  refine heappop_spec w p loose mean mg mb Pl xs v c _ (apP ap) (kap kd XS vs) (sub_pairs S hPB fun x hx => hs x (by simp [hx])) (S.kp (hs v (by simp)) fun q hq => .tail _ (.tail _ (hPB q hq))) (by simp at hfit; lia) dp un gd cn cs a' ccd cl outer A₀ base h₀ L m s Q E B' F X (nP N) T hk hroom hun ?_
  intro h' tk' c' r ys hor hpr F' N'
  rw [S.klt] at hor
  rcases hor with ⟨rfl, rfl, rfl⟩ | ⟨hr, rfl⟩
  · refine hret h' tk' c' r [] (by simp) (fun x hx => ?_) (fun i h0 hi => by simp at hi) F' (nP' N')
    rw [List.mem_singleton.mp hx]
    exact Int.le_refl _
  · cases xs with
    | nil => cases hr
    | cons x tl =>
      obtain rfl : x = .ref r := by simpa using hr
      obtain ⟨z1, z2⟩ := replace_ok (v := v) (heap_prefix hH)
      have hp : (Value.ref r :: su (klt (Kv kd XS vs)) v ((Value.ref r :: tl).set 0 v) 0).Perm (Value.ref r :: tl ++ [v]) := (z2.cons _).trans ((List.perm_append_singleton _ _).symm.cons _)
      exact hret h' tk' c' r _ hp (fun x hx => heap_least hH (by simp) (hp.mem_iff.mp hx)) z1 F' (nP' N')
end
end Mine
end
section
open PySem PySem.W PyProof.Rows
set_option maxRecDepth 100000
set_option maxHeartbeats 4000000
namespace Mine
/-- the law's own body and scope, taken from the row -/
noncomputable def lawDef : List Stmt × Option Scope := (PySem.Challenge.rw_ij0044_01.row.prog.main.body.findSome? fun s => match s with
  | .FunctionDef name _ body _ _ _ scope _ _ _ => if name = Str.ofString "law" then some (body, some scope) else none
  | _ => none).getD ([], none)
end Mine
end
section
open PySem PySem.W PyProof.Rows PySem.Calls PySem.Spec
set_option maxRecDepth 100000
set_option maxHeartbeats 4000000
namespace Mine
noncomputable def lawScope : Scope := lawDef.2.getD { kind := .function, names := [], isGenerator := false, isCoroutine := false }
noncomputable abbrev lawEnv (L fa : Addr) (cdv : Value) : Env := envX (Str.ofString "law") lawScope L fa cdv [(Str.ofString "writer", L + 1 + 1 + 1), (Str.ofString "texts", L + 1 + 1), (Str.ofString "kind", L + 1)]
/-- gone and wanted, so far -/
noncomputable def Mat (kd : Kd) (XS : List Str) (vs : List Value) (B : List (Addr × Obj)) (gs ws : List Value) : Prop :=
  gs.length = ws.length ∧ ∀ (i : Nat) (g w : Value), gs[i]? = some g → ws[i]? = some w → TwoAt B w (told kd (nth XS (plc vs g)), (plc vs g : Int))
/-- what holds between the turns -/
structure LI (kd : Kd) (XS : List Str) (vs us : List Value) (j : Nat) (its rs gs ws : List Value) (B : List (Addr × Obj)) : Prop where
  hi : Sub its vs
  hr : Sub rs us
  hH : Heap' (Kv kd XS vs) its
  hS : rs.Pairwise (fun x y => Kp kd XS (plc us x) ≤ Kp kd XS (plc us y))
  hp : (its.map (plc vs)).Perm (rs.map (plc us))
  l1 : 7 ≤ its.length
  l2 : its.length ≤ j
  hg : Sub gs vs
  lg : gs.length + 7 ≤ j
  hm : Mat kd XS vs B gs ws
structure Names (m : Str → Option Value) (Pl G W R V1 U1 D2 : Addr) : Prop where
  pile : m (Str.ofString "pile") = some (.ref Pl)
  gone : m (Str.ofString "gone") = some (.ref G)
  wanted : m (Str.ofString "wanted") = some (.ref W)
  row : m (Str.ofString "row") = some (.ref R)
  pairs : m (Str.ofString "pairs") = some (.ref V1)
  told : m (Str.ofString "told") = some (.ref U1)
  cells : m (Str.ofString "cells") = some (.ref D2)
section
variable {kd : Kd} {XS : List Str} {vs us : List Value} {B B' P : List (Addr × Obj)} {gs ws its its' rs rs' tl : List Value} {j : Nat} {g v u : Value}
theorem Mat.nil : Mat kd XS vs B [] [] := ⟨rfl, fun _ _ _ h => by simp at h⟩
theorem Mat.mono (h : Mat kd XS vs B gs ws) (hs : ∀ q ∈ B, q ∈ B') : Mat kd XS vs B' gs ws := ⟨h.1, fun i g w h1 h2 => (h.2 i g w h1 h2).mono hs⟩
theorem Mat.snoc {w : Value} (h : Mat kd XS vs B gs ws) (ht : TwoAt B w (told kd (nth XS (plc vs g)), (plc vs g : Int))) : Mat kd XS vs B (gs ++ [g]) (ws ++ [w]) := by
  refine ⟨by simp [h.1], fun i g' w' h1 h2 => ?_⟩
  by_cases hi : i < gs.length
  · rw [List.getElem?_append_left hi] at h1
    rw [List.getElem?_append_left (by rw [← h.1]; exact hi)] at h2
    exact h.2 i g' w' h1 h2
  · have hl := h.1
    obtain ⟨q, -⟩ := List.getElem?_eq_some_iff.mp h1
    have : i = gs.length := by simp at q; lia
    subst this
    rw [List.getElem?_append_right (Nat.le_refl _), Nat.sub_self] at h1
    rw [hl, List.getElem?_append_right (Nat.le_refl _), Nat.sub_self] at h2
    have e1 : g = g' := by simpa using h1
    have e2 : w = w' := by simpa using h2
    subst e1 e2
    exact ht
theorem Sub.snoc {xs : List Value} (h : Sub xs vs) (hv : v ∈ vs) : Sub (xs ++ [v]) vs := fun x hx => by
  rcases List.mem_append.mp hx with hx | hx
  · exact h x hx
  · rw [List.mem_singleton.mp hx]; exact hv
theorem Sub.perm {xs ys : List Value} (h : Sub xs vs) (hp : ys.Perm xs) : Sub ys vs := fun x hx => h x (hp.mem_iff.mp hx)
theorem Sub.cons {xs : List Value} (h : Sub xs vs) (hv : v ∈ vs) : Sub (v :: xs) vs := fun x hx => by
  rcases List.mem_cons.mp hx with rfl | hx
  · exact hv
  · exact h x hx
theorem Sub.tail {xs : List Value} (h : Sub (v :: xs) vs) : Sub xs vs := fun x hx => h x (.tail _ hx)
theorem Sub.drop {xs : List Value} (h : Sub xs vs) (k : Nat) : Sub (xs.drop k) vs := fun x hx => h x (List.mem_of_mem_drop hx)
theorem Stat.law (S : Stat kd XS vs us P) {c : Value} {xs : List Value} {r : Value} {ys : List Value} (hp : ((c :: xs).map (plc vs)).Perm ((r :: ys).map (plc us)))
    (hc : ∀ x ∈ c :: xs, Kv kd XS vs c ≤ Kv kd XS vs x) (hr : (r :: ys).Pairwise (fun a b => Kp kd XS (plc us a) ≤ Kp kd XS (plc us b))) : plc vs c = plc us r ∧ (xs.map (plc vs)).Perm (ys.map (plc us)) :=
  pop_law (fun _ _ => Kp_inj) (fun a => Nat.lt_of_lt_of_le (S.vlt a) (by decide)) (fun a => Nat.lt_of_lt_of_le (S.ult a) (by decide)) hp hc hr
theorem len_eq (hp : (its.map (plc vs)).Perm (rs.map (plc us))) : its.length = rs.length := by have := hp.length_eq; simpa using this
/-- heapreplace -/
theorem turn2 (S : Stat kd XS vs us P) (hPB : ∀ q ∈ P, q ∈ B') (hBB : ∀ q ∈ B, q ∈ B') (I : LI kd XS vs us j its rs gs ws B) {b r₀ : Value} (e : its = b :: tl) (hl : ∀ x ∈ its, Kv kd XS vs b ≤ Kv kd XS vs x) (hp' : its'.Perm (v :: tl)) (hH' : Heap' (Kv kd XS vs) its')
    (hr0 : rs[0]? = some r₀) (hv : vs[j]? = some v) (hu : us[j]? = some u) (hpv : plc vs v = j) (hpu : plc us u = j) (hrp : rs'.Perm (rs.drop 1 ++ [u])) (hS' : rs'.Pairwise (fun x y => Kp kd XS (plc us x) ≤ Kp kd XS (plc us y))) :
    LI kd XS vs us (j + 1) its' rs' (gs ++ [b]) (ws ++ [r₀]) B' := by
  subst e
  cases rs with
  | nil => cases hr0
  | cons r ys =>
    obtain rfl : r = r₀ := by simpa using hr0
    have hb : b ∈ vs := I.hi b (.head _)
    obtain ⟨e1, e2⟩ := S.law I.hp hl I.hS
    refine ⟨Sub.perm (Sub.cons (Sub.tail I.hi) (List.mem_of_getElem? hv)) hp', Sub.perm (Sub.snoc (Sub.tail I.hr) (List.mem_of_getElem? hu)) hrp, hH', hS', push_law e2 (hpv.trans hpu.symm) hp' hrp, ?_, ?_, Sub.snoc I.hg hb, ?_, (I.hm.mono hBB).snoc ?_⟩
    · have h1 := hp'.length_eq; have h2 := I.l1; simp at h1 h2; lia
    · have h1 := hp'.length_eq; have h2 := I.l2; simp at h1 h2; lia
    · have := I.lg; simp; lia
    · have := S.tp (I.hr r (.head _)) hPB
      unfold tap at this
      rw [e1]
      exact this
/-- heappushpop -/
theorem turn1 (S : Stat kd XS vs us P) (hPB : ∀ q ∈ P, q ∈ B') (hBB : ∀ q ∈ B, q ∈ B') (I : LI kd XS vs us j its rs gs ws B) {b r₀ : Value} (hp' : (b :: its').Perm (v :: its)) (hl : ∀ x ∈ b :: its', Kv kd XS vs b ≤ Kv kd XS vs x) (hH' : Heap' (Kv kd XS vs) its')
    (hv : vs[j]? = some v) (hu : us[j]? = some u) (hpv : plc vs v = j) (hpu : plc us u = j) (hrp : rs'.Perm (rs ++ [u])) (hS' : rs'.Pairwise (fun x y => Kp kd XS (plc us x) ≤ Kp kd XS (plc us y))) (hr0 : rs'[0]? = some r₀) :
    LI kd XS vs us (j + 1) its' (rs'.drop 1) (gs ++ [b]) (ws ++ [r₀]) B' := by
  cases rs' with
  | nil => cases hr0
  | cons r ys =>
    obtain rfl : r = r₀ := by simpa using hr0
    have s1 : Sub (b :: its') vs := Sub.perm (Sub.cons I.hi (List.mem_of_getElem? hv)) hp'
    have s2 : Sub (r :: ys) us := Sub.perm (Sub.snoc I.hr (List.mem_of_getElem? hu)) hrp
    obtain ⟨e1, e2⟩ := S.law (push_law I.hp (hpv.trans hpu.symm) hp' hrp) hl hS'
    refine ⟨Sub.tail s1, Sub.tail s2, hH', hS'.tail, e2, ?_, ?_, Sub.snoc I.hg (s1 b (.head _)), ?_, (I.hm.mono hBB).snoc ?_⟩
    · have h1 := hp'.length_eq; have h2 := I.l1; simp at h1; lia
    · have h1 := hp'.length_eq; have h2 := I.l2; simp at h1; lia
    · have := I.lg; simp; lia
    · have := S.tp (s2 r (.head _)) hPB
      unfold tap at this
      rw [e1]
      exact this
/-- heappush -/
theorem turn0 (_S : Stat kd XS vs us P) (hBB : ∀ q ∈ B, q ∈ B') (I : LI kd XS vs us j its rs gs ws B) (hp' : its'.Perm (v :: its)) (hH' : Heap' (Kv kd XS vs) its')
    (hv : vs[j]? = some v) (hu : us[j]? = some u) (hpv : plc vs v = j) (hpu : plc us u = j) (hrp : rs'.Perm (rs ++ [u])) (hS' : rs'.Pairwise (fun x y => Kp kd XS (plc us x) ≤ Kp kd XS (plc us y))) :
    LI kd XS vs us (j + 1) its' rs' gs ws B' := by
  refine ⟨Sub.perm (Sub.cons I.hi (List.mem_of_getElem? hv)) hp', Sub.perm (Sub.snoc I.hr (List.mem_of_getElem? hu)) hrp, hH', hS', push_law I.hp (hpv.trans hpu.symm) hp' hrp, ?_, ?_, I.hg, ?_, I.hm.mono hBB⟩
  · have h1 := hp'.length_eq; have h2 := I.l1; simp at h1; lia
  · have h1 := hp'.length_eq; have h2 := I.l2; simp at h1; lia
  · have := I.lg; lia
end
section
variable {prog : Program} {w : World} {A : Around} {E : Value → Shared → Prop} {s : Shared} {h₀ : Heap} {L : Addr} {m : Str → Option Value} {news : List (Addr × Obj)}
theorem stX {cl : List (Str × Addr)} {cn : Str} {cs : Scope} {a : Addr} {ccd : Value} {x : Str} {v : Value} {Q : Unit → Shared → Prop} (F : Fr h₀ L s.heap m) (N : News h₀ L s.heap news)
    (h : ∀ h' tk, Fr h₀ L h' (fun y => if y = x then some v else m y) → News h₀ L h' news → Q () { s with heap := h', toks := tk })
    (hk : cs.kind = .function := by rfl) (hx : (envX cn cs L a ccd cl).kindOf x = some .local := by rfl) : wpAny (model prog w) A (storeName (envX cn cs L a ccd cl) x v) Q E s :=
  storeX_L F N (fun h' F' N' => h h' _ F' N') hk hx
theorem range_small {n : Nat} (h7 : 7 ≤ n) (h13 : n ≤ 13) : Builtin.Range.small 7 (n : Int) 1 = true ∧ Builtin.Range.rangeSize 7 (n : Int) 1 = (n : Int) - 7 := by
  have : n = 7 ∨ n = 8 ∨ n = 9 ∨ n = 10 ∨ n = 11 ∨ n = 12 ∨ n = 13 := by lia
  rcases this with rfl | rfl | rfl | rfl | rfl | rfl | rfl <;> decide +kernel
/-- iter of range(7, n) -/
theorem iter_range7 {r : Addr} {n : Nat} {t u v : Tok} {Q : Value → Shared → Prop} (F : Fr h₀ L s.heap m) (N : News h₀ L s.heap news) (hr : IsRange s.heap r 7 (n : Int) 1 t u v) (h7 : 7 ≤ n) (h13 : n ≤ 13)
    (h : ∀ I h', Fr h₀ L h' m → News h₀ L h' ((I, rangeIO 7 ((n : Int) - 7) 1) :: news) → (∀ p ∈ news, p.1 < I) → Q (.ref I) { s with heap := h' }) : wpAny (model prog w) A (pyIter (.ref r)) Q E s := by
  obtain ⟨e1, e2⟩ := range_small h7 h13
  refine wpAny_pyIter_range hr e1 ?_
  rw [e2]
  exact h _ _ (F.push _) (News.push F N _) fun p hp => Heap.lt_size (N p hp).1
end
section
variable {h₀ h : Heap} {L G W Pl I : Addr} {gs ws its : List Value} {a b c : Nat} {B : List (Addr × Obj)} {o : Obj} {x l : Int}
theorem ap_consI (h : Ap G W Pl B) (hI : G ≠ I ∧ W ≠ I ∧ Pl ≠ I) : Ap G W Pl ((I, o) :: B) := by
  refine ⟨h.1, h.2.1, h.2.2.1, fun q hq => ?_⟩
  rcases List.mem_cons.mp hq with rfl | hq
  · exact ⟨Ne.symm hI.1, Ne.symm hI.2.1, Ne.symm hI.2.2⟩
  · exact h.2.2.2 q hq
/-- the iterator goes ahead again -/
theorem drop_I (ds : List (Addr × Obj)) (N : News h₀ L h (T3 G W Pl gs ws its a b c (ds ++ (I, o) :: B))) (hds : ∀ q ∈ ds, q.2.cls ≠ o.cls) (ap : Ap G W Pl (ds ++ (I, o) :: B)) (hI : G ≠ I ∧ W ≠ I ∧ Pl ≠ I) (off : ∀ q ∈ B, q.1 ≠ I) :
    News h₀ L h ((I, o) :: T3 G W Pl gs ws its a b c (ds ++ B)) ∧ Ap G W Pl (ds ++ B) ∧ ∀ q ∈ ds ++ B, q.1 ≠ I := by
  have hsub : ∀ q ∈ ds ++ B, q ∈ ds ++ (I, o) :: B := fun q hq => by
    rcases List.mem_append.mp hq with hq | hq
    · exact List.mem_append.mpr (.inl hq)
    · exact List.mem_append.mpr (.inr (.tail _ hq))
  refine ⟨news_sub N fun q hq => ?_, ap_sub ap hsub, fun q hq => ?_⟩
  · rcases List.mem_cons.mp hq with rfl | hq
    · exact .tail _ (.tail _ (.tail _ (List.mem_append.mpr (.inr (.head _)))))
    rcases List.mem_cons.mp hq with rfl | hq
    · exact .head _
    rcases List.mem_cons.mp hq with rfl | hq
    · exact .tail _ (.head _)
    rcases List.mem_cons.mp hq with rfl | hq
    · exact .tail _ (.tail _ (.head _))
    · exact .tail _ (.tail _ (.tail _ (hsub q hq)))
  · rcases List.mem_append.mp hq with hq | hq
    · intro e
      have z1 := (N q (.tail _ (.tail _ (.tail _ (List.mem_append.mpr (.inl hq)))))).1
      have z2 := (N (I, o) (.tail _ (.tail _ (.tail _ (List.mem_append.mpr (.inr (.head _))))))).1
      rw [e] at z1
      dsimp only at z2
      rw [z1] at z2
      exact hds q hq (congrArg Obj.cls (Option.some.inj z2))
    · exact off q hq
end
end Mine
end
section
open PySem PySem.W PyProof.Rows PySem.Calls PySem.Spec
set_option maxRecDepth 100000
set_option maxHeartbeats 4000000
namespace Mine
section
variable {prog : Program} {w : World} {A : Around} {E : Value → Shared → Prop} {s : Shared} {env : Env} {target : PySem.Expr} {it : Value} {body orelse : List Stmt} {Q : Flow → Shared → Prop}
/-- what a turn of a for over tuples begins with -/
noncomputable def NextIsT (prog : Program) (w : World) (A : Around) (E : Value → Shared → Prop) (env : Env) (target : PySem.Expr) (it : Value) (body orelse : List Stmt) (P : Flow → Shared → Prop) (Q : Flow → Shared → Prop) (r : Option Value) (s : Shared) : Prop := match r with
  | none => wpAny (model prog w) A (execs orelse env) Q E s
  | some v => wpAny (model prog w) A (letOwnedTupleGo target it v) (fun _ s₁ => wpAny (model prog w) A (assign target env v) (fun _ s₂ => wpAny (model prog w) A (execs body env) P E s₂) E s₁) E s
theorem for_indT {S : Type} (I : S → Shared → Prop) (μ : S → Nat) (hE : PassesOwn (model prog w) A env E)
    (turn : ∀ x s, I x s → wpAny (model prog w) A (pyNext it) (NextIsT prog w A E env target it body orelse (FPost I μ x Q) Q) E s)
    (x : S) {s : Shared} (h : I x s) : ForRest prog w A E env target it body orelse Q s := by
  refine codeAny_forLoop_any (fun n s => ∃ x, μ x = n ∧ I x s) ?_ (μ x) ⟨x, rfl, h⟩
  rintro n s ⟨x, rfl, hI⟩
  refine wpAny_mono (turn x s hI) (fun r s₁ hr => ?_) hE
  cases r with
  | none => exact wpAny_mono hr (fun _ _ x => x) hE
  | some v =>
    have hr' : wpAny (model prog w) A (letOwnedTupleGo target it v) (fun _ s₁ => wpAny (model prog w) A (assign target env v) (fun _ s₂ => wpAny (model prog w) A (execs body env) (FPost I μ x Q) E s₂) E s₁) E s₁ := hr
    refine wpAny_mono hr' (fun _ s₂ h₂ => wpAny_mono h₂ (fun _ s₃ h₃ => wpAny_mono h₃ (fun f s₄ hf => ?_) hE) hE) hE
    cases f with
    | next => obtain ⟨y, hy, hJ⟩ := hf; exact ⟨_, hy, y, rfl, hJ⟩
    | cont => obtain ⟨y, hy, hJ⟩ := hf; exact ⟨_, hy, y, rfl, hJ⟩
    | brk => exact hf
    | ret v => exact hf
end
section
variable {prog : Program} {w : World} {A : Around} {E : Value → Shared → Prop} {s : Shared} {h₀ : Heap} {L I l : Addr} {m : Str → Option Value} {news rest : List (Addr × Obj)} {xs : List Value} {n i : Nat} {oI : Obj}
/-- o is an iterator of the list l, at the place i -/
noncomputable def IsLi (l : Addr) (i : Nat) (o : Obj) : Prop := o.cls = .type "list_iterator" ∧ o.data = .fields #[.ref l, .int i 0]
theorem iter_listL {Q : Value → Shared → Prop} (F : Fr h₀ L s.heap m) (N : News h₀ L s.heap news) (hm : (l, listOf xs.toArray n) ∈ news)
    (h : ∀ I oI h', IsLi l 0 oI → Fr h₀ L h' m → News h₀ L h' ((I, oI) :: news) → (∀ p ∈ news, p.1 < I) → Q (.ref I) { s with heap := h' }) : wpAny (model prog w) A (pyIter (.ref l)) Q E s := by
  refine wpAny_pyIter_list (list_in N hm) ?_
  exact h _ _ _ ⟨rfl, rfl⟩ (F.push _) (News.push F N _) fun p hp => Heap.lt_size (N p hp).1
theorem next_listL {v : Value} {Q : Option Value → Shared → Prop} (F : Fr h₀ L s.heap m) (N : News h₀ L s.heap ((I, oI) :: rest)) (hI : IsLi l i oI) (hne : ∀ q ∈ rest, q.1 ≠ I) (hm : (l, listOf xs.toArray n) ∈ rest) (hx : xs[i]? = some v)
    (h : ∀ h' oI', IsLi l (i + 1) oI' → Fr h₀ L h' m → News h₀ L h' ((I, oI') :: rest) → Q (some v) { s with heap := h' }) : wpAny (model prog w) A (pyNext (.ref I)) Q E s := by
  have z := N _ (.head _)
  refine wpAny_pyNext_list_item ⟨oI, z.1, hI⟩ (list_in N (.tail _ hm)) (by simpa using hx) fun h' hit hs => ?_
  obtain ⟨oI', e1, e2⟩ := hit
  refine h h' oI' e2 (F.change hs z.2.1 z.2.2) ?_
  intro p hp
  rcases List.mem_cons.mp hp with rfl | hp
  · exact ⟨e1, z.2⟩
  · exact ⟨(hs.2 _ (hne p hp)).trans (N p (.tail _ hp)).1, (N p (.tail _ hp)).2⟩
theorem next_listL_end {Q : Option Value → Shared → Prop} (hh : A.handled = none) (F : Fr h₀ L s.heap m) (N : News h₀ L s.heap ((I, oI) :: rest)) (hI : IsLi l i oI) (hne : ∀ q ∈ rest, q.1 ≠ I) (hm : (l, listOf xs.toArray n) ∈ rest) (hx : xs[i]? = none)
    (h : ∀ h', Fr h₀ L h' m → News h₀ L h' rest → Q none { s with heap := h' }) : wpAny (model prog w) A (pyNext (.ref I)) Q E s := by
  have z := N _ (.head _)
  refine wpAny_pyNext_list_end hh ⟨oI, z.1, hI⟩ (list_in N (.tail _ hm)) (by simpa using hx) fun h' hs => h h' ⟨F.ns.at' fun o e => hs L o (Ne.symm z.2.1) e, fun b o e => hs b o (fun e' => by have z2 := z.2.2; rw [← e', e] at z2; cases z2) (F.keep b o e), F.above⟩ ?_
  intro p hp
  exact ⟨hs _ _ (hne p hp) (N p (.tail _ hp)).1, (N p (.tail _ hp)).2⟩
theorem let_listL {elts : List PySem.Expr} {x1} {pos : Pos} {T : Addr} {Q : Unit → Shared → Prop} (N : News h₀ L s.heap news) (hm : (I, oI) ∈ news) (hI : IsLi l i oI) (h : Q () s) : wpAny (model prog w) A (letOwnedTupleGo (.Tuple elts x1 pos) (.ref I) (.ref T)) Q E s :=
  wpAny_letOwnedTupleGo_listiter ⟨oI, (N _ hm).1, hI⟩ h
theorem assign_two {cl : List (Str × Addr)} {cn : Str} {cs : Scope} {a T : Addr} {ccd : Value} {x x₂ : Str} {px px₂ tp : Pos} {tk} {j k : Int} {t u : Tok} {n : Nat} {Q : Unit → Shared → Prop} (hh : A.handled = none) (F : Fr h₀ L s.heap m) (N : News h₀ L s.heap news) (hT : (T, twoO j t k u n) ∈ news)
    (hk : cs.kind = .function) (hx : (envX cn cs L a ccd cl).kindOf x = some .local) (hx₂ : (envX cn cs L a ccd cl).kindOf x₂ = some .local)
    (h : ∀ h' tk', Fr h₀ L h' (fun z => if z = x₂ then some (.int k u) else if z = x then some (.int j t) else m z) → News h₀ L h' news → Q () { s with heap := h', toks := tk' }) :
    wpAny (model prog w) A (assign (.Tuple [.Name x px, .Name x₂ px₂] tk tp) (envX cn cs L a ccd cl) (.ref T)) Q E s := by
  have hTup : IsTup s.heap T #[.int j t, .int k u] := ⟨_, (N _ hT).1, rfl, n, rfl⟩
  refine assign_Tuple_tuple hh hTup rfl rfl fun h₁ he₁ => ?_
  have ke : ∀ b o, s.heap.get? b = some o → h₁.get? b = some o := fun b o q => he₁ b o (Nat.ne_of_lt (Heap.lt_size q)) q
  have F₁ : Fr h₀ L h₁ m := F.keeps ke
  have N₁ : News h₀ L h₁ news := fun p hp => ⟨ke _ _ (N p hp).1, (N p hp).2⟩
  refine assignInOrder_cons (wpAny_assign_Name (stX (s := { s with heap := h₁ }) F₁ N₁ (fun h₂ tk₂ F₂ N₂ => ?_) hk hx))
  refine assignInOrder_cons (wpAny_assign_Name (stX (s := { s with heap := h₂, toks := tk₂ }) F₂ N₂ (fun h₃ tk₃ F₃ N₃ => ?_) hk hx₂))
  exact assignInOrder_nil (h h₃ tk₃ F₃ N₃)
end
end Mine
end
section
open PySem PySem.W PyProof.Rows PySem.Calls PySem.Spec
set_option maxRecDepth 100000
set_option maxHeartbeats 4000000
namespace Mine
section
variable {prog : Program} {w : World} {A : Around} {E : Value → Shared → Prop} {s : Shared} {h₀ : Heap} {L : Addr} {m : Str → Option Value} {env : Env}
theorem comp_invP {elt : PySem.Expr} {x x₂ : Str} {scope : Scope} {cl : List (Str × Addr)} {S : List (Addr × Obj) → Prop} {P : Nat → Value → Prop} {Fin : List Value → List (Addr × Obj) → Prop} {n : Nat} {news : List (Addr × Obj)}
    (Inv : Nat → List Value → List (Addr × Obj) → Prop) (h0 : Inv 0 [] news)
    (step : ∀ i ys news, i < n → Inv i ys news → ∀ v, P i v → ∃ (t : Addr) (ot : Obj) (v₁ v₂ : Value) (nt : Nat), v = .ref t ∧ (t, ot) ∈ news ∧ ot.cls = .type "tuple" ∧ ot.data = .seq #[v₁, v₂] nt ∧
      ∀ I oI C oC D m₂ h tk (E' : Value → Shared → Prop), LCg.NsObj oC m₂ → m₂ x = some v₁ → m₂ x₂ = some v₂ → Fr h₀ L h m → News h₀ L h ((I, oI) :: (C, oC) :: (D, LCg.lst ys) :: news) → LCg.Off3 I C D news → ((@Ne Nat I C) ∧ (@Ne Nat I D) ∧ (@Ne Nat C D)) →
      wpAny (model prog w) A (eval elt (compEnvC scope cl C env)) (LCg.CompEnd h₀ L m { s with heap := h, toks := tk } I oI C oC D (LCg.lst ys) S (fun y news' => Inv (i + 1) (ys ++ [y]) news')) E' { s with heap := h, toks := tk })
    (fin : ∀ ys news, Inv n ys news → Fin ys news) : LCp.CompRestP prog w A h₀ L m env elt x x₂ scope cl s S P Fin n 0 [] news := by
  have key : ∀ k i ys news, k + i = n → Inv i ys news → LCp.CompRestP prog w A h₀ L m env elt x x₂ scope cl s S P Fin k i ys news := by
    intro k
    induction k with
    | zero =>
      intro i ys news e hi
      have : i = n := by lia
      subst this
      exact LCp.CompRestP.zero (fin ys news hi)
    | succ k ih =>
      intro i ys news e hi
      refine LCp.CompRestP.succ fun v hP => ?_
      obtain ⟨t, ot, v₁, v₂, nt, e1, e2, e3, e4, go⟩ := step i ys news (by lia) hi v hP
      refine ⟨t, ot, v₁, v₂, nt, e1, e2, e3, e4, fun I oI C oC D m₂ h tk E' hC hm hm₂ F N O ne => ?_⟩
      refine wpAny_mono (go I oI C oC D m₂ h tk E' hC hm hm₂ F N O ne) (fun y s₂ hy => ?_) fun _ _ e => e
      obtain ⟨h', tk', news', rfl, F', N', O', hS', r'⟩ := hy
      exact ⟨h', tk', news', rfl, F', N', O', hS', ih (i + 1) _ _ (by lia) r'⟩
  exact key n 0 [] news (by lia) h0
/-- the tuples of a comprehension over pairs, so far -/
theorem prs_endP {at' : List (Addr × Obj) → Value → Nat → Prop} (mono : ∀ l l' v j, (∀ q ∈ l, q ∈ l') → at' l v j → at' l' v j) {base prs : List (Addr × Obj)} {i : Nat} {ys : List Value} {h' : Heap} {t I C D : Addr} {o oI oC : Obj} {tk' : Nat} {R : Prop} {S : List (Addr × Obj) → Prop}
    (hS : ∀ prs, S (base ++ prs)) (F : Fr h₀ L h' m) (N : News h₀ L h' ((t, o) :: (I, oI) :: (C, oC) :: (D, LCg.lst ys) :: (base ++ prs))) (off : LCg.Off3 I C D (base ++ prs)) (l : I < t ∧ C < t ∧ D < t ∧ R) (hyl : ys.length = i) (h : ∀ j v, ys[j]? = some v → at' prs v j) (hn : at' ((t, o) :: prs) (.ref t) i) :
    LCg.CompEnd h₀ L m s I oI C oC D (LCg.lst ys) S (fun y nw' => PrsInv at' base (i + 1) (ys ++ [y]) nw') (.ref t) { s with heap := h', toks := tk' } := by
  refine ⟨h', tk', base ++ (t, o) :: prs, rfl, F, fun p hp => N p ?_, LCg.Off3.of fun p hp => ?_, hS _, (t, o) :: prs, rfl, by simp [hyl], fun j v hv => ?_⟩
  · simp only [List.mem_cons, List.mem_append] at hp ⊢
    rcases hp with h | h | h | h | h | h
    · exact .inr (.inl h)
    · exact .inr (.inr (.inl h))
    · exact .inr (.inr (.inr (.inl h)))
    · exact .inr (.inr (.inr (.inr (.inl h))))
    · exact .inl h
    · exact .inr (.inr (.inr (.inr (.inr h))))
  · have off' := off.mem
    rcases List.mem_append.mp hp with hp | hp
    · exact off' p (List.mem_append.mpr (.inl hp))
    · rcases List.mem_cons.mp hp with rfl | hp
      · exact ⟨Nat.ne_of_gt l.1, Nat.ne_of_gt l.2.1, Nat.ne_of_gt l.2.2.1⟩
      · exact off' p (List.mem_append.mpr (.inr hp))
  · by_cases hj : j < ys.length
    · rw [List.getElem?_append_left hj] at hv
      exact mono _ _ _ _ (fun q hq => .tail _ hq) (h j v hv)
    · rw [List.getElem?_append_right (by lia)] at hv
      obtain ⟨h1, h2⟩ := List.getElem?_eq_some_iff.mp hv
      simp at h1
      have : j = i := by lia
      subst this
      have : v = .ref t := by rw [← h2]; simp
      rw [this]; exact hn
/-- an item of a list of texts -/
theorem item_txt {value slice : PySem.Expr} {l : Addr} {xs : List Value} {XS : List Str} {n : Nat} {k : Int} {u : Tok} {news : List (Addr × Obj)} {Q : Value → Shared → Prop} (N : News h₀ L s.heap news) (hm : (l, listOf xs.toArray n) ∈ news) (hr : StrsAre xs XS) (h0 : 0 ≤ k) (h1 : k < XS.length) (hf : XS.length < 2 ^ 20)
    (hX : ∀ x ∈ XS, IsText x) (h : ∀ t, IsText (nth XS k.toNat) → Q (.str (nth XS k.toNat) t) s) (hs : subscripted slice false (.ref l) (.int k u) = operate [.ref l, .int k u] (getItem (.ref l) (.int k u)) := by with_unfolding_all rfl) :
    wpAny (model prog w) A (subscriptTail value slice (.ref l) (.int k u)) Q E s := by
  have hl : s.heap.IsList l xs.toArray := PySem.IsL.isList (n := n) (N _ hm).1
  have hlen := strs_len hr
  have hk : k.toNat < xs.length := by lia
  have hx : xs[k.toNat]? = some xs[k.toNat] := List.getElem?_eq_getElem hk
  obtain ⟨x, t, e, hX'⟩ := strs_get hr hx
  rw [e] at hx
  have hfit : k < 2 ^ 63 := by lia
  refine tail_any hl.typeIs slot_list_getitem.lookup (wpAny_getItem_list hl h0 hfit (by simpa using hx) ?_) hs
  have := h t (hX _ (nth_mem (by lia)))
  rw [nth_at hX'] at this
  exact this
theorem wr_ok {kd : Kd} {x : Str} (hx : IsText x) : PyData.strOk (wr kd x) = true := by
  unfold PyData.strOk
  rw [Array.all_eq_true_iff_forall_mem]
  intro c hc
  have := wrl_chars (kd := kd) hx.2 (d := c) (by simpa [wr] using hc)
  exact decide_eq_true (by lia)
theorem pairs_dat {news : List (Addr × Obj)} : ∀ {gs ys : List Value}, gs.length = ys.length → (∀ (j : Nat) (g y : Value), gs[j]? = some g → ys[j]? = some y → ∃ k : Str × Int, PairAt news g k ∧ PairAt news y k ∧ PyData.strOk k.1 = true) →
    ∃ ds, DatAll news gs ds ∧ DatAll news ys ds ∧ ∀ d ∈ ds, kqdOk 8 d = true
  | [], [], _, _ => ⟨[], .nil, .nil, fun _ h => nomatch h⟩
  | [], _ :: _, h, _ => by simp at h
  | _ :: _, [], h, _ => by simp at h
  | g :: gs, y :: ys, hl, h => by
    obtain ⟨ds, d1, d2, d3⟩ := pairs_dat (gs := gs) (ys := ys) (by simpa using hl) fun j g y h1 h2 => h (j + 1) g y (by simpa using h1) (by simpa using h2)
    obtain ⟨k, ⟨b, t, u, n, rfl, hm⟩, ⟨b', t', u', n', rfl, hm'⟩, hk⟩ := h 0 g y rfl rfl
    refine ⟨.tuple [.str k.1, .int k.2] :: ds, .cons (.tuple (vs := [_, _]) hm (.cons (.str _ _) (.cons (.int _ _) .nil))) d1, .cons (.tuple (vs := [_, _]) hm' (.cons (.str _ _) (.cons (.int _ _) .nil))) d2, fun d hd => ?_⟩
    rcases List.mem_cons.mp hd with rfl | hd
    · simp [kqdOk, hk]
    · exact d3 d hd
theorem eq_pairs {G D : Addr} {gs ys : List Value} {a : Nat} {news : List (Addr × Obj)} {Q : Value → Shared → Prop} (N : News h₀ L s.heap news) (ma : (G, listOf gs.toArray a) ∈ news) (mb : (D, LCg.lst ys) ∈ news) (hl : gs.length = ys.length)
    (hg : ∀ (j : Nat) (g y : Value), gs[j]? = some g → ys[j]? = some y → ∃ k : Str × Int, PairAt news g k ∧ PairAt news y k ∧ PyData.strOk k.1 = true) (hu : A.units + 64 < cLine) (h : Q (.bool true) s) : wpAny (model prog w) A (compareOp .Eq (.ref G) (.ref D)) Q E s := by
  obtain ⟨ds, d1, d2, d3⟩ := pairs_dat hl hg
  refine kqd_eq N ma rfl rfl d1 (fun _ h => h) mb rfl rfl d2 (fun _ h => h) d3 d3 hu ?_
  simp only [decide_true]
  exact h
end
end Mine
end
section
local macro_rules | `(tactic| k_mem) => `(tactic| assumption)
section
open PySem PySem.W PyProof.Rows PySem.Calls PySem.Spec
set_option maxRecDepth 100000
set_option maxHeartbeats 8000000
namespace Mine
theorem lines_L3 : True := by
  w_top off
  k_with_none
  k_with "eval Name" => (k_here; (with_reducible show wpAny _ _ (eval (PySem.Expr.Name _ _) (envOf _ _ _ _ _)) _ _ _); k_dflt (refine' ld ?zzk1 ?zzk2 ?_; (case zzk1 => k_asm); (case zzk2 => (repeat (first | assumption | exact if_pos rfl | refine (if_neg (by decide +kernel)).trans ?_))); k_whole))
  k_with "subscriptTail Name Name ref int" => (k_here; k_dflt (refine' item_pair ?zzk1 ?zzk2 ?zzk3 ?zzk4 ?zzk5 ?_ ?zzk6; (case zzk1 => k_asm); (case zzk2 => k_asm); (case zzk3 => lia); (case zzk4 => lia); (case zzk5 => lia); (case zzk6 => with_unfolding_all rfl); k_whole); intro _ _ _)
  k_with "compareOp Lt ref ref" => (k_here; k_dflt (refine' lt_at ?zzk1 ?zzk2 ?zzk3 ?zzk4 ?zzk5 ?_; (case zzk1 => k_asm); (case zzk2 => exact fun _ h => List.Mem.tail _ h); (case zzk3 => k_asm); (case zzk4 => k_asm); (case zzk5 => ktr_units); k_whole))
  k_with "setItem ref int ref" => (k_here; k_dflt (refine' set_at ?zzk1 ?zzk2 ?zzk3 ?zzk4 ?zzk5 ?zzk6 ?_; (case zzk1 => k_asm); (case zzk2 => first | k_asm | exact news_tail (by k_asm)); (case zzk3 => k_asm); (case zzk4 => lia); (case zzk5 => lia); (case zzk6 => lia); k_whole); intro _ _ _; (try k_sweep))
  k_with "exec While Compare cons nil" => refine hold ?_
  k_with "storeName" => (k_here; k_dflt (first | (refine' st_ofI ?zzk1 ?zzk2 ?_; (case zzk1 => k_asm); (case zzk2 => k_asm); k_whole; intro _ _ _ _ _) | (refine' st_ofS ?zzk1 ?zzk2 ?_; (case zzk1 => k_asm); (case zzk2 => k_asm); k_whole; intro _ _ _ _ _) | (refine' st_of ?zzk1 ?zzk2 ?_; (case zzk1 => k_asm); (case zzk2 => k_asm); k_whole; intro _ _ _ _)); (try k_sweep); (try dsimp only))
  k_with "binaryOp RShift int int" => refine rshift_one ?_
  k_with "call builtin:len" => (k_here; (with_reducible show wpAny _ _ (call (Value.builtin "len") [Value.ref _]) _ _ _); k_dflt (refine' len_at ?zzk1 ?zzk2 ?zzk3 ?_; (case zzk1 => k_asm); (case zzk2 => k_mem); (case zzk3 => (try simp only [List.length_append, List.length_singleton, List.length_set]); lia); k_whole); intro _ _; (try dsimp only))
  k_with "subscriptTail Name Constant ref int" => (k_here; k_dflt (refine' item_pair ?zzk1 ?zzk2 ?zzk3 ?zzk4 ?zzk5 ?_ ?zzk6; (case zzk1 => k_asm); (case zzk2 => k_asm); (case zzk3 => lia); (case zzk4 => lia); (case zzk5 => lia); (case zzk6 => with_unfolding_all rfl); k_whole); intro _ _ _)
  k_with "call builtin:list.append" => (k_here; (with_reducible show wpAny _ _ (call (Value.builtin _) [Value.ref _, _]) _ _ _); k_dflt (refine' append_pair ?zzk1 ?zzk2 ?zzk3 ?zzk4 ?_; (case zzk1 => k_asm); (case zzk2 => k_asm); (case zzk3 => k_asm); (case zzk4 => lia); k_whole); intro _ _ _ _; (try k_sweep); (try dsimp only))
  k_with "call builtin:list.pop" => (k_here; (with_reducible show wpAny _ _ (call (Value.builtin _) [Value.ref _]) _ _ _); k_dflt (refine' pop_pair ?zzk1 ?zzk2 ?zzk3 ?zzk4 ?zzk5 ?_; (case zzk1 => k_asm); (case zzk2 => k_asm); (case zzk3 => k_asm); (case zzk4 => (try simp only [List.length_append, List.length_singleton]); lia); (case zzk5 => first | assumption | exact rfl); k_whole); intro _ _ _ _; (try k_sweep); (try dsimp only))
  k_with "truthy ref" => (k_here; k_dflt (refine' truthy_pair ?zzk1 ?zzk2 ?_; (case zzk1 => k_asm); (case zzk2 => lia); k_whole); intro _; (try dsimp only))
  k_with "WhlIf" => (refine' whlIf_split ?_ ?_ <;> (intro hc'; (try dsimp only); (try simp only [decide_eq_true_eq, decide_eq_false_iff_not] at hc'); (try (revert hc'; intro _))))
  k_with "WPost" => (try dsimp only); first | (refine wpost_brk ?_; (try dsimp only)) | (refine wpost_ret ?_; (try dsimp only)) | refine hold ?_
  k_with "call ref" => (k_here; (with_reducible show wpAny _ _ (call (Value.ref 148) _) _ _ _); k_dflt (refine' siftdown_spec _ _ _ _ _ _ _ _ _ _ ?zzhne _ ?hκ _ _ _ _ ?zzhs ?zzhp0 ?zzhpos ?zzhfit _ _ _ _ _ _ _ _ _ _ _ _ _ _ _ _ _ ?zzB ?zzF ?zzX ?zzN ?zzT ?zzhk ?zzhroom ?zzhun ?_; (case zzB => k_asm); (case zzF => k_asm); (case zzX => k_asm); (case zzN => k_asm); (case zzT => k_asm); (case zzhk => first | exact rfl | assumption); (case zzhne => k_asm); (case hκ => first | k_asm | exact pairs_set (by assumption) (by assumption) | exact pairs_app (by assumption) (by assumption)); (case zzhs => lia); (case zzhp0 => (try simp only [List.length_append, List.length_singleton, List.length_set]); lia); (case zzhpos => (try simp only [List.length_append, List.length_singleton, List.length_set]); lia); (case zzhfit => (try simp only [List.length_append, List.length_singleton, List.length_set]); lia); (case zzhroom => ktr_room); (case zzhun => ktr_units); k_whole); intro _ _ _ _ _ _; (try dsimp only))
  k_with "call ref" => (k_here; (with_reducible show wpAny _ _ (call (Value.ref 155) _) _ _ _); k_dflt (refine' siftup_spec _ _ _ _ _ _ _ _ _ _ ?zzhne _ ?hκ _ _ ?zzhp0 ?zzhpos ?zzhfit _ _ _ _ _ _ _ _ _ _ _ _ _ _ _ _ _ ?zzB ?zzF ?zzX ?zzN ?zzT ?zzhk ?zzhroom ?zzhun ?_; (case zzB => k_asm); (case zzF => k_asm); (case zzX => k_asm); (case zzN => k_asm); (case zzT => k_asm); (case zzhk => first | exact rfl | assumption); (case zzhne => k_asm); (case hκ => first | k_asm | exact pairs_set (by assumption) (by assumption) | exact pairs_app (by assumption) (by assumption)); (case zzhp0 => lia); (case zzhpos => (try simp only [List.length_append, List.length_singleton, List.length_set]); lia); (case zzhfit => (try simp only [List.length_append, List.length_singleton, List.length_set]); lia); (case zzhroom => ktr_room); (case zzhun => ktr_units); k_whole); intro _ _ _ _ _ _; (try dsimp only))
  k_with "call builtin:len" => (k_here; (with_reducible show wpAny _ _ (call (Value.builtin "len") [Value.ref _]) _ _ _); k_dflt (refine' len_seven ?zzk1 ?zzk2 ?zzk3 ?_; (case zzk1 => k_asm); (case zzk2 => k_mem); (case zzk3 => assumption); k_whole); intro _ _; (try dsimp only))
  k_with "binaryOp FloorDiv int int" => refine half_seven ?_
  k_with "exec For Name Call cons nil" => (k_here; k_dflt (refine for_start ?_ ?zzhs; (case zzhs => intro _; rfl)))
  k_with "call type:reversed" => (k_here; (with_reducible show wpAny _ _ (call (Value.type _) [Value.ref _]) _ _ _); k_dflt (refine' rev_range3 ?zzF ?zzN ?zzr ?_; (case zzF => k_asm); (case zzN => k_asm); (case zzr => k_asm); k_whole); intro _ _ _ _ _; (try k_sweep))
  k_with "pyIter ref" => (k_here; k_dflt (refine' iter_rangeI ?zzN ?zzm ?_; (case zzN => k_asm); (case zzm => exact List.Mem.head _); k_whole))
  k_with "CompSrc" => refine hold ?_
  k_with "call builtin:str.join" => (k_here; k_dflt (refine' join_at ?zzk1 ?zzk2 ?zzk3 ?_; (case zzk1 => k_asm); (case zzk2 => assumption); (case zzk3 => assumption); k_whole); intro _ _; (try dsimp only))
  k_with "call ref" => (k_here; (with_reducible show wpAny _ _ (call (Value.ref 167) _) _ _ _); k_dflt (refine' double_spec _ _ _ _ _ _ _ _ ?zzhx _ _ _ _ _ _ _ _ _ _ _ _ _ _ _ _ _ _ ?zzB ?zzF ?zzX ?zzN ?zzT ?zzhk ?zzhroom ?zzhun ?_; (case zzB => k_asm); (case zzF => k_asm); (case zzX => k_asm); (case zzN => k_asm); (case zzT => k_asm); (case zzhk => first | exact rfl | assumption); (case zzhx => k_asm); (case zzhroom => ktr_room); (case zzhun => ktr_units); k_whole); intro _ _ _ _; (try k_sweep); (try dsimp only))
  k_with "exec For Name Name cons nil" => (k_here; k_dflt (refine for_start ?_ ?zzhs; (case zzhs => intro _; rfl)))
  k_with "pyIter str" => refine hold ?_
  k_with "binaryOp Add ref ref" => (k_here; (with_reducible show wpAny _ _ (binaryOp _ (Value.ref _) (Value.ref _)) _ _ _); k_dflt (refine' add_at ?zzF ?zzN ?zza ?zzb ?zzz ?_; (case zzF => k_asm); (case zzN => k_asm); (case zza => k_mem); (case zzb => k_mem); (case zzz => (simp only [List.length_append, List.length_cons, List.length_nil]; lia)); k_whole); intro _ _ _ _ l1; (try k_lt l1); (try (revert l1; intro _)); (try k_sweep); (try dsimp only))
  k_with "call builtin:str.join" => (k_here; k_dflt (refine' join_in ?zzk1 ?zzk0 ?zzk2 ?zzk3 ?_; (case zzk1 => k_asm); (case zzk0 => k_mem); (case zzk2 => assumption); (case zzk3 => assumption); k_whole); intro _ _; (try dsimp only))
  k_with "Meet" => ((try dsimp only); first | (refine meet_ret ?_; (try dsimp only)) | refine hold ?_)
  trivial
theorem lines_L31 : True := by
  k_with "storeName" => (k_here; (with_reducible show wpAny _ _ (storeName (envX _ _ _ _ _ _) _ _) _ _ _); k_dflt (refine' stX ?zzk1 ?zzk2 ?_; (case zzk1 => k_asm); (case zzk2 => k_asm); k_whole); intro _ _ _ _; (try k_sweep); (try dsimp only))
  k_with "subscriptTail Name Name ref int" => (k_here; (with_reducible show wpAny _ _ (subscriptTail _ _ (Value.ref _) (Value.int _ _)) _ _ _); k_dflt (refine' item_ref ?zzN ?zzm ?zzr ?zzh0 ?zzh1 ?zzhf ?_ ?zzs; (case zzN => k_asm); (case zzm => k_mem); (case zzr => assumption); (case zzh0 => lia); (case zzh1 => lia); (case zzhf => lia); (case zzs => with_unfolding_all rfl); k_whole); intro _ _)
  k_with "subscriptTail Name Constant ref int" => (k_here; (with_reducible show wpAny _ _ (subscriptTail _ _ (Value.ref _) (Value.int _ _)) _ _ _); k_dflt (refine' item_ref ?zzN ?zzm ?zzr ?zzh0 ?zzh1 ?zzhf ?_ ?zzs; (case zzN => k_asm); (case zzm => k_mem); (case zzr => assumption); (case zzh0 => lia); (case zzh1 => (try simp only [List.length_append, List.length_drop, List.length_cons, List.length_nil] at *); lia); (case zzhf => (try simp only [List.length_append, List.length_drop, List.length_cons, List.length_nil] at *); lia); (case zzs => with_unfolding_all rfl); k_whole); intro _ _)
  k_with "subscriptTail Name BinOp ref int" => (k_here; (with_reducible show wpAny _ _ (subscriptTail _ _ (Value.ref _) (Value.int _ _)) _ _ _); k_dflt (refine' item_int ?zzN ?zzm ?zzr ?zzh0 ?zzh1 ?zzhf ?_ ?zzs; (case zzN => k_asm); (case zzm => k_mem); (case zzr => assumption); (case zzh0 => lia); (case zzh1 => lia); (case zzhf => lia); (case zzs => with_unfolding_all rfl); k_whole); intro _ _)
  k_with "subscriptTail Name Slice ref ref" => (k_here; (with_reducible show wpAny _ _ (subscriptTail _ (PySem.Expr.Slice _ _ none _) (Value.ref _) (Value.ref _)) _ _ _); k_dflt (refine' slice_t3 ?zzF ?zzN ?zzap ?zzl ?zzp ?zzq ?zzz ?_ ?zzs ?zzt; (case zzF => k_asm); (case zzN => k_asm); (case zzap => k_asm); (case zzl => k_mem); (case zzp => kmk_part); (case zzq => kmk_part); (case zzz => (try simp only [List.length_append, List.length_drop, List.length_cons, List.length_nil] at *); lia); (case zzs => with_unfolding_all rfl); (case zzt => kmk_pure); k_whole); intro _ _ _ _ _; (try k_sweep))
  k_with "newList" => (k_here; (with_reducible show wpAny _ _ (newList [_]) _ _ _); k_dflt (refine' list1_t3 ?zzF ?zzN ?zzap ?_; (case zzF => k_asm); (case zzN => k_asm); (case zzap => k_asm); k_whole); intro _ _ _ _ _; (try k_sweep))
  k_with "binaryOp Add ref ref" => (k_here; (with_reducible show wpAny _ _ (binaryOp _ (Value.ref _) (Value.ref _)) _ _ _); k_dflt (refine' add_t3 ?zzF ?zzN ?zzap ?zza ?zzb ?zzz ?_; (case zzF => k_asm); (case zzN => k_asm); (case zzap => k_asm); (case zza => k_mem); (case zzb => k_mem); (case zzz => (simp only [List.length_append, List.length_drop, List.length_cons, List.length_nil]; lia)); k_whole); intro _ _ _ _ _; (try k_sweep))
  k_with "call builtin:sorted" => (k_here; (with_reducible show wpAny _ _ (call (Value.builtin "sorted") [Value.ref _]) _ _ _); k_dflt (refine' sorted_t3 ?zzS ?zzPB ?zzF ?zzN ?zzap ?zzm ?zzh2 ?zzh64 ?zzhs ?_; (case zzS => k_asm); (case zzF => k_asm); (case zzN => k_asm); (case zzap => k_asm); (case zzm => k_mem); (case zzPB => show Inc _ _; repeat (first | assumption | refine Inc.cons ?_)); (case zzh2 => (simp only [List.length_append, List.length_drop, List.length_cons, List.length_nil]; lia)); (case zzh64 => (simp only [List.length_append, List.length_drop, List.length_cons, List.length_nil]; lia)); (case zzhs => first | exact Sub.snoc (Sub.drop (by assumption) 1) (List.mem_of_getElem? (by assumption)) | exact Sub.snoc (by assumption) (List.mem_of_getElem? (by assumption))); k_whole); intro _ _ _ _ _ _ _ _ _ _ _; (try k_sweep))
  k_with "call builtin:list.append" => (k_here; (with_reducible show wpAny _ _ (call (Value.builtin _) [Value.ref _, _]) _ _ _); k_dflt (first | (refine' append_G ?zzF ?zzN ?zzap ?zzhf ?_; (case zzF => k_asm); (case zzN => k_asm); (case zzap => k_asm); (case zzhf => lia); k_whole) | (refine' append_W ?zzF ?zzN ?zzap ?zzhf ?_; (case zzF => k_asm); (case zzN => k_asm); (case zzap => k_asm); (case zzhf => lia); k_whole)); intro _ _ _ _; (try k_sweep); (try dsimp only))
  k_with "call ref" => (k_here; (with_reducible show wpAny _ _ (call (Value.ref 127) _) _ _ _); k_dflt (refine' r_replace _ _ _ _ _ _ ?zzS ?zzPB ?zzap ?zzhs ?zzhH _ ?zzhv ?zzh1 ?zzhfit _ _ _ _ _ _ _ _ _ _ _ _ _ _ _ _ _ ?zzB ?zzF ?zzX ?zzN ?zzT ?zzhk ?zzhroom ?zzhun ?_; (case zzS => k_asm); (case zzB => k_asm); (case zzF => k_asm); (case zzX => k_asm); (case zzN => k_asm); (case zzT => k_asm); (case zzhk => exact rfl); (case zzap => k_asm); (case zzPB => show Inc _ _; repeat (first | assumption | refine Inc.cons ?_)); (case zzhs => k_asm); (case zzhH => k_asm); (case zzhv => exact List.mem_of_getElem? (by assumption)); (case zzh1 => lia); (case zzhfit => lia); (case zzhroom => ktr_room); (case zzhun => ktr_units); k_whole); intro _ _ _ _ _ _ _ _ _ _ _; (try k_sweep); (try dsimp only))
  k_with "call ref" => (k_here; (with_reducible show wpAny _ _ (call (Value.ref 134) _) _ _ _); k_dflt (refine' r_pushpop _ _ _ _ _ _ ?zzS ?zzPB ?zzap ?zzhs ?zzhH _ ?zzhv ?zzh1 ?zzhfit _ _ _ _ _ _ _ _ _ _ _ _ _ _ _ _ _ ?zzB ?zzF ?zzX ?zzN ?zzT ?zzhk ?zzhroom ?zzhun ?_; (case zzS => k_asm); (case zzB => k_asm); (case zzF => k_asm); (case zzX => k_asm); (case zzN => k_asm); (case zzT => k_asm); (case zzhk => exact rfl); (case zzap => k_asm); (case zzPB => show Inc _ _; repeat (first | assumption | refine Inc.cons ?_)); (case zzhs => k_asm); (case zzhH => k_asm); (case zzhv => exact List.mem_of_getElem? (by assumption)); (case zzh1 => lia); (case zzhfit => lia); (case zzhroom => ktr_room); (case zzhun => ktr_units); k_whole); intro _ _ _ _ _ _ _ _ _ _; (try k_sweep); (try dsimp only))
  k_with "call ref" => (k_here; (with_reducible show wpAny _ _ (call (Value.ref 113) _) _ _ _); k_dflt (refine' r_push _ _ _ _ _ _ ?zzS ?zzPB ?zzap ?zzhs ?zzhH _ ?zzhv ?zzhfit _ _ _ _ _ _ _ _ _ _ _ _ _ _ _ _ _ ?zzB ?zzF ?zzX ?zzN ?zzT ?zzhk ?zzhroom ?zzhun ?_; (case zzS => k_asm); (case zzB => k_asm); (case zzF => k_asm); (case zzX => k_asm); (case zzN => k_asm); (case zzT => k_asm); (case zzhk => exact rfl); (case zzap => k_asm); (case zzPB => show Inc _ _; repeat (first | assumption | refine Inc.cons ?_)); (case zzhs => k_asm); (case zzhH => k_asm); (case zzhv => exact List.mem_of_getElem? (by assumption)); (case zzhfit => lia); (case zzhroom => ktr_room); (case zzhun => ktr_units); k_whole); intro _ _ _ _ _ _ _ _; (try k_sweep); (try dsimp only))
  k_with "pyIter ref" => refine hold ?_
  k_with "eval Name" => (k_here; (with_reducible show wpAny _ _ (eval (PySem.Expr.Name _ _) (envX _ _ _ _ _ _)) _ _ _); k_dflt (refine' nameX_L ?zzk1 ?zzk2 ?_ ?zzk3 ?zzk4 ?zzk5; (case zzk3 => exact rfl); (case zzk4 => exact rfl); (case zzk1 => k_asm); (case zzk2 => (repeat (first | assumption | exact if_pos rfl | refine (if_neg (by decide +kernel)).trans ?_))); (case zzk5 => decide); k_whole))
  trivial
/-- between two turns of the main loop -/
inductive TurnJ (kd : Kd) (XS : List Str) (vs us : List Value) (P Bs : List (Addr × Obj)) (G W Pl V1 U1 D2 I' : Addr) (h₀ : Heap) (L : Addr) (s : Shared) (j : Nat) : Shared → Prop where
  | mk (h' : Heap) (tk : Nat) (m' : Str → Option Value) (R' : Addr) (its' rs' gs' ws' : List Value) (a' b' c' nr' : Nat) (B : List (Addr × Obj)) : 7 ≤ j → j ≤ XS.length → Names m' Pl G W R' V1 U1 D2 → Inc Bs B → (R', listOf rs'.toArray nr') ∈ B → Fr h₀ L h' m' → Ap G W Pl B → (∀ q ∈ B, q.1 ≠ I') →
      News h₀ L h' ((I', rangeIO (j : Int) ((XS.length : Int) - j) 1) :: T3 G W Pl gs' ws' its' a' b' c' B) → LI kd XS vs us j its' rs' gs' ws' P → TurnJ kd XS vs us P Bs G W Pl V1 U1 D2 I' h₀ L s j { s with heap := h', toks := tk }
theorem law_for1 (w : World) (p : Program) (loose : List Str) (mean : ExcName → Option Value) (mg mb : Str → Option Value) (h₀ : Heap) (L fa : Addr) (cdv : Value) (m : Str → Option Value) (kd : Kd) (XS : List Str) (ts vs us ys its rs : List Value) (cs : List Int) (P Bs : List (Addr × Obj))
    (G W Pl R T1 D2 U1 V1 : Addr) (oT : Obj) (a b c nr nu nv nt ny : Nat) (s : Shared) (Q : Flow → Shared → Prop) (E : Value → Shared → Prop)
    (hE : PassesOwn (model PySem.Challenge.rw_ij0044_01.row.prog w) (callerA.deeper (lawEnv L fa cdv)) (lawEnv L fa cdv) E)
    (S : Stat kd XS vs us P) (hPB : Inc P Bs) (hys : IntsAre ys cs) (htl : ts.length = XS.length) (hX7 : XS.length = 7 + (cs.length - 1))
    (bU : (U1, listOf us.toArray nu) ∈ Bs) (bV : (V1, listOf vs.toArray nv) ∈ Bs) (bT : (T1, listOf ts.toArray nt) ∈ Bs) (bD : (D2, listOf ys.toArray ny) ∈ Bs) (bX : (L + 1 + 1, oT) ∈ Bs) (bR : (R, listOf rs.toArray nr) ∈ Bs)
    (dT : oT.data = .cell (some (.ref T1)))
    (nm : Names m Pl G W R V1 U1 D2) (ap : Ap G W Pl Bs)
    (F : Fr h₀ L s.heap m) (N : News h₀ L s.heap (T3 G W Pl [] [] its a b c Bs))
    (I : LI kd XS vs us 7 its rs [] [] P)
    (hnext : ∀ (h' : Heap) (tk' : Nat) (m' : Str → Option Value) (R' : Addr) (its' rs' gs' ws' : List Value) (a' b' c' nr' : Nat) (B : List (Addr × Obj)), Names m' Pl G W R' V1 U1 D2 → Inc Bs B → (R', listOf rs'.toArray nr') ∈ B → Fr h₀ L h' m' →
      Ap G W Pl B → News h₀ L h' (T3 G W Pl gs' ws' its' a' b' c' B) → LI kd XS vs us XS.length its' rs' gs' ws' P → Q .next { s with heap := h', toks := tk' }) :
    Below callerA h₀ [] h₀ → (hd.heap_39 w.params).In h₀ → Top p loose mean mg mb h₀ → ∀ st, lawDef.1[10]? = some st → wpAny (model PySem.Challenge.rw_ij0044_01.row.prog w) (callerA.deeper (lawEnv L fa cdv)) (exec st (lawEnv L fa cdv)) Q E s := by
  k_fill
  intro K0 X T st hst
  obtain rfl : _ = st := Option.some.inj hst
  clear hst
  unfold lawEnv at hE ⊢
  generalize hsc : lawScope = sc at hE ⊢
  conv at hsc => lhs; unfold lawScope; whnf
  subst hsc
  have h13 := S.h13
  have h7 := S.h7
  have hvl := S.hv
  have hul := S.hu
  have hyl : ys.length = cs.length := hys.length
  have hRV : Refs vs := S.refs fun _ h => h
  have hRU : Refs us := S.refsU fun _ h => h
  obtain ⟨n1, n2, n3', n4, n5, n6, n7⟩ := nm
  k_steps
  rename_i t1 tk1 h1 tk2 t2 u2 v2 hR F2 N2 keep
  refine unhold ?_
  refine iter_range7 (n := ts.length) F2 N2 hR (by lia) (by lia) fun I' h3 F3 N3 l3 => ?_
  have hI : G ≠ I' ∧ W ≠ I' ∧ Pl ≠ I' := ⟨Nat.ne_of_lt (l3 _ (.head _)), Nat.ne_of_lt (l3 _ (.tail _ (.head _))), Nat.ne_of_lt (l3 _ (.tail _ (.tail _ (.head _))))⟩
  have off0 : ∀ q ∈ Bs, q.1 ≠ I' := fun q hq => Nat.ne_of_lt (l3 _ (.tail _ (.tail _ (.tail _ hq))))
  have NP : News h₀ L h3 P := news_sub N3 fun q hq => .tail _ (.tail _ (.tail _ (.tail _ (hPB q hq))))
  have pV : ∀ j v, vs[j]? = some v → plc vs v = j := fun j v h => plc_pair NP S.pr h
  have pU : ∀ j v, us[j]? = some v → plc us v = j := fun j v h => plc_two NP S.tl h
  refine for_ind (TurnJ kd XS vs us P Bs G W Pl V1 U1 D2 I' h₀ L s) (fun j => XS.length - j) hE ?turn 7 ?h0
  case h0 =>
    rw [htl] at N3
    exact .mk h3 _ m R its rs [] [] a b c nr Bs (Nat.le_refl _) h7 ⟨n1, n2, n3', n4, n5, n6, n7⟩ (fun _ h => h) bR F3 ap off0 N3 I
  case turn =>
    clear n1 n2 n3' n4 n5 n6 n7 F3 N3 F2 N2 l3 NP I ap
    rintro j st ⟨h4, tk4, m4, R4, its, rs, gs, ws, a4, b4, c4, nr4, B, hj7, hjn, nm, hB, mR, F4, ap, off, N4, J⟩
    have hne1 : ∀ q ∈ T3 G W Pl gs ws its a4 b4 c4 B, q.1 ≠ I' := fun q hq => by
      rcases List.mem_cons.mp hq with rfl | hq
      · exact hI.1
      rcases List.mem_cons.mp hq with rfl | hq
      · exact hI.2.1
      rcases List.mem_cons.mp hq with rfl | hq
      · exact hI.2.2
      · exact off q hq
    by_cases hjx : j = XS.length
    · subst hjx
      refine next_range_end rfl F4 N4 hne1 (by lia) fun h5 tk5 F5 N5 => ?_
      unfold NextIs
      dsimp only
      k_steps
      exact hnext _ _ _ _ _ _ _ _ _ _ _ _ _ nm hB mR F5 ap N5 J
    · refine next_range F4 N4 hne1 (by lia) fun h5 t5 tk5 F5 N5 => ?_
      have e1 : (j : Int) + 1 = ((j + 1 : Nat) : Int) := by lia
      have e2 : (XS.length : Int) - j - 1 = (XS.length : Int) - ((j + 1 : Nat) : Int) := by lia
      rw [e1, e2] at N5
      have N6 := n3 N5
      have ap6 := ap_consI (o := rangeIO ((j + 1 : Nat) : Int) ((XS.length : Int) - ((j + 1 : Nat) : Int)) 1) ap hI
      clear e1 e2
      clear N5 N4 F4
      have mU := hB _ bU
      have mV := hB _ bV
      have mD := hB _ bD
      have hPB4 : Inc P B := fun q hq => hB q (hPB q hq)
      have j1 := J.hi
      have j2 := J.hr
      have j3 := J.hH
      have j4 := J.l1
      have j5 := J.l2
      have j6 := J.lg
      have j7 := J.hm.1
      have j8 := len_eq J.hp
      have hRR : Refs rs := S.refsU j2
      obtain ⟨n1, n2, n3', n4, n5, n6, n7⟩ := nm
      unfold NextIs
      dsimp only
      k_steps
      · rename_i b1 hb1 _ _ r tl its' e hl hp hH _ _ b0 hb0 _ _ Da _ _ b2 hb2 Db _ _ Dc _ _ Dd ys' c' _ ap7 hp7 hw7 hr7 hl7 h7' tk7 F7 N7
        rw [Int.toNat_natCast] at hb1 hb2
        obtain ⟨z1, z2, z3⟩ := drop_I [_, _, _, _] N7 (by simp) ap7 hI off
        exact fpost_next (y := j + 1) (by lia) (.mk _ _ _ Dd its' ys' _ _ _ _ _ _ _ (by lia) (by lia) ⟨by (repeat (first | assumption | exact if_pos rfl | refine (if_neg (by decide +kernel)).trans ?_)), by (repeat (first | assumption | exact if_pos rfl | refine (if_neg (by decide +kernel)).trans ?_)), by (repeat (first | assumption | exact if_pos rfl | refine (if_neg (by decide +kernel)).trans ?_)), by (repeat (first | assumption | exact if_pos rfl | refine (if_neg (by decide +kernel)).trans ?_)), by (repeat (first | assumption | exact if_pos rfl | refine (if_neg (by decide +kernel)).trans ?_)), by (repeat (first | assumption | exact if_pos rfl | refine (if_neg (by decide +kernel)).trans ?_)), by (repeat (first | assumption | exact if_pos rfl | refine (if_neg (by decide +kernel)).trans ?_))⟩ (Inc.cons (Inc.cons (Inc.cons (Inc.cons hB)))) (.head _) F7 z2 z3 z1 (turn2 S (fun _ h => h) (fun _ h => h) J e hl hp hH hb0 hb1 hb2 (pV _ _ hb1) (pU _ _ hb2) hp7 hw7))
      · rename_i b1 hb1 _ _ _ r its' hp hl hH _ _ b2 hb2 Da _ _ Db _ _ Dc ys' c' _ _ hp7 hw7 hr7 hl7 _ _ b0 hb0 _ _ Dd _ ap7 h7' tk7 F7 N7
        rw [Int.toNat_natCast] at hb1 hb2
        obtain ⟨z1, z2, z3⟩ := drop_I [_, _, _, _] N7 (by simp) ap7 hI off
        exact fpost_next (y := j + 1) (by lia) (.mk _ _ _ Dd its' _ _ _ _ _ _ _ _ (by lia) (by lia) ⟨by (repeat (first | assumption | exact if_pos rfl | refine (if_neg (by decide +kernel)).trans ?_)), by (repeat (first | assumption | exact if_pos rfl | refine (if_neg (by decide +kernel)).trans ?_)), by (repeat (first | assumption | exact if_pos rfl | refine (if_neg (by decide +kernel)).trans ?_)), by (repeat (first | assumption | exact if_pos rfl | refine (if_neg (by decide +kernel)).trans ?_)), by (repeat (first | assumption | exact if_pos rfl | refine (if_neg (by decide +kernel)).trans ?_)), by (repeat (first | assumption | exact if_pos rfl | refine (if_neg (by decide +kernel)).trans ?_)), by (repeat (first | assumption | exact if_pos rfl | refine (if_neg (by decide +kernel)).trans ?_))⟩ (Inc.cons (Inc.cons (Inc.cons (Inc.cons hB)))) (.head _) F7 z2 z3 z1 (turn1 S (fun _ h => h) (fun _ h => h) J hp hl hH hb1 hb2 (pV _ _ hb1) (pU _ _ hb2) hp7 hw7 hb0))
      · rename_i b1 hb1 _ _ _ its' hp hH b2 hb2 Da _ _ Db _ _ Dc ys' c' _ ap7 hp7 hw7 hr7 hl7 h7' tk7 F7 N7
        rw [Int.toNat_natCast] at hb1 hb2
        obtain ⟨z1, z2, z3⟩ := drop_I [_, _, _] N7 (by simp) ap7 hI off
        exact fpost_next (y := j + 1) (by lia) (.mk _ _ _ Dc its' ys' _ _ _ _ _ _ _ (by lia) (by lia) ⟨by (repeat (first | assumption | exact if_pos rfl | refine (if_neg (by decide +kernel)).trans ?_)), by (repeat (first | assumption | exact if_pos rfl | refine (if_neg (by decide +kernel)).trans ?_)), by (repeat (first | assumption | exact if_pos rfl | refine (if_neg (by decide +kernel)).trans ?_)), by (repeat (first | assumption | exact if_pos rfl | refine (if_neg (by decide +kernel)).trans ?_)), by (repeat (first | assumption | exact if_pos rfl | refine (if_neg (by decide +kernel)).trans ?_)), by (repeat (first | assumption | exact if_pos rfl | refine (if_neg (by decide +kernel)).trans ?_)), by (repeat (first | assumption | exact if_pos rfl | refine (if_neg (by decide +kernel)).trans ?_))⟩ (Inc.cons (Inc.cons (Inc.cons hB))) (.head _) F7 z2 z3 z1 (turn0 S (fun _ h => h) J hp hH hb1 hb2 (pV _ _ hb1) (pU _ _ hb2) hp7 hw7))
end Mine
end
section
open PySem PySem.W PyProof.Rows PySem.Calls PySem.Spec
set_option maxRecDepth 100000
set_option maxHeartbeats 8000000
namespace Mine
theorem lines_L4 : True := by
  w_top off
  k_with_none
  k_with "eval Name" => (k_here; (with_reducible show wpAny _ _ (eval (PySem.Expr.Name _ _) (envOf _ _ _ _ _)) _ _ _); k_dflt (refine' ld ?zzk1 ?zzk2 ?_; (case zzk1 => k_asm); (case zzk2 => (repeat (first | assumption | exact if_pos rfl | refine (if_neg (by decide +kernel)).trans ?_))); k_whole))
  k_with "subscriptTail Name Name ref int" => (k_here; k_dflt (refine' item_pair ?zzk1 ?zzk2 ?zzk3 ?zzk4 ?zzk5 ?_ ?zzk6; (case zzk1 => k_asm); (case zzk2 => k_asm); (case zzk3 => lia); (case zzk4 => lia); (case zzk5 => lia); (case zzk6 => with_unfolding_all rfl); k_whole); intro _ _ _)
  k_with "compareOp Lt ref ref" => (k_here; k_dflt (refine' lt_at ?zzk1 ?zzk2 ?zzk3 ?zzk4 ?zzk5 ?_; (case zzk1 => k_asm); (case zzk2 => exact fun _ h => List.Mem.tail _ h); (case zzk3 => k_asm); (case zzk4 => k_asm); (case zzk5 => ktr_units); k_whole))
  k_with "setItem ref int ref" => (k_here; k_dflt (refine' set_at ?zzk1 ?zzk2 ?zzk3 ?zzk4 ?zzk5 ?zzk6 ?_; (case zzk1 => k_asm); (case zzk2 => first | k_asm | exact news_tail (by k_asm)); (case zzk3 => k_asm); (case zzk4 => lia); (case zzk5 => lia); (case zzk6 => lia); k_whole); intro _ _ _; (try k_sweep))
  k_with "exec While Compare cons nil" => refine hold ?_
  k_with "storeName" => (k_here; k_dflt (first | (refine' st_ofI ?zzk1 ?zzk2 ?_; (case zzk1 => k_asm); (case zzk2 => k_asm); k_whole; intro _ _ _ _ _) | (refine' st_ofS ?zzk1 ?zzk2 ?_; (case zzk1 => k_asm); (case zzk2 => k_asm); k_whole; intro _ _ _ _ _) | (refine' st_of ?zzk1 ?zzk2 ?_; (case zzk1 => k_asm); (case zzk2 => k_asm); k_whole; intro _ _ _ _)); (try k_sweep); (try dsimp only))
  k_with "binaryOp RShift int int" => refine rshift_one ?_
  k_with "call builtin:len" => (k_here; (with_reducible show wpAny _ _ (call (Value.builtin "len") [Value.ref _]) _ _ _); k_dflt (refine' len_at ?zzk1 ?zzk2 ?zzk3 ?_; (case zzk1 => k_asm); (case zzk2 => k_mem); (case zzk3 => (try simp only [List.length_append, List.length_singleton, List.length_set]); lia); k_whole); intro _ _; (try dsimp only))
  k_with "subscriptTail Name Constant ref int" => (k_here; k_dflt (refine' item_pair ?zzk1 ?zzk2 ?zzk3 ?zzk4 ?zzk5 ?_ ?zzk6; (case zzk1 => k_asm); (case zzk2 => k_asm); (case zzk3 => lia); (case zzk4 => lia); (case zzk5 => lia); (case zzk6 => with_unfolding_all rfl); k_whole); intro _ _ _)
  k_with "call builtin:list.append" => (k_here; (with_reducible show wpAny _ _ (call (Value.builtin _) [Value.ref _, _]) _ _ _); k_dflt (refine' append_pair ?zzk1 ?zzk2 ?zzk3 ?zzk4 ?_; (case zzk1 => k_asm); (case zzk2 => k_asm); (case zzk3 => k_asm); (case zzk4 => lia); k_whole); intro _ _ _ _; (try k_sweep); (try dsimp only))
  k_with "call builtin:list.pop" => (k_here; (with_reducible show wpAny _ _ (call (Value.builtin _) [Value.ref _]) _ _ _); k_dflt (refine' pop_pair ?zzk1 ?zzk2 ?zzk3 ?zzk4 ?zzk5 ?_; (case zzk1 => k_asm); (case zzk2 => k_asm); (case zzk3 => k_asm); (case zzk4 => (try simp only [List.length_append, List.length_singleton]); lia); (case zzk5 => first | assumption | exact rfl); k_whole); intro _ _ _ _; (try k_sweep); (try dsimp only))
  k_with "truthy ref" => (k_here; k_dflt (refine' truthy_pair ?zzk1 ?zzk2 ?_; (case zzk1 => k_asm); (case zzk2 => lia); k_whole); intro _; (try dsimp only))
  k_with "WhlIf" => (refine' whlIf_split ?_ ?_ <;> (intro hc'; (try dsimp only); (try simp only [decide_eq_true_eq, decide_eq_false_iff_not] at hc'); (try (revert hc'; intro _))))
  k_with "WPost" => (try dsimp only); first | (refine wpost_brk ?_; (try dsimp only)) | (refine wpost_ret ?_; (try dsimp only)) | refine hold ?_
  k_with "call ref" => (k_here; (with_reducible show wpAny _ _ (call (Value.ref 148) _) _ _ _); k_dflt (refine' siftdown_spec _ _ _ _ _ _ _ _ _ _ ?zzhne _ ?hκ _ _ _ _ ?zzhs ?zzhp0 ?zzhpos ?zzhfit _ _ _ _ _ _ _ _ _ _ _ _ _ _ _ _ _ ?zzB ?zzF ?zzX ?zzN ?zzT ?zzhk ?zzhroom ?zzhun ?_; (case zzB => k_asm); (case zzF => k_asm); (case zzX => k_asm); (case zzN => k_asm); (case zzT => k_asm); (case zzhk => first | exact rfl | assumption); (case zzhne => k_asm); (case hκ => first | k_asm | exact pairs_set (by assumption) (by assumption) | exact pairs_app (by assumption) (by assumption)); (case zzhs => lia); (case zzhp0 => (try simp only [List.length_append, List.length_singleton, List.length_set]); lia); (case zzhpos => (try simp only [List.length_append, List.length_singleton, List.length_set]); lia); (case zzhfit => (try simp only [List.length_append, List.length_singleton, List.length_set]); lia); (case zzhroom => ktr_room); (case zzhun => ktr_units); k_whole); intro _ _ _ _ _ _; (try dsimp only))
  k_with "call ref" => (k_here; (with_reducible show wpAny _ _ (call (Value.ref 155) _) _ _ _); k_dflt (refine' siftup_spec _ _ _ _ _ _ _ _ _ _ ?zzhne _ ?hκ _ _ ?zzhp0 ?zzhpos ?zzhfit _ _ _ _ _ _ _ _ _ _ _ _ _ _ _ _ _ ?zzB ?zzF ?zzX ?zzN ?zzT ?zzhk ?zzhroom ?zzhun ?_; (case zzB => k_asm); (case zzF => k_asm); (case zzX => k_asm); (case zzN => k_asm); (case zzT => k_asm); (case zzhk => first | exact rfl | assumption); (case zzhne => k_asm); (case hκ => first | k_asm | exact pairs_set (by assumption) (by assumption) | exact pairs_app (by assumption) (by assumption)); (case zzhp0 => lia); (case zzhpos => (try simp only [List.length_append, List.length_singleton, List.length_set]); lia); (case zzhfit => (try simp only [List.length_append, List.length_singleton, List.length_set]); lia); (case zzhroom => ktr_room); (case zzhun => ktr_units); k_whole); intro _ _ _ _ _ _; (try dsimp only))
  k_with "call builtin:len" => (k_here; (with_reducible show wpAny _ _ (call (Value.builtin "len") [Value.ref _]) _ _ _); k_dflt (refine' len_seven ?zzk1 ?zzk2 ?zzk3 ?_; (case zzk1 => k_asm); (case zzk2 => k_mem); (case zzk3 => assumption); k_whole); intro _ _; (try dsimp only))
  k_with "binaryOp FloorDiv int int" => refine half_seven ?_
  k_with "exec For Name Call cons nil" => (k_here; k_dflt (refine for_start ?_ ?zzhs; (case zzhs => intro _; rfl)))
  k_with "call type:reversed" => (k_here; (with_reducible show wpAny _ _ (call (Value.type _) [Value.ref _]) _ _ _); k_dflt (refine' rev_range3 ?zzF ?zzN ?zzr ?_; (case zzF => k_asm); (case zzN => k_asm); (case zzr => k_asm); k_whole); intro _ _ _ _ _; (try k_sweep))
  k_with "pyIter ref" => (k_here; k_dflt (refine' iter_rangeI ?zzN ?zzm ?_; (case zzN => k_asm); (case zzm => exact List.Mem.head _); k_whole))
  k_with "CompSrc" => refine hold ?_
  k_with "call builtin:str.join" => (k_here; k_dflt (refine' join_at ?zzk1 ?zzk2 ?zzk3 ?_; (case zzk1 => k_asm); (case zzk2 => assumption); (case zzk3 => assumption); k_whole); intro _ _; (try dsimp only))
  k_with "call ref" => (k_here; (with_reducible show wpAny _ _ (call (Value.ref 167) _) _ _ _); k_dflt (refine' double_spec _ _ _ _ _ _ _ _ ?zzhx _ _ _ _ _ _ _ _ _ _ _ _ _ _ _ _ _ _ ?zzB ?zzF ?zzX ?zzN ?zzT ?zzhk ?zzhroom ?zzhun ?_; (case zzB => k_asm); (case zzF => k_asm); (case zzX => k_asm); (case zzN => k_asm); (case zzT => k_asm); (case zzhk => first | exact rfl | assumption); (case zzhx => k_asm); (case zzhroom => ktr_room); (case zzhun => ktr_units); k_whole); intro _ _ _ _; (try k_sweep); (try dsimp only))
  k_with "exec For Name Name cons nil" => (k_here; k_dflt (refine for_start ?_ ?zzhs; (case zzhs => intro _; rfl)))
  k_with "pyIter str" => refine hold ?_
  k_with "binaryOp Add ref ref" => (k_here; (with_reducible show wpAny _ _ (binaryOp _ (Value.ref _) (Value.ref _)) _ _ _); k_dflt (refine' add_at ?zzF ?zzN ?zza ?zzb ?zzz ?_; (case zzF => k_asm); (case zzN => k_asm); (case zza => k_mem); (case zzb => k_mem); (case zzz => (simp only [List.length_append, List.length_cons, List.length_nil]; lia)); k_whole); intro _ _ _ _ l1; (try k_lt l1); (try (revert l1; intro _)); (try k_sweep); (try dsimp only))
  k_with "call builtin:str.join" => (k_here; k_dflt (refine' join_in ?zzk1 ?zzk0 ?zzk2 ?zzk3 ?_; (case zzk1 => k_asm); (case zzk0 => k_mem); (case zzk2 => assumption); (case zzk3 => assumption); k_whole); intro _ _; (try dsimp only))
  k_with "Meet" => ((try dsimp only); first | (refine meet_ret ?_; (try dsimp only)) | refine hold ?_)
  trivial
theorem lines_L41 : True := by
  k_with "storeName" => (k_here; (with_reducible show wpAny _ _ (storeName (envX _ _ _ _ _ _) _ _) _ _ _); k_dflt (refine' stX ?zzk1 ?zzk2 ?_; (case zzk1 => k_asm); (case zzk2 => k_asm); k_whole); intro _ _ _ _; (try k_sweep); (try dsimp only))
  k_with "subscriptTail Name Name ref int" => (k_here; (with_reducible show wpAny _ _ (subscriptTail _ _ (Value.ref _) (Value.int _ _)) _ _ _); k_dflt (refine' item_ref ?zzN ?zzm ?zzr ?zzh0 ?zzh1 ?zzhf ?_ ?zzs; (case zzN => k_asm); (case zzm => k_mem); (case zzr => assumption); (case zzh0 => lia); (case zzh1 => lia); (case zzhf => lia); (case zzs => with_unfolding_all rfl); k_whole); intro _ _)
  k_with "subscriptTail Name Constant ref int" => (k_here; (with_reducible show wpAny _ _ (subscriptTail _ _ (Value.ref _) (Value.int _ _)) _ _ _); k_dflt (refine' item_ref ?zzN ?zzm ?zzr ?zzh0 ?zzh1 ?zzhf ?_ ?zzs; (case zzN => k_asm); (case zzm => k_mem); (case zzr => assumption); (case zzh0 => lia); (case zzh1 => (try simp only [List.length_append, List.length_drop, List.length_cons, List.length_nil] at *); lia); (case zzhf => (try simp only [List.length_append, List.length_drop, List.length_cons, List.length_nil] at *); lia); (case zzs => with_unfolding_all rfl); k_whole); intro _ _)
  k_with "subscriptTail Name BinOp ref int" => (k_here; (with_reducible show wpAny _ _ (subscriptTail _ _ (Value.ref _) (Value.int _ _)) _ _ _); k_dflt (refine' item_int ?zzN ?zzm ?zzr ?zzh0 ?zzh1 ?zzhf ?_ ?zzs; (case zzN => k_asm); (case zzm => k_mem); (case zzr => assumption); (case zzh0 => lia); (case zzh1 => lia); (case zzhf => lia); (case zzs => with_unfolding_all rfl); k_whole); intro _ _)
  k_with "subscriptTail Name Slice ref ref" => (k_here; (with_reducible show wpAny _ _ (subscriptTail _ (PySem.Expr.Slice _ _ none _) (Value.ref _) (Value.ref _)) _ _ _); k_dflt (refine' slice_t3 ?zzF ?zzN ?zzap ?zzl ?zzp ?zzq ?zzz ?_ ?zzs ?zzt; (case zzF => k_asm); (case zzN => k_asm); (case zzap => k_asm); (case zzl => k_mem); (case zzp => kmk_part); (case zzq => kmk_part); (case zzz => (try simp only [List.length_append, List.length_drop, List.length_cons, List.length_nil] at *); lia); (case zzs => with_unfolding_all rfl); (case zzt => kmk_pure); k_whole); intro _ _ _ _ _; (try k_sweep))
  k_with "newList" => (k_here; (with_reducible show wpAny _ _ (newList [_]) _ _ _); k_dflt (refine' list1_t3 ?zzF ?zzN ?zzap ?_; (case zzF => k_asm); (case zzN => k_asm); (case zzap => k_asm); k_whole); intro _ _ _ _ _; (try k_sweep))
  k_with "binaryOp Add ref ref" => (k_here; (with_reducible show wpAny _ _ (binaryOp _ (Value.ref _) (Value.ref _)) _ _ _); k_dflt (refine' add_t3 ?zzF ?zzN ?zzap ?zza ?zzb ?zzz ?_; (case zzF => k_asm); (case zzN => k_asm); (case zzap => k_asm); (case zza => k_mem); (case zzb => k_mem); (case zzz => (simp only [List.length_append, List.length_drop, List.length_cons, List.length_nil]; lia)); k_whole); intro _ _ _ _ _; (try k_sweep))
  k_with "call builtin:sorted" => (k_here; (with_reducible show wpAny _ _ (call (Value.builtin "sorted") [Value.ref _]) _ _ _); k_dflt (refine' sorted_t3 ?zzS ?zzPB ?zzF ?zzN ?zzap ?zzm ?zzh2 ?zzh64 ?zzhs ?_; (case zzS => k_asm); (case zzF => k_asm); (case zzN => k_asm); (case zzap => k_asm); (case zzm => k_mem); (case zzPB => show Inc _ _; repeat (first | assumption | refine Inc.cons ?_)); (case zzh2 => (simp only [List.length_append, List.length_drop, List.length_cons, List.length_nil]; lia)); (case zzh64 => (simp only [List.length_append, List.length_drop, List.length_cons, List.length_nil]; lia)); (case zzhs => first | exact Sub.snoc (Sub.drop (by assumption) 1) (List.mem_of_getElem? (by assumption)) | exact Sub.snoc (by assumption) (List.mem_of_getElem? (by assumption))); k_whole); intro _ _ _ _ _ _ _ _ _ _ _; (try k_sweep))
  k_with "call builtin:list.append" => (k_here; (with_reducible show wpAny _ _ (call (Value.builtin _) [Value.ref _, _]) _ _ _); k_dflt (first | (refine' append_G ?zzF ?zzN ?zzap ?zzhf ?_; (case zzF => k_asm); (case zzN => k_asm); (case zzap => k_asm); (case zzhf => lia); k_whole) | (refine' append_W ?zzF ?zzN ?zzap ?zzhf ?_; (case zzF => k_asm); (case zzN => k_asm); (case zzap => k_asm); (case zzhf => lia); k_whole)); intro _ _ _ _; (try k_sweep); (try dsimp only))
  k_with "call ref" => (k_here; (with_reducible show wpAny _ _ (call (Value.ref 127) _) _ _ _); k_dflt (refine' r_replace _ _ _ _ _ _ ?zzS ?zzPB ?zzap ?zzhs ?zzhH _ ?zzhv ?zzh1 ?zzhfit _ _ _ _ _ _ _ _ _ _ _ _ _ _ _ _ _ ?zzB ?zzF ?zzX ?zzN ?zzT ?zzhk ?zzhroom ?zzhun ?_; (case zzS => k_asm); (case zzB => k_asm); (case zzF => k_asm); (case zzX => k_asm); (case zzN => k_asm); (case zzT => k_asm); (case zzhk => exact rfl); (case zzap => k_asm); (case zzPB => show Inc _ _; repeat (first | assumption | refine Inc.cons ?_)); (case zzhs => k_asm); (case zzhH => k_asm); (case zzhv => exact List.mem_of_getElem? (by assumption)); (case zzh1 => lia); (case zzhfit => lia); (case zzhroom => ktr_room); (case zzhun => ktr_units); k_whole); intro _ _ _ _ _ _ _ _ _ _ _; (try k_sweep); (try dsimp only))
  k_with "call ref" => (k_here; (with_reducible show wpAny _ _ (call (Value.ref 134) _) _ _ _); k_dflt (refine' r_pushpop _ _ _ _ _ _ ?zzS ?zzPB ?zzap ?zzhs ?zzhH _ ?zzhv ?zzh1 ?zzhfit _ _ _ _ _ _ _ _ _ _ _ _ _ _ _ _ _ ?zzB ?zzF ?zzX ?zzN ?zzT ?zzhk ?zzhroom ?zzhun ?_; (case zzS => k_asm); (case zzB => k_asm); (case zzF => k_asm); (case zzX => k_asm); (case zzN => k_asm); (case zzT => k_asm); (case zzhk => exact rfl); (case zzap => k_asm); (case zzPB => show Inc _ _; repeat (first | assumption | refine Inc.cons ?_)); (case zzhs => k_asm); (case zzhH => k_asm); (case zzhv => exact List.mem_of_getElem? (by assumption)); (case zzh1 => lia); (case zzhfit => lia); (case zzhroom => ktr_room); (case zzhun => ktr_units); k_whole); intro _ _ _ _ _ _ _ _ _ _; (try k_sweep); (try dsimp only))
  k_with "call ref" => (k_here; (with_reducible show wpAny _ _ (call (Value.ref 113) _) _ _ _); k_dflt (refine' r_push _ _ _ _ _ _ ?zzS ?zzPB ?zzap ?zzhs ?zzhH _ ?zzhv ?zzhfit _ _ _ _ _ _ _ _ _ _ _ _ _ _ _ _ _ ?zzB ?zzF ?zzX ?zzN ?zzT ?zzhk ?zzhroom ?zzhun ?_; (case zzS => k_asm); (case zzB => k_asm); (case zzF => k_asm); (case zzX => k_asm); (case zzN => k_asm); (case zzT => k_asm); (case zzhk => exact rfl); (case zzap => k_asm); (case zzPB => show Inc _ _; repeat (first | assumption | refine Inc.cons ?_)); (case zzhs => k_asm); (case zzhH => k_asm); (case zzhv => exact List.mem_of_getElem? (by assumption)); (case zzhfit => lia); (case zzhroom => ktr_room); (case zzhun => ktr_units); k_whole); intro _ _ _ _ _ _ _ _; (try k_sweep); (try dsimp only))
  k_with "pyIter ref" => refine hold ?_
  k_with "eval Name" => (k_here; (with_reducible show wpAny _ _ (eval (PySem.Expr.Name _ _) (envX _ _ _ _ _ _)) _ _ _); k_dflt (refine' nameX_L ?zzk1 ?zzk2 ?_ ?zzk3 ?zzk4 ?zzk5; (case zzk3 => exact rfl); (case zzk4 => exact rfl); (case zzk1 => k_asm); (case zzk2 => (repeat (first | assumption | exact if_pos rfl | refine (if_neg (by decide +kernel)).trans ?_))); (case zzk5 => decide); k_whole))
  trivial
theorem lines_L42 : True := by
  k_with "exec For Tuple Name cons nil" => (k_here; k_dflt (refine for_start ?_ ?zzhs; (case zzhs => intro _; rfl)))
  k_with "call ref" => (k_here; (with_reducible show wpAny _ _ (call (Value.ref 120) _) _ _ _); k_dflt (refine' r_pop _ _ _ _ _ _ ?zzS ?zzPB ?zzap ?zzhs ?zzhH ?zzh1 ?zzhfit _ _ _ _ _ _ _ _ _ _ _ _ _ _ _ _ _ ?zzB ?zzF ?zzX ?zzN ?zzT ?zzhk ?zzhroom ?zzhun ?_; (case zzS => k_asm); (case zzB => k_asm); (case zzF => k_asm); (case zzX => k_asm); (case zzN => k_asm); (case zzT => k_asm); (case zzhk => exact rfl); (case zzap => k_asm); (case zzPB => show Inc _ _; repeat (first | assumption | refine Inc.cons ?_)); (case zzhs => k_asm); (case zzhH => k_asm); (case zzh1 => lia); (case zzhfit => lia); (case zzhroom => ktr_room); (case zzhun => ktr_units); k_whole); intro _ _ _ _ _ _ _ _ _ _; (try k_sweep); (try dsimp only))
  k_with "newTuple" => (k_here; (with_reducible show wpAny _ _ (newTuple [_, _]) _ _ _); k_dflt (refine' tup2_t3 ?zzF ?zzN ?zzap ?_; (case zzF => k_asm); (case zzN => k_asm); (case zzap => k_asm); k_whole); intro _ _ _ _ _; (try k_sweep))
  trivial
/-- what holds between the turns of the second loop -/
structure LJ (kd : Kd) (XS : List Str) (vs us rs : List Value) (i : Nat) (its gs ws : List Value) (B : List (Addr × Obj)) : Prop where
  hi : Sub its vs
  hH : Heap' (Kv kd XS vs) its
  hp : (its.map (plc vs)).Perm ((rs.drop i).map (plc us))
  hg : Sub gs vs
  lg : gs.length ≤ 6 + i
  hm : Mat kd XS vs B gs ws
/-- between two turns of the second loop -/
inductive TurnI (kd : Kd) (XS : List Str) (vs us rs : List Value) (Bs : List (Addr × Obj)) (G W Pl R I' : Addr) (h₀ : Heap) (L : Addr) (s : Shared) (i : Nat) : Shared → Prop where
  | mk (h' : Heap) (tk : Nat) (m' : Str → Option Value) (its' gs' ws' : List Value) (a' b' c' : Nat) (oI : Obj) (B : List (Addr × Obj)) : i ≤ rs.length → m' (Str.ofString "pile") = some (.ref Pl) → m' (Str.ofString "gone") = some (.ref G) → m' (Str.ofString "wanted") = some (.ref W) → Inc Bs B → Fr h₀ L h' m' → Ap G W Pl B → (∀ q ∈ B, q.1 ≠ I') → IsLi R i oI →
      News h₀ L h' ((I', oI) :: T3 G W Pl gs' ws' its' a' b' c' B) → LJ kd XS vs us rs i its' gs' ws' B → TurnI kd XS vs us rs Bs G W Pl R I' h₀ L s i { s with heap := h', toks := tk }
theorem law_for2 (w : World) (p : Program) (loose : List Str) (mean : ExcName → Option Value) (mg mb : Str → Option Value) (h₀ : Heap) (L fa : Addr) (cdv : Value) (m : Str → Option Value) (kd : Kd) (XS : List Str) (vs us its rs gs ws : List Value) (P Bs : List (Addr × Obj))
    (G W Pl R : Addr) (a b c nr : Nat) (s : Shared) (Q : Flow → Shared → Prop) (E : Value → Shared → Prop)
    (hE : PassesOwn (model PySem.Challenge.rw_ij0044_01.row.prog w) (callerA.deeper (lawEnv L fa cdv)) (lawEnv L fa cdv) E)
    (S : Stat kd XS vs us P) (hPB : Inc P Bs) (bR : (R, listOf rs.toArray nr) ∈ Bs)
    (m1 : m (Str.ofString "pile") = some (.ref Pl)) (m2 : m (Str.ofString "gone") = some (.ref G)) (m3 : m (Str.ofString "wanted") = some (.ref W)) (m4 : m (Str.ofString "row") = some (.ref R)) (ap : Ap G W Pl Bs)
    (F : Fr h₀ L s.heap m) (N : News h₀ L s.heap (T3 G W Pl gs ws its a b c Bs))
    (I : LI kd XS vs us XS.length its rs gs ws P)
    (hnext : ∀ (h' : Heap) (tk' : Nat) (m' : Str → Option Value) (gs' ws' : List Value) (a' b' c' : Nat) (B : List (Addr × Obj)), m' (Str.ofString "pile") = some (.ref Pl) → m' (Str.ofString "gone") = some (.ref G) → m' (Str.ofString "wanted") = some (.ref W) → Inc Bs B → Fr h₀ L h' m' →
      Ap G W Pl B → News h₀ L h' (T3 G W Pl gs' ws' [] a' b' c' B) → Sub gs' vs → gs'.length ≤ 20 → Mat kd XS vs B gs' ws' → Q .next { s with heap := h', toks := tk' }) :
    Below callerA h₀ [] h₀ → (hd.heap_39 w.params).In h₀ → Top p loose mean mg mb h₀ → ∀ st, lawDef.1[11]? = some st → wpAny (model PySem.Challenge.rw_ij0044_01.row.prog w) (callerA.deeper (lawEnv L fa cdv)) (exec st (lawEnv L fa cdv)) Q E s := by
  k_fill
  intro K0 X T st hst
  obtain rfl : _ = st := Option.some.inj hst
  clear hst
  unfold lawEnv at hE ⊢
  generalize hsc : lawScope = sc at hE ⊢
  conv at hsc => lhs; unfold lawScope; whnf
  subst hsc
  have h13 := S.h13
  have hrl : rs.length ≤ 13 := by have := len_eq I.hp; have := I.l2; lia
  k_steps
  refine unhold ?_
  refine iter_listL F N (.tail _ (.tail _ (.tail _ bR))) fun I' oI h3 hI0 F3 N3 l3 => ?_
  have hI : G ≠ I' ∧ W ≠ I' ∧ Pl ≠ I' := ⟨Nat.ne_of_lt (l3 _ (.head _)), Nat.ne_of_lt (l3 _ (.tail _ (.head _))), Nat.ne_of_lt (l3 _ (.tail _ (.tail _ (.head _))))⟩
  have off0 : ∀ q ∈ Bs, q.1 ≠ I' := fun q hq => Nat.ne_of_lt (l3 _ (.tail _ (.tail _ (.tail _ hq))))
  have hru : Sub rs us := I.hr
  have hS := I.hS
  refine for_indT (TurnI kd XS vs us rs Bs G W Pl R I' h₀ L s) (fun i => rs.length - i) hE ?turn 0 ?h0
  case h0 =>
    exact .mk h3 _ m its gs ws a b c oI Bs (Nat.zero_le _) m1 m2 m3 (fun _ h => h) F3 ap off0 hI0 N3 ⟨I.hi, I.hH, I.hp, I.hg, by have := I.lg; lia, I.hm.mono hPB⟩
  case turn =>
    clear m1 m2 m3 m4 F3 N3 F N l3 I ap hI0 oI
    rintro i st ⟨h4, tk4, m4, its, gs, ws, a4, b4, c4, oI, B, hi, m1, m2, m3, hB, F4, ap, off, hI0, N4, J⟩
    have hne1 : ∀ q ∈ T3 G W Pl gs ws its a4 b4 c4 B, q.1 ≠ I' := fun q hq => by
      rcases List.mem_cons.mp hq with rfl | hq
      · exact hI.1
      rcases List.mem_cons.mp hq with rfl | hq
      · exact hI.2.1
      rcases List.mem_cons.mp hq with rfl | hq
      · exact hI.2.2
      · exact off q hq
    by_cases hix : i = rs.length
    · subst hix
      refine next_listL_end rfl F4 N4 hI0 hne1 (.tail _ (.tail _ (.tail _ (hB _ bR)))) (List.getElem?_eq_none (Nat.le_refl _)) fun h5 F5 N5 => ?_
      unfold NextIsT
      dsimp only
      have hits : its = [] := by
        have := J.hp
        rw [List.drop_length] at this
        simpa using this
      subst hits
      have j6 := J.lg
      k_steps
      exact hnext _ _ _ _ _ _ _ _ _ m1 m2 m3 hB F5 ap N5 J.hg (by lia) J.hm
    · have hlt : i < rs.length := by lia
      obtain ⟨r, hr⟩ : ∃ r, rs[i]? = some r := ⟨_, List.getElem?_eq_getElem hlt⟩
      refine next_listL F4 N4 hI0 hne1 (.tail _ (.tail _ (.tail _ (hB _ bR)))) hr fun h5 oI5 hI5 F5 N5 => ?_
      have hdrop : rs.drop i = r :: rs.drop (i + 1) := by
        rw [List.drop_eq_getElem_cons hlt]
        congr 1
        exact Option.some.inj ((List.getElem?_eq_getElem hlt).symm.trans hr)
      have hrt := S.tp (hru r (List.mem_of_getElem? hr)) (B := B) fun q hq => hB q (hPB q hq)
      obtain ⟨Ta, tt, tu, tn, rfl, hTm⟩ := id hrt
      unfold NextIsT
      dsimp only
      refine let_listL N5 (.head _) hI5 ?_
      refine assign_two (s := { s with heap := h5, toks := tk4 }) rfl F5 N5 (.tail _ (.tail _ (.tail _ (.tail _ hTm)))) rfl rfl rfl fun h6 tk6 F6 N6 => ?_
      have N7 := n3 N6
      have ap7 := ap_consI (o := oI5) ap hI
      clear N6 N5 N4 F4 F5
      have hPB4 : Inc P B := fun q hq => hB q (hPB q hq)
      have j1 := J.hi
      have j3 := J.hH
      have j6 := J.lg
      have j7 := J.hm.1
      have j8 : its.length = rs.length - i := by have := J.hp.length_eq; simpa using this
      dsimp only
      k_steps
      rename_i r b' hp hl hH _ _ D _ _ _ _ F8 N8
      have ap8 : Ap G W Pl ((D, { cls := .type "tuple", data := .seq #[Value.int (tap kd XS us (Value.ref Ta)).1 tt, Value.int (tap kd XS us (Value.ref Ta)).2 tu] }) :: (I', oI5) :: B) := by assumption
      obtain ⟨z1, z2, z3⟩ := drop_I [_] N8 (by rw [hI5.1]; simp) ap8 hI off
      have hpp := J.hp
      rw [hdrop] at hpp
      have hss : (Value.ref Ta :: rs.drop (i + 1)).Pairwise (fun x y => Kp kd XS (plc us x) ≤ Kp kd XS (plc us y)) := by rw [← hdrop]; exact hS.sublist (List.drop_sublist _ _)
      obtain ⟨e1, e2⟩ := S.law ((hp.map _).trans hpp) hl hss
      have sv : Sub (Value.ref r :: b') vs := Sub.perm j1 hp
      refine fpost_next (y := i + 1) (by lia) (.mk _ _ _ b' _ _ _ _ _ oI5 _ (by lia) (by (repeat (first | assumption | exact if_pos rfl | refine (if_neg (by decide +kernel)).trans ?_))) (by (repeat (first | assumption | exact if_pos rfl | refine (if_neg (by decide +kernel)).trans ?_))) (by (repeat (first | assumption | exact if_pos rfl | refine (if_neg (by decide +kernel)).trans ?_))) (Inc.cons hB) F8 z2 z3 hI5 z1 ⟨Sub.tail sv, hH, e2, Sub.snoc J.hg (sv _ (.head _)), by simp; lia, (J.hm.mono fun q hq => .tail _ hq).snoc ?_⟩)
      rw [e1]
      exact ⟨D, tt, tu, 0, rfl, .head _⟩
end Mine
end
section
open PySem PySem.W PyProof.Rows PySem.Calls PySem.Spec
set_option maxRecDepth 100000
set_option maxHeartbeats 8000000
namespace Mine
theorem lines_L5 : True := by
  w_top off
  k_with_none
  k_with "eval Name" => (k_here; (with_reducible show wpAny _ _ (eval (PySem.Expr.Name _ _) (envOf _ _ _ _ _)) _ _ _); k_dflt (refine' ld ?zzk1 ?zzk2 ?_; (case zzk1 => k_asm); (case zzk2 => (repeat (first | assumption | exact if_pos rfl | refine (if_neg (by decide +kernel)).trans ?_))); k_whole))
  k_with "subscriptTail Name Name ref int" => (k_here; k_dflt (refine' item_pair ?zzk1 ?zzk2 ?zzk3 ?zzk4 ?zzk5 ?_ ?zzk6; (case zzk1 => k_asm); (case zzk2 => k_asm); (case zzk3 => lia); (case zzk4 => lia); (case zzk5 => lia); (case zzk6 => with_unfolding_all rfl); k_whole); intro _ _ _)
  k_with "compareOp Lt ref ref" => (k_here; k_dflt (refine' lt_at ?zzk1 ?zzk2 ?zzk3 ?zzk4 ?zzk5 ?_; (case zzk1 => k_asm); (case zzk2 => exact fun _ h => List.Mem.tail _ h); (case zzk3 => k_asm); (case zzk4 => k_asm); (case zzk5 => ktr_units); k_whole))
  k_with "setItem ref int ref" => (k_here; k_dflt (refine' set_at ?zzk1 ?zzk2 ?zzk3 ?zzk4 ?zzk5 ?zzk6 ?_; (case zzk1 => k_asm); (case zzk2 => first | k_asm | exact news_tail (by k_asm)); (case zzk3 => k_asm); (case zzk4 => lia); (case zzk5 => lia); (case zzk6 => lia); k_whole); intro _ _ _; (try k_sweep))
  k_with "exec While Compare cons nil" => refine hold ?_
  k_with "storeName" => (k_here; k_dflt (first | (refine' st_ofI ?zzk1 ?zzk2 ?_; (case zzk1 => k_asm); (case zzk2 => k_asm); k_whole; intro _ _ _ _ _) | (refine' st_ofS ?zzk1 ?zzk2 ?_; (case zzk1 => k_asm); (case zzk2 => k_asm); k_whole; intro _ _ _ _ _) | (refine' st_of ?zzk1 ?zzk2 ?_; (case zzk1 => k_asm); (case zzk2 => k_asm); k_whole; intro _ _ _ _)); (try k_sweep); (try dsimp only))
  k_with "binaryOp RShift int int" => refine rshift_one ?_
  k_with "call builtin:len" => (k_here; (with_reducible show wpAny _ _ (call (Value.builtin "len") [Value.ref _]) _ _ _); k_dflt (refine' len_at ?zzk1 ?zzk2 ?zzk3 ?_; (case zzk1 => k_asm); (case zzk2 => k_mem); (case zzk3 => (try simp only [List.length_append, List.length_singleton, List.length_set]); lia); k_whole); intro _ _; (try dsimp only))
  k_with "subscriptTail Name Constant ref int" => (k_here; k_dflt (refine' item_pair ?zzk1 ?zzk2 ?zzk3 ?zzk4 ?zzk5 ?_ ?zzk6; (case zzk1 => k_asm); (case zzk2 => k_asm); (case zzk3 => lia); (case zzk4 => lia); (case zzk5 => lia); (case zzk6 => with_unfolding_all rfl); k_whole); intro _ _ _)
  k_with "call builtin:list.append" => (k_here; (with_reducible show wpAny _ _ (call (Value.builtin _) [Value.ref _, _]) _ _ _); k_dflt (refine' append_pair ?zzk1 ?zzk2 ?zzk3 ?zzk4 ?_; (case zzk1 => k_asm); (case zzk2 => k_asm); (case zzk3 => k_asm); (case zzk4 => lia); k_whole); intro _ _ _ _; (try k_sweep); (try dsimp only))
  k_with "call builtin:list.pop" => (k_here; (with_reducible show wpAny _ _ (call (Value.builtin _) [Value.ref _]) _ _ _); k_dflt (refine' pop_pair ?zzk1 ?zzk2 ?zzk3 ?zzk4 ?zzk5 ?_; (case zzk1 => k_asm); (case zzk2 => k_asm); (case zzk3 => k_asm); (case zzk4 => (try simp only [List.length_append, List.length_singleton]); lia); (case zzk5 => first | assumption | exact rfl); k_whole); intro _ _ _ _; (try k_sweep); (try dsimp only))
  k_with "truthy ref" => (k_here; k_dflt (refine' truthy_pair ?zzk1 ?zzk2 ?_; (case zzk1 => k_asm); (case zzk2 => lia); k_whole); intro _; (try dsimp only))
  k_with "WhlIf" => (refine' whlIf_split ?_ ?_ <;> (intro hc'; (try dsimp only); (try simp only [decide_eq_true_eq, decide_eq_false_iff_not] at hc'); (try (revert hc'; intro _))))
  k_with "WPost" => (try dsimp only); first | (refine wpost_brk ?_; (try dsimp only)) | (refine wpost_ret ?_; (try dsimp only)) | refine hold ?_
  k_with "call ref" => (k_here; (with_reducible show wpAny _ _ (call (Value.ref 148) _) _ _ _); k_dflt (refine' siftdown_spec _ _ _ _ _ _ _ _ _ _ ?zzhne _ ?hκ _ _ _ _ ?zzhs ?zzhp0 ?zzhpos ?zzhfit _ _ _ _ _ _ _ _ _ _ _ _ _ _ _ _ _ ?zzB ?zzF ?zzX ?zzN ?zzT ?zzhk ?zzhroom ?zzhun ?_; (case zzB => k_asm); (case zzF => k_asm); (case zzX => k_asm); (case zzN => k_asm); (case zzT => k_asm); (case zzhk => first | exact rfl | assumption); (case zzhne => k_asm); (case hκ => first | k_asm | exact pairs_set (by assumption) (by assumption) | exact pairs_app (by assumption) (by assumption)); (case zzhs => lia); (case zzhp0 => (try simp only [List.length_append, List.length_singleton, List.length_set]); lia); (case zzhpos => (try simp only [List.length_append, List.length_singleton, List.length_set]); lia); (case zzhfit => (try simp only [List.length_append, List.length_singleton, List.length_set]); lia); (case zzhroom => ktr_room); (case zzhun => ktr_units); k_whole); intro _ _ _ _ _ _; (try dsimp only))
  k_with "call ref" => (k_here; (with_reducible show wpAny _ _ (call (Value.ref 155) _) _ _ _); k_dflt (refine' siftup_spec _ _ _ _ _ _ _ _ _ _ ?zzhne _ ?hκ _ _ ?zzhp0 ?zzhpos ?zzhfit _ _ _ _ _ _ _ _ _ _ _ _ _ _ _ _ _ ?zzB ?zzF ?zzX ?zzN ?zzT ?zzhk ?zzhroom ?zzhun ?_; (case zzB => k_asm); (case zzF => k_asm); (case zzX => k_asm); (case zzN => k_asm); (case zzT => k_asm); (case zzhk => first | exact rfl | assumption); (case zzhne => k_asm); (case hκ => first | k_asm | exact pairs_set (by assumption) (by assumption) | exact pairs_app (by assumption) (by assumption)); (case zzhp0 => lia); (case zzhpos => (try simp only [List.length_append, List.length_singleton, List.length_set]); lia); (case zzhfit => (try simp only [List.length_append, List.length_singleton, List.length_set]); lia); (case zzhroom => ktr_room); (case zzhun => ktr_units); k_whole); intro _ _ _ _ _ _; (try dsimp only))
  k_with "call builtin:len" => (k_here; (with_reducible show wpAny _ _ (call (Value.builtin "len") [Value.ref _]) _ _ _); k_dflt (refine' len_seven ?zzk1 ?zzk2 ?zzk3 ?_; (case zzk1 => k_asm); (case zzk2 => k_mem); (case zzk3 => assumption); k_whole); intro _ _; (try dsimp only))
  k_with "binaryOp FloorDiv int int" => refine half_seven ?_
  k_with "exec For Name Call cons nil" => (k_here; k_dflt (refine for_start ?_ ?zzhs; (case zzhs => intro _; rfl)))
  k_with "call type:reversed" => (k_here; (with_reducible show wpAny _ _ (call (Value.type _) [Value.ref _]) _ _ _); k_dflt (refine' rev_range3 ?zzF ?zzN ?zzr ?_; (case zzF => k_asm); (case zzN => k_asm); (case zzr => k_asm); k_whole); intro _ _ _ _ _; (try k_sweep))
  k_with "pyIter ref" => (k_here; k_dflt (refine' iter_rangeI ?zzN ?zzm ?_; (case zzN => k_asm); (case zzm => exact List.Mem.head _); k_whole))
  k_with "CompSrc" => refine hold ?_
  k_with "call builtin:str.join" => (k_here; k_dflt (refine' join_at ?zzk1 ?zzk2 ?zzk3 ?_; (case zzk1 => k_asm); (case zzk2 => assumption); (case zzk3 => assumption); k_whole); intro _ _; (try dsimp only))
  k_with "call ref" => (k_here; (with_reducible show wpAny _ _ (call (Value.ref 167) _) _ _ _); k_dflt (refine' double_spec _ _ _ _ _ _ _ _ ?zzhx _ _ _ _ _ _ _ _ _ _ _ _ _ _ _ _ _ _ ?zzB ?zzF ?zzX ?zzN ?zzT ?zzhk ?zzhroom ?zzhun ?_; (case zzB => k_asm); (case zzF => k_asm); (case zzX => k_asm); (case zzN => k_asm); (case zzT => k_asm); (case zzhk => first | exact rfl | assumption); (case zzhx => k_asm); (case zzhroom => ktr_room); (case zzhun => ktr_units); k_whole); intro _ _ _ _; (try k_sweep); (try dsimp only))
  k_with "exec For Name Name cons nil" => (k_here; k_dflt (refine for_start ?_ ?zzhs; (case zzhs => intro _; rfl)))
  k_with "pyIter str" => refine hold ?_
  k_with "binaryOp Add ref ref" => (k_here; (with_reducible show wpAny _ _ (binaryOp _ (Value.ref _) (Value.ref _)) _ _ _); k_dflt (refine' add_at ?zzF ?zzN ?zza ?zzb ?zzz ?_; (case zzF => k_asm); (case zzN => k_asm); (case zza => k_mem); (case zzb => k_mem); (case zzz => (simp only [List.length_append, List.length_cons, List.length_nil]; lia)); k_whole); intro _ _ _ _ l1; (try k_lt l1); (try (revert l1; intro _)); (try k_sweep); (try dsimp only))
  k_with "call builtin:str.join" => (k_here; k_dflt (refine' join_in ?zzk1 ?zzk0 ?zzk2 ?zzk3 ?_; (case zzk1 => k_asm); (case zzk0 => k_mem); (case zzk2 => assumption); (case zzk3 => assumption); k_whole); intro _ _; (try dsimp only))
  k_with "Meet" => ((try dsimp only); first | (refine meet_ret ?_; (try dsimp only)) | refine hold ?_)
  trivial
theorem lines_L51 : True := by
  k_with "storeName" => (k_here; (with_reducible show wpAny _ _ (storeName (envX _ _ _ _ _ _) _ _) _ _ _); k_dflt (refine' stX ?zzk1 ?zzk2 ?_; (case zzk1 => k_asm); (case zzk2 => k_asm); k_whole); intro _ _ _ _; (try k_sweep); (try dsimp only))
  k_with "subscriptTail Name Name ref int" => (k_here; (with_reducible show wpAny _ _ (subscriptTail _ _ (Value.ref _) (Value.int _ _)) _ _ _); k_dflt (refine' item_ref ?zzN ?zzm ?zzr ?zzh0 ?zzh1 ?zzhf ?_ ?zzs; (case zzN => k_asm); (case zzm => k_mem); (case zzr => assumption); (case zzh0 => lia); (case zzh1 => lia); (case zzhf => lia); (case zzs => with_unfolding_all rfl); k_whole); intro _ _)
  k_with "subscriptTail Name Constant ref int" => (k_here; (with_reducible show wpAny _ _ (subscriptTail _ _ (Value.ref _) (Value.int _ _)) _ _ _); k_dflt (refine' item_ref ?zzN ?zzm ?zzr ?zzh0 ?zzh1 ?zzhf ?_ ?zzs; (case zzN => k_asm); (case zzm => k_mem); (case zzr => assumption); (case zzh0 => lia); (case zzh1 => (try simp only [List.length_append, List.length_drop, List.length_cons, List.length_nil] at *); lia); (case zzhf => (try simp only [List.length_append, List.length_drop, List.length_cons, List.length_nil] at *); lia); (case zzs => with_unfolding_all rfl); k_whole); intro _ _)
  k_with "subscriptTail Name BinOp ref int" => (k_here; (with_reducible show wpAny _ _ (subscriptTail _ _ (Value.ref _) (Value.int _ _)) _ _ _); k_dflt (refine' item_int ?zzN ?zzm ?zzr ?zzh0 ?zzh1 ?zzhf ?_ ?zzs; (case zzN => k_asm); (case zzm => k_mem); (case zzr => assumption); (case zzh0 => lia); (case zzh1 => lia); (case zzhf => lia); (case zzs => with_unfolding_all rfl); k_whole); intro _ _)
  k_with "subscriptTail Name Slice ref ref" => (k_here; (with_reducible show wpAny _ _ (subscriptTail _ (PySem.Expr.Slice _ _ none _) (Value.ref _) (Value.ref _)) _ _ _); k_dflt (refine' slice_t3 ?zzF ?zzN ?zzap ?zzl ?zzp ?zzq ?zzz ?_ ?zzs ?zzt; (case zzF => k_asm); (case zzN => k_asm); (case zzap => k_asm); (case zzl => k_mem); (case zzp => kmk_part); (case zzq => kmk_part); (case zzz => (try simp only [List.length_append, List.length_drop, List.length_cons, List.length_nil] at *); lia); (case zzs => with_unfolding_all rfl); (case zzt => kmk_pure); k_whole); intro _ _ _ _ _; (try k_sweep))
  k_with "newList" => (k_here; (with_reducible show wpAny _ _ (newList [_]) _ _ _); k_dflt (refine' list1_t3 ?zzF ?zzN ?zzap ?_; (case zzF => k_asm); (case zzN => k_asm); (case zzap => k_asm); k_whole); intro _ _ _ _ _; (try k_sweep))
  k_with "binaryOp Add ref ref" => (k_here; (with_reducible show wpAny _ _ (binaryOp _ (Value.ref _) (Value.ref _)) _ _ _); k_dflt (refine' add_t3 ?zzF ?zzN ?zzap ?zza ?zzb ?zzz ?_; (case zzF => k_asm); (case zzN => k_asm); (case zzap => k_asm); (case zza => k_mem); (case zzb => k_mem); (case zzz => (simp only [List.length_append, List.length_drop, List.length_cons, List.length_nil]; lia)); k_whole); intro _ _ _ _ _; (try k_sweep))
  k_with "call builtin:sorted" => (k_here; (with_reducible show wpAny _ _ (call (Value.builtin "sorted") [Value.ref _]) _ _ _); k_dflt (refine' sorted_t3 ?zzS ?zzPB ?zzF ?zzN ?zzap ?zzm ?zzh2 ?zzh64 ?zzhs ?_; (case zzS => k_asm); (case zzF => k_asm); (case zzN => k_asm); (case zzap => k_asm); (case zzm => k_mem); (case zzPB => show Inc _ _; repeat (first | assumption | refine Inc.cons ?_)); (case zzh2 => (simp only [List.length_append, List.length_drop, List.length_cons, List.length_nil]; lia)); (case zzh64 => (simp only [List.length_append, List.length_drop, List.length_cons, List.length_nil]; lia)); (case zzhs => first | exact Sub.snoc (Sub.drop (by assumption) 1) (List.mem_of_getElem? (by assumption)) | exact Sub.snoc (by assumption) (List.mem_of_getElem? (by assumption))); k_whole); intro _ _ _ _ _ _ _ _ _ _ _; (try k_sweep))
  k_with "call builtin:list.append" => (k_here; (with_reducible show wpAny _ _ (call (Value.builtin _) [Value.ref _, _]) _ _ _); k_dflt (first | (refine' append_G ?zzF ?zzN ?zzap ?zzhf ?_; (case zzF => k_asm); (case zzN => k_asm); (case zzap => k_asm); (case zzhf => lia); k_whole) | (refine' append_W ?zzF ?zzN ?zzap ?zzhf ?_; (case zzF => k_asm); (case zzN => k_asm); (case zzap => k_asm); (case zzhf => lia); k_whole)); intro _ _ _ _; (try k_sweep); (try dsimp only))
  k_with "call ref" => (k_here; (with_reducible show wpAny _ _ (call (Value.ref 127) _) _ _ _); k_dflt (refine' r_replace _ _ _ _ _ _ ?zzS ?zzPB ?zzap ?zzhs ?zzhH _ ?zzhv ?zzh1 ?zzhfit _ _ _ _ _ _ _ _ _ _ _ _ _ _ _ _ _ ?zzB ?zzF ?zzX ?zzN ?zzT ?zzhk ?zzhroom ?zzhun ?_; (case zzS => k_asm); (case zzB => k_asm); (case zzF => k_asm); (case zzX => k_asm); (case zzN => k_asm); (case zzT => k_asm); (case zzhk => exact rfl); (case zzap => k_asm); (case zzPB => show Inc _ _; repeat (first | assumption | refine Inc.cons ?_)); (case zzhs => k_asm); (case zzhH => k_asm); (case zzhv => exact List.mem_of_getElem? (by assumption)); (case zzh1 => lia); (case zzhfit => lia); (case zzhroom => ktr_room); (case zzhun => ktr_units); k_whole); intro _ _ _ _ _ _ _ _ _ _ _; (try k_sweep); (try dsimp only))
  k_with "call ref" => (k_here; (with_reducible show wpAny _ _ (call (Value.ref 134) _) _ _ _); k_dflt (refine' r_pushpop _ _ _ _ _ _ ?zzS ?zzPB ?zzap ?zzhs ?zzhH _ ?zzhv ?zzh1 ?zzhfit _ _ _ _ _ _ _ _ _ _ _ _ _ _ _ _ _ ?zzB ?zzF ?zzX ?zzN ?zzT ?zzhk ?zzhroom ?zzhun ?_; (case zzS => k_asm); (case zzB => k_asm); (case zzF => k_asm); (case zzX => k_asm); (case zzN => k_asm); (case zzT => k_asm); (case zzhk => exact rfl); (case zzap => k_asm); (case zzPB => show Inc _ _; repeat (first | assumption | refine Inc.cons ?_)); (case zzhs => k_asm); (case zzhH => k_asm); (case zzhv => exact List.mem_of_getElem? (by assumption)); (case zzh1 => lia); (case zzhfit => lia); (case zzhroom => ktr_room); (case zzhun => ktr_units); k_whole); intro _ _ _ _ _ _ _ _ _ _; (try k_sweep); (try dsimp only))
  k_with "call ref" => (k_here; (with_reducible show wpAny _ _ (call (Value.ref 113) _) _ _ _); k_dflt (refine' r_push _ _ _ _ _ _ ?zzS ?zzPB ?zzap ?zzhs ?zzhH _ ?zzhv ?zzhfit _ _ _ _ _ _ _ _ _ _ _ _ _ _ _ _ _ ?zzB ?zzF ?zzX ?zzN ?zzT ?zzhk ?zzhroom ?zzhun ?_; (case zzS => k_asm); (case zzB => k_asm); (case zzF => k_asm); (case zzX => k_asm); (case zzN => k_asm); (case zzT => k_asm); (case zzhk => exact rfl); (case zzap => k_asm); (case zzPB => show Inc _ _; repeat (first | assumption | refine Inc.cons ?_)); (case zzhs => k_asm); (case zzhH => k_asm); (case zzhv => exact List.mem_of_getElem? (by assumption)); (case zzhfit => lia); (case zzhroom => ktr_room); (case zzhun => ktr_units); k_whole); intro _ _ _ _ _ _ _ _; (try k_sweep); (try dsimp only))
  k_with "pyIter ref" => refine hold ?_
  k_with "eval Name" => (k_here; (with_reducible show wpAny _ _ (eval (PySem.Expr.Name _ _) (envX _ _ _ _ _ _)) _ _ _); k_dflt (refine' nameX_L ?zzk1 ?zzk2 ?_ ?zzk3 ?zzk4 ?zzk5; (case zzk3 => exact rfl); (case zzk4 => exact rfl); (case zzk1 => k_asm); (case zzk2 => (repeat (first | assumption | exact if_pos rfl | refine (if_neg (by decide +kernel)).trans ?_))); (case zzk5 => decide); k_whole))
  trivial
theorem lines_L52 : True := by
  k_with "SrcLP" => refine hold ?_
  k_with "eval ListComp" => (k_here; (with_reducible show wpAny _ _ (eval (PySem.Expr.ListComp _ [⟨PySem.Expr.Tuple _ _ _, _, _, _⟩] _ _) _) _ _ _); k_dflt (refine LCp.ListComp_P (F₀ := by k_asm) (by with_unfolding_all rfl) (by decide) (by rfl) (by decide) (by rfl) (by rfl) (by decide) ?_))
  k_with "call ref" => (k_here; (with_reducible show wpAny _ _ (call (Value.ref 181) _) _ _ _); k_dflt (refine' written_spec _ _ _ _ _ _ _ _ _ ?zzhx _ _ _ _ _ _ _ _ _ _ _ _ _ _ _ _ _ _ _ ?zzB ?zzF ?zzX ?zzN ?zzT ?zzhk ?zzhroom ?zzhun ?_; (case zzB => k_asm); (case zzF => k_asm); (case zzX => k_asm); (case zzN => k_asm); (case zzT => k_asm); (case zzhk => first | exact rfl | assumption); (case zzhx => k_asm); (case zzhroom => ktr_room); (case zzhun => ktr_units); k_whole); intro _ _ _ _ _; (try k_sweep); (try dsimp only))
  k_with "subscriptTail Name Name ref int" => (k_here; (with_reducible show wpAny _ _ (subscriptTail _ _ (Value.ref _) (Value.int _ _)) _ _ _); k_dflt (refine' item_txt ?zzN ?zzm ?zzr ?zzh0 ?zzh1 ?zzhf ?zzhX ?_ ?zzs; (case zzN => k_asm); (case zzm => k_mem); (case zzr => assumption); (case zzhX => assumption); (case zzh0 => lia); (case zzh1 => lia); (case zzhf => lia); (case zzs => with_unfolding_all rfl); k_whole); intro _ _)
  trivial
theorem law_ret (w : World) (p : Program) (loose : List Str) (mean : ExcName → Option Value) (mg mb : Str → Option Value) (h₀ : Heap) (L fa : Addr) (cdv : Value) (m : Str → Option Value) (kd : Kd) (tK : Tok) (XS : List Str) (ts vs us gs ws : List Value) (P B : List (Addr × Obj))
    (G W Pl T1 : Addr) (oT oK : Obj) (a b c nt : Nat) (s : Shared) (Q : Flow → Shared → Prop) (E : Value → Shared → Prop)
    (S : Stat kd XS vs us P) (hPB : Inc P B) (hts : StrsAre ts XS) (bT : (T1, listOf ts.toArray nt) ∈ B) (bX : (L + 1 + 1, oT) ∈ B) (bK : (L + 1, oK) ∈ B)
    (dT : oT.data = .cell (some (.ref T1))) (dK : oK.data = .cell (some (.str kd.str tK)))
    (m1 : m (Str.ofString "pile") = some (.ref Pl)) (m2 : m (Str.ofString "gone") = some (.ref G)) (m3 : m (Str.ofString "wanted") = some (.ref W)) (_ap : Ap G W Pl B)
    (F : Fr h₀ L s.heap m) (N : News h₀ L s.heap (T3 G W Pl gs ws [] a b c B)) (hgv : Sub gs vs) (hgl : gs.length ≤ 20) (hm : Mat kd XS vs B gs ws)
    (hret : ∀ (h' : Heap) (tk' : Nat) (m' : Str → Option Value), Fr h₀ L h' m' → Q (.ret (.bool true)) { s with heap := h', toks := tk' }) :
    Below callerA h₀ [] h₀ → (hd.heap_39 w.params).In h₀ → Top p loose mean mg mb h₀ → ∀ st, lawDef.1[12]? = some st → wpAny (model PySem.Challenge.rw_ij0044_01.row.prog w) (callerA.deeper (lawEnv L fa cdv)) (exec st (lawEnv L fa cdv)) Q E s := by
  k_fill
  intro K0 X T st hst
  obtain rfl : _ = st := Option.some.inj hst
  clear hst
  unfold lawEnv
  generalize hsc : lawScope = sc
  conv at hsc => lhs; unfold lawScope; whnf
  subst hsc
  have h13 := S.h13
  k_steps
  rename_i D0 h1 F1 N1 l1
  refine unhold ?_
  have hwl : ws.length ≤ 20 := by have := hm.1; lia
  refine LCp.SrcLP.ledger (its := ws.toArray) rfl F1 N1 (.tail _ (.tail _ (.head _))) (by rw [sizeLine_eq, List.size_toArray]; lia) fun g => comp_invP (PrsInv (fun prs v j => ∃ g, gs[j]? = some g ∧ PairAt prs v (kap kd XS vs g)) ((D0, listOf #[] 0) :: T3 G W Pl gs ws [] a b c B)) ⟨[], (List.append_nil _).symm, rfl, fun j v h => by simp at h⟩ ?_ ?_
  · rintro i ys nw hi ⟨prs, rfl, hyl, hprs⟩ v hv
    rw [List.size_toArray] at hi
    rw [List.getElem?_toArray] at hv
    have hig : i < gs.length := by rw [hm.1]; exact hi
    obtain ⟨gv, hgi⟩ : ∃ gv, gs[i]? = some gv := ⟨_, List.getElem?_eq_getElem hig⟩
    obtain ⟨Tw, tt, tu, tn, rfl, hTm⟩ := hm.2 i gv v hgi hv
    refine ⟨Tw, _, _, _, tn, rfl, .tail _ (.tail _ (.tail _ (.tail _ (List.mem_append.mpr (.inl hTm))))), rfl, rfl, ?_⟩
    intro I oI C oC D2 m₂ h₃ tk₃ E' hoC hx hx₂ F₃ N₃ off ne
    have bT' : (T1, listOf ts.toArray nt) ∈ B ++ prs := List.mem_append.mpr (.inl bT)
    have bX' : (L + 1 + 1, oT) ∈ B ++ prs := List.mem_append.mpr (.inl bX)
    have bK' : (L + 1, oK) ∈ B ++ prs := List.mem_append.mpr (.inl bK)
    have N₄ := N₃
    simp only [T3, List.cons_append] at N₄
    clear N₃ N1 F1
    have hX := S.hX
    have hpl := S.vlt gv
    have hvl := S.hv
    have hp1 := plc_lt (v := gv) S.v0
    generalize hpj : plc vs gv = pj at *
    dsimp only at hx hx₂
    k_steps
    rename_i t1 ht1 h5 tk5 t2 D5 h6 F6 N6 l6
    rw [Int.toNat_natCast] at N6
    exact prs_endP (fun l l' v j hs ⟨g, e, q⟩ => ⟨g, e, pairAt_mono q hs⟩) (base := (D0, listOf #[] 0) :: T3 G W Pl gs ws [] a b c B) (fun prs => .inr ⟨_, .tail _ (.tail _ (.head _)), rfl, _, rfl⟩) F6 N6 off l6 hyl hprs ⟨gv, hgi, D5, t2, tu, 0, rfl, by unfold kap; rw [hpj]; exact .head _⟩
  · rintro ys nw ⟨prs, rfl, hyl, hprs⟩
    intro D2 h₃ tk₃ F₃ N₃ off
    dsimp only
    k_dflt (refine eq_pairs (gs := gs) (ys := ys) (a := a) N₃ (.tail _ (.tail _ (.head _))) (.head _) ?_ ?_ (by ke_room) ?_)
    · rw [hyl, List.size_toArray]; exact hm.1
    · intro j gv y hgj hyj
      obtain ⟨gv', e1, e2⟩ := hprs j y hyj
      rw [hgj] at e1
      cases e1
      have hgm := hgv gv (List.mem_of_getElem? hgj)
      refine ⟨kap kd XS vs gv, S.kp hgm fun q hq => .tail _ (.tail _ (.tail _ (.tail _ (.tail _ (List.mem_append.mpr (.inl (hPB q hq))))))), pairAt_mono e2 fun q hq => .tail _ (.tail _ (.tail _ (.tail _ (.tail _ (List.mem_append.mpr (.inr hq)))))), ?_⟩
      have := plc_lt (v := gv) S.v0
      have hvl := S.hv
      exact wr_ok (S.hX _ (nth_mem (by lia)))
    · k_steps
      exact hret _ _ _ F₃
end Mine
end
section
open PySem PySem.W PyProof.Rows PySem.Calls PySem.Spec
set_option maxRecDepth 100000
set_option maxHeartbeats 8000000
namespace Mine
theorem lines_L2 : True := by
  w_top off
  k_with_none
  k_with "eval Name" => (k_here; (with_reducible show wpAny _ _ (eval (PySem.Expr.Name _ _) (envOf _ _ _ _ _)) _ _ _); k_dflt (refine' ld ?zzk1 ?zzk2 ?_; (case zzk1 => k_asm); (case zzk2 => (repeat (first | assumption | exact if_pos rfl | refine (if_neg (by decide +kernel)).trans ?_))); k_whole))
  k_with "subscriptTail Name Name ref int" => (k_here; k_dflt (refine' item_pair ?zzk1 ?zzk2 ?zzk3 ?zzk4 ?zzk5 ?_ ?zzk6; (case zzk1 => k_asm); (case zzk2 => k_asm); (case zzk3 => lia); (case zzk4 => lia); (case zzk5 => lia); (case zzk6 => with_unfolding_all rfl); k_whole); intro _ _ _)
  k_with "compareOp Lt ref ref" => (k_here; k_dflt (refine' lt_at ?zzk1 ?zzk2 ?zzk3 ?zzk4 ?zzk5 ?_; (case zzk1 => k_asm); (case zzk2 => exact fun _ h => List.Mem.tail _ h); (case zzk3 => k_asm); (case zzk4 => k_asm); (case zzk5 => ktr_units); k_whole))
  k_with "setItem ref int ref" => (k_here; k_dflt (refine' set_at ?zzk1 ?zzk2 ?zzk3 ?zzk4 ?zzk5 ?zzk6 ?_; (case zzk1 => k_asm); (case zzk2 => first | k_asm | exact news_tail (by k_asm)); (case zzk3 => k_asm); (case zzk4 => lia); (case zzk5 => lia); (case zzk6 => lia); k_whole); intro _ _ _; (try k_sweep))
  k_with "exec While Compare cons nil" => refine hold ?_
  k_with "storeName" => (k_here; k_dflt (first | (refine' st_ofI ?zzk1 ?zzk2 ?_; (case zzk1 => k_asm); (case zzk2 => k_asm); k_whole; intro _ _ _ _ _) | (refine' st_ofS ?zzk1 ?zzk2 ?_; (case zzk1 => k_asm); (case zzk2 => k_asm); k_whole; intro _ _ _ _ _) | (refine' st_of ?zzk1 ?zzk2 ?_; (case zzk1 => k_asm); (case zzk2 => k_asm); k_whole; intro _ _ _ _)); (try k_sweep); (try dsimp only))
  k_with "binaryOp RShift int int" => refine rshift_one ?_
  k_with "call builtin:len" => (k_here; (with_reducible show wpAny _ _ (call (Value.builtin "len") [Value.ref _]) _ _ _); k_dflt (refine' len_at ?zzk1 ?zzk2 ?zzk3 ?_; (case zzk1 => k_asm); (case zzk2 => k_mem); (case zzk3 => (try simp only [List.length_append, List.length_singleton, List.length_set]); lia); k_whole); intro _ _; (try dsimp only))
  k_with "subscriptTail Name Constant ref int" => (k_here; k_dflt (refine' item_pair ?zzk1 ?zzk2 ?zzk3 ?zzk4 ?zzk5 ?_ ?zzk6; (case zzk1 => k_asm); (case zzk2 => k_asm); (case zzk3 => lia); (case zzk4 => lia); (case zzk5 => lia); (case zzk6 => with_unfolding_all rfl); k_whole); intro _ _ _)
  k_with "call builtin:list.append" => (k_here; (with_reducible show wpAny _ _ (call (Value.builtin _) [Value.ref _, _]) _ _ _); k_dflt (refine' append_pair ?zzk1 ?zzk2 ?zzk3 ?zzk4 ?_; (case zzk1 => k_asm); (case zzk2 => k_asm); (case zzk3 => k_asm); (case zzk4 => lia); k_whole); intro _ _ _ _; (try k_sweep); (try dsimp only))
  k_with "call builtin:list.pop" => (k_here; (with_reducible show wpAny _ _ (call (Value.builtin _) [Value.ref _]) _ _ _); k_dflt (refine' pop_pair ?zzk1 ?zzk2 ?zzk3 ?zzk4 ?zzk5 ?_; (case zzk1 => k_asm); (case zzk2 => k_asm); (case zzk3 => k_asm); (case zzk4 => (try simp only [List.length_append, List.length_singleton]); lia); (case zzk5 => first | assumption | exact rfl); k_whole); intro _ _ _ _; (try k_sweep); (try dsimp only))
  k_with "truthy ref" => (k_here; k_dflt (refine' truthy_pair ?zzk1 ?zzk2 ?_; (case zzk1 => k_asm); (case zzk2 => lia); k_whole); intro _; (try dsimp only))
  k_with "WhlIf" => (refine' whlIf_split ?_ ?_ <;> (intro hc'; (try dsimp only); (try simp only [decide_eq_true_eq, decide_eq_false_iff_not] at hc'); (try (revert hc'; intro _))))
  k_with "WPost" => (try dsimp only); first | (refine wpost_brk ?_; (try dsimp only)) | (refine wpost_ret ?_; (try dsimp only)) | refine hold ?_
  k_with "call ref" => (k_here; (with_reducible show wpAny _ _ (call (Value.ref 148) _) _ _ _); k_dflt (refine' siftdown_spec _ _ _ _ _ _ _ _ _ _ ?zzhne _ ?hκ _ _ _ _ ?zzhs ?zzhp0 ?zzhpos ?zzhfit _ _ _ _ _ _ _ _ _ _ _ _ _ _ _ _ _ ?zzB ?zzF ?zzX ?zzN ?zzT ?zzhk ?zzhroom ?zzhun ?_; (case zzB => k_asm); (case zzF => k_asm); (case zzX => k_asm); (case zzN => k_asm); (case zzT => k_asm); (case zzhk => first | exact rfl | assumption); (case zzhne => k_asm); (case hκ => first | k_asm | exact pairs_set (by assumption) (by assumption) | exact pairs_app (by assumption) (by assumption)); (case zzhs => lia); (case zzhp0 => (try simp only [List.length_append, List.length_singleton, List.length_set]); lia); (case zzhpos => (try simp only [List.length_append, List.length_singleton, List.length_set]); lia); (case zzhfit => (try simp only [List.length_append, List.length_singleton, List.length_set]); lia); (case zzhroom => ktr_room); (case zzhun => ktr_units); k_whole); intro _ _ _ _ _ _; (try dsimp only))
  k_with "call ref" => (k_here; (with_reducible show wpAny _ _ (call (Value.ref 155) _) _ _ _); k_dflt (refine' siftup_spec _ _ _ _ _ _ _ _ _ _ ?zzhne _ ?hκ _ _ ?zzhp0 ?zzhpos ?zzhfit _ _ _ _ _ _ _ _ _ _ _ _ _ _ _ _ _ ?zzB ?zzF ?zzX ?zzN ?zzT ?zzhk ?zzhroom ?zzhun ?_; (case zzB => k_asm); (case zzF => k_asm); (case zzX => k_asm); (case zzN => k_asm); (case zzT => k_asm); (case zzhk => first | exact rfl | assumption); (case zzhne => k_asm); (case hκ => first | k_asm | exact pairs_set (by assumption) (by assumption) | exact pairs_app (by assumption) (by assumption)); (case zzhp0 => lia); (case zzhpos => (try simp only [List.length_append, List.length_singleton, List.length_set]); lia); (case zzhfit => (try simp only [List.length_append, List.length_singleton, List.length_set]); lia); (case zzhroom => ktr_room); (case zzhun => ktr_units); k_whole); intro _ _ _ _ _ _; (try dsimp only))
  k_with "call builtin:len" => (k_here; (with_reducible show wpAny _ _ (call (Value.builtin "len") [Value.ref _]) _ _ _); k_dflt (refine' len_seven ?zzk1 ?zzk2 ?zzk3 ?_; (case zzk1 => k_asm); (case zzk2 => k_mem); (case zzk3 => assumption); k_whole); intro _ _; (try dsimp only))
  k_with "binaryOp FloorDiv int int" => refine half_seven ?_
  k_with "exec For Name Call cons nil" => (k_here; k_dflt (refine for_start ?_ ?zzhs; (case zzhs => intro _; rfl)))
  k_with "call type:reversed" => (k_here; (with_reducible show wpAny _ _ (call (Value.type _) [Value.ref _]) _ _ _); k_dflt (refine' rev_range3 ?zzF ?zzN ?zzr ?_; (case zzF => k_asm); (case zzN => k_asm); (case zzr => k_asm); k_whole); intro _ _ _ _ _; (try k_sweep))
  k_with "pyIter ref" => (k_here; k_dflt (refine' iter_rangeI ?zzN ?zzm ?_; (case zzN => k_asm); (case zzm => exact List.Mem.head _); k_whole))
  k_with "CompSrc" => refine hold ?_
  k_with "call builtin:str.join" => (k_here; k_dflt (refine' join_at ?zzk1 ?zzk2 ?zzk3 ?_; (case zzk1 => k_asm); (case zzk2 => assumption); (case zzk3 => assumption); k_whole); intro _ _; (try dsimp only))
  k_with "call ref" => (k_here; (with_reducible show wpAny _ _ (call (Value.ref 167) _) _ _ _); k_dflt (refine' double_spec _ _ _ _ _ _ _ _ ?zzhx _ _ _ _ _ _ _ _ _ _ _ _ _ _ _ _ _ _ ?zzB ?zzF ?zzX ?zzN ?zzT ?zzhk ?zzhroom ?zzhun ?_; (case zzB => k_asm); (case zzF => k_asm); (case zzX => k_asm); (case zzN => k_asm); (case zzT => k_asm); (case zzhk => first | exact rfl | assumption); (case zzhx => k_asm); (case zzhroom => ktr_room); (case zzhun => ktr_units); k_whole); intro _ _ _ _; (try k_sweep); (try dsimp only))
  k_with "exec For Name Name cons nil" => (k_here; k_dflt (refine for_start ?_ ?zzhs; (case zzhs => intro _; rfl)))
  k_with "pyIter str" => refine hold ?_
  k_with "binaryOp Add ref ref" => (k_here; (with_reducible show wpAny _ _ (binaryOp _ (Value.ref _) (Value.ref _)) _ _ _); k_dflt (refine' add_at ?zzF ?zzN ?zza ?zzb ?zzz ?_; (case zzF => k_asm); (case zzN => k_asm); (case zza => k_mem); (case zzb => k_mem); (case zzz => (simp only [List.length_append, List.length_cons, List.length_nil]; lia)); k_whole); intro _ _ _ _ l1; (try k_lt l1); (try (revert l1; intro _)); (try k_sweep); (try dsimp only))
  k_with "call builtin:str.join" => (k_here; k_dflt (refine' join_in ?zzk1 ?zzk0 ?zzk2 ?zzk3 ?_; (case zzk1 => k_asm); (case zzk0 => k_mem); (case zzk2 => assumption); (case zzk3 => assumption); k_whole); intro _ _; (try dsimp only))
  k_with "Meet" => ((try dsimp only); first | (refine meet_ret ?_; (try dsimp only)) | refine hold ?_)
  trivial
theorem lines_L21 : True := by
  k_with "storeName" => (k_here; (with_reducible show wpAny _ _ (storeName (envX _ _ _ _ _ _) _ _) _ _ _); k_dflt (refine' stX ?zzk1 ?zzk2 ?_; (case zzk1 => k_asm); (case zzk2 => k_asm); k_whole); intro _ _ _ _; (try k_sweep); (try dsimp only))
  k_with "subscriptTail Name Name ref int" => (k_here; (with_reducible show wpAny _ _ (subscriptTail _ _ (Value.ref _) (Value.int _ _)) _ _ _); k_dflt (refine' item_ref ?zzN ?zzm ?zzr ?zzh0 ?zzh1 ?zzhf ?_ ?zzs; (case zzN => k_asm); (case zzm => k_mem); (case zzr => assumption); (case zzh0 => lia); (case zzh1 => lia); (case zzhf => lia); (case zzs => with_unfolding_all rfl); k_whole); intro _ _)
  k_with "subscriptTail Name Constant ref int" => (k_here; (with_reducible show wpAny _ _ (subscriptTail _ _ (Value.ref _) (Value.int _ _)) _ _ _); k_dflt (refine' item_ref ?zzN ?zzm ?zzr ?zzh0 ?zzh1 ?zzhf ?_ ?zzs; (case zzN => k_asm); (case zzm => k_mem); (case zzr => assumption); (case zzh0 => lia); (case zzh1 => (try simp only [List.length_append, List.length_drop, List.length_cons, List.length_nil] at *); lia); (case zzhf => (try simp only [List.length_append, List.length_drop, List.length_cons, List.length_nil] at *); lia); (case zzs => with_unfolding_all rfl); k_whole); intro _ _)
  k_with "subscriptTail Name BinOp ref int" => (k_here; (with_reducible show wpAny _ _ (subscriptTail _ _ (Value.ref _) (Value.int _ _)) _ _ _); k_dflt (refine' item_int ?zzN ?zzm ?zzr ?zzh0 ?zzh1 ?zzhf ?_ ?zzs; (case zzN => k_asm); (case zzm => k_mem); (case zzr => assumption); (case zzh0 => lia); (case zzh1 => lia); (case zzhf => lia); (case zzs => with_unfolding_all rfl); k_whole); intro _ _)
  k_with "subscriptTail Name Slice ref ref" => (k_here; (with_reducible show wpAny _ _ (subscriptTail _ (PySem.Expr.Slice _ _ none _) (Value.ref _) (Value.ref _)) _ _ _); k_dflt (refine' slice_t3 ?zzF ?zzN ?zzap ?zzl ?zzp ?zzq ?zzz ?_ ?zzs ?zzt; (case zzF => k_asm); (case zzN => k_asm); (case zzap => k_asm); (case zzl => k_mem); (case zzp => kmk_part); (case zzq => kmk_part); (case zzz => (try simp only [List.length_append, List.length_drop, List.length_cons, List.length_nil] at *); lia); (case zzs => with_unfolding_all rfl); (case zzt => kmk_pure); k_whole); intro _ _ _ _ _; (try k_sweep))
  k_with "newList" => (k_here; (with_reducible show wpAny _ _ (newList [_]) _ _ _); k_dflt (refine' list1_t3 ?zzF ?zzN ?zzap ?_; (case zzF => k_asm); (case zzN => k_asm); (case zzap => k_asm); k_whole); intro _ _ _ _ _; (try k_sweep))
  k_with "binaryOp Add ref ref" => (k_here; (with_reducible show wpAny _ _ (binaryOp _ (Value.ref _) (Value.ref _)) _ _ _); k_dflt (refine' add_t3 ?zzF ?zzN ?zzap ?zza ?zzb ?zzz ?_; (case zzF => k_asm); (case zzN => k_asm); (case zzap => k_asm); (case zza => k_mem); (case zzb => k_mem); (case zzz => (simp only [List.length_append, List.length_drop, List.length_cons, List.length_nil]; lia)); k_whole); intro _ _ _ _ _; (try k_sweep))
  k_with "call builtin:sorted" => (k_here; (with_reducible show wpAny _ _ (call (Value.builtin "sorted") [Value.ref _]) _ _ _); k_dflt (refine' sorted_t3 ?zzS ?zzPB ?zzF ?zzN ?zzap ?zzm ?zzh2 ?zzh64 ?zzhs ?_; (case zzS => k_asm); (case zzF => k_asm); (case zzN => k_asm); (case zzap => k_asm); (case zzm => k_mem); (case zzPB => show Inc _ _; repeat (first | assumption | refine Inc.cons ?_)); (case zzh2 => (simp only [List.length_append, List.length_drop, List.length_cons, List.length_nil]; lia)); (case zzh64 => (simp only [List.length_append, List.length_drop, List.length_cons, List.length_nil]; lia)); (case zzhs => first | exact Sub.snoc (Sub.drop (by assumption) 1) (List.mem_of_getElem? (by assumption)) | exact Sub.snoc (by assumption) (List.mem_of_getElem? (by assumption))); k_whole); intro _ _ _ _ _ _ _ _ _ _ _; (try k_sweep))
  k_with "call builtin:list.append" => (k_here; (with_reducible show wpAny _ _ (call (Value.builtin _) [Value.ref _, _]) _ _ _); k_dflt (first | (refine' append_G ?zzF ?zzN ?zzap ?zzhf ?_; (case zzF => k_asm); (case zzN => k_asm); (case zzap => k_asm); (case zzhf => lia); k_whole) | (refine' append_W ?zzF ?zzN ?zzap ?zzhf ?_; (case zzF => k_asm); (case zzN => k_asm); (case zzap => k_asm); (case zzhf => lia); k_whole)); intro _ _ _ _; (try k_sweep); (try dsimp only))
  k_with "call ref" => (k_here; (with_reducible show wpAny _ _ (call (Value.ref 127) _) _ _ _); k_dflt (refine' r_replace _ _ _ _ _ _ ?zzS ?zzPB ?zzap ?zzhs ?zzhH _ ?zzhv ?zzh1 ?zzhfit _ _ _ _ _ _ _ _ _ _ _ _ _ _ _ _ _ ?zzB ?zzF ?zzX ?zzN ?zzT ?zzhk ?zzhroom ?zzhun ?_; (case zzS => k_asm); (case zzB => k_asm); (case zzF => k_asm); (case zzX => k_asm); (case zzN => k_asm); (case zzT => k_asm); (case zzhk => exact rfl); (case zzap => k_asm); (case zzPB => show Inc _ _; repeat (first | assumption | refine Inc.cons ?_)); (case zzhs => k_asm); (case zzhH => k_asm); (case zzhv => exact List.mem_of_getElem? (by assumption)); (case zzh1 => lia); (case zzhfit => lia); (case zzhroom => ktr_room); (case zzhun => ktr_units); k_whole); intro _ _ _ _ _ _ _ _ _ _ _; (try k_sweep); (try dsimp only))
  k_with "call ref" => (k_here; (with_reducible show wpAny _ _ (call (Value.ref 134) _) _ _ _); k_dflt (refine' r_pushpop _ _ _ _ _ _ ?zzS ?zzPB ?zzap ?zzhs ?zzhH _ ?zzhv ?zzh1 ?zzhfit _ _ _ _ _ _ _ _ _ _ _ _ _ _ _ _ _ ?zzB ?zzF ?zzX ?zzN ?zzT ?zzhk ?zzhroom ?zzhun ?_; (case zzS => k_asm); (case zzB => k_asm); (case zzF => k_asm); (case zzX => k_asm); (case zzN => k_asm); (case zzT => k_asm); (case zzhk => exact rfl); (case zzap => k_asm); (case zzPB => show Inc _ _; repeat (first | assumption | refine Inc.cons ?_)); (case zzhs => k_asm); (case zzhH => k_asm); (case zzhv => exact List.mem_of_getElem? (by assumption)); (case zzh1 => lia); (case zzhfit => lia); (case zzhroom => ktr_room); (case zzhun => ktr_units); k_whole); intro _ _ _ _ _ _ _ _ _ _; (try k_sweep); (try dsimp only))
  k_with "call ref" => (k_here; (with_reducible show wpAny _ _ (call (Value.ref 113) _) _ _ _); k_dflt (refine' r_push _ _ _ _ _ _ ?zzS ?zzPB ?zzap ?zzhs ?zzhH _ ?zzhv ?zzhfit _ _ _ _ _ _ _ _ _ _ _ _ _ _ _ _ _ ?zzB ?zzF ?zzX ?zzN ?zzT ?zzhk ?zzhroom ?zzhun ?_; (case zzS => k_asm); (case zzB => k_asm); (case zzF => k_asm); (case zzX => k_asm); (case zzN => k_asm); (case zzT => k_asm); (case zzhk => exact rfl); (case zzap => k_asm); (case zzPB => show Inc _ _; repeat (first | assumption | refine Inc.cons ?_)); (case zzhs => k_asm); (case zzhH => k_asm); (case zzhv => exact List.mem_of_getElem? (by assumption)); (case zzhfit => lia); (case zzhroom => ktr_room); (case zzhun => ktr_units); k_whole); intro _ _ _ _ _ _ _ _; (try k_sweep); (try dsimp only))
  k_with "pyIter ref" => refine hold ?_
  k_with "eval Name" => (k_here; (with_reducible show wpAny _ _ (eval (PySem.Expr.Name _ _) (envX _ _ _ _ _ _)) _ _ _); k_dflt (refine' nameX_L ?zzk1 ?zzk2 ?_ ?zzk3 ?zzk4 ?zzk5; (case zzk3 => exact rfl); (case zzk4 => exact rfl); (case zzk1 => k_asm); (case zzk2 => (repeat (first | assumption | exact if_pos rfl | refine (if_neg (by decide +kernel)).trans ?_))); (case zzk5 => decide); k_whole))
  trivial
theorem lines_L22 : True := by
  k_with "subscriptTail Name Slice ref ref" => (k_here; (with_reducible show wpAny _ _ (subscriptTail _ (PySem.Expr.Slice _ _ none _) (Value.ref _) (Value.ref _)) _ _ _); k_dflt (refine' slice_at ?zzF ?zzN ?zzl ?zzp ?zzq ?zzz ?_ ?zzs ?zzt; (case zzF => k_asm); (case zzN => k_asm); (case zzl => k_mem); (case zzp => kmk_part); (case zzq => kmk_part); (case zzz => lia); (case zzs => with_unfolding_all rfl); (case zzt => kmk_pure); k_whole); intro _ _ _ _ _; (try k_sweep))
  k_with "call ref" => (k_here; (with_reducible show wpAny _ _ (call (Value.ref 141) _) _ _ _); refine hold ?_)
  k_with "call builtin:sorted" => refine hold ?_
  k_with "exec For Name Call cons nil" => refine hold ?_
  k_with "exec For Tuple Name cons nil" => refine hold ?_
  k_with "exec Return some" => refine hold ?_
  k_with "exec Assign cons Tuple" => refine hold ?_
  trivial
theorem lines_L23 : True := by
  k_with "newList" => (k_here; (with_reducible show wpAny _ _ (newList []) _ _ _); k_dflt (refine' newList_K ?zzF ?zzN ?_; (case zzF => k_asm); (case zzN => k_asm); k_whole); intro _ _ _ _ _; (try k_sweep))
  k_with "newTuple" => (k_here; (with_reducible show wpAny _ _ (newTuple [_, _]) _ _ _); k_dflt (refine' kup_newTuple ?zzF ?zzN ?_ ?zzz; (case zzF => k_asm); (case zzN => k_asm); (case zzz => kmk_size); k_whole); intro _ _ _ _ _; (try k_sweep))
  trivial
theorem ap_make {G W Pl R S7 D : Addr} {og ow op orr os od : Obj} {Y : List (Addr × Obj)} (lP : ∀ p ∈ Y, p.1 < Pl) (lS : ∀ p ∈ (Pl, op) :: Y, p.1 < S7) (lR : ∀ p ∈ (S7, os) :: (Pl, op) :: Y, p.1 < R) (lG : ∀ p ∈ (R, orr) :: (S7, os) :: (Pl, op) :: Y, p.1 < G)
    (lW : ∀ p ∈ (G, og) :: (R, orr) :: (S7, os) :: (Pl, op) :: Y, p.1 < W) (lD : ∀ p ∈ (W, ow) :: (G, og) :: (R, orr) :: (S7, os) :: (Pl, op) :: Y, p.1 < D) : Ap G W Pl ((D, od) :: (R, orr) :: (S7, os) :: Y) := by
  refine ⟨Nat.ne_of_lt (lW _ (.head _)), Nat.ne_of_gt (lG _ (.tail _ (.tail _ (.head _)))), Nat.ne_of_gt (lW _ (.tail _ (.tail _ (.tail _ (.head _))))), fun q hq => ?_⟩
  rcases List.mem_cons.mp hq with rfl | hq
  · exact ⟨Nat.ne_of_gt (lD _ (.tail _ (.head _))), Nat.ne_of_gt (lD _ (.head _)), Nat.ne_of_gt (lD _ (.tail _ (.tail _ (.tail _ (.tail _ (.head _))))))⟩
  rcases List.mem_cons.mp hq with rfl | hq
  · exact ⟨Nat.ne_of_lt (lG _ (.head _)), Nat.ne_of_lt (lW _ (.tail _ (.head _))), Nat.ne_of_gt (lR _ (.tail _ (.head _)))⟩
  rcases List.mem_cons.mp hq with rfl | hq
  · exact ⟨Nat.ne_of_lt (lG _ (.tail _ (.head _))), Nat.ne_of_lt (lW _ (.tail _ (.tail _ (.head _)))), Nat.ne_of_gt (lS _ (.head _))⟩
  · exact ⟨Nat.ne_of_lt (lG _ (.tail _ (.tail _ (.tail _ hq)))), Nat.ne_of_lt (lW _ (.tail _ (.tail _ (.tail _ (.tail _ hq))))), Nat.ne_of_lt (lP _ hq)⟩
theorem t3_make {h₀ h : Heap} {L G W Pl R S7 D : Addr} {its : List Value} {c : Nat} {orr os od : Obj} {Y : List (Addr × Obj)} (N : News h₀ L h ((D, od) :: (W, listOf [].toArray 0) :: (G, listOf [].toArray 0) :: (R, orr) :: (S7, os) :: (Pl, listOf its.toArray c) :: Y)) :
    News h₀ L h (T3 G W Pl [] [] its 0 0 c ((D, od) :: (R, orr) :: (S7, os) :: Y)) := news_sub N fun q hq => by
  rcases List.mem_cons.mp hq with rfl | hq
  · exact .tail _ (.tail _ (.head _))
  rcases List.mem_cons.mp hq with rfl | hq
  · exact .tail _ (.head _)
  rcases List.mem_cons.mp hq with rfl | hq
  · exact .tail _ (.tail _ (.tail _ (.tail _ (.tail _ (.head _)))))
  rcases List.mem_cons.mp hq with rfl | hq
  · exact .head _
  rcases List.mem_cons.mp hq with rfl | hq
  · exact .tail _ (.tail _ (.tail _ (.head _)))
  rcases List.mem_cons.mp hq with rfl | hq
  · exact .tail _ (.tail _ (.tail _ (.tail _ (.head _))))
  · exact .tail _ (.tail _ (.tail _ (.tail _ (.tail _ (.tail _ hq)))))
theorem start_perm {vs us : List Value} (hv : 7 ≤ vs.length) (hu : 7 ≤ us.length) (pV : ∀ (j : Nat) (v : Value), vs[j]? = some v → plc vs v = j) (pU : ∀ (j : Nat) (v : Value), us[j]? = some v → plc us v = j) : (vs.take 7).map (plc vs) = (us.take 7).map (plc us) := by
  apply List.ext_getElem
  · simp; lia
  · intro i h1 h2
    simp only [List.length_map, List.length_take] at h1 h2
    rw [List.getElem_map, List.getElem_map, List.getElem_take, List.getElem_take, pV i _ (List.getElem?_eq_getElem (by lia)), pU i _ (List.getElem?_eq_getElem (by lia))]
theorem law_rest (w : World) (p : Program) (loose : List Str) (mean : ExcName → Option Value) (mg mb : Str → Option Value) (h₀ : Heap) (L fa : Addr) (cdv : Value) (m₀ : Str → Option Value) (kd : Kd) (tK : Tok) (XS : List Str) (ts vs us ys : List Value) (cs : List Int) (P : List (Addr × Obj))
    (T1 D2 wr wd U1 V1 : Addr) (oW oT oK : Obj) (s : Shared) (Q : Flow → Shared → Prop) (E : Value → Shared → Prop)
    (hE : PassesOwn (model PySem.Challenge.rw_ij0044_01.row.prog w) (callerA.deeper (lawEnv L fa cdv)) (lawEnv L fa cdv) E)
    (hts : StrsAre ts XS) (hXt : ∀ x ∈ XS, IsText x) (hys : IntsAre ys cs) (hX7 : XS.length = 7 + (cs.length - 1)) (hc7 : cs.length ≤ 7)
    (dT : oT.data = .cell (some (.ref T1))) (dK : oK.data = .cell (some (.str kd.str tK)))
    (hvl : vs.length = ts.length) (hul : us.length = ts.length) (hpr : ∀ j v, vs[j]? = some v → pairAtX kd XS P v j) (htl : ∀ j v, us[j]? = some v → twoAtX kd XS P v j)
    (F : Fr h₀ L s.heap (fun z => if z = Str.ofString "told" then some (.ref U1) else if z = Str.ofString "pairs" then some (.ref V1) else if z = Str.ofString "cells" then some (.ref D2) else m₀ z))
    (N : News h₀ L s.heap ((U1, LCg.lst us) :: (V1, LCg.lst vs) :: (wr, instObj 102 wd) :: (wd, dictOf [] 0) :: (T1, listOf ts.toArray 0) :: (D2, LCg.lst ys) :: (L + 1 + 1 + 1, oW) :: (L + 1 + 1, oT) :: (L + 1, oK) :: P))
    (hret : ∀ (h' : Heap) (tk' : Nat) (m' : Str → Option Value), Fr h₀ L h' m' → Q (.ret (.bool true)) { s with heap := h', toks := tk' }) :
    Below callerA h₀ [] h₀ → (hd.heap_39 w.params).In h₀ → Top p loose mean mg mb h₀ → wpAny (model PySem.Challenge.rw_ij0044_01.row.prog w) (callerA.deeper (lawEnv L fa cdv)) (execs (lawDef.1.drop 6) (lawEnv L fa cdv)) Q E s := by
  k_fill
  intro K0 X T
  have hE' := hE
  unfold lawEnv at hE ⊢
  generalize hsc : lawScope = sc at hE ⊢
  conv at hsc => lhs; unfold lawScope; whnf
  subst hsc
  have htl' := strs_len hts
  have S : Stat kd XS vs us P := ⟨hXt, by lia, by lia, by lia, by lia, hpr, htl⟩
  have hv13 : vs.length ≤ 13 := by have := S.hv; lia
  have hu13 : us.length ≤ 13 := by lia
  have hv7 : 7 ≤ vs.length := by have := S.h7; lia
  have hu7 : 7 ≤ us.length := by lia
  k_steps
  rename_i Pl h1 l1 h2 tk2 F2 N2
  rw [pick_seven hv7] at N2
  have lv : (vs.take 7).length = 7 := by rw [List.length_take]; lia
  have lu : (us.take 7).length = 7 := by rw [List.length_take]; lia
  have hκ : ∀ v ∈ vs.take 7, PairAt ((U1, LCg.lst us) :: (V1, LCg.lst vs) :: (wr, instObj 102 wd) :: (wd, dictOf [] 0) :: (T1, listOf ts.toArray 0) :: (D2, LCg.lst ys) :: (L + 1 + 1 + 1, oW) :: (L + 1 + 1, oT) :: (L + 1, oK) :: P) v (kap kd XS vs v) := fun v hv => S.kp (List.mem_of_mem_take hv) fun q hq => .tail _ (.tail _ (.tail _ (.tail _ (.tail _ (.tail _ (.tail _ (.tail _ (.tail _ hq))))))))
  refine unhold ?_
  k_dflt (refine heapify_spec w p loose mean mg mb Pl (vs.take 7) 0 _ (fun q hq => Nat.ne_of_lt (l1 q hq)) (kap kd XS vs) hκ lv _ _ _ _ _ _ _ _ _ _ _ _ _ _ _ _ _ K0 F2 X N2 T rfl (by ktr_room) (by ktr_units) ?_)
  intro h3 tk3 F3 N3
  rw [S.klt] at N3
  obtain ⟨q1, q2⟩ := heapify_ok (K := Kv kd XS vs) (xs := vs.take 7) lv
  generalize hfy (klt (Kv kd XS vs)) 3 (vs.take 7) = its at *
  clear hκ F2 N2
  dsimp only
  k_steps
  rename_i S7 h4 F4 N4 l4
  rw [pick_seven hu7] at N4
  refine unhold ?_
  refine sorted_two (κ := tap kd XS us) F4 N4 (list_in N4 (.head _)) (by lia) (by lia) (fun v hv => S.tp (List.mem_of_mem_take hv) fun q hq => .tail _ (.tail _ (.tail _ (.tail _ (.tail _ (.tail _ (.tail _ (.tail _ (.tail _ (.tail _ (.tail _ hq))))))))))) (fun v _ => by have := S.ult v; unfold tap; dsimp only; lia) fun R rs nr h5 F5 N5 l5 hp5 hs5 => ?_
  clear F4 N4
  dsimp only
  k_steps
  refine unhold ?_
  k_dflt (refine Assign_Tuple_swapped (names := [Str.ofString "gone", Str.ofString "wanted"]) ?_ (by with_unfolding_all rfl) (by with_unfolding_all rfl))
  k_steps
  rename_i hA tkA G hB lG W hC lW D hD lD hE1 hF tkF hG tkG F9 N9
  have ap := ap_make (od := { cls := .type "tuple", data := .seq #[Value.ref G, Value.ref W] }) l1 l4 l5 lG lW lD
  have N10 := t3_make N9
  have NP : News h₀ L hG P := news_sub N9 fun q hq => by (iterate 15 (refine List.Mem.tail _ ?_)); exact hq
  have pV : ∀ j v, vs[j]? = some v → plc vs v = j := fun j v h => plc_pair NP S.pr h
  have pU : ∀ j v, us[j]? = some v → plc us v = j := fun j v h => plc_two NP S.tl h
  clear l1 l4 l5 lG lW lD N9
  have I : LI kd XS vs us 7 its rs [] [] P := ⟨fun v hv => List.mem_of_mem_take (q2.mem_iff.mp hv), fun v hv => List.mem_of_mem_take (hp5.mem_iff.mp hv), q1, hs5, (q2.map _).trans ((start_perm hv7 hu7 pV pU) ▸ (hp5.map _).symm), by rw [q2.length_eq, lv]; exact Nat.le_refl _, by rw [q2.length_eq, lv]; exact Nat.le_refl _, (fun _ h => nomatch h), Nat.le_refl _, .nil⟩
  refine unhold ?_
  k_dflt (refine law_for1 w p loose mean mg mb h₀ L fa cdv _ kd XS ts vs us ys its rs cs P _ G W Pl R T1 D2 U1 V1 oT 0 0 0 nr us.length vs.length 0 ys.length _ _ E hE' S ?hPB hys htl' hX7 ?bU ?bV ?bT ?bD ?bX ?bR dT ?nm ap F9 N10 I ?hnext K0 X T _ rfl)
  case hPB => exact fun q hq => by (iterate 12 (refine List.Mem.tail _ ?_)); exact hq
  case bU => k_mem
  case bV => k_mem
  case bT => k_mem
  case bD => k_mem
  case bX => k_mem
  case bR => k_mem
  case nm => exact ⟨by (repeat (first | assumption | exact if_pos rfl | refine (if_neg (by decide +kernel)).trans ?_)), by (repeat (first | assumption | exact if_pos rfl | refine (if_neg (by decide +kernel)).trans ?_)), by (repeat (first | assumption | exact if_pos rfl | refine (if_neg (by decide +kernel)).trans ?_)), by (repeat (first | assumption | exact if_pos rfl | refine (if_neg (by decide +kernel)).trans ?_)), by (repeat (first | assumption | exact if_pos rfl | refine (if_neg (by decide +kernel)).trans ?_)), by (repeat (first | assumption | exact if_pos rfl | refine (if_neg (by decide +kernel)).trans ?_)), by (repeat (first | assumption | exact if_pos rfl | refine (if_neg (by decide +kernel)).trans ?_))⟩
  case hnext =>
    clear N10 F9 I q1 q2 hp5 hs5 ap
    intro h6 tk6 m6 R6 its6 rs6 gs6 ws6 a6 b6 c6 nr6 B6 nm6 hB6 mR6 F6 ap6 N6 I6
    dsimp only
    k_steps
    have hPB6 : Inc P B6 := fun q hq => hB6 q (by (iterate 12 (refine List.Mem.tail _ ?_)); exact hq)
    have bT6 := hB6 (T1, listOf ts.toArray 0) (by k_mem)
    have bX6 := hB6 (L + 1 + 1, oT) (by k_mem)
    have bK6 := hB6 (L + 1, oK) (by k_mem)
    refine unhold ?_
    k_dflt (refine law_for2 w p loose mean mg mb h₀ L fa cdv _ kd XS vs us its6 rs6 gs6 ws6 P B6 G W Pl R6 a6 b6 c6 nr6 _ _ E hE' S hPB6 mR6 nm6.pile nm6.gone nm6.wanted nm6.row ap6 F6 N6 I6 ?hnext2 K0 X T _ rfl)
    case hnext2 =>
      intro h7 tk7 m7 gs7 ws7 a7 b7 c7 B7 n1 n2 n3' hB7 F7 ap7 N7 hgv hgl hm7
      dsimp only
      k_steps
      refine unhold ?_
      k_dflt (refine law_ret w p loose mean mg mb h₀ L fa cdv _ kd tK XS ts vs us gs7 ws7 P B7 G W Pl T1 oT oK a7 b7 c7 0 _ _ E S (fun q hq => hB7 q (hPB6 q hq)) hts (hB7 _ bT6) (hB7 _ bX6) (hB7 _ bK6) dT dK n1 n2 n3' ap7 F7 N7 hgv hgl hm7 ?hret K0 X T _ rfl)
      case hret =>
        intro h8 tk8 m8 F8
        dsimp only
        exact hret _ _ _ F8
end Mine
end
end
section
open PySem PySem.W PyProof.Rows PySem.Calls PySem.Spec
set_option maxRecDepth 100000
set_option maxHeartbeats 20000000
namespace Mine
theorem lines_M2 : True := by
  w_top off
  k_with_none
  k_with "eval Name" => (k_here; (with_reducible show wpAny _ _ (eval (PySem.Expr.Name _ _) (envOf _ _ _ _ _)) _ _ _); k_dflt (refine' ld ?zzk1 ?zzk2 ?_; (case zzk1 => k_asm); (case zzk2 => (repeat (first | assumption | exact if_pos rfl | refine (if_neg (by decide +kernel)).trans ?_))); k_whole))
  k_with "subscriptTail Name Name ref int" => (k_here; k_dflt (refine' item_pair ?zzk1 ?zzk2 ?zzk3 ?zzk4 ?zzk5 ?_ ?zzk6; (case zzk1 => k_asm); (case zzk2 => k_asm); (case zzk3 => lia); (case zzk4 => lia); (case zzk5 => lia); (case zzk6 => with_unfolding_all rfl); k_whole); intro _ _ _)
  k_with "compareOp Lt ref ref" => (k_here; k_dflt (refine' lt_at ?zzk1 ?zzk2 ?zzk3 ?zzk4 ?zzk5 ?_; (case zzk1 => k_asm); (case zzk2 => exact fun _ h => List.Mem.tail _ h); (case zzk3 => k_asm); (case zzk4 => k_asm); (case zzk5 => ktr_units); k_whole))
  k_with "setItem ref int ref" => (k_here; k_dflt (refine' set_at ?zzk1 ?zzk2 ?zzk3 ?zzk4 ?zzk5 ?zzk6 ?_; (case zzk1 => k_asm); (case zzk2 => first | k_asm | exact news_tail (by k_asm)); (case zzk3 => k_asm); (case zzk4 => lia); (case zzk5 => lia); (case zzk6 => lia); k_whole); intro _ _ _; (try k_sweep))
  k_with "exec While Compare cons nil" => refine hold ?_
  k_with "storeName" => (k_here; k_dflt (first | (refine' st_ofI ?zzk1 ?zzk2 ?_; (case zzk1 => k_asm); (case zzk2 => k_asm); k_whole; intro _ _ _ _ _) | (refine' st_ofS ?zzk1 ?zzk2 ?_; (case zzk1 => k_asm); (case zzk2 => k_asm); k_whole; intro _ _ _ _ _) | (refine' st_of ?zzk1 ?zzk2 ?_; (case zzk1 => k_asm); (case zzk2 => k_asm); k_whole; intro _ _ _ _)); (try k_sweep); (try dsimp only))
  k_with "binaryOp RShift int int" => refine rshift_one ?_
  k_with "call builtin:len" => (k_here; (with_reducible show wpAny _ _ (call (Value.builtin "len") [Value.ref _]) _ _ _); k_dflt (refine' len_at ?zzk1 ?zzk2 ?zzk3 ?_; (case zzk1 => k_asm); (case zzk2 => k_mem); (case zzk3 => (try simp only [List.length_append, List.length_singleton, List.length_set]); lia); k_whole); intro _ _; (try dsimp only))
  k_with "subscriptTail Name Constant ref int" => (k_here; k_dflt (refine' item_pair ?zzk1 ?zzk2 ?zzk3 ?zzk4 ?zzk5 ?_ ?zzk6; (case zzk1 => k_asm); (case zzk2 => k_asm); (case zzk3 => lia); (case zzk4 => lia); (case zzk5 => lia); (case zzk6 => with_unfolding_all rfl); k_whole); intro _ _ _)
  k_with "call builtin:list.append" => (k_here; (with_reducible show wpAny _ _ (call (Value.builtin _) [Value.ref _, _]) _ _ _); k_dflt (refine' append_pair ?zzk1 ?zzk2 ?zzk3 ?zzk4 ?_; (case zzk1 => k_asm); (case zzk2 => k_asm); (case zzk3 => k_asm); (case zzk4 => lia); k_whole); intro _ _ _ _; (try k_sweep); (try dsimp only))
  k_with "call builtin:list.pop" => (k_here; (with_reducible show wpAny _ _ (call (Value.builtin _) [Value.ref _]) _ _ _); k_dflt (refine' pop_pair ?zzk1 ?zzk2 ?zzk3 ?zzk4 ?zzk5 ?_; (case zzk1 => k_asm); (case zzk2 => k_asm); (case zzk3 => k_asm); (case zzk4 => (try simp only [List.length_append, List.length_singleton]); lia); (case zzk5 => first | assumption | exact rfl); k_whole); intro _ _ _ _; (try k_sweep); (try dsimp only))
  k_with "truthy ref" => (k_here; k_dflt (refine' truthy_pair ?zzk1 ?zzk2 ?_; (case zzk1 => k_asm); (case zzk2 => lia); k_whole); intro _; (try dsimp only))
  k_with "WhlIf" => (refine' whlIf_split ?_ ?_ <;> (intro hc'; (try dsimp only); (try simp only [decide_eq_true_eq, decide_eq_false_iff_not] at hc'); (try (revert hc'; intro _))))
  k_with "WPost" => (try dsimp only); first | (refine wpost_brk ?_; (try dsimp only)) | (refine wpost_ret ?_; (try dsimp only)) | refine hold ?_
  k_with "CompSrc" => refine hold ?_
  k_with "call builtin:str.join" => (k_here; k_dflt (refine' join_at ?zzk1 ?zzk2 ?zzk3 ?_; (case zzk1 => k_asm); (case zzk2 => assumption); (case zzk3 => assumption); k_whole); intro _ _; (try dsimp only))
  k_with "binaryOp Pow int int" => (k_here; (with_reducible show wpAny _ _ (binaryOp _ (Value.int 10 _) (Value.int (4 - Nat.cast _) _)) _ _ _); k_dflt (refine' pow_ten ?zzh ?_; (case zzh => assumption); k_whole); intro _ _; (try dsimp only))
  k_with "binaryOp Mult int int" => (k_here; (with_reducible show wpAny _ _ (binaryOp _ (Value.int _ _) (Value.int (10 ^ (4 - _)) _)) _ _ _); k_dflt (refine' mul_ten ?zzh ?_; (case zzh => assumption); k_whole); intro _ _; (try dsimp only))
  k_with "call ref" => (k_here; (with_reducible show wpAny _ _ (call (Value.ref 167) _) _ _ _); k_dflt (refine' double_spec _ _ _ _ _ _ _ _ ?zzhx _ _ _ _ _ _ _ _ _ _ _ _ _ _ _ _ _ _ ?zzB ?zzF ?zzX ?zzN ?zzT ?zzhk ?zzhroom ?zzhun ?_; (case zzB => k_asm); (case zzF => k_asm); (case zzX => k_asm); (case zzN => k_asm); (case zzT => k_asm); (case zzhk => first | exact rfl | assumption); (case zzhx => k_asm); (case zzhroom => ktr_room); (case zzhun => ktr_units); k_whole); intro _ _ _ _; (try k_sweep); (try dsimp only))
  k_with "call type:enumerate" => refine hold ?_
  k_with "loadName" => (k_here; k_dflt (refine' ldn ?zzk1 ?zzk2 ?_; (case zzk1 => k_asm); (case zzk2 => (repeat (first | assumption | exact if_pos rfl | refine (if_neg (by decide +kernel)).trans ?_))); k_whole))
  k_with "call ref" => (k_here; (with_reducible show wpAny _ _ (call (Value.ref 167) _) _ _ _); k_dflt (refine' double_spec _ _ _ _ _ _ _ _ ?zzhx _ _ _ _ _ _ _ _ _ _ _ _ _ _ _ _ _ _ ?zzB ?zzF ?zzX ?zzN ?zzT ?zzhk ?zzhroom ?zzhun ?_; (case zzB => k_asm); (case zzF => k_asm); (case zzX => k_asm); (case zzN => k_asm); (case zzT => k_asm); (case zzhk => first | exact rfl | assumption); (case zzhx => k_asm); (case zzhroom => ktr_room); (case zzhun => ktr_units); k_whole); intro _ _ _ _; (try k_sweep); (try dsimp only))
  k_with "exec For Name Name cons nil" => (k_here; k_dflt (refine for_start ?_ ?zzhs; (case zzhs => intro _; rfl)))
  k_with "pyIter str" => refine hold ?_
  k_with "binaryOp Add ref ref" => (k_here; (with_reducible show wpAny _ _ (binaryOp _ (Value.ref _) (Value.ref _)) _ _ _); k_dflt (refine' add_at ?zzF ?zzN ?zza ?zzb ?zzz ?_; (case zzF => k_asm); (case zzN => k_asm); (case zza => k_mem); (case zzb => k_mem); (case zzz => (simp only [List.length_append, List.length_cons, List.length_nil]; lia)); k_whole); intro _ _ _ _ l1; (try k_lt l1); (try (revert l1; intro _)); (try k_sweep); (try dsimp only))
  k_with "call builtin:str.join" => (k_here; k_dflt (refine' join_in ?zzk1 ?zzk0 ?zzk2 ?zzk3 ?_; (case zzk1 => k_asm); (case zzk0 => k_mem); (case zzk2 => assumption); (case zzk3 => assumption); k_whole); intro _ _; (try dsimp only))
  k_with "Meet" => ((try dsimp only); first | (refine meet_ret ?_; (try dsimp only)) | refine hold ?_)
  k_with "call builtin:repr" => (k_here; k_dflt (refine' repr_wr ?zzk1 ?_; (case zzk1 => assumption); k_whole); intro _ _; (try dsimp only))
  k_with "call builtin:ascii" => (k_here; k_dflt (refine' ascii_wr_call ?zzk1 ?_; (case zzk1 => assumption); k_whole); intro _ _; (try dsimp only))
  k_with "call ref" => (k_here; (with_reducible show wpAny _ _ (call (Value.ref 148) _) _ _ _); k_dflt (refine' siftdown_spec _ _ _ _ _ _ _ _ _ _ ?zzhne _ ?hκ _ _ _ _ ?zzhs ?zzhp0 ?zzhpos ?zzhfit _ _ _ _ _ _ _ _ _ _ _ _ _ _ _ _ _ ?zzB ?zzF ?zzX ?zzN ?zzT ?zzhk ?zzhroom ?zzhun ?_; (case zzB => k_asm); (case zzF => k_asm); (case zzX => k_asm); (case zzN => k_asm); (case zzT => k_asm); (case zzhk => first | exact rfl | assumption); (case zzhne => k_asm); (case hκ => first | k_asm | exact pairs_set (by assumption) (by assumption) | exact pairs_app (by assumption) (by assumption)); (case zzhs => lia); (case zzhp0 => (try simp only [List.length_append, List.length_singleton, List.length_set]); lia); (case zzhpos => (try simp only [List.length_append, List.length_singleton, List.length_set]); lia); (case zzhfit => (try simp only [List.length_append, List.length_singleton, List.length_set]); lia); (case zzhroom => ktr_room); (case zzhun => ktr_units); k_whole); intro _ _ _ _ _ _; (try dsimp only))
  k_with "call ref" => (k_here; (with_reducible show wpAny _ _ (call (Value.ref 155) _) _ _ _); k_dflt (refine' siftup_spec _ _ _ _ _ _ _ _ _ _ ?zzhne _ ?hκ _ _ ?zzhp0 ?zzhpos ?zzhfit _ _ _ _ _ _ _ _ _ _ _ _ _ _ _ _ _ ?zzB ?zzF ?zzX ?zzN ?zzT ?zzhk ?zzhroom ?zzhun ?_; (case zzB => k_asm); (case zzF => k_asm); (case zzX => k_asm); (case zzN => k_asm); (case zzT => k_asm); (case zzhk => first | exact rfl | assumption); (case zzhne => k_asm); (case hκ => first | k_asm | exact pairs_set (by assumption) (by assumption) | exact pairs_app (by assumption) (by assumption)); (case zzhp0 => lia); (case zzhpos => (try simp only [List.length_append, List.length_singleton, List.length_set]); lia); (case zzhfit => (try simp only [List.length_append, List.length_singleton, List.length_set]); lia); (case zzhroom => ktr_room); (case zzhun => ktr_units); k_whole); intro _ _ _ _ _ _; (try dsimp only))
  k_with "call builtin:len" => (k_here; (with_reducible show wpAny _ _ (call (Value.builtin "len") [Value.ref _]) _ _ _); k_dflt (refine' len_seven ?zzk1 ?zzk2 ?zzk3 ?_; (case zzk1 => k_asm); (case zzk2 => k_mem); (case zzk3 => assumption); k_whole); intro _ _; (try dsimp only))
  k_with "binaryOp FloorDiv int int" => refine half_seven ?_
  k_with "exec For Name Call cons nil" => (k_here; k_dflt (refine for_start ?_ ?zzhs; (case zzhs => intro _; rfl)))
  k_with "call type:reversed" => (k_here; (with_reducible show wpAny _ _ (call (Value.type _) [Value.ref _]) _ _ _); k_dflt (refine' rev_range3 ?zzF ?zzN ?zzr ?_; (case zzF => k_asm); (case zzN => k_asm); (case zzr => k_asm); k_whole); intro _ _ _ _ _; (try k_sweep))
  k_with "pyIter ref" => (k_here; k_dflt (refine' iter_rangeI ?zzN ?zzm ?_; (case zzN => k_asm); (case zzm => exact List.Mem.head _); k_whole))
  trivial
theorem lines_M21 : True := by
  k_with "storeName" => (k_here; (with_reducible show wpAny _ _ (storeName (envX _ _ _ _ _ _) _ _) _ _ _); k_dflt (refine' stX ?zzk1 ?zzk2 ?_; (case zzk1 => k_asm); (case zzk2 => k_asm); k_whole); intro _ _ _ _; (try k_sweep); (try dsimp only))
  k_with "eval Name" => (k_here; (with_reducible show wpAny _ _ (eval (PySem.Expr.Name _ _) (envX _ _ _ _ _ _)) _ _ _); k_dflt (refine' nameX_L ?zzk1 ?zzk2 ?_ ?zzk3 ?zzk4 ?zzk5; (case zzk3 => exact rfl); (case zzk4 => exact rfl); (case zzk1 => k_asm); (case zzk2 => (repeat (first | assumption | exact if_pos rfl | refine (if_neg (by decide +kernel)).trans ?_))); (case zzk5 => decide); k_whole))
  k_with "call type:enumerate" => refine hold ?_
  k_with "exec Assign cons ListComp" => refine hold ?_
  k_with "call ref" => (k_here; (with_reducible show wpAny _ _ (call (Value.ref 85) _) _ _ _); k_dflt (refine' convert_spec _ _ _ _ _ _ _ _ _ ?zzhx _ _ _ _ _ _ _ _ _ _ _ _ _ _ _ _ _ _ _ _ ?zzB ?zzF ?zzX ?zzN ?zzT ?zzhk ?zzhroom ?zzhun ?_; (case zzB => k_asm); (case zzF => k_asm); (case zzX => k_asm); (case zzN => k_asm); (case zzT => k_asm); (case zzhk => first | exact rfl | assumption); (case zzhx => k_asm); (case zzhroom => ktr_room); (case zzhun => ktr_units); k_whole); intro _ _ _ _ _; (try k_sweep); (try dsimp only))
  k_with "call ref" => (k_here; (with_reducible show wpAny _ _ (call (Value.ref 174) _) _ _ _); k_dflt (refine' told_spec _ _ _ _ _ _ _ _ _ ?zzhx _ _ _ _ _ _ _ _ _ _ _ _ _ _ _ _ _ _ _ ?zzB ?zzF ?zzX ?zzN ?zzT ?zzhk ?zzhroom ?zzhun ?_; (case zzB => k_asm); (case zzF => k_asm); (case zzX => k_asm); (case zzN => k_asm); (case zzT => k_asm); (case zzhk => first | exact rfl | assumption); (case zzhx => k_asm); (case zzhroom => ktr_room); (case zzhun => ktr_units); k_whole); intro _ _ _ _ _; (try k_sweep); (try dsimp only))
  trivial
theorem law_mid (w : World) (p : Program) (loose : List Str) (mean : ExcName → Option Value) (mg mb : Str → Option Value) (h₀ : Heap) (L fa : Addr) (cdv : Value) (m₀ : Str → Option Value) (kd : Kd) (tK : Tok) (XS : List Str) (ts ys : List Value) (cs : List Int)
    (T1 D2 wr wd : Addr) (oW oT oK : Obj) (s : Shared) (Q : Flow → Shared → Prop) (E : Value → Shared → Prop)
    (hE : PassesOwn (model PySem.Challenge.rw_ij0044_01.row.prog w) (callerA.deeper (lawEnv L fa cdv)) (lawEnv L fa cdv) E)
    (hts : StrsAre ts XS) (hXt : ∀ x ∈ XS, IsText x) (hys : IntsAre ys cs) (hX7 : XS.length = 7 + (cs.length - 1)) (hc7 : cs.length ≤ 7)
    (dT : oT.data = .cell (some (.ref T1))) (dK : oK.data = .cell (some (.str kd.str tK))) (dW : oW.data = .cell (some (.ref wr)))
    (F : Fr h₀ L s.heap (fun z => if z = Str.ofString "cells" then some (.ref D2) else m₀ z))
    (N : News h₀ L s.heap [(wr, instObj 102 wd), (wd, dictOf [] 0), (T1, W.listOf ts.toArray 0), (D2, LCg.lst ys), (L + 1 + 1 + 1, oW), (L + 1 + 1, oT), (L + 1, oK)])
    (hret : ∀ (h' : Heap) (tk' : Nat) (m' : Str → Option Value), Fr h₀ L h' m' → Q (.ret (.bool true)) { s with heap := h', toks := tk' }) :
    Below callerA h₀ [] h₀ → (hd.heap_39 w.params).In h₀ → Top p loose mean mg mb h₀ → wpAny (model PySem.Challenge.rw_ij0044_01.row.prog w) (callerA.deeper (lawEnv L fa cdv)) (execs (lawDef.1.drop 4) (lawEnv L fa cdv)) Q E s := by
  k_fill
  intro K0 X T
  have hE' := hE
  unfold lawEnv at hE ⊢
  generalize hsc : lawScope = sc at hE ⊢
  conv at hsc => lhs; unfold lawScope; whnf
  subst hsc
  have htl := strs_len hts
  k_steps
  refine unhold ?_
  k_dflt (refine assign_enum F (by rfl) (by with_unfolding_all rfl) (by with_unfolding_all rfl) (by decide) (by rfl) (by decide) (by rfl) (by rfl) (by decide) (by rfl) (by rfl) ?_)
  k_steps
  refine unhold ?_
  refine enum_start rfl F N (by k_mem) (by lia) (PrsInv (pairAtX kd XS) [(wr, instObj 102 wd), (wd, dictOf [] 0), (T1, W.listOf ts.toArray 0), (D2, LCg.lst ys), (L + 1 + 1 + 1, oW), (L + 1 + 1, oT), (L + 1, oK)]) ⟨[], (List.append_nil _).symm, rfl, fun j v h => by simp at h⟩ ?_ ?_ ?_
  · rintro i ys2 nw ⟨prs, rfl, -⟩
    exact .tail _ (.tail _ (.head _))
  · rintro i ys2 nw hi ⟨prs, rfl, hyl2, hprs⟩ e it v t oE oI oC C D7 m₂ h₅ tk₅ E' hv hoC hm₂ hm₃ F₅ N₅ off₅ ne
    obtain ⟨x, t5, rfl, hx⟩ := strs_get hts hv
    have hxt := hXt x (List.mem_of_getElem? hx)
    simp only [List.cons_append, List.nil_append] at N₅
    k_steps
    rename_i Fq Nq lq
    exact prs_end (pairAtX_mono kd XS) (base := [(wr, instObj 102 wd), (wd, dictOf [] 0), (T1, W.listOf ts.toArray 0), (D2, LCg.lst ys), (L + 1 + 1 + 1, oW), (L + 1 + 1, oT), (L + 1, oK)]) Fq Nq off₅ lq hyl2 hprs ⟨x, hx, _, _, _, _, rfl, .head _⟩
  · rintro g vs1 nw ⟨prs, rfl, hvl, hprs⟩
    intro V1 h₅ tk₅ F₅ N₅ off₅
    dsimp only
    simp only [List.cons_append, List.nil_append] at N₅
    clear off₅ F N
    k_steps
    refine unhold ?_
    k_dflt (refine assign_enum F₅ (by rfl) (by with_unfolding_all rfl) (by with_unfolding_all rfl) (by decide) (by rfl) (by decide) (by rfl) (by rfl) (by decide) (by rfl) (by rfl) ?_)
    k_steps
    refine unhold ?_
    refine enum_start rfl F₅ N₅ (by k_mem) (by lia) (PrsInv (twoAtX kd XS) ([(V1, LCg.lst vs1), (wr, instObj 102 wd), (wd, dictOf [] 0), (T1, W.listOf ts.toArray 0), (D2, LCg.lst ys), (L + 1 + 1 + 1, oW), (L + 1 + 1, oT), (L + 1, oK)] ++ prs)) ⟨[], (List.append_nil _).symm, rfl, fun j v h => by simp at h⟩ ?_ ?_ ?_
    · rintro i ys2 nw ⟨prs', rfl, -⟩
      exact .tail _ (.tail _ (.tail _ (.head _)))
    · rintro i ys2 nw hi ⟨prs', rfl, hyl2, hprs'⟩ e it v t oE oI oC C D7 m₂ h₆ tk₆ E' hv hoC hm₂ hm₃ F₆ N₆ off₆ ne
      obtain ⟨x, t5, rfl, hx⟩ := strs_get hts hv
      have hxt := hXt x (List.mem_of_getElem? hx)
      have N₇ := N₆
      simp only [List.cons_append, List.nil_append] at N₆
      clear N₇
      k_steps
      rename_i Fq Nq lq
      exact prs_end (twoAtX_mono kd XS) (base := [(V1, LCg.lst vs1), (wr, instObj 102 wd), (wd, dictOf [] 0), (T1, W.listOf ts.toArray 0), (D2, LCg.lst ys), (L + 1 + 1 + 1, oW), (L + 1 + 1, oT), (L + 1, oK)] ++ prs) Fq Nq off₆ lq hyl2 hprs' ⟨x, hx, _, _, _, _, rfl, .head _⟩
    · rintro g us1 nw ⟨prs', rfl, hul, hprs'⟩
      intro U1 h₆ tk₆ F₆ N₆ off₆
      dsimp only
      simp only [List.cons_append, List.nil_append] at N₆
      have hpr : ∀ (j : Nat) (v : Value), vs1[j]? = some v → pairAtX kd XS (prs ++ prs') v j := fun j v h => pairAtX_mono _ _ _ _ _ _ (fun q hq => List.mem_append.mpr (.inl hq)) (hprs j v h)
      have htl : ∀ (j : Nat) (v : Value), us1[j]? = some v → twoAtX kd XS (prs ++ prs') v j := fun j v h => twoAtX_mono _ _ _ _ _ _ (fun q hq => List.mem_append.mpr (.inr hq)) (hprs' j v h)
      clear hprs hprs' off₆ N₅ F₅
      generalize prs ++ prs' = P at *
      k_dflt (refine law_rest w p loose mean mg mb h₀ L fa cdv m₀ kd tK XS ts vs1 us1 ys cs P T1 D2 wr wd U1 V1 oW oT oK _ _ E hE' hts hXt hys hX7 hc7 dT dK hvl hul hpr htl ?F ?N ?hret K0 X T)
      case F => exact F₆
      case N => exact N₆
      case hret =>
        intro h7 tk7 m7 F7
        exact hret _ _ _ F7
end Mine
end
section
open PySem PySem.W PyProof.Rows PySem.Calls PySem.Spec
set_option maxRecDepth 100000
set_option maxHeartbeats 20000000
namespace Mine
theorem lines_M3 : True := by
  w_top off
  k_with_none
  k_with "eval Name" => (k_here; (with_reducible show wpAny _ _ (eval (PySem.Expr.Name _ _) (envOf _ _ _ _ _)) _ _ _); k_dflt (refine' ld ?zzk1 ?zzk2 ?_; (case zzk1 => k_asm); (case zzk2 => (repeat (first | assumption | exact if_pos rfl | refine (if_neg (by decide +kernel)).trans ?_))); k_whole))
  k_with "subscriptTail Name Name ref int" => (k_here; k_dflt (refine' item_pair ?zzk1 ?zzk2 ?zzk3 ?zzk4 ?zzk5 ?_ ?zzk6; (case zzk1 => k_asm); (case zzk2 => k_asm); (case zzk3 => lia); (case zzk4 => lia); (case zzk5 => lia); (case zzk6 => with_unfolding_all rfl); k_whole); intro _ _ _)
  k_with "compareOp Lt ref ref" => (k_here; k_dflt (refine' lt_at ?zzk1 ?zzk2 ?zzk3 ?zzk4 ?zzk5 ?_; (case zzk1 => k_asm); (case zzk2 => exact fun _ h => List.Mem.tail _ h); (case zzk3 => k_asm); (case zzk4 => k_asm); (case zzk5 => ktr_units); k_whole))
  k_with "setItem ref int ref" => (k_here; k_dflt (refine' set_at ?zzk1 ?zzk2 ?zzk3 ?zzk4 ?zzk5 ?zzk6 ?_; (case zzk1 => k_asm); (case zzk2 => first | k_asm | exact news_tail (by k_asm)); (case zzk3 => k_asm); (case zzk4 => lia); (case zzk5 => lia); (case zzk6 => lia); k_whole); intro _ _ _; (try k_sweep))
  k_with "exec While Compare cons nil" => refine hold ?_
  k_with "storeName" => (k_here; k_dflt (first | (refine' st_ofI ?zzk1 ?zzk2 ?_; (case zzk1 => k_asm); (case zzk2 => k_asm); k_whole; intro _ _ _ _ _) | (refine' st_ofS ?zzk1 ?zzk2 ?_; (case zzk1 => k_asm); (case zzk2 => k_asm); k_whole; intro _ _ _ _ _) | (refine' st_of ?zzk1 ?zzk2 ?_; (case zzk1 => k_asm); (case zzk2 => k_asm); k_whole; intro _ _ _ _)); (try k_sweep); (try dsimp only))
  k_with "binaryOp RShift int int" => refine rshift_one ?_
  k_with "call builtin:len" => (k_here; (with_reducible show wpAny _ _ (call (Value.builtin "len") [Value.ref _]) _ _ _); k_dflt (refine' len_at ?zzk1 ?zzk2 ?zzk3 ?_; (case zzk1 => k_asm); (case zzk2 => k_mem); (case zzk3 => (try simp only [List.length_append, List.length_singleton, List.length_set]); lia); k_whole); intro _ _; (try dsimp only))
  k_with "subscriptTail Name Constant ref int" => (k_here; k_dflt (refine' item_pair ?zzk1 ?zzk2 ?zzk3 ?zzk4 ?zzk5 ?_ ?zzk6; (case zzk1 => k_asm); (case zzk2 => k_asm); (case zzk3 => lia); (case zzk4 => lia); (case zzk5 => lia); (case zzk6 => with_unfolding_all rfl); k_whole); intro _ _ _)
  k_with "call builtin:list.append" => (k_here; (with_reducible show wpAny _ _ (call (Value.builtin _) [Value.ref _, _]) _ _ _); k_dflt (refine' append_pair ?zzk1 ?zzk2 ?zzk3 ?zzk4 ?_; (case zzk1 => k_asm); (case zzk2 => k_asm); (case zzk3 => k_asm); (case zzk4 => lia); k_whole); intro _ _ _ _; (try k_sweep); (try dsimp only))
  k_with "call builtin:list.pop" => (k_here; (with_reducible show wpAny _ _ (call (Value.builtin _) [Value.ref _]) _ _ _); k_dflt (refine' pop_pair ?zzk1 ?zzk2 ?zzk3 ?zzk4 ?zzk5 ?_; (case zzk1 => k_asm); (case zzk2 => k_asm); (case zzk3 => k_asm); (case zzk4 => (try simp only [List.length_append, List.length_singleton]); lia); (case zzk5 => first | assumption | exact rfl); k_whole); intro _ _ _ _; (try k_sweep); (try dsimp only))
  k_with "truthy ref" => (k_here; k_dflt (refine' truthy_pair ?zzk1 ?zzk2 ?_; (case zzk1 => k_asm); (case zzk2 => lia); k_whole); intro _; (try dsimp only))
  k_with "WhlIf" => (refine' whlIf_split ?_ ?_ <;> (intro hc'; (try dsimp only); (try simp only [decide_eq_true_eq, decide_eq_false_iff_not] at hc'); (try (revert hc'; intro _))))
  k_with "WPost" => (try dsimp only); first | (refine wpost_brk ?_; (try dsimp only)) | (refine wpost_ret ?_; (try dsimp only)) | refine hold ?_
  k_with "CompSrc" => refine hold ?_
  k_with "call builtin:str.join" => (k_here; k_dflt (refine' join_at ?zzk1 ?zzk2 ?zzk3 ?_; (case zzk1 => k_asm); (case zzk2 => assumption); (case zzk3 => assumption); k_whole); intro _ _; (try dsimp only))
  k_with "binaryOp Pow int int" => (k_here; (with_reducible show wpAny _ _ (binaryOp _ (Value.int 10 _) (Value.int (4 - Nat.cast _) _)) _ _ _); k_dflt (refine' pow_ten ?zzh ?_; (case zzh => assumption); k_whole); intro _ _; (try dsimp only))
  k_with "binaryOp Mult int int" => (k_here; (with_reducible show wpAny _ _ (binaryOp _ (Value.int _ _) (Value.int (10 ^ (4 - _)) _)) _ _ _); k_dflt (refine' mul_ten ?zzh ?_; (case zzh => assumption); k_whole); intro _ _; (try dsimp only))
  k_with "call ref" => (k_here; (with_reducible show wpAny _ _ (call (Value.ref 167) _) _ _ _); k_dflt (refine' double_spec _ _ _ _ _ _ _ _ ?zzhx _ _ _ _ _ _ _ _ _ _ _ _ _ _ _ _ _ _ ?zzB ?zzF ?zzX ?zzN ?zzT ?zzhk ?zzhroom ?zzhun ?_; (case zzB => k_asm); (case zzF => k_asm); (case zzX => k_asm); (case zzN => k_asm); (case zzT => k_asm); (case zzhk => first | exact rfl | assumption); (case zzhx => k_asm); (case zzhroom => ktr_room); (case zzhun => ktr_units); k_whole); intro _ _ _ _; (try k_sweep); (try dsimp only))
  k_with "call type:enumerate" => refine hold ?_
  k_with "loadName" => (k_here; k_dflt (refine' ldn ?zzk1 ?zzk2 ?_; (case zzk1 => k_asm); (case zzk2 => (repeat (first | assumption | exact if_pos rfl | refine (if_neg (by decide +kernel)).trans ?_))); k_whole))
  k_with "call ref" => (k_here; (with_reducible show wpAny _ _ (call (Value.ref 167) _) _ _ _); k_dflt (refine' double_spec _ _ _ _ _ _ _ _ ?zzhx _ _ _ _ _ _ _ _ _ _ _ _ _ _ _ _ _ _ ?zzB ?zzF ?zzX ?zzN ?zzT ?zzhk ?zzhroom ?zzhun ?_; (case zzB => k_asm); (case zzF => k_asm); (case zzX => k_asm); (case zzN => k_asm); (case zzT => k_asm); (case zzhk => first | exact rfl | assumption); (case zzhx => k_asm); (case zzhroom => ktr_room); (case zzhun => ktr_units); k_whole); intro _ _ _ _; (try k_sweep); (try dsimp only))
  k_with "exec For Name Name cons nil" => (k_here; k_dflt (refine for_start ?_ ?zzhs; (case zzhs => intro _; rfl)))
  k_with "pyIter str" => refine hold ?_
  k_with "binaryOp Add ref ref" => (k_here; (with_reducible show wpAny _ _ (binaryOp _ (Value.ref _) (Value.ref _)) _ _ _); k_dflt (refine' add_at ?zzF ?zzN ?zza ?zzb ?zzz ?_; (case zzF => k_asm); (case zzN => k_asm); (case zza => k_mem); (case zzb => k_mem); (case zzz => (simp only [List.length_append, List.length_cons, List.length_nil]; lia)); k_whole); intro _ _ _ _ l1; (try k_lt l1); (try (revert l1; intro _)); (try k_sweep); (try dsimp only))
  k_with "call builtin:str.join" => (k_here; k_dflt (refine' join_in ?zzk1 ?zzk0 ?zzk2 ?zzk3 ?_; (case zzk1 => k_asm); (case zzk0 => k_mem); (case zzk2 => assumption); (case zzk3 => assumption); k_whole); intro _ _; (try dsimp only))
  k_with "Meet" => ((try dsimp only); first | (refine meet_ret ?_; (try dsimp only)) | refine hold ?_)
  k_with "call builtin:repr" => (k_here; k_dflt (refine' repr_wr ?zzk1 ?_; (case zzk1 => assumption); k_whole); intro _ _; (try dsimp only))
  k_with "call builtin:ascii" => (k_here; k_dflt (refine' ascii_wr_call ?zzk1 ?_; (case zzk1 => assumption); k_whole); intro _ _; (try dsimp only))
  k_with "call ref" => (k_here; (with_reducible show wpAny _ _ (call (Value.ref 148) _) _ _ _); k_dflt (refine' siftdown_spec _ _ _ _ _ _ _ _ _ _ ?zzhne _ ?hκ _ _ _ _ ?zzhs ?zzhp0 ?zzhpos ?zzhfit _ _ _ _ _ _ _ _ _ _ _ _ _ _ _ _ _ ?zzB ?zzF ?zzX ?zzN ?zzT ?zzhk ?zzhroom ?zzhun ?_; (case zzB => k_asm); (case zzF => k_asm); (case zzX => k_asm); (case zzN => k_asm); (case zzT => k_asm); (case zzhk => first | exact rfl | assumption); (case zzhne => k_asm); (case hκ => first | k_asm | exact pairs_set (by assumption) (by assumption) | exact pairs_app (by assumption) (by assumption)); (case zzhs => lia); (case zzhp0 => (try simp only [List.length_append, List.length_singleton, List.length_set]); lia); (case zzhpos => (try simp only [List.length_append, List.length_singleton, List.length_set]); lia); (case zzhfit => (try simp only [List.length_append, List.length_singleton, List.length_set]); lia); (case zzhroom => ktr_room); (case zzhun => ktr_units); k_whole); intro _ _ _ _ _ _; (try dsimp only))
  k_with "call ref" => (k_here; (with_reducible show wpAny _ _ (call (Value.ref 155) _) _ _ _); k_dflt (refine' siftup_spec _ _ _ _ _ _ _ _ _ _ ?zzhne _ ?hκ _ _ ?zzhp0 ?zzhpos ?zzhfit _ _ _ _ _ _ _ _ _ _ _ _ _ _ _ _ _ ?zzB ?zzF ?zzX ?zzN ?zzT ?zzhk ?zzhroom ?zzhun ?_; (case zzB => k_asm); (case zzF => k_asm); (case zzX => k_asm); (case zzN => k_asm); (case zzT => k_asm); (case zzhk => first | exact rfl | assumption); (case zzhne => k_asm); (case hκ => first | k_asm | exact pairs_set (by assumption) (by assumption) | exact pairs_app (by assumption) (by assumption)); (case zzhp0 => lia); (case zzhpos => (try simp only [List.length_append, List.length_singleton, List.length_set]); lia); (case zzhfit => (try simp only [List.length_append, List.length_singleton, List.length_set]); lia); (case zzhroom => ktr_room); (case zzhun => ktr_units); k_whole); intro _ _ _ _ _ _; (try dsimp only))
  k_with "call builtin:len" => (k_here; (with_reducible show wpAny _ _ (call (Value.builtin "len") [Value.ref _]) _ _ _); k_dflt (refine' len_seven ?zzk1 ?zzk2 ?zzk3 ?_; (case zzk1 => k_asm); (case zzk2 => k_mem); (case zzk3 => assumption); k_whole); intro _ _; (try dsimp only))
  k_with "binaryOp FloorDiv int int" => refine half_seven ?_
  k_with "exec For Name Call cons nil" => (k_here; k_dflt (refine for_start ?_ ?zzhs; (case zzhs => intro _; rfl)))
  k_with "call type:reversed" => (k_here; (with_reducible show wpAny _ _ (call (Value.type _) [Value.ref _]) _ _ _); k_dflt (refine' rev_range3 ?zzF ?zzN ?zzr ?_; (case zzF => k_asm); (case zzN => k_asm); (case zzr => k_asm); k_whole); intro _ _ _ _ _; (try k_sweep))
  k_with "pyIter ref" => (k_here; k_dflt (refine' iter_rangeI ?zzN ?zzm ?_; (case zzN => k_asm); (case zzm => exact List.Mem.head _); k_whole))
  trivial
theorem lines_M31 : True := by
  k_with "eval Name" => (k_here; (with_reducible show wpAny _ _ (eval (PySem.Expr.Name _ _) (envX _ _ _ _ _ _)) _ _ _); k_dflt (refine' nameX_L ?zzk1 ?zzk2 ?_ ?zzk3 ?zzk4 ?zzk5; (case zzk3 => exact rfl); (case zzk4 => exact rfl); (case zzk1 => k_asm); (case zzk2 => (repeat (first | assumption | exact if_pos rfl | refine (if_neg (by decide +kernel)).trans ?_))); (case zzk5 => decide); k_whole))
  trivial
noncomputable def MarkAdd : Prop := True
theorem lines_M32 : True := by
  k_with "CompSrc" => refine hold ?_
  k_with "eval ListComp" => (k_here; (with_reducible show wpAny _ _ (eval (PySem.Expr.ListComp _ [⟨PySem.Expr.Name _ _, _, _, _⟩] _ _) _) _ _ _); k_dflt (refine LCg.ListComp_U (F₀ := by k_asm) (by with_unfolding_all rfl) (by decide) (by rfl) (by decide) (by rfl) ?_))
  k_with "execs cons" => ((have _ : MarkAdd := by with_reducible assumption); (with_reducible show wpAny _ _ (execs (PySem.Stmt.Assign _ (PySem.Expr.ListComp _ _ _ _) _ :: _) _) _ _ _); refine hold ?_)
  k_with "call ref" => (k_here; (with_reducible show wpAny _ _ (call (Value.ref 160) _) _ _ _); k_dflt (refine' text_spec _ _ _ _ _ _ _ _ _ _ _ _ _ _ _ _ _ _ _ _ _ _ _ _ _ _ ?zzB ?zzF ?zzX ?zzN ?zzT ?zzhk ?zzhroom ?zzhun ?_; (case zzB => k_asm); (case zzF => k_asm); (case zzX => k_asm); (case zzN => k_asm); (case zzT => k_asm); (case zzhk => first | exact rfl | assumption); (case zzhroom => ktr_room); (case zzhun => ktr_units); k_whole); intro _ _ _ _ _ _ _; (try k_sweep); (try dsimp only))
  k_with "binaryOp Add ref ref" => refine hold ?_
  k_with "storeName" => refine hold ?_
  trivial
theorem ints_get {ws : List Value} {ns : List Int} (h : IntsAre ws ns) {i : Nat} {v : Value} (hv : ws.toArray[i]? = some v) : ∃ x t, v = .int x t := by
  rw [List.getElem?_toArray] at hv
  exact h.all v (List.mem_of_getElem? hv)
theorem ints_snoc {vs : List Value} {ns : List Int} {n : Int} {t : Tok} (h : IntsAre vs ns) : IntsAre (vs ++ [.int n t]) (ns ++ [n]) := ksk_snoc h
theorem law_texts (w : World) (p : Program) (loose : List Str) (mean : ExcName → Option Value) (mg mb : Str → Option Value) (h₀ : Heap) (L : Nat) (fa : Addr) (cdv : Value) (m₀ : Str → Option Value) (kd : Kd) (tK : Tok) (ys : List Value) (cs : List Int)
    (D2 : Nat) (o2 o3 oK : Obj) (s₁ : Shared) (Q : Flow → Shared → Prop) (E : Value → Shared → Prop)
    (hE : PassesOwn (model PySem.Challenge.rw_ij0044_01.row.prog w) (callerA.deeper (lawEnv L fa cdv)) (lawEnv L fa cdv) E)
    (hys : IntsAre ys cs) (hc7 : cs.length ≤ 7)
    (d3 : o3.data = .cell none) (d2 : o2.data = .cell none) (dK : oK.data = .cell (some (.str kd.str tK))) (hc3 : L + 1 + 1 + 1 ≠ D2) (hc4 : L + 1 + 1 ≠ D2)
    (F : Fr h₀ L s₁.heap (fun z => if z = Str.ofString "cells" then some (.ref D2) else m₀ z))
    (N : News h₀ L s₁.heap [(D2, LCg.lst ys), (L + 1 + 1 + 1, o3), (L + 1 + 1, o2), (L + 1, oK)])
    (hret : ∀ (h' : Heap) (tk' : Nat) (m' : Str → Option Value), Fr h₀ L h' m' → Q (.ret (.bool true)) { s₁ with heap := h', toks := tk' }) :
    Below callerA h₀ [] h₀ → (hd.heap_39 w.params).In h₀ → Top p loose mean mg mb h₀ → wpAny (model PySem.Challenge.rw_ij0044_01.row.prog w) (callerA.deeper (lawEnv L fa cdv)) (execs (lawDef.1.drop 2) (lawEnv L fa cdv)) Q E s₁ := by
  k_fill
  intro K0 KX T
  have hE' := hE
  unfold lawEnv at hE ⊢
  generalize hsc : lawScope = sc at hE ⊢
  conv at hsc => lhs; unfold lawScope; whnf
  subst hsc
  clear hE
  k_steps
  rename_i ta1 ka1 la1 D4 hb l2 D5 wt hc Fc Nc hI5 hC5 hL5 l3
  clear la1
  obtain ⟨l2, -⟩ := l2
  obtain ⟨l4, l3, -⟩ := l3
  obtain ⟨l0, Nd, s0⟩ : ∃ l0 : List Value, News h₀ L hc [(D5, W.listOf wt.toArray 0), (D4, W.listOf l0.toArray 0), (D2, LCg.lst ys), (L + 1 + 1 + 1, o3), (L + 1 + 1, o2), (L + 1, oK)] ∧ StrsAre l0 [Str.ofString "a", Str.ofString "a!", Str.ofString "'a", Str.ofString "\"", Str.ofString "'" ++ Str.ofString "\"", Str.ofString "\n", ⟨#[Int.toNat 233]⟩] := ⟨_, Nc, .cons _ _ (.cons _ _ (.cons _ _ (.cons _ _ (.cons _ _ (.cons _ _ (.cons _ _ .nil))))))⟩
  clear Nc
  refine unhold ?_
  dsimp only
  have hwt : wt.length ≤ 7 := by
    have := hI5.length
    have := hys.length
    lia
  refine LCg.CompSrc.ledger rfl Fc Nd (.head _) (by rw [sizeLine_eq, List.size_toArray]; lia) fun g => comp_inv (fun i ys' nw => nw = [(D5, W.listOf wt.toArray 0), (D4, W.listOf l0.toArray 0), (D2, LCg.lst ys), (L + 1 + 1 + 1, o3), (L + 1 + 1, o2), (L + 1, oK)] ∧ ∃ xs : List Str, xs.length = i ∧ StrsAre ys' xs ∧ ∀ x ∈ xs, IsText x) ⟨rfl, [], rfl, .nil, fun _ h => nomatch h⟩ ?_ ?_
  · rintro i ys' nw hi ⟨rfl, xs, hxs, hys', hall⟩ v I oI C oC D6 m₂ h₄ tk₄ E' hP hoC hm₂ F₄ N₄ off ne
    obtain ⟨x, t, rfl⟩ := ints_get hI5 hP
    clear Nd Fc l2 l3 l4
    k_steps
    rename_i hx5 Fx Nx
    exact ⟨_, _, _, rfl, Fx, Nx, off, .inr ⟨_, .head _, rfl, _, rfl⟩, rfl, xs ++ [_], by simp [hxs], strs_snoc hys', fun z hz => (List.mem_append.mp hz).elim (hall z) fun hz => List.mem_singleton.mp hz ▸ hx5⟩
  · rintro ys' nw ⟨rfl, xs, hxs, hys', hall⟩
    clear Nd Fc
    intro D6 h₄ tk₄ F₄ N₄ off
    dsimp only
    simp only [LCg.Off1, and_true] at off
    have hmark : MarkAdd := trivial
    have hl0 := strs_len s0
    have hyl : ys'.length ≤ 7 := by
      have := strs_len hys'
      rw [List.size_toArray] at hxs
      lia
    simp only [List.length_cons, List.length_nil] at hl0
    k_steps
    refine unhold ?_
    k_dflt (refine add_at F₄ N₄ (.tail _ (.tail _ (.head _))) (.head _) (by lia) fun T1 hd1 Fd Nd lT => ?_)
    have N9 : News h₀ L hd1 [(T1, W.listOf (l0 ++ ys').toArray 0), (D2, LCg.lst ys), (L + 1 + 1 + 1, o3), (L + 1 + 1, o2), (L + 1, oK)] := fun p hp => Nd p (by
      rcases List.mem_cons.mp hp with rfl | hp
      · exact .head _
      · exact .tail _ (.tail _ (.tail _ (.tail _ hp))))
    have t3 : L + 1 + 1 + 1 < T1 := lT _ (.tail _ (.tail _ (.tail _ (.tail _ (.head _)))))
    have t2 : L + 1 + 1 < T1 := lT _ (.tail _ (.tail _ (.tail _ (.tail _ (.tail _ (.head _))))))
    clear lT Nd F₄ N₄ off
    dsimp only
    k_steps
    refine unhold ?_
    k_dflt (refine storeX_C Fd N9 rfl (.tail (Nat.ne_of_gt t2) (.tail (hc4.symm) (.tail (Nat.succ_ne_self _) (.head (List.forall_mem_cons.mpr ⟨Nat.ne_of_lt (Nat.lt_succ_self _), List.forall_mem_nil _⟩))))) d2 ?_ rfl rfl)
    intro hf oT Ff Nf dT
    dsimp only at Nf ⊢
    clear N9 Fd
    k_steps
    rename_i wr wd hg Fg Ng lw1 lw2
    obtain ⟨-, -, lw1, -⟩ := lw1
    refine unhold ?_
    k_dflt (refine storeX_C Fg Ng rfl (.tail (Nat.ne_of_gt (Nat.lt_trans lw1 lw2)) (.tail (Nat.ne_of_gt lw1) (.tail (Nat.ne_of_gt t3) (.tail hc3.symm (.head (List.forall_mem_cons.mpr ⟨Nat.ne_of_lt (Nat.lt_succ_self _), List.forall_mem_cons.mpr ⟨Nat.ne_of_lt (Nat.lt_succ_of_lt (Nat.lt_succ_self _)), List.forall_mem_nil _⟩⟩)))))) d3 ?_ rfl rfl)
    intro hx oW Fx Nx dW
    dsimp only at Nx ⊢
    clear Ng Fg lw1 lw2 t2 t3
    k_steps
    have hts := s0.append' hys'
    have hXt : ∀ x ∈ [Str.ofString "a", Str.ofString "a!", Str.ofString "'a", Str.ofString "\"", Str.ofString "'" ++ Str.ofString "\"", Str.ofString "\n", ⟨#[Int.toNat 233]⟩] ++ xs, IsText x := fun x hx => (List.mem_append.mp hx).elim (fun h => by
      simp only [List.mem_cons, List.not_mem_nil, or_false] at h
      rcases h with rfl | rfl | rfl | rfl | rfl | rfl | rfl
      all_goals (unfold IsText; decide +kernel)) (hall x)
    refine unhold ?_
    k_dflt (refine law_mid w p loose mean mg mb h₀ L fa cdv m₀ kd tK _ _ ys cs T1 D2 wr wd oW oT oK _ _ E hE' hts hXt hys ?hX7 hc7 dT dK dW ?F ?N ?hret K0 KX T)
    case F => exact Fx
    case N => exact Nx
    case hX7 =>
      have := hI5.length
      rw [List.size_toArray] at hxs
      rw [List.length_append, hxs]
      simp only [List.length_cons, List.length_nil]
      lia
    case hret =>
      intro h7 tk7 m7 F7
      exact hret _ _ _ F7
end Mine
end
section
open PySem PySem.W PyProof.Rows PySem.Calls PySem.Spec
set_option maxRecDepth 100000
set_option maxHeartbeats 20000000
namespace Mine
theorem lines_M4 : True := by
  w_top off
  k_with_none
  k_with "eval Name" => (k_here; (with_reducible show wpAny _ _ (eval (PySem.Expr.Name _ _) (envOf _ _ _ _ _)) _ _ _); k_dflt (refine' ld ?zzk1 ?zzk2 ?_; (case zzk1 => k_asm); (case zzk2 => (repeat (first | assumption | exact if_pos rfl | refine (if_neg (by decide +kernel)).trans ?_))); k_whole))
  k_with "subscriptTail Name Name ref int" => (k_here; k_dflt (refine' item_pair ?zzk1 ?zzk2 ?zzk3 ?zzk4 ?zzk5 ?_ ?zzk6; (case zzk1 => k_asm); (case zzk2 => k_asm); (case zzk3 => lia); (case zzk4 => lia); (case zzk5 => lia); (case zzk6 => with_unfolding_all rfl); k_whole); intro _ _ _)
  k_with "compareOp Lt ref ref" => (k_here; k_dflt (refine' lt_at ?zzk1 ?zzk2 ?zzk3 ?zzk4 ?zzk5 ?_; (case zzk1 => k_asm); (case zzk2 => exact fun _ h => List.Mem.tail _ h); (case zzk3 => k_asm); (case zzk4 => k_asm); (case zzk5 => ktr_units); k_whole))
  k_with "setItem ref int ref" => (k_here; k_dflt (refine' set_at ?zzk1 ?zzk2 ?zzk3 ?zzk4 ?zzk5 ?zzk6 ?_; (case zzk1 => k_asm); (case zzk2 => first | k_asm | exact news_tail (by k_asm)); (case zzk3 => k_asm); (case zzk4 => lia); (case zzk5 => lia); (case zzk6 => lia); k_whole); intro _ _ _; (try k_sweep))
  k_with "exec While Compare cons nil" => refine hold ?_
  k_with "storeName" => (k_here; k_dflt (first | (refine' st_ofI ?zzk1 ?zzk2 ?_; (case zzk1 => k_asm); (case zzk2 => k_asm); k_whole; intro _ _ _ _ _) | (refine' st_ofS ?zzk1 ?zzk2 ?_; (case zzk1 => k_asm); (case zzk2 => k_asm); k_whole; intro _ _ _ _ _) | (refine' st_of ?zzk1 ?zzk2 ?_; (case zzk1 => k_asm); (case zzk2 => k_asm); k_whole; intro _ _ _ _)); (try k_sweep); (try dsimp only))
  k_with "binaryOp RShift int int" => refine rshift_one ?_
  k_with "call builtin:len" => (k_here; (with_reducible show wpAny _ _ (call (Value.builtin "len") [Value.ref _]) _ _ _); k_dflt (refine' len_at ?zzk1 ?zzk2 ?zzk3 ?_; (case zzk1 => k_asm); (case zzk2 => k_mem); (case zzk3 => (try simp only [List.length_append, List.length_singleton, List.length_set]); lia); k_whole); intro _ _; (try dsimp only))
  k_with "subscriptTail Name Constant ref int" => (k_here; k_dflt (refine' item_pair ?zzk1 ?zzk2 ?zzk3 ?zzk4 ?zzk5 ?_ ?zzk6; (case zzk1 => k_asm); (case zzk2 => k_asm); (case zzk3 => lia); (case zzk4 => lia); (case zzk5 => lia); (case zzk6 => with_unfolding_all rfl); k_whole); intro _ _ _)
  k_with "call builtin:list.append" => (k_here; (with_reducible show wpAny _ _ (call (Value.builtin _) [Value.ref _, _]) _ _ _); k_dflt (refine' append_pair ?zzk1 ?zzk2 ?zzk3 ?zzk4 ?_; (case zzk1 => k_asm); (case zzk2 => k_asm); (case zzk3 => k_asm); (case zzk4 => lia); k_whole); intro _ _ _ _; (try k_sweep); (try dsimp only))
  k_with "call builtin:list.pop" => (k_here; (with_reducible show wpAny _ _ (call (Value.builtin _) [Value.ref _]) _ _ _); k_dflt (refine' pop_pair ?zzk1 ?zzk2 ?zzk3 ?zzk4 ?zzk5 ?_; (case zzk1 => k_asm); (case zzk2 => k_asm); (case zzk3 => k_asm); (case zzk4 => (try simp only [List.length_append, List.length_singleton]); lia); (case zzk5 => first | assumption | exact rfl); k_whole); intro _ _ _ _; (try k_sweep); (try dsimp only))
  k_with "truthy ref" => (k_here; k_dflt (refine' truthy_pair ?zzk1 ?zzk2 ?_; (case zzk1 => k_asm); (case zzk2 => lia); k_whole); intro _; (try dsimp only))
  k_with "WhlIf" => (refine' whlIf_split ?_ ?_ <;> (intro hc'; (try dsimp only); (try simp only [decide_eq_true_eq, decide_eq_false_iff_not] at hc'); (try (revert hc'; intro _))))
  k_with "WPost" => (try dsimp only); first | (refine wpost_brk ?_; (try dsimp only)) | (refine wpost_ret ?_; (try dsimp only)) | refine hold ?_
  k_with "CompSrc" => refine hold ?_
  k_with "call builtin:str.join" => (k_here; k_dflt (refine' join_at ?zzk1 ?zzk2 ?zzk3 ?_; (case zzk1 => k_asm); (case zzk2 => assumption); (case zzk3 => assumption); k_whole); intro _ _; (try dsimp only))
  k_with "binaryOp Pow int int" => (k_here; (with_reducible show wpAny _ _ (binaryOp _ (Value.int 10 _) (Value.int (4 - Nat.cast _) _)) _ _ _); k_dflt (refine' pow_ten ?zzh ?_; (case zzh => assumption); k_whole); intro _ _; (try dsimp only))
  k_with "binaryOp Mult int int" => (k_here; (with_reducible show wpAny _ _ (binaryOp _ (Value.int _ _) (Value.int (10 ^ (4 - _)) _)) _ _ _); k_dflt (refine' mul_ten ?zzh ?_; (case zzh => assumption); k_whole); intro _ _; (try dsimp only))
  k_with "call ref" => (k_here; (with_reducible show wpAny _ _ (call (Value.ref 167) _) _ _ _); k_dflt (refine' double_spec _ _ _ _ _ _ _ _ ?zzhx _ _ _ _ _ _ _ _ _ _ _ _ _ _ _ _ _ _ ?zzB ?zzF ?zzX ?zzN ?zzT ?zzhk ?zzhroom ?zzhun ?_; (case zzB => k_asm); (case zzF => k_asm); (case zzX => k_asm); (case zzN => k_asm); (case zzT => k_asm); (case zzhk => first | exact rfl | assumption); (case zzhx => k_asm); (case zzhroom => ktr_room); (case zzhun => ktr_units); k_whole); intro _ _ _ _; (try k_sweep); (try dsimp only))
  k_with "call type:enumerate" => refine hold ?_
  k_with "loadName" => (k_here; k_dflt (refine' ldn ?zzk1 ?zzk2 ?_; (case zzk1 => k_asm); (case zzk2 => (repeat (first | assumption | exact if_pos rfl | refine (if_neg (by decide +kernel)).trans ?_))); k_whole))
  k_with "call ref" => (k_here; (with_reducible show wpAny _ _ (call (Value.ref 167) _) _ _ _); k_dflt (refine' double_spec _ _ _ _ _ _ _ _ ?zzhx _ _ _ _ _ _ _ _ _ _ _ _ _ _ _ _ _ _ ?zzB ?zzF ?zzX ?zzN ?zzT ?zzhk ?zzhroom ?zzhun ?_; (case zzB => k_asm); (case zzF => k_asm); (case zzX => k_asm); (case zzN => k_asm); (case zzT => k_asm); (case zzhk => first | exact rfl | assumption); (case zzhx => k_asm); (case zzhroom => ktr_room); (case zzhun => ktr_units); k_whole); intro _ _ _ _; (try k_sweep); (try dsimp only))
  k_with "exec For Name Name cons nil" => (k_here; k_dflt (refine for_start ?_ ?zzhs; (case zzhs => intro _; rfl)))
  k_with "pyIter str" => refine hold ?_
  k_with "binaryOp Add ref ref" => (k_here; (with_reducible show wpAny _ _ (binaryOp _ (Value.ref _) (Value.ref _)) _ _ _); k_dflt (refine' add_at ?zzF ?zzN ?zza ?zzb ?zzz ?_; (case zzF => k_asm); (case zzN => k_asm); (case zza => k_mem); (case zzb => k_mem); (case zzz => (simp only [List.length_append, List.length_cons, List.length_nil]; lia)); k_whole); intro _ _ _ _ l1; (try k_lt l1); (try (revert l1; intro _)); (try k_sweep); (try dsimp only))
  k_with "call builtin:str.join" => (k_here; k_dflt (refine' join_in ?zzk1 ?zzk0 ?zzk2 ?zzk3 ?_; (case zzk1 => k_asm); (case zzk0 => k_mem); (case zzk2 => assumption); (case zzk3 => assumption); k_whole); intro _ _; (try dsimp only))
  k_with "Meet" => ((try dsimp only); first | (refine meet_ret ?_; (try dsimp only)) | refine hold ?_)
  k_with "call builtin:repr" => (k_here; k_dflt (refine' repr_wr ?zzk1 ?_; (case zzk1 => assumption); k_whole); intro _ _; (try dsimp only))
  k_with "call builtin:ascii" => (k_here; k_dflt (refine' ascii_wr_call ?zzk1 ?_; (case zzk1 => assumption); k_whole); intro _ _; (try dsimp only))
  k_with "call ref" => (k_here; (with_reducible show wpAny _ _ (call (Value.ref 148) _) _ _ _); k_dflt (refine' siftdown_spec _ _ _ _ _ _ _ _ _ _ ?zzhne _ ?hκ _ _ _ _ ?zzhs ?zzhp0 ?zzhpos ?zzhfit _ _ _ _ _ _ _ _ _ _ _ _ _ _ _ _ _ ?zzB ?zzF ?zzX ?zzN ?zzT ?zzhk ?zzhroom ?zzhun ?_; (case zzB => k_asm); (case zzF => k_asm); (case zzX => k_asm); (case zzN => k_asm); (case zzT => k_asm); (case zzhk => first | exact rfl | assumption); (case zzhne => k_asm); (case hκ => first | k_asm | exact pairs_set (by assumption) (by assumption) | exact pairs_app (by assumption) (by assumption)); (case zzhs => lia); (case zzhp0 => (try simp only [List.length_append, List.length_singleton, List.length_set]); lia); (case zzhpos => (try simp only [List.length_append, List.length_singleton, List.length_set]); lia); (case zzhfit => (try simp only [List.length_append, List.length_singleton, List.length_set]); lia); (case zzhroom => ktr_room); (case zzhun => ktr_units); k_whole); intro _ _ _ _ _ _; (try dsimp only))
  k_with "call ref" => (k_here; (with_reducible show wpAny _ _ (call (Value.ref 155) _) _ _ _); k_dflt (refine' siftup_spec _ _ _ _ _ _ _ _ _ _ ?zzhne _ ?hκ _ _ ?zzhp0 ?zzhpos ?zzhfit _ _ _ _ _ _ _ _ _ _ _ _ _ _ _ _ _ ?zzB ?zzF ?zzX ?zzN ?zzT ?zzhk ?zzhroom ?zzhun ?_; (case zzB => k_asm); (case zzF => k_asm); (case zzX => k_asm); (case zzN => k_asm); (case zzT => k_asm); (case zzhk => first | exact rfl | assumption); (case zzhne => k_asm); (case hκ => first | k_asm | exact pairs_set (by assumption) (by assumption) | exact pairs_app (by assumption) (by assumption)); (case zzhp0 => lia); (case zzhpos => (try simp only [List.length_append, List.length_singleton, List.length_set]); lia); (case zzhfit => (try simp only [List.length_append, List.length_singleton, List.length_set]); lia); (case zzhroom => ktr_room); (case zzhun => ktr_units); k_whole); intro _ _ _ _ _ _; (try dsimp only))
  k_with "call builtin:len" => (k_here; (with_reducible show wpAny _ _ (call (Value.builtin "len") [Value.ref _]) _ _ _); k_dflt (refine' len_seven ?zzk1 ?zzk2 ?zzk3 ?_; (case zzk1 => k_asm); (case zzk2 => k_mem); (case zzk3 => assumption); k_whole); intro _ _; (try dsimp only))
  k_with "binaryOp FloorDiv int int" => refine half_seven ?_
  k_with "exec For Name Call cons nil" => (k_here; k_dflt (refine for_start ?_ ?zzhs; (case zzhs => intro _; rfl)))
  k_with "call type:reversed" => (k_here; (with_reducible show wpAny _ _ (call (Value.type _) [Value.ref _]) _ _ _); k_dflt (refine' rev_range3 ?zzF ?zzN ?zzr ?_; (case zzF => k_asm); (case zzN => k_asm); (case zzr => k_asm); k_whole); intro _ _ _ _ _; (try k_sweep))
  k_with "pyIter ref" => (k_here; k_dflt (refine' iter_rangeI ?zzN ?zzm ?_; (case zzN => k_asm); (case zzm => exact List.Mem.head _); k_whole))
  trivial
theorem lines_M41 : True := by
  k_with "eval Name" => (k_here; (with_reducible show wpAny _ _ (eval (PySem.Expr.Name _ _) (envX _ _ _ _ _ _)) _ _ _); k_dflt (refine' nameX_L ?zzk1 ?zzk2 ?_ ?zzk3 ?zzk4 ?zzk5; (case zzk3 => exact rfl); (case zzk4 => exact rfl); (case zzk1 => k_asm); (case zzk2 => (repeat (first | assumption | exact if_pos rfl | refine (if_neg (by decide +kernel)).trans ?_))); (case zzk5 => decide); k_whole))
  k_with "storeName" => refine hold ?_
  trivial
theorem kind_of (n : Int) : ∃ kd : Kd, Txt.item (Str.ofString "ras") (n.fmod 3) = kd.str := by
  have h1 := Int.fmod_nonneg_of_pos n (show (0 : Int) < 3 by decide)
  have h2 := Int.fmod_lt_of_pos n (show (0 : Int) < 3 by decide)
  generalize n.fmod 3 = z at h1 h2
  have : z = 0 ∨ z = 1 ∨ z = 2 := by lia
  rcases this with rfl | rfl | rfl
  · exact ⟨.r, by decide +kernel⟩
  · exact ⟨.a, by decide +kernel⟩
  · exact ⟨.s, by decide +kernel⟩
theorem law_kind (w : World) (p : Program) (loose : List Str) (mean : ExcName → Option Value) (mg mb : Str → Option Value) (h₀ : Heap) (L : Nat) (fa : Addr) (cdv : Value) (m₀ : Str → Option Value) (ys : List Value) (cs : List Int)
    (D2 : Nat) (o1 o2 o3 : Obj) (s₁ : Shared) (Q : Flow → Shared → Prop) (E : Value → Shared → Prop)
    (hE : PassesOwn (model PySem.Challenge.rw_ij0044_01.row.prog w) (callerA.deeper (lawEnv L fa cdv)) (lawEnv L fa cdv) E)
    (hys : IntsAre ys cs) (hc7 : cs.length ≤ 7)
    (d3 : o3.data = .cell none) (d2 : o2.data = .cell none) (d1 : o1.data = .cell none) (hc3 : L + 1 + 1 + 1 ≠ D2) (hc4 : L + 1 + 1 ≠ D2) (hc5 : L + 1 ≠ D2)
    (F₃ : Fr h₀ L s₁.heap (fun z => if z = Str.ofString "cells" then some (.ref D2) else m₀ z))
    (N₃ : News h₀ L s₁.heap [(D2, LCg.lst ys), (L + 1 + 1 + 1, o3), (L + 1 + 1, o2), (L + 1, o1)])
    (hret : ∀ (h' : Heap) (tk' : Nat) (m' : Str → Option Value), Fr h₀ L h' m' → Q (.ret (.bool true)) { s₁ with heap := h', toks := tk' }) :
    Below callerA h₀ [] h₀ → (hd.heap_39 w.params).In h₀ → Top p loose mean mg mb h₀ → wpAny (model PySem.Challenge.rw_ij0044_01.row.prog w) (callerA.deeper (lawEnv L fa cdv)) (execs (lawDef.1.drop 1) (lawEnv L fa cdv)) Q E s₁ := by
  k_fill
  intro K0 KX T
  have hE' := hE
  unfold lawEnv at hE ⊢
  generalize hsc : lawScope = sc at hE ⊢
  conv at hsc => lhs; unfold lawScope; whnf
  subst hsc
  clear hE
  k_steps
  rename_i q1 q2 q3 q4 q5 q6 Fk Nk hI l1 t1 kx1
  clear q3 hI l1 kx1
  have Nd : News h₀ L q6 [(D2, LCg.lst ys), (L + 1 + 1 + 1, o3), (L + 1 + 1, o2), (L + 1, o1)] := fun p hp => Nk p (.tail _ (.tail _ hp))
  clear Nk
  obtain ⟨kd, hkd⟩ := kind_of ((cs ++ [0]).getD (Int.toNat 0) 0)
  rw [hkd]
  refine unhold ?_
  k_dflt (refine storeX_C Fk Nd rfl (.tail hc5.symm (.tail (Nat.ne_of_gt (Nat.lt_succ_of_lt (Nat.lt_succ_self _))) (.tail (Nat.succ_ne_self _) (.head (List.forall_mem_nil _))))) d1 ?_ rfl rfl)
  intro h' oK F' N' dK
  dsimp only at N' ⊢
  clear Nd Fk hkd
  k_dflt (refine law_texts w p loose mean mg mb h₀ L fa cdv m₀ kd _ ys cs D2 o2 o3 oK _ _ E hE' hys hc7 d3 d2 dK hc3 hc4 F' N' (fun h7 tk7 m7 F7 => hret _ _ _ F7) K0 KX T)
end Mine
end
section
open PySem PySem.W PyProof.Rows PySem.Calls PySem.Spec
set_option maxRecDepth 100000
set_option maxHeartbeats 20000000
namespace Mine
theorem lines_L1 : True := by
  w_top off
  k_with_none
  k_with "eval Name" => (k_here; (with_reducible show wpAny _ _ (eval (PySem.Expr.Name _ _) (envOf _ _ _ _ _)) _ _ _); k_dflt (refine' ld ?zzk1 ?zzk2 ?_; (case zzk1 => k_asm); (case zzk2 => (repeat (first | assumption | exact if_pos rfl | refine (if_neg (by decide +kernel)).trans ?_))); k_whole))
  k_with "subscriptTail Name Name ref int" => (k_here; k_dflt (refine' item_pair ?zzk1 ?zzk2 ?zzk3 ?zzk4 ?zzk5 ?_ ?zzk6; (case zzk1 => k_asm); (case zzk2 => k_asm); (case zzk3 => lia); (case zzk4 => lia); (case zzk5 => lia); (case zzk6 => with_unfolding_all rfl); k_whole); intro _ _ _)
  k_with "compareOp Lt ref ref" => (k_here; k_dflt (refine' lt_at ?zzk1 ?zzk2 ?zzk3 ?zzk4 ?zzk5 ?_; (case zzk1 => k_asm); (case zzk2 => exact fun _ h => List.Mem.tail _ h); (case zzk3 => k_asm); (case zzk4 => k_asm); (case zzk5 => ktr_units); k_whole))
  k_with "setItem ref int ref" => (k_here; k_dflt (refine' set_at ?zzk1 ?zzk2 ?zzk3 ?zzk4 ?zzk5 ?zzk6 ?_; (case zzk1 => k_asm); (case zzk2 => first | k_asm | exact news_tail (by k_asm)); (case zzk3 => k_asm); (case zzk4 => lia); (case zzk5 => lia); (case zzk6 => lia); k_whole); intro _ _ _; (try k_sweep))
  k_with "exec While Compare cons nil" => refine hold ?_
  k_with "storeName" => (k_here; k_dflt (first | (refine' st_ofI ?zzk1 ?zzk2 ?_; (case zzk1 => k_asm); (case zzk2 => k_asm); k_whole; intro _ _ _ _ _) | (refine' st_ofS ?zzk1 ?zzk2 ?_; (case zzk1 => k_asm); (case zzk2 => k_asm); k_whole; intro _ _ _ _ _) | (refine' st_of ?zzk1 ?zzk2 ?_; (case zzk1 => k_asm); (case zzk2 => k_asm); k_whole; intro _ _ _ _)); (try k_sweep); (try dsimp only))
  k_with "binaryOp RShift int int" => refine rshift_one ?_
  k_with "call builtin:len" => (k_here; (with_reducible show wpAny _ _ (call (Value.builtin "len") [Value.ref _]) _ _ _); k_dflt (refine' len_at ?zzk1 ?zzk2 ?zzk3 ?_; (case zzk1 => k_asm); (case zzk2 => k_mem); (case zzk3 => (try simp only [List.length_append, List.length_singleton, List.length_set]); lia); k_whole); intro _ _; (try dsimp only))
  k_with "subscriptTail Name Constant ref int" => (k_here; k_dflt (refine' item_pair ?zzk1 ?zzk2 ?zzk3 ?zzk4 ?zzk5 ?_ ?zzk6; (case zzk1 => k_asm); (case zzk2 => k_asm); (case zzk3 => lia); (case zzk4 => lia); (case zzk5 => lia); (case zzk6 => with_unfolding_all rfl); k_whole); intro _ _ _)
  k_with "call builtin:list.append" => (k_here; (with_reducible show wpAny _ _ (call (Value.builtin _) [Value.ref _, _]) _ _ _); k_dflt (refine' append_pair ?zzk1 ?zzk2 ?zzk3 ?zzk4 ?_; (case zzk1 => k_asm); (case zzk2 => k_asm); (case zzk3 => k_asm); (case zzk4 => lia); k_whole); intro _ _ _ _; (try k_sweep); (try dsimp only))
  k_with "call builtin:list.pop" => (k_here; (with_reducible show wpAny _ _ (call (Value.builtin _) [Value.ref _]) _ _ _); k_dflt (refine' pop_pair ?zzk1 ?zzk2 ?zzk3 ?zzk4 ?zzk5 ?_; (case zzk1 => k_asm); (case zzk2 => k_asm); (case zzk3 => k_asm); (case zzk4 => (try simp only [List.length_append, List.length_singleton]); lia); (case zzk5 => first | assumption | exact rfl); k_whole); intro _ _ _ _; (try k_sweep); (try dsimp only))
  k_with "truthy ref" => (k_here; k_dflt (refine' truthy_pair ?zzk1 ?zzk2 ?_; (case zzk1 => k_asm); (case zzk2 => lia); k_whole); intro _; (try dsimp only))
  k_with "WhlIf" => (refine' whlIf_split ?_ ?_ <;> (intro hc'; (try dsimp only); (try simp only [decide_eq_true_eq, decide_eq_false_iff_not] at hc'); (try (revert hc'; intro _))))
  k_with "WPost" => (try dsimp only); first | (refine wpost_brk ?_; (try dsimp only)) | (refine wpost_ret ?_; (try dsimp only)) | refine hold ?_
  k_with "CompSrc" => refine hold ?_
  k_with "call builtin:str.join" => (k_here; k_dflt (refine' join_at ?zzk1 ?zzk2 ?zzk3 ?_; (case zzk1 => k_asm); (case zzk2 => assumption); (case zzk3 => assumption); k_whole); intro _ _; (try dsimp only))
  k_with "binaryOp Pow int int" => (k_here; (with_reducible show wpAny _ _ (binaryOp _ (Value.int 10 _) (Value.int (4 - Nat.cast _) _)) _ _ _); k_dflt (refine' pow_ten ?zzh ?_; (case zzh => assumption); k_whole); intro _ _; (try dsimp only))
  k_with "binaryOp Mult int int" => (k_here; (with_reducible show wpAny _ _ (binaryOp _ (Value.int _ _) (Value.int (10 ^ (4 - _)) _)) _ _ _); k_dflt (refine' mul_ten ?zzh ?_; (case zzh => assumption); k_whole); intro _ _; (try dsimp only))
  k_with "call ref" => (k_here; (with_reducible show wpAny _ _ (call (Value.ref 167) _) _ _ _); k_dflt (refine' double_spec _ _ _ _ _ _ _ _ ?zzhx _ _ _ _ _ _ _ _ _ _ _ _ _ _ _ _ _ _ ?zzB ?zzF ?zzX ?zzN ?zzT ?zzhk ?zzhroom ?zzhun ?_; (case zzB => k_asm); (case zzF => k_asm); (case zzX => k_asm); (case zzN => k_asm); (case zzT => k_asm); (case zzhk => first | exact rfl | assumption); (case zzhx => k_asm); (case zzhroom => ktr_room); (case zzhun => ktr_units); k_whole); intro _ _ _ _; (try k_sweep); (try dsimp only))
  k_with "call type:enumerate" => refine hold ?_
  k_with "loadName" => (k_here; k_dflt (refine' ldn ?zzk1 ?zzk2 ?_; (case zzk1 => k_asm); (case zzk2 => (repeat (first | assumption | exact if_pos rfl | refine (if_neg (by decide +kernel)).trans ?_))); k_whole))
  k_with "call ref" => (k_here; (with_reducible show wpAny _ _ (call (Value.ref 167) _) _ _ _); k_dflt (refine' double_spec _ _ _ _ _ _ _ _ ?zzhx _ _ _ _ _ _ _ _ _ _ _ _ _ _ _ _ _ _ ?zzB ?zzF ?zzX ?zzN ?zzT ?zzhk ?zzhroom ?zzhun ?_; (case zzB => k_asm); (case zzF => k_asm); (case zzX => k_asm); (case zzN => k_asm); (case zzT => k_asm); (case zzhk => first | exact rfl | assumption); (case zzhx => k_asm); (case zzhroom => ktr_room); (case zzhun => ktr_units); k_whole); intro _ _ _ _; (try k_sweep); (try dsimp only))
  k_with "exec For Name Name cons nil" => (k_here; k_dflt (refine for_start ?_ ?zzhs; (case zzhs => intro _; rfl)))
  k_with "pyIter str" => refine hold ?_
  k_with "binaryOp Add ref ref" => (k_here; (with_reducible show wpAny _ _ (binaryOp _ (Value.ref _) (Value.ref _)) _ _ _); k_dflt (refine' add_at ?zzF ?zzN ?zza ?zzb ?zzz ?_; (case zzF => k_asm); (case zzN => k_asm); (case zza => k_mem); (case zzb => k_mem); (case zzz => (simp only [List.length_append, List.length_cons, List.length_nil]; lia)); k_whole); intro _ _ _ _ l1; (try k_lt l1); (try (revert l1; intro _)); (try k_sweep); (try dsimp only))
  k_with "call builtin:str.join" => (k_here; k_dflt (refine' join_in ?zzk1 ?zzk0 ?zzk2 ?zzk3 ?_; (case zzk1 => k_asm); (case zzk0 => k_mem); (case zzk2 => assumption); (case zzk3 => assumption); k_whole); intro _ _; (try dsimp only))
  k_with "Meet" => ((try dsimp only); first | (refine meet_ret ?_; (try dsimp only)) | refine hold ?_)
  k_with "call builtin:repr" => (k_here; k_dflt (refine' repr_wr ?zzk1 ?_; (case zzk1 => assumption); k_whole); intro _ _; (try dsimp only))
  k_with "call builtin:ascii" => (k_here; k_dflt (refine' ascii_wr_call ?zzk1 ?_; (case zzk1 => assumption); k_whole); intro _ _; (try dsimp only))
  k_with "call ref" => (k_here; (with_reducible show wpAny _ _ (call (Value.ref 148) _) _ _ _); k_dflt (refine' siftdown_spec _ _ _ _ _ _ _ _ _ _ ?zzhne _ ?hκ _ _ _ _ ?zzhs ?zzhp0 ?zzhpos ?zzhfit _ _ _ _ _ _ _ _ _ _ _ _ _ _ _ _ _ ?zzB ?zzF ?zzX ?zzN ?zzT ?zzhk ?zzhroom ?zzhun ?_; (case zzB => k_asm); (case zzF => k_asm); (case zzX => k_asm); (case zzN => k_asm); (case zzT => k_asm); (case zzhk => first | exact rfl | assumption); (case zzhne => k_asm); (case hκ => first | k_asm | exact pairs_set (by assumption) (by assumption) | exact pairs_app (by assumption) (by assumption)); (case zzhs => lia); (case zzhp0 => (try simp only [List.length_append, List.length_singleton, List.length_set]); lia); (case zzhpos => (try simp only [List.length_append, List.length_singleton, List.length_set]); lia); (case zzhfit => (try simp only [List.length_append, List.length_singleton, List.length_set]); lia); (case zzhroom => ktr_room); (case zzhun => ktr_units); k_whole); intro _ _ _ _ _ _; (try dsimp only))
  k_with "call ref" => (k_here; (with_reducible show wpAny _ _ (call (Value.ref 155) _) _ _ _); k_dflt (refine' siftup_spec _ _ _ _ _ _ _ _ _ _ ?zzhne _ ?hκ _ _ ?zzhp0 ?zzhpos ?zzhfit _ _ _ _ _ _ _ _ _ _ _ _ _ _ _ _ _ ?zzB ?zzF ?zzX ?zzN ?zzT ?zzhk ?zzhroom ?zzhun ?_; (case zzB => k_asm); (case zzF => k_asm); (case zzX => k_asm); (case zzN => k_asm); (case zzT => k_asm); (case zzhk => first | exact rfl | assumption); (case zzhne => k_asm); (case hκ => first | k_asm | exact pairs_set (by assumption) (by assumption) | exact pairs_app (by assumption) (by assumption)); (case zzhp0 => lia); (case zzhpos => (try simp only [List.length_append, List.length_singleton, List.length_set]); lia); (case zzhfit => (try simp only [List.length_append, List.length_singleton, List.length_set]); lia); (case zzhroom => ktr_room); (case zzhun => ktr_units); k_whole); intro _ _ _ _ _ _; (try dsimp only))
  k_with "call builtin:len" => (k_here; (with_reducible show wpAny _ _ (call (Value.builtin "len") [Value.ref _]) _ _ _); k_dflt (refine' len_seven ?zzk1 ?zzk2 ?zzk3 ?_; (case zzk1 => k_asm); (case zzk2 => k_mem); (case zzk3 => assumption); k_whole); intro _ _; (try dsimp only))
  k_with "binaryOp FloorDiv int int" => refine half_seven ?_
  k_with "exec For Name Call cons nil" => (k_here; k_dflt (refine for_start ?_ ?zzhs; (case zzhs => intro _; rfl)))
  k_with "call type:reversed" => (k_here; (with_reducible show wpAny _ _ (call (Value.type _) [Value.ref _]) _ _ _); k_dflt (refine' rev_range3 ?zzF ?zzN ?zzr ?_; (case zzF => k_asm); (case zzN => k_asm); (case zzr => k_asm); k_whole); intro _ _ _ _ _; (try k_sweep))
  k_with "pyIter ref" => (k_here; k_dflt (refine' iter_rangeI ?zzN ?zzm ?_; (case zzN => k_asm); (case zzm => exact List.Mem.head _); k_whole))
  trivial
theorem lines_L11 : True := by
  k_with "CompSrc" => refine hold ?_
  k_with "eval ListComp" => (k_here; (with_reducible show wpAny _ _ (eval (PySem.Expr.ListComp _ [⟨PySem.Expr.Name _ _, _, _, _⟩] _ _) _) _ _ _); k_dflt (refine LCg.ListComp_U (F₀ := by k_asm) (by with_unfolding_all rfl) (by decide) (by rfl) (by decide) (by rfl) ?_))
  trivial
theorem holds : PySem.Challenge.rw_ij0044_01.Holds := hd (by
  k_go0
  all_goals try k_fold
  k_steps
  rename_i w s₀ s₁ mg mb G Y fa o pm doc ho hg KX X V GL T B TE TW wa wb M wc cd hcd ns hs hlay0 hLay hr0 hl2 la lb sl vs lc hL ra w1 r0 hI hrr hcond hcond' K0 hD h₁ tk₁ o3 o2 o1 d3 d2 d1 X0 D ws h F N hI1 hC1 hL1 l1
  replace d1 : o1.data = .cell none := d1
  replace d2 : o2.data = .cell none := d2
  replace d3 : o3.data = .cell none := d3
  generalize hm₀ : bindL _ _ _ = m₀ at F ⊢
  clear hm₀
  have hws : ws.length ≤ 7 := by
    have := hI1.length
    lia
  refine unhold ?_
  refine LCg.CompSrc.ledger rfl F N (.head _) (by rw [sizeLine_eq, List.size_toArray]; lia) fun g => comp_inv (fun i ys nw => nw = [(D, W.listOf ws.toArray 0), (s₁.heap.objs.size + 1 + 1 + 1, o3), (s₁.heap.objs.size + 1 + 1, o2), (s₁.heap.objs.size + 1, o1)] ∧ ∃ cs : List Int, cs.length = i ∧ IntsAre ys cs) ⟨rfl, [], rfl, .nil⟩ ?_ ?_
  · rintro i ys nw hi ⟨rfl, cs, hcs, hys⟩ v I oI C oC D2 m₂ h₃ tk₃ E' hP hoC hm₂ F₃ N₃ off ne
    obtain ⟨x, t, rfl⟩ := ints_get hI1 hP
    k_steps
    exact ⟨_, _, _, rfl, by assumption, by assumption, off, .inr ⟨_, .head _, rfl, _, rfl⟩, rfl, cs ++ [_], by simp [hcs], ints_snoc hys⟩
  · rintro ys nw ⟨rfl, cs, hcs, hys⟩
    intro D2 h₃ tk₃ F₃ N₃ off
    dsimp only
    simp only [LCg.Off1, and_true] at off
    obtain ⟨hc2, hc3, hc4, hc5⟩ := off
    replace N₃ : News s₁.heap s₁.heap.objs.size h₃ [(D2, LCg.lst ys), (s₁.heap.objs.size + 1 + 1 + 1, o3), (s₁.heap.objs.size + 1 + 1, o2), (s₁.heap.objs.size + 1, o1)] := fun p hp => N₃ p (by
      rcases List.mem_cons.mp hp with rfl | hp
      · exact .head _
      · exact .tail _ (.tail _ hp))
    clear hc2 l1 hI1 hC1 hL1
    refine wpAny_noRaise ?_
    k_dflt (refine law_kind w _ _ _ mg mb s₁.heap s₁.heap.objs.size fa (.ref wc) m₀ ys cs D2 o1 o2 o3 _ qk _ PassesOwn.never hys ?hc7 d3 d2 d1 hc3 hc4 hc5 ?F ?N ?hret K0 KX T)
    case F => exact F₃
    case N => exact N₃
    case hc7 =>
      rw [List.size_toArray] at hcs
      lia
    case hret =>
      intro h7 tk7 m7 F7
      k_steps
  )
end Mine
end
theorem PySem.Challenge.cw_ij0044_01_holds : PySem.Challenge.rw_ij0044_01.Holds :=
  Mine.holds
