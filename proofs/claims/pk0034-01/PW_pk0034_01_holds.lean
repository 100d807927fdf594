import PyProof.Rows.All
import Wide.All
import OpenK.AllK
import Wide.FinOn
import PySem.Challenge.RW_pk0034_01
set_option Elab.async false
set_option rowWalk.seconds 0
namespace Mine
section
open PySem PySem.W PyProof.Rows
set_option maxRecDepth 100000
set_option maxHeartbeats 8000000
open_top hd for PySem.Challenge.rw_pk0034_01
end
end Mine
namespace Mine
section
open PySem PySem.W PyProof.Rows
set_option maxRecDepth 100000
set_option maxHeartbeats 8000000
local macro_rules | `(tactic| walk_at "mine empty 0") => `(tactic| fail "empty")
def Stop (P : Prop) : Prop := P
theorem stop_ {P : Prop} (h : Stop P) : P := h
noncomputable abbrev loose0 : List Str := looseW hd.view_39 [Str.ofString "tspecials", Str.ofString "_formatparam"]

abbrev Spec (w : World) (mean : ExcName → Option Value) (mg mb : Str → Option Value) (f : Addr) (kd ku : Nat) (news : List (Addr × Obj)) (vs : List Value) (Ret : Heap → Addr → Heap → Value → Prop) : Prop :=
  ∀ (dp un : Nat) (gd : Option (List Code)) (cn : Str) (cs : Scope) (a : Addr) (ccd : Value) (cl : List (Str × Addr)) (outer : List Env) (A₀ : Around) (base h₀ : Heap) (L : Addr) (m : Str → Option Value) (s : Shared) (Q E : Value → Shared → Prop),
    Below A₀ base outer h₀ → Fr h₀ L s.heap m → (hd.heap_39 w.params).In h₀ → News h₀ L s.heap news → Top hd.view_39 loose0 mean mg mb h₀ → cs.kind = .function →
    dp + kd < recursionLimit → un + ku < cLine → (∀ (v : Value) (h' : Heap) (tk' : Nat), Fr h₀ L h' m → Ret h₀ L h' v → Q v { s with heap := h', toks := tk' }) →
    wpAny (model Challenge.rw_pk0034_01.row.prog w) (ktrTop dp un gd cn cs L a ccd cl outer) (call (.ref f) vs) Q E s

section
variable {w : World} {mean : ExcName → Option Value} {mg mb : Str → Option Value} {news : List (Addr × Obj)}

theorem due_call (want got : Str) (t1 t2 : Tok) (plain bare free edge : Bool) :
    Spec w mean mg mb 96 1 8 news [.str want t1, .str got t2, .bool plain, .bool bare, .bool free, .bool edge]
      (fun h₀ L h' v => News h₀ L h' news ∧ v = .bool (if want == Str.ofString "" || got == Str.ofString "" then want == got else if bare == free then plain else plain && bare && edge)) := by
  w_top off
  unfold Spec
  k_fill
  intro dp un gd cn cs a ccd cl outer A₀ base h₀ L m s Q E B F X N T hk hd hu hret
  refine wpAny_call ?_
  k_dflt cell_enter
  k_steps
  all_goals (refine hret _ _ _ (by k_asm) ⟨by k_asm, ?_⟩; simp_all)

theorem sign_call (rest : Int) (t1 : Tok) :
    Spec w mean mg mb 58 1 8 news [.int rest t1] (fun h₀ L h' v => News h₀ L h' news ∧ ∃ x t, v = .str x t ∧ x.length ≤ 1) := by
  unfold Spec
  k_fill
  intro dp un gd cn cs a ccd cl outer A₀ base h₀ L m s Q E B F X N T hk hd hu hret
  refine wpAny_call ?_
  k_dflt cell_enter
  k_steps
  · have h0 : 0 ≤ rest.fmod 6 := Int.fmod_nonneg_of_pos _ (by decide)
    have h4 : rest.fmod 6 = 0 ∨ rest.fmod 6 = 1 ∨ rest.fmod 6 = 2 ∨ rest.fmod 6 = 3 := by omega
    rcases h4 with e | e | e | e
    all_goals
      rw [e]
      (with_unfolding_all refine' item_litK ?k1 ?k2 ?k3 ?k4 ?_ ?k6; (case k1 => is_list); (case k2 => decide); (case k3 => decide); (case k4 => rfl); (case k6 => with_unfolding_all rfl))
      k_steps
      refine hret _ _ _ (by k_asm) ⟨cb_drop (by k_asm) (by intro p hp; exact List.mem_cons_of_mem _ hp), _, _, rfl, by decide⟩
  · refine hret _ _ _ (by k_asm) ⟨by k_asm, _, _, rfl, ?_⟩
    exact Nat.le_refl 1
  · refine hret _ _ _ (by k_asm) ⟨by k_asm, _, _, rfl, ?_⟩
    exact Nat.le_refl 1
  · refine hret _ _ _ (by k_asm) ⟨by k_asm, _, _, rfl, ?_⟩
    exact Nat.le_refl 1
end
end
end Mine
namespace Mine
section
open PySem PySem.W PyProof.Rows
set_option maxRecDepth 100000
set_option maxHeartbeats 8000000
theorem allLt_out {d : Nat} : ∀ {l : List (Addr × Obj)}, AllLt d l → ∀ p ∈ l, p.1 < d
  | [], _, _, h => nomatch h
  | _ :: _, x, p, h => by
    rcases List.mem_cons.mp h with rfl | h
    · exact x.1
    · exact allLt_out x.2 p h
abbrev tupObj (vs : List Value) : Obj := { cls := .type "tuple", data := .seq vs.toArray }
def PairRet (news : List (Addr × Obj)) (h₀ : Heap) (L : Addr) (h' : Heap) (v : Value) : Prop :=
  ∃ p x y tx ty, v = .ref p ∧ News h₀ L h' ((p, tupObj [.str x tx, .str y ty]) :: news) ∧ x.length ≤ 3 ∧ y.length ≤ 3 ∧ ∀ q ∈ news, q.1 < p
theorem pair_ret {h₀ h' : Heap} {L p : Addr} {news all : List (Addr × Obj)} {x y : Str} {tx ty : Tok} (N : News h₀ L h' all) (hm : (p, tupObj [.str x tx, .str y ty]) ∈ all) (hs : ∀ q ∈ news, q ∈ all)
    (hx : x.length ≤ 3) (hy : y.length ≤ 3) (hl : ∀ q ∈ news, q.1 < p) : PairRet news h₀ L h' (.ref p) :=
  ⟨p, x, y, tx, ty, rfl, fun q hq => (List.mem_cons.mp hq).elim (fun e => e ▸ N _ hm) (fun h => N q (hs q h)), hx, hy, hl⟩
section
variable {w : World} {mean : ExcName → Option Value} {mg mb : Str → Option Value} {news : List (Addr × Obj)}
local macro_rules | `(tactic| walk_at "call ref") => `(tactic| (k_here; (with_reducible show wpAny _ _ (call (Value.ref 58) _) _ _ _); k_dflt (refine' sign_call _ _ _ _ _ _ _ _ _ _ _ _ _ _ _ _ _ _ _ ?k1 ?k2 ?k3 ?k4 ?k5 ?k6 ?k7 ?k8 ?_; (case k1 => k_asm); (case k2 => k_asm); (case k3 => k_asm); (case k4 => k_asm); (case k5 => k_asm); (case k6 => first | exact rfl | assumption); (case k7 => ktr_room); (case k8 => ktr_units)); intro v9 h9 tk9 F9 hR9; obtain ⟨N9, x9, t9, e9, hx9⟩ := hR9; subst e9; (try k_sweep); (try dsimp only); (try k_fold)))
local macro_rules | `(tactic| walk_at "my end") => `(tactic| (
  refine pair_ret (by k_asm) (by k_mem) (by intro q hq; repeat (first | exact hq | refine List.mem_cons_of_mem _ ?_)) ?_ ?_ ?_
  · first | decide | (refine Nat.le_trans (by assumption) ?_; decide)
  · first | decide | (refine Nat.le_trans (by assumption) ?_; decide)
  · first | assumption | exact allLt_out (And.right (by assumption)) | exact allLt_out (And.right (And.right (by assumption))) | exact allLt_out (And.right (And.right (And.right (by assumption))))))

local macro_rules | `(tactic| walk_at "subscriptTail List cons BinOp ref int") => `(tactic| (k_here; refine stop_ ?_))
theorem pair_call (number : Int) (t1 : Tok) :
    Spec w mean mg mb 65 2 16 news [.int number t1] (PairRet news) := by
  w_top off
  unfold Spec
  k_fill
  intro dp un gd cn cs a ccd cl outer A₀ base h₀ L m s Q E B F X N T hk hd hu hret
  refine wpAny_call ?_
  k_dflt cell_enter
  k_steps
  · refine hret _ _ _ (by k_asm) ?_
    walk_at "my end"
  · unfold Stop
    have h0 : 0 ≤ (number.fdiv 8).fmod 6 := Int.fmod_nonneg_of_pos _ (by decide)
    have h1 : (number.fdiv 8).fmod 6 < 6 := Int.fmod_lt_of_pos _ (by decide)
    have h4 : (number.fdiv 8).fmod 6 = 0 ∨ (number.fdiv 8).fmod 6 = 1 ∨ (number.fdiv 8).fmod 6 = 2 ∨ (number.fdiv 8).fmod 6 = 3 ∨ (number.fdiv 8).fmod 6 = 4 ∨ (number.fdiv 8).fmod 6 = 5 := by omega
    rcases h4 with e | e | e | e | e | e
    all_goals
      rw [e]
      (with_unfolding_all refine' item_litK ?k1 ?k2 ?k3 ?k4 ?_ ?k6; (case k1 => is_list); (case k2 => decide); (case k3 => decide); (case k4 => rfl); (case k6 => with_unfolding_all rfl))
      k_steps
      refine hret _ _ _ (by k_asm) ?_
      walk_at "my end"
  · refine hret _ _ _ (by k_asm) ?_
    walk_at "my end"
  · refine hret _ _ _ (by k_asm) ?_
    walk_at "my end"
  · refine hret _ _ _ (by k_asm) ?_
    walk_at "my end"
  · unfold Stop
    have h0 : 0 ≤ (number.fdiv 8).fmod 4 := Int.fmod_nonneg_of_pos _ (by decide)
    have h1 : (number.fdiv 8).fmod 4 < 4 := Int.fmod_lt_of_pos _ (by decide)
    have h4 : (number.fdiv 8).fmod 4 = 0 ∨ (number.fdiv 8).fmod 4 = 1 ∨ (number.fdiv 8).fmod 4 = 2 ∨ (number.fdiv 8).fmod 4 = 3 := by omega
    rcases h4 with e | e | e | e
    all_goals
      rw [e]
      (with_unfolding_all refine' item_litK ?k1 ?k2 ?k3 ?k4 ?_ ?k6; (case k1 => is_list); (case k2 => decide); (case k3 => decide); (case k4 => rfl); (case k6 => with_unfolding_all rfl))
      k_steps
      refine hret _ _ _ (by k_asm) ?_
      walk_at "my end"
end
end
end Mine
namespace Mine
section
open PySem PySem.Sre
set_option maxRecDepth 100000
abbrev spCode : Array Nat := #[14, 14, 4, 1, 1, 9, 0, 4227896069, 939524097, 0, 0, 0, 0, 0, 0, 13, 11, 9, 0, 4227896069, 939524097, 0, 0, 0, 0, 0, 0, 1]
def spBit (c : Nat) : Bool := decide (c < 256) && (spCode.getD (6 + c / 32) 0).testBit (c % 32)
theorem spBit2 (c : Nat) : (decide (c < 256) && (spCode.getD (17 + (1 + c / 32)) 0).testBit (c % 32)) = spBit c := by
  unfold spBit
  by_cases h : c < 256
  · have : c / 32 < 8 := by omega
    have : c / 32 = 0 ∨ c / 32 = 1 ∨ c / 32 = 2 ∨ c / 32 = 3 ∨ c / 32 = 4 ∨ c / 32 = 5 ∨ c / 32 = 6 ∨ c / 32 = 7 := by omega
    rcases this with e | e | e | e | e | e | e | e <;> rw [e] <;> rfl
  · simp [h]
theorem inSet5 (c fuel : Nat) (seen : Seen) : ∃ s', inSet spCode c (fuel + 2) 5 true seen = .ok (spBit c, s') := by
  cases hb : spBit c with
  | true =>
    refine ⟨seen.add 9, ?_⟩
    show (if (decide (c < 256) && (spCode.getD (5 + (1 + c / 32)) 0).testBit (c % 32)) = true then Except.ok (true, seen.add 9) else inSet spCode c (fuel + 1) 14 true (seen.add 9)) = _
    have e : (decide (c < 256) && (spCode.getD (5 + (1 + c / 32)) 0).testBit (c % 32)) = true := by
      rw [show 5 + (1 + c / 32) = 6 + c / 32 by omega]; exact hb
    rw [if_pos e]
  | false =>
    refine ⟨(seen.add 9).add 0, ?_⟩
    show (if (decide (c < 256) && (spCode.getD (5 + (1 + c / 32)) 0).testBit (c % 32)) = true then Except.ok (true, seen.add 9) else inSet spCode c (fuel + 1) 14 true (seen.add 9)) = _
    have e : (decide (c < 256) && (spCode.getD (5 + (1 + c / 32)) 0).testBit (c % 32)) = false := by
      rw [show 5 + (1 + c / 32) = 6 + c / 32 by omega]; exact hb
    rw [e, if_neg (by decide)]
    rfl
theorem inSet17 (c fuel : Nat) (seen : Seen) (hb : spBit c = true) : ∃ s', inSet spCode c (fuel + 2) 17 true seen = .ok (true, s') := by
  refine ⟨seen.add 9, ?_⟩
  show (if (decide (c < 256) && (spCode.getD (17 + (1 + c / 32)) 0).testBit (c % 32)) = true then Except.ok (true, seen.add 9) else inSet spCode c (fuel + 1) 26 true (seen.add 9)) = _
  rw [spBit2, hb, if_pos rfl]

theorem admitted_spec (m : M) (hc : m.code = spCode) : ∀ (fuel s : Nat) (seen : Seen), m.lim = m.text.size → m.lim + 1 ≤ s + fuel →
    (∃ s', M.admitted m fuel s seen = .ok (none, s') ∧ ∀ i, s ≤ i → i < m.text.size → spBit (m.text.getD i 0) = false) ∨
    (∃ p s', M.admitted m fuel s seen = .ok (some p, s') ∧ p < m.text.size ∧ spBit (m.text.getD p 0) = true) := by
  intro fuel
  induction fuel with
  | zero => intro s seen hl hf; exact .inl ⟨seen, rfl, fun i h1 h2 => absurd h2 (by omega)⟩
  | succ fuel ih =>
    intro s seen hl hf
    unfold M.admitted
    by_cases h : s ≥ m.lim
    · rw [if_pos h]; exact .inl ⟨seen, rfl, fun i h1 h2 => absurd h2 (by omega)⟩
    · rw [if_neg h, hc]
      obtain ⟨s', e⟩ := inSet5 (m.text.getD s 0) 26 seen
      have e' : inSet spCode (m.text.getD s 0) spCode.size 5 true seen = .ok (spBit (m.text.getD s 0), s') := e
      rw [e']
      cases hb : spBit (m.text.getD s 0) with
      | true => exact .inr ⟨s, s', rfl, by omega, hb⟩
      | false =>
        rcases ih (s + 1) s' hl (by omega) with ⟨s2, e2, h2⟩ | ⟨p, s2, e2, h2, h3⟩
        · refine .inl ⟨s2, e2, fun i h1 h2' => ?_⟩
          by_cases hi : i = s
          · rw [hi]; exact hb
          · exact h2 i (by omega) h2'
        · exact .inr ⟨p, s2, e2, h2, h3⟩


abbrev m0 (text : Array Nat) : M := { code := spCode, text, lim := text.size, start := 0, lastStart := text.size, pc := 15, pos := 0, handed := 0, marks := #[], seen := ({} : Seen).add 14 }
theorem forSearch_eq (text : Array Nat) (h0 : 0 < text.size) : forSearch spCode text 0 0 text.size false = M.attemptFrom (m0 text) 0 true := by
  have e : forSearch spCode text 0 0 text.size false = (if (decide (0 > text.size) || decide (text.size - 0 < 1)) = true then { m0 text with lastStart := 0, answer := some false } else M.attemptFrom (m0 text) 0 true) := rfl
  rw [e, if_neg]
  simp only [Bool.or_eq_true, decide_eq_true_eq]
  omega
abbrev m1 (text : Array Nat) (p : Nat) (sn : Seen) : M := { m0 text with start := p, pos := p, handed := p, frames := [{ wait := .nextStart, pc := 15, pos := p, outermost := true }], weight := 1, pc := 15, outermost := true, seen := sn }
theorem step1 (text : Array Nat) (p : Nat) (sn : Seen) (hp : p < text.size) (hb : spBit (text.getD p 0) = true) : ∃ sn', M.step (m1 text p sn) = { m1 text p sn' with pc := 27, pos := p + 1 } := by
  obtain ⟨s', e⟩ := inSet17 (text.getD p 0) 26 (sn.add 13) hb
  refine ⟨s', ?_⟩
  have e1 : M.step (m1 text p sn) = (if p ≥ text.size then { m1 text p (sn.add 13) with answer := some false } else
      match accepts spCode 15 (text.getD p 0) (sn.add 13) with
      | .error why => { m1 text p (sn.add 13) with outcome := some (.stuck why) }
      | .ok (false, seen) => { m1 text p seen with answer := some false }
      | .ok (true, seen) => { m1 text p seen with pc := 15 + itemWidth spCode 15, pos := p + 1 }) := rfl
  rw [e1, if_neg (by omega)]
  have e2 : accepts spCode 15 (text.getD p 0) (sn.add 13) = .ok (true, s') := e
  rw [e2]
  rfl
theorem search_runs (text : Array Nat) (h0 : 0 < text.size) :
    ((M.runFor 4 (forSearch spCode text 0 0 text.size false)).outcome = some .failed ∧ ∀ i, i < text.size → spBit (text.getD i 0) = false) ∨
    ((M.runFor 4 (forSearch spCode text 0 0 text.size false)).outcome = some .matched ∧ ∃ p, p < text.size ∧ spBit (text.getD p 0) = true) := by
  rw [forSearch_eq text h0]
  have e0 : M.attemptFrom (m0 text) 0 true = (match M.admitted (m0 text) (text.size + 1 - 0) 0 (({} : Seen).add 14) with
    | .ok (some s, seen) => m1 text s seen
    | .ok (none, seen) => { m0 text with seen := seen, answer := some false }
    | .error why => { m0 text with outcome := some (.stuck why) }) := rfl
  rcases admitted_spec (m0 text) rfl (text.size + 1 - 0) 0 (({} : Seen).add 14) rfl (by show text.size + 1 ≤ _; omega) with ⟨s', e, h⟩ | ⟨p, s', e, hp, hb⟩
  · left
    rw [e0, e]
    exact ⟨rfl, fun i hi => h i (Nat.zero_le _) hi⟩
  · right
    rw [e0, e]
    refine ⟨?_, p, hp, hb⟩
    obtain ⟨sn, e1⟩ := step1 text p s' hp hb
    show (M.runFor 4 (m1 text p s')).outcome = _
    have e2 : M.runFor 4 (m1 text p s') = M.runFor 3 (M.step (m1 text p s')) := rfl
    rw [e2, e1]
    rfl
end
end Mine
namespace Mine
section
open PySem PySem.Builtin PySem.Builtin.Re PyProof.Rows
set_option maxRecDepth 100000
abbrev patTup : Obj := { cls := .type "tuple", data := .seq #[.int 14 0, .int 14 0, .int 4 0, .int 1 0, .int 1 0, .int 9 0, .int 0 0, .int 4227896069 0, .int 939524097 0, .int 0 0, .int 0 0, .int 0 0, .int 0 0,
            .int 0 0, .int 0 0, .int 13 0, .int 11 0, .int 9 0, .int 0 0, .int 4227896069 0, .int 939524097 0, .int 0 0, .int 0 0, .int 0 0, .int 0 0, .int 0 0, .int 0 0, .int 1 0] }
abbrev patObj : Obj := { cls := .type "re.Pattern", data := .fields #[.str (Str.ofString "[ \\(\\)<>@,;:\\\\\"/\\[\\]\\?=]") 285, .int 32 316, .int 0 0, .none, .none, .ref 35, .int 0 0] }
theorem plainAttrs_pat : PlainAttrs "re.Pattern" :=
  ⟨⟨"object.__getattribute__", by rw [typeLookup_type, builtinLookup_eq_fast]; kernel_rfl, by decide +kernel⟩, by rw [typeLookup_type, builtinLookup_eq_fast]; kernel_rfl⟩
theorem slot_search : Slot "re.Pattern" "search" "re.Pattern.search" :=
  .of (owner := "re.Pattern") (n := "search") (by rw [typeLookup_type, builtinLookup_eq_fast]; kernel_rfl) (by decide +kernel) (by decide +kernel) (by decide +kernel)
    (by first | exact .inl (by decide +kernel) | exact .inr (by decide +kernel)) (by rw [isSubtype_type]; kernel_rfl)
theorem entry_search : entryFor table "re.Pattern.search" = some Builtin.«re.Pattern.search» := entryFor_of_tree (by kernel_rfl)
theorem args_search (a b : Value) : argsOk "re.Pattern.search" ⟨[a, b], []⟩ := by unfold argsOk; kernel_rfl
theorem type_search : typeOf (.builtin "re.Pattern.search") = pure (.type "method_descriptor") := by show builtinType _ = _; rw [builtinType_eq_fast]; kernel_rfl

section
variable {prog : Program} {w : World} {A : Around} {E : Value → Shared → Prop} {s : Shared}
theorem getMethod_search {pl : Sem Bool} {Q : Value × List Value → Shared → Prop} (ho : s.heap.get? 36 = some patObj) (h : Q (.builtin "re.Pattern.search", [.ref 36]) s) :
    wpAny (model prog w) A (getMethod (.ref 36) "search" pl) Q E s :=
  getMethod_builtin ⟨_, ho, rfl⟩ plainAttrs_pat slot_search type_search (fun a e => by cases e; exact ⟨_, ho, rfl⟩) h

theorem rules_loop (m : Sre.M) {Q : PUnit → Shared → Prop} : ∀ (l : List Nat), Q ⟨⟩ s →
    wpAny (model prog w) A (forIn l PUnit.unit fun i _ => if m.seen.has i = true then (rule (Sre.names.getD i "") >>= fun _ => pure (ForInStep.yield PUnit.unit)) else pure (ForInStep.yield PUnit.unit)) Q E s
  | [], h => wpAny_pure h
  | i :: l, h => by
    rw [List.forIn_cons]
    refine wpAny_bind ?_
    by_cases hc : m.seen.has i = true
    · rw [if_pos hc]; exact wpAny_bind (wpAny_rule (wpAny_pure (rules_loop m l h)))
    · rw [if_neg hc]; exact wpAny_pure (rules_loop m l h)

theorem search_wp {Q : Value → Shared → Prop} (v : Str) (t : Tok) (hv : 0 < v.length) (hv2 : v.length ≤ 1000000) (ho : s.heap.get? 36 = some patObj) (hp : s.heap.get? 35 = some patTup)
    (hn : (∀ i, i < v.length → spBit (v.cps.getD i 0) = false) → Q .none s)
    (hy : (∃ p, p < v.length ∧ spBit (v.cps.getD p 0) = true) → ∀ o₁ o₂ : Obj, o₁.isFreed = false → o₂.isFreed = false → o₂.cls = .type "re.Match" → Q (.ref (s.heap.objs.size + 1)) { s with heap := (s.heap.push o₁).push o₂ }) :
    wpAny (model prog w) A (call (.builtin "re.Pattern.search") [.ref 36, .str v t]) Q E s := by
  refine wpAny_call_entry slot_search ⟨_, ho, rfl⟩ entry_search ?_ (args_search _ _)
  have hN : reNamed "re.Pattern.search" "search" ["string", "pos", "endpos"] 1 [.str v t] [] = pure [some (.str v t), none, none] := rfl
  have hT : reTextOf (.str v t) = pure (v.cps, 0) := rfl
  have hC : reNoCollectionInside (.str v t) 0 = pure () := rfl
  unfold «re.Pattern.search»
  refine wpAny_bind ?_
  unfold reTarget
  simp only [hN, hT, hC, pure_bind]
  refine wpAny_bind (wpAny_fieldsOf ho rfl ?_)
  rw [if_neg (by decide), if_neg (by decide)]
  refine wpAny_bind ?_
  unfold reRawItems
  refine wpAny_bind (wpAny_seqItems hp rfl (wpAny_pure (wpAny_pure ?_)))
  have hl : Min.min (2 ^ 63 - 1 : Int).toNat v.cps.size = v.cps.size := by
    have : v.cps.size ≤ 1000000 := hv2
    rw [Nat.min_eq_right]
    exact Nat.le_trans this (by decide)
  have hl0 : Min.min (Int.toNat 0) v.cps.size = 0 := Nat.zero_min _
  rw [hl, hl0]
  have hcode : Array.map (fun x : Int => x.toNat) (Array.map reRawOf ((some (#[.int 14 0, .int 14 0, .int 4 0, .int 1 0, .int 1 0, .int 9 0, .int 0 0, .int 4227896069 0, .int 939524097 0, .int 0 0, .int 0 0, .int 0 0, .int 0 0,
            .int 0 0, .int 0 0, .int 13 0, .int 11 0, .int 9 0, .int 0 0, .int 4227896069 0, .int 939524097 0, .int 0 0, .int 0 0, .int 0 0, .int 0 0, .int 0 0, .int 0 0, .int 1 0] : Array Value)).getD #[])) = spCode := by decide +kernel
  rw [hcode]
  unfold reAnswer
  refine wpAny_bind ?_
  show wpAny (model prog w) A.in1 (reRunToEnd (Sre.forSearch spCode v.cps 0 0 v.cps.size false)) _ _ s
  unfold reRunToEnd
  have hdrive : reDrive (2 ^ 64) (Sre.forSearch spCode v.cps 0 0 v.cps.size false) = pure (Sre.M.runFor 4 (Sre.forSearch spCode v.cps 0 0 v.cps.size false)) := by
    have e : (2 : Nat) ^ 64 = (2 ^ 64 - 1) + 1 := by decide
    rw [e]
    unfold reDrive
    have h1 : (Sre.M.runFor 4 (Sre.forSearch spCode v.cps 0 0 v.cps.size false)).outcome.isSome = true := by
      rcases search_runs v.cps hv with ⟨e, _⟩ | ⟨e, _⟩ <;> rw [e] <;> rfl
    exact if_pos h1
  rw [hdrive]
  refine wpAny_bind (wpAny_pure (wpAny_bind (rules_loop _ _ ?_)))
  rcases search_runs v.cps hv with ⟨e, hno⟩ | ⟨e, hyes⟩
  · rw [e]
    exact wpAny_pure (wpAny_pure ⟨_, rfl, hn hno⟩)
  · rw [e]
    refine wpAny_pure ?_
    refine wpAny_bind ?_
    generalize Sre.M.runFor 4 (Sre.forSearch spCode v.cps 0 0 v.cps.size false) = m
    show wpAny (model prog w) A.in1 (newTuple [rawInt m.start, rawInt m.handed] >>= fun tp => newFields "re.Match" [.str v t, .ref 36, rawInt (0 : Nat), rawInt v.cps.size, rawInt m.lastindex, tp]) _ _ s
    refine wpAny_bind (wpAny_newObj_type ?_ (by size_fits))
    refine wpAny_newObj_type ?_ (by size_fits)
    refine wpAny_pure ⟨_, rfl, ?_⟩
    have hsz : (s.heap.push { cls := .type "tuple", dict := none, data := .seq [rawInt m.start, rawInt m.handed].toArray }).objs.size = s.heap.objs.size + 1 := Heap.size_push _ _
    have := hy hyes { cls := .type "tuple", dict := none, data := .seq [rawInt m.start, rawInt m.handed].toArray } { cls := .type "re.Match", dict := none, data := .fields [.str v t, .ref 36, rawInt (0 : Nat), rawInt v.cps.size, rawInt m.lastindex, .ref s.heap.objs.size].toArray } rfl rfl rfl
    rw [← hsz] at this
    exact this

theorem truthy_match {a : Addr} {o : Obj} {Q : Bool → Shared → Prop} (ho : s.heap.get? a = some o) (hc : o.cls = .type "re.Match") (h : Q true s) : wpAny (model prog w) A (truthy (.ref a)) Q E s := by
  have hT : s.TypeIs (.ref a) "re.Match" := ⟨_, ho, hc⟩
  have h1 : typeLookup (.type "re.Match") "__bool__" = pure none := by rw [typeLookup_type, builtinLookup_eq_fast]; kernel_rfl
  have h2 : typeLookup (.type "re.Match") "__len__" = pure none := by rw [typeLookup_type, builtinLookup_eq_fast]; kernel_rfl
  unfold truthy
  refine wpAny_bind (wpAny_callSpecial?_none (name := Str.ofString "__bool__") hT h1 ?_)
  refine wpAny_bind (wpAny_specialOf (name := Str.ofString "__len__") hT h2 ?_)
  exact wpAny_pure h
end
end
end Mine
namespace Mine
section
open PySem PySem.Builtin PySem.Builtin.Str
set_option maxRecDepth 100000
def sub1 (c : Nat) (z : List Nat) (l : List Nat) : List Nat := l.flatMap fun k => if k = c then z else [k]
theorem sub1_free (c : Nat) (z : List Nat) : ∀ l : List Nat, c ∉ l → sub1 c z l = l
  | [], _ => rfl
  | k :: r, h => by
    have h1 : ¬ k = c := fun e => h (e ▸ List.mem_cons_self ..)
    have h2 : c ∉ r := fun m => h (List.mem_cons_of_mem _ m)
    have ih := sub1_free c z r h2
    unfold sub1 at ih ⊢
    rw [List.flatMap_cons, if_neg h1, ih]
    rfl
theorem sub1_join (c : Nat) (z : Str) : ∀ parts : List Str, (∀ p ∈ parts, c ∉ p.cps.toList) → sub1 c z.cps.toList (Str.join ⟨#[c]⟩ parts).cps.toList = (Str.join z parts).cps.toList
  | [], _ => rfl
  | [p], h => sub1_free c _ _ (h p (List.mem_singleton.mpr rfl))
  | p :: q :: r, h => by
    have ih := sub1_join c z (q :: r) fun a ha => h a (List.mem_cons_of_mem _ ha)
    have hp := sub1_free c z.cps.toList _ (h p (List.mem_cons_self ..))
    show sub1 c _ (p ++ ⟨#[c]⟩ ++ Str.join ⟨#[c]⟩ (q :: r)).cps.toList = (p ++ z ++ Str.join z (q :: r)).cps.toList
    simp only [Str.cps_append, Array.toList_append]
    unfold sub1 at ih hp ⊢
    rw [List.flatMap_append, List.flatMap_append, ih, hp]
    simp
theorem replace_list (x z : Str) (c : Nat) : (Txt.replace x ⟨#[c]⟩ z).cps.toList = sub1 c z.cps.toList x.cps.toList := by
  rw [StrLaws.replace_one, ← sub1_join c z _ (StrLaws.split_free x c), StrLaws.join_split]
def escL (l : List Nat) : List Nat := l.flatMap fun k => if k = 34 ∨ k = 92 then [92, k] else [k]
def escS (x : Str) : Str := ⟨(escL x.cps.toList).toArray⟩
theorem sub_sub (l : List Nat) : sub1 34 [92, 34] (sub1 92 [92, 92] l) = escL l := by
  induction l with
  | nil => rfl
  | cons k r ih =>
    unfold sub1 escL at ih ⊢
    rw [List.flatMap_cons, List.flatMap_append, ih, List.flatMap_cons]
    congr 1
    by_cases h1 : k = 92
    · subst h1; rfl
    · by_cases h2 : k = 34
      · subst h2; rfl
      · simp [h1, h2]
theorem esc_eq (x : Str) : Txt.replace (Txt.replace x (Str.ofString "\\") (Str.ofString "\\\\")) (Str.ofString "\"") (Str.ofString "\\\"") = escS x := by
  rw [show Str.ofString "\\" = ⟨#[92]⟩ from by decide +kernel, show Str.ofString "\\\\" = ⟨#[92, 92]⟩ from by decide +kernel, show Str.ofString "\"" = ⟨#[34]⟩ from by decide +kernel, show Str.ofString "\\\"" = ⟨#[92, 34]⟩ from by decide +kernel]
  refine Str.ext' ?_
  have h : (Txt.replace (Txt.replace x ⟨#[92]⟩ ⟨#[92, 92]⟩) ⟨#[34]⟩ ⟨#[92, 34]⟩).cps.toList = escL x.cps.toList := by
    rw [replace_list, replace_list]
    exact sub_sub _
  show _ = (escL x.cps.toList).toArray
  rw [← h]
theorem escL_length (l : List Nat) : (escL l).length ≤ 2 * l.length := by
  induction l with
  | nil => exact Nat.le_refl _
  | cons k r ih =>
    unfold escL at ih ⊢
    rw [List.flatMap_cons, List.length_append, List.length_cons]
    split <;> simp only [List.length_cons, List.length_nil] <;> omega
theorem escS_length (x : Str) : (escS x).length ≤ 2 * x.length := by
  have h := escL_length x.cps.toList
  show (escL x.cps.toList).toArray.size ≤ _
  rw [List.size_toArray]
  exact Nat.le_trans h (by show 2 * x.cps.toList.length ≤ 2 * x.cps.size; simp)
theorem replace_length (x : Str) : (Txt.replace x (Str.ofString "\\") (Str.ofString "\\\\")).length ≤ 2 * x.length := by
  rw [show Str.ofString "\\" = ⟨#[92]⟩ from by decide +kernel, show Str.ofString "\\\\" = ⟨#[92, 92]⟩ from by decide +kernel]
  have e := replace_list x ⟨#[92, 92]⟩ 92
  have h : (sub1 92 [92, 92] x.cps.toList).length ≤ 2 * x.cps.toList.length := by
    generalize x.cps.toList = l
    induction l with
    | nil => exact Nat.le_refl _
    | cons k r ih =>
      unfold sub1 at ih ⊢
      rw [List.flatMap_cons, List.length_append, List.length_cons]
      split <;> simp only [List.length_cons, List.length_nil] <;> omega
  have e' := congrArg List.length e
  simp only [Array.length_toList] at e' h
  show (Txt.replace x ⟨#[92]⟩ ⟨#[92, 92]⟩).cps.size ≤ 2 * x.cps.size
  rw [e']
  exact h
abbrev sixteen : List Nat := [32, 40, 41, 60, 62, 64, 44, 59, 58, 92, 34, 47, 91, 93, 63, 61]
theorem sp_small : ∀ c : Fin 256, spBit c.val = sixteen.contains c.val := by decide +kernel
theorem sp_iff (c : Nat) : spBit c = sixteen.contains c := by
  by_cases h : c < 256
  · exact sp_small ⟨c, h⟩
  · have h1 : spBit c = false := by unfold spBit; rw [decide_eq_false h]; rfl
    have h2 : sixteen.contains c = false := by
      rw [Bool.eq_false_iff]
      intro hc
      have := List.contains_iff_mem.mp hc
      simp only [List.mem_cons, List.not_mem_nil, or_false] at this
      omega
    rw [h1, h2]
def anySp (x : Str) : Bool := x.cps.toList.any fun c => sixteen.contains c
theorem anySp_true {x : Str} (h : ∃ p, p < x.length ∧ spBit (x.cps.getD p 0) = true) : anySp x = true := by
  obtain ⟨p, hp, hb⟩ := h
  refine List.any_eq_true.mpr ⟨x.cps.getD p 0, ?_, by rw [← sp_iff]; exact hb⟩
  have hp' : p < x.cps.size := hp
  simp [Array.getD, hp']
theorem anySp_false {x : Str} (h : ∀ i, i < x.length → spBit (x.cps.getD i 0) = false) : anySp x = false := by
  refine List.any_eq_false.mpr fun c hc => ?_
  obtain ⟨i, hi, rfl⟩ := List.getElem_of_mem hc
  have hi' : i < x.cps.size := by simpa using hi
  have := h i hi'
  rw [sp_iff] at this
  simp [Array.getD, hi'] at this ⊢
  exact this
def fmtF (p v : Str) (q : Bool) : Str :=
  if v.length = 0 then p else if q || anySp v then p ++ Str.ofString "=\"" ++ escS v ++ Str.ofString "\"" else p ++ Str.ofString "=" ++ v
end
end Mine
namespace Mine
section
open PySem PySem.W PyProof.Rows
set_option maxRecDepth 100000
set_option maxHeartbeats 8000000
section
variable {w : World} {A : Around} {E : Value → Shared → Prop} {s : Shared} {h₀ : Heap} {L : Addr} {m : Str → Option Value} {news : List (Addr × Obj)}
open PySem.Builtin PySem.Builtin.Str in
theorem replaceT {x y z : Str} {t : Tok} {u v : Nat} {Q : Value → Shared → Prop} (hu : u ≠ 0) (hv : v ≠ 0) (huv : u ≠ v) (hyz : (y == z) = false) (hx : x.length ≤ 10000) (hz : z.length ≤ 14) (hs : 0 < s.toks)
    (hq : ∀ t' k, 0 < k → Q (.str (Txt.replace x y z) t') { s with toks := k }) : wpAny (model Challenge.rw_pk0034_01.row.prog w) A (call (.builtin "str.replace") [.str x t, .str y u, .str z v]) Q E s := by
  have hb : x.length + (x.length + 1) * z.length ≤ 16777216 := by
    have h1 : (x.length + 1) * z.length ≤ (x.length + 1) * 14 := Nat.mul_le_mul_left _ hz
    omega
  have hl : tooLong (x.length + (occurrences x y 0 x.length (x.length + 1)).length * z.length) = false := by
    have h1 := StrLaws.occ_length_le x y 0 x.length (x.length + 1)
    have h2 : (occurrences x y 0 x.length (x.length + 1)).length * z.length ≤ (x.length + 1) * z.length := Nat.mul_le_mul_right _ h1
    have e : sizeLine = 16777216 := by decide
    unfold tooLong
    rw [e]
    exact decide_eq_false (by omega)
  refine call_gives PySem.F.slot_str_replace (typeIs_str _ _ _) PySem.F.entry_str_replace (PySem.F.args_str_replace_3 _ _ _)
    (gives_str_replace x y z t u v fun _ => ⟨by simp [hu, hv], by simp [huv], hyz, hl⟩) ?_
  unfold Txt.replace at hq
  by_cases hc : ((occurrences x y 0 x.length (x.length + 1)).isEmpty || (y.length == 0 && z.length == 0)) = true
  · rw [if_pos hc]
    have := hq t s.toks hs
    rw [if_pos hc] at this
    exact this
  · rw [if_neg hc]
    have := hq s.toks (s.toks + 1) (Nat.succ_pos _)
    rw [if_neg hc] at this
    exact ⟨fits_replaced y hb, this⟩
theorem replaceE {x : Str} {t : Tok} {u v : Nat} {Q : Value → Shared → Prop} (hu : u ≠ 0) (hv : v ≠ 0) (huv : u ≠ v) (hx : x.length ≤ 1000) (hs : 0 < s.toks)
    (hq : ∀ t' k, 0 < k → (escS x).length ≤ 2 * x.length → Q (.str (escS x) t') { s with toks := k }) : wpAny (model Challenge.rw_pk0034_01.row.prog w) A (call (.builtin "str.replace") [.str (Txt.replace x (Str.ofString "\\") (Str.ofString "\\\\")) t, .str (Str.ofString "\"") u, .str (Str.ofString "\\\"") v]) Q E s := by
  refine replaceT hu hv huv (by decide) (Nat.le_trans (replace_length _) (by omega)) (by decide) hs fun t' k hk => ?_
  rw [esc_eq]
  exact hq t' k hk (escS_length x)
theorem search_K {Q : Value → Shared → Prop} (v : Str) (t : Tok) (hv : 0 < v.length) (hv2 : v.length ≤ 1000000) (F : Fr h₀ L s.heap m) (N : News h₀ L s.heap news) (X : (hd.heap_39 w.params).In h₀)
    (hn : anySp v = false → Q .none s)
    (hy : anySp v = true → ∀ a o h', Fr h₀ L h' m → News h₀ L h' ((a, o) :: news) → o.cls = .type "re.Match" → Q (.ref a) { s with heap := h' }) :
    wpAny (model Challenge.rw_pk0034_01.row.prog w) A (call (.builtin "re.Pattern.search") [.ref 36, .str v t]) Q E s := by
  refine search_wp v t hv hv2 (X.keeps F.keep 36 _ rfl) (X.keeps F.keep 35 _ rfl) (fun h => hn (anySp_false h)) fun h o₁ o₂ f₁ f₂ hc => ?_
  have N1 := News.push F N o₁ f₁
  have N2 := News.push (F.push o₁) N1 o₂ f₂
  have e : (s.heap.push o₁).objs.size = s.heap.objs.size + 1 := Heap.size_push _ _
  rw [e] at N2
  exact hy (anySp_true h) _ o₂ _ ((F.push o₁).push o₂) (cb_drop N2 (by intro p hp; rcases List.mem_cons.mp hp with rfl | hp; exact .head _; exact .tail _ (.tail _ hp))) hc
end
section
variable {w : World} {mean : ExcName → Option Value} {mg mb : Str → Option Value} {news : List (Addr × Obj)}
local macro_rules | `(tactic| walk_at "my enter") => `(tactic| (refine' code_def ?k1 ?k2 ?k3 ?k4 ?k5 ?kA ?kF ?kK ?k6 ?k7 ?k8 ?k9 ?kB ?_ ?c2 ?c3 ?c4 ?c5; (case kA => exact rfl); (case kF => exact rfl); (case kK => assumption); (case k1 => k_asm); (case k2 => k_asm); (case k3 => k_asm); (case k4 => k_asm); (case k5 => k_asm); (case k6 => k_is); (case k7 => k_is); (case k8 => ktr_room); (case k9 => exact binds_K (by k_in) rfl (by k_is) rfl rfl rfl); (case c5 => decide); (case kB => exact locs rfl); (case c2 => exact rfl); (case c3 => exact rfl); (case c4 => exact rfl); k_whole; intro g' L' h' FG' F' N' B' X' T'; (try dsimp only); (try k_lift B'); (try k_fold)))
local macro_rules | `(tactic| walk_at "execs cons") => `(tactic| refine wpAny_execs_cons ?_)
local macro_rules | `(tactic| walk_at "execs nil") => `(tactic| refine wpAny_execs_nil ?_)
local macro_rules | `(tactic| walk_at "getMethod ref") => `(tactic| (k_here; refine getMethod_search (Frag.In.keeps (by k_asm) (Fr.keep (by k_asm)) 36 _ rfl) ?_))
local macro_rules | `(tactic| walk_at "call builtin:re.Pattern.search") => `(tactic| (k_here; (refine search_K _ _ (by omega) (by omega) (by k_asm) (by k_asm) (by k_asm) ?hn ?hy); (case' hn => intro hn9); (case' hy => intro hy9 a9 o9 h9 F9 N9 hc9)))
local macro_rules | `(tactic| walk_at "truthy ref") => `(tactic| (k_here; refine truthy_match (News.get (by k_asm) (List.Mem.head _)) (by assumption) ?_))
local macro_rules | `(tactic| walk_at "call builtin:str.replace") => `(tactic| (refine replaceT (by first | omega | (dsimp only; omega) | (simp; done) | (simp; omega)) (by first | omega | (dsimp only; omega) | (simp; done) | (simp; omega)) (by first | omega | (dsimp only; omega) | (simp; done) | (simp; omega)) (by decide) (by omega) (by decide) (Nat.succ_pos _) ?_; intro t9 k9 hk9))
local macro_rules | `(tactic| walk_at "call builtin:str.replace") => `(tactic| (refine replaceE (by first | omega | (dsimp only; omega)) (by first | omega | (dsimp only; omega)) (by first | omega | (dsimp only; omega)) (by omega) (Nat.succ_pos _) ?_; intro t9 k9 hk9 hl9))

theorem fmt_call (p v : Str) (q : Int) (t1 t2 t3 : Tok) (hp : p.length ≤ 100) (hv : v.length ≤ 1000) :
    Spec w mean mg mb 44 1 8 news [.str p t1, .str v t2, .int q t3] (fun h₀ L h' r => News h₀ L h' news ∧ ∃ t, r = .str (fmtF p v (q != 0)) t) := by
  w_top off
  unfold Spec
  k_fill
  intro dp un gd cn cs a ccd cl outer A₀ base h₀ L m s Q E B F X N T hk hd hu hret
  refine wpAny_call ?_
  k_dflt walk_at "my enter"
  k_steps
  · refine hret _ _ _ (by k_asm) ⟨by k_asm, _, congrArg (Value.str · _) ?_⟩
    unfold fmtF
    rw [if_neg (by omega), if_pos (by simp_all), Str.empty_append]
  · refine hret _ _ _ (by k_asm) ⟨cb_drop (by k_asm) (fun _ hq => List.mem_cons_of_mem _ hq), _, congrArg (Value.str · _) ?_⟩
    unfold fmtF
    rw [if_neg (by omega), if_pos (by simp_all), Str.empty_append]
  · refine hret _ _ _ (by k_asm) ⟨by k_asm, _, congrArg (Value.str · _) ?_⟩
    unfold fmtF
    rw [if_neg (by omega), if_neg (by simp_all), Str.empty_append]
  · refine hret _ _ _ (by k_asm) ⟨by k_asm, _, congrArg (Value.str · _) ?_⟩
    unfold fmtF
    rw [if_pos (by omega)]

theorem fmt_call2 (p v : Str) (t1 t2 : Tok) (hp : p.length ≤ 100) (hv : v.length ≤ 1000) :
    Spec w mean mg mb 44 1 8 news [.str p t1, .str v t2] (fun h₀ L h' r => News h₀ L h' news ∧ ∃ t, r = .str (fmtF p v true) t) := by
  unfold Spec
  k_fill
  intro dp un gd cn cs a ccd cl outer A₀ base h₀ L m s Q E B F X N T hk hd hu hret
  refine wpAny_call ?_
  k_dflt walk_at "my enter"
  k_steps
  · refine hret _ _ _ (by k_asm) ⟨by k_asm, _, congrArg (Value.str · _) ?_⟩
    unfold fmtF
    rw [if_neg (by omega), if_pos (by simp_all), Str.empty_append]
  · refine hret _ _ _ (by k_asm) ⟨by k_asm, _, congrArg (Value.str · _) ?_⟩
    unfold fmtF
    rw [if_pos (by omega)]

theorem fmt_call1 (p : Str) (t1 : Tok) : Spec w mean mg mb 44 1 8 news [.str p t1] (fun h₀ L h' r => News h₀ L h' news ∧ ∃ t, r = .str p t) := by
  unfold Spec
  k_fill
  intro dp un gd cn cs a ccd cl outer A₀ base h₀ L m s Q E B F X N T hk hd hu hret
  refine wpAny_call ?_
  k_dflt walk_at "my enter"
  k_steps
  refine hret _ _ _ (by k_asm) ⟨by k_asm, _, rfl⟩
end
end
end Mine
namespace Mine
section
open PySem PySem.W PyProof.Rows
set_option maxRecDepth 100000
set_option maxHeartbeats 8000000
section
variable {prog : Program} {w : World} {A : Around} {E : Value → Shared → Prop} {s : Shared}
theorem eq_nil {l b : Addr} {items : Array Value} {Q : Value → Shared → Prop} (hl : s.heap.IsList l items) (hb : s.heap.IsList b #[]) (hu : A.units < cLine) (h : Q (.bool (items.size == 0)) s) :
    wpAny (model prog w) A (compareOp .Eq (.ref l) (.ref b)) Q E s := by
  by_cases e : items.size = 0
  · refine PySem.SeqAt.eq_listAt (e := fun _ => true) hl hb (by rw [e]; rfl) hu (fun j h1 => absurd h1 (by omega)) ?_
    rw [e] at h ⊢
    exact h
  · refine PySem.SeqAt.eq_list_lengthsAt hl hb (by simpa using e) hu ?_
    rw [show (items.size == 0) = false from by simpa using e] at h
    exact h
end
theorem paired_signs {g : Nat → PySem.Str} {vs zs : List Value} (hp : Paired (fun (v r : Value) => ∃ c u t, v = Value.str ⟨#[c]⟩ u ∧ r = Value.str (g c) t) vs zs) :
    ∀ cs : List Nat, vs.length = cs.length → (∀ (j : Nat) (v : Value), vs[j]? = some v → ∃ c u, cs[j]? = some c ∧ v = Value.str ⟨#[c]⟩ u) → ∃ l : List (PySem.Str × Tok), zs = strValues l ∧ l.map (·.1) = cs.map g := by
  induction hp with
  | nil => intro cs hl _; cases cs with
    | nil => exact ⟨[], rfl, rfl⟩
    | cons _ _ => cases hl
  | cons h _ ih =>
    intro cs hl hP
    cases cs with
    | nil => cases hl
    | cons c0 cs =>
      obtain ⟨c, u, t, rfl, rfl⟩ := h
      obtain ⟨c', u', h1, h2⟩ := hP 0 _ rfl
      injection h2 with h2 _
      injection h2 with h2
      have h3 : c = c' := by simpa using h2
      have h4 : c0 = c' := by simpa using h1
      obtain ⟨l, e1, e2⟩ := ih cs (by simpa using hl) fun j v hv => by simpa using hP (j + 1) v (by simpa using hv)
      refine ⟨(g c, t) :: l, ?_, ?_⟩
      · rw [e1]; rfl
      · rw [List.map_cons, List.map_cons, e2, h4, ← h3]
section
variable {prog : Program} {w : World} {A : Around} {E : Value → Shared → Prop} {s : Shared} {h₀ : Heap} {L : Addr} {m : Str → Option Value} {news : List (Addr × Obj)} {env : Env}
theorem comp_signs {elt iter : Expr} {x : Str} {px : Pos} {scope : Scope} {pos : Pos} {Q : Value → Shared → Prop} (g : Nat → Str) (_F₀ : Fr h₀ L s.heap m) (_N₀ : News h₀ L s.heap news)
    (hh : A.handled = none) (hfree : ∀ y ∈ scope.names, y.2 ≠ .free) (hcell : ∀ y ∈ scope.names, y.2 ≠ .cell) (hkind : scope.kind = .function)
    (hnames : ∀ y ∈ scope.names, y.2 = .local → scope.names.lookup y.1 = some .local) (hx : scope.names.lookup x = some .local)
    (h : wpAny (model prog w) A (eval iter env) (fun xv s₁ => ∃ y t, xv = .str y t ∧ y.length ≤ sizeLine ∧ Fr h₀ L s₁.heap m ∧ News h₀ L s₁.heap news ∧
      (∀ C c u s₂ m₂ E', s₂.heap.Ns (compEnv scope C env).locals m₂ → m₂ x = some (.str ⟨#[c]⟩ u) → wpAny (model prog w) A (eval elt (compEnv scope C env)) (fun r s₃ => Stop ((∃ t, r = .str (g c) t) ∧ Keeps s₂ s₃)) E' s₂) ∧
      (∀ D n (l : List (Str × Tok)) h' tk, Fr h₀ L h' m → News h₀ L h' ((D, listOf (strValues l).toArray n) :: news) → l.map (·.1) = y.cps.toList.map g → Q (.ref D) { s₁ with heap := h', toks := tk })) E s)
    (hs : ∀ x, foldedSetIterable iter env x = pure x) :
    wpAny (model prog w) A (eval (.ListComp elt [⟨.Name x px, iter, [], 0⟩] scope pos) env) Q E s := by
  refine wpAny_ListComp_walk (fun _ => true) (fun v r => ∃ c u t, v = .str ⟨#[c]⟩ u ∧ r = .str (g c) t) hfree hcell hkind hnames hx
    (wpAny_mono h (fun xv s₁ h₁ => ?_) fun _ _ e => e) hs
  obtain ⟨y, t, rfl, hsz, F, N, helt, hQ⟩ := h₁
  refine wpAny_pyIter_str fun o St W hst => ?_
  have up : ∀ (h' : Heap), (∀ b o', b ∉ [s₁.heap.objs.size] → (s₁.heap.push o).get? b = some o' → h'.get? b = some o') → ∀ b o', s₁.heap.get? b = some o' → h'.get? b = some o' :=
    fun h' hk b o' e => hk b o' (old_not_new e) (Heap.get?_push_of_some _ e)
  refine ⟨s₁.heap.objs.size, [s₁.heap.objs.size], [s₁.heap.objs.size], y.cps.size, SignAt y, St, rfl, W A hh, hsz, hst, ?_, ⟨?_, ?_⟩, ?_⟩
  · intro b hb
    show b < (s₁.heap.push o).objs.size
    rw [Heap.size_push, List.mem_singleton.mp hb]
    exact Nat.lt_succ_self _
  · intro C i v s₃ m₃ E' hP hn hm _ _
    exact wpAny_tests_nil ⟨rfl, _, _, rfl, fun _ _ e => e⟩
  · intro C i v s₃ m₃ E' hP hp hn hm _ _
    obtain ⟨c, u, _, rfl⟩ := hP
    exact wpAny_mono (helt C c u s₃ m₃ E' hn hm) (fun r s₄ h₄ => by obtain ⟨⟨t, rfl⟩, hk⟩ := h₄; exact ⟨⟨c, u, t, rfl, rfl⟩, hk⟩) fun _ _ e => e
  · intro D h' tk ys vs hnew hlD hplD hlen hP hF hk
    rw [List.filter_eq_self.mpr (fun _ _ => rfl)] at hF
    obtain ⟨l, e1, e2⟩ := paired_signs hF y.cps.toList (by rw [hlen]; simp) fun j v hv => by
      obtain ⟨c, u, hc, rfl⟩ := hP j v hv
      exact ⟨c, u, by simpa using hc, rfl⟩
    obtain ⟨n, hD⟩ := hplD
    have eys : ys = (strValues l).toArray := by rw [← e1]
    subst eys
    refine hQ D n l h' tk (F.keeps (up h' hk)) (fun p hp => ?_) e2
    rcases List.mem_cons.mp hp with rfl | hp
    · refine ⟨hD, fun q => ?_, ?_⟩
      · obtain ⟨oL, _, _, hL, _⟩ := F.ns
        have := Heap.get?_push_of_some o hL
        rw [← q] at this
        rw [this] at hnew; cases hnew
      · cases e : h₀.get? D with
        | none => rfl
        | some o' => rw [Heap.get?_push_of_some _ (F.keep _ _ e)] at hnew; cases hnew
    · exact (N.grown (up h' hk)) p hp
end
end
end Mine
namespace Mine
section
open PySem PySem.Builtin PySem.Builtin.Str
set_option maxRecDepth 100000
abbrev escC (c : Nat) : Str := if c = 34 ∨ c = 92 then ⟨#[92, c]⟩ else ⟨#[c]⟩
theorem str_join_nil : ∀ texts : List Str, (Str.join (Str.ofString "") texts).cps.toList = texts.flatMap fun x => x.cps.toList
  | [] => rfl
  | [x] => by show x.cps.toList = _; simp
  | x :: y :: r => by
    have ih := str_join_nil (y :: r)
    show (x ++ Str.ofString "" ++ Str.join (Str.ofString "") (y :: r)).cps.toList = _
    simp only [Str.cps_append, Array.toList_append]
    rw [ih]
    have e : (Str.ofString "").cps.toList = [] := by decide +kernel
    rw [e, List.append_nil]; simp only [List.flatMap_cons]
theorem join_nil (texts : List Str) : Txt.join (Str.ofString "") texts = ⟨(texts.flatMap fun x => x.cps.toList).toArray⟩ := by
  refine Str.ext' ?_
  show (glued (Str.ofString "") texts).cps = _
  rw [StrLaws.glued_eq_join]
  have := str_join_nil texts
  show _ = (texts.flatMap fun x => x.cps.toList).toArray
  rw [← this]
theorem joinOk_nil (texts : List Str) (h : (texts.map (·.length)).sum ≤ 100000) : JoinOk (Str.ofString "") texts = true := by
  unfold JoinOk
  rw [StrLaws.joinTotal]
  have e : (Str.ofString "").length = 0 := by decide +kernel
  have e2 : sizeLine = 16777216 := by decide
  rw [e]
  unfold tooLong
  rw [e2, Bool.not_eq_true', decide_eq_false_iff_not]
  omega
theorem escC_list (c : Nat) : (escC c).cps.toList = if c = 34 ∨ c = 92 then [92, c] else [c] := by
  unfold escC; split <;> rfl
theorem join_esc (v : Str) : Txt.join (Str.ofString "") (v.cps.toList.map escC) = escS v := by
  rw [join_nil]
  refine Str.ext' ?_
  show _ = (escL v.cps.toList).toArray
  unfold escL
  rw [List.flatMap_map, show (fun c => (escC c).cps.toList) = fun k => if k = 34 ∨ k = 92 then [92, k] else [k] from funext escC_list]
theorem escC_len (c : Nat) : (escC c).length ≤ 2 := by unfold escC; split <;> (first | exact Nat.le_refl 2 | exact Nat.le_succ 1)
theorem joinOk_esc (v : Str) (h : v.length ≤ 1000) : JoinOk (Str.ofString "") (v.cps.toList.map escC) = true := by
  refine joinOk_nil _ ?_
  have h1 : ((v.cps.toList.map escC).map (·.length)).sum ≤ (v.cps.toList.map escC).length * 2 := StrLaws.sumLen_le _ (fun y hy => by
    obtain ⟨c, _, rfl⟩ := List.mem_map.mp hy
    exact escC_len c)
  have h2 : (v.cps.toList.map escC).length = v.length := by simp [Str.length]
  rw [h2] at h1
  omega
theorem contains_one (x : Str) (c : Nat) : Txt.contains x ⟨#[c]⟩ = x.cps.toList.contains c := by
  unfold Txt.contains
  rw [StrLaws.found_one]
  by_cases h : c ∈ x.cps.toList
  · rw [decide_eq_true h]; exact (List.contains_iff_mem.mpr h).symm
  · rw [decide_eq_false h]; symm; rw [Bool.eq_false_iff]; intro h'; exact h (List.contains_iff_mem.mp h')
theorem two_list : (Str.ofString "\\\"").cps.toList = [92, 34] := by decide +kernel
theorem sixteen_list : (Str.ofString " ()<>@,;:\\\"/[]?=").cps.toList = sixteen := by decide +kernel
theorem esc_no {c : Nat} (h : (occurrences (Str.ofString "\\\"") ⟨#[c]⟩ 0 (Str.ofString "\\\"").length 1).isEmpty = true) : (⟨#[c]⟩ : Str) = escC c := by
  have h1 : Txt.contains (Str.ofString "\\\"") ⟨#[c]⟩ = false := by unfold Txt.contains; rw [h]; rfl
  rw [contains_one, two_list] at h1
  unfold escC
  rw [if_neg]
  rintro (rfl | rfl)
  · exact absurd h1 (by decide)
  · exact absurd h1 (by decide)
theorem esc_yes {c : Nat} (h : (occurrences (Str.ofString "\\\"") ⟨#[c]⟩ 0 (Str.ofString "\\\"").length 1).isEmpty = false) : Str.ofString "\\" ++ (⟨#[c]⟩ : Str) = escC c := by
  have h1 : Txt.contains (Str.ofString "\\\"") ⟨#[c]⟩ = true := by unfold Txt.contains; rw [h]; rfl
  rw [contains_one, two_list, List.contains_iff_mem] at h1
  unfold escC
  simp only [List.mem_cons, List.not_mem_nil, or_false] at h1
  rw [if_pos (by omega), show Str.ofString "\\" = ⟨#[92]⟩ from by decide +kernel]
  rfl
theorem filter_sp (v : Str) : ((PyProof.Rows.signs v).filter (fun a => !(occurrences (Str.ofString " ()<>@,;:\\\"/[]?=") a 0 (Str.ofString " ()<>@,;:\\\"/[]?=").length 1).isEmpty)).isEmpty = !anySp v := by
  have e : ∀ c : Nat, (!(occurrences (Str.ofString " ()<>@,;:\\\"/[]?=") ⟨#[c]⟩ 0 (Str.ofString " ()<>@,;:\\\"/[]?=").length 1).isEmpty) = sixteen.contains c := fun c => by
    have := contains_one (Str.ofString " ()<>@,;:\\\"/[]?=") c
    unfold Txt.contains at this
    rw [this, sixteen_list]
  unfold anySp PyProof.Rows.signs
  generalize v.cps.toList = l
  induction l with
  | nil => rfl
  | cons c r ih =>
    rw [List.map_cons, List.filter_cons, e c, List.any_cons]
    cases sixteen.contains c
    · simpa using ih
    · rfl
theorem empty_len {v : Str} (h : (v == Str.ofString "") = true) : v.length = 0 := by
  rw [eq_of_beq h]; decide +kernel
theorem nonempty_len {v : Str} (h : (v == Str.ofString "") = false) : v.length ≠ 0 := by
  intro e
  have h1 : v.cps = #[] := Array.eq_empty_of_size_eq_zero e
  have h2 : v = Str.ofString "" := Str.ext' (by rw [h1]; decide +kernel)
  rw [h2] at h
  simp at h
end
end Mine
namespace Mine
section
open PySem PySem.W PyProof.Rows
set_option maxRecDepth 100000
set_option maxHeartbeats 1000000
open PySem.Builtin.Str in
theorem bare_of {v : Str} {ys : List Value} (hc : CarriedAll ys (List.map PyData.str ((signs v).filter (fun a => !(occurrences (Str.ofString " ()<>@,;:\\\"/[]?=") a 0 (Str.ofString " ()<>@,;:\\\"/[]?=").length 1).isEmpty)))) (h : (ys.toArray.size == 0) = true) : anySp v = false := by
  have h1 := hc.length_eq
  have h2 := filter_sp v
  rw [List.length_map] at h1
  have h3 : ys.length = 0 := by simpa using h
  rw [h3] at h1
  rw [List.isEmpty_iff.mpr (List.length_eq_zero_iff.mp h1.symm)] at h2
  simpa using h2.symm
open PySem.Builtin.Str in
theorem marks_of {v : Str} {ys : List Value} (hc : CarriedAll ys (List.map PyData.str ((signs v).filter (fun a => !(occurrences (Str.ofString " ()<>@,;:\\\"/[]?=") a 0 (Str.ofString " ()<>@,;:\\\"/[]?=").length 1).isEmpty)))) (h : (ys.toArray.size == 0) = false) : anySp v = true := by
  have h1 := hc.length_eq
  have h2 := filter_sp v
  rw [List.length_map] at h1
  have h3 : ys.length ≠ 0 := by simpa using h
  rw [h1] at h3
  cases hb : anySp v with
  | true => rfl
  | false =>
    rw [hb] at h2
    exact absurd (List.length_eq_zero_iff.mpr (List.isEmpty_iff.mp h2)) h3
section
variable {w : World} {mean : ExcName → Option Value} {mg mb : Str → Option Value} {news : List (Addr × Obj)}
local macro_rules | `(tactic| walk_at "compareOp Eq ref ref") => `(tactic| (k_here; (with_reducible show wpAny _ _ (compareOp CmpOp.Eq (Value.ref _) (Value.ref _)) _ _ _); k_dflt (refine eq_nil (News.isList (by k_asm) (by k_mem)) (News.isList (by k_asm) (by k_mem)) (by ktr_units) ?_)))
local macro_rules | `(tactic| walk_at "call builtin:str.join") => `(tactic| (k_here; refine stop_ ?_))
local macro_rules | `(tactic| walk_at "eval ListComp") => `(tactic| (k_here; (with_reducible show wpAny _ _ (eval (Expr.ListComp _ [⟨_, _, [], _⟩] _ _) _) _ _ _); refine stop_ ?_))

theorem written_call (n v : Str) (q : Bool) (t1 t2 : Tok) (h1 : n.length ≤ 100) (h2 : v.length ≤ 1000) :
    Spec w mean mg mb 70 1 8 news [.str n t1, .str v t2, .bool q] (fun h₀ L h' r => News h₀ L h' news ∧ ∃ t, r = .str (fmtF n v q) t) := by
  w_top off
  unfold Spec
  k_fill
  intro dp un gd cn cs a ccd cl outer A₀ base h₀ L m s Q E B F X N T hk hd hu hret
  refine wpAny_call ?_
  k_dflt cell_enter
  k_steps
  · refine hret _ _ _ (by k_asm) ⟨by k_asm, _, congrArg (Value.str · _) ?_⟩
    unfold fmtF
    rw [if_pos (empty_len (by assumption))]
  · unfold Stop
    refine comp_signs escC (by k_asm) (by k_asm) (by with_unfolding_all rfl) (by decide) (by decide) (by rfl) (by decide) (by rfl) ?_ (by intro _; with_unfolding_all rfl)
    (k_dflt (refine' ld ?k1 ?k2 ?_; (case k1 => k_asm); (case k2 => exact rfl); k_whole))
    refine ⟨_, _, rfl, by (rw [sizeLine_eq]; omega), by k_asm, by k_asm, ?_, ?_⟩
    · intro C9 c9 u9 s9 m9 E9 hn9 hm9
      k_steps
      · exact ⟨⟨_, congrArg (Value.str · _) (esc_no (by assumption))⟩, _, _, rfl, fun _ _ e => e⟩
      · exact ⟨⟨_, congrArg (Value.str · _) (esc_yes (by assumption))⟩, _, _, rfl, fun _ _ e => e⟩
    · intro D9 n9 l9 h9 tk9 F9 N9 hl9
      k_steps
      unfold Stop
      refine PySem.SC.join (News.isList N9 (List.Mem.head _)) hl9 (joinOk_esc v h2) ?_
      rw [join_esc]
      have hle := escS_length v
      intro t9 k9
      k_steps
      refine hret _ _ _ (by k_asm) ⟨cb_drop (by k_asm) (fun _ hq => List.mem_cons_of_mem _ hq), _, congrArg (Value.str · _) ?_⟩
      unfold fmtF
      rw [if_neg (nonempty_len (by assumption)), if_pos (by simp_all)]
  · refine hret _ _ _ (by k_asm) ⟨cb_drop (by k_asm) (fun _ hq => List.mem_cons_of_mem _ (List.mem_cons_of_mem _ hq)), _, congrArg (Value.str · _) ?_⟩
    have hsp : anySp v = false := bare_of (by assumption) (by assumption)
    unfold fmtF
    rw [if_neg (nonempty_len (by assumption)), if_neg (by simp_all)]
  · have hsp : anySp v = true := marks_of (by assumption) (by assumption)
    unfold Stop
    refine comp_signs escC (by k_asm) (by k_asm) (by with_unfolding_all rfl) (by decide) (by decide) (by rfl) (by decide) (by rfl) ?_ (by intro _; with_unfolding_all rfl)
    (k_dflt (refine' ld ?k1 ?k2 ?_; (case k1 => k_asm); (case k2 => exact rfl); k_whole))
    refine ⟨_, _, rfl, by (rw [sizeLine_eq]; omega), by k_asm, by k_asm, ?_, ?_⟩
    · intro C9 c9 u9 s9 m9 E9 hn9 hm9
      k_steps
      · exact ⟨⟨_, congrArg (Value.str · _) (esc_no (by assumption))⟩, _, _, rfl, fun _ _ e => e⟩
      · exact ⟨⟨_, congrArg (Value.str · _) (esc_yes (by assumption))⟩, _, _, rfl, fun _ _ e => e⟩
    · intro D9 n9 l9 h9 tk9 F9 N9 hl9
      k_steps
      unfold Stop
      refine PySem.SC.join (News.isList N9 (List.Mem.head _)) hl9 (joinOk_esc v h2) ?_
      rw [join_esc]
      have hle := escS_length v
      intro t9 k9
      k_steps
      refine hret _ _ _ (by k_asm) ⟨cb_drop (by k_asm) (fun _ hq => List.mem_cons_of_mem _ (List.mem_cons_of_mem _ (List.mem_cons_of_mem _ hq))), _, congrArg (Value.str · _) ?_⟩
      unfold fmtF
      rw [if_neg (nonempty_len (by assumption)), if_pos (by simp_all)]
end
end
end Mine
namespace Mine
section
open PySem PySem.W PyProof.Rows
set_option maxRecDepth 100000
section
variable {prog : Program} {w : World} {A : Around} {E : Value → Shared → Prop} {Q : Flow → Shared → Prop} {s : Shared} {env : Env} {h₀ : Heap} {L : Addr}
theorem While_S {test : Expr} {body : List Stmt} {pos : Pos} {m : Str → Option Value} {news : List (Addr × Obj)} (J : (Str → Option Value) → List (Addr × Obj) → Nat → (Str → Option Value) → List (Addr × Obj) → Prop) {n₀ : Nat}
    (F : Fr h₀ L s.heap m) (N : News h₀ L s.heap news) (hJ : J m news n₀ m news)
    (turn : ∀ n m₁ news₁ h₁ tk₁, Fr h₀ L h₁ m₁ → News h₀ L h₁ news₁ → J m news n m₁ news₁ →
      wpAny (model prog w) A (isTrue test env (eval test env)) (fun b s₂ =>
        if b = true then wpAny (model prog w) A (execs body env) (fun f s₃ => Stop (WhileStep h₀ L s (J m news) n f s₃)) E s₂ else Stop (Q .next s₂)) E { s with heap := h₁, toks := tk₁ })
    (hE : PassesOwn (model prog w) A env E := by passes_own) :
    wpAny (model prog w) A (exec (.While test body [] pos) env) Q E s := While_inv (J m news) F N hJ turn hE
end
end
end Mine
namespace Mine
section
open PySem PySem.W PyProof.Rows
set_option maxRecDepth 100000
def ForStep (h₀ : Heap) (L I : Addr) (oI : Obj) (S : List (Addr × Obj) → Prop) (Jn : (Str → Option Value) → List (Addr × Obj) → Prop) (s₀ : Shared) (Q : Flow → Shared → Prop) (f : Flow) (s₃ : Shared) : Prop :=
  match f with
  | .ret v => Q (.ret v) s₃
  | .brk => Q .next s₃
  | _ => ∃ h' tk m' news', s₃ = { s₀ with heap := h', toks := tk } ∧ Fr h₀ L h' m' ∧ News h₀ L h' ((I, oI) :: news') ∧ (∀ p ∈ news', p.1 ≠ I) ∧ S news' ∧ Jn m' news'
theorem ForStep.next {h₀ : Heap} {L I : Addr} {oI : Obj} {S : List (Addr × Obj) → Prop} {Jn : (Str → Option Value) → List (Addr × Obj) → Prop} {s₀ : Shared} {Q : Flow → Shared → Prop} {h' : Heap} {tk : Nat} {m' : Str → Option Value} {news' : List (Addr × Obj)}
    (F : Fr h₀ L h' m') (N : News h₀ L h' ((I, oI) :: news')) (ho : ∀ p ∈ news', p.1 ≠ I) (hS : S news') (hJ : Jn m' news') : Stop (ForStep h₀ L I oI S Jn s₀ Q .next { s₀ with heap := h', toks := tk }) :=
  ⟨h', tk, m', news', rfl, F, N, ho, hS, hJ⟩
section
variable {prog : Program} {w : World} {A : Around} {E : Value → Shared → Prop} {Q : Flow → Shared → Prop} {s : Shared} {env : Env} {h₀ : Heap} {L : Addr}
theorem for_core {target : Expr} {body : List Stmt} {I : Addr} {fp : List Addr} {n : Nat} {P : Nat → Value → Prop} {St : Nat → Heap → Prop} {m : Str → Option Value} {news : List (Addr × Obj)} (S : List (Addr × Obj) → Prop)
    (W : Walks prog w A I fp [I] n P St) (hIo : ∀ i h, St i h → ∃ o, h.get? I = some o)
    (hSt : ∀ i h h' o nw, St i h → h.get? I = some o → h'.get? I = some o → (∀ b o, h₀.get? b = some o → h'.get? b = some o) → News h₀ L h' nw → S nw → St i h')
    (hst : St 0 s.heap) (F : Fr h₀ L s.heap m) (N : News h₀ L s.heap news) (hIL : L ≠ I) (hI₀ : h₀.get? I = none) (off : ∀ p ∈ news, p.1 ≠ I) (hS : S news)
    (J : Nat → (Str → Option Value) → List (Addr × Obj) → Prop) (h0 : J 0 m news)
    (turn : ∀ i v m₁ news₁ oI h tk, i < n → P i v → J i m₁ news₁ → S news₁ → (∀ p ∈ news₁, p.1 ≠ I) → Fr h₀ L h m₁ → News h₀ L h ((I, oI) :: news₁) →
      wpAny (model prog w) A (assign target env v) (fun _ s₂ => wpAny (model prog w) A (execs body env) (fun f s₃ => Stop (ForStep h₀ L I oI S (J (i + 1)) s Q f s₃)) E s₂) E { s with heap := h, toks := tk })
    (done : ∀ m₁ news₁ h tk, J n m₁ news₁ → Fr h₀ L h m₁ → News h₀ L h news₁ → Q .next { s with heap := h, toks := tk })
    (hE : PassesOwn (model prog w) A env E) (ht : ∀ v, letOwnedTupleGo target (.ref I) v = pure ()) :
    codeAny (model prog w) A (.forLoop target (.ref I) body [] env) (fun r s' => match r with | .ok f => Q f s' | .error e => cameBackBy (model prog w) A env E e s') s := by
  refine codeAny_forLoop
    (fun k s' => ∃ h' tk m' news' i, s' = { s with heap := h', toks := tk } ∧ St i h' ∧ Fr h₀ L h' m' ∧ News h₀ L h' news' ∧ (∀ p ∈ news', p.1 ≠ I) ∧ S news' ∧ J i m' news' ∧ i ≤ n ∧ k = n + 1 - i) ?_ (n + 1)
    ⟨s.heap, s.toks, m, news, 0, rfl, hst, F, N, off, hS, h0, Nat.zero_le _, rfl⟩ ht
  rintro k s' ⟨h', tk, m', news', i, rfl, hst', F', N', off', hS', hJ, hi, rfl⟩
  have next : ∀ h₁ : Heap, (∀ b o, b ∉ [I] → h'.get? b = some o → h₁.get? b = some o) → Fr h₀ L h₁ m' ∧ News h₀ L h₁ news' := fun h₁ hk₁ =>
    ⟨LCg.fr_but F' hk₁ hIL hI₀, LCg.news_but N' hk₁ off'⟩
  by_cases hlt : i < n
  · refine W.item i _ _ _ hlt hst' fun v h₁ tk₁ hP hst₁ hk₁ => ?_
    obtain ⟨F₁, N₁⟩ := next h₁ hk₁
    obtain ⟨oI, heI⟩ := hIo _ _ hst₁
    have N₂ : News h₀ L h₁ ((I, oI) :: news') := fun p hp => by
      rcases List.mem_cons.mp hp with rfl | hp
      · exact ⟨heI, Ne.symm hIL, hI₀⟩
      · exact N₁ p hp
    refine wpAny_passesOwn hE (wpAny_mono (turn i v m' news' oI h₁ tk₁ hlt hP hJ hS' off' F₁ N₂) (fun _ s₂ h₂ => ?_) fun _ _ e => e)
    refine wpAny_passesOwn hE (wpAny_mono h₂ (fun f s₃ h₃ => ?_) fun _ _ e => e)
    have fin : (∃ h' tk m' news', s₃ = { s with heap := h', toks := tk } ∧ Fr h₀ L h' m' ∧ News h₀ L h' ((I, oI) :: news') ∧ (∀ p ∈ news', p.1 ≠ I) ∧ S news' ∧ J (i + 1) m' news') →
        ∃ k, k < n + 1 - i ∧ ∃ h' tk m' news' i, s₃ = { s with heap := h', toks := tk } ∧ St i h' ∧ Fr h₀ L h' m' ∧ News h₀ L h' news' ∧ (∀ p ∈ news', p.1 ≠ I) ∧ S news' ∧ J i m' news' ∧ i ≤ n ∧ k = n + 1 - i := by
      rintro ⟨H₃, tk₃, m₃, news₃, rfl, F₃, N₃, o₃, S₃, J₃⟩
      have N₃' : News h₀ L H₃ news₃ := fun p hp => N₃ p (List.mem_cons_of_mem _ hp)
      exact ⟨n + 1 - (i + 1), by omega, H₃, tk₃, m₃, news₃, i + 1, rfl, hSt _ _ _ _ _ hst₁ heI (N₃ _ List.mem_cons_self).1 F₃.keep N₃' S₃, F₃, N₃', o₃, S₃, J₃, hlt, rfl⟩
    cases f with
    | ret v => exact h₃
    | brk => exact h₃
    | next => exact fin h₃
    | cont => exact fin h₃
  · obtain rfl : i = n := Nat.le_antisymm hi (Nat.not_lt.mp hlt)
    refine W.done _ _ _ hst' fun h₁ tk₁ hk₁ => wpAny_execs_nil ?_
    obtain ⟨F₁, N₁⟩ := next h₁ hk₁
    exact done m' news' h₁ tk₁ hJ F₁ N₁
theorem For_L {target iter : Expr} {body : List Stmt} {pos : Pos} {mm : Str → Option Value} (_F₀ : Fr h₀ L s.heap mm) (J : (Str → Option Value) → List (Addr × Obj) → Nat → (Str → Option Value) → List (Addr × Obj) → Prop)
    (h : wpAny (model prog w) A (eval iter env) (fun xv s₁ => ∃ (D : Addr) (its : List Value) (c : Nat) (m : Str → Option Value) (news : List (Addr × Obj)),
      xv = .ref D ∧ A.handled = none ∧ Fr h₀ L s₁.heap m ∧ News h₀ L s₁.heap news ∧ (D, listOf its.toArray c) ∈ news ∧ J m news 0 m news ∧
      (∀ I i v m₁ news₁ oI h tk, its[i]? = some v → J m news i m₁ news₁ → (D, listOf its.toArray c) ∈ news₁ → (∀ p ∈ news₁, p.1 ≠ I) → Fr h₀ L h m₁ → News h₀ L h ((I, oI) :: news₁) →
        wpAny (model prog w) A (assign target env v) (fun _ s₂ => wpAny (model prog w) A (execs body env) (fun f s₃ => Stop (ForStep h₀ L I oI (fun nw => (D, listOf its.toArray c) ∈ nw) (J m news (i + 1)) s₁ Q f s₃)) E s₂) E { s₁ with heap := h, toks := tk }) ∧
      (∀ m₁ news₁ h tk, J m news its.length m₁ news₁ → Fr h₀ L h m₁ → News h₀ L h news₁ → Q .next { s₁ with heap := h, toks := tk })) E s)
    (ht : ∀ I v, letOwnedTupleGo target (.ref I) v = pure ())
    (hs : ∀ x, foldedSetIterable iter env x = pure x := by intro _; rfl) (hE : PassesOwn (model prog w) A env E := by passes_own) :
    wpAny (model prog w) A (exec (.For target iter body [] pos) env) Q E s := by
  refine wpAny_For (wpAny_mono h (fun xv s₁ h₁ => ?_) fun _ _ e => e) hs
  obtain ⟨D, its, c, m, news, rfl, hh, F, N, hm, h0, turn, done⟩ := h₁
  have hl : s₁.heap.IsList D its.toArray := ⟨_, (N _ hm).1, rfl, _, rfl⟩
  have hlt : D < s₁.heap.objs.size := Heap.lt_size (N _ hm).1
  refine wpAny_pyIter_list hl ?_
  have up : ∀ b o, s₁.heap.get? b = some o → (s₁.heap.push { cls := .type "list_iterator", data := .fields #[.ref D, .int 0 0] }).get? b = some o := fun b o e => Heap.get?_push_of_some _ e
  refine for_core (fun nw => (D, listOf its.toArray c) ∈ nw) (Walks.list hh s₁.heap.objs.size D (Nat.ne_of_lt hlt) its.toArray) (fun i h st => by obtain ⟨o, e, _⟩ := st.1; exact ⟨o, e⟩)
    (fun i h h' o nw st e e' k N' S' => ⟨by obtain ⟨o', q, r⟩ := st.1; rw [e] at q; cases q; exact ⟨o, e', r⟩, ⟨_, (N' _ S').1, rfl, _, rfl⟩⟩)
    ⟨⟨_, Heap.get?_push_size _ rfl, rfl, rfl⟩, hl.push _⟩ (F.keeps up) (N.grown up) (Nat.ne_of_lt F.ns.lt) (next_is_new F) (fun p hp => Nat.ne_of_lt (Heap.lt_size (N p hp).1)) hm (J m news) h0
    (fun i v m₁ news₁ oI h tk hi hP hJ hS ho F₁ N₁ => ?_) (fun m₁ news₁ h tk hJ F₁ N₁ => ?_) hE (ht _)
  · exact turn s₁.heap.objs.size i v m₁ news₁ oI h tk (by simpa using hP) hJ hS ho F₁ N₁
  · exact done m₁ news₁ h tk (by simpa using hJ) F₁ N₁
theorem For_R {target iter : Expr} {body : List Stmt} {pos : Pos} {mm : Str → Option Value} (_F₀ : Fr h₀ L s.heap mm) (J : (Str → Option Value) → List (Addr × Obj) → Nat → (Str → Option Value) → List (Addr × Obj) → Prop)
    (h : wpAny (model prog w) A (eval iter env) (fun xv s₁ => ∃ (r : Addr) (a b : Int) (t u v : Tok) (n : Nat) (m : Str → Option Value) (news : List (Addr × Obj)),
      xv = .ref r ∧ A.handled = none ∧ Fr h₀ L s₁.heap m ∧ News h₀ L s₁.heap news ∧ IsRange s₁.heap r a b 1 t u v ∧ Builtin.Range.small a b 1 = true ∧ Builtin.Range.rangeSize a b 1 = ((n : Nat) : Int) ∧ J m news 0 m news ∧
      (∀ I i t m₁ news₁ oI h tk, i < n → J m news i m₁ news₁ → (∀ p ∈ news₁, p.1 ≠ I) → Fr h₀ L h m₁ → News h₀ L h ((I, oI) :: news₁) →
        wpAny (model prog w) A (assign target env (.int (a + (i : Int)) t)) (fun _ s₂ => wpAny (model prog w) A (execs body env) (fun f s₃ => Stop (ForStep h₀ L I oI (fun _ => True) (J m news (i + 1)) s₁ Q f s₃)) E s₂) E { s₁ with heap := h, toks := tk }) ∧
      (∀ m₁ news₁ h tk, J m news n m₁ news₁ → Fr h₀ L h m₁ → News h₀ L h news₁ → Q .next { s₁ with heap := h, toks := tk })) E s)
    (ht : ∀ I v, letOwnedTupleGo target (.ref I) v = pure ())
    (hs : ∀ x, foldedSetIterable iter env x = pure x := by intro _; rfl) (hE : PassesOwn (model prog w) A env E := by passes_own) :
    wpAny (model prog w) A (exec (.For target iter body [] pos) env) Q E s := by
  refine wpAny_For (wpAny_mono h (fun xv s₁ h₁ => ?_) fun _ _ e => e) hs
  obtain ⟨r, a, b, t, u, v, n, m, news, rfl, hh, F, N, hr, hsm, hn, h0, turn, done⟩ := h₁
  refine wpAny_pyIter_range hr hsm ?_
  refine for_core (fun _ => True) (LCg.range_walks hh a n) (fun i h st => ⟨_, st⟩) LCg.range_st (by show IsRangeIter _ _ _ _ _; rw [hn]; simpa using Heap.get?_push_size _ rfl)
    (F.keeps fun _ _ e => Heap.get?_push_of_some _ e) (N.grown fun _ _ e => Heap.get?_push_of_some _ e) (Nat.ne_of_lt F.ns.lt) (next_is_new F) (fun p hp => Nat.ne_of_lt (Heap.lt_size (N p hp).1)) trivial (J m news) h0
    (fun i v m₁ news₁ oI h tk hi hP hJ hS ho F₁ N₁ => ?_) (fun m₁ news₁ h tk hJ F₁ N₁ => ?_) hE (ht _)
  · obtain ⟨t, rfl⟩ := hP
    exact turn _ i t m₁ news₁ oI h tk hi hJ ho F₁ N₁
  · exact done m₁ news₁ h tk hJ F₁ N₁
end
end
end Mine
namespace Mine
section
open PySem PySem.Builtin PySem.Builtin.Str
set_option maxRecDepth 100000
theorem sliceIdx_clip (a b len : Nat) : strSliceIndices (some (a : Int)) (some (b : Int)) 1 len = strSliceIndices (some ((min a len : Nat) : Int)) (some ((min b len : Nat) : Int)) 1 len := by
  have h1 : ¬ ((a : Int) < 0) := by omega
  have h2 : ¬ ((b : Int) < 0) := by omega
  have h3 : ¬ (((min a len : Nat) : Int) < 0) := by omega
  have h4 : ¬ (((min b len : Nat) : Int) < 0) := by omega
  unfold strSliceIndices
  simp only [h1, h2, h3, h4, if_false, show (1 : Int) > 0 by decide, if_true]
  congr 1
  · omega
  · omega
theorem slice_nat (x : Str) {a b : Nat} (hab : a ≤ b) : Txt.slice x (some (a : Int)) (some (b : Int)) = ⟨((x.cps.toList.drop a).take (b - a)).toArray⟩ := by
  have e : Txt.slice x (some (a : Int)) (some (b : Int)) = Txt.slice x (some ((min a x.length : Nat) : Int)) (some ((min b x.length : Nat) : Int)) := by
    unfold Txt.slice; rw [sliceIdx_clip a b x.length]
  rw [e]
  have h := StrLaws.sliceText_nat x (a := min a x.length) (b := min b x.length) (by omega) (by omega)
  have h' : Txt.slice x (some ((min a x.length : Nat) : Int)) (some ((min b x.length : Nat) : Int)) = _ := h
  rw [h']
  have hl : x.cps.toList.length = x.length := by simp [Str.length]
  refine congrArg (fun l : List Nat => (⟨l.toArray⟩ : Str)) ?_
  by_cases ha : a ≤ x.length
  · rw [Nat.min_eq_left ha]
    by_cases hb : b ≤ x.length
    · rw [Nat.min_eq_left hb]
    · rw [Nat.min_eq_right (by omega), List.take_of_length_le (by rw [List.length_drop]; omega), List.take_of_length_le (by rw [List.length_drop]; omega)]
  · rw [List.drop_of_length_le (l := x.cps.toList) (i := a) (by omega), Nat.min_eq_right (a := a) (by omega), List.drop_of_length_le (by omega)]
    simp
def strOf (l : List Nat) : Str := ⟨l.toArray⟩
theorem strOf_toList (x : Str) : strOf x.cps.toList = x := Str.ext' (by unfold strOf; simp)
theorem toList_strOf (l : List Nat) : (strOf l).cps.toList = l := rfl
theorem strOf_inj {a b : List Nat} (h : strOf a = strOf b) : a = b := by
  have := congrArg (fun x : Str => x.cps.toList) h
  exact this
theorem strOf_length (l : List Nat) : (strOf l).length = l.length := by simp [strOf, Str.length]
theorem dots : Str.ofString "..." = strOf [46, 46, 46] := by decide +kernel
def tok : List Nat → List (List Nat)
  | [] => []
  | [a] => [[a]]
  | [a, b] => [[a], [b]]
  | a :: b :: c :: r => if a = 46 ∧ b = 46 ∧ c = 46 then [46, 46, 46] :: tok r else [a] :: tok (b :: c :: r)
  termination_by l => l.length
theorem tok_dots {l : List Nat} (h : l.take 3 = [46, 46, 46]) : tok l = l.take 3 :: tok (l.drop 3) := by
  match l, h with
  | a :: b :: c :: r, h =>
    simp only [List.take_succ_cons, List.take_zero, List.cons.injEq, and_true] at h
    obtain ⟨rfl, rfl, rfl⟩ := h
    rw [tok, if_pos ⟨rfl, rfl, rfl⟩]
    rfl
theorem tok_one {l : List Nat} (hl : l ≠ []) (h : l.take 3 ≠ [46, 46, 46]) : tok l = l.take 1 :: tok (l.drop 1) := by
  match l, hl, h with
  | [a], _, _ => simp [tok]
  | [a, b], _, _ => simp [tok]
  | a :: b :: c :: r, _, h =>
    rw [tok, if_neg (by rintro ⟨rfl, rfl, rfl⟩; exact h rfl)]
    rfl
theorem tok_length (l : List Nat) : (tok l).length ≤ l.length := by
  fun_induction tok l with
  | case1 => simp
  | case2 => simp
  | case3 => simp
  | case4 => simp only [List.length_cons]; omega
  | case5 => simp only [List.length_cons] at *; omega
end
end Mine
namespace Mine
section
open PySem
set_option maxRecDepth 100000
abbrev D3 : List Nat := [46, 46, 46]
def mt : List (List Nat) → List Nat → Prop
  | [], g => g = []
  | t :: ts, g => if t = D3 then ∃ x r, g = x ++ r ∧ mt ts r else ∃ r, g = t ++ r ∧ mt ts r
theorem mt_nil (g : List Nat) : mt [] g ↔ g = [] := Iff.rfl
theorem mt_dots (ts : List (List Nat)) (g : List Nat) : mt (D3 :: ts) g ↔ ∃ x r, g = x ++ r ∧ mt ts r := by
  simp only [mt, if_true]
theorem mt_tok {t : List Nat} (h : t ≠ D3) (ts : List (List Nat)) (g : List Nat) : mt (t :: ts) g ↔ ∃ r, g = t ++ r ∧ mt ts r := by
  simp only [mt, if_neg h]
theorem one_ne (c : Nat) : [c] ≠ D3 := by simp [D3]
theorem mt_one (c : Nat) (ts : List (List Nat)) (g : List Nat) : mt ([c] :: ts) g ↔ ∃ r, g = c :: r ∧ mt ts r := mt_tok (one_ne c) ts g
theorem mt_one_cons (c d : Nat) (ts : List (List Nat)) (g : List Nat) : mt ([c] :: ts) (d :: g) ↔ c = d ∧ mt ts g := by
  rw [mt_one]
  constructor
  · rintro ⟨r, e, h⟩
    injection e with e1 e2
    subst e1 e2
    exact ⟨rfl, h⟩
  · rintro ⟨rfl, h⟩; exact ⟨g, rfl, h⟩
def Toks (ts : List (List Nat)) : Prop := ∀ t ∈ ts, t = D3 ∨ ∃ c, t = [c]
theorem mt_append (a b : List (List Nat)) (g : List Nat) : mt (a ++ b) g ↔ ∃ x y, g = x ++ y ∧ mt a x ∧ mt b y := by
  induction a generalizing g with
  | nil =>
    constructor
    · intro h; exact ⟨[], g, rfl, rfl, h⟩
    · rintro ⟨x, y, rfl, h1, h2⟩
      rw [mt_nil] at h1
      subst h1
      exact h2
  | cons t a ih =>
    rw [List.cons_append]
    by_cases ht : t = D3
    · subst ht
      rw [mt_dots]
      constructor
      · rintro ⟨x, r, rfl, h⟩
        obtain ⟨x', y', rfl, h1, h2⟩ := (ih r).mp h
        exact ⟨x ++ x', y', by rw [List.append_assoc], (mt_dots _ _).mpr ⟨x, x', rfl, h1⟩, h2⟩
      · rintro ⟨x, y, rfl, h1, h2⟩
        obtain ⟨x', r', rfl, h3⟩ := (mt_dots _ _).mp h1
        exact ⟨x', r' ++ y, by rw [List.append_assoc], (ih _).mpr ⟨r', y, rfl, h3, h2⟩⟩
    · rw [mt_tok ht]
      constructor
      · rintro ⟨r, rfl, h⟩
        obtain ⟨x', y', rfl, h1, h2⟩ := (ih r).mp h
        exact ⟨t ++ x', y', by rw [List.append_assoc], (mt_tok ht _ _).mpr ⟨x', rfl, h1⟩, h2⟩
      · rintro ⟨x, y, rfl, h1, h2⟩
        obtain ⟨r', rfl, h3⟩ := (mt_tok ht _ _).mp h1
        exact ⟨r' ++ y, by rw [List.append_assoc], (ih _).mpr ⟨r', y, rfl, h3, h2⟩⟩
theorem mt_single_dots (g : List Nat) : mt [D3] g := (mt_dots _ _).mpr ⟨g, [], by simp, rfl⟩
theorem mt_snoc_dots (ts : List (List Nat)) (g : List Nat) : mt (ts ++ [D3]) g ↔ ∃ x y, g = x ++ y ∧ mt ts x := by
  rw [mt_append]
  constructor
  · rintro ⟨x, y, e, h, _⟩; exact ⟨x, y, e, h⟩
  · rintro ⟨x, y, e, h⟩; exact ⟨x, y, e, h, mt_single_dots y⟩
theorem mt_snoc_one (ts : List (List Nat)) (c : Nat) (g : List Nat) : mt (ts ++ [[c]]) g ↔ ∃ x, g = x ++ [c] ∧ mt ts x := by
  rw [mt_append]
  constructor
  · rintro ⟨x, y, e, h, h2⟩
    obtain ⟨r, e2, h3⟩ := (mt_one _ _ _).mp h2
    rw [mt_nil] at h3
    subst h3
    exact ⟨x, by rw [e, e2], h⟩
  · rintro ⟨x, e, h⟩; exact ⟨x, [c], e, h, (mt_one _ _ _).mpr ⟨[], rfl, rfl⟩⟩
theorem mt_snoc_same (ts : List (List Nat)) (c : Nat) (g : List Nat) : mt (ts ++ [[c]]) (g ++ [c]) ↔ mt ts g := by
  rw [mt_snoc_one]
  constructor
  · rintro ⟨x, e, h⟩
    have := List.append_cancel_right e
    subst this
    exact h
  · intro h; exact ⟨g, rfl, h⟩
theorem tok_toks (l : List Nat) : Toks (tok l) := by
  fun_induction tok l with
  | case1 => intro t h; cases h
  | case2 a => intro t h; exact .inr ⟨a, List.mem_singleton.mp h⟩
  | case3 a b =>
    intro t h
    rcases List.mem_cons.mp h with rfl | h
    · exact .inr ⟨_, rfl⟩
    · exact .inr ⟨_, List.mem_singleton.mp h⟩
  | case4 a b c r h0 ih =>
    intro t h
    rcases List.mem_cons.mp h with rfl | h
    · exact .inl rfl
    · exact ih t h
  | case5 a b c r hn ih =>
    intro t h
    rcases List.mem_cons.mp h with rfl | h
    · exact .inr ⟨_, rfl⟩
    · exact ih t h
theorem tok_cons_ne {c : Nat} (hc : c ≠ 46) (r : List Nat) : tok (c :: r) = [c] :: tok r := by
  have h : (c :: r).take 3 ≠ [46, 46, 46] := by
    intro h
    rw [List.take_succ_cons] at h
    injection h with h1 _
    exact hc h1
  rw [tok_one (by simp) h]
  rfl
theorem tok_append_ne {c : Nat} (hc : c ≠ 46) (x r : List Nat) : tok (x ++ c :: r) = tok x ++ [c] :: tok r := by
  fun_induction tok x with
  | case1 => exact tok_cons_ne hc r
  | case2 a =>
    have h : ([a] ++ c :: r).take 3 ≠ [46, 46, 46] := by
      intro h
      rw [List.singleton_append, List.take_succ_cons, List.take_succ_cons] at h
      injection h with _ h2
      injection h2 with h2 _
      exact hc h2
    rw [tok_one (by simp) h]
    show [a] :: tok (c :: r) = _
    rw [tok_cons_ne hc]
    rfl
  | case3 a b =>
    have h : ([a, b] ++ c :: r).take 3 ≠ [46, 46, 46] := by
      intro h
      have h2 : [a, b, c] = [46, 46, 46] := h
      simp at h2
      exact hc h2.2.2
    have h' : ([b] ++ c :: r).take 3 ≠ [46, 46, 46] := by
      intro h
      rw [List.singleton_append, List.take_succ_cons, List.take_succ_cons] at h
      injection h with _ h2
      injection h2 with h2 _
      exact hc h2
    rw [tok_one (by simp) h]
    show [a] :: tok ([b] ++ c :: r) = _
    rw [tok_one (by simp) h']
    show [a] :: [b] :: tok (c :: r) = _
    rw [tok_cons_ne hc]
    rfl
  | case4 a b d r' h0 ih =>
    obtain ⟨rfl, rfl, rfl⟩ := h0
    have h : (46 :: 46 :: 46 :: r' ++ c :: r).take 3 = [46, 46, 46] := rfl
    rw [tok_dots h]
    show D3 :: tok (r' ++ c :: r) = _
    rw [ih]
    rfl
  | case5 a b d r' hn ih =>
    have h : (a :: b :: d :: r' ++ c :: r).take 3 ≠ [46, 46, 46] := by
      intro h
      have h2 : [a, b, d] = [46, 46, 46] := h
      simp at h2
      exact hn h2
    rw [tok_one (by simp) h]
    show [a] :: tok (b :: d :: r' ++ c :: r) = _
    rw [ih]
    rfl
def escT (ts : List (List Nat)) : List (List Nat) := ts.flatMap fun t => if t = [34] ∨ t = [92] then [[92], t] else [t]
theorem escT_nil : escT [] = [] := rfl
theorem escT_dots (ts : List (List Nat)) : escT (D3 :: ts) = D3 :: escT ts := by
  unfold escT
  rw [List.flatMap_cons, if_neg (by simp [D3])]
  rfl
theorem escT_sp {c : Nat} (h : c = 34 ∨ c = 92) (ts : List (List Nat)) : escT ([c] :: ts) = [92] :: [c] :: escT ts := by
  unfold escT
  rw [List.flatMap_cons, if_pos (by rcases h with rfl | rfl <;> simp)]
  rfl
theorem escT_no {c : Nat} (h : ¬ (c = 34 ∨ c = 92)) (ts : List (List Nat)) : escT ([c] :: ts) = [c] :: escT ts := by
  unfold escT
  rw [List.flatMap_cons, if_neg (by simpa using h)]
  rfl
theorem escL_sp {c : Nat} (h : c = 34 ∨ c = 92) (r : List Nat) : escL (c :: r) = 92 :: c :: escL r := by
  unfold escL; rw [List.flatMap_cons, if_pos h]; rfl
theorem escL_no {c : Nat} (h : ¬ (c = 34 ∨ c = 92)) (r : List Nat) : escL (c :: r) = c :: escL r := by
  unfold escL; rw [List.flatMap_cons, if_neg h]; rfl
theorem escL_append (a b : List Nat) : escL (a ++ b) = escL a ++ escL b := by unfold escL; rw [List.flatMap_append]
theorem tok_escL (l : List Nat) : tok (escL l) = escT (tok l) := by
  fun_induction tok l with
  | case1 => show tok [] = []; simp [tok]
  | case2 a =>
    by_cases h : a = 34 ∨ a = 92
    · rw [escL_sp h, escT_sp h]
      rw [tok_cons_ne (by decide), tok_cons_ne (by omega)]
      show [92] :: [a] :: tok [] = _
      simp [tok, escT]
    · rw [escL_no h, escT_no h]
      show tok [a] = _
      simp [tok, escT]
  | case3 a b =>
    have e : ∀ b : Nat, tok (escL [b]) = escT [[b]] := by
      intro b
      by_cases h : b = 34 ∨ b = 92
      · rw [escL_sp h, escT_sp h, tok_cons_ne (by decide), tok_cons_ne (by omega)]; show [92] :: [b] :: tok [] = _; simp [tok, escT]
      · rw [escL_no h, escT_no h]; show tok [b] = _; simp [tok, escT]
    by_cases h : a = 34 ∨ a = 92
    · rw [escL_sp h, escT_sp h, tok_cons_ne (by decide), tok_cons_ne (by omega), e]
    · rw [escL_no h, escT_no h]
      by_cases h2 : b = 34 ∨ b = 92
      · rw [escL_sp h2, escT_sp h2]
        show tok ([a] ++ 92 :: b :: escL []) = _
        rw [tok_append_ne (by decide), tok_cons_ne (c := b) (by omega)]
        simp [tok, escL, escT]
      · rw [escL_no h2, escT_no h2]
        show tok [a, b] = _
        simp [tok, escT]
  | case4 a b c r h0 ih =>
    obtain ⟨rfl, rfl, rfl⟩ := h0
    have e : escL (46 :: 46 :: 46 :: r) = D3 ++ escL r := by
      rw [escL_no (by decide), escL_no (by decide), escL_no (by decide)]; rfl
    rw [e, tok_dots (by rfl), escT_dots]
    show D3 :: tok (escL r) = _
    rw [ih]
  | case5 a b c r hn ih =>
    by_cases h : a = 34 ∨ a = 92
    · rw [escL_sp h, escT_sp h, tok_cons_ne (by decide), tok_cons_ne (by omega), ih]
    · rw [escL_no h, escT_no h, ← ih]
      have h3 : (a :: escL (b :: c :: r)).take 3 ≠ [46, 46, 46] := by
        intro h3
        by_cases hb : b = 34 ∨ b = 92
        · rw [escL_sp hb, List.take_succ_cons, List.take_succ_cons] at h3
          injection h3 with _ h4
          injection h4 with h4 _
          exact absurd h4 (by decide)
        · rw [escL_no hb] at h3
          by_cases hc : c = 34 ∨ c = 92
          · rw [escL_sp hc, List.take_succ_cons, List.take_succ_cons, List.take_succ_cons] at h3
            injection h3 with _ h4
            injection h4 with _ h5
            injection h5 with h5 _
            exact absurd h5 (by decide)
          · rw [escL_no hc, List.take_succ_cons, List.take_succ_cons, List.take_succ_cons] at h3
            injection h3 with h4 h5
            injection h5 with h5 h6
            injection h6 with h6 _
            exact hn ⟨h4, h5, h6⟩
      rw [tok_one (by simp) h3]
      rfl
theorem escL_cut {g x r : List Nat} (h : escL g = x ++ r) : (∃ y s, g = y ++ s ∧ r = escL s) ∨ ∃ y c s, g = y ++ c :: s ∧ (c = 34 ∨ c = 92) ∧ r = c :: escL s := by
  induction g generalizing x with
  | nil =>
    have h1 : x ++ r = [] := h.symm
    rw [List.append_eq_nil_iff] at h1
    exact .inl ⟨[], [], rfl, h1.2⟩
  | cons c g ih =>
    have lift : ((∃ y s, g = y ++ s ∧ r = escL s) ∨ ∃ y c s, g = y ++ c :: s ∧ (c = 34 ∨ c = 92) ∧ r = c :: escL s) → ((∃ y s, c :: g = y ++ s ∧ r = escL s) ∨ ∃ y d s, c :: g = y ++ d :: s ∧ (d = 34 ∨ d = 92) ∧ r = d :: escL s) := by
      rintro (⟨y, s, rfl, e⟩ | ⟨y, d, s, rfl, hd, e⟩)
      · exact .inl ⟨c :: y, s, rfl, e⟩
      · exact .inr ⟨c :: y, d, s, rfl, hd, e⟩
    cases x with
    | nil => exact .inl ⟨[], c :: g, rfl, h.symm⟩
    | cons a x =>
      by_cases hc : c = 34 ∨ c = 92
      · rw [escL_sp hc, List.cons_append] at h
        injection h with _ h
        cases x with
        | nil => exact .inr ⟨[], c, g, rfl, hc, h.symm⟩
        | cons b x =>
          rw [List.cons_append] at h
          injection h with _ h
          exact lift (ih h)
      · rw [escL_no hc, List.cons_append] at h
        injection h with _ h
        exact lift (ih h)
theorem mt_suffix {ts : List (List Nat)} {y s : List Nat} (h : mt ts s) : mt (D3 :: ts) (y ++ s) := (mt_dots _ _).mpr ⟨y, s, rfl, h⟩
theorem escL_head {g r : List Nat} {d : Nat} (h : escL g = d :: r) : (∃ g', g = d :: g' ∧ ¬ (d = 34 ∨ d = 92) ∧ r = escL g') ∨ ∃ c g', g = c :: g' ∧ (c = 34 ∨ c = 92) ∧ d = 92 ∧ r = c :: escL g' := by
  cases g with
  | nil => cases h
  | cons c g =>
    by_cases hc : c = 34 ∨ c = 92
    · rw [escL_sp hc] at h
      injection h with h1 h2
      exact .inr ⟨c, g, rfl, hc, h1.symm, h2.symm⟩
    · rw [escL_no hc] at h
      injection h with h1 h2
      subst h1
      exact .inl ⟨g, rfl, hc, h2.symm⟩
theorem mt_esc_of {ts : List (List Nat)} (ht : Toks ts) : (∀ g, mt (escT ts) (escL g) → mt ts g) ∧ ∀ c r, (c = 34 ∨ c = 92) → mt (escT ts) (c :: escL r) → mt ts (c :: r) := by
  induction ts with
  | nil =>
    constructor
    · intro g h
      have h1 : escL g = [] := h
      cases g with
      | nil => rfl
      | cons c g =>
        by_cases hc : c = 34 ∨ c = 92
        · rw [escL_sp hc] at h1; cases h1
        · rw [escL_no hc] at h1; cases h1
    · intro c r _ h; cases h
  | cons t ts ih =>
    obtain ⟨ih1, ih2⟩ := ih fun t h => ht t (List.mem_cons_of_mem _ h)
    rcases ht t List.mem_cons_self with rfl | ⟨d, rfl⟩
    · rw [escT_dots]
      have key : ∀ g x r, escL g = x ++ r → mt (escT ts) r → mt (D3 :: ts) g := by
        intro g x r e h
        rcases escL_cut e with ⟨y, s, rfl, rfl⟩ | ⟨y, c, s, rfl, hc, rfl⟩
        · exact mt_suffix (ih1 s h)
        · exact mt_suffix (ih2 c s hc h)
      constructor
      · intro g h
        obtain ⟨x, r, e, h⟩ := (mt_dots _ _).mp h
        exact key g x r e h
      · intro c r hc h
        obtain ⟨x, r', e, h⟩ := (mt_dots _ _).mp h
        cases x with
        | nil =>
          have e' : r' = c :: escL r := e.symm
          subst e'
          exact mt_suffix (y := []) (ih2 c r hc h)
        | cons a x =>
          rw [List.cons_append] at e
          injection e with e1 e2
          obtain ⟨x', s', e3, h3⟩ := (mt_dots _ _).mp (key r x r' e2 h)
          exact (mt_dots _ _).mpr ⟨c :: x', s', by rw [e3]; rfl, h3⟩
    · by_cases hd : d = 34 ∨ d = 92
      · rw [escT_sp hd]
        constructor
        · intro g h
          obtain ⟨r, e, h1⟩ := (mt_one _ _ _).mp h
          obtain ⟨r', e', h2⟩ := (mt_one _ _ _).mp h1
          rcases escL_head e with ⟨g', _, hn, _⟩ | ⟨c, g', e0, hc, _, e2⟩
          · exact absurd (.inr rfl) hn
          · rw [e'] at e2
            injection e2 with e3 e4
            rw [e4] at h2
            rw [e0, ← e3]
            exact (mt_one_cons _ _ _ _).mpr ⟨rfl, ih1 g' h2⟩
        · intro c r hc h
          obtain ⟨e1, h1⟩ := (mt_one_cons _ _ _ _).mp h
          obtain ⟨r', e, h2⟩ := (mt_one _ _ _).mp h1
          rcases escL_head e with ⟨g', _, hn, _⟩ | ⟨c', g', e0, hc', e2, e3⟩
          · exact absurd hd hn
          · rw [e3] at h2
            rw [← e1, e2, e0]
            exact (mt_one_cons _ _ _ _).mpr ⟨rfl, ih2 c' g' hc' h2⟩
      · rw [escT_no hd]
        constructor
        · intro g h
          obtain ⟨r, e, h⟩ := (mt_one _ _ _).mp h
          rcases escL_head e with ⟨g', rfl, _, rfl⟩ | ⟨c, g', rfl, hc, e1, _⟩
          · exact (mt_one_cons _ _ _ _).mpr ⟨rfl, ih1 g' h⟩
          · exact absurd (.inr e1) hd
        · intro c r hc h
          obtain ⟨e1, h⟩ := (mt_one_cons _ _ _ _).mp h
          subst e1
          exact absurd hc hd
theorem mt_esc_to {ts : List (List Nat)} (ht : Toks ts) : ∀ g, mt ts g → mt (escT ts) (escL g) := by
  induction ts with
  | nil => intro g h; rw [mt_nil] at h; subst h; rfl
  | cons t ts ih =>
    have ih := ih fun t h => ht t (List.mem_cons_of_mem _ h)
    intro g h
    rcases ht t List.mem_cons_self with rfl | ⟨d, rfl⟩
    · obtain ⟨x, r, rfl, h1⟩ := (mt_dots _ _).mp h
      rw [escT_dots, escL_append]
      exact mt_suffix (ih r h1)
    · obtain ⟨r, rfl, h1⟩ := (mt_one _ _ _).mp h
      by_cases hd : d = 34 ∨ d = 92
      · rw [escT_sp hd, escL_sp hd]
        exact (mt_one_cons _ _ _ _).mpr ⟨rfl, (mt_one_cons _ _ _ _).mpr ⟨rfl, ih r h1⟩⟩
      · rw [escT_no hd, escL_no hd]
        exact (mt_one_cons _ _ _ _).mpr ⟨rfl, ih r h1⟩
theorem mt_esc {ts : List (List Nat)} (ht : Toks ts) (g : List Nat) : mt (escT ts) (escL g) ↔ mt ts g := ⟨(mt_esc_of ht).1 g, mt_esc_to ht g⟩
end
end Mine
namespace Mine
section
open PySem PySem.Builtin PySem.Builtin.Str
set_option maxRecDepth 100000
def ptoks : List (List Nat) → List (List Nat)
  | [] => [[]]
  | t :: ts => if t = D3 then [] :: ptoks ts else match ptoks ts with
    | p :: ps => (t ++ p) :: ps
    | [] => [t]
theorem ptoks_ne (ts : List (List Nat)) : ∃ p ps, ptoks ts = p :: ps := by
  cases ts with
  | nil => exact ⟨[], [], rfl⟩
  | cons t ts =>
    unfold ptoks
    by_cases h : t = D3
    · rw [if_pos h]; exact ⟨_, _, rfl⟩
    · rw [if_neg h]; split <;> exact ⟨_, _, rfl⟩
theorem ptoks_dots (ts : List (List Nat)) : ptoks (D3 :: ts) = [] :: ptoks ts := by
  rw [ptoks, if_pos rfl]
theorem ptoks_tok {t : List Nat} (h : t ≠ D3) {ts : List (List Nat)} {p : List Nat} {ps : List (List Nat)} (e : ptoks ts = p :: ps) : ptoks (t :: ts) = (t ++ p) :: ps := by
  rw [ptoks, if_neg h, e]
def fits : List (List Nat) → List Nat → Prop
  | [], _ => False
  | [p], g => g = p
  | p :: q :: ps, g => ∃ x r, g = p ++ (x ++ r) ∧ fits (q :: ps) r
theorem fits_front {t p : List Nat} {ps : List (List Nat)} {g : List Nat} : fits ((t ++ p) :: ps) g ↔ ∃ r, g = t ++ r ∧ fits (p :: ps) r := by
  cases ps with
  | nil =>
    constructor
    · intro h; exact ⟨p, h, rfl⟩
    · rintro ⟨r, e, h⟩; have h' : r = p := h; rw [e, h']; rfl
  | cons q ps =>
    constructor
    · rintro ⟨x, r, rfl, h⟩; exact ⟨p ++ (x ++ r), by rw [List.append_assoc], x, r, rfl, h⟩
    · rintro ⟨r, rfl, x, r', rfl, h⟩; exact ⟨x, r', by rw [List.append_assoc], h⟩
theorem fits_iff (ts : List (List Nat)) (g : List Nat) : fits (ptoks ts) g ↔ mt ts g := by
  induction ts generalizing g with
  | nil => exact Iff.rfl
  | cons t ts ih =>
    obtain ⟨p, ps, e⟩ := ptoks_ne ts
    by_cases h : t = D3
    · subst h
      rw [ptoks_dots, mt_dots, e]
      constructor
      · rintro ⟨x, r, rfl, h⟩
        exact ⟨x, r, rfl, (ih r).mp (by rw [e]; exact h)⟩
      · rintro ⟨x, r, rfl, h⟩
        exact ⟨x, r, rfl, by rw [← e]; exact (ih r).mpr h⟩
    · rw [ptoks_tok h e, mt_tok h, fits_front]
      constructor
      · rintro ⟨r, e', h'⟩; exact ⟨r, e', (ih r).mp (by rw [e]; exact h')⟩
      · rintro ⟨r, e', h'⟩; exact ⟨r, e', by rw [← e]; exact (ih r).mpr h'⟩
def free : List (List Nat) → List Nat → Prop
  | [], _ => True
  | m :: ms, g => ∃ x r, g = x ++ (m ++ r) ∧ free ms r
theorem free_suffix {ms : List (List Nat)} {y r : List Nat} (h : free ms r) : free ms (y ++ r) := by
  cases ms with
  | nil => trivial
  | cons m ms => obtain ⟨x, r', rfl, h⟩ := h; exact ⟨y ++ x, r', by rw [List.append_assoc], h⟩
theorem free_nil_front {ms : List (List Nat)} {g : List Nat} : free ([] :: ms) g ↔ free ms g := by
  constructor
  · rintro ⟨x, r, rfl, h⟩; exact free_suffix h
  · intro h; exact ⟨[], g, rfl, h⟩
theorem free_nil_back {ms : List (List Nat)} {g : List Nat} : free (ms ++ [[]]) g ↔ free ms g := by
  induction ms generalizing g with
  | nil => exact free_nil_front
  | cons m ms ih =>
    constructor
    · rintro ⟨x, r, rfl, h⟩; exact ⟨x, r, rfl, ih.mp h⟩
    · rintro ⟨x, r, rfl, h⟩; exact ⟨x, r, rfl, ih.mpr h⟩
theorem fits_free (p0 : List Nat) (mids : List (List Nat)) (pl g : List Nat) : fits (p0 :: (mids ++ [pl])) g ↔ ∃ M, g = p0 ++ (M ++ pl) ∧ free mids M := by
  induction mids generalizing p0 g with
  | nil =>
    constructor
    · rintro ⟨x, r, rfl, h⟩
      have h' : r = pl := h
      exact ⟨x, by rw [h'], trivial⟩
    · rintro ⟨M, rfl, _⟩; exact ⟨M, pl, rfl, rfl⟩
  | cons m ms ih =>
    constructor
    · rintro ⟨x, r, rfl, h⟩
      obtain ⟨M, rfl, hM⟩ := (ih m r).mp h
      exact ⟨x ++ (m ++ M), by simp only [List.append_assoc], x, M, rfl, hM⟩
    · rintro ⟨M, rfl, x, r, rfl, hM⟩
      exact ⟨x, m ++ (r ++ pl), by simp only [List.append_assoc], (ih m _).mpr ⟨r, rfl, hM⟩⟩
def seg (g : List Nat) (a b : Nat) : List Nat := (g.drop a).take (b - a)
theorem code_iff (p0 : List Nat) (mids : List (List Nat)) (pl g : List Nat) :
    fits (p0 :: (mids ++ [pl])) g ↔ g.take p0.length = p0 ∧ g.drop (g.length - pl.length) = pl ∧ p0.length + pl.length ≤ g.length ∧ free mids (seg g p0.length (g.length - pl.length)) := by
  rw [fits_free]
  unfold seg
  constructor
  · rintro ⟨M, rfl, h⟩
    refine ⟨by simp, ?_, by simp only [List.length_append]; omega, ?_⟩
    · have e : (p0 ++ (M ++ pl)).length - pl.length = (p0 ++ M).length := by simp only [List.length_append]; omega
      rw [e, ← List.append_assoc, List.drop_left]
    · have e : (p0 ++ (M ++ pl)).length - pl.length - p0.length = M.length := by simp only [List.length_append]; omega
      rw [List.drop_left, e, List.take_left]
      exact h
  · rintro ⟨h1, h2, h3, h4⟩
    refine ⟨_, ?_, h4⟩
    have e1 : g = g.take p0.length ++ g.drop p0.length := (List.take_append_drop _ _).symm
    have e2 : g.drop p0.length = (g.drop p0.length).take (g.length - pl.length - p0.length) ++ (g.drop p0.length).drop (g.length - pl.length - p0.length) := (List.take_append_drop _ _).symm
    rw [List.drop_drop] at e2
    have e3 : p0.length + (g.length - pl.length - p0.length) = g.length - pl.length := by omega
    rw [e3, h2] at e2
    rw [← e2]
    rw [h1] at e1
    exact e1
theorem occ_head_range (x y : Str) (lo hi limit : Nat) (hl : 1 ≤ limit) :
    (occurrences x y lo hi limit = [] ∧ ∀ i, lo ≤ i → ¬ StrLaws.At x y hi i) ∨
    ∃ i r, occurrences x y lo hi limit = i :: r ∧ lo ≤ i ∧ StrLaws.At x y hi i ∧ ∀ k, lo ≤ k → k < i → ¬ StrLaws.At x y hi k := by
  rw [StrLaws.occ_eq]
  rcases StrLaws.occ_first x y hi limit hl (List.range' lo (hi + 1 - lo)) lo (fun i hi' => by have := List.mem_range'_1.mp hi'; omega) with ⟨h0, hn⟩ | ⟨pre, a, post, e, h0, ha, hn⟩
  · refine .inl ⟨by rw [h0], fun i hlo hi' => ?_⟩
    exact hn i (by have := hi'.1; rw [List.mem_range'_1]; omega) hi'
  · have hs := StrLaws.range'_split_from e
    refine .inr ⟨a, ((forIn (List.range' lo (hi + 1 - lo)) ((#[] : Array Nat), lo) (StrLaws.occBody x y hi limit)).run.fst.toList).tail, ?_, hs.1, ha, fun k hk0 hk => hn k (hs.2 k hk0 hk)⟩
    generalize (forIn (List.range' lo (hi + 1 - lo)) ((#[] : Array Nat), lo) (StrLaws.occBody x y hi limit)).run.fst = arr at h0
    have h1 : arr.toList[0]? = some a := by simpa using h0
    cases hL : arr.toList with
    | nil => rw [hL] at h1; cases h1
    | cons b t => rw [hL] at h1; simp at h1; rw [h1]; rfl
theorem at_iff (x y : Str) (hi i : Nat) : StrLaws.At x y hi i ↔ i + y.length ≤ hi ∧ (x.cps.toList.drop i).take y.length = y.cps.toList := by
  unfold StrLaws.At
  rw [StrLaws.subAt_eq, beq_iff_eq]
def loopF (g : Str) (b : Nat) : List Str → Nat → Bool
  | [], _ => true
  | w :: ws, a => match occurrences g w a b 1 with
    | k :: _ => loopF g b ws (k + w.length)
    | [] => false
theorem seg_cut {g : List Nat} {a b k n : Nat} (ha : a ≤ k) (hk : k + n ≤ b) : seg g a b = seg g a k ++ ((g.drop k).take n ++ seg g (k + n) b) := by
  unfold seg
  have e1 : g.drop k = (g.drop a).drop (k - a) := by rw [List.drop_drop]; congr 1; omega
  have e2 : g.drop (k + n) = (g.drop a).drop (k - a + n) := by rw [List.drop_drop]; congr 1; omega
  rw [e1, e2]
  generalize g.drop a = l
  have e3 : b - a = (k - a) + (n + (b - (k + n))) := by omega
  rw [e3, List.take_add, List.take_add, List.drop_drop]
theorem loop_iff (g : Str) (b : Nat) : ∀ (ws : List Str) (a : Nat), a ≤ b → b ≤ g.length → (loopF g b ws a = true ↔ free (ws.map fun w => w.cps.toList) (seg g.cps.toList a b)) := by
  intro ws
  induction ws with
  | nil => intro a _ _; simp [loopF, free]
  | cons w ws ih =>
    intro a hab hb
    have hlen : g.cps.toList.length = g.length := by simp [Str.length]
    have wlen : w.cps.toList.length = w.length := by simp [Str.length]
    unfold loopF
    rcases occ_head_range g w a b 1 (Nat.le_refl _) with ⟨e, hn⟩ | ⟨k, r, e, hak, hat, hmin⟩
    · rw [e]
      constructor
      · intro h; cases h
      · rintro ⟨x, r, hx, _⟩
        exfalso
        refine hn (a + x.length) (by omega) ?_
        rw [at_iff]
        have hl := congrArg List.length hx
        unfold seg at hl hx
        simp only [List.length_take, List.length_drop, List.length_append] at hl
        refine ⟨by omega, ?_⟩
        have e2 : (g.cps.toList.drop (a + x.length)).take w.length = (((g.cps.toList.drop a).take (b - a)).drop x.length).take w.length := by
          rw [List.drop_take, List.take_take, List.drop_drop]
          congr 1
          omega
        rw [e2, hx, List.drop_left, ← wlen, List.take_left]
    · rw [e]
      obtain ⟨hkb, hsub⟩ := (at_iff _ _ _ _).mp hat
      show loopF g b ws (k + w.length) = true ↔ _
      rw [ih (k + w.length) hkb hb]
      have hcut := seg_cut (g := g.cps.toList) hak hkb
      rw [hsub] at hcut
      constructor
      · intro h
        exact ⟨_, _, hcut, h⟩
      · rintro ⟨x, r', hx, h⟩
        have hl := congrArg List.length hx
        have hx' := hx
        unfold seg at hl hx
        simp only [List.length_take, List.length_drop, List.length_append] at hl
        have hle : k ≤ a + x.length := by
          refine Nat.le_of_not_lt fun hlt => ?_
          refine hmin (a + x.length) (by omega) hlt ?_
          rw [at_iff]
          refine ⟨by omega, ?_⟩
          have e2 : (g.cps.toList.drop (a + x.length)).take w.length = (((g.cps.toList.drop a).take (b - a)).drop x.length).take w.length := by
            rw [List.drop_take, List.take_take, List.drop_drop]
            congr 1
            omega
          rw [e2, hx, List.drop_left, ← wlen, List.take_left]
        have e3 : r' = seg g.cps.toList (a + x.length + w.length) b := by
          have h1 : seg g.cps.toList a b = (x ++ w.cps.toList) ++ r' := by rw [hx', List.append_assoc]
          have h2 := congrArg (List.drop (x ++ w.cps.toList).length) h1
          rw [List.drop_left] at h2
          rw [← h2]
          unfold seg
          rw [List.drop_take, List.drop_drop, List.length_append]
          congr 1
          · omega
          · congr 1; omega
        have e4 : seg g.cps.toList (k + w.length) b = seg g.cps.toList (k + w.length) (a + x.length + w.length) ++ r' := by
          have := seg_cut (g := g.cps.toList) (a := k + w.length) (b := b) (k := a + x.length + w.length) (n := 0) (by omega) (by omega)
          rw [this, e3]
          simp
        rw [e4]
        exact free_suffix h
end
end Mine
namespace Mine
section
open PySem PySem.Builtin PySem.Builtin.Str
set_option maxRecDepth 100000
def glueP (p : List Nat) : List (List Nat) → List (List Nat)
  | q :: qs => (p ++ q) :: qs
  | [] => [p]
theorem ptoks_skip : ∀ (k : Nat) (l : List Nat), k ≤ l.length → (∀ i, i < k → (l.drop i).take 3 ≠ D3) → ptoks (tok l) = glueP (l.take k) (ptoks (tok (l.drop k)))
  | 0, l, _, _ => by
    obtain ⟨p, ps, e⟩ := ptoks_ne (tok l)
    rw [List.drop_zero, e]
    rfl
  | k + 1, l, hk, h => by
    have h0 : l.take 3 ≠ D3 := by simpa using h 0 (Nat.succ_pos _)
    have hne : l ≠ [] := by rintro rfl; simp at hk
    obtain ⟨c, r, rfl⟩ : ∃ c r, l = c :: r := by
      cases l with
      | nil => exact absurd rfl hne
      | cons c r => exact ⟨c, r, rfl⟩
    rw [tok_one hne h0]
    have ih := ptoks_skip k r (by simpa using hk) (fun i hi => by simpa using h (i + 1) (Nat.succ_lt_succ hi))
    obtain ⟨p, ps, e⟩ := ptoks_ne (tok r)
    have e1 : ptoks ([c] :: tok r) = ([c] ++ p) :: ps := ptoks_tok (one_ne c) e
    show ptoks ([c] :: tok r) = _
    rw [e1]
    rw [e] at ih
    obtain ⟨p', ps', e'⟩ := ptoks_ne (tok (r.drop k))
    rw [e'] at ih
    show _ = glueP ((c :: r).take (k + 1)) (ptoks (tok (r.drop k)))
    rw [e']
    unfold glueP at ih ⊢
    injection ih with ih1 ih2
    rw [ih1, ih2]
    rfl
theorem dots_len : (Str.ofString "...").length = 3 := by decide +kernel
theorem dots_list : (Str.ofString "...").cps.toList = D3 := by decide +kernel
theorem at_dots (x : Str) (i : Nat) : StrLaws.At x (Str.ofString "...") x.length i ↔ (x.cps.toList.drop i).take 3 = D3 := by
  rw [at_iff, dots_len, dots_list]
  constructor
  · exact fun h => h.2
  · intro h
    refine ⟨?_, h⟩
    have := congrArg List.length h
    rw [List.length_take, List.length_drop] at this
    have hl : x.cps.toList.length = x.length := by simp [Str.length]
    simp only [D3, List.length_cons, List.length_nil] at this
    omega
theorem strSub_eq (x : Str) (a b : Nat) : strSub x a b = strOf (seg x.cps.toList a b) := by
  refine Str.ext' ?_
  have h := StrLaws.strSub_toList x a b
  show (strSub x a b).cps = (seg x.cps.toList a b).toArray
  unfold seg
  rw [← h]
theorem tok_nil : tok [] = [] := by simp [tok]
theorem parts_pieces (x : Str) : ∀ (cuts : List Nat) (a f : Nat), a ≤ x.length → StrLaws.ChainG x (Str.ofString "...") x.length a cuts f → (∀ k, f ≤ k → ¬ StrLaws.At x (Str.ofString "...") x.length k) →
    StrLaws.partsFrom x 3 a cuts = (ptoks (tok (x.cps.toList.drop a))).map strOf
  | [], a, f, ha, hc, hn => by
    have e : f = a := hc
    subst e
    have hl : x.cps.toList.length = x.length := by simp [Str.length]
    have h := ptoks_skip (x.cps.toList.drop f).length (x.cps.toList.drop f) (Nat.le_refl _) (fun i _ h => hn (f + i) (by omega) ((at_dots x _).mpr (by rw [← List.drop_drop]; exact h)))
    rw [h, List.drop_of_length_le (Nat.le_refl _), tok_nil, List.take_of_length_le (Nat.le_refl _)]
    show [strSub x f x.length] = [strOf (x.cps.toList.drop f ++ [])]
    rw [List.append_nil, strSub_eq]
    unfold seg
    rw [List.take_of_length_le (by rw [List.length_drop]; omega)]
  | c :: r, a, f, ha, hc, hn => by
    obtain ⟨h1, h2, h3, h4⟩ := hc
    have h2' := (at_dots x c).mp h2
    have hcl : c + 3 ≤ x.length := by have := h2.1; rw [dots_len] at this; exact this
    have hl : x.cps.toList.length = x.length := by simp [Str.length]
    rw [dots_len] at h4
    have ih := parts_pieces x r (c + 3) f hcl h4 hn
    have h := ptoks_skip (c - a) (x.cps.toList.drop a) (by rw [List.length_drop]; omega) (fun i hi h => h3 (a + i) (by omega) (by omega) ((at_dots x _).mpr (by rw [← List.drop_drop]; exact h)))
    have e : (x.cps.toList.drop a).drop (c - a) = x.cps.toList.drop c := by rw [List.drop_drop]; congr 1; omega
    rw [e, tok_dots h2', h2', ptoks_dots, List.drop_drop] at h
    rw [h]
    show strSub x a c :: StrLaws.partsFrom x 3 (c + 3) r = strOf ((x.cps.toList.drop a).take (c - a) ++ []) :: (ptoks (tok (x.cps.toList.drop (c + 3)))).map strOf
    rw [ih, List.append_nil, strSub_eq]
    rfl
theorem kind_dots (x : Str) : ¬ Str.strKind x < Str.strKind (Str.ofString "...") := by
  have e : Str.strKind (Str.ofString "...") = 1 := by decide +kernel
  rw [e]
  unfold Str.strKind
  split
  · omega
  · split <;> omega
theorem split_pieces {x : Str} (h : (occurrences x (Str.ofString "...") 0 x.length 1).isEmpty = false) : Txt.split x (Str.ofString "...") = (ptoks (tok x.cps.toList)).map strOf := by
  have hat : ∃ i, StrLaws.At x (Str.ofString "...") x.length i := by
    rcases occ_head_range x (Str.ofString "...") 0 x.length 1 (Nat.le_refl _) with ⟨e, _⟩ | ⟨i, r, e, _, ha, _⟩
    · rw [e] at h; cases h
    · exact ⟨i, ha⟩
  obtain ⟨i, ha⟩ := hat
  have hlen : ¬ x.length < (Str.ofString "...").length := by have := ha.1; omega
  unfold Txt.split
  rw [if_neg (by simp [hlen, kind_dots x])]
  have hne : (occurrences x (Str.ofString "...") 0 x.length (x.length + 1)).isEmpty = false := by
    rcases occ_head_range x (Str.ofString "...") 0 x.length (x.length + 1) (by omega) with ⟨e, hn⟩ | ⟨i, r, e, _⟩
    · exact absurd ha (hn i (Nat.zero_le _))
    · rw [e]; rfl
  rw [if_neg (by rw [hne]; decide), StrLaws.partsBetween_eq]
  obtain ⟨f, hc, hn⟩ := StrLaws.occ_tight x (Str.ofString "...") (by rw [dots_len]; decide)
  rw [dots_len, parts_pieces x _ 0 f (Nat.zero_le _) hc hn, List.drop_zero]
theorem ptoks_two {l : List Nat} {i : Nat} (h : (l.drop i).take 3 = D3) : ∃ p0 mids pl, ptoks (tok l) = p0 :: (mids ++ [pl]) := by
  -- the first place
  have hex : ∃ k, (l.drop k).take 3 = D3 ∧ ∀ j, j < k → (l.drop j).take 3 ≠ D3 := by
    induction i using Nat.strongRecOn with
    | ind i ih =>
      by_cases hj : ∃ j, j < i ∧ (l.drop j).take 3 = D3
      · obtain ⟨j, hj, e⟩ := hj
        exact ih j hj e
      · exact ⟨i, h, fun j hj' e => hj ⟨j, hj', e⟩⟩
  obtain ⟨k, hk, hmin⟩ := hex
  have hkl : k ≤ l.length := by
    refine Nat.le_of_not_lt fun hlt => ?_
    rw [List.drop_of_length_le (by omega)] at hk
    cases hk
  have h1 := ptoks_skip k l hkl hmin
  rw [tok_dots hk, hk, ptoks_dots] at h1
  obtain ⟨p, ps, e⟩ := ptoks_ne (tok ((l.drop k).drop 3))
  rw [e] at h1
  refine ⟨l.take k ++ [], (p :: ps).dropLast, (p :: ps).getLast (by simp), ?_⟩
  rw [h1, List.dropLast_concat_getLast]
  rfl
theorem occ_some {x : Str} (h : (occurrences x (Str.ofString "...") 0 x.length 1).isEmpty = false) : ∃ i, (x.cps.toList.drop i).take 3 = D3 := by
  rcases occ_head_range x (Str.ofString "...") 0 x.length 1 (Nat.le_refl _) with ⟨e, _⟩ | ⟨i, r, e, _, ha, _⟩
  · rw [e] at h; cases h
  · exact ⟨i, (at_dots x i).mp ha⟩
theorem mt_plain {x : Str} (h : (occurrences x (Str.ofString "...") 0 x.length 1).isEmpty = true) (g : List Nat) : mt (tok x.cps.toList) g ↔ g = x.cps.toList := by
  have hn : ∀ i, (x.cps.toList.drop i).take 3 ≠ D3 := by
    intro i hi
    rcases occ_head_range x (Str.ofString "...") 0 x.length 1 (Nat.le_refl _) with ⟨_, hn⟩ | ⟨i, r, e, _⟩
    · exact hn i (Nat.zero_le _) ((at_dots x i).mpr hi)
    · rw [e] at h; cases h
  have h1 := ptoks_skip x.cps.toList.length x.cps.toList (Nat.le_refl _) (fun i _ => hn i)
  rw [List.drop_of_length_le (Nat.le_refl _), tok_nil, List.take_of_length_le (Nat.le_refl _)] at h1
  have h2 : ptoks (tok x.cps.toList) = [x.cps.toList] := by rw [h1]; show [x.cps.toList ++ []] = _; rw [List.append_nil]
  rw [← fits_iff, h2]
  exact Iff.rfl
noncomputable def mtB (ts : List (List Nat)) (g : List Nat) : Bool := @decide (mt ts g) (Classical.propDecidable _)
theorem mtB_true {ts : List (List Nat)} {g : List Nat} : mtB ts g = true ↔ mt ts g := by unfold mtB; exact @decide_eq_true_iff _ (Classical.propDecidable _)
theorem mtB_false {ts : List (List Nat)} {g : List Nat} : mtB ts g = false ↔ ¬ mt ts g := by unfold mtB; exact @decide_eq_false_iff_not _ (Classical.propDecidable _)
theorem mtB_of {ts : List (List Nat)} {g : List Nat} {b : Bool} (h : b = true ↔ mt ts g) : b = mtB ts g := by
  rw [Bool.eq_iff_iff, h, mtB_true]
theorem mtB_congr {ts ts' : List (List Nat)} {g g' : List Nat} (h : mt ts g ↔ mt ts' g') : mtB ts g = mtB ts' g' := by
  rw [Bool.eq_iff_iff, mtB_true, mtB_true, h]
end
end Mine
namespace Mine
section
open PySem PySem.Builtin PySem.Builtin.Str
set_option maxRecDepth 100000
theorem startswith_iff (x y : Str) : Txt.startswith x y = true ↔ y.length ≤ x.length ∧ x.cps.toList.take y.length = y.cps.toList := by
  unfold Txt.startswith
  rw [Bool.and_eq_true, StrLaws.subAt_eq, beq_iff_eq, List.drop_zero, decide_eq_true_eq, Nat.zero_add]
theorem endswith_iff (x y : Str) : Txt.endswith x y = true ↔ y.length ≤ x.length ∧ x.cps.toList.drop (x.length - y.length) = y.cps.toList := by
  unfold Txt.endswith
  rw [Bool.and_eq_true, StrLaws.subAt_eq, beq_iff_eq, decide_eq_true_eq, Nat.zero_add]
  have hl : x.cps.toList.length = x.length := by simp [Str.length]
  constructor
  · rintro ⟨h1, h2⟩
    refine ⟨h1, ?_⟩
    rw [List.take_of_length_le (by rw [List.length_drop]; omega)] at h2
    exact h2
  · rintro ⟨h1, h2⟩
    refine ⟨h1, ?_⟩
    rw [List.take_of_length_le (by rw [List.length_drop]; omega)]
    exact h2
section
variable {p v x0 xl : Str} {p0 pl : List Nat} {mids : List (List Nat)}
theorem ell_iff (eP : ptoks (tok p.cps.toList) = p0 :: (mids ++ [pl])) : mt (tok p.cps.toList) v.cps.toList ↔
    v.cps.toList.take p0.length = p0 ∧ v.cps.toList.drop (v.cps.toList.length - pl.length) = pl ∧ p0.length + pl.length ≤ v.cps.toList.length ∧ free mids (seg v.cps.toList p0.length (v.cps.toList.length - pl.length)) := by
  rw [← fits_iff, eP, code_iff]
theorem ell_false_start (eP : ptoks (tok p.cps.toList) = p0 :: (mids ++ [pl])) (hx : x0 = strOf p0) (h : Txt.startswith v x0 = false) : mtB (tok p.cps.toList) v.cps.toList = false := by
  rw [mtB_false, ell_iff eP]
  rintro ⟨h1, _, h3, _⟩
  have hl : v.cps.toList.length = v.length := by simp [Str.length]
  have : Txt.startswith v x0 = true := by
    rw [startswith_iff, hx, strOf_length]
    exact ⟨by omega, h1⟩
  rw [this] at h; cases h
theorem ell_false_end (eP : ptoks (tok p.cps.toList) = p0 :: (mids ++ [pl])) (hx : xl = strOf pl) (h : Txt.endswith v xl = false) : mtB (tok p.cps.toList) v.cps.toList = false := by
  rw [mtB_false, ell_iff eP]
  rintro ⟨_, h2, h3, _⟩
  have hl : v.cps.toList.length = v.length := by simp [Str.length]
  have : Txt.endswith v xl = true := by
    rw [endswith_iff, hx, strOf_length]
    exact ⟨by omega, by rw [← hl]; exact h2⟩
  rw [this] at h; cases h
theorem ell_false_cross (eP : ptoks (tok p.cps.toList) = p0 :: (mids ++ [pl])) (hx0 : x0 = strOf p0) (hxl : xl = strOf pl) (h : v.length < x0.length + xl.length) : mtB (tok p.cps.toList) v.cps.toList = false := by
  rw [mtB_false, ell_iff eP]
  rintro ⟨_, _, h3, _⟩
  have hl : v.cps.toList.length = v.length := by simp [Str.length]
  rw [hx0, hxl, strOf_length, strOf_length] at h
  omega
theorem ell_loop (eP : ptoks (tok p.cps.toList) = p0 :: (mids ++ [pl])) (hx0 : x0 = strOf p0) (hxl : xl = strOf pl) (hs : x0.length = 0 ∨ Txt.startswith v x0 = true) (he : xl.length = 0 ∨ Txt.endswith v xl = true) (hc : x0.length + xl.length ≤ v.length)
    {ws : List Str} (hws : ∀ M, free (ws.map fun w => w.cps.toList) M ↔ free mids M) : loopF v (v.length - xl.length) ws x0.length = mtB (tok p.cps.toList) v.cps.toList := by
  refine mtB_of ?_
  rw [loop_iff v (v.length - xl.length) ws x0.length (by omega) (by omega), hws, ell_iff eP]
  have hl : v.cps.toList.length = v.length := by simp [Str.length]
  have l0 : x0.length = p0.length := by rw [hx0, strOf_length]
  have ll : xl.length = pl.length := by rw [hxl, strOf_length]
  rw [hl, ← l0, ← ll]
  have h1 : v.cps.toList.take x0.length = p0 := by
    rcases hs with h | h
    · rw [h, List.take_zero]
      rw [l0] at h
      exact (List.length_eq_zero_iff.mp h).symm
    · have := ((startswith_iff v x0).mp h).2
      rw [this, hx0]; rfl
  have h2 : v.cps.toList.drop (v.length - xl.length) = pl := by
    rcases he with h | h
    · rw [h, Nat.sub_zero, List.drop_of_length_le (by omega)]
      rw [ll] at h
      exact (List.length_eq_zero_iff.mp h).symm
    · have := ((endswith_iff v xl).mp h).2
      rw [this, hxl]; rfl
  exact ⟨fun h => ⟨h1, h2, hc, h⟩, fun h => h.2.2.2⟩
end
end
end Mine
namespace Mine
section
open PySem PySem.W PyProof.Rows PySem.Builtin PySem.Builtin.Str
set_option maxRecDepth 100000
theorem pieces_sum (ts : List (List Nat)) : ((ptoks ts).map List.length).sum + (ptoks ts).length ≤ (ts.map List.length).sum + ts.length + 1 := by
  induction ts with
  | nil => simp [ptoks]
  | cons t ts ih =>
    obtain ⟨p, ps, e⟩ := ptoks_ne ts
    by_cases h : t = D3
    · subst h
      rw [ptoks_dots]
      simp only [List.map_cons, List.sum_cons, List.length_cons, List.length_nil] at ih ⊢
      omega
    · rw [ptoks_tok h e]
      rw [e] at ih
      simp only [List.map_cons, List.sum_cons, List.length_cons, List.length_append] at ih ⊢
      omega
theorem sum_mem {n : Nat} : ∀ {l : List Nat}, n ∈ l → n ≤ l.sum
  | _ :: _, h => by
    rw [List.sum_cons]
    rcases List.mem_cons.mp h with rfl | h
    · omega
    · have := sum_mem h; omega
theorem tok_sum (l : List Nat) : ((tok l).map List.length).sum + (tok l).length ≤ 2 * l.length := by
  fun_induction tok l with
  | case1 => simp
  | case2 a => simp
  | case3 a b => simp
  | case4 a b c r h ih => simp only [List.map_cons, List.sum_cons, List.length_cons, List.length_nil]; omega
  | case5 a b c r h ih => simp only [List.map_cons, List.sum_cons, List.length_cons, List.length_nil] at ih ⊢; omega
def findN (x y : Str) (a b : Nat) : Int := match occurrences x y a b 1 with | k :: _ => (k : Int) | [] => -1
theorem findN_neg {g w : Str} {a b : Nat} (h : findN g w a b < 0) (ws : List Str) : loopF g b (w :: ws) a = false := by
  unfold findN at h
  unfold loopF
  cases e : occurrences g w a b 1 with
  | nil => rfl
  | cons k r => rw [e] at h; exact absurd h (by simp)
theorem findN_pos {g w : Str} {a b : Nat} (h : ¬ findN g w a b < 0) (ws : List Str) : ∃ k : Nat, findN g w a b = (k : Int) ∧ k + w.length ≤ b ∧ loopF g b (w :: ws) a = loopF g b ws (k + w.length) := by
  rcases occ_head_range g w a b 1 (Nat.le_refl _) with ⟨e, _⟩ | ⟨k, r, e, _, hat, _⟩
  · unfold findN at h; rw [e] at h; exact absurd (by decide) h
  · refine ⟨k, by unfold findN; rw [e], hat.1, ?_⟩
    show (match occurrences g w a b 1 with | k :: _ => loopF g b ws (k + w.length) | [] => false) = _
    rw [e]
theorem strsAre_values : ∀ l : List (Str × Tok), StrsAre (strValues l) (l.map (·.1))
  | [] => .nil
  | (x, t) :: r => .cons x t (strsAre_values r)
theorem strsAre_get : ∀ {vs : List Value} {xs : List Str} {i : Nat} {v : Value}, StrsAre vs xs → vs[i]? = some v → ∃ x t, v = .str x t ∧ xs.drop i = x :: xs.drop (i + 1) ∧ x ∈ xs
  | _, _, 0, v, .cons y t r, h => by
    have h' : Value.str y t = v := by simpa using h
    exact ⟨y, t, h'.symm, rfl, List.mem_cons_self⟩
  | _, _, i + 1, _, .cons y t r, h => by
    obtain ⟨x, u, e, h1, h2⟩ := strsAre_get (i := i) r (by simpa using h)
    exact ⟨x, u, e, by simpa using h1, List.mem_cons_of_mem _ h2⟩
theorem strsAre_len : ∀ {vs : List Value} {xs : List Str}, StrsAre vs xs → vs.length = xs.length
  | _, _, .nil => rfl
  | _, _, .cons _ _ r => by simp [strsAre_len r]
theorem ws_mid {ml : List (Str × Tok)} {mids : List (List Nat)} (h : ml.map (·.1) = mids.map strOf) : (ml.map (·.1)).map (fun w => w.cps.toList) = mids := by
  rw [h, List.map_map]
  exact (List.map_congr_left fun a _ => rfl).trans (List.map_id _)
def EllJ (g : Str) (b : Nat) (ws : List Str) (R : Bool) (m₀ : Str → Option Value) (news₀ : List (Addr × Obj)) (i : Nat) (m₁ : Str → Option Value) (news₁ : List (Addr × Obj)) : Prop :=
  ∃ (a : Nat) (t : Tok) (u : Str → Option Value), m₁ = (fun z => if z = Str.ofString "w" then u z else if z = Str.ofString "startpos" then some (.int (a : Int) t) else m₀ z) ∧ news₁ = news₀ ∧ a ≤ b ∧ loopF g b (ws.drop i) a = R
theorem ellJ_start {g : Str} {b a : Nat} {ws : List Str} {R : Bool} {m₀ : Str → Option Value} {news₀ : List (Addr × Obj)} {x : Int} {t : Tok} (h : m₀ (Str.ofString "startpos") = some (.int x t)) (hx : x = (a : Int)) (hab : a ≤ b) (hR : loopF g b ws a = R) :
    EllJ g b ws R m₀ news₀ 0 m₀ news₀ := by
  refine ⟨a, t, m₀, ?_, rfl, hab, hR⟩
  funext z
  by_cases h1 : z = Str.ofString "w"
  · rw [if_pos h1]
  · rw [if_neg h1]
    by_cases h2 : z = Str.ofString "startpos"
    · rw [if_pos h2, h2, h, hx]
    · rw [if_neg h2]
theorem ellJ_step {g : Str} {b a : Nat} {ws : List Str} {R : Bool} {m₀ m₂ : Str → Option Value} {news₀ : List (Addr × Obj)} {x : Int} {t : Tok} {i : Nat} (hm : ∀ z, z ≠ Str.ofString "w" → z ≠ Str.ofString "startpos" → m₂ z = m₀ z) (h : m₂ (Str.ofString "startpos") = some (.int x t)) (hx : x = (a : Int)) (hab : a ≤ b) (hR : loopF g b (ws.drop (i + 1)) a = R) :
    EllJ g b ws R m₀ news₀ (i + 1) m₂ news₀ := by
  refine ⟨a, t, m₂, ?_, rfl, hab, hR⟩
  funext z
  by_cases h1 : z = Str.ofString "w"
  · rw [if_pos h1]
  · rw [if_neg h1]
    by_cases h2 : z = Str.ofString "startpos"
    · rw [if_pos h2, h2, h, hx]
    · rw [if_neg h2]; exact hm z h1 h2
section
variable {prog : Program} {w : World} {A : Around} {E : Value → Shared → Prop} {s : Shared} {h₀ : Heap} {L : Addr} {m : Str → Option Value} {news : List (Addr × Obj)}
theorem gives_find4 (x y : Str) (a b : Nat) (t u v v' : Tok) (hb : b ≤ x.length) : Gives («str.find» ⟨[.str x t, .str y u, .int (a : Int) v, .int (b : Int) v'], []⟩) (.int (findN x y a b)) := by
  have e1 : (max 0 (if ((a : Nat) : Int) < 0 then ((a : Nat) : Int) + (x.length : Int) else ((a : Nat) : Int))).toNat = a := by rw [if_neg (by omega)]; omega
  have e2 : min (max 0 (if ((b : Nat) : Int) < 0 then ((b : Nat) : Int) + (x.length : Int) else ((b : Nat) : Int))).toNat x.length = b := by rw [if_neg (by omega)]; omega
  show Gives (match occurrences x y (max 0 (if ((a : Nat) : Int) < 0 then ((a : Nat) : Int) + (x.length : Int) else ((a : Nat) : Int))).toNat (min (max 0 (if ((b : Nat) : Int) < 0 then ((b : Nat) : Int) + (x.length : Int) else ((b : Nat) : Int))).toNat x.length) 1 with | k :: _ => retInt k | [] => (do rule "str.find.not-found"; retInt (-1))) _
  rw [e1, e2]
  unfold findN
  cases occurrences x y a b 1 with
  | nil => exact .rule (.of_eq rfl)
  | cons k _ => exact .of_eq rfl
theorem find4 {Q : Value → Shared → Prop} {x y : Str} {i j : Int} (a b : Nat) {t u v v' : Tok} (hi : i = (a : Int)) (hj : j = (b : Int)) (hb : b ≤ x.length) (hq : Q (.int (findN x y a b) s.toks) { s with toks := s.toks + 1 }) :
    wpAny (model prog w) A (call (.builtin "str.find") [.str x t, .str y u, .int i v, .int j v']) Q E s := by
  subst hi hj
  exact call_gives PySem.F.slot_str_find (typeIs_str _ _ _) PySem.F.entry_str_find (PySem.F.args_str_find_4 _ _ _ _) (gives_find4 x y a b t u v v' hb) hq
theorem split_K {Q : Value → Shared → Prop} {x : Str} {t u : Tok} (hF : Fr h₀ L s.heap m) (hN : News h₀ L s.heap news) (hx : x.length ≤ 1000) (hocc : (occurrences x (Str.ofString "...") 0 x.length 1).isEmpty = false)
    (h : ∀ D x0 t0 ml xl tl h' k p0 mids pl, ptoks (tok x.cps.toList) = p0 :: (mids ++ [pl]) → x0 = strOf p0 → ml.map (·.1) = mids.map strOf → xl = strOf pl → (∀ y ∈ ml.map (·.1), y.length ≤ 3000) → ml.length ≤ 3000 → x0.length ≤ 3000 → xl.length ≤ 3000 → Fr h₀ L h' m →
      News h₀ L h' ((D, listOf (.str x0 t0 :: (strValues ml ++ [.str xl tl])).toArray 0) :: news) → (∀ p ∈ news, p.1 < D) → Q (.ref D) { s with heap := h', toks := k }) :
    wpAny (model prog w) A (call (.builtin "str.split") [.str x t, .str (Str.ofString "...") u]) Q E s := by
  refine splitN1 hF hN (by decide +kernel) (fun l h' k hl F' N' => ?_) (by rw [sizeLine_eq]; omega)
  rw [split_pieces hocc] at hl
  obtain ⟨i0, hi0⟩ := occ_some hocc
  obtain ⟨p0, mids, pl, eP⟩ := ptoks_two hi0
  have hsum := pieces_sum (tok x.cps.toList)
  rw [eP] at hl hsum
  cases l with
  | nil => cases hl
  | cons a l =>
    obtain ⟨x0, t0⟩ := a
    rw [List.map_cons, List.map_cons] at hl
    injection hl with hl1 hl2
    have hl1 : x0 = strOf p0 := hl1
    have hlen := congrArg List.length hl2
    simp only [List.length_map, List.length_append, List.length_singleton] at hlen
    have hne : l ≠ [] := by rintro rfl; simp at hlen
    have el : l = l.dropLast ++ [l.getLast hne] := (List.dropLast_concat_getLast hne).symm
    generalize l.dropLast = ml at el
    generalize l.getLast hne = z at el
    obtain ⟨xl, tl⟩ := z
    subst el
    rw [List.map_append, List.map_append] at hl2
    have h3 := List.append_inj' hl2 rfl
    have h4 : xl = strOf pl := by simpa using h3.2
    have htl := tok_sum x.cps.toList
    have hxl : x.cps.toList.length = x.length := by simp [Str.length]
    simp only [List.map_cons, List.map_append, List.map_nil, List.sum_cons, List.sum_append, List.sum_nil, List.length_cons, List.length_append, List.length_nil] at hsum
    have hmid : ml.length = mids.length := by have := congrArg List.length h3.1; simpa using this
    refine h s.heap.objs.size x0 t0 ml xl tl h' k p0 mids pl eP hl1 h3.1 h4 (fun y hy => by rw [h3.1] at hy; obtain ⟨q, hq, rfl⟩ := List.mem_map.mp hy; rw [strOf_length]; have := sum_mem (List.mem_map_of_mem (f := List.length) hq); omega) (by omega) (by rw [hl1, strOf_length]; omega) (by rw [h4, strOf_length]; omega) F' ?_ (fun p hp => Heap.lt_size (hN p hp).1)
    have e : strValues ((x0, t0) :: (ml ++ [(xl, tl)])) = .str x0 t0 :: (strValues ml ++ [.str xl tl]) := by simp [strValues]
    rw [e] at N'
    exact N'
theorem strValues_len (l : List (Str × Tok)) : (strValues l).length = l.length := by simp [strValues]
theorem lenL {l : Addr} {vs : List Value} {c : Nat} {Q : Value → Shared → Prop} (N : News h₀ L s.heap news) (hm : (l, listOf vs.toArray c) ∈ news) (hz : vs.length ≤ 100000)
    (h : Q (.int (vs.length : Int) (s.toks + 1)) { s with toks := s.toks + 1 + 1 }) : wpAny (model prog w) A (call (.builtin "len") [.ref l]) Q E s :=
  len_list ⟨_, N.get hm, rfl, _, rfl⟩ (by simp only [List.size_toArray]; omega) (by simpa only [List.size_toArray] using h)
theorem item_first {value slice : Expr} {l : Addr} {v : Value} {vs : List Value} {c : Nat} {u : Tok} {Q : Value → Shared → Prop} (N : News h₀ L s.heap news) (hm : (l, listOf (v :: vs).toArray c) ∈ news) (h : Q v s)
    (hs : subscripted slice false (.ref l) (.int 0 u) = operate [.ref l, .int 0 u] (getItem (.ref l) (.int 0 u)) := by with_unfolding_all rfl) :
    wpAny (model prog w) A (subscriptTail value slice (.ref l) (.int 0 u)) Q E s :=
  item_litK (vs := v :: vs) ⟨_, N.get hm, rfl, _, rfl⟩ (Int.le_refl _) (by decide) rfl h hs
theorem delAt {D : Addr} {its its' : List Value} {n k : Nat} {i : Int} {u : Tok} {news' : List (Addr × Obj)} {Q : Unit → Shared → Prop}
    (F : Fr h₀ L s.heap m) (N : News h₀ L s.heap news) (U : Upd D (listOf its.toArray n) (listOf its'.toArray (n + 1)) news news') (hfit : Builtin.List.listFitsIndex i = true) (hk : seqIndex? i its.length = some k) (he : its.eraseIdx k = its') (hz : its.length ≤ 10000)
    (h : ∀ h', Fr h₀ L h' m → News h₀ L h' news' → Q () { s with heap := h' }) :
    wpAny (model prog w) A (delItem (.ref D) (.int i u)) Q E s := by
  obtain ⟨pre, post, rfl, rfl, a, b⟩ := U.split
  have z := N (D, listOf its.toArray n) (List.mem_append.mpr (.inr (.head _)))
  refine delItem_at (hsz := by rw [sizeLine_eq]; simp only [List.size_toArray]; omega) z.1 hfit (by simpa only [List.size_toArray] using hk) fun h' hs ho' => h h' (F.change hs z.2.1 z.2.2) (news_set N a b hs (ho'.trans ?_))
  subst he
  rfl
theorem delFirst {D : Addr} {v : Value} {vs : List Value} {n : Nat} {u : Tok} {news' : List (Addr × Obj)} {Q : Unit → Shared → Prop}
    (F : Fr h₀ L s.heap m) (N : News h₀ L s.heap news) (U : Upd D (listOf (v :: vs).toArray n) (listOf vs.toArray (n + 1)) news news') (hz : vs.length ≤ 9000)
    (h : ∀ h', Fr h₀ L h' m → News h₀ L h' news' → Q () { s with heap := h' }) :
    wpAny (model prog w) A (delItem (.ref D) (.int 0 u)) Q E s :=
  delAt F N U (by decide) (k := 0) (by simp [seqIndex?]) rfl (by rw [List.length_cons]; omega) h
theorem seqIndex_last {vs : List Value} {v : Value} : seqIndex? (-1) (vs ++ [v]).length = some vs.length := by
  have e : (vs ++ [v]).length = vs.length + 1 := by simp
  rw [e]
  unfold seqIndex?
  simp
  omega
theorem delLast {D : Addr} {v : Value} {vs : List Value} {n : Nat} {u : Tok} {news' : List (Addr × Obj)} {Q : Unit → Shared → Prop}
    (F : Fr h₀ L s.heap m) (N : News h₀ L s.heap news) (U : Upd D (listOf (vs ++ [v]).toArray n) (listOf vs.toArray (n + 1)) news news') (hz : vs.length ≤ 9000)
    (h : ∀ h', Fr h₀ L h' m → News h₀ L h' news' → Q () { s with heap := h' }) :
    wpAny (model prog w) A (delItem (.ref D) (.int (-1) u)) Q E s :=
  delAt F N U (by decide) seqIndex_last (by rw [List.eraseIdx_append_of_length_le (Nat.le_refl _)]; simp) (by rw [List.length_append]; simp; omega) h
theorem delLast1 {D : Addr} {v v0 : Value} {vs : List Value} {n : Nat} {u : Tok} {news' : List (Addr × Obj)} {Q : Unit → Shared → Prop}
    (F : Fr h₀ L s.heap m) (N : News h₀ L s.heap news) (U : Upd D (listOf (v0 :: (vs ++ [v])).toArray n) (listOf (v0 :: vs).toArray (n + 1)) news news') (hz : vs.length ≤ 8000)
    (h : ∀ h', Fr h₀ L h' m → News h₀ L h' news' → Q () { s with heap := h' }) :
    wpAny (model prog w) A (delItem (.ref D) (.int (-1) u)) Q E s :=
  delLast (vs := v0 :: vs) F N U (by rw [List.length_cons]; omega) h
theorem item_last {value slice : Expr} {l : Addr} {v : Value} {vs : List Value} {c : Nat} {u : Tok} {Q : Value → Shared → Prop} (N : News h₀ L s.heap news) (hm : (l, listOf (vs ++ [v]).toArray c) ∈ news) (hz : vs.length ≤ 10000) (h : Q v s)
    (hs : subscripted slice false (.ref l) (.int (-1) u) = operate [.ref l, .int (-1) u] (getItem (.ref l) (.int (-1) u)) := by with_unfolding_all rfl) :
    wpAny (model prog w) A (subscriptTail value slice (.ref l) (.int (-1) u)) Q E s := by
  have hl : s.heap.IsList l (vs ++ [v]).toArray := ⟨_, N.get hm, rfl, _, rfl⟩
  refine tail_any hl.typeIs slot_list_getitem.lookup (wpAny_getItem_list_neg hl (by decide) ?_ (by decide) ?_ h) hs
  · simp only [List.size_toArray, List.length_append, List.length_singleton]; omega
  · have e : (-1 + ((vs ++ [v]).toArray.size : Int)).toNat = vs.length := by simp only [List.size_toArray, List.length_append, List.length_singleton]; omega
    rw [e]
    simp
theorem item_last1 {value slice : Expr} {l : Addr} {v v0 : Value} {vs : List Value} {c : Nat} {u : Tok} {Q : Value → Shared → Prop} (N : News h₀ L s.heap news) (hm : (l, listOf (v0 :: (vs ++ [v])).toArray c) ∈ news) (hz : vs.length ≤ 9000) (h : Q v s)
    (hs : subscripted slice false (.ref l) (.int (-1) u) = operate [.ref l, .int (-1) u] (getItem (.ref l) (.int (-1) u)) := by with_unfolding_all rfl) :
    wpAny (model prog w) A (subscriptTail value slice (.ref l) (.int (-1) u)) Q E s :=
  item_last (vs := v0 :: vs) N hm (by rw [List.length_cons]; omega) h hs
end
end
end Mine
namespace Mine
section
open PySem PySem.W PyProof.Rows
set_option maxRecDepth 100000
set_option maxHeartbeats 4000000
section
variable {w : World} {mean : ExcName → Option Value} {mg mb : Str → Option Value} {news : List (Addr × Obj)}
local macro_rules | `(tactic| walk_at "call builtin:str.find") => `(tactic| (k_here; refine stop_ ?_))
local macro_rules | `(tactic| walk_at "exec For Name Name cons nil") => `(tactic| (k_here; refine stop_ ?_))
local macro_rules | `(tactic| walk_at "call builtin:str.split") => `(tactic| (k_here; refine stop_ ?_))
local macro_rules | `(tactic| walk_at "call builtin:len") => `(tactic| (k_here; (with_reducible show wpAny _ _ (call (Value.builtin "len") [Value.ref _]) _ _ _); k_dflt (refine lenL (by k_asm) (by k_mem) (by simp only [List.length_cons, List.length_append, strValues_len, List.length_nil]; omega) ?_); (try simp only [List.length_cons, List.length_append, strValues_len, List.length_nil])))
local macro_rules | `(tactic| walk_at "subscriptTail") => `(tactic| (k_here; (with_reducible show wpAny _ _ (subscriptTail _ _ (Value.ref _) (Value.int 0 _)) _ _ _); k_dflt (refine item_first (by k_asm) (by k_mem) ?_)))
local macro_rules | `(tactic| walk_at "subscriptTail") => `(tactic| (k_here; (with_reducible show wpAny _ _ (subscriptTail _ _ (Value.ref _) (Value.int (-1) _)) _ _ _); refine stop_ ?_))
local macro_rules | `(tactic| walk_at "delItem ref int") => `(tactic| (k_here; refine stop_ ?_))

theorem ell_call (p v : Str) (t1 t2 : Tok) (hp : p.length ≤ 1000) (hv : v.length ≤ 1000) :
    Spec w mean mg mb 51 1 8 news [.str p t1, .str v t2] (fun h₀ L h' r => News h₀ L h' news ∧ r = .bool (mtB (tok p.cps.toList) v.cps.toList)) := by
  w_top off
  unfold Spec
  k_fill
  intro dp un gd cn cs a ccd cl outer A₀ base h₀ L m s Q E B F X N T hk hd hu hret
  refine wpAny_call ?_
  k_dflt cell_enter
  k_steps
  · refine hret _ _ _ (by k_asm) ⟨by k_asm, congrArg Value.bool (mtB_of ?_)⟩
    rw [mt_plain (by assumption), beq_iff_eq]
    constructor
    · intro e; rw [e]
    · intro e; exact Str.ext' (Array.toList_inj.mp e.symm)
  · rename_i hocc
    unfold Stop
    refine split_K (by k_asm) (by k_asm) hp hocc ?_
    intro D9 x0 t0 ml xl tl h9 k9 p0 mids pl eP hx0 hml hxl hmB hmn hn0 hnl F9 N9 hD9
    k_steps
    · unfold Stop
      refine delFirst (by k_asm) (by k_asm) (by k_upd) (by simp only [List.length_append, strValues_len, List.length_singleton]; omega) ?_
      intro h8 F8 N8
      k_steps
      unfold Stop
      refine item_last (by k_asm) (by k_mem) (by simp only [strValues_len]; omega) ?_
      k_steps
      · unfold Stop
        refine delLast (by k_asm) (by k_asm) (by k_upd) (by simp only [strValues_len]; omega) ?_
        intro h8 F8 N8
        k_steps
        · refine hret _ _ _ (by k_asm) ⟨cb_drop (by k_asm) (fun _ hq => List.mem_cons_of_mem _ (List.mem_cons_of_mem _ hq)), congrArg Value.bool (ell_false_cross eP hx0 hxl (by omega)).symm⟩
        · have hxle := ((endswith_iff v xl).mp (by assumption)).1
          have hlen : x0.length + xl.length ≤ v.length := by omega
          unfold Stop
          have hmem : ∀ y ∈ ml.map (·.1), y.length ≤ 3000 := hmB
          refine For_L (by k_asm) (EllJ v (v.length - xl.length) (ml.map (·.1)) (mtB (tok p.cps.toList) v.cps.toList)) ?_ (by intro _ _; rfl)
          (k_dflt (refine' ld ?k1 ?k2 ?_; (case k1 => k_asm); (case k2 => exact rfl); k_whole))
          refine ⟨D9, strValues ml, _, _, _, rfl, rfl, by k_asm, by k_asm, by k_mem, ellJ_start (a := x0.length) (by rfl) (by omega) (by omega) ?_, ?_, ?_⟩
          · have hz := ell_loop eP hx0 hxl (.inr (by assumption)) (.inr (by assumption)) hlen (ws := ml.map (·.1)) (fun M => by rw [ws_mid hml])
            exact hz
          · intro I7 i7 v7 m7 news7 oI7 h7 tk7 hv7 hJ7 hS7 ho7 F7 N7
            obtain ⟨a7, t7, u7, rfl, rfl, hab7, hR7⟩ := hJ7
            obtain ⟨w7, tw7, rfl, hd7, hm7⟩ := strsAre_get (strsAre_values ml) hv7
            have hw7 := hmem w7 hm7
            rw [hd7] at hR7
            k_steps
            unfold Stop
            refine find4 a7 (v.length - xl.length) rfl (by omega) (by omega) ?_
            k_steps
            · dsimp only
              k_steps
              (try unfold Stop)
              unfold ForStep
              dsimp only
              k_steps
              refine hret _ _ _ (by k_asm) ⟨cb_drop (by k_asm) (fun _ hq => List.mem_cons_of_mem _ (List.mem_cons_of_mem _ (List.mem_cons_of_mem _ hq))), congrArg Value.bool ?_⟩
              rw [← hR7]
              exact (findN_neg (by assumption) _).symm
            · obtain ⟨k6, e6, hk6, hl6⟩ := findN_pos (g := v) (w := w7) (a := a7) (b := v.length - xl.length) (by assumption) ((ml.map (·.1)).drop (i7 + 1))
              rw [hl6] at hR7
              exact ForStep.next (by k_asm) (by k_asm) ho7 hS7 (ellJ_step (a := k6 + w7.length) (fun z h1 h2 => by simp only [if_neg h1, if_neg h2]) (by rfl) (by omega) hk6 hR7)
          · intro m7 news7 h7 tk7 hJ7 F7 N7
            obtain ⟨a7, t7, u7, rfl, rfl, hab7, hR7⟩ := hJ7
            k_steps
            refine hret _ _ _ (by k_asm) ⟨cb_drop (by k_asm) (fun _ hq => List.mem_cons_of_mem _ (List.mem_cons_of_mem _ hq)), congrArg Value.bool ?_⟩
            rw [strsAre_len (strsAre_values ml), List.drop_of_length_le (Nat.le_refl _)] at hR7
            exact hR7
      · refine hret _ _ _ (by k_asm) ⟨cb_drop (by k_asm) (fun _ hq => List.mem_cons_of_mem _ (List.mem_cons_of_mem _ hq)), congrArg Value.bool (ell_false_end eP hxl (by assumption)).symm⟩
      · refine hret _ _ _ (by k_asm) ⟨cb_drop (by k_asm) (fun _ hq => List.mem_cons_of_mem _ (List.mem_cons_of_mem _ hq)), congrArg Value.bool (ell_false_cross eP hx0 hxl (by omega)).symm⟩
      · have hl0 : xl.length = 0 := by omega
        have hlen : x0.length + xl.length ≤ v.length := by omega
        have hpl : pl = [] := by rw [hxl, strOf_length] at hl0; exact List.length_eq_zero_iff.mp hl0
        unfold Stop
        have hmem : ∀ y ∈ ml.map (·.1) ++ [xl], y.length ≤ 3000 := (fun y hy => (List.mem_append.mp hy).elim (hmB y) (fun h => by rw [List.mem_singleton.mp h]; exact hnl))
        refine For_L (by k_asm) (EllJ v (v.length) (ml.map (·.1) ++ [xl]) (mtB (tok p.cps.toList) v.cps.toList)) ?_ (by intro _ _; rfl)
        (k_dflt (refine' ld ?k1 ?k2 ?_; (case k1 => k_asm); (case k2 => exact rfl); k_whole))
        refine ⟨D9, strValues ml ++ [.str xl tl], _, _, _, rfl, rfl, by k_asm, by k_asm, by k_mem, ellJ_start (a := x0.length) (by rfl) (by omega) (by omega) ?_, ?_, ?_⟩
        · have hz := ell_loop eP hx0 hxl (.inr (by assumption)) (.inl hl0) hlen (ws := ml.map (·.1) ++ [xl]) (fun M => by rw [List.map_append, ws_mid hml, List.map_cons, List.map_nil, hxl, toList_strOf, hpl, free_nil_back])
          rw [hl0, Nat.sub_zero] at hz; exact hz
        · intro I7 i7 v7 m7 news7 oI7 h7 tk7 hv7 hJ7 hS7 ho7 F7 N7
          obtain ⟨a7, t7, u7, rfl, rfl, hab7, hR7⟩ := hJ7
          obtain ⟨w7, tw7, rfl, hd7, hm7⟩ := strsAre_get (kct_snoc (strsAre_values ml)) hv7
          have hw7 := hmem w7 hm7
          rw [hd7] at hR7
          k_steps
          unfold Stop
          refine find4 a7 (v.length) rfl (by omega) (by omega) ?_
          k_steps
          · dsimp only
            k_steps
            (try unfold Stop)
            unfold ForStep
            dsimp only
            k_steps
            refine hret _ _ _ (by k_asm) ⟨cb_drop (by k_asm) (fun _ hq => List.mem_cons_of_mem _ (List.mem_cons_of_mem _ (List.mem_cons_of_mem _ hq))), congrArg Value.bool ?_⟩
            rw [← hR7]
            exact (findN_neg (by assumption) _).symm
          · obtain ⟨k6, e6, hk6, hl6⟩ := findN_pos (g := v) (w := w7) (a := a7) (b := v.length) (by assumption) ((ml.map (·.1) ++ [xl]).drop (i7 + 1))
            rw [hl6] at hR7
            exact ForStep.next (by k_asm) (by k_asm) ho7 hS7 (ellJ_step (a := k6 + w7.length) (fun z h1 h2 => by simp only [if_neg h1, if_neg h2]) (by rfl) (by omega) hk6 hR7)
        · intro m7 news7 h7 tk7 hJ7 F7 N7
          obtain ⟨a7, t7, u7, rfl, rfl, hab7, hR7⟩ := hJ7
          k_steps
          refine hret _ _ _ (by k_asm) ⟨cb_drop (by k_asm) (fun _ hq => List.mem_cons_of_mem _ (List.mem_cons_of_mem _ hq)), congrArg Value.bool ?_⟩
          rw [strsAre_len (kct_snoc (strsAre_values ml)), List.drop_of_length_le (Nat.le_refl _)] at hR7
          exact hR7
    · refine hret _ _ _ (by k_asm) ⟨cb_drop (by k_asm) (fun _ hq => List.mem_cons_of_mem _ (List.mem_cons_of_mem _ hq)), congrArg Value.bool (ell_false_start eP hx0 (by assumption)).symm⟩
    · have h00 : x0.length = 0 := by omega
      have hp0 : p0 = [] := by rw [hx0, strOf_length] at h00; exact List.length_eq_zero_iff.mp h00
      unfold Stop
      refine item_last1 (by k_asm) (by k_mem) (by simp only [strValues_len]; omega) ?_
      k_steps
      · unfold Stop
        refine delLast1 (by k_asm) (by k_asm) (by k_upd) (by simp only [strValues_len]; omega) ?_
        intro h8 F8 N8
        have hxle := ((endswith_iff v xl).mp (by assumption)).1
        have hlen : x0.length + xl.length ≤ v.length := by omega
        k_steps
        unfold Stop
        have hmem : ∀ y ∈ x0 :: ml.map (·.1), y.length ≤ 3000 := (fun y hy => (List.mem_cons.mp hy).elim (fun h => by rw [h]; exact hn0) (hmB y))
        refine For_L (by k_asm) (EllJ v (v.length - xl.length) (x0 :: ml.map (·.1)) (mtB (tok p.cps.toList) v.cps.toList)) ?_ (by intro _ _; rfl)
        (k_dflt (refine' ld ?k1 ?k2 ?_; (case k1 => k_asm); (case k2 => exact rfl); k_whole))
        refine ⟨D9, .str x0 t0 :: strValues ml, _, _, _, rfl, rfl, by k_asm, by k_asm, by k_mem, ellJ_start (a := x0.length) (by rfl) (by omega) (by omega) ?_, ?_, ?_⟩
        · have hz := ell_loop eP hx0 hxl (.inl h00) (.inr (by assumption)) hlen (ws := x0 :: ml.map (·.1)) (fun M => by rw [List.map_cons, ws_mid hml, hx0, toList_strOf, hp0, free_nil_front])
          exact hz
        · intro I7 i7 v7 m7 news7 oI7 h7 tk7 hv7 hJ7 hS7 ho7 F7 N7
          obtain ⟨a7, t7, u7, rfl, rfl, hab7, hR7⟩ := hJ7
          obtain ⟨w7, tw7, rfl, hd7, hm7⟩ := strsAre_get (StrsAre.cons x0 t0 (strsAre_values ml)) hv7
          have hw7 := hmem w7 hm7
          rw [hd7] at hR7
          k_steps
          unfold Stop
          refine find4 a7 (v.length - xl.length) rfl (by omega) (by omega) ?_
          k_steps
          · dsimp only
            k_steps
            (try unfold Stop)
            unfold ForStep
            dsimp only
            k_steps
            refine hret _ _ _ (by k_asm) ⟨cb_drop (by k_asm) (fun _ hq => List.mem_cons_of_mem _ (List.mem_cons_of_mem _ (List.mem_cons_of_mem _ hq))), congrArg Value.bool ?_⟩
            rw [← hR7]
            exact (findN_neg (by assumption) _).symm
          · obtain ⟨k6, e6, hk6, hl6⟩ := findN_pos (g := v) (w := w7) (a := a7) (b := v.length - xl.length) (by assumption) ((x0 :: ml.map (·.1)).drop (i7 + 1))
            rw [hl6] at hR7
            exact ForStep.next (by k_asm) (by k_asm) ho7 hS7 (ellJ_step (a := k6 + w7.length) (fun z h1 h2 => by simp only [if_neg h1, if_neg h2]) (by rfl) (by omega) hk6 hR7)
        · intro m7 news7 h7 tk7 hJ7 F7 N7
          obtain ⟨a7, t7, u7, rfl, rfl, hab7, hR7⟩ := hJ7
          k_steps
          refine hret _ _ _ (by k_asm) ⟨cb_drop (by k_asm) (fun _ hq => List.mem_cons_of_mem _ (List.mem_cons_of_mem _ hq)), congrArg Value.bool ?_⟩
          rw [strsAre_len (StrsAre.cons x0 t0 (strsAre_values ml)), List.drop_of_length_le (Nat.le_refl _)] at hR7
          exact hR7
      · refine hret _ _ _ (by k_asm) ⟨cb_drop (by k_asm) (fun _ hq => List.mem_cons_of_mem _ (List.mem_cons_of_mem _ hq)), congrArg Value.bool (ell_false_end eP hxl (by assumption)).symm⟩
      · have hl0 : xl.length = 0 := by omega
        have hlen : x0.length + xl.length ≤ v.length := by omega
        have hpl : pl = [] := by rw [hxl, strOf_length] at hl0; exact List.length_eq_zero_iff.mp hl0
        unfold Stop
        have hmem : ∀ y ∈ x0 :: (ml.map (·.1) ++ [xl]), y.length ≤ 3000 := (fun y hy => (List.mem_cons.mp hy).elim (fun h => by rw [h]; exact hn0) (fun hy => (List.mem_append.mp hy).elim (hmB y) (fun h => by rw [List.mem_singleton.mp h]; exact hnl)))
        refine For_L (by k_asm) (EllJ v (v.length) (x0 :: (ml.map (·.1) ++ [xl])) (mtB (tok p.cps.toList) v.cps.toList)) ?_ (by intro _ _; rfl)
        (k_dflt (refine' ld ?k1 ?k2 ?_; (case k1 => k_asm); (case k2 => exact rfl); k_whole))
        refine ⟨D9, .str x0 t0 :: (strValues ml ++ [.str xl tl]), _, _, _, rfl, rfl, by k_asm, by k_asm, by k_mem, ellJ_start (a := x0.length) (by rfl) (by omega) (by omega) ?_, ?_, ?_⟩
        · have hz := ell_loop eP hx0 hxl (.inl h00) (.inl hl0) hlen (ws := x0 :: (ml.map (·.1) ++ [xl])) (fun M => by rw [List.map_cons, List.map_append, ws_mid hml, List.map_cons, List.map_nil, hx0, hxl, toList_strOf, toList_strOf, hp0, hpl, free_nil_front, free_nil_back])
          rw [hl0, Nat.sub_zero] at hz; exact hz
        · intro I7 i7 v7 m7 news7 oI7 h7 tk7 hv7 hJ7 hS7 ho7 F7 N7
          obtain ⟨a7, t7, u7, rfl, rfl, hab7, hR7⟩ := hJ7
          obtain ⟨w7, tw7, rfl, hd7, hm7⟩ := strsAre_get (StrsAre.cons x0 t0 (kct_snoc (strsAre_values ml))) hv7
          have hw7 := hmem w7 hm7
          rw [hd7] at hR7
          k_steps
          unfold Stop
          refine find4 a7 (v.length) rfl (by omega) (by omega) ?_
          k_steps
          · dsimp only
            k_steps
            (try unfold Stop)
            unfold ForStep
            dsimp only
            k_steps
            refine hret _ _ _ (by k_asm) ⟨cb_drop (by k_asm) (fun _ hq => List.mem_cons_of_mem _ (List.mem_cons_of_mem _ (List.mem_cons_of_mem _ hq))), congrArg Value.bool ?_⟩
            rw [← hR7]
            exact (findN_neg (by assumption) _).symm
          · obtain ⟨k6, e6, hk6, hl6⟩ := findN_pos (g := v) (w := w7) (a := a7) (b := v.length) (by assumption) ((x0 :: (ml.map (·.1) ++ [xl])).drop (i7 + 1))
            rw [hl6] at hR7
            exact ForStep.next (by k_asm) (by k_asm) ho7 hS7 (ellJ_step (a := k6 + w7.length) (fun z h1 h2 => by simp only [if_neg h1, if_neg h2]) (by rfl) (by omega) hk6 hR7)
        · intro m7 news7 h7 tk7 hJ7 F7 N7
          obtain ⟨a7, t7, u7, rfl, rfl, hab7, hR7⟩ := hJ7
          k_steps
          refine hret _ _ _ (by k_asm) ⟨cb_drop (by k_asm) (fun _ hq => List.mem_cons_of_mem _ (List.mem_cons_of_mem _ hq)), congrArg Value.bool ?_⟩
          rw [strsAre_len (StrsAre.cons x0 t0 (kct_snoc (strsAre_values ml))), List.drop_of_length_le (Nat.le_refl _)] at hR7
          exact hR7
end
end
end Mine
namespace Mine
section
open PySem PySem.W PyProof.Rows
set_option maxRecDepth 100000
theorem compEnd_mono {h₀ : Heap} {L I C D : Addr} {m : Str → Option Value} {s₁ s₂ : Shared} {oI oC oD : Obj} {S : List (Addr × Obj) → Prop} {rest rest' : Value → List (Addr × Obj) → Prop} {y : Value}
    (h : LCg.CompEnd h₀ L m s₁ I oI C oC D oD S rest y s₂) (hr : ∀ y nw, rest y nw → rest' y nw) : LCg.CompEnd h₀ L m s₁ I oI C oC D oD S rest' y s₂ := by
  obtain ⟨h', tk, news', e, F, N, o, hS, r⟩ := h
  exact ⟨h', tk, news', e, F, N, o, hS, hr _ _ r⟩
section
variable {prog : Program} {w : World} {A : Around} {h₀ : Heap} {L : Addr} {m : Str → Option Value} {env : Env} {elt ct : Expr} {x x₂ : Str} {scope : Scope} {cl : List (Str × Addr)} {s : Shared} {S : List (Addr × Obj) → Prop} {P : Nat → Value → Prop} {Fin : List Value → List (Addr × Obj) → Prop} {news : List (Addr × Obj)} {n : Nat}
theorem compU_inv (K : Nat → List Value → List (Addr × Obj) → Prop) (h0 : K 0 [] news)
    (turn : ∀ i v ys nw I oI C oC D m₂ h tk (E' : Value → Shared → Prop), i < n → P i v → K i ys nw → LCg.NsObj oC m₂ → m₂ x = some v → Fr h₀ L h m → News h₀ L h ((I, oI) :: (C, oC) :: (D, LCg.lst ys) :: nw) → LCg.Off3 I C D nw → ((@Ne Nat I C) ∧ (@Ne Nat I D) ∧ (@Ne Nat C D)) →
      wpAny (model prog w) A (eval elt (compEnvC scope cl C env)) (fun y s₂ => Stop (LCg.CompEnd h₀ L m { s with heap := h, toks := tk } I oI C oC D (LCg.lst ys) S (fun y nw' => K (i + 1) (ys ++ [y]) nw') y s₂)) E' { s with heap := h, toks := tk })
    (fin : ∀ ys nw, K n ys nw → Fin ys nw) : LCg.CompRest prog w A h₀ L m env elt x scope cl s S P Fin n 0 [] news := by
  have key : ∀ k i, i + k = n → ∀ ys nw, K i ys nw → LCg.CompRest prog w A h₀ L m env elt x scope cl s S P Fin k i ys nw := by
    intro k
    induction k with
    | zero => intro i e ys nw hK; exact LCg.CompRest.zero (fin ys nw (by rw [← e]; exact hK))
    | succ k ih =>
      intro i e ys nw hK
      refine LCg.CompRest.succ fun v I oI C oC D m₂ h tk E' hP hn hx F N o ne => ?_
      refine wpAny_mono (turn i v ys nw I oI C oC D m₂ h tk E' (by omega) hP hK hn hx F N o ne) (fun y s₂ hy => ?_) fun _ _ e => e
      exact compEnd_mono hy fun y nw' hK' => ih (i + 1) (by omega) _ _ hK'
  exact key n 0 (by omega) [] news h0
theorem compT_inv (K : Nat → List Value → List (Addr × Obj) → Prop) (h0 : K 0 [] news)
    (turn : ∀ i v ys nw I oI C oC D m₂ h tk (E' : Value → Shared → Prop), i < n → P i v → K i ys nw → LCg.NsObj oC m₂ → m₂ x = some v → Fr h₀ L h m → News h₀ L h ((I, oI) :: (C, oC) :: (D, LCg.lst ys) :: nw) → LCg.Off3 I C D nw → ((@Ne Nat I C) ∧ (@Ne Nat I D) ∧ (@Ne Nat C D)) →
      wpAny (model prog w) A (isTrue ct (compEnvC scope cl C env) (eval ct (compEnvC scope cl C env))) (fun ok s' => if ok = true then
        wpAny (model prog w) A (eval elt (compEnvC scope cl C env)) (fun y s₂ => Stop (LCg.CompEnd h₀ L m { s with heap := h, toks := tk } I oI C oC D (LCg.lst ys) S (fun y nw' => K (i + 1) (ys ++ [y]) nw') y s₂)) E' s'
        else Stop (LCg.CompEnd h₀ L m { s with heap := h, toks := tk } I oI C oC D (LCg.lst ys) S (fun _ nw' => K (i + 1) ys nw') Value.none s')) E' { s with heap := h, toks := tk })
    (fin : ∀ ys nw, K n ys nw → Fin ys nw) : LCt.CompRestT prog w A h₀ L m env ct elt x scope cl s S P Fin n 0 [] news := by
  have key : ∀ k i, i + k = n → ∀ ys nw, K i ys nw → LCt.CompRestT prog w A h₀ L m env ct elt x scope cl s S P Fin k i ys nw := by
    intro k
    induction k with
    | zero => intro i e ys nw hK; exact LCt.CompRestT.zero (fin ys nw (by rw [← e]; exact hK))
    | succ k ih =>
      intro i e ys nw hK
      refine LCt.CompRestT.succ fun v I oI C oC D m₂ h tk E' hP hn hx F N o ne => ?_
      refine wpAny_mono (turn i v ys nw I oI C oC D m₂ h tk E' (by omega) hP hK hn hx F N o ne) (fun ok s' hs => ?_) fun _ _ e => e
      cases ok with
      | true =>
        simp only [if_true] at hs ⊢
        exact wpAny_mono hs (fun y s₂ hy => compEnd_mono hy fun y nw' hK' => ih (i + 1) (by omega) _ _ hK') fun _ _ e => e
      | false =>
        simp only [Bool.false_eq_true, if_false] at hs ⊢
        exact compEnd_mono hs fun y nw' hK' => ih (i + 1) (by omega) _ _ hK'
  exact key n 0 (by omega) [] news h0
theorem compP_inv (K : Nat → List Value → List (Addr × Obj) → Prop) (h0 : K 0 [] news)
    (turn : ∀ i v ys nw, i < n → P i v → K i ys nw → ∃ (t : Addr) (ot : Obj) (v₁ v₂ : Value) (nt : Nat), v = .ref t ∧ (t, ot) ∈ nw ∧ ot.cls = .type "tuple" ∧ ot.data = .seq #[v₁, v₂] nt ∧
      ∀ I oI C oC D m₂ h tk (E' : Value → Shared → Prop), LCg.NsObj oC m₂ → m₂ x = some v₁ → m₂ x₂ = some v₂ → Fr h₀ L h m → News h₀ L h ((I, oI) :: (C, oC) :: (D, LCg.lst ys) :: nw) → LCg.Off3 I C D nw → ((@Ne Nat I C) ∧ (@Ne Nat I D) ∧ (@Ne Nat C D)) →
      wpAny (model prog w) A (eval elt (compEnvC scope cl C env)) (fun y s₂ => Stop (LCg.CompEnd h₀ L m { s with heap := h, toks := tk } I oI C oC D (LCg.lst ys) S (fun y nw' => K (i + 1) (ys ++ [y]) nw') y s₂)) E' { s with heap := h, toks := tk })
    (fin : ∀ ys nw, K n ys nw → Fin ys nw) : LCp.CompRestP prog w A h₀ L m env elt x x₂ scope cl s S P Fin n 0 [] news := by
  have key : ∀ k i, i + k = n → ∀ ys nw, K i ys nw → LCp.CompRestP prog w A h₀ L m env elt x x₂ scope cl s S P Fin k i ys nw := by
    intro k
    induction k with
    | zero => intro i e ys nw hK; exact LCp.CompRestP.zero (fin ys nw (by rw [← e]; exact hK))
    | succ k ih =>
      intro i e ys nw hK
      refine LCp.CompRestP.succ fun v hP => ?_
      obtain ⟨t, ot, v₁, v₂, nt, e1, e2, e3, e4, tr⟩ := turn i v ys nw (by omega) hP hK
      refine ⟨t, ot, v₁, v₂, nt, e1, e2, e3, e4, fun I oI C oC D m₂ h tk E' hn hx hx2 F N o ne => ?_⟩
      refine wpAny_mono (tr I oI C oC D m₂ h tk E' hn hx hx2 F N o ne) (fun y s₂ hy => ?_) fun _ _ e => e
      exact compEnd_mono hy fun y nw' hK' => ih (i + 1) (by omega) _ _ hK'
  exact key n 0 (by omega) [] news h0
end
end
end Mine
namespace Mine
section
open PySem
set_option maxRecDepth 100000
def stepE (G : List Nat) (es : List Nat) (t : List Nat) : List Nat :=
  if t = D3 then (match es with | [] => [] | e :: _ => List.range' e (G.length + 1 - e)) else (es.filter fun e => decide ((G.drop e).take 1 = t)).map (· + 1)
def endsF (G : List Nat) (ts : List (List Nat)) : List Nat := ts.foldl (stepE G) [0]
theorem endsF_snoc (G : List Nat) (ts : List (List Nat)) (t : List Nat) : endsF G (ts ++ [t]) = stepE G (endsF G ts) t := by
  unfold endsF; rw [List.foldl_append]; rfl
theorem stepE_dots_nil (G : List Nat) : stepE G [] D3 = [] := by unfold stepE; rw [if_pos rfl]
theorem stepE_dots_cons (G : List Nat) (e : Nat) (r : List Nat) : stepE G (e :: r) D3 = List.range' e (G.length + 1 - e) := by unfold stepE; rw [if_pos rfl]
theorem stepE_one (G es : List Nat) (c : Nat) : stepE G es [c] = (es.filter fun e => decide ((G.drop e).take 1 = [c])).map (· + 1) := by unfold stepE; rw [if_neg (one_ne c)]
theorem take_one_drop {G : List Nat} {e c : Nat} : (G.drop e).take 1 = [c] ↔ G[e]? = some c := by
  rw [← List.head?_drop]
  cases G.drop e with
  | nil => simp
  | cons a r => simp
theorem endsF_ok (G : List Nat) (ts : List (List Nat)) (ht : Toks ts) :
    (endsF G ts).Pairwise (· < ·) ∧ ∀ e, e ∈ endsF G ts ↔ e ≤ G.length ∧ mt ts (G.take e) := by
  have key : ∀ n, ∀ ts : List (List Nat), ts.length = n → Toks ts → (endsF G ts).Pairwise (· < ·) ∧ ∀ e, e ∈ endsF G ts ↔ e ≤ G.length ∧ mt ts (G.take e) := by
    intro n
    induction n with
    | zero =>
      intro ts hn _
      have : ts = [] := List.length_eq_zero_iff.mp hn
      subst this
      refine ⟨List.pairwise_singleton _ _, fun e => ?_⟩
      show e ∈ [0] ↔ _
      rw [List.mem_singleton, mt_nil]
      constructor
      · rintro rfl; exact ⟨Nat.zero_le _, List.take_zero⟩
      · rintro ⟨h1, h2⟩
        have := congrArg List.length h2
        rw [List.length_take] at this
        simp only [List.length_nil] at this
        omega
    | succ n ih =>
      intro ts hn ht
      have hne : ts ≠ [] := by rintro rfl; cases hn
      have el : ts = ts.dropLast ++ [ts.getLast hne] := (List.dropLast_concat_getLast hne).symm
      generalize ts.dropLast = us at el
      generalize ts.getLast hne = t at el
      subst el
      obtain ⟨ihp, ihm⟩ := ih us (by simpa using hn) fun t h => ht t (List.mem_append_left _ h)
      rw [endsF_snoc]
      rcases ht t (List.mem_append_right _ (List.mem_singleton.mpr rfl)) with rfl | ⟨c, rfl⟩
      · cases hes : endsF G us with
        | nil =>
          rw [stepE_dots_nil]
          refine ⟨.nil, fun e => ⟨(fun h => nomatch h), ?_⟩⟩
          rintro ⟨h1, h2⟩
          obtain ⟨x, y, e1, h3⟩ := (mt_snoc_dots _ _).mp h2
          exfalso
          have hx : x.length ≤ e := by
            have := congrArg List.length e1
            rw [List.length_take, List.length_append] at this
            omega
          have ex : G.take x.length = x := by
            have := congrArg (List.take x.length) e1
            rw [List.take_take, Nat.min_eq_left hx, List.take_left] at this
            exact this
          have := (ihm x.length).mpr ⟨by omega, by rw [ex]; exact h3⟩
          rw [hes] at this
          cases this
        | cons e0 r =>
          rw [stepE_dots_cons]
          rw [hes] at ihp ihm
          have h0 := (ihm e0).mp List.mem_cons_self
          refine ⟨List.pairwise_lt_range', fun e => ?_⟩
          rw [List.mem_range'_1, mt_snoc_dots]
          constructor
          · rintro ⟨h1, h2⟩
            refine ⟨by omega, G.take e0, (G.take e).drop e0, ?_, h0.2⟩
            have : (G.take e).take e0 = G.take e0 := by rw [List.take_take, Nat.min_eq_left h1]
            rw [← this, List.take_append_drop]
          · rintro ⟨h1, x, y, e1, h3⟩
            have hx : x.length ≤ e := by
              have := congrArg List.length e1
              rw [List.length_take, List.length_append] at this
              omega
            have ex : G.take x.length = x := by
              have := congrArg (List.take x.length) e1
              rw [List.take_take, Nat.min_eq_left hx, List.take_left] at this
              exact this
            have hm := (ihm x.length).mpr ⟨by omega, by rw [ex]; exact h3⟩
            have hle : e0 ≤ x.length := by
              rcases List.mem_cons.mp hm with h | h
              · omega
              · exact Nat.le_of_lt ((List.pairwise_cons.mp ihp).1 _ h)
            omega
      · rw [stepE_one]
        refine ⟨?_, fun e => ?_⟩
        · exact (ihp.filter _).map _ fun a b h => by omega
        · rw [List.mem_map, mt_snoc_one]
          constructor
          · rintro ⟨e', he', rfl⟩
            rw [List.mem_filter, decide_eq_true_eq] at he'
            obtain ⟨h1, h2⟩ := he'
            have h1 := (ihm e').mp h1
            have h3 := take_one_drop.mp h2
            have hlt : e' < G.length := by
              rcases Nat.lt_or_ge e' G.length with h | h
              · exact h
              · rw [List.getElem?_eq_none h] at h3; cases h3
            refine ⟨by omega, G.take e', ?_, h1.2⟩
            rw [List.take_add, h2]
          · rintro ⟨h1, x, e1, h3⟩
            have hl := congrArg List.length e1
            rw [List.length_take, List.length_append, List.length_singleton] at hl
            have he : e = x.length + 1 := by omega
            subst he
            refine ⟨x.length, ?_, rfl⟩
            rw [List.take_add] at e1
            have h4 := List.append_inj e1 (by rw [List.length_take]; omega)
            rw [List.mem_filter, decide_eq_true_eq]
            exact ⟨(ihm x.length).mpr ⟨by omega, by rw [h4.1]; exact h3⟩, h4.2⟩
  exact key ts.length ts rfl ht
theorem asc_length {N : Nat} : ∀ {l : List Nat} {lo : Nat}, l.Pairwise (· < ·) → (∀ e ∈ l, lo ≤ e ∧ e ≤ N) → l.length ≤ N + 1 - lo
  | [], _, _, _ => Nat.zero_le _
  | a :: r, lo, hp, h => by
    have hp' := List.pairwise_cons.mp hp
    have ha := h a List.mem_cons_self
    have := asc_length (l := r) (lo := a + 1) hp'.2 fun e he => ⟨hp'.1 e he, (h e (List.mem_cons_of_mem _ he)).2⟩
    rw [List.length_cons]
    omega
theorem endsF_length (G : List Nat) {ts : List (List Nat)} (ht : Toks ts) : (endsF G ts).length ≤ G.length + 1 := by
  obtain ⟨h1, h2⟩ := endsF_ok G ts ht
  exact asc_length (lo := 0) h1 fun e he => ⟨Nat.zero_le _, ((h2 e).mp he).1⟩
theorem toks_take {ts : List (List Nat)} (h : Toks ts) (i : Nat) : Toks (ts.take i) := fun t ht => h t (List.mem_of_mem_take ht)
end
end Mine
namespace Mine
section
open PySem PySem.W PyProof.Rows
set_option maxRecDepth 100000
set_option maxHeartbeats 1000000
theorem postStop {prog : Program} {w : World} {A : Around} {α : Type} {x : Sem α} {Q : α → Shared → Prop} {E : Value → Shared → Prop} {s : Shared} (h : wpAny (model prog w) A x (fun v s => Stop (Q v s)) E s) : wpAny (model prog w) A x Q E s := h
def stepI (G t : List Nat) (es : List Nat) : List Int := ((es.filter fun e => decide ((G.drop e).take 1 = t)).map fun e : Nat => ((e + 1 : Nat) : Int))
theorem ifif {α : Type} {p : Prop} [Decidable p] (a b : α) : (if p then a else b) = if p then a else (if p then a else b) := by split <;> rfl
theorem slice_one (g w : Str) (e : Nat) (he : e ≤ g.length) : (Txt.slice g (some (e : Int)) (some ((e : Int) + 1)) == w) = decide ((g.cps.toList.drop e).take 1 = w.cps.toList) := by
  have h := slice_nat g (a := e) (b := e + 1) (Nat.le_succ _)
  rw [Nat.add_sub_cancel_left] at h
  rw [show ((e : Int) + 1) = ((e + 1 : Nat) : Int) from rfl, h]
  rw [Bool.eq_iff_iff, beq_iff_eq, decide_eq_true_iff]
  exact ⟨fun q => by rw [← q], fun q => by rw [q]⟩
theorem stepI_snoc (G t es : List Nat) (i e : Nat) (h : es[i]? = some e) : stepI G t (es.take (i + 1)) = stepI G t (es.take i) ++ (if decide ((G.drop e).take 1 = t) = true then [((e + 1 : Nat) : Int)] else []) := by
  unfold stepI
  rw [List.take_add_one, h]
  simp only [Option.toList_some, List.filter_append, List.map_append]
  congr 1
  by_cases hc : (G.drop e).take 1 = t
  · simp [hc]
  · simp [hc]
theorem ifif2 {α : Type} {p : Prop} [Decidable p] (a b c : α) : (if p then a else if p then b else c) = if p then a else c := by by_cases h : p <;> simp [h]
theorem tok_at {xs : List Str} {ts : List (List Nat)} {i : Nat} {w : Str} {r : List Str} (ht : xs = ts.map strOf) (h : xs.drop i = w :: r) : ∃ t, t ∈ ts ∧ w = strOf t ∧ ts.take (i + 1) = ts.take i ++ [t] := by
  subst ht
  rw [← List.map_drop] at h
  cases e : ts.drop i with
  | nil => rw [e] at h; cases h
  | cons t r' =>
    rw [e] at h
    have h1 : ts[i]? = some t := by rw [← List.head?_drop, e]; rfl
    refine ⟨t, List.mem_of_getElem? h1, ?_, ?_⟩
    · have := (List.cons.inj h).1; exact this.symm
    · rw [List.take_add_one, h1]; rfl
theorem stepI_eq (G t es : List Nat) (h : t ≠ D3) : stepI G t es = (stepE G es t).map fun n : Nat => (n : Int) := by
  unfold stepI stepE
  rw [if_neg h, List.map_map]
  rfl
theorem strOf_toList' (t : List Nat) : (strOf t).cps.toList = t := by simp [strOf]
theorem dots_strOf : strOf D3 = Str.ofString "..." := by decide
section
variable {prog : Program} {w : World} {A : Around} {E : Value → Shared → Prop} {s : Shared} {a b : Addr} {xs : List Value} {Q : Value → Shared → Prop}
theorem ne_nil_false (ha : s.heap.IsList a xs.toArray) (hb : s.heap.IsList b #[]) (hi : IntsAre xs []) (hu : A.units + 64 < cLine) (h : Q (.bool false) s) :
    wpAny (model prog w) A (compareOp .NotEq (.ref a) (.ref b)) Q E s := ke_ne_ints ha (ys := []) hb hi .nil hu h
theorem ne_nil_true {n : Int} {ns : List Int} (ha : s.heap.IsList a xs.toArray) (hb : s.heap.IsList b #[]) (hi : IntsAre xs (n :: ns)) (hu : A.units + 64 < cLine) (h : Q (.bool true) s) :
    wpAny (model prog w) A (compareOp .NotEq (.ref a) (.ref b)) Q E s := ke_ne_ints ha (ys := []) hb hi .nil hu (by rw [decide_eq_false (by simp)]; exact h)
end
theorem next_sub {h₀ : Heap} {L : Addr} {h : Heap} (d i e : Addr × Obj) (r : List (Addr × Obj)) (N : News h₀ L h (d :: i :: e :: r)) : News h₀ L h (i :: d :: r) := fun p hp => N p (by
  rcases List.mem_cons.mp hp with rfl | hp
  · exact List.mem_cons_of_mem _ List.mem_cons_self
  · rcases List.mem_cons.mp hp with rfl | hp
    · exact List.mem_cons_self
    · exact List.mem_cons_of_mem _ (List.mem_cons_of_mem _ (List.mem_cons_of_mem _ hp)))
theorem next_off {D I : Addr} {oD oI oE oC oC' : Obj} {E C : Addr} {r : List (Addr × Obj)} (off : LCg.Off1 D ((I, oI) :: (E, oE) :: (C, oC) :: r)) (ho : ∀ p ∈ (E, oE) :: (C, oC') :: r, p.1 ≠ I) : ∀ p ∈ (D, oD) :: (C, oC) :: r, p.1 ≠ I := fun p hp => by
  rcases List.mem_cons.mp hp with rfl | hp
  · exact Ne.symm off.1
  · rcases List.mem_cons.mp hp with rfl | hp
    · exact ho (C, oC') (List.mem_cons_of_mem _ List.mem_cons_self)
    · exact ho p (List.mem_cons_of_mem _ (List.mem_cons_of_mem _ hp))
theorem same_off {I : Addr} {oE oC oC' : Obj} {E C : Addr} {r : List (Addr × Obj)} (ho : ∀ p ∈ (E, oE) :: (C, oC') :: r, p.1 ≠ I) : ∀ p ∈ (E, oE) :: (C, oC) :: r, p.1 ≠ I := fun p hp => by
  rcases List.mem_cons.mp hp with rfl | hp
  · exact ho _ List.mem_cons_self
  · rcases List.mem_cons.mp hp with rfl | hp
    · exact ho (C, oC') (List.mem_cons_of_mem _ List.mem_cons_self)
    · exact ho p (List.mem_cons_of_mem _ (List.mem_cons_of_mem _ hp))
theorem next_sub2 {h₀ : Heap} {L : Addr} {h : Heap} (d z i e : Addr × Obj) (r : List (Addr × Obj)) (N : News h₀ L h (d :: z :: i :: e :: r)) : News h₀ L h (i :: d :: r) := next_sub d i e r fun p hp => N p (by
  rcases List.mem_cons.mp hp with rfl | hp
  · exact List.mem_cons_self
  · exact List.mem_cons_of_mem _ (List.mem_cons_of_mem _ hp))
def EndsJ (G : List Nat) (ts : List (List Nat)) (C : Addr) (m₀ : Str → Option Value) (news₀ : List (Addr × Obj)) (i : Nat) (m₁ : Str → Option Value) (news₁ : List (Addr × Obj)) : Prop :=
  ∃ (E : Addr) (vals : List Value) (c : Nat) (oT : Obj) (ov : Option Value), news₁ = (E, listOf vals.toArray c) ::(C, oT) :: news₀.drop 2 ∧ @Ne Nat E C ∧ oT.data = .cell ov ∧ IntsAre vals ((endsF G (ts.take i)).map fun n : Nat => (n : Int)) ∧ m₁ = fun z => if z = Str.ofString "ends" then some (.ref E) else m₀ z
section
variable {w : World} {mean : ExcName → Option Value} {mg mb : Str → Option Value} {news : List (Addr × Obj)}
local macro_rules | `(tactic| walk_at "exec For Name Name cons nil") => `(tactic| (k_here; refine stop_ ?_))

local macro_rules | `(tactic| walk_at "exec Assign cons ListComp") => `(tactic| (k_here; refine stop_ ?_))
local macro_rules | `(tactic| walk_at "compareOp NotEq ref ref") => `(tactic| (k_here; refine stop_ ?_))
theorem ends_call (T0 : Addr) (tl : List (Str × Tok)) (c0 : Nat) (ts : List (List Nat)) (g : Str) (tg : Tok) (hg : g.length ≤ 1000) (hT : (T0, listOf (strValues tl).toArray c0) ∈ news) (ht : tl.map (·.1) = ts.map strOf) (hts : Toks ts) :
    Spec w mean mg mb 89 1 100 news [.ref T0, .str g tg] (fun h₀ L h' r => ∃ E c vals, r = .ref E ∧ News h₀ L h' ((E, listOf vals.toArray c) :: news) ∧ IntsAre vals ((endsF g.cps.toList ts).map fun n : Nat => (n : Int))) := by
  w_top off
  unfold Spec
  k_fill
  intro dp un gd cn cs a ccd cl outer A₀ base h₀ L m s Q E B F X N T hk hd hu hret
  refine wpAny_call ?_
  k_dflt (refine' code_defC ?k1 ?k2 ?k3 ?k4 ?k5 ?kA ?kF ?kK ?k6 ?k7 ?k8 ?k9 ?kB ?kD ?_ ?c2 ?c3 ?c4; (case kA => exact rfl); (case kF => exact rfl); (case kK => assumption); (case k1 => k_asm); (case k2 => k_asm); (case k3 => k_asm); (case k4 => k_asm); (case k5 => k_asm); (case k6 => k_is); (case k7 => k_is); (case k8 => ktr_room); (case k9 => exact BindsTo.of_eq rfl); (case kB => exact rfl); (case kD => decide +kernel); (case c2 => exact rfl); (case c3 => exact rfl); (case c4 => exact rfl); k_whole; intro g' L' h' tk' cells' FG' F' N' Y' B' X' T' l1; (try k_lt l1); k_cells Y'; (try simp only [List.cons_append, List.nil_append] at N'); (try dsimp only); (try k_lift B'); (try k_fold))
  k_steps
  unfold Stop
  refine For_L (by k_asm) (EndsJ g.cps.toList ts (L' + 1 + 1)) (postStop ?_) (by intro _ _; rfl)
  k_steps
  unfold Stop
  rename_i o1 o2 d1 d2 l9 h8 l1' h9 F9 N9
  have hT' := List.mem_cons_of_mem (l9, W.listOf #[Value.int 0 tk'] 0) (List.mem_cons_of_mem (L' + 1 + 1, o1) (List.mem_cons_of_mem (L' + 1, o2) hT))
  refine ⟨T0, strValues tl, c0, _, _, rfl, rfl, by k_asm, by k_asm, hT', ?_, ?_, ?_⟩
  · refine ⟨_, [Value.int 0 tk'], _, _, _, rfl, ?_, d1, ?_, ?_⟩
    · show (l9 : Nat) ≠ L' + 1 + 1
      exact Ne.symm (Nat.ne_of_lt l1'.1)
    · exact IntsAre.cons _ _ IntsAre.nil
    · funext z; exact ifif _ _
  · intro I7 i7 v7 m7 news7 oI7 h7 tk7 hv7 hJ7 hS7 ho7 F7 N7
    obtain ⟨E7, vals7, c7, oT7, ov7, rfl, hE7, hT7, hi7, rfl⟩ := hJ7
    obtain ⟨w7, tw7, rfl, hd7, hm7⟩ := strsAre_get (strsAre_values tl) hv7
    simp only [List.drop_succ_cons, List.drop_zero] at hS7 ho7 N7
    have hI7 : (I7 : Nat) ≠ L' + 1 + 1 := Ne.symm (ho7 _ (List.mem_cons_of_mem _ (List.mem_cons_self)))
    have hIE7 : (I7 : Nat) ≠ E7 := Ne.symm (ho7 _ (List.mem_cons_self))
    have hR7 : ∀ p ∈ (L' + 1, o2) :: news, p.1 ≠ L' + 1 + 1 := fun p hp => by
      rcases List.mem_cons.mp hp with rfl | hp
      · exact Nat.ne_of_lt (Nat.lt_succ_self _)
      · exact Nat.ne_of_lt (Nat.lt_succ_of_lt (Nat.lt_succ_of_lt (l1 p hp)))
    obtain ⟨t7, htm7, hw7, ht7⟩ := tok_at ht hd7
    have hts7 : Toks (ts.take i7) := toks_take hts i7
    have hends7 := endsF_ok g.cps.toList (ts.take i7) hts7
    have hmem7 : ∀ e ∈ endsF g.cps.toList (ts.take i7), e ≤ g.length := fun e he => ((hends7.2 e).mp he).1
    have hlen7 : (endsF g.cps.toList (ts.take i7)).length ≤ 1001 := Nat.le_trans (endsF_length g.cps.toList hts7) (Nat.succ_le_succ hg)
    refine assign_Name ?_
    k_dflt (refine' storeX_C ?F ?N ?c ?U ?d ?_ ?a ?b; (case a => rfl); (case b => rfl); (case F => k_asm); (case N => exact N7); (case c => rfl); (case U => exact UpdF.tail hI7 (UpdF.tail hE7 (UpdF.head hR7))); (case d => exact hT7); k_whole)
    intro h6 o6 F6 N6 d6
    (try dsimp only at N6)
    (try k_sweep)
    k_steps
    · unfold Stop
      k_dflt (refine LCt.Assign_ListComp_T (F₀ := by k_asm) (by rfl) (by with_unfolding_all rfl) (by with_unfolding_all rfl) (by decide) (by rfl) (by decide) (by rfl) (by rfl) (by rfl) (postStop ?_))
      k_steps
      unfold Stop
      refine LCt.CompSrcT.ledger rfl (by k_asm) (by k_asm) (List.mem_cons_of_mem _ List.mem_cons_self) ?_ fun gg => compT_inv (fun i ys nw => nw = (I7, oI7) :: (E7, listOf vals7.toArray c7) :: (L' + 1 + 1, o6) :: (L' + 1, o2) :: news ∧ IntsAre ys (stepI g.cps.toList w7.cps.toList ((endsF g.cps.toList (ts.take i7)).take i))) ⟨rfl, IntsAre.nil⟩ ?_ ?_
      · rw [List.size_toArray, hi7.length, List.length_map]
        exact Nat.le_trans hlen7 (by decide)
      · intro i5 v5 ys5 nw5 I5 oI5 C5 oC5 D5 m5 h5 tk5 E5 hi5 hP5 hK5 hns5 hx5 F5 N5 off5 ne5
        obtain ⟨rfl, hys5⟩ := hK5
        obtain ⟨e5, t5, rfl, he5⟩ := IntsAre.at hi7 i5 v5 (by simpa using hP5)
        rw [List.getElem?_map] at he5
        obtain ⟨n5, hn5, rfl⟩ := Option.map_eq_some_iff.mp he5
        have hle5 := hmem7 n5 (List.mem_of_getElem? hn5)
        have hsl5 := slice_one g w7 n5 hle5
        have hst5 := stepI_snoc g.cps.toList w7.cps.toList _ _ _ hn5
        have hS5 : LCg.SrcAt g' E7 vals7.toArray ((I7, oI7) :: (E7, listOf vals7.toArray c7) :: (L' + 1 + 1, o6) :: (L' + 1, o2) :: news) := .inr ⟨_, List.mem_cons_of_mem _ List.mem_cons_self, rfl, _, rfl⟩
        k_steps
        · rename_i hc5
          refine LCg.CompEnd.intro (by k_asm) (by k_asm) _ (fun p hp => hp) off5 hS5 ⟨rfl, ?_⟩
          rw [hst5, ← hsl5, if_pos hc5]
          exact hys5.append (.cons _ _ .nil)
        · rename_i hc5
          refine LCg.CompEnd.intro (by k_asm) (by k_asm) _ (fun p hp => hp) off5 hS5 ⟨rfl, ?_⟩
          rw [hst5, ← hsl5, hc5, if_neg Bool.false_ne_true, List.append_nil]
          exact hys5
      · rintro ys5 nw5 ⟨rfl, hys5⟩
        unfold LCg.FinA
        intro D5 h5 tk5 F5 N5 off5
        k_steps
        have hwt : (w7 != Str.ofString "...") = true := by assumption
        refine ForStep.next (by k_asm) (next_sub _ _ _ _ N5) (next_off off5 ho7) (List.mem_cons_of_mem _ (List.mem_cons_of_mem _ (List.mem_cons_of_mem _ hT))) ⟨D5, ys5, _, o6, _, rfl, Ne.symm off5.2.2.1, d6, ?_, funext fun z => ifif2 _ _ _⟩
        have ne : t7 ≠ D3 := fun q => by rw [q] at hw7; rw [hw7, dots_strOf] at hwt; simp at hwt
        rw [hw7, strOf_toList', List.size_toArray, hi7.length, List.length_map, List.take_of_length_le (Nat.le_refl _), stepI_eq _ _ _ ne] at hys5
        rw [ht7, endsF_snoc]
        exact hys5
    · unfold Stop
      rename_i l5 h5 F5 N5 l15
      have hwf : (w7 != Str.ofString "...") = false := by assumption
      have et : t7 = D3 := by
        apply strOf_inj
        rw [← hw7, dots_strOf]
        simpa using hwf
      have hb5 : h5.IsList l5 #[] := ⟨_, (N5 _ List.mem_cons_self).1, rfl, _, rfl⟩
      have ha5 : h5.IsList E7 vals7.toArray := ⟨_, (N5 _ (List.mem_cons_of_mem _ (List.mem_cons_of_mem _ List.mem_cons_self))).1, rfl, _, rfl⟩
      rcases hes : endsF g.cps.toList (ts.take i7) with _ | ⟨e0, r0⟩
      · rw [hes] at hi7
        refine ne_nil_false ha5 hb5 hi7 (by ke_room) ?_
        k_steps
        refine ForStep.next (by k_asm) (fun p hp => N5 p (List.mem_cons_of_mem _ hp)) (same_off ho7) (List.mem_cons_of_mem _ (List.mem_cons_of_mem _ (List.mem_cons_of_mem _ hT))) ⟨E7, vals7, c7, o6, _, rfl, hE7, d6, ?_, rfl⟩
        rw [ht7, et, endsF_snoc, hes, stepE_dots_nil]
        exact hi7
      · rw [hes, List.map_cons] at hi7
        obtain ⟨t0, vs0, rfl, hvs⟩ := IntsAre.cons_inv hi7
        have he0 : e0 ≤ g.length := hmem7 e0 (by rw [hes]; exact List.mem_cons_self)
        refine ne_nil_true ha5 hb5 hi7 (by ke_room) ?_
        k_steps
        unfold Stop
        k_dflt (refine LCg.Assign_ListComp_U (F₀ := by k_asm) (by rfl) (by with_unfolding_all rfl) (by with_unfolding_all rfl) (by decide) (by rfl) (by decide) (by rfl) (by rfl) (by rfl) (postStop ?_))
        k_steps
        unfold Stop
        rename_i t1 u1 v1 hr4 F4 N4 k4
        refine LCg.CompSrc.range (a := (e0 : Int)) (b := (g.length : Int) + 1) (n := g.length + 1 - e0) rfl (by k_asm) N4 hr4 (small_one (by omega) (by omega) (by omega) (by omega)) (by rw [rangeSize_nat]; omega) (Nat.le_trans (m := 1001) (by omega) (by decide)) fun gg => compU_inv (fun i ys nw => nw = (l5, listOf #[] 0) :: (I7, oI7) :: (E7, listOf (Value.int (e0 : Int) t0 :: vs0).toArray c7) :: (L' + 1 + 1, o6) :: (L' + 1, o2) :: news ∧ IntsAre ys ((List.range' e0 i).map fun n : Nat => (n : Int))) ⟨rfl, IntsAre.nil⟩ ?_ ?_
        · intro i5 v5 ys5 nw5 I5 oI5 C5 oC5 D5 m5 h4 tk5 E5 hi5 hP5 hK5 hns5 hx5 F5 N5 off5 ne5
          obtain ⟨rfl, hys5⟩ := hK5
          obtain ⟨t5, rfl⟩ := hP5
          k_steps
          refine LCg.CompEnd.intro (by k_asm) (by k_asm) _ (fun p hp => hp) off5 trivial ⟨rfl, ?_⟩
          rw [List.range'_concat, List.map_append, Nat.one_mul]
          exact hys5.append (.cons _ _ .nil)
        · rintro ys5 nw5 ⟨rfl, hys5⟩
          unfold LCg.FinA
          intro D5 h4 tk5 F5 N5 off5
          k_steps
          refine ForStep.next (by k_asm) (next_sub2 _ _ _ _ _ N5) (next_off off5.2 ho7) (List.mem_cons_of_mem _ (List.mem_cons_of_mem _ (List.mem_cons_of_mem _ hT))) ⟨D5, ys5, _, o6, _, rfl, Ne.symm off5.2.2.2.1, d6, ?_, funext fun z => ifif2 _ _ _⟩
          rw [ht7, et, endsF_snoc, hes, stepE_dots_cons]
          exact hys5
  · intro m7 news7 h7 tk7 hJ7 F7 N7
    obtain ⟨E7, vals7, c7, oT7, ov7, rfl, hE7, hT7, hi7, rfl⟩ := hJ7
    k_steps
    refine hret _ _ _ (by k_asm) ⟨E7, c7, vals7, rfl, ?_, ?_⟩
    · rename_i kN _ _
      simp only [List.drop_succ_cons, List.drop_zero] at kN
      intro p hp
      refine kN p ?_
      rcases List.mem_cons.mp hp with rfl | hp
      · exact List.mem_cons_self
      · exact List.mem_cons_of_mem _ (List.mem_cons_of_mem _ (List.mem_cons_of_mem _ hp))
    · have hl := congrArg List.length ht
      rw [List.length_map, List.length_map] at hl
      rw [strsAre_len (strsAre_values tl), List.length_map, hl, List.take_of_length_le (Nat.le_refl _)] at hi7
      exact hi7
end
end
end Mine
namespace Mine
section
open PySem PySem.W PyProof.Rows
set_option maxRecDepth 100000
set_option maxHeartbeats 1000000
local macro_rules | `(tactic| walk_at "mine empty 0") => `(tactic| fail "empty")
theorem over4 {α : Type} (m : Str → α) (a b c d : Str) : m = fun z => if z = a then m a else if z = b then m b else if z = c then m c else if z = d then m d else m z := by
  funext z
  by_cases h1 : z = a
  · rw [if_pos h1, h1]
  by_cases h2 : z = b
  · rw [if_neg h1, if_pos h2, h2]
  by_cases h3 : z = c
  · rw [if_neg h1, if_neg h2, if_pos h3, h3]
  by_cases h4 : z = d
  · rw [if_neg h1, if_neg h2, if_neg h3, if_pos h4, h4]
  rw [if_neg h1, if_neg h2, if_neg h3, if_neg h4]
theorem over4' {α : Type} (m : Str → α) (a b c d : Str) (x y u v x' y' u' v' : α) : (fun z => if z = a then x else if z = b then y else if z = c then u else if z = d then v else if z = a then x' else if z = b then y' else if z = c then u' else if z = d then v' else m z) = fun z => if z = a then x else if z = b then y else if z = c then u else if z = d then v else m z := by
  funext z
  by_cases h1 : z = a
  · rw [if_pos h1, if_pos h1]
  by_cases h2 : z = b
  · simp only [if_neg h1, if_pos h2]
  by_cases h3 : z = c
  · simp only [if_neg h1, if_neg h2, if_pos h3]
  by_cases h4 : z = d
  · simp only [if_neg h1, if_neg h2, if_neg h3, if_pos h4]
  simp only [if_neg h1, if_neg h2, if_neg h3, if_neg h4]
theorem str_len_app (a b : Str) : (a ++ b).length = a.length + b.length := by
  show (a.cps ++ b.cps).size = _
  rw [Array.size_append]; rfl
theorem fmtF_length (p v : Str) (q : Bool) : (fmtF p v q).length ≤ p.length + 3 + 2 * v.length := by
  unfold fmtF
  have h1 : (Str.ofString "=\"").length = 2 := by decide
  have h2 : (Str.ofString "\"").length = 1 := by decide
  have h3 : (Str.ofString "=").length = 1 := by decide
  have h4 := escS_length v
  split
  · omega
  · split
    · rw [str_len_app, str_len_app, str_len_app]; omega
    · rw [str_len_app, str_len_app]; omega
theorem asked_eq (z : Int) : (z.fmod 2 == 1) = (z.fmod 2 != 0) := by
  have h := Int.fmod_eq_emod_of_nonneg z (b := 2) (by decide)
  rw [h]
  rcases (by omega : z % 2 = 0 ∨ z % 2 = 1) with e | e <;> rw [e] <;> rfl
section
variable {prog : Program} {w : World} {A : Around} {E : Value → Shared → Prop} {s : Shared} {h₀ : Heap} {L : Addr} {news : List (Addr × Obj)}
theorem item_at {value slice : Expr} {l : Addr} {vs : List Value} {c i : Nat} {k : Int} {u : Tok} {v : Value} {Q : Value → Shared → Prop} (N : News h₀ L s.heap news) (hm : (l, listOf vs.toArray c) ∈ news) (hk : k = (i : Int)) (hi : i < 1000000) (hx : vs[i]? = some v) (h : Q v s)
    (hs : subscripted slice false (.ref l) (.int k u) = operate [.ref l, .int k u] (getItem (.ref l) (.int k u)) := by with_unfolding_all rfl) :
    wpAny (model prog w) A (subscriptTail value slice (.ref l) (.int k u)) Q E s :=
  item_litK ⟨_, N.get hm, rfl, _, rfl⟩ (by omega) (by omega) (by subst hk; simpa using hx) h hs
end
def kS : Str := Str.ofString "k"
def lmS : Str := Str.ofString "L_m"
def innerF (turn : Int) (i : Nat) (x : Str) : Str := fmtF kS x (Int.fmod (0 + (i : Int) + turn) 2 != 0)
def outerF (turn : Int) (i : Nat) (x : Str) : Str := fmtF lmS (innerF turn i x) true
def RowsOf (turn : Int) (xs : List Str) (n : Nat) (its : List Value) (nw : List (Addr × Obj)) : Prop :=
  its.length = n ∧ ∀ i x, i < n → xs[i]? = some x → ∃ p t1 t2, its[i]? = some (.ref p) ∧ (p, tupObj [.str (innerF turn i x) t1, .str (outerF turn i x) t2]) ∈ nw
theorem rows_step {turn : Int} {xs : List Str} {i : Nat} {its : List Value} {nw : List (Addr × Obj)} {x : Str} {D : Addr} {t1 t2 : Tok} (h : RowsOf turn xs i its nw) (hx : xs[i]? = some x) :
    RowsOf turn xs (i + 1) (its ++ [.ref D]) ((D, tupObj [.str (innerF turn i x) t1, .str (outerF turn i x) t2]) :: nw) := by
  obtain ⟨h1, h2⟩ := h
  refine ⟨by rw [List.length_append, h1]; rfl, fun j y hj hy => ?_⟩
  by_cases e : j = i
  · subst e
    rw [hx] at hy
    cases hy
    exact ⟨D, t1, t2, by rw [List.getElem?_append_right (by omega), h1, Nat.sub_self]; rfl, List.mem_cons_self⟩
  · obtain ⟨p, u1, u2, e1, e2⟩ := h2 j y (by omega) hy
    exact ⟨p, u1, u2, by rw [List.getElem?_append_left (by omega)]; exact e1, List.mem_cons_of_mem _ e2⟩
theorem news_perm3 {h₀ : Heap} {L : Addr} {h : Heap} {d i l : Addr × Obj} {r : List (Addr × Obj)} (N : News h₀ L h (d :: i :: l :: r)) : News h₀ L h (i :: l :: d :: r) := fun p hp => N p (by
  simp only [List.mem_cons] at hp ⊢
  rcases hp with h | h | h | h
  · exact .inr (.inl h)
  · exact .inr (.inr (.inl h))
  · exact .inl h
  · exact .inr (.inr (.inr h)))
def RowsJ (turn : Int) (xs : List Str) (R : Addr) (news : List (Addr × Obj)) (m₀ : Str → Option Value) (_news₀ : List (Addr × Obj)) (i : Nat) (m₁ : Str → Option Value) (news₁ : List (Addr × Obj)) : Prop :=
  ∃ (its : List Value) (c : Nat) (nw tups : List (Addr × Obj)) (o1 o2 o3 o4 : Option Value), news₁ = (R, listOf its.toArray c) :: nw ∧ (∀ p ∈ news, p ∈ nw) ∧ (∀ p ∈ tups, p ∈ nw) ∧ (∀ p ∈ nw, p.1 ≠ R) ∧ RowsOf turn xs i its tups ∧
    m₁ = fun z => if z = Str.ofString "outer" then o1 else if z = Str.ofString "inner" then o2 else if z = Str.ofString "asked" then o3 else if z = Str.ofString "place" then o4 else m₀ z
section
variable {w : World} {mean : ExcName → Option Value} {mg mb : Str → Option Value} {news : List (Addr × Obj)}
local macro_rules | `(tactic| walk_at "exec For Name Call cons nil") => `(tactic| (k_here; refine stop_ ?_))
local macro_rules | `(tactic| walk_at "call ref") => `(tactic| (k_here; refine stop_ ?_))
local macro_rules | `(tactic| walk_at "subscriptTail Name Name ref int") => `(tactic| (k_here; refine stop_ ?_))
theorem rows_call (T0 : Addr) (xl : List (Str × Tok)) (c0 : Nat) (turn : Int) (tt : Tok) (hn : xl.length ≤ 100) (hx : ∀ x ∈ xl.map (·.1), x.length ≤ 100) (hT : (T0, listOf (strValues xl).toArray c0) ∈ news) :
    Spec w mean mg mb 77 2 100 news [.ref T0, .int turn tt] (fun h₀ L h' r => ∃ R c its tups, r = .ref R ∧ News h₀ L h' ((R, listOf its.toArray c) :: (news ++ tups)) ∧ RowsOf turn (xl.map (·.1)) xl.length its tups) := by
  w_top off
  unfold Spec
  k_fill
  intro dp un gd cn cs a ccd cl outer A₀ base h₀ L m s Q E B F X N T hk hd hu hret
  refine wpAny_call ?_
  k_dflt cell_enter
  k_steps
  unfold Stop
  rename_i l9 h8 l19 h9 F9 N9
  refine For_R (by k_asm) (RowsJ turn (xl.map (·.1)) l9 news) (postStop ?_) (by intro _ _; rfl)
  k_steps
  refine lenL N9 (List.mem_cons_of_mem _ hT) (by rw [strValues_len]; omega) ?_
  k_steps
  unfold Stop
  rename_i t1 u1 v1 hr4 F4 N4 k4
  refine ⟨_, 0, _, _, _, _, xl.length, _, _, rfl, rfl, F4, N4, hr4, small_one (by omega) (by omega) (by omega) (by rw [strValues_len]; omega), by rw [strValues_len, rangeSize_nat]; omega, ⟨[], 0, news, [], _, _, _, _, rfl, fun _ hp => hp, fun _ hp => (nomatch hp), fun p hp => Nat.ne_of_lt (l19 p hp), ⟨rfl, fun i x h => absurd h (Nat.not_lt_zero _)⟩, over4 _ _ _ _ _⟩, ?_, ?_⟩
  · intro I7 i7 t7 m7 news7 oI7 h7 tk7 hi7 hJ7 ho7 F7 N7
    obtain ⟨its7, c7, nw7, tups7, o1, o2, o3, o4, rfl, hsub7, htup7, hoff7, hR7, rfl⟩ := hJ7
    have hv7 : ∃ x tx, (strValues xl)[i7]? = some (.str x tx) ∧ (xl.map (·.1))[i7]? = some x := by
      rcases hq : xl[i7]? with _ | ⟨x, tx⟩
      · rw [List.getElem?_eq_none_iff] at hq; omega
      · exact ⟨x, tx, by simp [strValues, hq], by simp [hq]⟩
    obtain ⟨x7, tx7, hx7, hm7⟩ := hv7
    have hl7 : x7.length ≤ 100 := hx x7 (List.mem_of_getElem? hm7)
    have hT7 := List.mem_cons_of_mem (I7, oI7) (List.mem_cons_of_mem (l9, listOf its7.toArray c7) (hsub7 _ hT))
    k_steps
    unfold Stop
    refine item_at (by k_asm) hT7 (Int.zero_add _) (by omega) hx7 ?_
    k_steps
    (unfold Stop; k_dflt (refine' fmt_call _ _ _ _ _ _ (by decide) (by omega) _ _ _ _ _ _ _ _ _ _ _ _ _ _ _ _ _ ?k1 ?k2 ?k3 ?k4 ?k5 ?k6 ?k7 ?k8 ?_; (case k1 => k_asm); (case k2 => k_asm); (case k3 => k_asm); (case k4 => k_asm); (case k5 => k_asm); (case k6 => first | exact rfl | assumption); (case k7 => ktr_room); (case k8 => ktr_units)))
    rintro v6 h6 tk6 F6 ⟨N6, ta, rfl⟩
    (try k_sweep); (try dsimp only); (try k_fold)
    generalize hin : fmtF (Str.ofString "k") x7 ((0 + (i7 : Int) + turn).fmod 2 != 0) = inn
    have hinl : inn.length ≤ 204 := by
      have := fmtF_length (Str.ofString "k") x7 ((0 + (i7 : Int) + turn).fmod 2 != 0)
      have h1 : (Str.ofString "k").length = 1 := by decide
      rw [hin] at this
      omega
    k_steps
    (unfold Stop; k_dflt (refine' fmt_call2 _ _ _ _ (by decide) (by omega) _ _ _ _ _ _ _ _ _ _ _ _ _ _ _ _ _ ?k1 ?k2 ?k3 ?k4 ?k5 ?k6 ?k7 ?k8 ?_; (case k1 => k_asm); (case k2 => k_asm); (case k3 => k_asm); (case k4 => k_asm); (case k5 => k_asm); (case k6 => first | exact rfl | assumption); (case k7 => ktr_room); (case k8 => ktr_units)))
    rintro v6 h6 tk6 F6 ⟨N6, tb, rfl⟩
    (try k_sweep); (try dsimp only); (try k_fold)
    generalize hout : fmtF (Str.ofString "L_m") inn true = out
    k_steps
    unfold Stop
    refine item_at (by k_asm) hT7 (Int.zero_add _) (by omega) hx7 ?_
    k_steps
    (unfold Stop; k_dflt (refine' written_call _ _ _ _ _ (by decide) (by omega) _ _ _ _ _ _ _ _ _ _ _ _ _ _ _ _ _ ?k1 ?k2 ?k3 ?k4 ?k5 ?k6 ?k7 ?k8 ?_; (case k1 => k_asm); (case k2 => k_asm); (case k3 => k_asm); (case k4 => k_asm); (case k5 => k_asm); (case k6 => first | exact rfl | assumption); (case k7 => ktr_room); (case k8 => ktr_units)))
    rintro v6 h6 tk6 F6 ⟨N6, tc, rfl⟩
    (try k_sweep); (try dsimp only); (try k_fold)
    rw [asked_eq, hin]
    k_steps
    · exfalso
      have h1 : (inn != inn) = true := by assumption
      simp at h1
    (unfold Stop; k_dflt (refine' written_call _ _ _ _ _ (by decide) (by omega) _ _ _ _ _ _ _ _ _ _ _ _ _ _ _ _ _ ?k1 ?k2 ?k3 ?k4 ?k5 ?k6 ?k7 ?k8 ?_; (case k1 => k_asm); (case k2 => k_asm); (case k3 => k_asm); (case k4 => k_asm); (case k5 => k_asm); (case k6 => first | exact rfl | assumption); (case k7 => ktr_room); (case k8 => ktr_units)))
    rintro v6 h6 tk6 F6 ⟨N6, td, rfl⟩
    (try k_sweep); (try dsimp only); (try k_fold)
    rw [hout]
    k_steps
    · exfalso
      have h1 : (out != out) = true := by assumption
      simp at h1
    rename_i D5 h5 F5 N5 l5
    have hI9 : (I7 : Nat) ≠ l9 := Ne.symm (ho7 _ List.mem_cons_self)
    refine append_K F5 N5 (Upd.tail (Nat.ne_of_gt l5.2.1) (Upd.tail hI9 (Upd.head hoff7))) ?_ ?z
    case z => simp only [List.size_toArray]; rw [hR7.1]; exact Nat.le_trans (Nat.le_of_lt (Nat.lt_of_lt_of_le hi7 hn)) (by decide)
    intro h4 F4 N4
    rw [List.push_toArray] at N4
    k_steps
    refine ForStep.next (by k_asm) (news_perm3 N4) ?_ trivial ⟨its7 ++ [.ref D5], c7 + 1, (D5, _) :: nw7, (D5, tupObj [.str inn ta, .str out tb]) :: tups7, _, _, _, _, rfl, fun p hp => List.mem_cons_of_mem _ (hsub7 p hp), ?_, ?_, ?_, over4' _ _ _ _ _ _ _ _ _ _ _ _ _⟩
    · intro p hp
      rcases List.mem_cons.mp hp with rfl | hp
      · exact Ne.symm hI9
      · rcases List.mem_cons.mp hp with rfl | hp
        · exact Nat.ne_of_gt l5.1
        · exact ho7 p (List.mem_cons_of_mem _ hp)
    · intro p hp
      rcases List.mem_cons.mp hp with rfl | hp
      · exact List.mem_cons_self
      · exact List.mem_cons_of_mem _ (htup7 p hp)
    · intro p hp
      rcases List.mem_cons.mp hp with rfl | hp
      · exact Nat.ne_of_gt l5.2.1
      · exact hoff7 p hp
    · have hst := fun t1 t2 => rows_step (D := D5) (t1 := t1) (t2 := t2) hR7 hm7
      unfold outerF innerF kS lmS at hst
      rw [hin, hout] at hst
      exact hst _ _
  · intro m7 news7 h7 tk7 hJ7 F7 N7
    obtain ⟨its7, c7, nw7, tups7, o1, o2, o3, o4, rfl, hsub7, htup7, hoff7, hR7, rfl⟩ := hJ7
    k_steps
    rename_i kF kN _ _
    refine hret _ _ _ (by k_asm) ⟨l9, c7, its7, tups7, rfl, fun p hp => kN p ?_, hR7⟩
    rcases List.mem_cons.mp hp with rfl | hp
    · exact List.mem_cons_self
    · exact List.mem_cons_of_mem _ ((List.mem_append.mp hp).elim (hsub7 p) (htup7 p))
end
end
end Mine
namespace Mine
section
open PySem PySem.W PyProof.Rows
set_option maxRecDepth 100000
set_option maxHeartbeats 1000000
abbrev headA (news : List (Addr × Obj)) : Addr := (news.headD (0, default)).1
def TokJ (v : Str) (m₀ : Str → Option Value) (news₀ : List (Addr × Obj)) (n : Nat) (m₁ : Str → Option Value) (news₁ : List (Addr × Obj)) : Prop :=
  ∃ (p : Nat) (tp : Tok) (l : List (Str × Tok)) (c : Nat) (u : Str → Option Value), n = v.length - p ∧ p ≤ v.length ∧ l.length ≤ p ∧
    m₁ = (fun z => if z = Str.ofString "size" then u z else if z = Str.ofString "place" then some (.int (p : Int) tp) else m₀ z) ∧
    news₁ = (headA news₀, listOf (strValues l).toArray c) :: news₀.tail ∧ l.map (·.1) ++ (tok (v.cps.toList.drop p)).map strOf = (tok v.cps.toList).map strOf
theorem tokJ_start {v : Str} {m₀ : Str → Option Value} {D : Addr} {c : Nat} {news : List (Addr × Obj)} {t0 : Tok} (h : m₀ (Str.ofString "place") = some (.int 0 t0)) :
    TokJ v m₀ ((D, listOf #[] c) :: news) v.length m₀ ((D, listOf #[] c) :: news) := by
  refine ⟨0, t0, [], c, m₀, rfl, Nat.zero_le _, Nat.zero_le _, ?_, rfl, rfl⟩
  funext z
  by_cases h1 : z = Str.ofString "size"
  · rw [if_pos h1]
  · rw [if_neg h1]
    by_cases h2 : z = Str.ofString "place"
    · rw [if_pos h2, h2]; exact h
    · rw [if_neg h2]
theorem tokJ_step {v : Str} {m₀ m₂ : Str → Option Value} {D : Addr} {o : Obj} {c p k : Nat} {news : List (Addr × Obj)} {t0 t1 : Tok} {l : List (Str × Tok)} {x : Str} {xi : Int} (hk : 1 ≤ k) (hkp : p + k ≤ v.length) (hlp : l.length ≤ p)
    (hl : l.map (·.1) ++ (tok (v.cps.toList.drop p)).map strOf = (tok v.cps.toList).map strOf) (hx : tok (v.cps.toList.drop p) = x.cps.toList :: tok (v.cps.toList.drop (p + k)))
    (hm : ∀ z, z ≠ Str.ofString "size" → z ≠ Str.ofString "place" → m₂ z = m₀ z) (h : m₂ (Str.ofString "place") = some (.int xi t0)) (hi : xi = ((p + k : Nat) : Int)) :
    TokJ v m₀ ((D, o) :: news) (v.length - (p + k)) m₂ ((D, listOf ((strValues l).toArray.push (.str x t1)) c) :: news) := by
  refine ⟨p + k, t0, l ++ [(x, t1)], c, m₂, rfl, hkp, by rw [List.length_append, List.length_singleton]; omega, ?_, ?_, ?_⟩
  · funext z
    by_cases h1 : z = Str.ofString "size"
    · rw [if_pos h1]
    · rw [if_neg h1]
      by_cases h2 : z = Str.ofString "place"
      · rw [if_pos h2, h2, h, hi]
      · rw [if_neg h2]; exact hm z h1 h2
  · have e : (strValues l).toArray.push (.str x t1) = (strValues (l ++ [(x, t1)])).toArray := by simp [strValues]
    rw [e]; rfl
  · rw [List.map_append, List.append_assoc, ← hl, hx]
    simp [strOf_toList]
theorem tok_three {v : Str} {p : Nat} (h : (Txt.slice v (some (p : Int)) (some ((p : Int) + 3)) == Str.ofString "...") = true) :
    p + 3 ≤ v.length ∧ tok (v.cps.toList.drop p) = (Txt.slice v (some (p : Int)) (some ((p : Int) + 3))).cps.toList :: tok (v.cps.toList.drop (p + 3)) := by
  have e : Txt.slice v (some (p : Int)) (some ((p : Int) + 3)) = ⟨((v.cps.toList.drop p).take 3).toArray⟩ := by
    have := slice_nat v (a := p) (b := p + 3) (by omega)
    rw [show p + 3 - p = 3 by omega] at this
    exact this
  have h1 := eq_of_beq h
  rw [e, dots] at h1
  have h2 : (v.cps.toList.drop p).take 3 = [46, 46, 46] := strOf_inj h1
  constructor
  · have := congrArg List.length h2
    rw [List.length_take, List.length_drop] at this
    simp only [List.length_cons, List.length_nil] at this
    have : v.cps.toList.length = v.length := by simp [Str.length]
    omega
  · rw [tok_dots h2, e, List.drop_drop]
theorem tok_single {v : Str} {p : Nat} (hp : (p : Int) < (v.length : Int)) (h : (Txt.slice v (some (p : Int)) (some ((p : Int) + 3)) == Str.ofString "...") = false) :
    tok (v.cps.toList.drop p) = (Txt.slice v (some (p : Int)) (some ((p : Int) + 1))).cps.toList :: tok (v.cps.toList.drop (p + 1)) := by
  have e : Txt.slice v (some (p : Int)) (some ((p : Int) + 3)) = ⟨((v.cps.toList.drop p).take 3).toArray⟩ := by
    have := slice_nat v (a := p) (b := p + 3) (by omega)
    rw [show p + 3 - p = 3 by omega] at this
    exact this
  have e1 : Txt.slice v (some (p : Int)) (some ((p : Int) + 1)) = ⟨((v.cps.toList.drop p).take 1).toArray⟩ := by
    have := slice_nat v (a := p) (b := p + 1) (by omega)
    rw [show p + 1 - p = 1 by omega] at this
    exact this
  have hl : v.cps.toList.length = v.length := by simp [Str.length]
  have h2 : (v.cps.toList.drop p).take 3 ≠ [46, 46, 46] := by
    intro h3
    rw [e, h3, dots] at h
    simp [strOf] at h
  rw [tok_one (by intro h3; have := congrArg List.length h3; rw [List.length_drop] at this; simp only [List.length_nil] at this; omega) h2, e1, List.drop_drop]
section
variable {w : World} {mean : ExcName → Option Value} {mg mb : Str → Option Value} {news : List (Addr × Obj)}
local macro_rules | `(tactic| walk_at "exec While Compare cons nil") => `(tactic| (k_here; refine stop_ ?_))

theorem tokens_call (v : Str) (t2 : Tok) (h2 : v.length ≤ 1000) :
    Spec w mean mg mb 84 1 8 news [.str v t2] (fun h₀ L h' r => ∃ D c l, r = .ref D ∧ News h₀ L h' ((D, listOf (strValues l).toArray c) :: news) ∧ l.map (·.1) = (tok v.cps.toList).map strOf ∧ ∀ q ∈ news, q.1 < D) := by
  w_top off
  unfold Spec
  k_fill
  intro dp un gd cn cs a ccd cl outer A₀ base h₀ L m s Q E B F X N T hk hd hu hret
  refine wpAny_call ?_
  k_dflt cell_enter
  k_steps
  unfold Stop
  refine While_S (TokJ v) (n₀ := v.length) (by k_asm) (by k_asm) ?_ ?_
  · exact tokJ_start (by rfl)
  · intro n9 m9 news9 h9 tk9 F9 N9 J9
    obtain ⟨p, tp, l, c, u, rfl, hp, hlp, rfl, rfl, hl⟩ := J9
    dsimp only [headA, List.headD, List.tail] at N9
    have hsz : (strValues l).length = l.length := by simp [strValues]
    k_steps
    · have h3 := tok_three (by assumption)
      exact WhileStep.intro (by k_asm) (by k_asm) (by omega) (tokJ_step (k := 3) (by decide) h3.1 hlp hl h3.2 (fun z h1 h2 => by simp only [if_neg h1, if_neg h2]) (by rfl) (by omega))
    · have h3 := tok_single (by assumption) (by assumption)
      exact WhileStep.intro (by k_asm) (by k_asm) (by omega) (tokJ_step (k := 1) (by decide) (by omega) hlp hl h3 (fun z h1 h2 => by simp only [if_neg h1, if_neg h2]) (by rfl) (by omega))
    · unfold Stop
      have hp2 : p = v.length := by omega
      k_steps
      refine hret _ _ _ (by k_asm) ⟨_, _, l, rfl, by k_asm, ?_, by assumption⟩
      subst hp2
      have hl2 : v.cps.toList.length = v.length := by simp [Str.length]
      rw [List.drop_of_length_le (by omega)] at hl
      simpa [tok] using hl
end
end
end Mine
namespace Mine
section
open PySem
set_option maxRecDepth 100000
def fmtL (p v : List Nat) (q : Bool) : List Nat := if v = [] then p else if q || v.any (fun c => sixteen.contains c) then p ++ 61 :: 34 :: (escL v ++ [34]) else p ++ 61 :: v
theorem fmtF_list (p v : Str) (q : Bool) : (fmtF p v q).cps.toList = fmtL p.cps.toList v.cps.toList q := by
  unfold fmtF fmtL
  have h0 : (v.length = 0) ↔ v.cps.toList = [] := by
    rw [← List.length_eq_zero_iff, Array.length_toList]; rfl
  have e1 : (Str.ofString "=\"").cps.toList = [61, 34] := by decide +kernel
  have e2 : (Str.ofString "\"").cps.toList = [34] := by decide +kernel
  have e3 : (Str.ofString "=").cps.toList = [61] := by decide +kernel
  have ap : ∀ a b : Str, (a ++ b).cps.toList = a.cps.toList ++ b.cps.toList := fun a b => by
    show (a.cps ++ b.cps).toList = _
    exact Array.toList_append
  by_cases hv : v.length = 0
  · rw [if_pos hv, if_pos (h0.mp hv)]
  · rw [if_neg hv, if_neg (fun h => hv (h0.mpr h))]
    by_cases hq : (q || anySp v) = true
    · rw [if_pos hq, if_pos (show (q || v.cps.toList.any (fun c => sixteen.contains c)) = true from hq)]
      rw [ap, ap, ap, e1, e2]
      simp [escS]
    · rw [if_neg hq, if_neg (show ¬ (q || v.cps.toList.any (fun c => sixteen.contains c)) = true from hq)]
      rw [ap, ap, e3]
      simp
def NoQ (ts : List (List Nat)) : Prop := ∀ t ∈ ts, t ≠ [34] ∧ t ≠ [92]
theorem mt_quote_front {ts : List (List Nat)} (ht : Toks ts) (hq : NoQ ts) (x : List Nat) : mt ts (34 :: x) ↔ ts.head? = some D3 ∧ mt ts x := by
  induction ts with
  | nil => simp [mt_nil]
  | cons t r ih =>
    have htr : Toks r := fun t h => ht t (List.mem_cons_of_mem _ h)
    have hqr : NoQ r := fun t h => hq t (List.mem_cons_of_mem _ h)
    rcases ht t List.mem_cons_self with rfl | ⟨c, rfl⟩
    · constructor
      · intro h
        refine ⟨rfl, ?_⟩
        obtain ⟨u, v, e, hv⟩ := (mt_dots _ _).mp h
        cases u with
        | nil =>
          have e' : v = 34 :: x := by simpa using e.symm
          subst e'
          exact (mt_dots _ _).mpr ⟨[], x, rfl, ((ih htr hqr).mp hv).2⟩
        | cons d u =>
          have e' := (List.cons.inj e).2
          exact (mt_dots _ _).mpr ⟨u, v, e', hv⟩
      · rintro ⟨_, h⟩
        obtain ⟨u, v, e, hv⟩ := (mt_dots _ _).mp h
        exact (mt_dots _ _).mpr ⟨34 :: u, v, by rw [e]; rfl, hv⟩
    · constructor
      · intro h
        have := (mt_one_cons c 34 r x).mp h
        exact absurd (by rw [this.1]) (hq [c] List.mem_cons_self).1
      · rintro ⟨h, _⟩
        exact absurd (Option.some.inj h) (one_ne c)
theorem mt_quote_back {ts : List (List Nat)} (ht : Toks ts) (hq : NoQ ts) (x : List Nat) : mt ts (x ++ [34]) ↔ ts.getLast? = some D3 ∧ mt ts x := by
  have key : ∀ n, ∀ ts : List (List Nat), ts.length = n → Toks ts → NoQ ts → (mt ts (x ++ [34]) ↔ ts.getLast? = some D3 ∧ mt ts x) := by
    intro n
    induction n with
    | zero =>
      intro ts hn _ _
      have : ts = [] := List.length_eq_zero_iff.mp hn
      subst this
      simp [mt_nil]
    | succ n ih =>
      intro ts hn ht hq
      have hne : ts ≠ [] := by rintro rfl; cases hn
      have el : ts = ts.dropLast ++ [ts.getLast hne] := (List.dropLast_concat_getLast hne).symm
      generalize ts.dropLast = us at el
      generalize ts.getLast hne = t at el
      subst el
      have htr : Toks us := fun t h => ht t (List.mem_append_left _ h)
      have hqr : NoQ us := fun t h => hq t (List.mem_append_left _ h)
      have hmem : t ∈ us ++ [t] := List.mem_append_right _ (List.mem_singleton.mpr rfl)
      rw [List.getLast?_concat]
      rcases ht t hmem with rfl | ⟨c, rfl⟩
      · constructor
        · intro h
          refine ⟨rfl, ?_⟩
          obtain ⟨u, v, e, hv⟩ := (mt_snoc_dots _ _).mp h
          rcases List.eq_nil_or_concat v with rfl | ⟨v', d, rfl⟩
          · have e' : u = x ++ [34] := by simpa using e.symm
            subst e'
            exact (mt_snoc_dots _ _).mpr ⟨x, [], by simp, ((ih us (by simpa using hn) htr hqr).mp hv).2⟩
          · have e' : x = u ++ v' := by
              have := congrArg List.dropLast e
              simpa [← List.append_assoc] using this
            exact (mt_snoc_dots _ _).mpr ⟨u, v', e', hv⟩
        · rintro ⟨_, h⟩
          obtain ⟨u, v, e, hv⟩ := (mt_snoc_dots _ _).mp h
          exact (mt_snoc_dots _ _).mpr ⟨u, v ++ [34], by rw [e, List.append_assoc], hv⟩
      · constructor
        · intro h
          obtain ⟨u, e, _⟩ := (mt_snoc_one _ _ _).mp h
          have := congrArg List.getLast? e
          rw [List.getLast?_concat, List.getLast?_concat] at this
          exact absurd (by rw [Option.some.inj this]) (hq [c] hmem).1
        · rintro ⟨h, _⟩
          exact absurd (Option.some.inj h) (one_ne c)
  exact key _ ts rfl ht hq
theorem escT_noQ {ts : List (List Nat)} (hq : NoQ ts) : escT ts = ts := by
  induction ts with
  | nil => rfl
  | cons t r ih =>
    have h := hq t List.mem_cons_self
    show (if t = [34] ∨ t = [92] then [[92], t] else [t]) ++ escT r = t :: r
    rw [if_neg (fun e => e.elim h.1 h.2), ih fun t h => hq t (List.mem_cons_of_mem _ h)]
    rfl
theorem tok_mem (l : List Nat) : ∀ c, [c] ∈ tok l → c ∈ l := by
  have key : ∀ n, ∀ l : List Nat, l.length ≤ n → ∀ c, [c] ∈ tok l → c ∈ l := by
    intro n
    induction n with
    | zero => intro l hl c h; rw [List.length_eq_zero_iff.mp (Nat.le_zero.mp hl), tok_nil] at h; cases h
    | succ n ih =>
      intro l hl c h
      by_cases hn : l = []
      · rw [hn, tok_nil] at h; cases h
      by_cases h3 : l.take 3 = [46, 46, 46]
      · rw [tok_dots h3] at h
        rcases List.mem_cons.mp h with h | h
        · rw [h3] at h; simp at h
        · exact List.mem_of_mem_drop (ih _ (by rw [List.length_drop]; omega) c h)
      · rw [tok_one hn h3] at h
        rcases List.mem_cons.mp h with h | h
        · exact List.mem_of_mem_take (i := 1) (by rw [← h]; exact List.mem_singleton.mpr rfl)
        · exact List.mem_of_mem_drop (ih _ (by rw [List.length_drop]; omega) c h)
  exact key _ l (Nat.le_refl _)
def markB (v : List Nat) (q : Bool) : Bool := q || v.any (fun c => sixteen.contains c)
def edgeB (ts : List (List Nat)) : Bool := decide (ts.head? = some D3) && decide (ts.getLast? = some D3)
noncomputable def dueB (w g : List Nat) (bare free : Bool) : Bool := if w = [] ∨ g = [] then decide (w = g) else if bare == free then mtB (tok w) g else mtB (tok w) g && bare && edgeB (tok w)
theorem unmarked {v : List Nat} {q : Bool} (h : markB v q = false) : ∀ c ∈ v, c ≠ 34 ∧ c ≠ 92 := by
  intro c hc
  unfold markB at h
  rw [Bool.or_eq_false_iff] at h
  have := List.any_eq_false.mp h.2 c hc
  refine ⟨?_, ?_⟩ <;> (rintro rfl; exact this (by decide))
theorem noQ_of {v : List Nat} {q : Bool} (h : markB v q = false) : NoQ (tok v) := by
  intro t ht
  refine ⟨?_, ?_⟩
  · rintro rfl; exact (unmarked h 34 (tok_mem v 34 ht)).1 rfl
  · rintro rfl; exact (unmarked h 92 (tok_mem v 92 ht)).2 rfl
theorem fmtL_nil (p : List Nat) (q : Bool) : fmtL p [] q = p := by unfold fmtL; rw [if_pos rfl]
theorem fmtL_marked {p v : List Nat} {q : Bool} (hv : v ≠ []) (h : markB v q = true) : fmtL p v q = p ++ 61 :: 34 :: (escL v ++ [34]) := by
  unfold fmtL; unfold markB at h; rw [if_neg hv, if_pos h]
theorem fmtL_bare {p v : List Nat} {q : Bool} (hv : v ≠ []) (h : markB v q = false) : fmtL p v q = p ++ 61 :: v := by
  unfold fmtL; rw [if_neg hv, if_neg (by rw [show (q || v.any fun c => sixteen.contains c) = false from h]; exact Bool.false_ne_true)]
theorem tok_marked (v : List Nat) : tok (34 :: (escL v ++ [34])) = [34] :: (escT (tok v) ++ [[34]]) := by
  rw [tok_cons_ne (by decide), tok_append_ne (by decide), tok_escL, tok_nil]
theorem inner_due (w g : List Nat) (qw qg : Bool) : mtB (tok (fmtL [107] w qw)) (fmtL [107] g qg) = dueB w g (!markB w qw) (!markB g qg) := by
  unfold dueB
  by_cases hw : w = []
  · subst hw
    rw [if_pos (.inl rfl), fmtL_nil, tok_cons_ne (by decide), tok_nil]
    symm
    apply mtB_of
    rw [decide_eq_true_iff]
    by_cases hg : g = []
    · subst hg
      rw [fmtL_nil, mt_one_cons]
      exact ⟨fun _ => ⟨rfl, rfl⟩, fun _ => rfl⟩
    · constructor
      · intro h; exact absurd h.symm hg
      · intro h
        exfalso
        cases hm : markB g qg with
        | true => rw [fmtL_marked hg hm] at h; have := ((mt_one_cons _ _ _ _).mp h).2; cases this
        | false => rw [fmtL_bare hg hm] at h; have := ((mt_one_cons _ _ _ _).mp h).2; cases this
  by_cases hg : g = []
  · subst hg
    rw [if_pos (.inr rfl), fmtL_nil, decide_eq_false hw]
    rw [mtB_false]
    intro h
    cases hm : markB w qw with
    | true =>
      rw [fmtL_marked hw hm, show [107] ++ 61 :: 34 :: (escL w ++ [34]) = 107 :: 61 :: 34 :: (escL w ++ [34]) from rfl, tok_cons_ne (by decide), tok_cons_ne (by decide), mt_one_cons] at h
      obtain ⟨r, e, _⟩ := (mt_one _ _ _).mp h.2
      cases e
    | false =>
      rw [fmtL_bare hw hm, show [107] ++ 61 :: w = 107 :: 61 :: w from rfl, tok_cons_ne (by decide), tok_cons_ne (by decide), mt_one_cons] at h
      obtain ⟨r, e, _⟩ := (mt_one _ _ _).mp h.2
      cases e
  rw [if_neg (by rintro (h | h); exact hw h; exact hg h)]
  cases hmw : markB w qw with
  | true =>
    rw [fmtL_marked hw hmw, show [107] ++ 61 :: 34 :: (escL w ++ [34]) = 107 :: 61 :: 34 :: (escL w ++ [34]) from rfl, tok_cons_ne (by decide), tok_cons_ne (by decide), tok_marked]
    cases hmg : markB g qg with
    | true =>
      rw [fmtL_marked hg hmg, show [107] ++ 61 :: 34 :: (escL g ++ [34]) = 107 :: 61 :: 34 :: (escL g ++ [34]) from rfl, if_pos (by rfl)]
      apply mtB_congr
      rw [mt_one_cons, mt_one_cons, mt_one_cons, mt_snoc_same, mt_esc (tok_toks w)]
      exact ⟨fun h => h.2.2.2, fun h => ⟨rfl, rfl, rfl, h⟩⟩
    | false =>
      rw [fmtL_bare hg hmg, show [107] ++ 61 :: g = 107 :: 61 :: g from rfl, if_neg (by decide)]
      rw [Bool.not_true, Bool.and_false, Bool.false_and, mtB_false, mt_one_cons, mt_one_cons]
      rintro ⟨_, _, h⟩
      obtain ⟨r, e, _⟩ := (mt_one _ _ _).mp h
      exact (unmarked hmg 34 (by rw [e]; exact List.mem_cons_self)).1 rfl
  | false =>
    rw [fmtL_bare hw hmw, show [107] ++ 61 :: w = 107 :: 61 :: w from rfl, tok_cons_ne (by decide), tok_cons_ne (by decide)]
    cases hmg : markB g qg with
    | true =>
      rw [fmtL_marked hg hmg, show [107] ++ 61 :: 34 :: (escL g ++ [34]) = 107 :: 61 :: 34 :: (escL g ++ [34]) from rfl, if_neg (by decide)]
      symm
      apply mtB_of
      rw [mt_one_cons, mt_one_cons, mt_quote_front (tok_toks w) (noQ_of hmw), mt_quote_back (tok_toks w) (noQ_of hmw)]
      have he : mt (tok w) (escL g) ↔ mt (tok w) g := by
        have := mt_esc (tok_toks w) g
        rw [escT_noQ (noQ_of hmw)] at this
        exact this
      rw [he]
      unfold edgeB
      simp only [Bool.not_false, Bool.and_true, Bool.and_eq_true, decide_eq_true_iff, mtB_true]
      exact ⟨fun h => ⟨trivial, trivial, h.2.1, h.2.2, h.1⟩, fun h => ⟨h.2.2.2.2, h.2.2.1, h.2.2.2.1⟩⟩
    | false =>
      rw [fmtL_bare hg hmg, show [107] ++ 61 :: g = 107 :: 61 :: g from rfl, if_pos (by rfl)]
      apply mtB_congr
      rw [mt_one_cons, mt_one_cons]
      exact ⟨fun h => h.2.2, fun h => ⟨rfl, rfl, h⟩⟩
theorem outer_inner {a b : List Nat} (ha : a ≠ []) (hb : b ≠ []) : mtB (tok (fmtL [76, 95, 109] a true)) (fmtL [76, 95, 109] b true) = mtB (tok a) b := by
  rw [fmtL_marked ha rfl, fmtL_marked hb rfl]
  rw [show [76, 95, 109] ++ 61 :: 34 :: (escL a ++ [34]) = 76 :: 95 :: 109 :: 61 :: 34 :: (escL a ++ [34]) from rfl, show [76, 95, 109] ++ 61 :: 34 :: (escL b ++ [34]) = 76 :: 95 :: 109 :: 61 :: 34 :: (escL b ++ [34]) from rfl]
  rw [tok_cons_ne (by decide), tok_cons_ne (by decide), tok_cons_ne (by decide), tok_cons_ne (by decide), tok_marked]
  apply mtB_congr
  rw [mt_one_cons, mt_one_cons, mt_one_cons, mt_one_cons, mt_one_cons, mt_snoc_same, mt_esc (tok_toks a)]
  exact ⟨fun h => h.2.2.2.2.2, fun h => ⟨rfl, rfl, rfl, rfl, rfl, h⟩⟩
theorem fmtL_ne (v : List Nat) (q : Bool) : fmtL [107] v q ≠ [] := by
  unfold fmtL
  split
  · simp
  · split <;> simp
theorem bare_eq {w : List Nat} (hw : w ≠ []) (q : Bool) : decide (((fmtL [107] w q).drop 2).take 1 = [34]) = markB w q := by
  cases hm : markB w q with
  | true => rw [fmtL_marked hw hm]; simp
  | false =>
    rw [fmtL_bare hw hm, decide_eq_false_iff_not]
    cases w with
    | nil => exact absurd rfl hw
    | cons c r =>
      intro h
      have : c = 34 := by simpa using h
      exact (unmarked hm c List.mem_cons_self).1 this
end
end Mine
namespace Mine
section
open PySem
set_option maxRecDepth 100000
theorem join_take_prefix (ys : List Str) {j N : Nat} (h : j ≤ N) :
    (Txt.join (Str.ofString "") (ys.take j)).cps.toList = (Txt.join (Str.ofString "") (ys.take N)).cps.toList.take (Txt.join (Str.ofString "") (ys.take j)).length ∧
    (Txt.join (Str.ofString "") (ys.take j)).length ≤ (Txt.join (Str.ofString "") (ys.take N)).length := by
  have e : ys.take N = ys.take j ++ (ys.take N).drop j := by
    have := (List.take_append_drop j (ys.take N)).symm
    rw [List.take_take, Nat.min_eq_left h] at this
    exact this
  rw [join_nil, join_nil, e, List.flatMap_append]
  show (List.toArray _).toList = (List.toArray _).toList.take (List.toArray _).size ∧ (List.toArray _).size ≤ (List.toArray _).size
  simp only [List.size_toArray]
  refine ⟨?_, by rw [List.length_append]; omega⟩
  rw [List.take_left]
theorem plain_eq {G : List Nat} {ts : List (List Nat)} (ht : Toks ts) {y : List Nat} (hp : y = G.take y.length) (hl : y.length ≤ G.length) :
    decide (((y.length : Nat) : Int) ∈ (endsF G ts).map fun n : Nat => (n : Int)) = mtB ts y := by
  rw [Bool.eq_iff_iff, decide_eq_true_iff, mtB_true]
  have h := (endsF_ok G ts ht).2 y.length
  rw [← hp] at h
  constructor
  · intro hm
    obtain ⟨n, hn, e⟩ := List.mem_map.mp hm
    have e' : n = y.length := Int.ofNat.inj e
    rw [e'] at hn
    exact (h.mp hn).2
  · intro hm
    exact List.mem_map.mpr ⟨y.length, h.mpr ⟨hl, hm⟩, rfl⟩
theorem nil_of (x : Str) : (x == Str.ofString "") = decide (x.cps.toList = []) := by
  rw [Bool.eq_iff_iff, beq_iff_eq, decide_eq_true_iff]
  constructor
  · rintro rfl; decide
  · intro h
    refine Str.ext' ?_
    apply Array.toList_inj.mp
    rw [h]
    decide
theorem str_eq_list (x y : Str) : (x == y) = decide (x.cps.toList = y.cps.toList) := by
  rw [Bool.eq_iff_iff, beq_iff_eq, decide_eq_true_iff]
  exact ⟨fun h => by rw [h], fun h => Str.ext' (Array.toList_inj.mp h)⟩
theorem due_eq (x y : Str) (qw qg : Bool) (bare free : Bool) (hb : x.cps.toList ≠ [] → bare = !markB x.cps.toList qw) (hf : y.cps.toList ≠ [] → free = !markB y.cps.toList qg) :
    (if x == Str.ofString "" || y == Str.ofString "" then x == y else if bare == free then mtB (tok x.cps.toList) y.cps.toList else mtB (tok x.cps.toList) y.cps.toList && bare && edgeB (tok x.cps.toList)) =
      mtB (tok (fmtL [107] x.cps.toList qw)) (fmtL [107] y.cps.toList qg) := by
  rw [inner_due, nil_of, nil_of, str_eq_list]
  unfold dueB
  by_cases hx : x.cps.toList = []
  · rw [if_pos (by rw [decide_eq_true hx]; rfl), if_pos (.inl hx)]
  by_cases hy : y.cps.toList = []
  · rw [if_pos (by rw [decide_eq_true hy, Bool.or_true]), if_pos (.inr hy)]
  have h1 : ¬ ((decide (x.cps.toList = []) || decide (y.cps.toList = [])) = true) := by rw [decide_eq_false hx, decide_eq_false hy]; exact Bool.false_ne_true
  have h2 : ¬ (x.cps.toList = [] ∨ y.cps.toList = []) := by rintro (h | h); exact hx h; exact hy h
  rw [if_neg h1, if_neg h2, hb hx, hf hy]
theorem slice_third (v : Str) : (Txt.slice v (some 2) (some 3)).cps.toList = (v.cps.toList.drop 2).take 1 := by
  have h := slice_nat v (a := 2) (b := 3) (by decide)
  have h' : Txt.slice v (some 2) (some 3) = ⟨((v.cps.toList.drop 2).take 1).toArray⟩ := h
  rw [h']
theorem bare_of_slice {x v : Str} {q : Bool} (hv : v.cps.toList = fmtL [107] x.cps.toList q) (hx : x.cps.toList ≠ []) : (Txt.slice v (some 2) (some 3) != Str.ofString "\"") = !markB x.cps.toList q := by
  have e : (Str.ofString "\"").cps.toList = [34] := by decide
  rw [bne, str_eq_list, slice_third, hv, e, bare_eq hx]
theorem fmtF_inner (x : Str) (q : Bool) : (fmtF (Str.ofString "k") x q).cps.toList = fmtL [107] x.cps.toList q := by
  rw [fmtF_list]; rfl
theorem fmtF_outer (x : Str) (q : Bool) : (fmtF (Str.ofString "L_m") (fmtF (Str.ofString "k") x q) true).cps.toList = fmtL [76, 95, 109] (fmtL [107] x.cps.toList q) true := by
  rw [fmtF_list, fmtF_inner]; rfl
theorem law_inner (x y : Str) (qw qg : Bool) : mtB (tok (fmtF (Str.ofString "k") x qw).cps.toList) (fmtF (Str.ofString "k") y qg).cps.toList =
    (if x == Str.ofString "" || y == Str.ofString "" then x == y else if (Txt.slice (fmtF (Str.ofString "k") x qw) (some 2) (some 3) != Str.ofString "\"") == (Txt.slice (fmtF (Str.ofString "k") y qg) (some 2) (some 3) != Str.ofString "\"") then mtB (tok x.cps.toList) y.cps.toList
      else mtB (tok x.cps.toList) y.cps.toList && (Txt.slice (fmtF (Str.ofString "k") x qw) (some 2) (some 3) != Str.ofString "\"") && edgeB (tok x.cps.toList)) := by
  rw [due_eq x y qw qg _ _ (bare_of_slice (fmtF_inner x qw)) (bare_of_slice (fmtF_inner y qg)), fmtF_inner, fmtF_inner]
theorem law_outer (x y : Str) (qw qg : Bool) : mtB (tok (fmtF (Str.ofString "L_m") (fmtF (Str.ofString "k") x qw) true).cps.toList) (fmtF (Str.ofString "L_m") (fmtF (Str.ofString "k") y qg) true).cps.toList =
    mtB (tok (fmtF (Str.ofString "k") x qw).cps.toList) (fmtF (Str.ofString "k") y qg).cps.toList := by
  rw [fmtF_outer, fmtF_outer, outer_inner (fmtL_ne _ _) (fmtL_ne _ _), fmtF_inner, fmtF_inner]
end
end Mine
namespace Mine
section
open PySem PySem.W PyProof.Rows
set_option maxRecDepth 100000
set_option maxHeartbeats 1000000
theorem pick_upto (vs : List Value) (n : Nat) : slicePick vs.toArray none (some (n : Int)) none = (vs.take n).toArray := by
  have e : sliceBounds none (some (n : Int)) none vs.toArray.size = (((0 : Nat) : Int), ((min n vs.toArray.size : Nat) : Int), 1) := by
    simp only [sliceBounds, Option.getD_none, show (1 : Int) > 0 by decide, if_true, if_neg (show ¬ ((n : Int) < 0) by omega)]
    congr 1
    congr 1
    omega
  rw [kmk_pick_nat _ e, List.drop_zero, Nat.sub_zero, List.size_toArray, kmk_take_min]
theorem pick_last (vs : List Value) : slicePick vs.toArray (some (-1)) none none = (vs.drop (vs.length - 1)).toArray := by
  have e : sliceBounds (some (-1)) none none vs.toArray.size = (((vs.length - 1 : Nat) : Int), ((vs.length : Nat) : Int), 1) := by
    simp only [sliceBounds, Option.getD_none, show (1 : Int) > 0 by decide, if_true, if_pos (show ((-1 : Int) < 0) by decide), List.size_toArray]
    congr 1
    omega
  rw [kmk_pick_nat _ e]
  show ((vs.drop (vs.length - 1)).take (vs.length - (vs.length - 1))).toArray = _
  rw [List.take_of_length_le (by rw [List.length_drop]; omega)]
section
variable {prog : Program} {w : World} {A : Around} {E : Value → Shared → Prop} {s : Shared} {h₀ : Heap} {L : Addr} {m : Str → Option Value} {news : List (Addr × Obj)}
theorem slice_upto {value slice : Expr} {l : Addr} {vs : List Value} {c n : Nat} {y : Int} {t : Tok} {Q : Value → Shared → Prop} (F : Fr h₀ L s.heap m) (N : News h₀ L s.heap news) (hm : (l, listOf vs.toArray c) ∈ news) (hy : y = (n : Int)) (hz : vs.length ≤ 100000)
    (h : ∀ D h', Fr h₀ L h' m → News h₀ L h' ((D, listOf (vs.take n).toArray 0) :: news) → (∀ p ∈ news, p.1 < D) → Q (.ref D) { s with heap := h' })
    (hs : subscripted slice false (.ref l) (.ref s.heap.objs.size) = operate [.ref s.heap.objs.size, .ref l] (getItem (.ref l) (.ref s.heap.objs.size)) := by with_unfolding_all rfl) (ht : ∀ r, letTemporaryGo value (.ref l) r = pure () := by intro _; with_unfolding_all rfl) :
    wpAny (model prog w) A (subscriptTail value slice (.ref l) (.ref s.heap.objs.size)) Q E { s with heap := s.heap.push { cls := .type "slice", data := .fields #[.none, .int y t, .none] } } := by
  subst hy
  refine kmk_slice F N (News.isList N hm) IsPart.none (IsPart.int _ _) (fun D h' F' N' l1 => h D h' F' ?_ l1) hs ht (by rw [sizeLine_eq, List.size_toArray]; omega)
  rw [pick_upto] at N'
  exact N'
theorem slice_last {value slice : Expr} {l : Addr} {vs : List Value} {c : Nat} {t : Tok} {Q : Value → Shared → Prop} (F : Fr h₀ L s.heap m) (N : News h₀ L s.heap news) (hm : (l, listOf vs.toArray c) ∈ news) (hz : vs.length ≤ 100000)
    (h : ∀ D h', Fr h₀ L h' m → News h₀ L h' ((D, listOf (vs.drop (vs.length - 1)).toArray 0) :: news) → (∀ p ∈ news, p.1 < D) → Q (.ref D) { s with heap := h' })
    (hs : subscripted slice false (.ref l) (.ref s.heap.objs.size) = operate [.ref s.heap.objs.size, .ref l] (getItem (.ref l) (.ref s.heap.objs.size)) := by with_unfolding_all rfl) (ht : ∀ r, letTemporaryGo value (.ref l) r = pure () := by intro _; with_unfolding_all rfl) :
    wpAny (model prog w) A (subscriptTail value slice (.ref l) (.ref s.heap.objs.size)) Q E { s with heap := s.heap.push { cls := .type "slice", data := .fields #[.int (-1) t, .none, .none] } } := by
  refine kmk_slice F N (News.isList N hm) (IsPart.int _ _) IsPart.none (fun D h' F' N' l1 => h D h' F' ?_ l1) hs ht (by rw [sizeLine_eq, List.size_toArray]; omega)
  rw [pick_last] at N'
  exact N'
theorem in_ints {l : Addr} {vs : List Value} {ns : List Int} {x : Int} {t : Tok} {Q : Value → Shared → Prop} (hl : s.heap.IsList l vs.toArray) (hi : IntsAre vs ns) (h : Q (.bool (decide (x ∈ ns))) s) :
    wpAny (model prog w) A (compareOp .In (.int x t) (.ref l)) Q E s := by
  refine PySem.SeqAt.in_listAt (fun y => match y with | .int a _ => a == x | _ => false) hl (fun y hy => ?_) ?_
  · obtain ⟨j, hj⟩ := List.mem_iff_getElem?.mp (by simpa using hy : y ∈ vs)
    obtain ⟨a, u, rfl, _⟩ := IntsAre.at hi j y hj
    exact SeqAt.EqAt.int_int a u x t
  · have e : (vs.toArray.any fun y => match y with | .int a _ => a == x | _ => false) = decide (x ∈ ns) := by
      rw [List.any_toArray]
      clear h hl
      induction hi with
      | nil => rfl
      | cons n u _ ih =>
        rw [List.any_cons, ih]
        by_cases e : n = x
        · subst e; simp
        · have e' : ¬ x = n := fun q => e q.symm
          simp [e, e']
    rw [e]
    exact h
theorem eq_dots {l b : Addr} {ts : List (List Nat)} {tl : List (Str × Tok)} {u : Tok} {Q : Value → Shared → Prop} (hl : s.heap.IsList l (strValues tl).toArray) (hb : s.heap.IsList b #[.str (Str.ofString "...") u]) (ht : tl.map (·.1) = ts.map strOf) (hu : A.units < cLine) (h : Q (.bool (decide (ts = [D3]))) s) :
    wpAny (model prog w) A (compareOp .Eq (.ref l) (.ref b)) Q E s := by
  have hlen : tl.length = ts.length := by have := congrArg List.length ht; simpa using this
  by_cases h1 : ts.length = 1
  · obtain ⟨t0, rfl⟩ := List.length_eq_one_iff.mp h1
    obtain ⟨⟨x0, u0⟩, rfl⟩ := List.length_eq_one_iff.mp (hlen.trans h1)
    have hx : x0 = strOf t0 := by simpa using ht
    have e : decide ([t0] = [D3]) = (x0 == Str.ofString "...") := by
      rw [hx, ← dots_strOf, Bool.eq_iff_iff, decide_eq_true_iff, beq_iff_eq]
      constructor
      · intro q; rw [List.cons.inj q |>.1]
      · intro q; rw [strOf_inj q]
    rw [e] at h
    refine PySem.SeqAt.eq_listAt (e := fun _ => x0 == Str.ofString "...") hl hb rfl hu (fun j h1 h2 => ?_) ?_
    · have : j = 0 := by have : j < 1 := h2; omega
      subst this
      exact SeqAt.EqAt.str_str _ _ _ _
    · have e2 : ((List.range (strValues [(x0, u0)]).toArray.size).all fun _ => x0 == Str.ofString "...") = (x0 == Str.ofString "...") := by
        show ((List.range 1).all fun _ => x0 == Str.ofString "...") = _
        simp
      rw [e2]
      exact h
  · refine PySem.SeqAt.eq_list_lengthsAt hl hb ?_ hu ?_
    · rw [List.size_toArray, strValues_len, hlen]
      show (ts.length != 1) = true
      simpa using h1
    · rw [decide_eq_false (fun q => h1 (by rw [q]; rfl))] at h
      exact h
theorem item_neg1 {value slice : Expr} {l : Addr} {v : Value} {vs : List Value} {c : Nat} {u : Tok} {Q : Value → Shared → Prop} (N : News h₀ L s.heap news) (hm : (l, listOf vs.toArray c) ∈ news) (hz : vs.length ≤ 10000) (hv : vs.getLast? = some v) (h : Q v s)
    (hs : subscripted slice false (.ref l) (.int (-1) u) = operate [.ref l, .int (-1) u] (getItem (.ref l) (.int (-1) u)) := by with_unfolding_all rfl) :
    wpAny (model prog w) A (subscriptTail value slice (.ref l) (.int (-1) u)) Q E s := by
  have hne : vs ≠ [] := by rintro rfl; cases hv
  have e : vs = vs.dropLast ++ [v] := by
    rw [List.getLast?_eq_some_getLast hne] at hv
    rw [← Option.some.inj hv, List.dropLast_concat_getLast hne]
  rw [e] at hm
  exact item_last N hm (by rw [List.length_dropLast]; omega) h hs
end
theorem head_take {ts : List (List Nat)} : decide (ts.take 1 = [D3]) = decide (ts.head? = some D3) := by
  cases ts with
  | nil => rfl
  | cons t r => simp
theorem last_drop {ts : List (List Nat)} : decide (ts.drop (ts.length - 1) = [D3]) = decide (ts.getLast? = some D3) := by
  rcases List.eq_nil_or_concat ts with rfl | ⟨r, t, rfl⟩
  · rfl
  · rw [List.concat_eq_append, List.length_append, List.length_singleton, Nat.add_sub_cancel, List.drop_left, List.getLast?_concat]
    simp
def LawJ (m₀ : Str → Option Value) (news₀ : List (Addr × Obj)) (_n : Nat) (m₁ : Str → Option Value) (news₁ : List (Addr × Obj)) : Prop :=
  news₁ = news₀ ∧ ∃ u : Str → Option Value, m₁ = fun z => if z = Str.ofString "i" then u z else if z = Str.ofString "tokens" then u z else if z = Str.ofString "ends" then u z else if z = Str.ofString "edge" then u z else if z = Str.ofString "bare" then u z else
    if z = Str.ofString "j" then u z else if z = Str.ofString "plain" then u z else if z = Str.ofString "free" then u z else if z = Str.ofString "due" then u z else m₀ z
theorem lawJ_of {m₀ m₁ : Str → Option Value} {news : List (Addr × Obj)} {n : Nat} (h : ∀ z, z ≠ Str.ofString "i" → z ≠ Str.ofString "tokens" → z ≠ Str.ofString "ends" → z ≠ Str.ofString "edge" → z ≠ Str.ofString "bare" → z ≠ Str.ofString "j" → z ≠ Str.ofString "plain" → z ≠ Str.ofString "free" → z ≠ Str.ofString "due" → m₁ z = m₀ z) : LawJ m₀ news n m₁ news := by
  refine ⟨rfl, m₁, funext fun z => ?_⟩
  by_cases h1 : z = Str.ofString "i"
  · rw [if_pos h1]
  by_cases h2 : z = Str.ofString "tokens"
  · rw [if_neg h1, if_pos h2]
  by_cases h3 : z = Str.ofString "ends"
  · rw [if_neg h1, if_neg h2, if_pos h3]
  by_cases h4 : z = Str.ofString "edge"
  · rw [if_neg h1, if_neg h2, if_neg h3, if_pos h4]
  by_cases h5 : z = Str.ofString "bare"
  · rw [if_neg h1, if_neg h2, if_neg h3, if_neg h4, if_pos h5]
  by_cases h6 : z = Str.ofString "j"
  · rw [if_neg h1, if_neg h2, if_neg h3, if_neg h4, if_neg h5, if_pos h6]
  by_cases h7 : z = Str.ofString "plain"
  · rw [if_neg h1, if_neg h2, if_neg h3, if_neg h4, if_neg h5, if_neg h6, if_pos h7]
  by_cases h8 : z = Str.ofString "free"
  · rw [if_neg h1, if_neg h2, if_neg h3, if_neg h4, if_neg h5, if_neg h6, if_neg h7, if_pos h8]
  by_cases h9 : z = Str.ofString "due"
  · rw [if_neg h1, if_neg h2, if_neg h3, if_neg h4, if_neg h5, if_neg h6, if_neg h7, if_neg h8, if_pos h9]
  rw [if_neg h1, if_neg h2, if_neg h3, if_neg h4, if_neg h5, if_neg h6, if_neg h7, if_neg h8, if_neg h9]
  exact h z h1 h2 h3 h4 h5 h6 h7 h8 h9
def LawI (m₀ : Str → Option Value) (news₀ : List (Addr × Obj)) (_n : Nat) (m₁ : Str → Option Value) (news₁ : List (Addr × Obj)) : Prop :=
  news₁ = news₀ ∧ ∃ u : Str → Option Value, m₁ = fun z => if z = Str.ofString "j" then u z else if z = Str.ofString "plain" then u z else if z = Str.ofString "free" then u z else if z = Str.ofString "due" then u z else m₀ z
theorem lawI_of {m₀ m₁ : Str → Option Value} {news : List (Addr × Obj)} {n : Nat} (h : ∀ z, z ≠ Str.ofString "j" → z ≠ Str.ofString "plain" → z ≠ Str.ofString "free" → z ≠ Str.ofString "due" → m₁ z = m₀ z) : LawI m₀ news n m₁ news := by
  refine ⟨rfl, m₁, funext fun z => ?_⟩
  by_cases h6 : z = Str.ofString "j"
  · rw [if_pos h6]
  by_cases h7 : z = Str.ofString "plain"
  · rw [if_neg h6, if_pos h7]
  by_cases h8 : z = Str.ofString "free"
  · rw [if_neg h6, if_neg h7, if_pos h8]
  by_cases h9 : z = Str.ofString "due"
  · rw [if_neg h6, if_neg h7, if_neg h8, if_pos h9]
  rw [if_neg h6, if_neg h7, if_neg h8, if_neg h9]
  exact h z h6 h7 h8 h9
end
end Mine
namespace Mine
section
open PySem PySem.W PyProof.Rows
set_option maxRecDepth 100000
set_option maxHeartbeats 1000000
def PairsAre (ys : List Value) (ps : List (Str × Str)) (nw : List (Addr × Obj)) : Prop :=
  ys.length = ps.length ∧ ∀ (j : Nat) (xy : Str × Str), ps[j]? = some xy → ∃ (p : Addr) (tx ty : Tok), ys[j]? = some (Value.ref p) ∧ (p, tupObj [.str xy.1 tx, .str xy.2 ty]) ∈ nw ∧ xy.1.length ≤ 3 ∧ xy.2.length ≤ 3
def PairsK (base : List (Addr × Obj)) (cell : Addr) (i : Nat) (ys : List Value) (nw : List (Addr × Obj)) : Prop :=
  ∃ (ps : List (Str × Str)) (tups : List (Addr × Obj)), ps.length = i ∧ (∀ p ∈ base, p ∈ nw) ∧ (∀ p ∈ tups, p ∈ nw ∧ p.1 ≠ cell) ∧ PairsAre ys ps tups
theorem pairsAre_snoc {ys : List Value} {ps : List (Str × Str)} {nw : List (Addr × Obj)} {p : Addr} {x y : Str} {tx ty : Tok} (h : PairsAre ys ps nw) (hx : x.length ≤ 3) (hy : y.length ≤ 3) :
    PairsAre (ys ++ [.ref p]) (ps ++ [(x, y)]) ((p, tupObj [.str x tx, .str y ty]) :: nw) := by
  obtain ⟨h1, h2⟩ := h
  refine ⟨by rw [List.length_append, List.length_append, h1]; rfl, fun j xy hj => ?_⟩
  by_cases e : j < ps.length
  · rw [List.getElem?_append_left e] at hj
    obtain ⟨q, t1, t2, e1, e2, e3⟩ := h2 j xy hj
    exact ⟨q, t1, t2, by rw [List.getElem?_append_left (by omega)]; exact e1, List.mem_cons_of_mem _ e2, e3⟩
  · rw [List.getElem?_append_right (by omega)] at hj
    have h0 : j - ps.length = 0 := by
      rcases Nat.eq_zero_or_pos (j - ps.length) with h | h
      · exact h
      · rw [List.getElem?_eq_none (by simp; omega)] at hj; cases hj
    rw [h0] at hj
    cases hj
    exact ⟨p, tx, ty, by rw [List.getElem?_append_right (by omega), h1, h0]; rfl, List.mem_cons_self, hx, hy⟩
theorem pairsK_start {h₀ h : Heap} {L D cell : Addr} {o oc : Obj} (_N : News h₀ L h [(D, o), (cell, oc)]) : PairsK [(D, o), (cell, oc)] cell 0 [] [(D, o), (cell, oc)] :=
  ⟨[], [], rfl, fun _ hp => hp, fun _ hp => (nomatch hp), rfl, fun _ _ h => (nomatch h)⟩
theorem pairsK_turn {base : List (Addr × Obj)} {cell : Addr} {oc : Obj} {i : Nat} {ys : List Value} {nw : List (Addr × Obj)} {p : Addr} {x y : Str} {tx ty : Tok} (hc : (cell, oc) ∈ base) (h : PairsK base cell i ys nw) (hx : x.length ≤ 3) (hy : y.length ≤ 3) (hl : ∀ q ∈ nw, q.1 < p) :
    PairsK base cell (i + 1) (ys ++ [.ref p]) ((p, tupObj [.str x tx, .str y ty]) :: nw) := by
  obtain ⟨ps, tups, h1, h2, h3, h4⟩ := h
  refine ⟨ps ++ [(x, y)], (p, tupObj [.str x tx, .str y ty]) :: tups, by rw [List.length_append, h1]; rfl, fun q hq => List.mem_cons_of_mem _ (h2 q hq), fun q hq => ?_, pairsAre_snoc h4 hx hy⟩
  rcases List.mem_cons.mp hq with rfl | hq
  · exact ⟨List.mem_cons_self, Nat.ne_of_gt (hl _ (h2 _ hc))⟩
  · exact ⟨List.mem_cons_of_mem _ (h3 q hq).1, (h3 q hq).2⟩
theorem pairs_pack {h₀ h : Heap} {L D1 cell P T1 T2 : Addr} {o1 oc : Obj} {n : Nat} {ys : List Value} {nw all : List (Addr × Obj)} {t1 t2 t3 t4 : Tok} (K : PairsK [(D1, o1), (cell, oc)] cell n ys nw) (hn : n ≤ 5)
    (N : News h₀ L h ((P, listOf (ys ++ [Value.ref T1, Value.ref T2]).toArray 0) :: all)) (h1 : (T1, tupObj [.str (Str.ofString "...") t1, .str (Str.ofString "a") t2]) ∈ all) (h2 : (T2, tupObj [.str (Str.ofString "\\") t3, .str (Str.ofString "\\") t4]) ∈ all) (hs : ∀ p ∈ nw, p ∈ all)
    (l : ∀ p ∈ all, p.1 < P) (l1 : ∀ p ∈ nw, p.1 < T1) (l2 : ∀ p ∈ nw, p.1 < T2) :
    ∃ pv ps tups, News h₀ L h ((P, listOf (List.toArray pv) 0) :: (cell, oc) :: tups) ∧ PairsAre pv ps tups ∧ (∀ p ∈ tups, p.1 ≠ cell) ∧ (@Ne Nat P cell) ∧ ps.length ≤ 7 := by
  obtain ⟨ps, tups, e1, e2, e3, e4⟩ := K
  have hc : (cell, oc) ∈ nw := e2 _ (List.mem_cons_of_mem _ List.mem_cons_self)
  have a1 := pairsAre_snoc (p := T1) (tx := t1) (ty := t2) e4 (x := Str.ofString "...") (y := Str.ofString "a") (by decide) (by decide)
  have a2 := pairsAre_snoc (p := T2) (tx := t3) (ty := t4) a1 (x := Str.ofString "\\") (y := Str.ofString "\\") (by decide) (by decide)
  rw [List.append_assoc] at a2
  refine ⟨_, _, _, fun p hp => N p ?_, a2, fun p hp => ?_, Nat.ne_of_gt (l _ (hs _ hc)), by simp only [List.length_append, List.length_singleton]; omega⟩
  · rcases List.mem_cons.mp hp with rfl | hp
    · exact List.mem_cons_self
    refine List.mem_cons_of_mem _ ?_
    rcases List.mem_cons.mp hp with rfl | hp
    · exact hs _ hc
    rcases List.mem_cons.mp hp with rfl | hp
    · exact h2
    rcases List.mem_cons.mp hp with rfl | hp
    · exact h1
    exact hs _ (e3 p hp).1
  · rcases List.mem_cons.mp hp with rfl | hp
    · exact Nat.ne_of_gt (l2 _ hc)
    rcases List.mem_cons.mp hp with rfl | hp
    · exact Nat.ne_of_gt (l1 _ hc)
    exact (e3 p hp).2
theorem pairs_short {pv : List Value} {ps : List (Str × Str)} {nw : List (Addr × Obj)} (h : PairsAre pv ps nw) : (∀ x ∈ ps.map (·.1), x.length ≤ 3) ∧ (∀ x ∈ ps.map (·.2), x.length ≤ 3) := by
  refine ⟨fun x hx => ?_, fun x hx => ?_⟩
  · obtain ⟨xy, hm, rfl⟩ := List.mem_map.mp hx
    obtain ⟨j, hj⟩ := List.mem_iff_getElem?.mp hm
    obtain ⟨_, _, _, _, _, h1, _⟩ := h.2 j xy hj
    exact h1
  · obtain ⟨xy, hm, rfl⟩ := List.mem_map.mp hx
    obtain ⟨j, hj⟩ := List.mem_iff_getElem?.mp hm
    obtain ⟨_, _, _, _, _, _, h1⟩ := h.2 j xy hj
    exact h1
theorem sum_short : ∀ {xs : List Str}, (∀ x ∈ xs, x.length ≤ 3) → (xs.map (·.length)).sum ≤ 3 * xs.length
  | [], _ => Nat.zero_le _
  | x :: r, h => by
    have h1 := h x List.mem_cons_self
    have h2 := sum_short (xs := r) fun y hy => h y (List.mem_cons_of_mem _ hy)
    rw [List.map_cons, List.sum_cons, List.length_cons]
    omega
theorem short_join {xs : List Str} (h : ∀ x ∈ xs, x.length ≤ 3) (h7 : xs.length ≤ 7) (n : Nat) : JoinOk (Str.ofString "") (xs.take n) = true := by
  refine joinOk_nil _ (Nat.le_trans (sum_short fun x hx => h x (List.mem_of_mem_take hx)) ?_)
  have := List.length_take_le' n xs
  omega
theorem take_take_min {α : Type} (xs : List α) (n k : Nat) (h : k = min n xs.length) : (xs.take n).take k = xs.take n := by
  rw [List.take_of_length_le]
  rw [List.length_take]; omega
theorem pairs_get {pv : List Value} {ps : List (Str × Str)} {nw : List (Addr × Obj)} (h : PairsAre pv ps nw) {n i : Nat} {v : Value} (hv : (pv.take n)[i]? = some v) :
    ∃ (p : Addr) (x y : Str) (tx ty : Tok), v = .ref p ∧ (p, tupObj [.str x tx, .str y ty]) ∈ nw ∧ ((ps.map (·.1)).take n).take (i + 1) = ((ps.map (·.1)).take n).take i ++ [x] ∧ ((ps.map (·.2)).take n).take (i + 1) = ((ps.map (·.2)).take n).take i ++ [y] := by
  have hi : i < n := by
    rcases Nat.lt_or_ge i n with h | h
    · exact h
    · rw [List.getElem?_eq_none (by rw [List.length_take]; omega)] at hv; cases hv
  rw [List.getElem?_take_of_lt hi] at hv
  have hlt : i < ps.length := by
    rcases Nat.lt_or_ge i pv.length with h' | h'
    · rw [h.1] at h'; exact h'
    · rw [List.getElem?_eq_none h'] at hv; cases hv
  obtain ⟨p, tx, ty, e1, e2, _⟩ := h.2 i ps[i] (List.getElem?_eq_getElem hlt)
  rw [hv] at e1
  refine ⟨p, ps[i].1, ps[i].2, tx, ty, Option.some.inj e1, e2, ?_, ?_⟩
  · rw [List.take_add_one, List.getElem?_take_of_lt hi, List.getElem?_map, List.getElem?_eq_getElem hlt]; rfl
  · rw [List.take_add_one, List.getElem?_take_of_lt hi, List.getElem?_map, List.getElem?_eq_getElem hlt]; rfl
theorem join_len (xs : List Str) : (Txt.join (Str.ofString "") xs).length = (xs.map (·.length)).sum := by
  rw [join_nil]
  show (List.toArray _).size = _
  rw [List.size_toArray, List.length_flatMap]
  congr 1
theorem texts_short {xl : List (Str × Tok)} {xs : List Str} {n : Nat} (h : xl.map (·.1) = (List.range n).map fun k => Txt.join (Str.ofString "") (xs.take k)) (hs : ∀ x ∈ xs, x.length ≤ 3) (h7 : xs.length ≤ 7) : xl.length = n ∧ ∀ x ∈ xl.map (·.1), x.length ≤ 21 := by
  refine ⟨?_, fun x hx => ?_⟩
  · have := congrArg List.length h
    simpa using this
  · rw [h] at hx
    obtain ⟨k, _, rfl⟩ := List.mem_map.mp hx
    rw [join_len]
    have h1 := sum_short (xs := xs.take k) fun x hx => hs x (List.mem_of_mem_take hx)
    have := List.length_take_le' k xs
    omega
theorem range_snoc {α : Type} (f : Nat → α) (i : Nat) : (List.range (i + 1)).map f = (List.range i).map f ++ [f i] := by
  rw [List.range_succ, List.map_append]; rfl
theorem strValues_snoc (l : List (Str × Tok)) (x : Str) (t : Tok) : strValues l ++ [.str x t] = strValues (l ++ [(x, t)]) := by simp [strValues]
theorem news_sub2 {h₀ h : Heap} {L : Addr} {a b : Addr × Obj} {r : List (Addr × Obj)} (N : News h₀ L h (a :: b :: r)) : News h₀ L h [a, b] := fun p hp => N p (by
  simp only [List.mem_cons, List.not_mem_nil, or_false] at hp ⊢
  rcases hp with h | h
  · exact .inl h
  · exact .inr (.inl h))
theorem news_drop1 {h₀ h : Heap} {L : Addr} {a b : Addr × Obj} {r t : List (Addr × Obj)} (N : News h₀ L h (a :: ((b :: r) ++ t))) : News h₀ L h (a :: (r ++ t)) := fun p hp => N p (by
  rw [List.cons_append]
  rcases List.mem_cons.mp hp with rfl | hp
  · exact List.mem_cons_self
  · exact List.mem_cons_of_mem _ (List.mem_cons_of_mem _ hp))
section
variable {prog : Program} {w : World} {A : Around} {E : Value → Shared → Prop} {s : Shared} {env : Env} {h₀ : Heap} {L : Addr}
theorem guard {α : Type} {x : Sem α} {Q : α → Shared → Prop} (h : ∀ PP : α → Shared → Prop, (∀ v s, Q v s → PP v s) → wpAny (model prog w) A x PP E s) : wpAny (model prog w) A x Q E s := h Q fun _ _ h => h
theorem For_G {target iter : Expr} {body : List Stmt} {pos : Pos} {mm : Str → Option Value} {Q : Flow → Shared → Prop} (F₀ : Fr h₀ L s.heap mm) (J : (Str → Option Value) → List (Addr × Obj) → Nat → (Str → Option Value) → List (Addr × Obj) → Prop)
    (h : ∀ P0 : Value → Shared → Prop, (∀ xv s₁, (∃ (r : Addr) (a b : Int) (t u v : Tok) (n : Nat) (m : Str → Option Value) (news : List (Addr × Obj)),
      xv = .ref r ∧ A.handled = none ∧ Fr h₀ L s₁.heap m ∧ News h₀ L s₁.heap news ∧ IsRange s₁.heap r a b 1 t u v ∧ Builtin.Range.small a b 1 = true ∧ Builtin.Range.rangeSize a b 1 = ((n : Nat) : Int) ∧ J m news 0 m news ∧
      (∀ I i t m₁ news₁ oI h tk, i < n → J m news i m₁ news₁ → (∀ p ∈ news₁, p.1 ≠ I) → Fr h₀ L h m₁ → News h₀ L h ((I, oI) :: news₁) →
        ∀ P1 : Flow → Shared → Prop, (∀ f s₃, ForStep h₀ L I oI (fun _ => True) (J m news (i + 1)) s₁ Q f s₃ → P1 f s₃) →
        wpAny (model prog w) A (assign target env (.int (a + (i : Int)) t)) (fun _ s₂ => wpAny (model prog w) A (execs body env) P1 E s₂) E { s₁ with heap := h, toks := tk }) ∧
      (∀ m₁ news₁ h tk, J m news n m₁ news₁ → Fr h₀ L h m₁ → News h₀ L h news₁ → Q .next { s₁ with heap := h, toks := tk })) → P0 xv s₁) → wpAny (model prog w) A (eval iter env) P0 E s)
    (ht : ∀ I v, letOwnedTupleGo target (.ref I) v = pure ())
    (hs : ∀ x, foldedSetIterable iter env x = pure x := by intro _; rfl) (hE : PassesOwn (model prog w) A env E := by passes_own) :
    wpAny (model prog w) A (exec (.For target iter body [] pos) env) Q E s := by
  refine For_R F₀ J (h _ fun xv s₁ h₁ => ?_) ht hs hE
  obtain ⟨r, a, b, t, u, v, n, m, news, e, hh, F, N, hr, hsm, hn, h0, turn, done⟩ := h₁
  exact ⟨r, a, b, t, u, v, n, m, news, e, hh, F, N, hr, hsm, hn, h0, fun I i t m₁ news₁ oI h tk hi hJ ho F₁ N₁ => turn I i t m₁ news₁ oI h tk hi hJ ho F₁ N₁ _ fun _ _ h => h, done⟩
end
theorem ends_call' {w : World} {mean : ExcName → Option Value} {mg mb : Str → Option Value} {news : List (Addr × Obj)} (T0 : Addr) (tl : List (Str × Tok)) (c0 : Nat) (ts : List (List Nat)) (g : Str) (tg : Tok) (hg : g.length ≤ 1000) (ht : tl.map (·.1) = ts.map strOf) (hts : Toks ts) (hT : (T0, listOf (strValues tl).toArray c0) ∈ news) :
    Spec w mean mg mb 89 1 100 news [.ref T0, .str g tg] (fun h₀ L h' r => ∃ E c vals, r = .ref E ∧ News h₀ L h' ((E, listOf vals.toArray c) :: news) ∧ IntsAre vals ((endsF g.cps.toList ts).map fun n : Nat => (n : Int))) :=
  ends_call T0 tl c0 ts g tg hg hT ht hts
theorem news_put {h₀ h : Heap} {L : Addr} {a b : Addr × Obj} {r : List (Addr × Obj)} (N : News h₀ L h (a :: r)) (hm : b ∈ r) : News h₀ L h (a :: b :: r) := fun p hp => by
  rcases List.mem_cons.mp hp with rfl | hp
  · exact N _ List.mem_cons_self
  rcases List.mem_cons.mp hp with rfl | hp
  · exact N _ (List.mem_cons_of_mem _ hm)
  exact N _ (List.mem_cons_of_mem _ hp)
theorem texts_at (xl : List (Str × Tok)) {i : Nat} (h : i < xl.length) : ∃ x tx, (strValues xl)[i]? = some (.str x tx) ∧ (xl.map (·.1))[i]? = some x := by
  rcases hq : xl[i]? with _ | ⟨x, tx⟩
  · rw [List.getElem?_eq_none_iff] at hq; omega
  · exact ⟨x, tx, by simp [strValues, hq], by simp [hq]⟩
theorem texts_last {xl : List (Str × Tok)} {n : Nat} (h : xl.length = n + 1) : ∃ x tx, (strValues xl).getLast? = some (.str x tx) ∧ (xl.map (·.1))[n]? = some x := by
  obtain ⟨x, tx, h1, h2⟩ := texts_at xl (i := n) (by omega)
  refine ⟨x, tx, ?_, h2⟩
  rw [List.getLast?_eq_getElem?, strValues_len, h]
  exact h1
theorem inner_len {t : Int} {i : Nat} {x : Str} (h : x.length ≤ 21) : (innerF t i x).length ≤ 46 := by
  have := fmtF_length kS x (Int.fmod (0 + (i : Int) + t) 2 != 0)
  have h1 : kS.length = 1 := by decide
  unfold innerF
  omega
theorem outer_len {t : Int} {i : Nat} {x : Str} (h : x.length ≤ 21) : (outerF t i x).length ≤ 98 := by
  have := fmtF_length lmS (innerF t i x) true
  have h1 : lmS.length = 3 := by decide
  have h2 := inner_len (t := t) (i := i) h
  unfold outerF
  omega
theorem rows_at {turn : Int} {xs : List Str} {n i : Nat} {its : List Value} {nw : List (Addr × Obj)} {x : Str} (h : RowsOf turn xs n its nw) (hi : i < n) (hx : xs[i]? = some x) (hl : x.length ≤ 21) :
    ∃ p t1 t2 iw ow, its[i]? = some (.ref p) ∧ (p, tupObj [.str iw t1, .str ow t2]) ∈ nw ∧ (∃ q, iw = fmtF (Str.ofString "k") x q ∧ ow = fmtF (Str.ofString "L_m") iw true) ∧ iw.length ≤ 46 ∧ ow.length ≤ 98 := by
  obtain ⟨p, t1, t2, e1, e2⟩ := h.2 i x hi hx
  exact ⟨p, t1, t2, _, _, e1, e2, ⟨_, rfl, rfl⟩, inner_len hl, outer_len hl⟩
theorem tok_len {x : Str} {tl : List (Str × Tok)} (h : tl.map (·.1) = (tok x.cps.toList).map strOf) (hx : x.length ≤ 21) : (strValues tl).length ≤ 42 := by
  have h1 := congrArg List.length h
  rw [List.length_map, List.length_map] at h1
  have h2 := tok_sum x.cps.toList
  have h3 : x.cps.toList.length = x.length := by simp [Str.length]
  rw [strValues_len]
  omega
theorem strValues_take (l : List (Str × Tok)) (n : Nat) : (strValues l).take n = strValues (l.take n) := by simp [strValues]
theorem strValues_drop (l : List (Str × Tok)) (n : Nat) : (strValues l).drop n = strValues (l.drop n) := by simp [strValues]
section
variable {prog : Program} {w : World} {A : Around} {E : Value → Shared → Prop} {s : Shared} {h₀ : Heap} {L : Addr} {m : Str → Option Value} {news : List (Addr × Obj)}
theorem eq_head {l b : Addr} {ts : List (List Nat)} {tl : List (Str × Tok)} {u : Tok} {Q : Value → Shared → Prop} (hl : s.heap.IsList l ((strValues tl).take 1).toArray) (hb : s.heap.IsList b #[.str (Str.ofString "...") u]) (ht : tl.map (·.1) = ts.map strOf) (hu : A.units < cLine) (h : Q (.bool (decide (ts.head? = some D3))) s) :
    wpAny (model prog w) A (compareOp .Eq (.ref l) (.ref b)) Q E s := by
  rw [strValues_take] at hl
  rw [← head_take] at h
  exact eq_dots hl hb (by rw [List.map_take, List.map_take, ht]) hu h
theorem eq_last {l b : Addr} {ts : List (List Nat)} {tl : List (Str × Tok)} {u : Tok} {Q : Value → Shared → Prop} (hl : s.heap.IsList l ((strValues tl).drop ((strValues tl).length - 1)).toArray) (hb : s.heap.IsList b #[.str (Str.ofString "...") u]) (ht : tl.map (·.1) = ts.map strOf) (hu : A.units < cLine) (h : Q (.bool (decide (ts.getLast? = some D3))) s) :
    wpAny (model prog w) A (compareOp .Eq (.ref l) (.ref b)) Q E s := by
  have hlen : tl.length = ts.length := by have := congrArg List.length ht; simpa using this
  rw [strValues_drop, strValues_len] at hl
  rw [← last_drop] at h
  exact eq_dots hl hb (by rw [List.map_drop, List.map_drop, ht, hlen]) hu h
theorem bool_join {x : Sem Value} (b : Bool) {Q : Value → Shared → Prop} (_F : Fr h₀ L s.heap m) (_N : News h₀ L s.heap news)
    (h : ∀ P0 : Value → Shared → Prop, (∀ h' tk', Fr h₀ L h' m → News h₀ L h' news → P0 (.bool b) { s with heap := h', toks := tk' }) → wpAny (model prog w) A x P0 E s)
    (hq : ∀ h' tk', Fr h₀ L h' m → News h₀ L h' news → Q (.bool b) { s with heap := h', toks := tk' }) : wpAny (model prog w) A x Q E s := h Q hq
end
theorem edge_true {ts : List (List Nat)} (h : ts.head? = some D3) : decide (ts.getLast? = some D3) = edgeB ts := by
  unfold edgeB; rw [decide_eq_true h, Bool.true_and]
theorem edge_false {ts : List (List Nat)} (h : ¬ ts.head? = some D3) : decide (ts.head? = some D3) = edgeB ts := by
  unfold edgeB; rw [decide_eq_false h, Bool.false_and]
theorem plain_of {gl : List (Str × Tok)} {ys : List Str} {n j : Nat} {x y G : Str} (h : gl.map (·.1) = (List.range (n + 1)).map fun k => Txt.join (Str.ofString "") (ys.take k)) (hy : (gl.map (·.1))[j]? = some y) (hG : (gl.map (·.1))[n]? = some G) :
    decide ((y.length : Int) ∈ (endsF G.cps.toList (tok x.cps.toList)).map fun n : Nat => (n : Int)) = mtB (tok x.cps.toList) y.cps.toList := by
  rw [h, List.getElem?_map] at hy hG
  obtain ⟨k, hk, rfl⟩ := Option.map_eq_some_iff.mp hy
  obtain ⟨k', hk', rfl⟩ := Option.map_eq_some_iff.mp hG
  rw [List.getElem?_range (by omega)] at hk'
  have hj : j < n + 1 := by
    rcases Nat.lt_or_ge j (n + 1) with h | h
    · exact h
    · rw [List.getElem?_eq_none (by rw [List.length_range]; omega)] at hk; cases hk
  rw [List.getElem?_range hj] at hk
  cases hk
  cases hk'
  obtain ⟨h1, h2⟩ := join_take_prefix ys (j := j) (N := n) (by omega)
  have e : ∀ z : Str, z.cps.toList.length = z.length := fun z => by simp [Str.length]
  have := plain_eq (G := (Txt.join (Str.ofString "") (ys.take n)).cps.toList) (tok_toks x.cps.toList) (y := (Txt.join (Str.ofString "") (ys.take j)).cps.toList) (by rw [e]; exact h1) (by rw [e, e]; exact h2)
  rw [e] at this
  exact this
theorem news_out {h₀ h : Heap} {L : Addr} {a b c d : Addr × Obj} {r : List (Addr × Obj)} (N : News h₀ L h (a :: b :: c :: d :: r)) : News h₀ L h (c :: r) := fun p hp => N p (by
  rcases List.mem_cons.mp hp with rfl | hp
  · exact List.mem_cons_of_mem _ (List.mem_cons_of_mem _ List.mem_cons_self)
  · exact List.mem_cons_of_mem _ (List.mem_cons_of_mem _ (List.mem_cons_of_mem _ (List.mem_cons_of_mem _ hp))))
def pick (z : Int) (a b : Str) : Str := if z.fmod 2 = 0 then a else b
theorem pick_len {z : Int} {a b : Str} (ha : a.length ≤ 46) (hb : b.length ≤ 98) : (pick z a b).length ≤ 98 := by
  unfold pick; split <;> omega
theorem law_pick (z : Int) (x y iw ow ig og : Str) (qw qg : Bool) (h1 : iw = fmtF (Str.ofString "k") x qw) (h2 : ow = fmtF (Str.ofString "L_m") iw true) (h3 : ig = fmtF (Str.ofString "k") y qg) (h4 : og = fmtF (Str.ofString "L_m") ig true) :
    mtB (tok (pick z iw ow).cps.toList) (pick z ig og).cps.toList = mtB (tok iw.cps.toList) ig.cps.toList := by
  unfold pick
  by_cases h : z.fmod 2 = 0
  · rw [if_pos h, if_pos h]
  · rw [if_neg h, if_neg h, h2, h4, h1, h3]
    exact law_outer x y qw qg
section
variable {prog : Program} {w : World} {A : Around} {E : Value → Shared → Prop} {s : Shared} {h₀ : Heap} {L : Addr} {m : Str → Option Value} {news : List (Addr × Obj)}
theorem tup_pick {value slice : Expr} {p : Addr} {a b : Str} {t1 t2 : Tok} {z : Int} {u : Tok} {Q : Value → Shared → Prop} (N : News h₀ L s.heap news) (hm : (p, tupObj [.str a t1, .str b t2]) ∈ news) (h : ∀ t, Q (.str (pick z a b) t) s)
    (hs : subscripted slice false (.ref p) (.int (z.fmod 2) u) = operate [.ref p, .int (z.fmod 2) u] (getItem (.ref p) (.int (z.fmod 2) u)) := by with_unfolding_all rfl) :
    wpAny (model prog w) A (subscriptTail value slice (.ref p) (.int (z.fmod 2) u)) Q E s := by
  have ht : IsTup s.heap p [Value.str a t1, .str b t2].toArray := ⟨_, N.get hm, rfl, _, rfl⟩
  have h0 : 0 ≤ z.fmod 2 := Int.fmod_nonneg_of_pos _ (by decide)
  have h1 : z.fmod 2 < 2 := Int.fmod_lt_of_pos _ (by decide)
  unfold pick at h
  generalize z.fmod 2 = k at h hs h0 h1 ⊢
  rcases (by omega : k = 0 ∨ k = 1) with rfl | rfl
  · exact item_tupleT (l := [Value.str a t1, .str b t2]) (j := 0) (x := .str a t1) ht (by decide) (by decide) rfl rfl (h t1) hs
  · exact item_tupleT (l := [Value.str a t1, .str b t2]) (j := 1) (x := .str b t2) ht (by decide) (by decide) rfl rfl (h t2) hs
end
theorem news_skip {h₀ h : Heap} {L : Addr} {a b : Addr × Obj} {r : List (Addr × Obj)} (N : News h₀ L h (a :: b :: r)) : News h₀ L h (a :: r) := fun p hp => N p (by
  rcases List.mem_cons.mp hp with rfl | hp
  · exact List.mem_cons_self
  · exact List.mem_cons_of_mem _ (List.mem_cons_of_mem _ hp))
theorem news_drop2 {h₀ h : Heap} {L : Addr} {a b : Addr × Obj} {r : List (Addr × Obj)} (N : News h₀ L h (a :: b :: r)) : News h₀ L h r := fun p hp => N p (List.mem_cons_of_mem _ (List.mem_cons_of_mem _ hp))
end
end Mine
namespace Mine
section
open PySem PySem.W PyProof.Rows
set_option maxRecDepth 100000
set_option maxHeartbeats 8000000
local macro_rules | `(tactic| walk_at "eval ListComp") => `(tactic| (k_here; refine stop_ ?_))
local macro_rules | `(tactic| walk_at "call ref") => `(tactic| (k_here; refine stop_ ?_))
local macro_rules | `(tactic| walk_at "exec Assign cons ListComp") => `(tactic| (k_here; refine stop_ ?_))
local macro_rules | `(tactic| walk_at "call builtin:len") => `(tactic| (k_here; (with_reducible show wpAny _ _ (call _ [Value.ref _]) _ _ _); refine stop_ ?_))
local macro_rules | `(tactic| walk_at "subscriptTail Name Slice ref ref") => `(tactic| (k_here; (with_reducible show wpAny _ _ (subscriptTail _ (Expr.Slice none (some (Expr.Name _ _)) none _) _ _) _ _ _); refine stop_ ?_))
local macro_rules | `(tactic| walk_at "subscriptTail Name Slice ref ref") => `(tactic| (k_here; (with_reducible show wpAny _ _ (subscriptTail (Expr.Name (Str.ofString "tokens") _) _ _ _) _ _ _); refine stop_ ?_))
local macro_rules | `(tactic| walk_at "eval BoolOp") => `(tactic| (k_here; (with_reducible show wpAny _ _ _ (fun _ _ => wpAny _ _ (storeName _ _ _) _ _ _) _ _); refine stop_ ?_))
local macro_rules | `(tactic| walk_at "compareOp In int ref") => `(tactic| (k_here; refine stop_ ?_))
local macro_rules | `(tactic| walk_at "subscriptTail Name UnaryOp ref int") => `(tactic| (k_here; refine stop_ ?_))
local macro_rules | `(tactic| walk_at "call builtin:str.join") => `(tactic| (k_here; refine stop_ ?_))
local macro_rules | `(tactic| walk_at "compareOp Eq ref ref") => `(tactic| (k_here; refine stop_ ?_))
local macro_rules | `(tactic| walk_at "exec For Name Call cons nil") => `(tactic| (k_here; refine stop_ ?_))
local macro_rules | `(tactic| walk_at "subscriptTail Name Name ref int") => `(tactic| (k_here; refine stop_ ?_))
local macro_rules | `(tactic| walk_at "binaryOp Mod int int") => `(tactic| (k_here; refine stop_ ?_))
theorem law_holds : PySem.Challenge.rw_pk0034_01.Holds := by
  w_top off
  refine hd ?_
  k_go0
  k_steps
  unfold Stop
  k_dflt (refine LCg.ListComp_U (F₀ := by k_asm) (by with_unfolding_all rfl) (by decide) (by rfl) (by decide) (by rfl) (postStop ?_))
  k_steps
  unfold Stop
  rename_i oc dc XC D1 ws1 h1 F1 N1 hI1 hC1 hL1 l1
  refine LCg.CompSrc.ledger rfl (by k_asm) N1 List.mem_cons_self ?_ fun gg => compU_inv (PairsK _ _) (pairsK_start N1) ?_ ?_
  · rw [List.size_toArray, hI1.length, hC1]; exact Nat.le_trans (Nat.min_le_left _ _) (by decide)
  · intro i5 v5 ys5 nw5 I5 oI5 C5 oC5 D5 m5 h5 tk5 E5 hi5 hP5 hK5 hns5 hx5 F5 N5 off5 ne5
    obtain ⟨e5, t5, rfl, he5⟩ := IntsAre.at hI1 i5 v5 (by simpa using hP5)
    k_steps
    (unfold Stop; k_dflt (refine' pair_call _ _ _ _ _ _ _ _ _ _ _ _ _ _ _ _ _ _ _ ?k1 ?k2 ?k3 ?k4 ?k5 ?k6 ?k7 ?k8 ?_; (case k1 => k_asm); (case k2 => k_asm); (case k3 => k_asm); (case k4 => k_asm); (case k5 => k_asm); (case k6 => first | exact rfl | assumption); (case k7 => ktr_room); (case k8 => ktr_units)))
    intro v6 h6 tk6 F6 N6
    obtain ⟨p6, x6, y6, tx6, ty6, rfl, N6, hx6, hy6, hp6⟩ := N6
    (try k_sweep); (try dsimp only); (try k_fold)
    k_steps
    refine LCg.CompEnd.intro (by k_asm) N6 ((p6, tupObj [.str x6 tx6, .str y6 ty6]) :: nw5) ?_ ⟨?_, off5⟩ ?_ ?_
    · intro p hp
      simp only [List.mem_cons] at hp ⊢
      rcases hp with h | h | h | h | h
      · exact .inr (.inl h)
      · exact .inr (.inr (.inl h))
      · exact .inr (.inr (.inr (.inl h)))
      · exact .inl h
      · exact .inr (.inr (.inr (.inr h)))
    · have q1 := hp6 _ List.mem_cons_self
      have q2 := hp6 _ (List.mem_cons_of_mem _ List.mem_cons_self)
      have q3 := hp6 _ (List.mem_cons_of_mem _ (List.mem_cons_of_mem _ List.mem_cons_self))
      exact ⟨Nat.ne_of_gt q1, Nat.ne_of_gt q2, Nat.ne_of_gt q3⟩
    · obtain ⟨ps5, tups5, hps5, hb5, ht5, hpa5⟩ := hK5
      exact .inr ⟨_, List.mem_cons_of_mem _ (hb5 _ List.mem_cons_self), rfl, _, rfl⟩
    · exact pairsK_turn (List.mem_cons_of_mem _ List.mem_cons_self) hK5 hx6 hy6 fun q hq => hp6 q (List.mem_cons_of_mem _ (List.mem_cons_of_mem _ (List.mem_cons_of_mem _ hq)))
  · intro ys5 nw5 hK5
    unfold LCg.FinE
    intro D5 h5 tk5 F5 N5 off5
    k_steps
    rename_i T1 hh1 l1 T2 hh2 l2 PL hh3 F3 N3 l3
    have lys5 : ys5.length ≤ 5 := by
      obtain ⟨ps5, tups5, hps5, hb5, ht5, hpa5⟩ := hK5
      rw [hpa5.1, hps5, List.size_toArray, hI1.length, hC1]; exact Nat.min_le_left _ _
    refine kmk_add_lit F3 N3 (News.isList N3 (by k_mem)) (News.isList N3 (by k_mem)) rfl ?_ (by rw [sizeLine_eq]; simp only [List.length_cons, List.length_nil]; omega)
    intro P6 h6 F6 N6 l6
    have lt5 := allLt_out l1.2
    have lt6 := allLt_out l2.2.2
    obtain ⟨pv, ps, tups, N7, hP7, hc7, hne7, hps7⟩ := pairs_pack hK5 (by rw [List.size_toArray, hI1.length, hC1]; exact Nat.min_le_left _ _) N6 (by k_mem) (by k_mem)
      (fun p hp => by repeat (first | exact hp | refine List.mem_cons_of_mem _ ?_)) l6 lt5 lt6
    clear N6 N3
    (try k_sweep); (try dsimp only); (try k_fold)
    k_steps
    k_dflt (refine' storeX_C ?sF ?sN ?sc ?sU ?sd ?_ ?s1 ?s2; (case s1 => rfl); (case s2 => rfl); (case sF => k_asm); (case sN => exact N7); (case sc => rfl); (case sU => exact UpdF.tail hne7 (UpdF.head hc7)); (case sd => exact dc); k_whole)
    intro h8 o8 F8 N8 d8
    clear N7
    (try dsimp only at N8); (try k_sweep); (try dsimp only); (try k_fold)
    k_steps
    unfold Stop
    k_dflt (refine LCg.Assign_ListComp_U (F₀ := by k_asm) (by rfl) (by with_unfolding_all rfl) (by with_unfolding_all rfl) (by decide) (by rfl) (by decide) (by rfl) (by rfl) (by rfl) (postStop ?_))
    k_steps
    unfold Stop
    refine lenL N8 List.mem_cons_self (by rw [hP7.1]; omega) ?_
    k_steps
    (try unfold Stop)
    rename_i r1 t1 u1 v1 hr9 F9 N9 k9
    refine LCg.CompSrc.range (a := 0) (b := (pv.length : Int) + 1) (n := pv.length + 1) rfl (by k_asm) N9 hr9 (small_one (by omega) (by omega) (by omega) (by rw [hP7.1]; omega)) (by rw [show (0 : Int) = ((0 : Nat) : Int) from rfl, rangeSize_nat]; omega) (Nat.le_trans (m := 1001) (by rw [hP7.1]; omega) (by decide)) fun gg => compU_inv (fun i ys nw => nw = (P6, W.listOf pv.toArray 0) :: (_, o8) :: tups ∧ ∃ l, ys = strValues l ∧ l.map (·.1) = (List.range i).map fun n => Txt.join (Str.ofString "") ((ps.map (·.1)).take n)) ⟨rfl, [], rfl, rfl⟩ ?_ ?_
    · intro i5 v5 ys5 nw5 I5 oI5 C5 oC5 D5 m5 h5 tk5 E5 hi5 hP5 hK5 hns5 hx5 F5 N5 off5 ne5
      obtain ⟨rfl, l5, rfl, hl5⟩ := hK5
      obtain ⟨t5, rfl⟩ := hP5
      k_steps
      unfold Stop
      k_dflt (refine LCp.ListComp_P (F₀ := by k_asm) (by with_unfolding_all rfl) (by decide) (by rfl) (by decide) (by rfl) (by rfl) (by decide) (postStop ?_))
      k_steps
      unfold Stop
      k_dflt (refine slice_upto (n := i5) (by k_asm) N5 (by k_mem) (by omega) (by rw [hP7.1]; omega) ?_)
      intro D4 h4 F4 N4 l4
      (try k_sweep); (try dsimp only); (try k_fold)
      k_steps
      refine LCp.SrcLP.ledger rfl (by k_asm) N4 List.mem_cons_self (by rw [List.size_toArray, sizeLine_eq, List.length_take, hP7.1]; omega) fun g4 => compP_inv (fun i ys nw => nw = (D4, W.listOf (List.take i5 pv).toArray 0) :: (I5, oI5) :: (C5, oC5) :: (D5, LCg.lst (strValues l5)) :: (P6, W.listOf pv.toArray 0) :: (_, o8) :: tups ∧ ∃ l, ys = strValues l ∧ l.map (·.1) = ((ps.map (·.1)).take i5).take i) ⟨rfl, [], rfl, rfl⟩ ?_ ?_
      · intro i3 v3 ys3 nw3 hi3 hP3 hK3
        obtain ⟨rfl, l3, rfl, hl3⟩ := hK3
        obtain ⟨p3, x3, y3, tx3, ty3, rfl, hm3, hx3, hy3⟩ := pairs_get hP7 (by simpa using hP3)
        refine ⟨p3, _, _, _, 0, rfl, List.mem_cons_of_mem _ (List.mem_cons_of_mem _ (List.mem_cons_of_mem _ (List.mem_cons_of_mem _ (List.mem_cons_of_mem _ (List.mem_cons_of_mem _ hm3))))), rfl, rfl, ?_⟩
        intro I3 oI3 C3 oC3 D3 m3 h3 tk3 E3 hn3 hx3' hy3' F3 N3 off3 ne3
        k_steps
        refine LCg.CompEnd.intro (by k_asm) (by k_asm) _ (fun p hp => hp) off3 (.inr ⟨_, List.mem_cons_self, rfl, _, rfl⟩) ⟨rfl, _, strValues_snoc _ _ _, ?_⟩
        rw [List.map_append, hl3, hx3]
        rfl
      · rintro ys3 nw3 ⟨rfl, l3, rfl, hl3⟩
        rw [take_take_min _ _ _ (by rw [List.size_toArray, List.length_take, List.length_map, hP7.1])] at hl3
        unfold LCg.FinE
        intro D3 h3 tk3 F3 N3 off3
        k_steps
        unfold Stop
        refine PySem.SC.join (News.isList N3 (List.Mem.head _)) hl3 (short_join (pairs_short hP7).1 (by rw [List.length_map]; exact hps7) i5) ?_
        intro t3 k3
        k_steps
        refine LCg.CompEnd.intro (by k_asm) N3 ((P6, W.listOf pv.toArray 0) :: (_, o8) :: tups) (fun p hp => List.mem_cons_of_mem _ (List.mem_cons_of_mem _ hp)) off5 trivial ⟨rfl, _, strValues_snoc _ _ _, ?_⟩
        rw [List.map_append, hl5, range_snoc]
        rfl
    · rintro ys5 nw5 ⟨rfl, wl, rfl, hwl⟩
      unfold LCg.FinA
      intro WW hW tkW FW NW offW
      k_steps
      unfold Stop
      k_dflt (refine LCg.Assign_ListComp_U (F₀ := by k_asm) (by rfl) (by with_unfolding_all rfl) (by with_unfolding_all rfl) (by decide) (by rfl) (by decide) (by rfl) (by rfl) (by rfl) (postStop ?_))
      k_steps
      unfold Stop
      refine lenL NW (List.mem_cons_of_mem _ List.mem_cons_self) (by rw [hP7.1]; omega) ?_
      k_steps
      (try unfold Stop)
      rename_i r1 t1 u1 v1 hr9 F9 N9 k9
      refine LCg.CompSrc.range (a := 0) (b := (pv.length : Int) + 1) (n := pv.length + 1) rfl (by k_asm) N9 hr9 (small_one (by omega) (by omega) (by omega) (by rw [hP7.1]; omega)) (by rw [show (0 : Int) = ((0 : Nat) : Int) from rfl, rangeSize_nat]; omega) (Nat.le_trans (m := 1001) (by rw [hP7.1]; omega) (by decide)) fun gg => compU_inv (fun i ys nw => nw = (WW, LCg.lst (strValues wl)) :: (P6, W.listOf pv.toArray 0) :: (_, o8) :: tups ∧ ∃ l, ys = strValues l ∧ l.map (·.1) = (List.range i).map fun n => Txt.join (Str.ofString "") ((ps.map (·.2)).take n)) ⟨rfl, [], rfl, rfl⟩ ?_ ?_
      · intro i5 v5 ys5 nw5 I5 oI5 C5 oC5 D5 m5 h5 tk5 E5 hi5 hP5 hK5 hns5 hx5 F5 N5 off5 ne5
        obtain ⟨rfl, l5, rfl, hl5⟩ := hK5
        obtain ⟨t5, rfl⟩ := hP5
        k_steps
        unfold Stop
        k_dflt (refine LCp.ListComp_P (F₀ := by k_asm) (by with_unfolding_all rfl) (by decide) (by rfl) (by decide) (by rfl) (by rfl) (by decide) (postStop ?_))
        k_steps
        unfold Stop
        k_dflt (refine slice_upto (n := i5) (by k_asm) N5 (by k_mem) (by omega) (by rw [hP7.1]; omega) ?_)
        intro D4 h4 F4 N4 l4
        (try k_sweep); (try dsimp only); (try k_fold)
        k_steps
        refine LCp.SrcLP.ledger rfl (by k_asm) N4 List.mem_cons_self (by rw [List.size_toArray, sizeLine_eq, List.length_take, hP7.1]; omega) fun g4 => compP_inv (fun i ys nw => nw = (D4, W.listOf (List.take i5 pv).toArray 0) :: (I5, oI5) :: (C5, oC5) :: (D5, LCg.lst (strValues l5)) :: (WW, LCg.lst (strValues wl)) :: (P6, W.listOf pv.toArray 0) :: (_, o8) :: tups ∧ ∃ l, ys = strValues l ∧ l.map (·.1) = ((ps.map (·.2)).take i5).take i) ⟨rfl, [], rfl, rfl⟩ ?_ ?_
        · intro i3 v3 ys3 nw3 hi3 hP3 hK3
          obtain ⟨rfl, l3, rfl, hl3⟩ := hK3
          obtain ⟨p3, x3, y3, tx3, ty3, rfl, hm3, hx3, hy3⟩ := pairs_get hP7 (by simpa using hP3)
          refine ⟨p3, _, _, _, 0, rfl, List.mem_cons_of_mem _ (List.mem_cons_of_mem _ (List.mem_cons_of_mem _ (List.mem_cons_of_mem _ (List.mem_cons_of_mem _ (List.mem_cons_of_mem _ (List.mem_cons_of_mem _ hm3)))))), rfl, rfl, ?_⟩
          intro I3 oI3 C3 oC3 D3 m3 h3 tk3 E3 hn3 hx3' hy3' F3 N3 off3 ne3
          k_steps
          refine LCg.CompEnd.intro (by k_asm) (by k_asm) _ (fun p hp => hp) off3 (.inr ⟨_, List.mem_cons_self, rfl, _, rfl⟩) ⟨rfl, _, strValues_snoc _ _ _, ?_⟩
          rw [List.map_append, hl3, hy3]
          rfl
        · rintro ys3 nw3 ⟨rfl, l3, rfl, hl3⟩
          rw [take_take_min _ _ _ (by rw [List.size_toArray, List.length_take, List.length_map, hP7.1])] at hl3
          unfold LCg.FinE
          intro D3 h3 tk3 F3 N3 off3
          k_steps
          unfold Stop
          refine PySem.SC.join (News.isList N3 (List.Mem.head _)) hl3 (short_join (pairs_short hP7).2 (by rw [List.length_map]; exact hps7) i5) ?_
          intro t3 k3
          k_steps
          refine LCg.CompEnd.intro (by k_asm) N3 ((WW, LCg.lst (strValues wl)) :: (P6, W.listOf pv.toArray 0) :: (_, o8) :: tups) (fun p hp => List.mem_cons_of_mem _ (List.mem_cons_of_mem _ hp)) off5 trivial ⟨rfl, _, strValues_snoc _ _ _, ?_⟩
          rw [List.map_append, hl5, range_snoc]
          rfl
      · rintro ys5 nw5 ⟨rfl, gl, rfl, hgl⟩
        unfold LCg.FinA
        intro GG hG tkG FG NG offG
        obtain ⟨hwn, hwx⟩ := texts_short hwl (pairs_short hP7).1 (by rw [List.length_map]; exact hps7)
        obtain ⟨hgn, hgx⟩ := texts_short hgl (pairs_short hP7).2 (by rw [List.length_map]; exact hps7)
        have hpn : pv.length ≤ 7 := by rw [hP7.1]; exact hps7
        have NG2 := news_sub2 NG
        clear NG
        k_steps
        (unfold Stop; k_dflt (refine' rows_call WW wl _ _ _ (by omega) (fun x hx => Nat.le_trans (hwx x hx) (by decide)) ?k0 _ _ _ _ _ _ _ _ _ _ _ _ _ _ _ _ _ ?k1 ?k2 ?k3 ?k4 ?k5 ?k6 ?k7 ?k8 ?_; (case k1 => k_asm); (case k2 => k_asm); (case k3 => k_asm); (case k4 => k_asm); (case k5 => k_asm); (case k0 => k_mem); (case k6 => first | exact rfl | assumption); (case k7 => ktr_room); (case k8 => ktr_units)))
        rintro v4 h4 tk4 F4 ⟨RW, cW, itsW, tupsW, rfl, N4, hRW⟩
        have N5 := news_drop1 N4
        clear N4
        simp only [List.cons_append, List.nil_append] at N5
        (try k_sweep); (try dsimp only); (try k_fold)
        k_steps
        (unfold Stop; k_dflt (refine' rows_call GG gl _ _ _ (by omega) (fun x hx => Nat.le_trans (hgx x hx) (by decide)) ?k0 _ _ _ _ _ _ _ _ _ _ _ _ _ _ _ _ _ ?k1 ?k2 ?k3 ?k4 ?k5 ?k6 ?k7 ?k8 ?_; (case k1 => k_asm); (case k2 => k_asm); (case k3 => k_asm); (case k4 => k_asm); (case k5 => k_asm); (case k0 => k_mem); (case k6 => first | exact rfl | assumption); (case k7 => ktr_room); (case k8 => ktr_units)))
        rintro v6 h6 tk6 F6 ⟨RG, cG, itsG, tupsG, rfl, N6, hRG⟩
        simp only [List.cons_append, List.nil_append] at N6
        (try k_sweep); (try dsimp only); (try k_fold)
        k_steps
        unfold Stop
        refine eq_nil (News.isList (by k_asm) (by k_mem)) (News.isList (by k_asm) (by k_mem)) (by ktr_units) ?_
        rw [show (itsW.toArray.size == 0) = false from beq_eq_false_iff_ne.mpr (by rw [List.size_toArray, hRW.1]; omega)]
        k_steps
        unfold Stop
        refine eq_nil (News.isList (by k_asm) (by k_mem)) (News.isList (by k_asm) (by k_mem)) (by ktr_units) ?_
        rw [show (itsG.toArray.size == 0) = false from beq_eq_false_iff_ne.mpr (by rw [List.size_toArray, hRG.1]; omega)]
        k_steps
        (unfold Stop; k_dflt (refine' fmt_call1 _ _ _ _ _ _ _ _ _ _ _ _ _ _ _ _ _ _ _ ?k1 ?k2 ?k3 ?k4 ?k5 ?k6 ?k7 ?k8 ?_; (case k1 => k_asm); (case k2 => k_asm); (case k3 => k_asm); (case k4 => k_asm); (case k5 => k_asm); (case k6 => first | exact rfl | assumption); (case k7 => ktr_room); (case k8 => ktr_units)))
        rintro v8 h8 tk8 F8 ⟨N8, t8, rfl⟩
        (try k_sweep); (try dsimp only); (try k_fold)
        k_steps
        unfold Stop
        have NB := news_drop2 N8
        clear N8
        refine For_G (by k_asm) LawJ (fun P0 hP0 => ?_) (by intro _ _; rfl)
        k_steps
        unfold Stop
        refine lenL (vs := strValues wl) (c := (strValues wl).length) NB (by k_mem) (by rw [strValues_len]; omega) ?_
        k_steps
        rename_i tI uI vI hrI FI NI kI
        refine hP0 _ _ ⟨_, 0, _, _, _, _, wl.length, _, _, rfl, rfl, FI, NI, hrI, small_one (by omega) (by omega) (by omega) (by rw [strValues_len]; omega), by rw [strValues_len, rangeSize_nat]; omega, lawJ_of (fun z _ _ _ _ _ _ _ _ _ => rfl), ?_, ?_⟩
        · intro I7 i7 t7 m7 news7 oI7 h7 tk7 hi7 hJ7 ho7 F7 N7 P1 hP1
          obtain ⟨rfl, u7, rfl⟩ := hJ7
          obtain ⟨x7, tx7, hx7, hm7⟩ := texts_at wl hi7
          have hxl7 : x7.length ≤ 21 := hwx x7 (List.mem_of_getElem? hm7)
          obtain ⟨p7, ti7, to7, iw7, ow7, hp7, hpm7, ⟨q7, hiw7, how7⟩, hil7, hol7⟩ := rows_at hRW hi7 hm7 hxl7
          have N7b := news_put N7 (List.mem_cons_of_mem _ (List.mem_cons_of_mem _ (List.mem_cons_of_mem _ (List.mem_cons_of_mem _ (List.mem_append_left _ hpm7)))))
          clear N7
          obtain ⟨gG, tgG, hgG, hmG⟩ := texts_last hgn
          have hgl7 : gG.length ≤ 21 := hgx gG (List.mem_of_getElem? hmG)
          k_steps
          unfold Stop
          refine item_at (vs := strValues wl) (c := (strValues wl).length) (by k_asm) (by k_mem) (Int.zero_add _) (by omega) hx7 ?_
          k_steps
          (unfold Stop; k_dflt (refine' tokens_call _ _ (by omega) _ _ _ _ _ _ _ _ _ _ _ _ _ _ _ _ _ ?k1 ?k2 ?k3 ?k4 ?k5 ?k6 ?k7 ?k8 ?_; (case k1 => k_asm); (case k2 => k_asm); (case k3 => k_asm); (case k4 => k_asm); (case k5 => k_asm); (case k6 => first | exact rfl | assumption); (case k7 => ktr_room); (case k8 => ktr_units)))
          rintro v6 h6 tk6 F6 ⟨TK, cT, tl, rfl, N6, htl, lT⟩
          (try k_sweep); (try dsimp only); (try k_fold)
          k_steps
          unfold Stop
          refine item_neg1 (vs := strValues gl) (c := (strValues gl).length) (by k_asm) (by k_mem) (by rw [strValues_len]; omega) hgG ?_
          k_steps
          (unfold Stop; k_dflt (refine' ends_call' TK tl _ (tok x7.cps.toList) _ _ (by omega) htl (tok_toks _) ?k0 _ _ _ _ _ _ _ _ _ _ _ _ _ _ _ _ _ ?k1 ?k2 ?k3 ?k4 ?k5 ?k6 ?k7 ?k8 ?_; (case k1 => k_asm); (case k2 => k_asm); (case k3 => k_asm); (case k4 => k_asm); (case k5 => k_asm); (case k0 => k_mem); (case k6 => first | exact rfl | assumption); (case k7 => ktr_room); (case k8 => ktr_units)))
          rintro v6 h6 tk6 F6 ⟨EE, cE, evs, rfl, N6, hev⟩
          (try k_sweep); (try dsimp only); (try k_fold)
          k_steps
          unfold Stop
          have htn := tok_len htl hxl7
          refine bool_join (edgeB (tok x7.cps.toList)) (by k_asm) (by k_asm) (fun P2 hP2 => ?_) (fun h5 tk5 F5 N5 => ?_)
          · k_steps
            unfold Stop
            k_dflt (refine slice_upto (vs := strValues tl) (c := cT) (n := 1) (by k_asm) (by k_asm) (by k_mem) (by omega) (by omega) ?_)
            intro D4 h4 F4 N4 l4
            (try k_sweep); (try dsimp only); (try k_fold)
            k_steps
            unfold Stop
            refine eq_head (tl := tl) (News.isList (by k_asm) (by k_mem)) (News.isList (by k_asm) (by k_mem)) htl (by ktr_units) ?_
            k_steps
            · unfold Stop
              k_dflt (refine slice_last (vs := strValues tl) (c := cT) (by k_asm) (by k_asm) (by k_mem) (by omega) ?_)
              intro D3 h3 F3 N3 l3
              (try k_sweep); (try dsimp only); (try k_fold)
              k_steps
              unfold Stop
              refine eq_last (tl := tl) (News.isList (by k_asm) (by k_mem)) (News.isList (by k_asm) (by k_mem)) htl (by ktr_units) ?_
              k_steps
              rename_i N1 _
              rw [edge_true (by assumption)]
              exact hP2 _ _ (by k_asm) fun p hp => N1 p (List.mem_cons_of_mem _ (List.mem_cons_of_mem _ (List.mem_cons_of_mem _ (List.mem_cons_of_mem _ hp))))
            · rename_i N1 _ _
              rw [edge_false (by assumption)]
              exact hP2 _ _ (by k_asm) fun p hp => N1 p (List.mem_cons_of_mem _ (List.mem_cons_of_mem _ hp))
          · (try k_sweep); (try dsimp only); (try k_fold)
            k_steps
            unfold Stop
            refine item_at (vs := itsW) (c := cW) (by k_asm) (by k_mem) (Int.zero_add _) (by omega) hp7 ?_
            k_steps
            unfold Stop
            refine For_G (by k_asm) LawI (fun P3 hP3 => ?_) (by intro _ _; rfl)
            k_steps
            unfold Stop
            refine lenL (vs := strValues gl) (c := (strValues gl).length) (by k_asm) (by k_mem) (by rw [strValues_len]; omega) ?_
            k_steps
            rename_i tJ uJ vJ hrJ FJ NJ kJ
            refine hP3 _ _ ⟨_, 0, _, _, _, _, gl.length, _, _, rfl, rfl, FJ, NJ, hrJ, small_one (by omega) (by omega) (by omega) (by rw [strValues_len]; omega), by rw [strValues_len, rangeSize_nat]; omega, lawI_of (fun z _ _ _ _ => rfl), ?_, ?_⟩
            · intro I8 j8 t8 m8 news8 oI8 h8 tk8 hj8 hJ8 ho8 F8 N8 P4 hP4
              obtain ⟨rfl, u8, rfl⟩ := hJ8
              obtain ⟨y8, ty8, hy8, hm8⟩ := texts_at gl hj8
              have hyl8 : y8.length ≤ 21 := hgx y8 (List.mem_of_getElem? hm8)
              obtain ⟨p8, ti8, to8, ig8, og8, hp8, hpm8, ⟨q8, hig8, hog8⟩, hil8, hol8⟩ := rows_at hRG hj8 hm8 hyl8
              have hplain := plain_of (x := x7) hgl hm8 hmG
              have N8b := news_put N8 (List.mem_cons_of_mem _ (List.mem_cons_of_mem _ (List.mem_cons_of_mem _ (List.mem_cons_of_mem _ (List.mem_cons_of_mem _ (List.mem_cons_of_mem _ (List.mem_cons_of_mem _ (List.mem_cons_of_mem _ (List.mem_append_right _ hpm8)))))))))
              clear N8
              k_steps
              unfold Stop
              refine item_at (vs := strValues gl) (c := (strValues gl).length) (by k_asm) (by k_mem) (Int.zero_add _) (by omega) hy8 ?_
              k_steps
              unfold Stop
              refine in_ints (vs := evs) (News.isList (by k_asm) (by k_mem)) hev ?_
              rw [hplain]
              k_steps
              unfold Stop
              refine item_at (vs := strValues wl) (c := (strValues wl).length) (by k_asm) (by k_mem) (Int.zero_add _) (by omega) hx7 ?_
              k_steps
              unfold Stop
              refine item_at (vs := strValues gl) (c := (strValues gl).length) (by k_asm) (by k_mem) (Int.zero_add _) (by omega) hy8 ?_
              k_steps
              (unfold Stop; k_dflt (refine' ell_call _ _ _ _ (by omega) (by omega) _ _ _ _ _ _ _ _ _ _ _ _ _ _ _ _ _ ?k1 ?k2 ?k3 ?k4 ?k5 ?k6 ?k7 ?k8 ?_; (case k1 => k_asm); (case k2 => k_asm); (case k3 => k_asm); (case k4 => k_asm); (case k5 => k_asm); (case k6 => first | exact rfl | assumption); (case k7 => ktr_room); (case k8 => ktr_units)))
              rintro v6 h6 tk6 F6 ⟨N6, rfl⟩
              (try k_sweep); (try dsimp only); (try k_fold)
              k_steps
              · exfalso
                have hne : (mtB (tok x7.cps.toList) y8.cps.toList != mtB (tok x7.cps.toList) y8.cps.toList) = true := by assumption
                simp at hne
              · unfold Stop
                refine item_at (vs := itsG) (c := cG) (by k_asm) (by k_mem) (Int.zero_add _) (by omega) hp8 ?_
                k_steps
                unfold Stop
                refine item_at (vs := strValues wl) (c := (strValues wl).length) (by k_asm) (by k_mem) (Int.zero_add _) (by omega) hx7 ?_
                k_steps
                unfold Stop
                refine item_at (vs := strValues gl) (c := (strValues gl).length) (by k_asm) (by k_mem) (Int.zero_add _) (by omega) hy8 ?_
                k_steps
                (unfold Stop; k_dflt (refine' due_call _ _ _ _ _ _ _ _ _ _ _ _ _ _ _ _ _ _ _ _ _ _ _ _ _ ?k1 ?k2 ?k3 ?k4 ?k5 ?k6 ?k7 ?k8 ?_; (case k1 => k_asm); (case k2 => k_asm); (case k3 => k_asm); (case k4 => k_asm); (case k5 => k_asm); (case k6 => first | exact rfl | assumption); (case k7 => ktr_room); (case k8 => ktr_units)))
                rintro v6 h6 tk6 F6 ⟨N6, hv6⟩
                have hv6' : v6 = Value.bool (mtB (tok iw7.cps.toList) ig8.cps.toList) := hv6.trans (congrArg Value.bool (by rw [hiw7, hig8]; exact (law_inner _ _ _ _).symm))
                subst hv6'
                clear hv6
                (try k_sweep); (try dsimp only); (try k_fold)
                k_steps
                unfold Stop
                refine item_at (vs := itsW) (c := cW) (by k_asm) (by k_mem) (Int.zero_add _) (by omega) hp7 ?_
                k_steps
                unfold Stop
                refine mod_int' (by decide) ?_
                refine tup_pick (a := iw7) (b := ow7) (by k_asm) (by k_mem) (fun tw => ?_)
                k_steps
                unfold Stop
                refine item_at (vs := itsG) (c := cG) (by k_asm) (by k_mem) (Int.zero_add _) (by omega) hp8 ?_
                k_steps
                unfold Stop
                refine mod_int' (by decide) ?_
                refine tup_pick (a := ig8) (b := og8) (by k_asm) (by k_mem) (fun tg => ?_)
                k_steps
                (unfold Stop; k_dflt (refine' ell_call _ _ _ _ (Nat.le_trans (pick_len hil7 hol7) (by decide)) (Nat.le_trans (pick_len hil8 hol8) (by decide)) _ _ _ _ _ _ _ _ _ _ _ _ _ _ _ _ _ ?k1 ?k2 ?k3 ?k4 ?k5 ?k6 ?k7 ?k8 ?_; (case k1 => k_asm); (case k2 => k_asm); (case k3 => k_asm); (case k4 => k_asm); (case k5 => k_asm); (case k6 => first | exact rfl | assumption); (case k7 => ktr_room); (case k8 => ktr_units)))
                rintro v6 h6 tk6 F6 ⟨N6, hv6⟩
                have hv6' : v6 = Value.bool (mtB (tok iw7.cps.toList) ig8.cps.toList) := hv6.trans (congrArg Value.bool (law_pick _ _ _ _ _ _ _ _ _ hiw7 how7 hig8 hog8))
                subst hv6'
                clear hv6
                (try k_sweep); (try dsimp only); (try k_fold)
                k_steps
                · exfalso
                  have hne : (mtB (tok iw7.cps.toList) ig8.cps.toList != mtB (tok iw7.cps.toList) ig8.cps.toList) = true := by assumption
                  simp at hne
                · exact hP4 _ _ (ForStep.next (by k_asm) (news_skip N6) ho8 trivial (lawI_of fun z h1 h2 h3 h4 => by simp only [if_neg h1, if_neg h2, if_neg h3, if_neg h4]))
            · intro m8 news8 h8 tk8 hJ8 F8 N8
              obtain ⟨rfl, u8, rfl⟩ := hJ8
              k_steps
              refine hP1 _ _ (ForStep.next (by k_asm) (news_out N8) ho7 trivial (lawJ_of fun z h1 h2 h3 h4 h5 h6 h7 h8 h9 => by simp only [if_neg h1, if_neg h2, if_neg h3, if_neg h4, if_neg h5, if_neg h6, if_neg h7, if_neg h8, if_neg h9]))
        · intro m7 news7 h7 tk7 hJ7 F7 N7
          obtain ⟨rfl, u7, rfl⟩ := hJ7
          k_steps
end
end Mine
set_option maxRecDepth 100000 in
set_option maxHeartbeats 8000000 in
theorem PySem.Challenge.cw_pk0034_01_holds : PySem.Challenge.rw_pk0034_01.Holds := by
  exact Mine.law_holds
